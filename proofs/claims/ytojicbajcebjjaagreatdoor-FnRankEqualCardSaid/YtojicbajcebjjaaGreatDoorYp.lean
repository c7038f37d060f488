/-
  Plain law: in a sorted list the first place of a number is the count of those ahead of it.
-/
import Derived.Test.YtojicbajcebjjaaGreatDoorYa
namespace Go.Proofs.YtojicbajcebjjaaGreatDoor
open Go.Sort

/-- how many numbers stand ahead of x, ascending or descending -/
def rk (up : Bool) (l : List Int) (x : Int) : Nat := l.countP fun z => if up then decide (z < x) else decide (x < z)
theorem rk_perm {up : Bool} {a b : List Int} (h : a.Perm b) (x : Int) : rk up a x = rk up b x := h.countP_eq _
theorem rk_le (up : Bool) (l : List Int) (x : Int) : rk up l x ≤ l.length := List.countP_le_length

theorem rk_at (up : Bool) (x : Int) : ∀ (D : List Int), D.Pairwise (fun a b => if up then a ≤ b else b ≤ a) → x ∈ D → D[rk up D x]? = some x ∧ ∀ j y, j < rk up D x → D[j]? = some y → y ≠ x
  | [], _, h => by simp at h
  | a :: t, hp, hx => by
    rw [List.pairwise_cons] at hp
    obtain ⟨ha, ht⟩ := hp
    by_cases hax : (if up then decide (a < x) else decide (x < a)) = true
    · have hne : a ≠ x := by
        intro e
        subst e
        cases up <;> simp at hax
      have hxt : x ∈ t := by
        rcases List.mem_cons.1 hx with h | h
        · exact absurd h.symm hne
        · exact h
      obtain ⟨h1, h2⟩ := rk_at up x t ht hxt
      have e : rk up (a :: t) x = rk up t x + 1 := by
        unfold rk
        rw [List.countP_cons_of_pos (by exact hax)]
      rw [e]
      refine ⟨by simpa using h1, fun j y hj hy => ?_⟩
      cases j with
      | zero => simp at hy; omega
      | succ j => exact h2 j y (by omega) (by simpa using hy)
    · have hall : ∀ z ∈ t, ¬ (if up then decide (z < x) else decide (x < z)) = true := by
        intro z hz hzx
        have := ha z hz
        cases up <;> simp at hax hzx this <;> omega
      have hxa : a = x := by
        rcases List.mem_cons.1 hx with h | h
        · exact h.symm
        · have := ha x h
          cases up <;> simp at hax this <;> omega
      have e : rk up (a :: t) x = 0 := by
        unfold rk
        rw [List.countP_cons_of_neg (by exact hax), List.countP_eq_zero]
        exact fun z hz => hall z hz
      rw [e]
      exact ⟨by simp [hxa], fun j y hj => by omega⟩

/-- whole numbers as elements of the sort -/
def toK (z : Int) : FK := Fin.ofNat 401 (z + 200).toNat
theorem kz_toK {z : Int} (h : -200 ≤ z ∧ z ≤ 200) : kz (toK z) = z := by
  unfold kz toK
  simp [Fin.ofNat]
  omega
theorem kf_toK {z : Int} (h : -200 ≤ z ∧ z ≤ 200) : kf (toK z) = fi z := by rw [kf_eq, kz_toK h]
def arrK (l : List Int) : Array FK := (l.map toK).toArray
theorem arrK_size (l : List Int) : (arrK l).size = l.length := by simp [arrK]
def valK (d : Array FK) : List Int := d.toList.map kz
theorem valK_bd (d : Array FK) : ∀ z ∈ valK d, -200 ≤ z ∧ z ≤ 200 := by
  intro z hz
  unfold valK at hz
  obtain ⟨y, _, rfl⟩ := List.mem_map.1 hz
  have := y.isLt
  unfold kz
  omega
theorem valK_len (d : Array FK) : (valK d).length = d.size := by simp [valK]
theorem valK_arrK {l : List Int} (h : ∀ z ∈ l, -200 ≤ z ∧ z ≤ 200) : valK (arrK l) = l := by
  unfold valK arrK
  simp
  conv => rhs; rw [← List.map_id l]
  exact List.map_congr_left fun z hz => kz_toK (h z hz)
theorem valK_perm {d d' : Array FK} (h : PermIn 0 d.size d d') : (valK d').Perm (valK d) := by
  obtain ⟨h1, _, h3⟩ := h
  rw [show d.extract 0 d.size = d by simp, show d'.extract 0 d.size = d' by rw [← h1]; simp] at h3
  exact h3.map kz
theorem valK_get {d : Array FK} {j : Nat} (hj : j < d.size) : (valK d)[j]? = some (kz d[j]!) := by
  simp [valK, hj]
theorem valK_asc {d : Array FK} (h : SortedIn ltK 0 d.size d) : (valK d).Pairwise (fun a b => if true then a ≤ b else b ≤ a) := by
  rw [List.pairwise_iff_getElem]
  intro i j hi hj hij
  rw [valK_len] at hi hj
  have e1 := valK_get hi
  have e2 := valK_get hj
  rw [List.getElem?_eq_some_iff] at e1 e2
  obtain ⟨_, e1⟩ := e1
  obtain ⟨_, e2⟩ := e2
  have := h i j (Nat.zero_le _) hij hj
  simp [ltK] at this
  simp only [if_true]
  rw [e1, e2]
  omega
theorem valK_desc {d : Array FK} (h : SortedIn gtK 0 d.size d) : (valK d).Pairwise (fun a b => if false then a ≤ b else b ≤ a) := by
  rw [List.pairwise_iff_getElem]
  intro i j hi hj hij
  rw [valK_len] at hi hj
  have e1 := valK_get hi
  have e2 := valK_get hj
  rw [List.getElem?_eq_some_iff] at e1 e2
  obtain ⟨_, e1⟩ := e1
  obtain ⟨_, e2⟩ := e2
  have := h i j (Nat.zero_le _) hij hj
  simp [gtK, ltK] at this
  simp
  rw [e1, e2]
  omega

end Go.Proofs.YtojicbajcebjjaaGreatDoor
