/-
  A matrix of one column as a list.
-/
import Derived.Test.YtojicbajcebjjaaGreatDoorSg
namespace Go.Proofs.YtojicbajcebjjaaGreatDoor
open Go.RowKit
attribute [local go_sem] run_store_float

theorem add_at (b o j : Nat) : (⟨b, o, none⟩ : Addr).add j = ⟨b, o + j, none⟩ := by unfold Addr.add; split <;> simp_all
theorem nf_one (z : Int) : ∀ u ∈ nf z, u.oneCell' = true := by
  intro u hu
  simp [nf] at hu
  rcases hu with rfl | rfl | rfl | rfl | rfl | rfl | rfl | rfl <;> rfl

set_option maxRecDepth 100000 in
set_option maxHeartbeats 3200000 in
theorem toList_col (lo : Nat) (A : Option Addr) (len c p q : Nat) (l : List Int) (w : World) (hlen : l.length = len) (hl : len ≤ 1000) (hcol : Col w lo w.heap.size 73 A nf l) :
    Calls Tryz.prog 101 #[fm A len c p q] w fun e w' => ∃ A' c', e = .returned (.slice A' len c') ∧ Rd w' w'.heap.size A' (l.flatMap nf) ∧ Below w.heap.size w w' := by
  obtain ⟨i0, hi, hz0, hz1, hz2⟩ := info_parts Tryz.info73
  have HL : Hid (l.length = len) := hlen
  clear hlen
  unfold fm
  go_enter Tryz.func101, Tryz.ntmps101
  go_wp2_with fail
  have bz := (Below.refl w.heap.size w).alloc (Nat.le_refl _) (.cells #[.string ⟨#[]⟩, .float .f64 0, .string ⟨#[]⟩, .slice none 0 0, .slice A len c, .bool false, .string ⟨#[]⟩, .int .u8 4, .pointer (some ⟨p, 0, none⟩), .pointer (some ⟨q, 0, none⟩)] 73)
  have hcol0 := hcol.below bz (Nat.le_refl _)
  have s0 : w.heap.size ≤ (w.alloc (.cells #[.string ⟨#[]⟩, .float .f64 0, .string ⟨#[]⟩, .slice none 0 0, .slice A len c, .bool false, .string ⟨#[]⟩, .int .u8 4, .pointer (some ⟨p, 0, none⟩), .pointer (some ⟨q, 0, none⟩)] 73)).heap.size := by simp
  generalize w.alloc (.cells #[.string ⟨#[]⟩, .float .f64 0, .string ⟨#[]⟩, .slice none 0 0, .slice A len c, .bool false, .string ⟨#[]⟩, .int .u8 4, .pointer (some ⟨p, 0, none⟩), .pointer (some ⟨q, 0, none⟩)] 73) = W0 at *
  clear hcol
  go_loopw [3, 13] (fun v i wr => ∃ k : Nat, k ≤ len ∧ i = .int .i64 k ∧ wr.ownsRow W0.heap.size 73 10 v k ((l.take k).flatMap nf) ∧ Below W0.heap.size W0 wr)
    (fun _ i _ => len - (intOf i).toNat)
  case atStart => exact ⟨0, Nat.zero_le _, rfl, World.ownsRow_nil _ _ _ _, Below.refl _ _⟩
  case round =>
    obtain ⟨k, hk, rfl, hown, hbel⟩ := hrel
    have hsz := hbel.size
    by_cases hlt : k < len
    · obtain ⟨z, hz⟩ : ∃ z, l[k]? = some z := ⟨_, List.getElem?_eq_getElem (by rw [HL.out]; exact hlt)⟩
      obtain ⟨b, o, b1, o1, c1, rfl, hb, hrow, hb1, hc⟩ := (hcol0.below hbel (by omega)).at_ hz
      have hfl := take_succ_flat nf l k (by rw [HL.out]; exact hlt)
      obtain ⟨hk', hz'⟩ := List.getElem?_eq_some_iff.1 hz
      rw [hz'] at hfl
      have HF := Lib.hid hfl
      have HO := Lib.hid hown
      have HB := Lib.hid hbel
      have HC : Hid (∀ j u, (nf z)[j]? = some u → wr.cell? ((⟨b1, o1, none⟩ : Addr).add j) = some u) := Lib.hid (fun j u hu => by rw [add_at]; exact hc j u hu)
      clear hz hz' hfl hown hbel hc
      go_wp2_with (at_builtin; refine wpList_append_own _ rfl (.tmp 17) (.tmp 18) 68 rfl W0.heap.size 73 i0 _ 10 136 Tryz.underlying68 hi hz0 hz1 hz2 rfl (by decide) _ k _ rfl HO.out ⟨b1, o1, none⟩ 1 c1 (nf z) rfl rfl ?c1 ?c2 ?c3 ?c4 ?c5 ?_)
      case c1 => exact HC.out
      case c2 => exact nf_one z
      case c3 => unfold maxLen; omega
      case c4 => omega
      case c5 => omega
      intro v' w3 hown3 hgrow _
      have hbel3 := below_grown HB.out hsz HO.out (Nat.le_refl _) hgrow
      rw [← HF.out] at hown3
      clear HO HB HC HF hgrow
      go_wp2
      go_roundw
      case rel => exact ⟨k + 1, by omega, by go_num, hown3, hbel3⟩
      case measure => simp [intOf]; omega
    · have hke : k = len := by omega
      subst hke
      rw [← HL.out, List.take_of_length_le (Nat.le_refl _), HL.out] at hown
      obtain ⟨A1, c1, rfl, hR1⟩ := Rd.of_own hown
      have be := bz.trans (hbel.mono s0)
      clear hown
      go_wp2
      go_ret
      exact ⟨A1, c1, rfl, hR1, be⟩

def pairSum (op : Int → Int → Int) : List Int → List Int → Int
  | x :: a, y :: b => op x y + pairSum op a b
  | _, _ => 0
theorem pairSum_succ (op : Int → Int → Int) : ∀ (a b : List Int) (k : Nat) (x y : Int), a[k]? = some x → b[k]? = some y → pairSum op (a.take (k + 1)) (b.take (k + 1)) = pairSum op (a.take k) (b.take k) + op x y
  | [], _, k, x, y, h, _ => by simp at h
  | _ :: _, [], k, x, y, _, h => by simp at h
  | x0 :: a, y0 :: b, 0, x, y, h1, h2 => by
    simp at h1 h2
    subst h1 h2
    simp [pairSum]
  | x0 :: a, y0 :: b, k + 1, x, y, h1, h2 => by
    simp at h1 h2
    have := pairSum_succ op a b k x y h1 h2
    simp only [List.take_succ_cons, pairSum]
    rw [this]
    omega
theorem pairSum_bd (op : Int → Int → Int) (m : Int) (hm : ∀ x y, -1000 < x ∧ x < 1000 → -1000 < y ∧ y < 1000 → -m ≤ op x y ∧ op x y ≤ m) : ∀ (a b : List Int), (∀ z ∈ a, -1000 < z ∧ z < 1000) → (∀ z ∈ b, -1000 < z ∧ z < 1000) → ∀ k : Nat, -(m * k) ≤ pairSum op (a.take k) (b.take k) ∧ pairSum op (a.take k) (b.take k) ≤ m * k
  | [], b, _, _, k => by
    have h0 := hm 0 0 (by omega) (by omega)
    have : 0 ≤ m * (k : Int) := Int.mul_nonneg (by omega) (by omega)
    simp [pairSum]; omega
  | _ :: _, [], _, _, k => by
    have h0 := hm 0 0 (by omega) (by omega)
    have : 0 ≤ m * (k : Int) := Int.mul_nonneg (by omega) (by omega)
    cases k with
    | zero => simp [pairSum]
    | succ n => simp only [List.take_succ_cons, List.take_nil, pairSum]; omega
  | x :: a, y :: b, ha, hb, 0 => by simp [pairSum]
  | x :: a, y :: b, ha, hb, k + 1 => by
    have ih := pairSum_bd op m hm a b (fun z hz => ha z (by simp [hz])) (fun z hz => hb z (by simp [hz])) k
    have h := hm x y (ha x (by simp)) (hb y (by simp))
    simp only [List.take_succ_cons, pairSum]
    have e : m * ((k + 1 : Nat) : Int) = m * (k : Int) + m := by rw [Int.natCast_add, Int.mul_add]; simp
    rw [e]
    omega
end Go.Proofs.YtojicbajcebjjaaGreatDoor
