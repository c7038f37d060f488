/-
  The walks of the law's small helpers: numbers as values of the reference and of the program.
-/
import Derived.Test.YtojicbajcebjjaaGreatDoorW
import Derived.Test.YtojicbajcebjjaaGreatDoorFl
namespace Go.Proofs.YtojicbajcebjjaaGreatDoor
open Go.RowKit
attribute [local go_sem] run_store_float

/-- the residue that the law makes of any number -/
def small (n most : Int) : Int := n % (most + 1)

theorem small_bd (n most : Int) (h : 0 ≤ most) : 0 ≤ small n most ∧ small n most ≤ most := by
  unfold small
  have := Int.emod_nonneg n (show most + 1 ≠ 0 by omega)
  have := Int.emod_lt_of_pos n (show 0 < most + 1 by omega)
  omega

theorem small_eq (n most : Int) (h0 : 0 ≤ most) (h1 : most ≤ 1000000) : (wrap64 (wrap64 (n.tmod (most + 1) + most) + 1)).tmod (most + 1) = small n most := by
  have b1 := Int.tmod_lt_of_pos n (show 0 < most + 1 by omega)
  have b2 : -(most + 1) < n.tmod (most + 1) := by
    have := Int.tmod_lt_of_pos (-n) (show 0 < most + 1 by omega)
    rw [Int.neg_tmod] at this; omega
  have e1 : wrap64 (n.tmod (most + 1) + most) = n.tmod (most + 1) + most := IntWalk.wrap64_in _ ⟨by omega, by omega⟩
  rw [e1, IntWalk.wrap64_in _ ⟨by omega, by omega⟩]
  rw [Int.tmod_eq_emod_of_nonneg (by omega)]
  unfold small
  have e2 : n.tmod (most + 1) + most + 1 = n.tmod (most + 1) + (most + 1) := by omega
  rw [e2, Int.add_emod_right]
  have e3 := Int.tmod_add_mul_tdiv n (most + 1)
  have e4 : n.tmod (most + 1) = n - (most + 1) * n.tdiv (most + 1) := by omega
  rw [e4, Int.sub_mul_emod_self_left]

set_option maxHeartbeats 400000 in
theorem combSmall_any (n most : Int) (w : World) (h0 : 0 ≤ most) (h1 : most ≤ 1000000) (hn : -9223372036854775808 ≤ n ∧ n ≤ 9223372036854775807) :
    Calls Tryz.prog 20 #[.int .i64 n, .int .i64 most] w fun e w' => e = .returned (.int .i64 (small n most)) ∧ w = w' := by
  obtain ⟨hn1, hn2⟩ := hn
  go_enter Tryz.func20, Tryz.ntmps20
  go_wp2
  go_ret
  exact ⟨ret_int (small_eq n most h0 h1), rfl⟩

set_option maxHeartbeats 400000 in
theorem int_any (n : Int) (w : World) (h0 : n ≤ 99999999999) (h1 : -99999999999 ≤ n) :
    Calls Tryz.prog 24 #[.int .i64 n] w fun e w' => e = .returned (.agg #[.int .i64 1, .int .i64 (n), .int .i64 1, .string ⟨#[]⟩, .slice none 0 0]) ∧ Below w.heap.size w w' := by
  go_enter Tryz.func24, Tryz.ntmps24
  go_wp2
  exact bodyPost_ret (v := (.agg #[.int .i64 1, .int .i64 (n), .int .i64 1, .string ⟨#[]⟩, .slice none 0 0])) (by simp [results, Tryz.results24, go_sem]) rfl ⟨rfl, (Below.refl _ _).alloc (Nat.le_refl _) _⟩

theorem quo_one (n : Int) (h0 : n ≤ 99999999999) (h1 : -99999999999 ≤ n) : floatBits .quo .f64 (floatOfInt .f64 n) (floatOfInt .f64 1) = some (fi n) :=
  div_fi n 1 n (by omega) (by omega) (by omega) (by omega)

set_option maxHeartbeats 400000 in
theorem of_num (n : Int) (w : World) (h0 : n ≤ 99999999999) (h1 : -99999999999 ≤ n) :
    Calls Tryz.prog 41 #[(.agg #[.int .i64 1, .int .i64 (n), .int .i64 1, .string ⟨#[]⟩, .slice none 0 0])] w fun e w' => e = .returned (.agg #[.int .i64 1, .float .f64 (fi n), .string ⟨#[]⟩, .slice none 0 0]) ∧ Below w.heap.size w w' := by
  have hdiv := fun (w : World) => run_float_arith (P := Tryz.prog) w .quo 33 .f64 _ _ _ (quo_one n h0 h1)
  go_enter Tryz.func41, Tryz.ntmps41
  go_wp2
  exact bodyPost_ret (v := (.agg #[.int .i64 1, .float .f64 (fi n), .string ⟨#[]⟩, .slice none 0 0])) (by simp [results, Tryz.results41, go_sem]) rfl ⟨rfl, (((Below.refl _ _).alloc (Nat.le_refl _) _).alloc (by simp) _).alloc (by simp; omega) _⟩

theorem Tryz.info36 : (Tryz.prog.info? 36).map (fun i => (i.zero, i.size, i.bytes)) = some (some (.agg #[.int .i64 0, .float .f64 0, .string ⟨#[]⟩, .slice none 0 0]), 4, 56) := by kernel_rfl

/-- a number's cells -/
def nv (n : Int) : List Value := [.int .i64 1, .float .f64 (fi n), .string ⟨#[]⟩, .slice none 0 0]
theorem nv_len (n : Int) : (nv n).length = 4 := rfl
def nvs (l : List Int) : List Value := l.flatMap nv

theorem nvs_succ (l : List Int) (k : Nat) (n : Int) (h : l[k]? = some n) : nvs (l.take (k + 1)) = nvs (l.take k) ++ nv n := by
  obtain ⟨hk, rfl⟩ := List.getElem?_eq_some_iff.1 h
  exact take_succ_flat nv l k hk

/-- whole numbers that the reference speaks of -/
def Fits (l : List Int) : Prop := ∀ n ∈ l, n ≤ 99999999999 ∧ -99999999999 ≤ n

set_option maxRecDepth 100000 in
set_option maxHeartbeats 800000 in
theorem numArgs_any (B : Nat) (A : Option Addr) (len c : Nat) (ns : List Int) (w : World) (hlen : ns.length = len) (hl : len ≤ 1000) (hr : Rd w B A (ns.map (.int .i64))) (hB : B ≤ w.heap.size) (hf : Fits ns) :
    Calls Tryz.prog 22 #[.slice A len c] w fun e w' => ∃ A' c', e = .returned (.slice A' len c') ∧ Rd w' w'.heap.size A' (nvs ns) ∧ Below w.heap.size w w' := by
  obtain ⟨i0, hi, hz0, hz1, hz2⟩ := info_parts Tryz.info36
  have HL : Hid (ns.length = len) := hlen
  clear hlen
  go_enter Tryz.func22, Tryz.ntmps22
  go_wp2
  go_loopw [3, 4] (fun v i wr => ∃ k : Nat, k ≤ len ∧ i = .int .i64 k ∧ wr.ownsRow w.heap.size 36 4 v k (nvs (ns.take k)) ∧ Below w.heap.size w wr)
    (fun _ i _ => len - (intOf i).toNat)
  case atStart => exact ⟨0, Nat.zero_le _, rfl, World.ownsRow_nil _ _ _ _, Below.refl _ _⟩
  case round =>
    obtain ⟨k, hk, rfl, hown, hbel⟩ := hrel
    by_cases hlt : k < len
    · obtain ⟨n, hn⟩ : ∃ n, ns[k]? = some n := ⟨_, List.getElem?_eq_getElem (by rw [HL.out]; exact hlt)⟩
      obtain ⟨b, o, rfl, hbB, hc⟩ := hr.at_ (k := k) (by simpa [HL.out] using hlt)
      have hcell : wr.cell? ⟨b, o + k, none⟩ = some (.int .i64 n) := (hbel.cell (p := ⟨b, o + k, none⟩) (show b < _ by omega)).trans (hc k _ (by simp [hn]))
      obtain ⟨f0, f1⟩ := hf n (List.mem_of_getElem? hn)
      have HN := Lib.hid hn
      clear hn hc
      go_wp2_with fail
      refine (int_any _ _ f0 f1).mono ?_
      rintro e w1 ⟨rfl, hb1⟩
      go_wp2_with fail
      refine (of_num _ _ f0 f1).mono ?_
      rintro e w2 ⟨rfl, hb2⟩
      have hown2 := own_below (own_below hown hb1) hb2
      have hbel2 := (hbel.trans (hb1.mono hbel.size)).trans (hb2.mono (Nat.le_trans hbel.size hb1.size))
      clear hown hbel hb1 hb2
      go_wp2_with (at_builtin; refine wpList_append_own _ rfl (.tmp 11) (.tmp 18) 25 rfl w.heap.size 36 i0 _ 4 56 Tryz.underlying25 hi hz0 hz1 hz2 rfl (by decide) _ k _ rfl (hown2.alloc _) ⟨w2.heap.size, 0, none⟩ 1 1 (nv n) rfl rfl ?c1 ?c2 ?c3 ?c4 ?c5 ?_)
      case c1 => exact cells_new w2 _ 36
      case c2 => intro u hu; simp [nv] at hu; rcases hu with rfl | rfl | rfl | rfl <;> rfl
      case c3 => unfold maxLen; omega
      case c4 => omega
      case c5 => have := hbel2.size; simp; omega
      intro v' w3 hown3 hgrow _
      have hbel3 := below_grown (hbel2.alloc hbel2.size _) (by have := hbel2.size; simp; omega) (hown2.alloc _) (Nat.le_refl _) hgrow
      clear hown2 hbel2 hgrow
      go_wp2
      go_roundw
      case rel => exact ⟨k + 1, by omega, by go_num, by rw [nvs_succ ns k n HN.out]; exact hown3, hbel3⟩
      case measure => simp [intOf]; omega
    · have he : k = len := by omega
      subst he
      obtain ⟨A', c', hv, hR⟩ := Rd.of_own hown
      have hR' : Rd wr wr.heap.size A' (nvs ns) := by rw [List.take_of_length_le (by rw [HL.out]; exact Nat.le_refl _)] at hR; exact hR
      have HV := Lib.hid hv
      clear hown hR hv
      go_wp2
      go_ret
      exact ⟨A', c', by rw [HV.out]; rfl, hR', hbel⟩
end Go.Proofs.YtojicbajcebjjaaGreatDoor
