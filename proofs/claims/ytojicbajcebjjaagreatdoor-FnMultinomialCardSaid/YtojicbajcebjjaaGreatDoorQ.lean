/-
  The reference's ordered choices; its Flat and the law's doubtful over numbers.
-/
import Derived.Test.YtojicbajcebjjaaGreatDoorP
namespace Go.Proofs.YtojicbajcebjjaaGreatDoor
open Go.RowKit
attribute [local go_sem] run_store_float

/-- products of falling numbers: m numbers below what is left -/
def fl (n : Nat) : Nat → Nat
  | 0 => 1
  | i + 1 => fl n i * (n - i)
theorem fl_tbl : (List.range 10).all (fun n => (List.range (n + 1)).all fun k => decide (fl n k = fallN n k ∧ 1 ≤ fl n k ∧ fl n k ≤ 1000000)) = true := by decide +kernel
theorem fl_of (n k : Nat) (hn : n ≤ 9) (hk : k ≤ n) : fl n k = fallN n k ∧ 1 ≤ fl n k ∧ fl n k ≤ 1000000 := by
  have := List.all_eq_true.1 fl_tbl n (by simp; omega)
  have := List.all_eq_true.1 this k (by simp; omega)
  exact of_decide_eq_true this

set_option maxRecDepth 100000 in
set_option maxHeartbeats 1600000 in
theorem falling_any (n k : Nat) (w : World) (hn : n ≤ 9) (hk : k ≤ n) :
    Calls Tryz.prog 60 #[.int .i64 n, .int .i64 k, .int .i64 1] w fun e w' => e = .returned (.agg #[.int .i64 1, .int .i64 ((fallN n k : Nat)), .int .i64 1, .string ⟨#[]⟩, .slice none 0 0]) ∧ Below w.heap.size w w' := by
  have R1 := Bk.new w 29 #[.int .i64 0, .int .i64 0, .int .i64 0, .string ⟨#[]⟩, .slice none 0 0]
  have bz := (Below.refl _ w).alloc (Nat.le_refl _) (.cells #[.int .i64 0, .int .i64 0, .int .i64 0, .string ⟨#[]⟩, .slice none 0 0] 29)
  have s0 : w.heap.size < (w.alloc (.cells #[.int .i64 0, .int .i64 0, .int .i64 0, .string ⟨#[]⟩, .slice none 0 0] 29)).heap.size := by simp
  go_enter Tryz.func60, Tryz.ntmps60
  go_wp2_with fail
  generalize w.alloc (.cells #[.int .i64 0, .int .i64 0, .int .i64 0, .string ⟨#[]⟩, .slice none 0 0] 29) = W at *
  go_loop [7, 8] (fun o i => ∃ t : Nat, t ≤ k ∧ i = .int .i64 t ∧ o = .int .i64 (fl n t : Nat)) (fun _ i => k - (intOf i).toNat)
  case atStart => exact ⟨0, by omega, rfl, rfl⟩
  case round =>
    obtain ⟨t, h1, rfl, rfl⟩ := hrel
    obtain ⟨e1, e2, e3⟩ := fl_of n t (by omega) (by omega)
    by_cases hlt : t < k
    · obtain ⟨d1, d2, d3⟩ := fl_of n (t + 1) (by omega) (by omega)
      have hm : (fl n t : Int) * ((n : Int) - t) = (fl n (t + 1) : Nat) := by
        show _ = ((fl n t * (n - t) : Nat) : Int)
        rw [Int.natCast_mul, Int.natCast_sub (by omega)]
      generalize hO2 : fl n (t + 1) = O2 at *
      have HO2 := Lib.hid hO2
      generalize fl n t = O at *
      have HM := Lib.hid hm
      have hb1 : (O : Int) * ((n : Int) - t) ≤ 1000000 := by rw [hm]; omega
      have hb2 : 1 ≤ (O : Int) * ((n : Int) - t) := by rw [hm]; omega
      clear e1 d1 hm hO2
      go_wp2
      go_round
      case rel => exact ⟨t + 1, by omega, by go_num, val_int (by rw [HM.out, HO2.out])⟩
      case measure => simp [intOf]; omega
    · obtain rfl : t = k := by omega
      rw [e1] at e2 e3 ⊢
      clear e1
      go_wp2_with fail
      refine (int_any _ _ (by omega) (by omega)).mono ?_
      rintro e w4 ⟨rfl, b4⟩
      have R4 := R1.later b4
      have r4 := fun i => R4.cell i
      have q4 := fun i => R4.frozen i
      go_wp2
      refine bodyPost_ret (v := (.agg #[.int .i64 1, .int .i64 ((fallN n t : Nat)), .int .i64 1, .string ⟨#[]⟩, .slice none 0 0])) (by simp [results, Tryz.results60, go_sem, r4]) rfl ⟨rfl, ?_⟩
      repeat refine Below.setCell ?_ (by simp) _
      exact bz.trans (b4.mono (by omega))

set_option maxHeartbeats 800000 in
theorem combFalling_any (n k : Nat) (w : World) (hn : n ≤ 9) (hk : k ≤ n) :
    Calls Tryz.prog 38 #[.int .i64 n, .int .i64 k] w fun e w' => e = .returned (.agg #[.int .i64 1, .int .i64 ((fallN n k : Nat)), .int .i64 1, .string ⟨#[]⟩, .slice none 0 0]) ∧ Below w.heap.size w w' := by
  have R1 := Bk.new w 29 #[.int .i64 0, .int .i64 0, .int .i64 0, .string ⟨#[]⟩, .slice none 0 0]
  have bz := (Below.refl _ w).alloc (Nat.le_refl _) (.cells #[.int .i64 0, .int .i64 0, .int .i64 0, .string ⟨#[]⟩, .slice none 0 0] 29)
  have s0 : w.heap.size < (w.alloc (.cells #[.int .i64 0, .int .i64 0, .int .i64 0, .string ⟨#[]⟩, .slice none 0 0] 29)).heap.size := by simp
  go_enter Tryz.func38, Tryz.ntmps38
  go_wp2_with fail
  generalize w.alloc (.cells #[.int .i64 0, .int .i64 0, .int .i64 0, .string ⟨#[]⟩, .slice none 0 0] 29) = W at *
  refine (falling_any n k _ hn hk).mono ?_
  rintro e w4 ⟨rfl, b4⟩
  have R4 := R1.later b4
  have r4 := fun i => R4.cell i
  have q4 := fun i => R4.frozen i
  go_wp2
  refine bodyPost_ret (v := (.agg #[.int .i64 1, .int .i64 ((fallN n k : Nat)), .int .i64 1, .string ⟨#[]⟩, .slice none 0 0])) (by simp [results, Tryz.results38, go_sem, r4]) rfl ⟨rfl, ?_⟩
  repeat refine Below.setCell ?_ (by simp) _
  exact bz.trans (b4.mono (by omega))

theorem Tryz.info29 : (Tryz.prog.info? 29).map (fun i => (i.zero, i.size, i.bytes)) = some (some (.agg #[.int .i64 0, .int .i64 0, .int .i64 0, .string ⟨#[]⟩, .slice none 0 0]), 5, 64) := by kernel_rfl

/-- a reference's number's cells -/
def sv (n : Int) : List Value := [.int .i64 1, .int .i64 n, .int .i64 1, .string ⟨#[]⟩, .slice none 0 0]
theorem sv_len (n : Int) : (sv n).length = 5 := rfl
def svs (l : List Int) : List Value := l.flatMap sv
theorem flat5_get {α : Type} (f : α → List Value) (hf : ∀ x, (f x).length = 5) (l : List α) (k i : Nat) (hk : k < l.length) (hi : i < 5) : (l.flatMap f)[k * 5 + i]? = (f l[k])[i]? := by
  induction l generalizing k with
  | nil => simp at hk
  | cons x l ih =>
    rw [List.flatMap_cons]
    cases k with
    | zero => rw [List.getElem?_append_left (by rw [hf]; omega)]; simp
    | succ k =>
      rw [List.getElem?_append_right (by rw [hf]; omega), hf]
      have e : (k + 1) * 5 + i - 5 = k * 5 + i := by omega
      rw [e, ih k (by simpa using hk)]
      simp
theorem svs_len (l : List Int) : (svs l).length = l.length * 5 := by
  unfold svs
  induction l with
  | nil => simp
  | cons x l ih => rw [List.flatMap_cons, List.length_append, sv_len, ih, List.length_cons]; omega
theorem svs_get (l : List Int) (k i : Nat) (n : Int) (h : l[k]? = some n) (hi : i < 5) : (svs l)[k * 5 + i]? = (sv n)[i]? := by
  obtain ⟨hk, rfl⟩ := List.getElem?_eq_some_iff.1 h
  exact flat5_get sv sv_len l k i hk hi
theorem svs_succ (l : List Int) (k : Nat) (n : Int) (h : l[k]? = some n) : svs (l.take (k + 1)) = svs (l.take k) ++ sv n := by
  obtain ⟨hk, rfl⟩ := List.getElem?_eq_some_iff.1 h
  exact take_succ_flat sv l k hk

/-- The five cells of element k. -/
theorem svs_cells {w : World} {b o : Nat} {l : List Int} {k : Nat} {n : Int} (hc : ∀ j u, (svs l)[j]? = some u → w.cell? ⟨b, o + j, none⟩ = some u) (h : l[k]? = some n) :
    w.cell? ⟨b, o + k * 5, none⟩ = some (.int .i64 1) ∧ w.cell? ⟨b, o + k * 5 + 1, none⟩ = some (.int .i64 n) ∧ w.cell? ⟨b, o + k * 5 + 2, none⟩ = some (.int .i64 1) ∧ w.cell? ⟨b, o + k * 5 + 3, none⟩ = some (.string ⟨#[]⟩) ∧ w.cell? ⟨b, o + k * 5 + 4, none⟩ = some (.slice none 0 0) :=
  ⟨hc (k * 5 + 0) _ (svs_get l k 0 n h (by omega)), hc (k * 5 + 1) _ (svs_get l k 1 n h (by omega)), hc (k * 5 + 2) _ (svs_get l k 2 n h (by omega)), hc (k * 5 + 3) _ (svs_get l k 3 n h (by omega)), hc (k * 5 + 4) _ (svs_get l k 4 n h (by omega))⟩

set_option maxRecDepth 100000 in
set_option maxHeartbeats 1600000 in
theorem flat_nums (B : Nat) (A : Option Addr) (len c : Nat) (ns : List Int) (w : World) (hlen : ns.length = len) (hl : len ≤ 1000) (hr : Rd w B A (svs ns)) (hB : B ≤ w.heap.size) :
    Calls Tryz.prog 52 #[.slice A len c] w fun e w' => ∃ A' c', e = .returned (.slice A' len c') ∧ Rd w' w'.heap.size A' (svs ns) ∧ Below w.heap.size w w' := by
  obtain ⟨i0, hi, hz0, hz1, hz2⟩ := info_parts Tryz.info29
  have HL : Hid (ns.length = len) := hlen
  clear hlen
  go_enter Tryz.func52, Tryz.ntmps52
  go_wp2
  go_loopw [3, 4] (fun v i wr => ∃ k : Nat, k ≤ len ∧ i = .int .i64 k ∧ wr.ownsRow w.heap.size 29 5 v k (svs (ns.take k)) ∧ Below w.heap.size w wr)
    (fun _ i _ => len - (intOf i).toNat)
  case atStart => exact ⟨0, Nat.zero_le _, rfl, World.ownsRow_nil _ _ _ _, Below.refl _ _⟩
  case round =>
    obtain ⟨k, hk, rfl, hown, hbel⟩ := hrel
    by_cases hlt : k < len
    · obtain ⟨n, hn⟩ : ∃ n, ns[k]? = some n := ⟨_, List.getElem?_eq_getElem (by rw [HL.out]; exact hlt)⟩
      obtain ⟨b, o, rfl, hbB, hc⟩ := hr.at_ (k := k * 5) (by rw [svs_len, HL.out]; omega)
      obtain ⟨c0, c1, c2, c3, c4⟩ := svs_cells (w := wr) (fun j u hu => (hbel.cell (p := ⟨b, o + j, none⟩) (show b < _ by omega)).trans (hc j u hu)) hn
      have HN := Lib.hid hn
      clear hn hc
      have HO := Lib.hid hown
      have HB := Lib.hid hbel
      have hsz := hbel.size
      clear hown hbel
      go_wp2_with (at_builtin; refine wpList_append_own _ rfl (.tmp 18) (.tmp 23) 31 rfl w.heap.size 29 i0 _ 5 64 Tryz.underlying31 hi hz0 hz1 hz2 rfl (by decide) _ k _ rfl (HO.out.alloc _) ⟨wr.heap.size, 0, none⟩ 1 1 (sv n) rfl rfl ?c1 ?c2 ?c3 ?c4 ?c5 ?_)
      case c1 => exact cells_new wr _ 29
      case c2 => intro u hu; simp [sv] at hu; rcases hu with rfl | rfl | rfl | rfl | rfl <;> rfl
      case c3 => unfold maxLen; omega
      case c4 => omega
      case c5 => simp; omega
      intro v' w3 hown3 hgrow _
      have hbel3 := below_grown (HB.out.alloc HB.out.size _) (by simp; omega) (HO.out.alloc _) (Nat.le_refl _) hgrow
      clear HO HB hgrow
      go_wp2
      go_roundw
      case rel => exact ⟨k + 1, by omega, by go_num, by rw [svs_succ ns k n HN.out]; exact hown3, hbel3⟩
      case measure => simp [intOf]; omega
    · have he : k = len := by omega
      subst he
      obtain ⟨A', c', hv, hR⟩ := Rd.of_own hown
      have hR' : Rd wr wr.heap.size A' (svs ns) := by rw [List.take_of_length_le (by rw [HL.out]; exact Nat.le_refl _)] at hR; exact hR
      have HV := Lib.hid hv
      clear hown hR hv
      go_wp2
      go_ret
      exact ⟨A', c', by rw [HV.out]; rfl, hR', hbel⟩

set_option maxRecDepth 100000 in
set_option maxHeartbeats 1600000 in
theorem doubtful_num (n : Int) (w : World) :
    Calls Tryz.prog 27 #[(.agg #[.int .i64 1, .int .i64 (n), .int .i64 1, .string ⟨#[]⟩, .slice none 0 0])] w fun e w' => e = .returned (.bool false) ∧ Below w.heap.size w w' := by
  go_enter Tryz.func27, Tryz.ntmps27
  go_wp2_with fail
  have b0 : Below w.heap.size w ((w.alloc (.cells #[.int .i64 1, .int .i64 n, .int .i64 1, .string ⟨#[]⟩, .slice none 0 0] 29)).alloc (.cells #[.int .i64 1, .int .i64 n, .int .i64 1, .string ⟨#[]⟩, .slice none 0 0] 29)) := ((Below.refl _ w).alloc (Nat.le_refl _) _).alloc (by simp) _
  have r0 := Rd.of_bk (Bk.new (w.alloc (.cells #[.int .i64 1, .int .i64 n, .int .i64 1, .string ⟨#[]⟩, .slice none 0 0] 29)) 29 #[.int .i64 1, .int .i64 n, .int .i64 1, .string ⟨#[]⟩, .slice none 0 0]) (svs [n]) rfl
  have hadr : (w.alloc (.cells #[.int .i64 1, .int .i64 n, .int .i64 1, .string ⟨#[]⟩, .slice none 0 0] 29)).heap.size = w.heap.size + 1 := by simp
  rw [hadr] at r0
  have s0 := b0.size
  generalize (w.alloc (.cells #[.int .i64 1, .int .i64 n, .int .i64 1, .string ⟨#[]⟩, .slice none 0 0] 29)).alloc (.cells #[.int .i64 1, .int .i64 n, .int .i64 1, .string ⟨#[]⟩, .slice none 0 0] 29) = W at *
  refine (flat_nums _ _ 1 1 [n] _ rfl (by omega) r0 (Nat.le_refl _)).mono ?_
  rintro e w1 ⟨A1, c1, rfl, r1, b1⟩
  have b := b0.trans (b1.mono s0)
  obtain ⟨g, o, rfl, hg, hc⟩ := r1.at_ (k := 0) (by simp [svs, sv])
  obtain ⟨k0, _, _, _, _⟩ := svs_cells (k := 0) hc rfl
  have k1 : w1.cell? ⟨g, o, none⟩ = some (.int .i64 1) := by simpa using k0
  clear hc r1 r0 b0 b1 k0
  go_wp2_with fail
  go_loop [4] (fun i => i = .int .i64 0 ∨ i = .int .i64 1) (fun i => 1 - (intOf i).toNat)
  case atStart => exact .inl rfl
  case round =>
    rcases hrel with rfl | rfl
    · go_wp2
      go_round
      case rel => exact .inr rfl
      case measure => simp [intOf]
    · go_wp2
      go_ret
      exact ⟨rfl, b⟩
end Go.Proofs.YtojicbajcebjjaaGreatDoor
