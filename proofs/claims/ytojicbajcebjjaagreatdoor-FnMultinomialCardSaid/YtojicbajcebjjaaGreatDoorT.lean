/-
  The reference's number of divisions; list.Next; MULTINOMIAL.
-/
import Derived.Test.YtojicbajcebjjaaGreatDoorS
import Derived.LaidEqlPtr
namespace Go.Proofs.YtojicbajcebjjaaGreatDoor
open Go.RowKit
attribute [local go_sem] run_store_float

theorem combMulti_bd (O c : Nat) (h : O * c ≤ 11732745024) (hc : 1 ≤ c) : (O : Int) ≤ 99999999999 / (c : Int) ∧ (O : Int) * c ≤ 11732745024 ∧ 0 ≤ (O : Int) * c := by
  have h1 : ((O * c : Nat) : Int) ≤ 11732745024 := by omega
  rw [Int.natCast_mul] at h1
  refine ⟨?_, h1, Int.mul_nonneg (by omega) (by omega)⟩
  rw [Int.le_ediv_iff_mul_le (by omega)]
  omega

set_option maxRecDepth 100000 in
set_option maxHeartbeats 1600000 in
theorem combMulti_any (B : Nat) (A : Option Addr) (len c : Nat) (l : List Nat) (w : World) (hlen : l.length = len) (hl : len ≤ 4) (h5 : ∀ x ∈ l, x ≤ 5) (hr : Rd w B A ((l.map fun n : Nat => (n : Int)).map (.int .i64))) (hB : B ≤ w.heap.size) :
    Calls Tryz.prog 26 #[.slice A len c] w fun e w' => e = .returned (.agg #[.int .i64 1, .int .i64 ((mulN l len : Nat)), .int .i64 1, .string ⟨#[]⟩, .slice none 0 0]) ∧ Below w.heap.size w w' := by
  have HL : Hid (l.length = len) := hlen
  have R1 := Bk.new w 29 #[.int .i64 0, .int .i64 0, .int .i64 0, .string ⟨#[]⟩, .slice none 0 0]
  have bz := (Below.refl _ w).alloc (Nat.le_refl _) (.cells #[.int .i64 0, .int .i64 0, .int .i64 0, .string ⟨#[]⟩, .slice none 0 0] 29)
  have s0 : w.heap.size < (w.alloc (.cells #[.int .i64 0, .int .i64 0, .int .i64 0, .string ⟨#[]⟩, .slice none 0 0] 29)).heap.size := by simp
  clear hlen
  go_enter Tryz.func26, Tryz.ntmps26
  go_wp2_with fail
  generalize w.alloc (.cells #[.int .i64 0, .int .i64 0, .int .i64 0, .string ⟨#[]⟩, .slice none 0 0] 29) = W at *
  go_loopw [3, 4, 5] (fun o n i wr => ∃ k : Nat, k ≤ len ∧ i = .int .i64 k ∧ n = .int .i64 (sumTo l k : Nat) ∧ o = .int .i64 (mulN l k : Nat) ∧ Below w.heap.size w wr ∧ Bk wr w.heap.size 29 #[.int .i64 0, .int .i64 0, .int .i64 0, .string ⟨#[]⟩, .slice none 0 0] ∧ w.heap.size < wr.heap.size)
    (fun _ _ i _ => len - (intOf i).toNat)
  case atStart => exact ⟨0, Nat.zero_le _, rfl, rfl, rfl, bz, R1, s0⟩
  case round =>
    obtain ⟨k, hk, rfl, rfl, rfl, hbel, hR, hsz⟩ := hrel
    have hm := mul_le l h5 (by rw [HL.out]; exact hl) k (by rw [HL.out]; exact hk)
    have hmb := mB_le k
    by_cases hlt : k < len
    · obtain ⟨x, hx⟩ : ∃ x, l[k]? = some x := ⟨_, List.getElem?_eq_getElem (by rw [HL.out]; exact hlt)⟩
      obtain ⟨b, o, rfl, hbB, hc⟩ := hr.at_ (k := k) (by simpa [HL.out] using hlt)
      have hcell : wr.cell? ⟨b, o + k, none⟩ = some (.int .i64 x) := (hbel.cell (p := ⟨b, o + k, none⟩) (show b < _ by omega)).trans (hc k _ (by simp [hx]))
      have hx5 := h5 x (List.mem_of_getElem? hx)
      have hsl := sumTo_le l h5 k (by rw [HL.out]; exact hk)
      have hcc := mB_of k (sumTo l k) x (by omega) hsl hx5
      have hm2 := mul_le l h5 (by rw [HL.out]; exact hl) (k + 1) (by rw [HL.out]; exact hlt)
      have hmb2 := mB_le (k + 1)
      have e1 := sumTo_succ l k x hx
      have e2 := mulN_succ l k x hx
      rw [e2] at hm2
      have E1 := Lib.hid e1
      have E2 := Lib.hid e2
      obtain ⟨q1, q2, q3⟩ := combMulti_bd (mulN l k) (choose (sumTo l k + x) x) (by omega) hcc.2
      have hc1 := hcc.2
      clear hc hx e1 e2 hcc hm2 hmb2 hmb
      generalize hS : sumTo l k = S at *
      generalize hO : mulN l k = O at *
      have HS := Lib.hid hS
      have HO := Lib.hid hO
      clear hS hO
      go_wp2_with fail
      have hcast : ((S : Int) + x) = ((S + x : Nat) : Int) := by omega
      rw [hcast]
      have hcell2 := hcell
      refine (chosenMore_any (S + x) x _ (by omega) hx5 (by omega)).mono ?_
      rintro e w4 ⟨rfl, b4⟩
      have hbel2 := hbel.trans (b4.mono (by omega))
      have hR2 := hR.later b4
      have hs2 : w.heap.size < w4.heap.size := by have := b4.size; omega
      generalize choose (S + x) x = C at *
      clear hcell hcell2 hbel hR hcast b4
      have hR3 := hR2.alloc (.cells #[.int .i64 1, .int .i64 C, .int .i64 1, .string ⟨#[]⟩, .slice none 0 0] 29)
      have hbel3 := hbel2.alloc (by omega) (.cells #[.int .i64 1, .int .i64 C, .int .i64 1, .string ⟨#[]⟩, .slice none 0 0] 29)
      go_wp2
      go_roundw
      case rel => exact ⟨k + 1, by omega, by go_num, val_int (by rw [E1.out]; omega), val_int (by rw [E2.out, Int.natCast_mul]), hbel3, hR3, by simp; omega⟩
      case measure => simp [intOf]; omega
    · obtain rfl : k = len := by omega
      go_wp2_with fail
      refine (int_any _ _ (by omega) (by omega)).mono ?_
      rintro e w4 ⟨rfl, b4⟩
      have R4 := hR.later b4
      have r4 := fun i => R4.cell i
      have q4 := fun i => R4.frozen i
      have hb4 := hbel.trans (b4.mono (by omega))
      clear hbel hR
      go_wp2
      refine bodyPost_ret (v := (.agg #[.int .i64 1, .int .i64 ((mulN l k : Nat)), .int .i64 1, .string ⟨#[]⟩, .slice none 0 0])) (by simp [results, Tryz.results26, go_sem, r4]) rfl ⟨rfl, ?_⟩
      repeat refine Below.setCell ?_ (by simp) _
      exact hb4

theorem run_neq_ptr_same {P : Program} (w : World) {tp te : TypeId} {j : TypeInfo} (a : Addr) (hp : P.underlying tp = some (.pointer te)) (hte : P.info? te = some j) :
    (binOp .neq tp (.pointer (some a)) (.pointer (some a))).run P w = .ok (.bool false) w := by
  have h : ∀ d : Nat, (Op.equalIn (d + 1) tp (.pointer (some a)) (.pointer (some a))).run P w = .ok true w := fun d => by
    simp [Op.equalIn, run_underlying hp, sizeOf, typeInfo, hte, run_sameAddr_same]
  simp only [binOp]
  simp [Op.equal, Op.maxDepth, h 9999]

theorem run_neq_ptr_other {P : Program} (w : World) {tp te : TypeId} {j : TypeInfo} {a b : Addr} {ca cb : Array Value} {ta tb : TypeId} (hp : P.underlying tp = some (.pointer te)) (hte : P.info? te = some j) (hsz : j.size ≠ 0)
    (hne : a ≠ b) (ha : w.heap[a.block]? = some (.cells ca ta (0, 0))) (hb : w.heap[b.block]? = some (.cells cb tb (0, 0))) :
    (binOp .neq tp (.pointer (some a)) (.pointer (some b))).run P w = .ok (.bool true) w := by
  have h : ∀ d : Nat, (Op.equalIn (d + 1) tp (.pointer (some a)) (.pointer (some b))).run P w = .ok false w := fun d => by
    simp [Op.equalIn, run_underlying hp, sizeOf, typeInfo, hte, hsz, run_sameAddr_other w hne ha hb]
  simp only [binOp]
  simp [Op.equal, Op.maxDepth, h 9999]

theorem Tryz.info91 : ∃ j, Tryz.prog.info? 91 = some j ∧ j.size ≠ 0 := by
  have h : (Tryz.prog.info? 91).map (fun i => i.size) = some 4 := by kernel_rfl
  obtain ⟨j, hj, h2⟩ := Option.map_eq_some_iff.1 h
  exact ⟨j, hj, by rw [h2]; decide⟩

set_option maxRecDepth 100000 in
set_option maxHeartbeats 800000 in
theorem list_next (L : Nat) (es : List Nat) (vs : List Value) (i e : Nat) (w : World) (h : IsList w L es vs) (he : es[i]? = some e) :
    Calls Tryz.prog 92 #[.pointer (some ⟨e, 0, none⟩)] w fun r w' => r = .returned (.pointer ((es[i + 1]?).map fun g => ⟨g, 0, none⟩)) ∧ w = w' := by
  obtain ⟨j, hj, hj0⟩ := Tryz.info91
  obtain ⟨hi, _⟩ := List.getElem?_eq_some_iff.1 he
  obtain ⟨v, hv⟩ : ∃ v, vs[i]? = some v := ⟨_, List.getElem?_eq_getElem (by rw [← h.len]; exact hi)⟩
  obtain ⟨p, hb⟩ := h.elem i e v he hv
  have c0 := hb.cell 0
  have c2 := hb.cell 2
  simp at c0 c2
  cases hn : es[i + 1]? with
  | none =>
    have hnx : nx L es (i + 1) = L := by simp [nx, hn]
    rw [hnx] at c0
    have hq := fun w => run_neq_ptr_same (P := Tryz.prog) w (⟨L, 0, none⟩ : Addr) Tryz.underlying85 hj
    clear hb h
    go_enter Tryz.func92, Tryz.ntmps92
    go_wp2
    go_ret
    exact ⟨rfl, rfl⟩
  | some g =>
    have hnx : nx L es (i + 1) = g := by simp [nx, hn]
    rw [hnx] at c0
    obtain ⟨hi1, _⟩ := List.getElem?_eq_some_iff.1 hn
    obtain ⟨v1, hv1⟩ : ∃ v, vs[i + 1]? = some v := ⟨_, List.getElem?_eq_getElem (by rw [← h.len]; exact hi1)⟩
    obtain ⟨p1, hb1⟩ := h.elem (i + 1) g v1 hn hv1
    have hgt := h.gt g (List.mem_of_getElem? hn)
    have hq := run_neq_ptr_other (P := Tryz.prog) w (a := ⟨g, 0, none⟩) (b := ⟨L, 0, none⟩) Tryz.underlying85 hj hj0 (by intro e; injection e; omega) hb1 h.root
    clear hb h hb1 hn hnx hgt
    go_enter Tryz.func92, Tryz.ntmps92
    go_wp2
    go_ret
    exact ⟨rfl, rfl⟩
end Go.Proofs.YtojicbajcebjjaaGreatDoor
