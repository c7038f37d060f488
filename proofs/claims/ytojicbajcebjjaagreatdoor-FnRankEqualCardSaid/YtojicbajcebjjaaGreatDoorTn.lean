/-
  container/list's Next: two pointers that are not nil, compared.
-/
import Derived.Test.YtojicbajcebjjaaGreatDoorC
import Derived.LaidEqlPtr
namespace Go.Proofs.YtojicbajcebjjaaGreatDoor
open Go.RowKit
attribute [local go_sem] run_store_float


theorem run_neq_ptr_same {P : Program} (w : World) {tp te : TypeId} {j : TypeInfo} (a : Addr) (hp : P.underlying tp = some (.pointer te)) (hte : P.info? te = some j) :
    (binOp .neq tp (.pointer (some a)) (.pointer (some a))).run P w = .ok (.bool false) w := by
  have h : ∀ d : Nat, (Op.equalIn (d + 1) tp (.pointer (some a)) (.pointer (some a))).run P w = .ok true w := fun d => by
    simp [Op.equalIn, run_underlying hp, sizeOf, typeInfo, hte, run_sameAddr_same]
  simp only [binOp]
  simp [Op.equal, Op.maxDepth, h 9999]

theorem run_neq_ptr_other {P : Program} (w : World) {tp te : TypeId} {j : TypeInfo} {a b : Addr} {ca cb : Array Value} {ta tb : TypeId} (hp : P.underlying tp = some (.pointer te)) (hte : P.info? te = some j) (hsz : j.size ≠ 0)
    (hne : a ≠ b) (ha : w.heap[a.block]? = some (.cells ca ta (0, 0))) (hb : w.heap[b.block]? = some (.cells cb tb (0, 0))) :
    (binOp .neq tp (.pointer (some a)) (.pointer (some b))).run P w = .ok (.bool true) w := by
  have h : ∀ d : Nat, (Op.equalIn (d + 1) tp (.pointer (some a)) (.pointer (some b))).run P w = .ok false w := fun d => by
    simp [Op.equalIn, run_underlying hp, sizeOf, typeInfo, hte, hsz, run_sameAddr_other w hne ha hb]
  simp only [binOp]
  simp [Op.equal, Op.maxDepth, h 9999]

theorem Tryz.info91 : ∃ j, Tryz.prog.info? 91 = some j ∧ j.size ≠ 0 := by
  have h : (Tryz.prog.info? 91).map (fun i => i.size) = some 4 := by kernel_rfl
  obtain ⟨j, hj, h2⟩ := Option.map_eq_some_iff.1 h
  exact ⟨j, hj, by rw [h2]; decide⟩

set_option maxRecDepth 100000 in
set_option maxHeartbeats 800000 in
theorem list_next (L : Nat) (es : List Nat) (vs : List Value) (i e : Nat) (w : World) (h : IsList w L es vs) (he : es[i]? = some e) :
    Calls Tryz.prog 92 #[.pointer (some ⟨e, 0, none⟩)] w fun r w' => r = .returned (.pointer ((es[i + 1]?).map fun g => ⟨g, 0, none⟩)) ∧ w = w' := by
  obtain ⟨j, hj, hj0⟩ := Tryz.info91
  obtain ⟨hi, _⟩ := List.getElem?_eq_some_iff.1 he
  obtain ⟨v, hv⟩ : ∃ v, vs[i]? = some v := ⟨_, List.getElem?_eq_getElem (by rw [← h.len]; exact hi)⟩
  obtain ⟨p, hb⟩ := h.elem i e v he hv
  have c0 := hb.cell 0
  have c2 := hb.cell 2
  simp at c0 c2
  cases hn : es[i + 1]? with
  | none =>
    have hnx : nx L es (i + 1) = L := by simp [nx, hn]
    rw [hnx] at c0
    have hq := fun w => run_neq_ptr_same (P := Tryz.prog) w (⟨L, 0, none⟩ : Addr) Tryz.underlying85 hj
    clear hb h
    go_enter Tryz.func92, Tryz.ntmps92
    go_wp2
    go_ret
    exact ⟨rfl, rfl⟩
  | some g =>
    have hnx : nx L es (i + 1) = g := by simp [nx, hn]
    rw [hnx] at c0
    obtain ⟨hi1, _⟩ := List.getElem?_eq_some_iff.1 hn
    obtain ⟨v1, hv1⟩ : ∃ v, vs[i + 1]? = some v := ⟨_, List.getElem?_eq_getElem (by rw [← h.len]; exact hi1)⟩
    obtain ⟨p1, hb1⟩ := h.elem (i + 1) g v1 hn hv1
    have hgt := h.gt g (List.mem_of_getElem? hn)
    have hq := run_neq_ptr_other (P := Tryz.prog) w (a := ⟨g, 0, none⟩) (b := ⟨L, 0, none⟩) Tryz.underlying85 hj hj0 (by intro e; injection e; omega) hb1 h.root
    clear hb h hb1 hn hnx hgt
    go_enter Tryz.func92, Tryz.ntmps92
    go_wp2
    go_ret
    exact ⟨rfl, rfl⟩
end Go.Proofs.YtojicbajcebjjaaGreatDoor
