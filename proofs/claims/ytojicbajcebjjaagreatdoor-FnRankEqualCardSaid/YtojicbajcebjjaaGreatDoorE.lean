/-
  innerList over numbers: a list of formulaArgs.
-/
import Derived.Test.YtojicbajcebjjaaGreatDoorD
namespace Go.Proofs.YtojicbajcebjjaaGreatDoor
open Go.RowKit
attribute [local go_sem] run_store_float

def fa (n : Int) : Value := (.agg #[.string ⟨#[]⟩, .float .f64 (fi n), .string ⟨#[]⟩, .slice none 0 0, .slice none 0 0, .bool false, .string ⟨#[]⟩, .int .u8 1, .pointer none, .pointer none])

set_option maxRecDepth 100000 in
set_option maxHeartbeats 1600000 in
theorem innerList_nums (B : Nat) (A : Option Addr) (len c : Nat) (ns : List Int) (w : World) (hlen : ns.length = len) (hl : len ≤ 1000) (hr : Rd w B A (nvs ns)) (hB : B ≤ w.heap.size) (hs : ∀ n ∈ ns, n.natAbs < 2 ^ 53) :
    Calls Tryz.prog 66 #[.slice A len c] w fun e w' => ∃ L es, e = .returned (.pointer (some ⟨L, 0, none⟩)) ∧ IsList w' L es (ns.map fa) ∧ w.heap.size ≤ L ∧ Below w.heap.size w w' := by
  have HL : Hid (ns.length = len) := hlen
  clear hlen
  go_enter Tryz.func66, Tryz.ntmps66
  go_wp2_with fail
  refine (list_new _).mono ?_
  rintro e w0 ⟨rfl, rfl⟩
  go_wp2_with fail
  have hst := IsList.new w
  go_loopw [9] (fun i wr => ∃ (k : Nat) (es : List Nat), k ≤ len ∧ i = .int .i64 k ∧ IsList wr w.heap.size es ((ns.take k).map fa) ∧ Below w.heap.size w wr)
    (fun i _ => len - (intOf i).toNat)
  case atStart => exact ⟨0, [], Nat.zero_le _, rfl, hst, (Below.refl _ _).alloc (Nat.le_refl _) _⟩
  case round =>
    obtain ⟨k, es, hk, rfl, hlist, hbel⟩ := hrel
    by_cases hlt : k < len
    · obtain ⟨n, hn⟩ : ∃ n, ns[k]? = some n := ⟨_, List.getElem?_eq_getElem (by rw [HL.out]; exact hlt)⟩
      obtain ⟨b, o, rfl, hbB, hc⟩ := hr.at_ (k := k * 4) (by rw [nvs_len, HL.out]; omega)
      obtain ⟨c0, c1, c2, c3⟩ := nvs_cells (w := wr) (fun j u hu => (hbel.cell (p := ⟨b, o + j, none⟩) (show b < _ by omega)).trans (hc j u hu)) hn
      have hsz := hbel.size
      have H1 := Lib.hid (hs n (List.mem_of_getElem? hn))
      have HN := Lib.hid hn
      clear hn hc
      go_wp2_with fail
      refine (innerArg_num n _ H1.out).mono ?_
      rintro e w1 ⟨rfl, hb1⟩
      have hlist2 := (hlist.below ((Below.refl _ wr).alloc (Nat.le_refl _) (.cells #[.int .i64 1, .float .f64 (fi n), .string ⟨#[]⟩, .slice none 0 0] 59))).below hb1
      have hbel2 := (hbel.alloc hbel.size (.cells #[.int .i64 1, .float .f64 (fi n), .string ⟨#[]⟩, .slice none 0 0] 59)).trans (hb1.mono (by simp; omega))
      clear hlist hbel hb1 hst c0 c1 c2 c3
      go_wp2_with fail
      refine (push_any w.heap.size es _ (fa n) _ hlist2 (by rw [hlist2.len]; simp; omega)).mono ?_
      rintro e w2 ⟨⟨a, rfl⟩, ⟨E, hlist3⟩, hb3⟩
      have hbel3 := hbel2.trans hb3
      clear hlist2 hbel2 hb3
      go_wp2
      go_roundw
      case rel => exact ⟨k + 1, es ++ [E], by omega, by go_num, by rw [List.take_add_one, HN.out]; simpa using hlist3, hbel3⟩
      case measure => simp [intOf]; omega
    · have he : k = len := by omega
      subst he
      have hl2 : IsList wr w.heap.size es (ns.map fa) := by rw [List.take_of_length_le (by rw [HL.out]; exact Nat.le_refl _)] at hlist; exact hlist
      clear hlist hst
      go_wp2
      go_ret
      exact ⟨w.heap.size, es, rfl, hl2, Nat.le_refl _, hbel⟩
end Go.Proofs.YtojicbajcebjjaaGreatDoor
