/-
  What a world that meets the listed variables holds of the table of Roman digits.
-/
import Derived.Test.YtojicbajcebjjaaGreatDoorRx
import Derived.Deep.SlicePairs
import Derived.LaidMore
import Derived.FnData
import Derived.ProofKit
namespace Go.Proofs.YtojicbajcebjjaaGreatDoor
open Go.RowKit

section
variable {H : Type} {enc : TypeId × Value → H} {P : Program} {w : World} {base : Nat} {spare : Nat → Bool} {held : Bool}
theorem trod_float {t : TypeId} {k : FloatKind} {fuel : Nat} {cs : List Value} {x : DataW H × List MemPlace} (ht : P.underlying t = some (.float k)) (h : DataW.trod enc P w base spare held fuel t cs = some x) : ∃ b, cs = [.float k b] ∧ x = (.lit (.float k b), []) := by
  cases fuel with
  | zero => simp [DataW.trod] at h
  | succ n =>
    unfold DataW.trod at h
    rw [ht] at h
    split at h <;> simp_all
end

theorem laid_at {P : Program} {w : World} : ∀ (laid : List (String × DataW Unit)) (ps : List MemPlace), DataW.LaidVars P w laid ps → ∀ n d, (n, d) ∈ laid →
    ∃ g t cs fuel p, P.globalNamed n = some g ∧ (P.globals[g]?).map (·.type) = some t ∧ w.var? P n = some cs ∧ DataW.trod (fun _ => ()) P w 0 (fun _ => true) false fuel t cs.toList = some (d, p)
  | [], _, _, _, _, hm => by cases hm
  | (n0, d0) :: r, ps, h, n, d, hm => by
    obtain ⟨g, t, cs, fuel, p, q, h1, h2, h3, h4, h5, _⟩ := h
    rcases List.mem_cons.1 hm with he | hm
    · injection he with e1 e2
      subst e1 e2
      exact ⟨g, t, cs, fuel, p, h1, h2, h3, h4⟩
    · exact laid_at r q h5 n d hm

def romRow : List (DataW Unit) := match Rows.laid_pub_gridwork_pub_excelize_romanTable with
  | .slice (.slice r _ :: _) _ => r
  | _ => []
def romRest : List (DataW Unit) := match Rows.laid_pub_gridwork_pub_excelize_romanTable with
  | .slice (_ :: r) _ => r
  | _ => []
theorem rom_shape : Rows.laid_pub_gridwork_pub_excelize_romanTable = .slice (.slice romRow [] :: romRest) [] := rfl
theorem rom_len : romRow.length = 13 ∧ romRest.length = 4 := ⟨rfl, rfl⟩
theorem rom_cell (i : Nat) (h : i < 13) : romRow[i]? = some (.agg [.lit (.float .f64 (fi (rv i : Nat))), .lit (.string (rs i))]) := by
  match i, h with
  | 0, _ => show romRow[0]? = some (.agg [.lit (.float .f64 (fi (rv 0 : Nat))), .lit (.string (rs 0))]); kernel_rfl
  | 1, _ => show romRow[1]? = some (.agg [.lit (.float .f64 (fi (rv 1 : Nat))), .lit (.string (rs 1))]); kernel_rfl
  | 2, _ => show romRow[2]? = some (.agg [.lit (.float .f64 (fi (rv 2 : Nat))), .lit (.string (rs 2))]); kernel_rfl
  | 3, _ => show romRow[3]? = some (.agg [.lit (.float .f64 (fi (rv 3 : Nat))), .lit (.string (rs 3))]); kernel_rfl
  | 4, _ => show romRow[4]? = some (.agg [.lit (.float .f64 (fi (rv 4 : Nat))), .lit (.string (rs 4))]); kernel_rfl
  | 5, _ => show romRow[5]? = some (.agg [.lit (.float .f64 (fi (rv 5 : Nat))), .lit (.string (rs 5))]); kernel_rfl
  | 6, _ => show romRow[6]? = some (.agg [.lit (.float .f64 (fi (rv 6 : Nat))), .lit (.string (rs 6))]); kernel_rfl
  | 7, _ => show romRow[7]? = some (.agg [.lit (.float .f64 (fi (rv 7 : Nat))), .lit (.string (rs 7))]); kernel_rfl
  | 8, _ => show romRow[8]? = some (.agg [.lit (.float .f64 (fi (rv 8 : Nat))), .lit (.string (rs 8))]); kernel_rfl
  | 9, _ => show romRow[9]? = some (.agg [.lit (.float .f64 (fi (rv 9 : Nat))), .lit (.string (rs 9))]); kernel_rfl
  | 10, _ => show romRow[10]? = some (.agg [.lit (.float .f64 (fi (rv 10 : Nat))), .lit (.string (rs 10))]); kernel_rfl
  | 11, _ => show romRow[11]? = some (.agg [.lit (.float .f64 (fi (rv 11 : Nat))), .lit (.string (rs 11))]); kernel_rfl
  | 12, _ => show romRow[12]? = some (.agg [.lit (.float .f64 (fi (rv 12 : Nat))), .lit (.string (rs 12))]); kernel_rfl

theorem in_block {w : World} {b o : Nat} {v : Value} (h : w.cell? ⟨b, o, none⟩ = some v) : b < w.heap.size := by
  rcases Nat.lt_or_ge b w.heap.size with hb | hb
  · exact hb
  · simp [World.cell?, Array.getElem?_eq_none hb] at h

theorem addr_plain {w : World} {a : Addr} {v : Value} (h : w.cell? (a.add 0) = some v) : ∃ b o, a = ⟨b, o, none⟩ := by
  obtain ⟨b, off, spot⟩ := a
  have hspot : spot = none := by simpa [Addr.add] using World.cell?_spot h
  subst hspot
  exact ⟨b, off, rfl⟩

set_option maxRecDepth 100000 in
theorem rom_tab (W : World) (hL : laidMet Tryz.prog Rows.fnRomanRow.laid W) : RomTab W.heap.size W := by
  obtain ⟨ps, hv, _⟩ := hL
  obtain ⟨g, t, cs, fuel, p, h1, h2, h3, h4⟩ := laid_at _ _ hv "pub-gridwork/pub/excelize.romanTable" Rows.laid_pub_gridwork_pub_excelize_romanTable (by simp [Rows.fnRomanRow])
  clear hv
  have h1' := h1
  obtain rfl : g = 0 := Option.some.inj (h1.symm.trans (by kernel_rfl))
  obtain rfl : t = 102 := Option.some.inj (h2.symm.trans (by kernel_rfl))
  rw [rom_shape] at h4
  have hv0 := World.var?_cell h1' h3 0
  rcases Go.Deep.open_slice1 Tryz.underlying102 (by kernel_rfl) h4 with ⟨_, hx⟩ | ⟨a, len, cap, m, n, V, D, Pl, hcs, _, hl, _, hm, hx, hc⟩
  · cases hx
  simp only [if_true] at hm
  injection hx with hx1 _
  injection hx1 with e1 e2
  have hlen : len = 5 := by have := congrArg List.length e1; simp [rom_len.2] at this; omega
  have hcs0 : cs[0]? = some (.slice (some a) len cap) := by rw [← Array.getElem?_toList, hcs]; rfl
  rw [hcs0] at hv0
  obtain ⟨c0, t0⟩ := hc 0 (by omega)
  have d0 : D 0 = .slice romRow [] := by
    have := congrArg (fun l => l[0]?) e1
    simp [hlen] at this
    exact this.symm
  rw [d0] at t0
  rcases Go.Deep.open_slice_pairs Tryz.underlying101 Tryz.underlying109 (by kernel_rfl) rfl rfl (by kernel_rfl) (by kernel_rfl) t0 with ⟨_, hx⟩ | ⟨a1, len1, cap1, m1, n1, V0, V1, D0, D1, P0, P1, hcs1, _, hl1, _, hm1, hx, hc1⟩
  · cases hx
  simp only [if_true] at hm1
  injection hx with hx1 _
  injection hx1 with f1 f2
  have hlen1 : len1 = 13 := by have := congrArg List.length f1; simp [rom_len.1] at this; omega
  injection hcs1 with hcs1 _
  rw [hcs1] at c0
  obtain ⟨b0, o0, rfl⟩ := addr_plain c0
  obtain ⟨x0, _⟩ := hc1 0 (by omega)
  rw [Nat.zero_mul] at x0
  obtain ⟨b1, o1, rfl⟩ := addr_plain x0
  rw [hlen] at hv0
  rw [hlen1] at c0
  have e00 : (⟨b0, o0, none⟩ : Addr).add 0 = ⟨b0, o0, none⟩ := by simp [Addr.add]
  rw [e00] at c0
  refine ⟨b0, o0, cap, b1, o1, cap1, ?_, in_block c0, in_block (o := o1) (v := V0 0) ?_, hv0, c0, fun i hi => ?_⟩
  · exact in_block hv0
  · have : (⟨b1, o1, none⟩ : Addr).add 0 = ⟨b1, o1, none⟩ := by simp [Addr.add]
    rwa [this] at x0
  · obtain ⟨y0, y1, z0, z1⟩ := hc1 i (by omega)
    have di : Go.DataW.agg [D0 i, D1 i] = .agg [.lit (.float .f64 (fi (rv i : Nat))), .lit (.string (rs i))] := by
      have := congrArg (fun l => l[i]?) f1
      simp only [rom_cell i hi] at this
      rw [List.getElem?_map, List.getElem?_range (by omega)] at this
      exact (Option.some.inj this).symm
    injection di with di
    injection di with g0 di
    injection di with g1 _
    rw [g0] at z0
    rw [g1] at z1
    obtain ⟨b, hb, hbx⟩ := trod_float Tryz.underlying33 z0
    obtain ⟨s, hs, hsx, _⟩ := DataW.trod_string Tryz.underlying9 z1
    injection hb with hb _
    injection hs with hs _
    injection hbx with hbx _
    injection hbx with hbx
    injection hbx with _ hbx
    injection hsx with hsx _
    injection hsx with hsx
    injection hsx with hsx
    have a0 : (⟨b1, o1, none⟩ : Addr).add (i * 2) = ⟨b1, o1 + i * 2, none⟩ := by simp [Addr.add]
    have a1 : (⟨b1, o1, none⟩ : Addr).add (i * 2 + 1) = ⟨b1, o1 + i * 2 + 1, none⟩ := by simp [Addr.add]; omega
    rw [a0, hb, ← hbx] at y0
    rw [a1, hs] at y1
    refine ⟨y0, ?_⟩
    rw [y1, hsx]
end Go.Proofs.YtojicbajcebjjaaGreatDoor
