/-
  ROMAN of a number from 1 to 3999, walked: a bytes.Buffer within two loops over a laid table.
-/
import Derived.Test.YtojicbajcebjjaaGreatDoorRp
namespace Go.Proofs.YtojicbajcebjjaaGreatDoor
open Go.RowKit
attribute [local go_sem] run_store_float

/-- The laid table's first row lies in the world, below B. -/
def RomTab (B : Nat) (w : World) : Prop := ∃ b0 o0 c0 b1 o1 c1 : Nat, 0 < B ∧ b0 < B ∧ b1 < B ∧ w.cell? ⟨0, 0, none⟩ = some (.slice (some ⟨b0, o0, none⟩) 5 c0) ∧ w.cell? ⟨b0, o0, none⟩ = some (.slice (some ⟨b1, o1, none⟩) 13 c1) ∧
  ∀ i, i < 13 → w.cell? ⟨b1, o1 + i * 2, none⟩ = some (.float .f64 (fi (rv i : Nat))) ∧ w.cell? ⟨b1, o1 + i * 2 + 1, none⟩ = some (.string ⟨(rs i).toArray⟩)

theorem RomTab.below {B : Nat} {w w' : World} (h : RomTab B w) (hb : Below B w w') : RomTab B w' := by
  obtain ⟨b0, o0, c0, b1, o1, c1, h0, h1, h2, e0, e1, he⟩ := h
  refine ⟨b0, o0, c0, b1, o1, c1, h0, h1, h2, (hb.cell (p := ⟨0, 0, none⟩) h0).trans e0, (hb.cell (p := ⟨b0, o0, none⟩) h1).trans e1, fun i hi => ?_⟩
  obtain ⟨x, y⟩ := he i hi
  exact ⟨(hb.cell (p := ⟨b1, o1 + i * 2, none⟩) h2).trans x, (hb.cell (p := ⟨b1, o1 + i * 2 + 1, none⟩) h2).trans y⟩
theorem RomTab.more {B B' : Nat} {w : World} (h : RomTab B w) (hB : B ≤ B') : RomTab B' w := by
  obtain ⟨b0, o0, c0, b1, o1, c1, h0, h1, h2, r⟩ := h
  exact ⟨b0, o0, c0, b1, o1, c1, by omega, by omega, by omega, r⟩

set_option maxRecDepth 100000 in
set_option maxHeartbeats 3200000 in
theorem roman_method (g L : Nat) (es : List Nat) (n : Nat) (w : World) (hl : IsList w L es [fa n]) (hT : RomTab w.heap.size w) (hn : n ≤ 3999) :
    Calls Tryz.prog 71 #[.pointer (some ⟨g, 0, none⟩), .pointer (some ⟨L, 0, none⟩)] w fun e w' => e = .returned (.agg #[.string ⟨#[]⟩, .float .f64 0, .string (⟨(romR 0 n).toArray⟩), .slice none 0 0, .slice none 0 0, .bool false, .string ⟨#[]⟩, .int .u8 2, .pointer none, .pointer none]) ∧ Below w.heap.size w w' := by
  obtain ⟨e0, p0, rfl, B0⟩ := one_cell hl
  have l0 := B0.lt
  have lL := hl.root.lt
  have hta := assert73
  obtain ⟨T, hTT⟩ : ∃ T, romR 0 n = T := ⟨_, rfl⟩
  have hTl : T.length ≤ 20 := by rw [← hTT]; exact rom_le n hn
  rw [hTT]
  have HT := Lib.hid hTT
  clear hTT
  go_enter Tryz.func71, Tryz.ntmps71
  go_wp2_with fail
  have R1 := Bk.new w 73 #[.string ⟨#[]⟩, .float .f64 0, .string ⟨#[]⟩, .slice none 0 0, .slice none 0 0, .bool false, .string ⟨#[]⟩, .int .u8 0, .pointer none, .pointer none]
  have bz := (Below.refl _ w).alloc (Nat.le_refl _) (.cells #[.string ⟨#[]⟩, .float .f64 0, .string ⟨#[]⟩, .slice none 0 0, .slice none 0 0, .bool false, .string ⟨#[]⟩, .int .u8 0, .pointer none, .pointer none] 73)
  have hl1 := hl.below bz
  refine (list_len L _ _ _ hl1).mono ?_
  rintro e w1 ⟨rfl, rfl⟩
  go_wp2_with fail
  refine (list_len L _ _ _ hl1).mono ?_
  rintro e w1 ⟨rfl, rfl⟩
  go_wp2_with fail
  refine (list_front L e0 [] _ _ hl1).mono ?_
  rintro e w1 ⟨rfl, rfl⟩
  have c0 := fun i => (B0.alloc (.cells #[.string ⟨#[]⟩, .float .f64 0, .string ⟨#[]⟩, .slice none 0 0, .slice none 0 0, .bool false, .string ⟨#[]⟩, .int .u8 0, .pointer none, .pointer none] 73)).cell i
  simp only [fa] at c0
  go_wp2_with fail
  refine (toNumber_num n _ (by omega)).mono ?_
  rintro e w1 ⟨rfl, b1⟩
  clear c0
  have hl2 := (hl1.below b1).below ((Below.refl _ w1).alloc (Nat.le_refl _) (.cells #[.string ⟨#[]⟩, .float .f64 (fi n), .string ⟨#[]⟩, .slice none 0 0, .slice none 0 0, .bool false, .string ⟨#[]⟩, .int .u8 1, .pointer none, .pointer none] 73))
  have s2 : w.heap.size < w1.heap.size := by have := b1.size; simp at this; omega
  have R3 := (R1.below b1 R1.lt).alloc (.cells #[.string ⟨#[]⟩, .float .f64 (fi n), .string ⟨#[]⟩, .slice none 0 0, .slice none 0 0, .bool false, .string ⟨#[]⟩, .int .u8 1, .pointer none, .pointer none] 73)
  have K3 := Bk.new w1 73 #[.string ⟨#[]⟩, .float .f64 (fi n), .string ⟨#[]⟩, .slice none 0 0, .slice none 0 0, .bool false, .string ⟨#[]⟩, .int .u8 1, .pointer none, .pointer none]
  have bW : Below w.heap.size w (w1.alloc (.cells #[.string ⟨#[]⟩, .float .f64 (fi n), .string ⟨#[]⟩, .slice none 0 0, .slice none 0 0, .bool false, .string ⟨#[]⟩, .int .u8 1, .pointer none, .pointer none] 73)) := ((((Below.refl _ w).alloc (Nat.le_refl _) (.cells #[.string ⟨#[]⟩, .float .f64 0, .string ⟨#[]⟩, .slice none 0 0, .slice none 0 0, .bool false, .string ⟨#[]⟩, .int .u8 0, .pointer none, .pointer none] 73)).trans (b1.mono (by simp))).alloc (by omega) (.cells #[.string ⟨#[]⟩, .float .f64 (fi n), .string ⟨#[]⟩, .slice none 0 0, .slice none 0 0, .bool false, .string ⟨#[]⟩, .int .u8 1, .pointer none, .pointer none] 73))
  have sW := R3.lt
  go_wp2_with fail
  refine (list_len L _ _ _ hl2).mono ?_
  rintro e w2 ⟨rfl, rfl⟩
  have hT2 := hT.below bW
  clear hl hl1 hl2 bz b1 R1 B0
  generalize w1.alloc (.cells #[.string ⟨#[]⟩, .float .f64 (fi n), .string ⟨#[]⟩, .slice none 0 0, .slice none 0 0, .bool false, .string ⟨#[]⟩, .int .u8 1, .pointer none, .pointer none] 73) = W at *
  generalize w1.heap.size = a1 at *
  have k3 := fun i => K3.cell i
  obtain ⟨b0, o0, cc0, b1, o1, cc1, t0, t1, t2, x0, x1, xe⟩ := hT2
  go_wp2_with fail
  refine (trunc_fi n _ (by omega)).mono ?_
  rintro e w2 ⟨rfl, rfl⟩
  go_wp2_with fail
  have hI0 := Lib.fresh_isBuffer 107 5 W
  have bB0 := (Below.refl _ W).alloc (Nat.le_refl _) (.cells #[.slice none 0 0, .int .i64 0, .int .i8 0] 107)
  have R4 := R3.alloc (.cells #[.slice none 0 0, .int .i64 0, .int .i8 0] 107)
  generalize W.alloc (.cells #[.slice none 0 0, .int .i64 0, .int .i8 0] 107) = W5 at *
  clear k3 K3 x0 x1
  generalize hbb : W.heap.size = bb at *
  go_loopw [9, 83] (fun v j wr => ∃ (i m : Nat) (acc : List UInt8), i ≤ 13 ∧ m ≤ 3999 ∧ v = .float .f64 (fi (m : Int)) ∧ j = .int .i64 i ∧ acc ++ romR i m = T ∧ Lib.IsBuffer 107 5 bb bb (Lib.byteCells acc) wr ∧ Below bb W wr) (fun _ j _ => 13 - (intOf j).toNat)
  case atStart => exact ⟨0, n, [], by omega, hn, rfl, rfl, HT.out, hI0, bB0⟩
  case round =>
    obtain ⟨i, m, acc, hi, hm, rfl, rfl, hacc, hI, hbel⟩ := hrel
    have HA := Lib.hid hacc
    clear hacc hI0 bB0 HT
    by_cases hlt : i < 13
    · obtain ⟨y0, y1⟩ := xe i hlt
      have z0 := (hbel.cell (p := ⟨b1, o1 + i * 2, none⟩) (show b1 < bb by omega)).trans y0
      have z1 := (hbel.cell (p := ⟨b1, o1 + i * 2 + 1, none⟩) (show b1 < bb by omega)).trans y1
      have hsz := hbel.size
      rw [hbb] at hsz
      have hrb : bb < wr.heap.size := hI.lt
      clear y0 y1
      go_wp2_with fail
      have hI1 := hI.alloc (.cells #[.float .f64 (fi (rv i : Nat)), .string ⟨(rs i).toArray⟩] 109)
      have N1 := Bk.new wr 109 #[.float .f64 (fi (rv i : Nat)), .string ⟨(rs i).toArray⟩]
      have bel1 := hbel.alloc hsz (.cells #[.float .f64 (fi (rv i : Nat)), .string ⟨(rs i).toArray⟩] 109)
      generalize wr.alloc (.cells #[.float .f64 (fi (rv i : Nat)), .string ⟨(rs i).toArray⟩] 109) = W6 at *
      generalize wr.heap.size = rb at *
      obtain ⟨p1, p2⟩ := rv_bd i hlt
      have p3 := rs_bd i hlt
      clear hI hbel z0 z1
      rw [show decide ((i : Int) < 13) = true from decide_eq_true (by omega)]
      go_loopw [9] (fun v wr => ∃ (m : Nat) (acc : List UInt8), m ≤ 3999 ∧ v = .float .f64 (fi (m : Int)) ∧ acc ++ romR i m = T ∧ Lib.IsBuffer 107 5 bb bb (Lib.byteCells acc) wr ∧ Bk wr rb 109 #[.float .f64 (fi (rv i : Nat)), .string ⟨(rs i).toArray⟩] ∧ Below bb W wr) (fun v _ => (toI v).toNat)
      case atStart => exact ⟨m, acc, hm, rfl, HA.out, hI1, N1, bel1⟩
      case round =>
        clear HA hm hI1 N1 bel1
        obtain ⟨m, acc, hm, rfl, hacc, hI, N, hbel⟩ := hrel
        have HA := Lib.hid hacc
        have hlen : acc.length ≤ 20 := by rw [← hacc, List.length_append] at hTl; omega
        clear hacc
        have n0 := fun i => N.cell i
        have hmu : toI (.float .f64 (fi (m : Int))) = m := toI_fi m (by omega)
        by_cases hge : rv i ≤ m
        · have ho : (FloatKind.f64.format.order (fi (m : Int)) (fi (rv i : Nat)) == some .gt || FloatKind.f64.format.order (fi (m : Int)) (fi (rv i : Nat)) == some .eq) = true := by
            rw [ord_fi _ _ (by omega) (by omega)]
            rcases Nat.lt_or_ge (rv i) m with h | h
            · rw [cmp_gt (by omega)]; rfl
            · rw [show (m : Int) = ((rv i : Nat) : Int) by omega, cmp_eq]; rfl
          have hsub := fun (w : World) => run_float_arith (P := Tryz.prog) w .sub 33 .f64 _ _ _ (sub_fi (m : Int) (rv i : Nat) (by omega) (by omega) (by omega) (by omega))
          rw [show (m : Int) - ((rv i : Nat) : Int) = ((m - rv i : Nat) : Int) by omega] at hsub
          go_wp2_with fail
          have hsz := hbel.size
          rw [hbb] at hsz
          refine (Buffer_WriteString_k bb bb _ ⟨(rs i).toArray⟩ _ hI hsz (Lib.byteCells_one _) (by rw [Lib.byteCells_length]; have h9 : (ByteArray.mk (rs i).toArray).size = (rs i).length := (by simp [ByteArray.size]); omega)).mono ?_
          rintro e W7 ⟨rfl, hI2, hb2, hkept⟩
          have N7 : Bk W7 rb 109 #[.float .f64 (fi (rv i : Nat)), .string ⟨(rs i).toArray⟩] := hkept rb _ N (by intro h; injection h with h; omega) (by intro c fz h; injection h with h1 h2; exact absurd h2 (by decide))
          have n7 := fun i => N7.cell i
          have bel7 := hbel.trans hb2
          rw [← Lib.byteCells_append] at hI2
          clear n0 N hI hbel hb2 hkept
          go_wp2
          go_roundw
          case rel => exact ⟨m - rv i, acc ++ rs i, by omega, rfl, by rw [List.append_assoc, ← romR_more i m hlt hge]; exact HA.out, hI2, N7, bel7⟩
          case measure => rw [hmu, toI_fi _ (by omega)]; omega
        · have ho : (FloatKind.f64.format.order (fi (m : Int)) (fi (rv i : Nat)) == some .gt || FloatKind.f64.format.order (fi (m : Int)) (fi (rv i : Nat)) == some .eq) = false := by
            rw [ord_fi _ _ (by omega) (by omega), cmp_lt (by omega)]; rfl
          go_wp2
          go_roundw
          case rel => exact ⟨i + 1, m, acc, by omega, hm, rfl, by go_num, by rw [← romR_less i m hlt (by omega)]; exact HA.out, hI, hbel⟩
          case measure => simp [intOf]; omega
    · obtain rfl : i = 13 := by omega
      have hacc := HA.out
      rw [romR_end, List.append_nil] at hacc
      subst hacc
      clear HA
      go_wp2_with fail
      refine (Buffer_String bb bb acc _ hI).mono ?_
      rintro e W8 ⟨rfl, kk, rfl⟩
      have b8 := below_drewN hbel kk
      have hsz := b8.size
      rw [hbb] at hsz
      generalize wr.drewN kk = W8 at *
      go_wp2_with fail
      refine (newStr _ _).mono ?_
      rintro e W9 ⟨rfl, b9⟩
      have R9 := (R3.below b8 sW).below b9 (by omega)
      have r4 := fun i => R9.cell i
      have q4 := fun i => R9.frozen i
      have bE := bW.trans ((b8.mono (by omega)).trans (b9.mono (by omega)))
      go_wp2
      refine bodyPost_ret (v := (.agg #[.string ⟨#[]⟩, .float .f64 0, .string (⟨acc.toArray⟩), .slice none 0 0, .slice none 0 0, .bool false, .string ⟨#[]⟩, .int .u8 2, .pointer none, .pointer none])) (by simp [results, Tryz.results71, go_sem, r4]) rfl ⟨rfl, ?_⟩
      repeat refine Below.setCell ?_ (by simp) _
      exact bE
end Go.Proofs.YtojicbajcebjjaaGreatDoor
