/-
  Rows and columns of the reference as the program's.
-/
import Derived.Test.YtojicbajcebjjaaGreatDoorSb
import Derived.Deep.RegionLaw
import Derived.Deep.AppendLies
namespace Go.Proofs.YtojicbajcebjjaaGreatDoor
open Go.RowKit
attribute [local go_sem] run_store_float

theorem add_zero5 (o k j : Nat) (h : k = 0) : o + k * 5 + j = o + j := by subst h; omega
theorem add_zero4 (o k j : Nat) (h : k = 0) : o + k * 4 + j = o + j := by subst h; omega

set_option maxRecDepth 100000 in
set_option maxHeartbeats 1600000 in
/-- A row of one number. -/
theorem all_row (b o c : Nat) (n : Int) (w : World) (hc : ∀ j u, (sv n)[j]? = some u → w.cell? ⟨b, o + j, none⟩ = some u) (hb : b < w.heap.size) (f0 : n ≤ 99999999999) (f1 : -99999999999 ≤ n) :
    Calls Tryz.prog 13 #[.slice (some ⟨b, o, none⟩) 1 c] w fun e w' => ∃ v, e = .returned v ∧ Rw w' w.heap.size w'.heap.size 36 v (nv n) ∧ Below w.heap.size w w' := by
  obtain ⟨i0, hi, hz0, hz1, hz2⟩ := info_parts Tryz.info36
  go_enter Tryz.func13, Tryz.ntmps13
  go_wp2_with fail
  go_loopw [3, 4] (fun v i wr => ∃ k : Nat, k ≤ 1 ∧ i = .int .i64 k ∧ wr.ownsRow w.heap.size 36 4 v k (nvs ([n].take k)) ∧ Below w.heap.size w wr)
    (fun _ i _ => 1 - (intOf i).toNat)
  case atStart => exact ⟨0, Nat.zero_le _, rfl, World.ownsRow_nil _ _ _ _, Below.refl _ _⟩
  case round =>
    obtain ⟨k, hk, rfl, hown, hbel⟩ := hrel
    by_cases hlt : k < 1
    · have hk0 : k = 0 := by omega
      have d := fun j u hu => (hbel.cell (p := ⟨b, o + j, none⟩) hb).trans (hc j u hu)
      have d0 : wr.cell? ⟨b, o + k * 5, none⟩ = some (.int .i64 1) := by have := d 0 _ rfl; rwa [← add_zero5 o k 0 hk0] at this
      have d1 : wr.cell? ⟨b, o + k * 5 + 1, none⟩ = some (.int .i64 n) := by rw [add_zero5 o k 1 hk0]; exact d 1 _ rfl
      have d2 : wr.cell? ⟨b, o + k * 5 + 2, none⟩ = some (.int .i64 1) := by rw [add_zero5 o k 2 hk0]; exact d 2 _ rfl
      have d3 : wr.cell? ⟨b, o + k * 5 + 3, none⟩ = some (.string ⟨#[]⟩) := by rw [add_zero5 o k 3 hk0]; exact d 3 _ rfl
      have d4 : wr.cell? ⟨b, o + k * 5 + 4, none⟩ = some (.slice none 0 0) := by rw [add_zero5 o k 4 hk0]; exact d 4 _ rfl
      have HK := Lib.hid hk0
      have hsz := hbel.size
      clear d hk0
      go_wp2_with fail
      refine (of_num n _ f0 f1).mono ?_
      rintro e w2 ⟨rfl, hb2⟩
      have hown2 := own_below hown hb2
      have hbel2 := hbel.trans (hb2.mono hsz)
      have s2 := hbel2.size
      clear hown hbel hb2 d0 d1 d2 d3 d4
      go_wp2_with (at_builtin; refine wpList_append_own _ rfl (.tmp 11) (.tmp 17) 25 rfl w.heap.size 36 i0 _ 4 56 Tryz.underlying25 hi hz0 hz1 hz2 rfl (by decide) _ k _ rfl (hown2.alloc _) ⟨w2.heap.size, 0, none⟩ 1 1 (nv n) rfl rfl ?c1 ?c2 ?c3 ?c4 ?c5 ?_)
      case c1 => exact cells_new w2 _ 36
      case c2 => intro u hu; simp [nv] at hu; rcases hu with rfl | rfl | rfl | rfl <;> rfl
      case c3 => unfold maxLen; omega
      case c4 => omega
      case c5 => simp; omega
      intro v' w3 hown3 hgrow _
      have hbel3 := below_grown (hbel2.alloc hbel2.size _) (by simp; omega) (hown2.alloc _) (Nat.le_refl _) hgrow
      clear hown2 hbel2 hgrow
      have hn3 : nvs ([n].take k) ++ nv n = nvs ([n].take (k + 1)) := by rw [HK.out]; rfl
      rw [hn3] at hown3
      go_wp2
      go_roundw
      case rel => exact ⟨k + 1, by omega, by go_num, hown3, hbel3⟩
      case measure => simp [intOf]; omega
    · obtain rfl : k = 1 := by omega
      have hrw := Rw.of_own hown
      have e1 : nvs ([n].take 1) = nv n := by simp [nvs]
      rw [e1] at hrw
      clear hown
      go_wp2
      go_ret
      exact ⟨_, rfl, hrw, hbel⟩

theorem Bk.grown_own {w w3 : World} {g n base size : Nat} {t e : TypeId} {cs : Array Value} {v : Value} {ys : List Value} (h : Bk w g t cs) (ho : w.ownsRow base e size v n ys) (hg : w.grownBy w3 v.ownBlock) (hlt : g < base) : Bk w3 g t cs :=
  (hg.block g h.lt (by intro he; have := ho.lt g he.symm; omega)).trans h

/-- What a row that is made and appended leaves. -/
theorem after_push {W0 wr w2 w3 : World} {g3 k base : Nat} {t3 t e : TypeId} {cs3 : Array Value} {v v2 : Value} {rows : List Value} {f : Int → List Value} {l : List Int} {z : Int}
    (N3 : Bk wr g3 t3 cs3) (hown : wr.ownsRow base e 1 v k rows) (hrows : Rows wr base wr.heap.size t f (l.take k) rows) (hbel : Below g3 W0 wr) (hz : l[k]? = some z) (b2 : Below wr.drew.heap.size wr.drew w2) (r2 : Rw w2 wr.drew.heap.size w2.heap.size t v2 (f z))
    (hgrow : (w2.alloc (.cells #[v2] e)).grownBy w3 v.ownBlock) (hg : g3 < base) (hb : base ≤ wr.heap.size) (hne : t ≠ e) :
    Bk w3 g3 t3 cs3 ∧ Rows w3 base w3.heap.size t f (l.take (k + 1)) (rows ++ [v2]) ∧ Below g3 W0 w3 := by
  have s2 : wr.heap.size ≤ w2.heap.size := b2.size
  have b2' : Below wr.heap.size wr w2 := ⟨b2.os, b2.tape, b2.output, b2.size, b2.block⟩
  have hown2 : (w2.alloc (.cells #[v2] e)).ownsRow base e 1 v k rows := (own_below hown b2').alloc _
  have h1 : Bk (w2.alloc (.cells #[v2] e)) g3 t3 cs3 := (N3.later b2').alloc _
  have h2 : Rows (w2.alloc (.cells #[v2] e)) base w2.heap.size t f (l.take k) rows := ((hrows.below b2' (Nat.le_refl _)).more (Nat.le_refl _) s2).alloc (Nat.le_refl _) _
  have r2' : Rw (w2.alloc (.cells #[v2] e)) base w2.heap.size t v2 (f z) := (r2.below ((Below.refl w2.heap.size w2).alloc (Nat.le_refl _) _) (Nat.le_refl _)).more hb (Nat.le_refl _)
  refine ⟨h1.grown_own hown2 hgrow hg, h2.push hz r2' (by simp) hown2 hne hgrow, ?_⟩
  have h3 : Below g3 W0 (w2.alloc (.cells #[v2] e)) := (hbel.trans (b2'.mono (by omega))).alloc (by omega) _
  exact h3.grown hgrow (by simp; omega) (fun x hx => by have := hown2.lt x hx; omega)

/-- The grown slice is stored in the block that holds it. -/
theorem after_store {W0 w3 : World} {g3 n base : Nat} {t3 t e : TypeId} {cs3 : Array Value} {v : Value} {rows : List Value} {f : Int → List Value} {l : List Int} (i : Nat) (x : Value)
    (N3 : Bk w3 g3 t3 cs3) (hown : w3.ownsRow base e 1 v n rows) (hrows : Rows w3 base w3.heap.size t f l rows) (hbel : Below g3 W0 w3) (hg : g3 < base) :
    Bk (w3.setCell ⟨g3, i, none⟩ x) g3 t3 (cs3.setIfInBounds i x) ∧ (w3.setCell ⟨g3, i, none⟩ x).ownsRow base e 1 v n rows ∧ Rows (w3.setCell ⟨g3, i, none⟩ x) base (w3.setCell ⟨g3, i, none⟩ x).heap.size t f l rows ∧ Below g3 W0 (w3.setCell ⟨g3, i, none⟩ x) := by
  have hk : ∀ b, base ≤ b → (w3.setCell ⟨g3, i, none⟩ x).heap[b]? = w3.heap[b]? := fun b hb => Below.heap_setCell _ _ _ b (by simp; omega)
  refine ⟨N3.set_ i x, ?_, ?_, hbel.setCell (Nat.le_refl _) _⟩
  · refine ⟨hown.1, ?_⟩
    rcases hown.2 with h | ⟨g, cap, cur, h1, h2, h3, h4⟩
    · exact .inl h
    · exact .inr ⟨g, cap, cur, h1, h2, by rw [hk g h2]; exact h3, h4⟩
  · have := Rows.more (w := w3.setCell ⟨g3, i, none⟩ x) (lo := base) (hi := w3.heap.size) (lo' := base) (hi' := (w3.setCell ⟨g3, i, none⟩ x).heap.size) (t := t) (f := f) (ns := l) (rows := rows) ⟨hrows.1, fun k n v a b => (hrows.2 k n v a b).keep fun b h1 _ _ => hk b h1⟩ (Nat.le_refl _) (by simp)
    exact this

theorem Tryz.info25' : (Tryz.prog.info? 25).map (fun i => (i.zero, i.size, i.bytes)) = some (some (.slice none 0 0), 1, 24) := by kernel_rfl

set_option maxRecDepth 100000 in
set_option maxHeartbeats 3200000 in
/-- A column. -/
theorem of_col (lo : Nat) (A : Option Addr) (len c : Nat) (l : List Int) (w : World) (hlen : l.length = len) (hl : len ≤ 1000) (hcol : Col w lo w.heap.size 29 A sv l) (hs : ∀ z ∈ l, z ≤ 99999999999 ∧ -99999999999 ≤ z) :
    Calls Tryz.prog 41 #[.agg #[.int .i64 5, .int .i64 0, .int .i64 0, .string ⟨#[]⟩, .slice A len c]] w fun e w' => ∃ A' c', e = .returned (.agg #[.int .i64 5, .float .f64 0, .string ⟨#[]⟩, .slice A' len c']) ∧ Col w' w.heap.size w'.heap.size 36 A' nv l ∧ Below w.heap.size w w' := by
  obtain ⟨i0, hi, hz0, hz1, hz2⟩ := info_parts Tryz.info25'
  have HL : Hid (l.length = len) := hlen
  clear hlen
  go_enter Tryz.func41, Tryz.ntmps41
  go_wp2_with fail
  have G1 := ((Bk.new w 29 #[.int .i64 5, .int .i64 0, .int .i64 0, .string ⟨#[]⟩, .slice A len c]).alloc (.cells #[.int .i64 0, .float .f64 0, .string ⟨#[]⟩, .slice none 0 0] 36)).alloc (.cells #[.int .i64 5, .float .f64 0, .string ⟨#[]⟩, .slice none 0 0] 36)
  have G2 : Bk (((w.alloc (.cells #[.int .i64 5, .int .i64 0, .int .i64 0, .string ⟨#[]⟩, .slice A len c] 29)).alloc (.cells #[.int .i64 0, .float .f64 0, .string ⟨#[]⟩, .slice none 0 0] 36)).alloc (.cells #[.int .i64 5, .float .f64 0, .string ⟨#[]⟩, .slice none 0 0] 36)) (w.heap.size + 1) 36 #[.int .i64 0, .float .f64 0, .string ⟨#[]⟩, .slice none 0 0] := by
    have := (Bk.new (w.alloc (.cells #[.int .i64 5, .int .i64 0, .int .i64 0, .string ⟨#[]⟩, .slice A len c] 29)) 36 #[.int .i64 0, .float .f64 0, .string ⟨#[]⟩, .slice none 0 0]).alloc (.cells #[.int .i64 5, .float .f64 0, .string ⟨#[]⟩, .slice none 0 0] 36)
    simpa using this
  have G3 : Bk (((w.alloc (.cells #[.int .i64 5, .int .i64 0, .int .i64 0, .string ⟨#[]⟩, .slice A len c] 29)).alloc (.cells #[.int .i64 0, .float .f64 0, .string ⟨#[]⟩, .slice none 0 0] 36)).alloc (.cells #[.int .i64 5, .float .f64 0, .string ⟨#[]⟩, .slice none 0 0] 36)) (w.heap.size + 1 + 1) 36 #[.int .i64 5, .float .f64 0, .string ⟨#[]⟩, .slice none 0 0] := by
    have := Bk.new ((w.alloc (.cells #[.int .i64 5, .int .i64 0, .int .i64 0, .string ⟨#[]⟩, .slice A len c] 29)).alloc (.cells #[.int .i64 0, .float .f64 0, .string ⟨#[]⟩, .slice none 0 0] 36)) 36 #[.int .i64 5, .float .f64 0, .string ⟨#[]⟩, .slice none 0 0]
    simpa using this
  have bz := (((Below.refl w.heap.size w).alloc (Nat.le_refl _) (.cells #[.int .i64 5, .int .i64 0, .int .i64 0, .string ⟨#[]⟩, .slice A len c] 29)).alloc (by simp) (.cells #[.int .i64 0, .float .f64 0, .string ⟨#[]⟩, .slice none 0 0] 36)).alloc (by simp; omega) (.cells #[.int .i64 5, .float .f64 0, .string ⟨#[]⟩, .slice none 0 0] 36)
  have sz : (((w.alloc (.cells #[.int .i64 5, .int .i64 0, .int .i64 0, .string ⟨#[]⟩, .slice A len c] 29)).alloc (.cells #[.int .i64 0, .float .f64 0, .string ⟨#[]⟩, .slice none 0 0] 36)).alloc (.cells #[.int .i64 5, .float .f64 0, .string ⟨#[]⟩, .slice none 0 0] 36)).heap.size = w.heap.size + 1 + 1 + 1 := by simp
  have hcol0 := hcol.below bz (Nat.le_refl _)
  generalize (((w.alloc (.cells #[.int .i64 5, .int .i64 0, .int .i64 0, .string ⟨#[]⟩, .slice A len c] 29)).alloc (.cells #[.int .i64 0, .float .f64 0, .string ⟨#[]⟩, .slice none 0 0] 36)).alloc (.cells #[.int .i64 5, .float .f64 0, .string ⟨#[]⟩, .slice none 0 0] 36)) = W0 at *
  clear hcol
  generalize hH : w.heap.size = H at *
  go_loopw [4] (fun i wr => ∃ (k : Nat) (rows : List Value) (v : Value), k ≤ len ∧ i = .int .i64 k ∧ Bk wr (H + 1 + 1) 36 #[.int .i64 5, .float .f64 0, .string ⟨#[]⟩, v] ∧ wr.ownsRow (H + 1 + 1 + 1) 25 1 v k rows ∧ Rows wr (H + 1 + 1 + 1) wr.heap.size 36 nv (l.take k) rows ∧ Below (H + 1 + 1) W0 wr)
    (fun i _ => len - (intOf i).toNat)
  case atStart => exact ⟨0, [], _, Nat.zero_le _, rfl, G3, World.ownsRow_nil _ _ _ _, Rows.nil, Below.refl _ _⟩
  case round =>
    obtain ⟨k, rows, v, hk, rfl, N3, hown, hrows, hbel⟩ := hrel
    have hsz := hbel.size
    have N1 := G1.below hbel (by omega)
    have n1 := fun i => N1.cell i
    have n3 := fun i => N3.cell i
    have q3 := fun i => N3.frozen i
    by_cases hlt : k < len
    · obtain ⟨z, hz⟩ : ∃ z, l[k]? = some z := ⟨_, List.getElem?_eq_getElem (by rw [HL.out]; exact hlt)⟩
      obtain ⟨b, o, b1, o1, c1, rfl, hb, hrow, hb1, hc⟩ := (hcol0.below hbel (by omega)).at_ hz
      have hcd : ∀ j u, (sv z)[j]? = some u → wr.drew.cell? ⟨b1, o1 + j, none⟩ = some u := hc
      have hbd : b1 < wr.drew.heap.size := show b1 < wr.heap.size by omega
      obtain ⟨f0, f1⟩ := hs z (List.mem_of_getElem? hz)
      have HZ := Lib.hid hz
      have HC := Lib.hid hcd
      have HO := Lib.hid hown
      have HR := Lib.hid hrows
      have HB := Lib.hid hbel
      clear hc hz hcd hown hrows hbel
      go_wp2_with fail
      have hg1 : H + 1 + 1 < H + 1 + 1 + 1 := by omega
      have hg2 : H + 1 + 1 + 1 ≤ wr.heap.size := by omega
      have hne36 : (36 : Nat) ≠ 25 := by decide
      go_region_law (first
        | (go_simp; go_at_call 13; refine (all_row b1 o1 c1 z _ HC.out hbd f0 f1).mono ?_; rintro e w2 ⟨v2, rfl, r2, b2⟩; have R2 := Lib.hid r2; obtain ⟨g2, o2, c2, rfl, _, _, _, _⟩ := r2; have M2 := Bk.later (w := wr.drew) N3 b2; have l2 := M2.lt; have m2 := fun i => M2.cell i)
        | (refine step_append_lies _ rfl (.tmp 38) (.tmp 45) 34 rfl (H + 1 + 1 + 1) 25 i0 _ 1 24 Tryz.underlying34 hi hz0 hz1 hz2 rfl Nat.one_pos v k rows ?_ ?_ ⟨w2.heap.size, 0, none⟩ 1 1 [.slice (some ⟨g2, o2, none⟩) 1 c2] ?_ rfl (cells_new w2 _ 25) ?_ Nat.one_pos ?_ ?_ ?_ _ rfl ?_
           · simp [Act.eval]
           · exact (own_below (w := wr.drew) HO.out b2).alloc _
           · simp [Act.eval]
           · intro u hu; simp at hu; subst hu; rfl
           · unfold maxLen; omega
           · omega
           · exact Nat.le_trans (show H + 1 + 1 + 1 ≤ wr.heap.size by omega) (Nat.le_trans (show wr.heap.size ≤ w2.heap.size from b2.size) (by simp))
           intro g4 cap4 w3 hown3 hgrow3 _ _
           have hx := after_push N3 HO.out HR.out HB.out HZ.out b2 R2.out hgrow3 hg1 hg2 hne36
           have M3 := hx.1
           have m3 := fun i => M3.cell i
           have p3 := fun i => M3.frozen i
           have HX := Lib.hid hx
           have HO3 := Lib.hid hown3
           clear hx hown3 hgrow3))
      all_goals
        obtain ⟨y1, y2, y3, y4⟩ := after_store 3 (Value.slice (some ⟨g4, 0, none⟩) (k + 1) cap4) HX.out.1 HO3.out HX.out.2.1 HX.out.2.2 hg1
        clear HX HO3 HO HR HB HC m2 M2 l2 R2 b2 M3 m3 p3 N3 n3 q3 N1 n1
        generalize World.setCell w3 _ _ = W4 at *
        go_wp2
        go_roundw
        case rel => exact ⟨k + 1, _, _, by omega, by go_num, y1, y2, y3, y4⟩
        case measure => simp [intOf]; omega
    · have hke : k = len := by omega
      subst hke
      rw [← HL.out, List.take_of_length_le (Nat.le_refl _)] at hrows
      obtain ⟨A1, c1, rfl, hcol1⟩ := Col.of_own hown hrows
      have N2 := G2.below hbel (by omega)
      have n2 := fun i => N2.cell i
      have q2 := fun i => N2.frozen i
      have be := bz.trans (hbel.mono (by omega))
      clear hown hrows hcol0
      go_wp2
      refine bodyPost_ret (v := .agg #[.int .i64 5, .float .f64 0, .string ⟨#[]⟩, .slice A1 k c1]) (by simp [results, Tryz.results41, go_sem, n2]) rfl ⟨A1, c1, rfl, ?_, ?_⟩
      · rw [hH]
        refine (hcol1.keep (w' := _) fun b hl hb => ?_).more (by omega) (by simp)
        repeat refine (Below.heap_setCell _ _ _ b (by simp; omega)).trans ?_
        rfl
      · rw [hH]
        repeat refine Below.setCell ?_ (by simp; try omega) _
        exact be
end Go.Proofs.YtojicbajcebjjaaGreatDoor
