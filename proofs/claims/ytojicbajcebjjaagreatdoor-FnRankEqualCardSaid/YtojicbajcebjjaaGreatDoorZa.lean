/-
  Small whole numbers as float64, and their order as the library's sort asks for it.
-/
import Derived.Test.YtojicbajcebjjaaGreatDoorD
import Derived.Sort.Grow
import Derived.Sort.Statements
namespace Go.Proofs.YtojicbajcebjjaaGreatDoor
open Go.RowKit Go.Sort

abbrev FK : Type := Fin 401
/-- the number itself: -200 to 200 -/
def kz (x : FK) : Int := (x.val : Int) - 200
theorem kf_ex : ∃ f : FK → Nat, ∀ x, f x = fi (kz x) := ⟨fun x => fi (kz x), fun _ => rfl⟩
/-- its float: behind a choice, so that nothing lays it open -/
noncomputable def kf : FK → Nat := Classical.choose kf_ex
theorem kf_eq (x : FK) : kf x = fi (kz x) := Classical.choose_spec kf_ex x
noncomputable abbrev encK : FK → Value := fun x => Value.float .f64 (kf x)
def ltK (x y : FK) : Bool := decide (kz x < kz y)

theorem kz_bd (x : FK) : (kz x).natAbs < 2 ^ 53 := by
  have := x.isLt
  unfold kz
  omega
theorem ord_kf (x y : FK) : FloatKind.f64.format.order (kf x) (kf y) = some (compare (kz x) (kz y)) := by
  rw [kf_eq, kf_eq]
  exact order_fi _ _ (kz_bd x) (kz_bd y)
theorem ord_kf_self (x : FK) : FloatKind.f64.format.order (kf x) (kf x) = some .eq := by
  rw [kf_eq]
  exact ord_self _ (kz_bd x)
theorem lt_kf (x y : FK) : (FloatKind.f64.format.order (kf x) (kf y) == some .lt) = ltK x y := by
  rw [ord_kf]
  unfold ltK
  simp only [compare, compareOfLessAndEq]
  by_cases h : kz x < kz y
  · simp [h]
  · by_cases h2 : kz x = kz y <;> simp [h, h2]
theorem kz_inj {x y : FK} (h : kz x = kz y) : x = y := by
  unfold kz at h
  exact Fin.ext (by omega)
theorem swoK : SWO ltK where
  irrefl := fun x => by simp [ltK]
  trans := fun x y z h1 h2 => by simp [ltK] at h1 h2 ⊢; omega
  ntrans := fun x y z h1 h2 => by simp [ltK] at h1 h2 ⊢; omega

set_option maxHeartbeats 1000000 in
theorem cmp_isNaN_K (x : FK) (w : World) : Calls Tryz.prog 207 #[.float .f64 (kf x)] w fun e w' => e = .returned (.bool false) ∧ w' = w := by
  have h := ord_kf_self x
  go_enter Tryz.func207, Tryz.ntmps207
  go_wp2
  go_ret
  exact ⟨by simp, rfl⟩

set_option maxHeartbeats 1000000 in
theorem cmp_Less_K (x y : FK) (w : World) : Calls Tryz.prog 178 #[.float .f64 (kf x), .float .f64 (kf y)] w fun e w' => e = .returned (.bool (ltK x y)) ∧ w' = w := by
  go_enter Tryz.func178, Tryz.ntmps178
  go_wp2_with (go_at_call 207; refine (cmp_isNaN_K _ _).mono ?_; rintro e w' ⟨rfl, rfl⟩)
  go_ret
  refine ⟨?_, rfl⟩
  rw [← lt_kf]
  rfl

end Go.Proofs.YtojicbajcebjjaaGreatDoor
