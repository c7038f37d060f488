/-
  math.Trunc, Ceil, Floor, Round over whole numbers.
-/
import Derived.Test.YtojicbajcebjjaaGreatDoorE
namespace Go.Proofs.YtojicbajcebjjaaGreatDoor
open Go.RowKit
attribute [local go_sem] run_store_float

theorem toIntegral_num (name : String) (way : Ieee.Toward) (x : Nat) (s : Bool) (m : Nat) (p : Int) (h : FloatKind.f64.decode x = .number s m p) : Extern.MathFloor.toIntegral name way #[.float .f64 x] = pure (Value.float .f64 (FloatKind.f64.encode ((Ieee.Datum.number s m p).integral way))) := by
  change (match FloatKind.f64.decode x with
    | .nan s t => (if FloatKind.f64.format.quiet t = t then pure (Value.float .f64 x) else (choose (.extern "math.Floor,Ceil,Trunc,RoundToEven.signallingNaN kept" 2)) >>= fun kept => pure (Value.float .f64 (if kept == 1 then x else FloatKind.f64.encode (.nan s (FloatKind.f64.format.quiet t)))))
    | d => pure (Value.float .f64 (FloatKind.f64.encode (d.integral way)))) = _
  rw [h]

/-- x cut to a whole number, one way or another. -/
def cutF (way : Ieee.Toward) (x : Nat) : Nat := FloatKind.f64.encode ((FloatKind.f64.decode x).integral way)
def isNum (x : Nat) : Bool := match FloatKind.f64.decode x with | .number .. => true | _ => false

theorem cut_fi (n : Int) (h : n.natAbs < 2 ^ 53) (way : Ieee.Toward) : cutF way (fi n) = fi n := write_integral_fi n h way
theorem isNum_fi (n : Int) (h : n.natAbs < 2 ^ 53) : isNum (fi n) = true := by
  obtain ⟨m, j, hm, _, _⟩ := read_fi n h
  unfold isNum
  rw [show FloatKind.f64.decode (fi n) = .number (decide (n < 0)) m (-(j : Int)) from hm]

theorem run_arch {f : FuncId} {fn : Func} {name : String} {way : Ieee.Toward} (hf : Tryz.prog.funcs[f]? = some fn) (hname : (fn.name == "runtime.NumGoroutine") = false) (hb : fn.body.isNone = true) (hn : Extern.findNext fn = none) (he : Extern.find fn = some (Extern.MathFloor.toIntegral name way)) (x : Nat) (h : isNum x = true) (w : World) :
    (callFunc f #[.float .f64 x]).run Tryz.prog w = .ok (.value (.float .f64 (cutF way x))) w := by
  unfold isNum at h
  split at h
  · rename_i s m p hd
    rw [run_callFunc_extern hf hname hb hn he, toIntegral_num name way x s m p hd]
    unfold cutF
    rw [hd]
    rfl
  · cases h

theorem run_trunc (x : Nat) (h : isNum x = true) (w : World) : (callFunc 108 #[.float .f64 x]).run Tryz.prog w = .ok (.value (.float .f64 (cutF .zero x))) w :=
  run_arch Tryz.func108 (by kernel_rfl) (by kernel_rfl) (by kernel_rfl) (show Extern.find Tryz.f108 = some (Extern.MathFloor.toIntegral "math.archTrunc" .zero) by kernel_rfl) x h w
theorem run_ceil (x : Nat) (h : isNum x = true) (w : World) : (callFunc 111 #[.float .f64 x]).run Tryz.prog w = .ok (.value (.float .f64 (cutF .up x))) w :=
  run_arch Tryz.func111 (by kernel_rfl) (by kernel_rfl) (by kernel_rfl) (show Extern.find Tryz.f111 = some (Extern.MathFloor.toIntegral "math.archCeil" .up) by kernel_rfl) x h w
theorem run_floor (x : Nat) (h : isNum x = true) (w : World) : (callFunc 138 #[.float .f64 x]).run Tryz.prog w = .ok (.value (.float .f64 (cutF .down x))) w :=
  run_arch Tryz.func138 (by kernel_rfl) (by kernel_rfl) (by kernel_rfl) (show Extern.find Tryz.f138 = some (Extern.MathFloor.toIntegral "math.archFloor" .down) by kernel_rfl) x h w

set_option maxHeartbeats 400000 in
theorem trunc_any (x : Nat) (w : World) (h : isNum x = true) :
    Calls Tryz.prog 89 #[.float .f64 x] w fun e w' => e = .returned (.float .f64 (cutF .zero x)) ∧ w = w' := by
  have ht := fun w => run_trunc x h w
  clear h
  go_enter Tryz.func89, Tryz.ntmps89
  go_wp2
  go_ret
  exact ⟨rfl, rfl⟩

theorem trunc_fi (n : Int) (w : World) (h : n.natAbs < 2 ^ 53) :
    Calls Tryz.prog 89 #[.float .f64 (fi n)] w fun e w' => e = .returned (.float .f64 (fi n)) ∧ w = w' := by
  have := trunc_any (fi n) w (isNum_fi n h)
  rwa [cut_fi n h] at this

set_option maxHeartbeats 400000 in
theorem ceil_any (x : Nat) (w : World) (h : isNum x = true) :
    Calls Tryz.prog 91 #[.float .f64 x] w fun e w' => e = .returned (.float .f64 (cutF .up x)) ∧ w = w' := by
  have ht := fun w => run_ceil x h w
  clear h
  go_enter Tryz.func91, Tryz.ntmps91
  go_wp2
  go_ret
  exact ⟨rfl, rfl⟩
end Go.Proofs.YtojicbajcebjjaaGreatDoor
