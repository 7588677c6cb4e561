/-
  WALKS of seat b6614357aD: math.IsNaN, Abs, Trunc.
-/
import Derived.Test.Qxb6614357aDoorFloat

namespace Go.Proofs.Qxb6614357aDoor
open Go.RowKit Ieee

set_option maxHeartbeats 400000 in
theorem isNaN_calls (b : Nat) (w : World) :
    Calls Tryd.prog 19 #[.float .f64 b] w fun e w' => e = .returned (.bool (double.read b).isNaN) ∧ w' = w := by
  rw [← order_self]
  go_enter Tryd.func19, Tryd.ntmps19
  go_wp2
  go_ret
  exact ⟨rfl, rfl⟩

theorem bits_run (b : Nat) (w : World) : (callFunc 32 #[.float .f64 b]).run Tryd.prog w = .ok (.value (.int .u64 b)) w := by
  rw [run_callFunc_extern (e := Extern.MathFloatBits.float64bits) Tryd.func32 (by kernel_rfl) (by kernel_rfl) (by kernel_rfl) (by kernel_rfl)]
  rfl
theorem frombits_run (n : Int) (w : World) : (callFunc 31 #[.int .u64 n]).run Tryd.prog w = .ok (.value (.float .f64 n.toNat)) w := by
  rw [run_callFunc_extern (e := Extern.MathFloatBits.float64frombits) Tryd.func31 (by kernel_rfl) (by kernel_rfl) (by kernel_rfl) (by kernel_rfl)]
  rfl
theorem integral_form (n : String) (way : Toward) (b : Nat) : ∃ F : Bool → Nat → Sem Value, Extern.MathFloor.toIntegral n way #[.float .f64 b] =
    match FloatKind.f64.decode b with
    | .nan s t => F s t
    | d => pure (.float .f64 (FloatKind.f64.encode (d.integral way))) := ⟨_, rfl⟩
theorem trunc_run (b : Nat) (w : World) (h : (double.read b).isNaN = false) : (callFunc 29 #[.float .f64 b]).run Tryd.prog w = .ok (.value (.float .f64 (truncW b))) w := by
  rw [run_callFunc_extern (e := Extern.MathFloor.toIntegral "math.archTrunc" .zero) Tryd.func29 (by kernel_rfl) (by kernel_rfl) (by kernel_rfl) (by kernel_rfl)]
  obtain ⟨F, hF⟩ := integral_form "math.archTrunc" .zero b
  rw [hF]
  unfold truncW
  have hd : FloatKind.f64.decode b = double.read b := rfl
  rw [hd]
  cases hr : double.read b with
  | number s m i => rfl
  | infinity s => rfl
  | nan s t => rw [hr] at h; cases h
theorem abs_bits (b : Nat) (hb : b < 18446744073709551616) : bits .andNot .u64 (b : Int) 9223372036854775808 = ((absW b : Nat) : Int) := by
  have := u64_andNot_nat b 9223372036854775808 hb (by decide)
  rw [show ((9223372036854775808 : Nat) : Int) = 9223372036854775808 from rfl] at this
  rw [this]
  unfold absW
  exact congrArg _ (Nat.and_two_pow_sub_one_eq_mod b 63)

set_option maxHeartbeats 400000 in
theorem abs_calls (b : Nat) (w : World) (hb : b < 18446744073709551616) :
    Calls Tryd.prog 21 #[.float .f64 b] w fun e w' => e = .returned (.float .f64 (absW b)) ∧ w' = w := by
  have h1 := bits_run b
  have h2 := frombits_run
  have h3 := abs_bits b hb
  go_enter Tryd.func21, Tryd.ntmps21
  go_wp2
  go_ret
  exact ⟨rfl, rfl⟩
set_option maxHeartbeats 400000 in
theorem trunc_calls (b : Nat) (w : World) (h : (double.read b).isNaN = false) :
    Calls Tryd.prog 20 #[.float .f64 b] w fun e w' => e = .returned (.float .f64 (truncW b)) ∧ w' = w := by
  have h1 := fun w => trunc_run b w h
  go_enter Tryd.func20, Tryd.ntmps20
  go_wp2
  go_ret
  exact ⟨rfl, rfl⟩
end Go.Proofs.Qxb6614357aDoor
