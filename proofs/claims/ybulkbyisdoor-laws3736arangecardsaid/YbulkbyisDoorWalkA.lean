import Derived.Test.YbulkbyisDoorProg
import Derived.WalkKit
import Derived.WalkSpells
import Derived.WalkLawsBesides
import Derived.ProofKit
import Derived.Below
import Derived.Outline
import Derived.Laws.Externs
import Derived.Laws.BitsAllLaws
import Derived.Test.YbulkbyisDoorFloatJ
namespace Go.Proofs.YbulkbyisDoor
open Go.RowKit

theorem frombits_call (n : Int) (w : World) : (callFunc 8 #[.int .u64 n]).run Ybad.prog w = .ok (.value (.float .f64 n.toNat)) w := by
  rw [run_callFunc_extern (e := Extern.MathFloatBits.float64frombits) Ybad.func8 (by kernel_rfl) (by kernel_rfl) (by kernel_rfl) (by kernel_rfl)]
  rfl
theorem bits_call (b : Nat) (w : World) : (callFunc 9 #[.float .f64 b]).run Ybad.prog w = .ok (.value (.int .u64 b)) w := by
  rw [run_callFunc_extern (e := Extern.MathFloatBits.float64bits) Ybad.func9 (by kernel_rfl) (by kernel_rfl) (by kernel_rfl) (by kernel_rfl)]
  rfl
theorem floor_call (b : Nat) (hb : (Ieee.double.read b).isNaN = false) (w : World) : (callFunc 14 #[.float .f64 b]).run Ybad.prog w = .ok (.value (.float .f64 (Ieee.double.write ((Ieee.double.read b).integral .down)))) w := by
  rw [run_callFunc_extern (e := Extern.MathFloor.toIntegral "math.archFloor" .down) Ybad.func14 (by kernel_rfl) (by kernel_rfl) (by kernel_rfl) (by kernel_rfl)]
  have e : (Extern.MathFloor.toIntegral "math.archFloor" .down #[.float .f64 b]) = pure (.float .f64 (Ieee.double.write ((Ieee.double.read b).integral .down))) := by
    have hN : ∃ N : Bool → Nat → Sem Value, Extern.MathFloor.toIntegral "math.archFloor" .down #[.float .f64 b] = (match Ieee.double.read b with
      | .nan s t => N s t
      | d => pure (.float .f64 (Ieee.double.write (d.integral .down)))) := ⟨_, rfl⟩
    obtain ⟨N, hN⟩ := hN
    rw [hN]
    split
    · rename_i s t h
      rw [h] at hb
      cases hb
    · rfl
  rw [e]
  rfl

theorem clear_sign (a : Nat) (ha : a < 2 ^ 64) : (bits .andNot .u64 (a : Int) 9223372036854775808).toNat = a % 2 ^ 63 := by
  have h := u64_andNot_nat a 9223372036854775808 (by omega) (by decide)
  have e : bits .andNot .u64 (a : Int) 9223372036854775808 = ((a &&& (18446744073709551615 - 9223372036854775808) : Nat) : Int) := h
  rw [e, show 18446744073709551615 - 9223372036854775808 = 2 ^ 63 - 1 by decide, Nat.and_two_pow_sub_one_eq_mod, Int.toNat_natCast]
theorem clear_low (a : Nat) (ha : a < 2 ^ 64) : (bits .andNot .u64 (a : Int) 134217727).toNat = a - a % 2 ^ 27 := by
  have h := u64_andNot_nat a 134217727 (by omega) (by decide)
  have e : bits .andNot .u64 (a : Int) 134217727 = ((a &&& (18446744073709551615 - 134217727) : Nat) : Int) := h
  rw [e, Int.toNat_natCast]
  have e1 : (a &&& (18446744073709551615 - 134217727)) / 2 ^ 27 = a / 2 ^ 27 := by
    rw [Nat.and_div_two_pow, show (18446744073709551615 - 134217727) / 2 ^ 27 = 2 ^ 37 - 1 by decide, Nat.and_two_pow_sub_one_eq_mod]
    omega
  have e2 : (a &&& (18446744073709551615 - 134217727)) % 2 ^ 27 = 0 := by
    rw [Nat.and_mod_two_pow, show (18446744073709551615 - 134217727) % 2 ^ 27 = 0 by decide, Nat.and_zero]
  omega

set_option maxHeartbeats 400000 in
theorem abs_any (a : Nat) (ha : a < 2 ^ 64) (w : World) :
    Calls Ybad.prog 5 #[.float .f64 a] w fun e w' => e = .returned (.float .f64 (a % 2 ^ 63)) ∧ w' = w := by
  have h1 := bits_call
  have h2 := frombits_call
  go_enter Ybad.func5, Ybad.ntmps5
  go_wp2
  go_ret
  exact ⟨congrArg (fun n => Ending.returned (.float .f64 n)) (clear_sign a ha), rfl⟩

theorem order_self {a : Nat} (fa : Fl.Fin' a) : Ieee.double.order a a = some .eq := by
  rw [Fl.order_fin fa fa]
  simp [compare, compareOfLessAndEq]

set_option maxHeartbeats 400000 in
theorem isnan_any (a : Nat) (fa : Fl.Fin' a) (w : World) :
    Calls Ybad.prog 7 #[.float .f64 a] w fun e w' => e = .returned (.bool false) ∧ w' = w := by
  have h1 : FloatKind.f64.format.order a a = some .eq := order_self fa
  go_enter Ybad.func7, Ybad.ntmps7
  go_wp2
  go_ret
  exact ⟨rfl, rfl⟩

set_option maxHeartbeats 400000 in
theorem floor_any (a : Nat) (hb : (Ieee.double.read a).isNaN = false) (w : World) :
    Calls Ybad.prog 12 #[.float .f64 a] w fun e w' => e = .returned (.float .f64 (Ieee.double.write ((Ieee.double.read a).integral .down))) ∧ w' = w := by
  have h1 := floor_call a hb
  go_enter Ybad.func12, Ybad.ntmps12
  go_wp2
  go_ret
  exact ⟨rfl, rfl⟩

/-! ### Comparisons, as the walk spells them -/
section
open Fl
theorem gt_yes {a b : Nat} (fa : Fin' a) (fb : Fin' b) (h : V b < V a) : (FloatKind.f64.format.order a b == some .gt) = true := by
  have e := order_fin fa fb
  show (Ieee.double.order a b == some .gt) = true
  rw [e]
  simp only [compare, compareOfLessAndEq]
  rw [if_neg (by omega), if_neg (by omega)]
  rfl
theorem gt_no {a b : Nat} (fa : Fin' a) (fb : Fin' b) (h : V a ≤ V b) : (FloatKind.f64.format.order a b == some .gt) = false := by
  have e := order_fin fa fb
  show (Ieee.double.order a b == some .gt) = false
  rw [e]
  simp only [compare, compareOfLessAndEq]
  by_cases h1 : V a < V b
  · rw [if_pos h1]; rfl
  · rw [if_neg h1, if_pos (by omega)]; rfl
theorem lt_yes {a b : Nat} (fa : Fin' a) (fb : Fin' b) (h : V a < V b) : (FloatKind.f64.format.order a b == some .lt) = true := by
  have e := order_fin fa fb
  show (Ieee.double.order a b == some .lt) = true
  rw [e]
  simp only [compare, compareOfLessAndEq]
  rw [if_pos h]
  rfl
theorem lt_no {a b : Nat} (fa : Fin' a) (fb : Fin' b) (h : V b ≤ V a) : (FloatKind.f64.format.order a b == some .lt) = false := by
  have e := order_fin fa fb
  show (Ieee.double.order a b == some .lt) = false
  rw [e]
  simp only [compare, compareOfLessAndEq]
  rw [if_neg (by omega)]
  split <;> rfl
theorem eq_yes {a b : Nat} (fa : Fin' a) (fb : Fin' b) (h : V a = V b) : (FloatKind.f64.format.order a b == some .eq) = true := by
  have e := order_fin fa fb
  show (Ieee.double.order a b == some .eq) = true
  rw [e]
  simp only [compare, compareOfLessAndEq]
  rw [if_neg (by omega), if_pos h]
  rfl
theorem eq_no {a b : Nat} (fa : Fin' a) (fb : Fin' b) (h : V a ≠ V b) : (FloatKind.f64.format.order a b == some .eq) = false := by
  have e := order_fin fa fb
  show (Ieee.double.order a b == some .eq) = false
  rw [e]
  simp only [compare, compareOfLessAndEq]
  rw [if_neg h]
  split <;> rfl
end

theorem max_fin : Fl.Fin' 9218868437227405311 := Fl.fin_const _ (by decide) (by decide)
theorem abs_fin {a : Nat} (fa : Fl.Fin' a) : Fl.Fin' (a % 2 ^ 63) := ⟨by have := fa.1; omega, by omega⟩
theorem abs_V {a : Nat} : Fl.V (a % 2 ^ 63) = (Fl.uv (a % 2 ^ 63) : Int) := Fl.V_pos (by omega)

set_option maxHeartbeats 400000 in
theorem isinf_any (a : Nat) (fa : Fl.Fin' a) (w : World) :
    Calls Ybad.prog 18 #[.float .f64 a, .int .i64 0] w fun e w' => e = .returned (.bool false) ∧ w' = w := by
  have H : Hid (∀ w : World, Calls Ybad.prog 5 #[.float .f64 a] w fun e w' => e = .returned (.float .f64 (a % 2 ^ 63)) ∧ w' = w) := abs_any a fa.2
  have h1 : (FloatKind.f64.format.order (a % 2 ^ 63) 9218868437227405311 == some .gt) = false := gt_no (abs_fin fa) max_fin ((Fl.V_le_iff (by omega) (by decide)).2 (by have := fa.1; rw [Fl.infR_def] at this; omega))
  generalize a % 2 ^ 63 = x at H h1
  go_enter Ybad.func18, Ybad.ntmps18
  go_wp2_with (go_at_call 5; refine (H.out _).mono ?_; rintro e w1 ⟨rfl, rfl⟩)
  go_ret
  exact ⟨rfl, rfl⟩

theorem sn_fin : Fl.Fin' 4503599627370496 := Fl.fin_const _ (by decide) (by decide)
set_option maxHeartbeats 400000 in
theorem normalize_any (a : Nat) (fa : Fl.Fin' a) (h : 4503599627370496 ≤ a % 2 ^ 63) (w : World) :
    Calls Ybad.prog 20 #[.float .f64 a] w fun e w' => e = .returned (.tuple #[.float .f64 a, .int .i64 0]) ∧ w' = w := by
  have H : Hid (∀ w : World, Calls Ybad.prog 5 #[.float .f64 a] w fun e w' => e = .returned (.float .f64 (a % 2 ^ 63)) ∧ w' = w) := abs_any a fa.2
  have h1 : (FloatKind.f64.format.order (a % 2 ^ 63) 4503599627370496 == some .lt) = false := lt_no (abs_fin fa) sn_fin ((Fl.V_le_iff (by decide) (by omega)).2 h)
  clear h
  generalize a % 2 ^ 63 = x at H h1
  go_enter Ybad.func20, Ybad.ntmps20
  go_wp2_with (go_at_call 5; refine (H.out _).mono ?_; rintro e w1 ⟨rfl, rfl⟩)
  go_ret2
  exact ⟨rfl, rfl⟩

theorem sign_zero (t : Nat) (ht : t < 2 ^ 63) : (bits .or .u64 (bits .andNot .u64 0 9223372036854775808) (bits .and .u64 (t : Int) 9223372036854775808)).toNat = 0 := by
  have e0 : bits .andNot .u64 0 9223372036854775808 = 0 := by decide +kernel
  have h := u64_and_nat t 9223372036854775808 (by omega) (by decide)
  have e : bits .and .u64 (t : Int) 9223372036854775808 = ((t &&& 9223372036854775808 : Nat) : Int) := h
  have e2 : t &&& 9223372036854775808 = 0 := by
    have a1 : (t &&& 9223372036854775808) / 2 ^ 63 = 0 := by
      rw [Nat.and_div_two_pow, show t / 2 ^ 63 = 0 by omega, Nat.zero_and]
    have a2 : (t &&& 9223372036854775808) % 2 ^ 63 = 0 := by
      rw [Nat.and_mod_two_pow, show 9223372036854775808 % 2 ^ 63 = 0 by decide, Nat.and_zero]
    omega
  rw [e0, e, e2]
  decide +kernel

set_option maxHeartbeats 400000 in
theorem copysign_any (t : Nat) (ht : t < 2 ^ 63) (w : World) :
    Calls Ybad.prog 21 #[.float .f64 0, .float .f64 t] w fun e w' => e = .returned (.float .f64 0) ∧ w' = w := by
  have h1 := bits_call
  have h2 := frombits_call
  go_enter Ybad.func21, Ybad.ntmps21
  go_wp2
  go_ret
  exact ⟨congrArg (fun n => Ending.returned (.float .f64 n)) (sign_zero t ht), rfl⟩
end Go.Proofs.YbulkbyisDoor
