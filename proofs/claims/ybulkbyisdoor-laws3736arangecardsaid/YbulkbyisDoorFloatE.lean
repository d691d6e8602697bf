import Derived.Test.YbulkbyisDoorFloatD
namespace Go.Proofs.YbulkbyisDoor.Fl
open Ieee

theorem Rd.exact {N : Int} {z : Nat} (h : Rd N 1 z) (hN : Rep N) : V z = N :=
  Int.le_antisymm (h.le N hN (by omega)) (h.ge N hN (by omega))
theorem Rd.exactB {N b : Int} {B z : Nat} (h : Rd N B z) (hb : Rep b) (e : b * B = N) : V z = b :=
  Int.le_antisymm (h.le b hb (by omega)) (h.ge b hb (by omega))
theorem Rd.errD {N : Int} {B z : Nat} (h : Rd N B z) (h1 : N ≤ 2 ^ 52 * (DN : Int) * B) (h2 : -(2 ^ 52 * (DN : Int) * B) ≤ N) : V z * B ≤ N + (DN : Int) * B ∧ N ≤ V z * B + (DN : Int) * B := by
  have e : ((2 ^ (52 + dE) * B : Nat) : Int) = 2 ^ 52 * (DN : Int) * B := by
    rw [Nat.pow_add, ← DN_def, Int.natCast_mul, Int.natCast_mul]
    rfl
  have e2 : ((2 ^ dE * B : Nat) : Int) = (DN : Int) * B := by rw [← DN_def, Int.natCast_mul]
  have := h.err dE (by have := dE_def; omega) (by rw [e]; exact h1) (by rw [e]; exact h2)
  rw [e2] at this
  exact this

theorem fin_small {z : Nat} (h : z < 2 ^ 64) (h1 : V z ≤ 2 ^ 60 * (DN : Int)) (h2 : -(2 ^ 60 * (DN : Int)) ≤ V z) : Fin' z := by
  refine fin_of (c := 2 ^ 60 * DN) h (by omega) ?_
  have a1 := dE_def
  have a2 := topE_def
  rw [DN_def, top_def, ← Nat.pow_add]
  exact Nat.pow_lt_pow_right (by omega) (by omega)

theorem fin_const (w : Nat) (h : w % 2 ^ 63 < 2047 * 2 ^ 52) (h2 : w < 2 ^ 64) : Fin' w := ⟨by rw [infR_def]; exact h, h2⟩

theorem log2e_fin : Fin' 4609176140021203710 := fin_const _ (by decide) (by decide)
theorem half_fin : Fin' 4602678819172646912 := fin_const _ (by decide) (by decide)
theorem ln2Hi_fin : Fin' 4604418534313443328 := fin_const _ (by decide) (by decide)
theorem ln2Lo_fin : Fin' 13639225319613146676 := fin_const _ (by decide) (by decide)
theorem one_fin : Fin' 4607182418800017408 := fin_const _ (by decide) (by decide)

theorem uv_int {w e j kept : Nat} (hw : w = e * 2 ^ 52 + kept) (he : e + j = 1074) (h1 : 2 ^ 52 ≤ kept) (h2 : kept ≤ 2 * 2 ^ 52) (h63 : w < 2 ^ 63) : V w * ((2 ^ j : Nat) : Int) = (kept : Int) * (SN : Int) := by
  have h := uv_scaled' (w := w) e j kept hw he h1 h2
  rw [V_pos h63, ← Int.natCast_mul, h, Int.natCast_mul]
theorem log2e_V : V 4609176140021203710 * ((2 ^ 52 : Nat) : Int) = ((6497320848556798 : Nat) : Int) * (SN : Int) :=
  uv_int (e := 1022) (by decide) (by decide) (by decide) (by decide) (by decide)
theorem ln2Hi_V : V 4604418534313443328 * ((2 ^ 53 : Nat) : Int) = ((6243314768166912 : Nat) : Int) * (SN : Int) :=
  uv_int (e := 1021) (by decide) (by decide) (by decide) (by decide) (by decide)
theorem V_flip {r : Nat} (h : r < 2 ^ 63) : V (2 ^ 63 + r) = - V r := by rw [V_negw h, V_pos h]
theorem ln2Lo_V : V 13639225319613146676 * ((2 ^ 95 : Nat) : Int) = (-((6829247562655284 : Nat) : Int)) * (SN : Int) := by
  have h : V 4415853282758370868 * ((2 ^ 95 : Nat) : Int) = ((6829247562655284 : Nat) : Int) * (SN : Int) := uv_int (e := 979) (by decide) (by decide) (by decide) (by decide) (by decide)
  have e := V_flip (r := 4415853282758370868) (by decide)
  rw [show (13639225319613146676 : Nat) = 2 ^ 63 + 4415853282758370868 by decide, e, Int.neg_mul, h, Int.neg_mul]
theorem half_V : V 4602678819172646912 = 2 ^ 40 * (DN : Int) := by
  have h : V 4602678819172646912 * ((2 ^ 53 : Nat) : Int) = ((4503599627370496 : Nat) : Int) * (SN : Int) := uv_int (e := 1021) (by decide) (by decide) (by decide) (by decide) (by decide)
  have := SN_DN
  generalize V 4602678819172646912 = v at *
  generalize SN = S at *
  generalize DN = D at *
  omega
theorem one_V : V 4607182418800017408 = (SN : Int) := by
  have h : V 4607182418800017408 * ((2 ^ 52 : Nat) : Int) = ((4503599627370496 : Nat) : Int) * (SN : Int) := uv_int (e := 1022) (by decide) (by decide) (by decide) (by decide) (by decide)
  generalize V 4607182418800017408 = v at *
  generalize SN = S at *
  omega

theorem mul_const {x c : Nat} {j : Nat} {k : Int} (hx : Fin' x) (hc : Fin' c) (hV : V c * ((2 ^ j : Nat) : Int) = k * (SN : Int)) : ∃ z, double.mul x c = some z ∧ Rd (V x * k) (2 ^ j) z := by
  obtain ⟨z, e, h⟩ := mul_rd hx hc
  refine ⟨z, e, h.scale SN_pos (Nat.two_pow_pos _) ?_⟩
  rw [Int.mul_assoc, hV, Int.mul_assoc]

theorem small_int (s : Bool) (c : Nat) (h : c < 1100) : V (double.write (.number s c 0)) = sgn s c * (SN : Int) ∧ Fin' (double.write (.number s c 0)) := by
  have r : Rd (sgn s (c * SN)) 1 (double.write (.number s c 0)) := by
    have r := rd_sgn s c 0
    have hs := sE_def
    have h1 : ((0 : Int) + 1074).toNat = sE := by omega
    have h2 : ((-1074 : Int) - 0).toNat = 0 := by omega
    rw [h1, h2, Nat.pow_zero, ← SN_def] at r
    exact r
  generalize double.write (.number s c 0) = z at r
  have a := SN_DN
  have hr : Rep (sgn s (c * SN)) := by
    have := rep_S c (by omega)
    unfold sgn
    split
    · exact this.neg
    · exact this
  have e := r.exact hr
  have b : c * SN ≤ 1100 * SN := Nat.mul_le_mul_right _ (by omega)
  have hb : sgn s (c * SN) ≤ 2 ^ 60 * (DN : Int) ∧ -(2 ^ 60 * (DN : Int)) ≤ sgn s (c * SN) := by
    unfold sgn
    generalize c * SN = X at *
    generalize SN = S at *
    generalize DN = D at *
    split <;> omega
  exact ⟨by rw [e, sgn_mul], fin_small r.lt (by rw [e]; exact hb.1) (by rw [e]; exact hb.2)⟩

theorem toInt_all : ∀ c : Fin 1100, ∀ s : Bool, floatToIntVal .f64 (double.write (.number s c.val 0)) .i64 = some (sgn s c.val) := by decide +kernel
theorem toInt_small (s : Bool) (c : Nat) (h : c < 1100) : floatToIntVal .f64 (double.write (.number s c 0)) .i64 = some (sgn s c) := toInt_all ⟨c, h⟩ s
end Go.Proofs.YbulkbyisDoor.Fl
