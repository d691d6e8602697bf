import Derived.Test.YbulkbyisDoorWalkD
namespace Go.Proofs.YbulkbyisDoor
open Go.RowKit

theorem zero_fin : Fl.Fin' 0 := Fl.fin_const _ (by decide) (by decide)
theorem c39_fin : Fl.Fin' 4630685579355357184 := Fl.fin_const _ (by decide) (by decide)
theorem c30_fin : Fl.Fin' 4629137466983448576 := Fl.fin_const _ (by decide) (by decide)

theorem ge_yes {a b : Nat} (fa : Fl.Fin' a) (fb : Fl.Fin' b) (h : Fl.V b ≤ Fl.V a) : (FloatKind.f64.format.order a b == some .gt || FloatKind.f64.format.order a b == some .eq) = true := by
  rcases Int.lt_or_eq_of_le h with h' | h'
  · rw [gt_yes fa fb h', Bool.true_or]
  · rw [eq_yes fa fb h'.symm, Bool.or_true]
theorem le_yes {a b : Nat} (fa : Fl.Fin' a) (fb : Fl.Fin' b) (h : Fl.V a ≤ Fl.V b) : (FloatKind.f64.format.order a b == some .lt || FloatKind.f64.format.order a b == some .eq) = true := by
  rcases Int.lt_or_eq_of_le h with h' | h'
  · rw [lt_yes fa fb h', Bool.true_or]
  · rw [eq_yes fa fb h', Bool.or_true]
theorem le_no {a b : Nat} (fa : Fl.Fin' a) (fb : Fl.Fin' b) (h : Fl.V b < Fl.V a) : (FloatKind.f64.format.order a b == some .lt || FloatKind.f64.format.order a b == some .eq) = false := by
  rw [lt_no fa fb (by omega), eq_no fa fb (by omega), Bool.or_false]

theorem cmp_of {a d : Nat} (fa : Fl.Fin' a) (hd : DensR a d) :
    Cmp a (a % 2 ^ 63) d (decide (Fl.uv (a % 2 ^ 63) = 0)) (decide (39 * Fl.SN < Fl.uv (a % 2 ^ 63))) (decide (Fl.uv (a % 2 ^ 63) ≤ 30 * Fl.SN)) := by
  have fx := abs_fin fa
  have vx := abs_V (a := a)
  have va := Fl.V_natAbs a
  have c39 := Fl.c39_V
  have c30 := Fl.c30_V
  have f39 := c39_fin
  have f30 := c30_fin
  have fi := Fl.inv_fin
  have hi := hd.hi
  have hz := hd.zero
  have hf := hd.far
  have hn := hd.near
  have v0 := Fl.V_0
  have f0 := zero_fin
  refine ⟨ge_yes hd.fin f0 (by rw [v0]; exact hd.lo), le_yes hd.fin fi hi, ?_, ?_, ?_, fun h => ?_, fun h => ?_, fun h => ?_⟩
  · by_cases c : Fl.uv (a % 2 ^ 63) = 0
    · rw [decide_eq_true c]; exact eq_yes fa f0 (by rw [v0]; omega)
    · rw [decide_eq_false c]; exact eq_no fa f0 (by rw [v0]; omega)
  · by_cases c : 39 * Fl.SN < Fl.uv (a % 2 ^ 63)
    · rw [decide_eq_true c]; exact gt_yes fx f39 (by rw [c39, vx]; omega)
    · rw [decide_eq_false c]; exact gt_no fx f39 (by rw [c39, vx]; omega)
  · by_cases c : Fl.uv (a % 2 ^ 63) ≤ 30 * Fl.SN
    · rw [decide_eq_true c]; exact le_yes fx f30 (by rw [c30, vx]; omega)
    · rw [decide_eq_false c]; exact le_no fx f30 (by rw [c30, vx]; omega)
  · exact eq_yes hd.fin fi (hz (of_decide_eq_true h))
  · exact eq_yes hd.fin f0 (by rw [v0]; exact hf (of_decide_eq_true h))
  · exact gt_yes hd.fin f0 (by rw [v0]; exact hn (of_decide_eq_true h))

theorem law_any (a : Nat) (tv : Nat → Nat) (w : World) (h64 : a < 2 ^ 64) (hg : Series w tv) :
    Calls Ybad.prog 3 #[.float .f64 a] w fun e w' => e = .returned (.bool true) ∧ w' = w := by
  by_cases hf : a % 2 ^ 63 < Fl.infR
  · have fa : Fl.Fin' a := ⟨hf, h64⟩
    have fx := abs_fin fa
    by_cases hx : Fl.V (a % 2 ^ 63) ≤ Fl.V 6103021453049119613
    · have hP : Fl.uv (a % 2 ^ 63) ≤ Fl.PN := by
        have h1 := Int.le_trans hx Fl.e100_P
        rw [abs_V] at h1
        omega
      exact law_in a w _ _ _ h64 (le_yes fx e100_fin hx) ((density_any a tv w fa hP hg).mono fun e w' h => by
        obtain ⟨⟨d, he, hd⟩, hw⟩ := h
        exact ⟨⟨d, he, cmp_of fa hd⟩, hw⟩)
    · exact law_out a w h64 (le_no fx e100_fin (Int.not_le.1 hx))
  · exact law_out a w h64 (out_order (Nat.not_lt.1 hf))
end Go.Proofs.YbulkbyisDoor
