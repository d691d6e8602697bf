import Derived.Test.YbulkbyisDoorFloatC
import Derived.Laws.FloatArith
namespace Go.Proofs.YbulkbyisDoor.Fl
open Ieee

/-! ### Scales: S is one, T is one 64th, D bounds a rounding's error below 2048 -/
def dE : Nat := hide (1033)
theorem dE_def : dE = 1033 := by unfold dE; exact hide_eq _
def DN : Nat := hide (2 ^ dE)
theorem DN_def : DN = 2 ^ dE := by unfold DN; exact hide_eq _
theorem DN_pos : 0 < DN := by rw [DN_def]; exact Nat.two_pow_pos _
theorem SN_DN : SN = 2 ^ 41 * DN := by
  have h1 := dE_def
  have h2 := sE_def
  rw [SN_def, DN_def, ← Nat.pow_add]
  congr 1
  omega

theorem V_pos {w : Nat} (h : w < 2 ^ 63) : V w = (uv w : Int) := by
  unfold V
  have a1 : w / 2 ^ 63 = 0 := by omega
  have a2 : w % 2 ^ 63 = w := by omega
  rw [a1, a2]
  rfl
theorem V_negw {r : Nat} (h : r < 2 ^ 63) : V (2 ^ 63 + r) = -(uv r : Int) := by
  unfold V
  have a1 : (2 ^ 63 + r) / 2 ^ 63 = 1 := by omega
  have a2 : (2 ^ 63 + r) % 2 ^ 63 = r := by omega
  rw [a1, a2]
  rfl

/-- The magnitude of a rung below 1 * 2 ^ 53, scaled. -/
theorem uv_scaled (e j kept : Nat) (he : e + j = 1074) (h1 : bin ≤ kept) (h2 : kept ≤ 2 * bin) : uv (e * bin + kept) * 2 ^ j = kept * SN := by
  rw [uv_form e kept (Or.inr ⟨h1, h2⟩), Nat.mul_assoc, ← Nat.pow_add, he, SN_def, sE_def]
theorem uv_scaled' {w : Nat} (e j kept : Nat) (hw : w = e * 2 ^ 52 + kept) (he : e + j = 1074) (h1 : 2 ^ 52 ≤ kept) (h2 : kept ≤ 2 * 2 ^ 52) : uv w * 2 ^ j = kept * SN := by
  rw [hw, ← bin_def]
  exact uv_scaled e j kept he (by rw [bin_def]; exact h1) (by rw [bin_def]; exact h2)

/-- A multiple of a 2 ^ l-th of one, of at most 53 digits. -/
theorem rep_scaled (k l e : Nat) (c : Int) (he : e = 1074 - l) (hl : l ≤ 1074) (h1 : 2 ^ 52 ≤ k) (h2 : k ≤ 2 * 2 ^ 52) (hc : c * ((2 ^ l : Nat) : Int) = ((k * SN : Nat) : Int)) : Rep c := by
  refine ⟨e * bin + k, ?_, Or.inl ?_⟩
  · rw [infR_bin]
    have : e * bin ≤ 1074 * bin := Nat.mul_le_mul_right _ (by omega)
    have hb := bin_def
    omega
  · have h := uv_scaled e l k (by omega) (by rw [bin_def]; exact h1) (by rw [bin_def]; exact h2)
    refine Int.eq_of_mul_eq_mul_right (a := ((2 ^ l : Nat) : Int)) ?_ ?_
    · have := Nat.two_pow_pos l; omega
    · rw [hc, ← h, Int.natCast_mul]

theorem rep_S (c : Nat) (h : c < 2 ^ 53) : Rep ((c * SN : Nat) : Int) := by
  by_cases h0 : c = 0
  · subst h0; rw [Nat.zero_mul]; exact rep_zero
  have h1 : 2 ^ c.log2 ≤ c := Nat.log2_self_le h0
  have h2 : c < 2 ^ (c.log2 + 1) := Nat.lt_log2_self
  have h3 : c.log2 < 53 := (Nat.log2_lt h0).2 h
  refine rep_scaled (c * 2 ^ (52 - c.log2)) (52 - c.log2) _ _ rfl (by omega) ?_ ?_ ?_
  · calc 2 ^ 52 = 2 ^ c.log2 * 2 ^ (52 - c.log2) := by rw [← Nat.pow_add]; congr 1; omega
      _ ≤ _ := Nat.mul_le_mul_right _ h1
  · calc c * 2 ^ (52 - c.log2) ≤ 2 ^ (c.log2 + 1) * 2 ^ (52 - c.log2) := Nat.mul_le_mul_right _ (by omega)
      _ = 2 ^ 53 := by rw [← Nat.pow_add]; congr 1; omega
      _ = 2 * 2 ^ 52 := by decide
  · rw [← Int.natCast_mul, Nat.mul_right_comm]

/-- Multiples of a 64th of one. -/
def TN : Nat := hide (2 ^ 35 * DN)
theorem TN_def : TN = 2 ^ 35 * DN := by unfold TN; exact hide_eq _
theorem SN_TN : SN = 64 * TN := by rw [SN_DN, TN_def]; omega
theorem rep_T (c l : Nat) (hl : l ≤ 100) (h1 : 2 ^ 52 ≤ c * 2 ^ l) (h2 : c * 2 ^ l ≤ 2 * 2 ^ 52) : Rep ((c * TN : Nat) : Int) := by
  refine rep_scaled (c * 2 ^ l) (l + 6) _ _ rfl (by omega) h1 h2 ?_
  rw [SN_TN, ← Int.natCast_mul, Nat.pow_add]
  congr 1
  rw [Nat.mul_assoc, Nat.mul_assoc, Nat.mul_left_comm TN, Nat.mul_comm TN]

/-! ### The floor -/
theorem cut_down (neg : Bool) (n drop : Nat) : (Toward.down.cut neg n drop : Int) = (n / 2 ^ drop : Nat) + (if neg = true ∧ n % 2 ^ drop ≠ 0 then 1 else 0) := by
  unfold Toward.cut
  simp only [Nat.one_shiftLeft]
  by_cases h : drop ≤ n.log2 + 2
  · rw [Nat.min_eq_left h]
    cases neg <;> by_cases hr : n % 2 ^ drop = 0 <;> simp [hr]
    rw [bne_iff_ne.2 hr]; rfl
  · have hlt : n < 2 ^ (n.log2 + 1) := Nat.lt_log2_self
    have hm : min drop (n.log2 + 2) = n.log2 + 2 := by omega
    rw [hm]
    have hle : 2 ^ (n.log2 + 1) ≤ 2 ^ drop := Nat.pow_le_pow_right (by omega) (by omega)
    have h2 : 2 ^ (n.log2 + 2) = 2 * 2 ^ (n.log2 + 1) := by rw [Nat.pow_succ, Nat.mul_comm]
    have hlt2 : n < 2 ^ (n.log2 + 2) := by omega
    rw [Nat.div_eq_of_lt (show n < 2 ^ drop by omega), Nat.div_eq_of_lt hlt2, Nat.mod_eq_of_lt hlt2, Nat.mod_eq_of_lt (show n < 2 ^ drop by omega)]
    cases neg <;> by_cases hr : n = 0 <;> simp [hr]
    rw [bne_iff_ne.2 hr]; rfl

theorem sgn_cut (s : Bool) (n drop : Nat) : sgn s (Toward.down.cut s n drop) = sgn s n / ((2 ^ drop : Nat) : Int) := by
  have hp : 0 < 2 ^ drop := Nat.two_pow_pos _
  have hd := Nat.div_add_mod n (2 ^ drop)
  have hl := Nat.mod_lt n hp
  have hc := cut_down s n drop
  generalize Toward.down.cut s n drop = c at hc
  generalize 2 ^ drop = g at *
  symm
  cases s
  · simp only [Bool.false_eq_true, false_and, if_false] at hc
    simp only [sgn, Bool.false_eq_true, if_false]
    rw [hc, Int.natCast_ediv]; simp
  · simp only [sgn, if_true]
    simp only [true_and] at hc
    rw [Int.ediv_eq_iff_of_pos (by omega)]
    generalize hq : n / g = q at *
    generalize hr : n % g = r at *
    have hgq : ((g * q : Nat) : Int) = (g : Int) * q := Int.natCast_mul ..
    by_cases h0 : r = 0
    · rw [if_neg (by simp [h0])] at hc
      have e1 : c = q := by omega
      subst e1
      have : -(c : Int) * g = -((g * c : Nat) : Int) := by rw [Int.neg_mul, Int.mul_comm, hgq]
      omega
    · rw [if_pos h0] at hc
      have e1 : c = q + 1 := by omega
      subst e1
      have : -((q + 1 : Nat) : Int) * g = -((g * q : Nat) : Int) - g := by
        rw [Int.neg_mul, Int.natCast_add, Int.add_mul, hgq, Int.mul_comm]; omega
      omega

theorem floor_fin {x : Nat} (hx : Fin' x) : ∃ s c, (double.read x).integral .down = .number s c 0 ∧ sgn s c = V x / (SN : Int) ∧ (double.read x).isNaN = false := by
  obtain ⟨s, m, i, e1, hi, hm, v1, _⟩ := read_fin hx
  refine ⟨s, Toward.down.cut s (m <<< i.toNat) (-i).toNat, by rw [e1]; rfl, ?_, by rw [e1]; rfl⟩
  rw [sgn_cut, v1, Nat.shiftLeft_eq]
  have hs := sE_def
  by_cases h : 0 ≤ i
  · rw [show (-i).toNat = 0 by omega, Nat.pow_zero, show (i + 1074).toNat = i.toNat + sE by omega, Nat.pow_add, ← Nat.mul_assoc, sgn_mul s (m * 2 ^ i.toNat) (2 ^ sE), SN_def]
    rw [Int.mul_ediv_cancel _ (by have := Nat.two_pow_pos sE; omega)]
    exact Int.ediv_one _
  · rw [show i.toNat = 0 by omega, Nat.pow_zero, Nat.mul_one, SN_def, sgn_mul]
    have : sE = (-i).toNat + (i + 1074).toNat := by omega
    rw [this, Nat.pow_add, Int.natCast_mul, Int.mul_ediv_mul_of_pos_left]
    have := Nat.two_pow_pos (i + 1074).toNat
    omega
end Go.Proofs.YbulkbyisDoor.Fl
