import Derived.Test.YbulkbyisDoorFloatH
namespace Go.Proofs.YbulkbyisDoor.Fl
open Ieee

/-! ### The sign bit -/
theorem flip_mod (w : Nat) : (w ^^^ 2 ^ 63) % 2 ^ 63 = w % 2 ^ 63 := by
  rw [Nat.xor_mod_two_pow, Nat.mod_self, Nat.xor_zero]
theorem flip_div (w : Nat) : (w ^^^ 2 ^ 63) / 2 ^ 63 = w / 2 ^ 63 ^^^ 1 := by
  rw [Nat.xor_div_two_pow, Nat.div_self (by decide)]
theorem neg_V {w : Nat} (h : w < 2 ^ 64) : V (w ^^^ 2 ^ 63) = - V w := by
  unfold V
  rw [flip_mod, flip_div]
  have : w / 2 ^ 63 = 0 ∨ w / 2 ^ 63 = 1 := by omega
  rcases this with e | e <;> rw [e] <;> simp
theorem neg_fin {w : Nat} (h : Fin' w) : Fin' (w ^^^ 2 ^ 63) := by
  refine ⟨by rw [flip_mod]; exact h.1, Nat.xor_lt_two_pow h.2 (by decide)⟩

/-! ### Great powers of two -/
def pE : Nat := hide (1355)
theorem pE_def : pE = 1355 := by unfold pE; exact hide_eq _
def gE : Nat := hide (1689)
theorem gE_def : gE = 1689 := by unfold gE; exact hide_eq _
theorem rep_pow (n : Nat) (h : n ≤ 2046) : Rep ((2 ^ (n + 52) : Nat) : Int) := by
  refine ⟨(n + 1) * bin, ?_, Or.inl ?_⟩
  · rw [infR_bin]; exact Nat.mul_le_mul_right _ (by omega)
  · rw [uv_pow]
def PN : Nat := hide (2 ^ (pE + 52))
theorem PN_def : PN = 2 ^ (pE + 52) := by unfold PN; exact hide_eq _
def GN : Nat := hide (2 ^ (gE + 52))
theorem GN_def : GN = 2 ^ (gE + 52) := by unfold GN; exact hide_eq _
theorem rep_P : Rep (PN : Int) := by rw [PN_def]; exact rep_pow _ (by have := pE_def; omega)
theorem rep_P2 : Rep (2 * (PN : Int)) := by
  have h := rep_pow (pE + 1) (by have := pE_def; omega)
  have e : 2 ^ (pE + 1 + 52) = 2 * PN := by rw [PN_def, Nat.add_right_comm, Nat.pow_succ, Nat.mul_comm]
  rw [e] at h
  exact_mod_cast h
theorem rep_G : Rep (GN : Int) := by rw [GN_def]; exact rep_pow _ (by have := gE_def; omega)
theorem PG : (PN : Int) * (2 * (PN : Int)) = (GN : Int) * (SN : Int) := by
  have a := pE_def
  have b := gE_def
  have c := sE_def
  have h : PN * (2 * PN) = GN * SN := by
    rw [PN_def, GN_def, SN_def, ← Nat.pow_add, ← Nat.pow_succ', ← Nat.pow_add]
    congr 1
    omega
  exact_mod_cast h
theorem fin_G {z : Nat} (h : z < 2 ^ 64) (h1 : V z ≤ (GN : Int)) (h2 : -(GN : Int) ≤ V z) : Fin' z := by
  refine fin_of (c := GN) h (by omega) ?_
  have a1 := gE_def
  have a2 := topE_def
  rw [GN_def, top_def]
  exact Nat.pow_lt_pow_right (by omega) (by omega)
theorem PN_GN : PN ≤ GN := by
  have a := pE_def
  have b := gE_def
  rw [PN_def, GN_def]
  exact Nat.pow_le_pow_right (by omega) (by omega)
theorem e100_P : V 6103021453049119613 ≤ (PN : Int) := by
  have h : uv 6103021453049119613 ≤ uv ((pE + 1) * bin) := uv_mono (by rw [pE_def, bin_def]; decide)
  rw [uv_pow, ← PN_def] at h
  rw [V_pos (by decide)]
  generalize uv 6103021453049119613 = u at *
  omega

/-! ### The upper half of a number's digits -/
theorem cut_digits {R : Nat} (h : R < 1028 * 2 ^ 52) : uv R ≤ uv (R - R % 2 ^ 27) + 2 ^ 20 * DN := by
  have hD := DN_pos
  by_cases h1 : R < bin
  · unfold uv
    rw [if_pos h1, if_pos (by omega)]
    have := Nat.mod_lt R (show 0 < 2 ^ 27 by decide)
    have : 2 ^ 20 * DN ≥ 2 ^ 27 := by
      have e := dE_def
      rw [DN_def, ← Nat.pow_add]
      exact Nat.pow_le_pow_right (by omega) (by omega)
    generalize DN = D at *
    omega
  · have h2 : ¬ (R - R % 2 ^ 27 < bin) := by rw [bin_def] at h1 ⊢; omega
    have e1 : (R - R % 2 ^ 27) / bin = R / bin := by rw [bin_def] at h1 ⊢; omega
    have e2 : R % bin = (R - R % 2 ^ 27) % bin + R % 2 ^ 27 := by rw [bin_def] at h1 ⊢; omega
    have e3 : R / bin - 1 ≤ 1026 := by rw [bin_def]; omega
    unfold uv
    rw [if_neg h1, if_neg h2, e1, e2]
    have hm := Nat.mod_lt R (show 0 < 2 ^ 27 by decide)
    generalize (R - R % 2 ^ 27) % bin = m
    generalize R % 2 ^ 27 = r at *
    generalize R / bin - 1 = q at *
    have e : r * 2 ^ q ≤ 2 ^ 20 * DN := by
      have a := dE_def
      calc r * 2 ^ q ≤ 2 ^ 27 * 2 ^ q := Nat.mul_le_mul_right _ (by omega)
        _ = 2 ^ (27 + q) := (Nat.pow_add ..).symm
        _ ≤ 2 ^ (20 + dE) := Nat.pow_le_pow_right (by omega) (by omega)
        _ = 2 ^ 20 * DN := by rw [DN_def, Nat.pow_add]
    rw [← Nat.add_assoc, Nat.add_mul]
    omega

theorem rep_U (c l : Nat) (hl : l ≤ 100) (h1 : c * 2 ^ l = 2 ^ 52) : Rep ((c * (2 ^ 20 * DN) : Nat) : Int) := by
  refine rep_scaled (2 ^ 52) (l + 21) _ _ rfl (by omega) (by decide) (by decide) ?_
  rw [SN_DN, ← Int.natCast_mul, Nat.pow_add]
  congr 1
  rw [← h1]
  generalize 2 ^ l = L
  rw [Nat.mul_assoc c, Nat.mul_assoc c, Nat.mul_comm (2 ^ 20 * DN), Nat.mul_assoc L, ← Nat.mul_assoc (2 ^ 21), ← Nat.pow_add]
theorem rep_U1 : Rep (1048576 * (DN : Int)) := by
  have h := rep_U 1 52 (by decide) (by decide)
  have e : ((1 * (2 ^ 20 * DN) : Nat) : Int) = 1048576 * (DN : Int) := by generalize DN = D; omega
  rw [e] at h
  exact h
theorem rep_U64 : Rep (67108864 * (DN : Int)) := by
  have h := rep_U 64 46 (by decide) (by decide)
  have e : ((64 * (2 ^ 20 * DN) : Nat) : Int) = 67108864 * (DN : Int) := by generalize DN = D; omega
  rw [e] at h
  exact h
theorem rep_kS (k : Nat) (h : k < 2 ^ 53) : Rep ((k : Int) * (SN : Int)) := by
  have := rep_S k h
  rw [Int.natCast_mul] at this
  exact this

theorem c39_V : V 4630685579355357184 = 39 * (SN : Int) := by
  have h : V 4630685579355357184 * ((2 ^ 47 : Nat) : Int) = ((5488762045857792 : Nat) : Int) * (SN : Int) := uv_int (e := 1027) (by decide) (by decide) (by decide) (by decide) (by decide)
  have e : ((5488762045857792 : Nat) : Int) * (SN : Int) = (39 * (SN : Int)) * ((2 ^ 47 : Nat) : Int) := by generalize SN = S; omega
  rw [e] at h
  exact Int.eq_of_mul_eq_mul_right (by decide) h
theorem c30_V : V 4629137466983448576 = 30 * (SN : Int) := by
  have h : V 4629137466983448576 * ((2 ^ 48 : Nat) : Int) = ((8444249301319680 : Nat) : Int) * (SN : Int) := uv_int (e := 1026) (by decide) (by decide) (by decide) (by decide) (by decide)
  have e : ((8444249301319680 : Nat) : Int) * (SN : Int) = (30 * (SN : Int)) * ((2 ^ 48 : Nat) : Int) := by generalize SN = S; omega
  rw [e] at h
  exact Int.eq_of_mul_eq_mul_right (by decide) h
theorem c746_V : V 13873145138068324352 = -(746 * (SN : Int)) := by
  have h : V 4649773101213548544 * ((2 ^ 43 : Nat) : Int) = ((6561885394567168 : Nat) : Int) * (SN : Int) := uv_int (e := 1031) (by decide) (by decide) (by decide) (by decide) (by decide)
  have e : ((6561885394567168 : Nat) : Int) * (SN : Int) = (746 * (SN : Int)) * ((2 ^ 43 : Nat) : Int) := by generalize SN = S; omega
  rw [e] at h
  have h2 := Int.eq_of_mul_eq_mul_right (by decide) h
  have e := V_flip (r := 4649773101213548544) (by decide)
  rw [show (13873145138068324352 : Nat) = 2 ^ 63 + 4649773101213548544 by decide, e, h2]

/-- The signed values of a number and of its upper digits. -/
theorem hi_V {a h : Nat} (fa : Fin' a) (hh : h = a - a % 2 ^ 27) : Fin' h ∧ h % 2 ^ 63 = a % 2 ^ 63 - a % 2 ^ 63 % 2 ^ 27 ∧
    ((V a = (uv (a % 2 ^ 63) : Int) ∧ V h = (uv (h % 2 ^ 63) : Int)) ∨ (V a = -(uv (a % 2 ^ 63) : Int) ∧ V h = -(uv (h % 2 ^ 63) : Int))) := by
  have h1 := fa.1
  have h2 := fa.2
  have e1 : h % 2 ^ 63 = a % 2 ^ 63 - a % 2 ^ 63 % 2 ^ 27 := by omega
  have e2 : h / 2 ^ 63 = a / 2 ^ 63 := by omega
  refine ⟨⟨by omega, by omega⟩, e1, ?_⟩
  unfold V
  rw [e2]
  split
  · exact Or.inr ⟨rfl, rfl⟩
  · exact Or.inl ⟨rfl, rfl⟩
end Go.Proofs.YbulkbyisDoor.Fl
