import Derived.Test.YbulkbyisDoorFloatA
namespace Go.Proofs.YbulkbyisDoor.Fl
open Ieee

/-! ### Signed values, in units of the least subnormal number -/
def infR : Nat := hide (2047 * 2 ^ 52)
theorem infR_def : infR = 2047 * 2 ^ 52 := by unfold infR; exact hide_eq _
theorem infR_bin : infR = 2047 * bin := by rw [infR_def, bin_def]
theorem infR_eq : double.infRung = infR := by rw [infR_def]; rfl
theorem infR_lt : infR < 2 ^ 63 := by rw [infR_def]; decide

def V (w : Nat) : Int := if w / 2 ^ 63 % 2 == 1 then -(uv (w % 2 ^ 63) : Int) else (uv (w % 2 ^ 63) : Int)
/-- A finite word. -/
def Fin' (w : Nat) : Prop := w % 2 ^ 63 < infR ∧ w < 2 ^ 64
/-- A value that some word not above infinity has. -/
def Rep (c : Int) : Prop := ∃ R, R ≤ infR ∧ (c = (uv R : Int) ∨ c = -(uv R : Int))

theorem Rep.neg {c : Int} (h : Rep c) : Rep (-c) := by
  obtain ⟨R, h1, h2⟩ := h
  exact ⟨R, h1, by omega⟩
theorem Fin'.rep {w : Nat} (h : Fin' w) : Rep (V w) := by
  refine ⟨w % 2 ^ 63, Nat.le_of_lt h.1, ?_⟩
  unfold V
  split
  · exact Or.inr rfl
  · exact Or.inl rfl
theorem V_natAbs (w : Nat) : (V w).natAbs = uv (w % 2 ^ 63) := by
  unfold V; split <;> omega

theorem uv_pow (n : Nat) : uv ((n + 1) * bin) = 2 ^ (n + 52) := by
  have h := uv_form n bin (Or.inr ⟨by omega, by omega⟩)
  rw [Nat.add_mul, Nat.one_mul, h, bin_def, ← Nat.pow_add, Nat.add_comm]
def topE : Nat := hide (2046)
theorem topE_def : topE = 2046 := by unfold topE; exact hide_eq _
def top : Nat := hide (2 ^ (topE + 52))
theorem top_def : top = 2 ^ (topE + 52) := by unfold top; exact hide_eq _
theorem uv_infR : uv infR = top := by
  rw [infR_bin, top_def, show (2047 : Nat) = topE + 1 by rw [topE_def]]
  exact uv_pow topE

theorem fin_of {w : Nat} {c : Nat} (h64 : w < 2 ^ 64) (h : (V w).natAbs ≤ c) (hc : c < top) : Fin' w := by
  refine ⟨?_, h64⟩
  rw [V_natAbs] at h
  rw [← uv_lt_iff, uv_infR]
  omega

theorem V_word (s : Bool) (r : Nat) (h : r ≤ infR) : V (double.word s r) = if s then -(uv r : Int) else (uv r : Int) := by
  have h1 := infR_lt
  have e1 : double.signWeight = 2 ^ 63 := rfl
  unfold V Format.word
  rw [e1]
  cases s
  · have a1 : r / 2 ^ 63 % 2 = 0 := by omega
    have a2 : r % 2 ^ 63 = r := by omega
    simp [a1, a2]
  · have a1 : (2 ^ 63 + r) / 2 ^ 63 % 2 = 1 := by omega
    have a2 : (2 ^ 63 + r) % 2 ^ 63 = r := by omega
    simp only [if_true]
    rw [a1, a2]
    rfl
theorem word_lt (s : Bool) (r : Nat) (h : r ≤ infR) : double.word s r < 2 ^ 64 := by
  have h1 := infR_lt
  have e1 : double.signWeight = 2 ^ 63 := rfl
  unfold Format.word
  rw [e1]
  cases s <;> simp <;> omega

/-- 'z' is the exact value N / B (in units) faithfully rounded. -/
structure Rd (N : Int) (B : Nat) (z : Nat) : Prop where
  le : ∀ b : Int, Rep b → N ≤ b * B → V z ≤ b
  ge : ∀ b : Int, Rep b → b * B ≤ N → b ≤ V z
  err : ∀ d : Nat, d ≤ 2046 → N ≤ (2 ^ (52 + d) * B : Nat) → -((2 ^ (52 + d) * B : Nat) : Int) ≤ N → V z * B ≤ N + (2 ^ d * B : Nat) ∧ N ≤ V z * B + (2 ^ d * B : Nat)
  lt : z < 2 ^ 64

theorem rep_zero : Rep 0 := ⟨0, by omega, by simp [uv_zero]⟩

theorem rd_write (s : Bool) (m : Nat) (p : Int) : Rd (if s then -((m * 2 ^ (p + 1074).toNat : Nat) : Int) else ((m * 2 ^ (p + 1074).toNat : Nat) : Int)) (2 ^ (-1074 - p).toNat) (double.write (.number s m p)) := by
  have hlp : double.leastPlace = -1074 := by decide
  have hfb : double.fractionBits = 52 := rfl
  unfold Format.write Format.nearest
  rw [hlp, hfb]
  have hB : 0 < 2 ^ (-1074 - p).toNat := Nat.two_pow_pos _
  by_cases hm : m = 0
  · subst hm
    have hv : V (double.word s 0) = 0 := by rw [V_word s 0 (by omega), uv_zero]; cases s <;> rfl
    have hz : (if s then -((0 * 2 ^ (p + 1074).toNat : Nat) : Int) else ((0 * 2 ^ (p + 1074).toNat : Nat) : Int)) = 0 := by cases s <;> simp
    rw [hz]
    simp only [if_true]
    have hBi : (0 : Int) < ((2 ^ (-1074 - p).toNat : Nat) : Int) := by omega
    refine ⟨fun b _ h => ?_, fun b _ h => ?_, fun d _ _ _ => ?_, word_lt s 0 (by omega)⟩
    · show V (double.word s 0) ≤ b
      rw [hv]
      rcases Int.lt_or_le b 0 with h' | h'
      · have := Int.mul_neg_of_neg_of_pos h' hBi; omega
      · exact h'
    · show b ≤ V (double.word s 0)
      rw [hv]
      rcases Int.lt_or_le 0 b with h' | h'
      · have := Int.mul_pos h' hBi; omega
      · exact h'
    · show V (double.word s 0) * _ ≤ _ ∧ _ ≤ V (double.word s 0) * _ + _
      rw [hv]
      constructor <;> omega
  · show Rd _ _ (if m = 0 then double.word s 0 else double.word s (min ((max (p + ↑m.log2 - ((52 : Nat) : Int)) (-1074) - -1074).toNat * double.binade + Toward.even.cut s (m <<< (p - max (p + ↑m.log2 - ((52 : Nat) : Int)) (-1074)).toNat) (max (p + ↑m.log2 - ((52 : Nat) : Int)) (-1074) - p).toNat) double.infRung))
    rw [if_neg hm]
    have F := found s m p hm
    rw [bin_eq, infR_eq, Int.sub_neg]
    change Found _ _ ((max (p + ↑m.log2 - ((52 : Nat) : Int)) (-1074) + 1074).toNat * bin + Toward.even.cut s (m <<< (p - max (p + ↑m.log2 - ((52 : Nat) : Int)) (-1074)).toNat) (max (p + ↑m.log2 - ((52 : Nat) : Int)) (-1074) - p).toNat) at F
    generalize (max (p + ↑m.log2 - ((52 : Nat) : Int)) (-1074) + 1074).toNat * bin + Toward.even.cut s (m <<< (p - max (p + ↑m.log2 - ((52 : Nat) : Int)) (-1074)).toNat) (max (p + ↑m.log2 - ((52 : Nat) : Int)) (-1074) - p).toNat = r at F ⊢
    generalize m * 2 ^ (p + 1074).toNat = E at F ⊢
    generalize 2 ^ (-1074 - p).toNat = B at F hB ⊢
    have hmin : min r infR ≤ infR := by omega
    have hv := V_word s (min r infR) hmin
    have hle : ∀ R, R ≤ infR → E ≤ uv R * B → uv (min r infR) ≤ uv R := fun R hR h => uv_mono (by have := F.le R h; omega)
    have hge : ∀ R, R ≤ infR → uv R * B ≤ E → uv R ≤ uv (min r infR) := fun R hR h => uv_mono (by have := F.ge R h; omega)
    have herr : ∀ d, d ≤ 2046 → E ≤ 2 ^ (52 + d) * B → uv (min r infR) * B ≤ E + 2 ^ d * B ∧ E ≤ uv (min r infR) * B + 2 ^ d * B := by
      intro d hd h
      have h1 : r ≤ infR := F.le infR (by
        rw [uv_infR, top_def]
        have ht := topE_def
        refine Nat.le_trans h (Nat.mul_le_mul_right _ (Nat.pow_le_pow_right (by omega) (by omega))))
      rw [Nat.min_eq_left h1]
      exact F.err d h
    generalize uv (min r infR) = z at hv hle hge herr
    have hBi : (0 : Int) < (B : Int) := by omega
    have key : ∀ b : Int, b < 0 → b * B < 0 := fun b h => Int.mul_neg_of_neg_of_pos h hBi
    have key2 : ∀ b : Int, 0 < b → 0 < b * B := fun b h => Int.mul_pos h hBi
    refine ⟨fun b hb h => ?_, fun b hb h => ?_, fun d hd h1 h2 => ?_, word_lt s _ hmin⟩
    · rw [hv]
      obtain ⟨R, hR, hb⟩ := hb
      cases s
      · simp only [Bool.false_eq_true, if_false] at h ⊢
        rcases hb with hb | hb
        · subst hb
          have := hle R hR (by exact_mod_cast h)
          omega
        · rcases Int.lt_or_le b 0 with h' | h'
          · have := key b h'; omega
          · have h0 : uv R = 0 := by omega
            rw [hb, h0] at h
            have := hle R hR (by rw [h0]; omega)
            omega
      · simp only [if_true] at h ⊢
        rcases hb with hb | hb
        · omega
        · subst hb
          have h3 : ((uv R * B : Nat) : Int) ≤ E := by rw [Int.natCast_mul]; rw [Int.neg_mul] at h; omega
          have := hge R hR (by exact_mod_cast h3)
          omega
    · rw [hv]
      obtain ⟨R, hR, hb⟩ := hb
      cases s
      · simp only [Bool.false_eq_true, if_false] at h ⊢
        rcases hb with hb | hb
        · subst hb
          have := hge R hR (by exact_mod_cast h)
          omega
        · omega
      · simp only [if_true] at h ⊢
        rcases hb with hb | hb
        · rcases Int.lt_or_le 0 b with h' | h'
          · have := key2 b h'; omega
          · have h0 : uv R = 0 := by omega
            rw [hb, h0] at h
            have := hle R hR (by rw [h0]; omega)
            omega
        · subst hb
          have h3 : (E : Int) ≤ ((uv R * B : Nat) : Int) := by rw [Int.natCast_mul]; rw [Int.neg_mul] at h; omega
          have := hle R hR (by exact_mod_cast h3)
          omega
    · rw [hv]
      cases s
      · simp only [Bool.false_eq_true, if_false] at h1 h2 ⊢
        have := herr d hd (by omega)
        rw [← Int.natCast_mul]
        omega
      · simp only [if_true] at h1 h2 ⊢
        have := herr d hd (by omega)
        rw [Int.neg_mul, ← Int.natCast_mul]
        omega

theorem Rd.scale {N N' : Int} {B B' z : Nat} (h : Rd N B z) (hB : 0 < B) (hB' : 0 < B') (hN : N * B' = N' * B) : Rd N' B' z := by
  have p1 : (0 : Int) < B := by omega
  have p2 : (0 : Int) < B' := by omega
  refine ⟨fun b hb h1 => h.le b hb ?_, fun b hb h1 => h.ge b hb ?_, fun d hd h1 h2 => ?_, h.lt⟩
  · refine Int.le_of_mul_le_mul_right ?_ p2
    rw [hN, Int.mul_assoc, Int.mul_comm (B : Int) B', ← Int.mul_assoc]
    exact Int.mul_le_mul_of_nonneg_right h1 (by omega)
  · refine Int.le_of_mul_le_mul_right ?_ p2
    rw [hN, Int.mul_assoc, Int.mul_comm (B : Int) B', ← Int.mul_assoc]
    exact Int.mul_le_mul_of_nonneg_right h1 (by omega)
  · have a1 : N ≤ ((2 ^ (52 + d) * B : Nat) : Int) := by
      refine Int.le_of_mul_le_mul_right ?_ p2
      rw [hN, Int.natCast_mul, Int.mul_assoc, Int.mul_comm (B : Int) B', ← Int.mul_assoc, ← Int.natCast_mul]
      exact Int.mul_le_mul_of_nonneg_right h1 (by omega)
    have a2 : -((2 ^ (52 + d) * B : Nat) : Int) ≤ N := by
      refine Int.le_of_mul_le_mul_right ?_ p2
      rw [hN, Int.neg_mul, Int.natCast_mul, Int.mul_assoc, Int.mul_comm (B : Int) B', ← Int.mul_assoc, ← Int.natCast_mul, ← Int.neg_mul]
      exact Int.mul_le_mul_of_nonneg_right h2 (by omega)
    obtain ⟨e1, e2⟩ := h.err d hd a1 a2
    have e1 := Int.mul_le_mul_of_nonneg_right e1 (show (0 : Int) ≤ B' by omega)
    have e2 := Int.mul_le_mul_of_nonneg_right e2 (show (0 : Int) ≤ B' by omega)
    constructor
    · refine Int.le_of_mul_le_mul_right ?_ p1
      rw [Int.add_mul, ← hN]
      rw [Int.add_mul] at e1
      rw [Int.mul_assoc, Int.mul_comm (B' : Int) B, ← Int.mul_assoc]
      refine Int.le_trans e1 (Int.le_of_eq ?_)
      rw [Int.natCast_mul, Int.natCast_mul, Int.mul_assoc, Int.mul_comm (B : Int) B', ← Int.mul_assoc]
    · refine Int.le_of_mul_le_mul_right ?_ p1
      rw [Int.add_mul, ← hN]
      rw [Int.add_mul] at e2
      rw [Int.mul_assoc (V z), Int.mul_comm (B' : Int) B, ← Int.mul_assoc]
      refine Int.le_trans e2 (Int.le_of_eq ?_)
      rw [Int.natCast_mul, Int.natCast_mul, Int.mul_assoc ((2 ^ d : Nat) : Int), Int.mul_comm (B : Int) B', ← Int.mul_assoc]
end Go.Proofs.YbulkbyisDoor.Fl
