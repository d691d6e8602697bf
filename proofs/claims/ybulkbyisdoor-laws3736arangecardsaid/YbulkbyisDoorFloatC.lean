import Derived.Test.YbulkbyisDoorFloatB
namespace Go.Proofs.YbulkbyisDoor.Fl
open Ieee

def sgn (s : Bool) (E : Nat) : Int := if s then -(E : Int) else (E : Int)
theorem sgn_mul (s : Bool) (a b : Nat) : sgn s (a * b) = sgn s a * (b : Int) := by
  cases s
  · simp only [sgn, Bool.false_eq_true, if_false, Int.natCast_mul]
  · simp only [sgn, if_true, Int.natCast_mul, Int.neg_mul]
theorem sgn_xor (s t : Bool) (a b : Nat) : sgn (s ^^ t) (a * b) = sgn s a * sgn t b := by
  cases s <;> cases t <;> simp [sgn, Int.neg_mul, Int.mul_neg]
theorem sgn_natAbs (x : Int) (s : Bool) : sgn (if x = 0 then s else decide (x < 0)) x.natAbs = x := by
  unfold sgn
  by_cases h : x = 0
  · subst h; cases s <;> simp
  · rw [if_neg h]
    by_cases h2 : x < 0
    · simp only [h2, decide_true, if_true]; omega
    · simp only [h2, decide_false, Bool.false_eq_true, if_false]; omega
theorem sgn_not (s : Bool) (a : Nat) : sgn (!s) a = - sgn s a := by cases s <;> simp [sgn]
theorem signed_eq (s : Bool) (m k : Nat) : signed s m k = sgn s (m * 2 ^ k) := by
  unfold signed sgn
  rw [Nat.shiftLeft_eq]
theorem rd_sgn (s : Bool) (m : Nat) (p : Int) : Rd (sgn s (m * 2 ^ (p + 1074).toNat)) (2 ^ (-1074 - p).toNat) (double.write (.number s m p)) := rd_write s m p

theorem read_fin {w : Nat} (h : Fin' w) : ∃ s m p, double.read w = .number s m p ∧ -1074 ≤ p ∧ m < 2 ^ 53 ∧ V w = sgn s (m * 2 ^ (p + 1074).toNat) ∧ s = (w / 2 ^ 63 % 2 == 1) := by
  have hlp : double.leastPlace = -1074 := by decide
  have hsw : double.signWeight = 2 ^ 63 := rfl
  have hb := bin_pos
  unfold Format.read
  simp only [hlp, hsw, bin_eq, infR_eq]
  unfold V
  generalize hs : (w / 2 ^ 63 % 2 == 1) = s
  have hr := h.1
  generalize w % 2 ^ 63 = r at hr
  by_cases h1 : r < bin
  · rw [if_pos h1]
    refine ⟨s, r, -1074, rfl, by omega, by rw [bin_def] at h1; omega, ?_, rfl⟩
    unfold sgn uv
    rw [if_pos h1]
    simp
  · rw [if_neg h1, if_pos hr]
    have hm := Nat.mod_lt r hb
    refine ⟨s, bin + r % bin, -1074 + (r / bin - 1 : Nat), rfl, by omega, ?_, ?_, rfl⟩
    · have := bin_def; omega
    · unfold sgn uv
      rw [if_neg h1, show (-1074 + ((r / bin - 1 : Nat) : Int) + 1074).toNat = r / bin - 1 by omega]

theorem add_rd {x y : Nat} (hx : Fin' x) (hy : Fin' y) : ∃ z, double.add x y = some z ∧ Rd (V x + V y) 1 z := by
  obtain ⟨s, m, i, e1, hi, _, v1, _⟩ := read_fin hx
  obtain ⟨t, n, j, e2, hj, _, v2, _⟩ := read_fin hy
  refine ⟨_, by unfold Format.add; rw [e1, e2]; rfl, ?_⟩
  have h := rd_sgn (if signed s m (i - min i j).toNat + signed t n (j - min i j).toNat = 0 then s && t else decide (signed s m (i - min i j).toNat + signed t n (j - min i j).toNat < 0)) (signed s m (i - min i j).toNat + signed t n (j - min i j).toNat).natAbs (min i j)
  rw [show (-1074 - min i j).toNat = 0 by omega, Nat.pow_zero, sgn_mul, sgn_natAbs] at h
  rw [show V x + V y = (signed s m (i - min i j).toNat + signed t n (j - min i j).toNat) * ((2 ^ (min i j + 1074).toNat : Nat) : Int) by
    rw [signed_eq, signed_eq, Int.add_mul, ← sgn_mul, ← sgn_mul, Nat.mul_assoc, ← Nat.pow_add, Nat.mul_assoc, ← Nat.pow_add, v1, v2,
      show (i - min i j).toNat + (min i j + 1074).toNat = (i + 1074).toNat by omega, show (j - min i j).toNat + (min i j + 1074).toNat = (j + 1074).toNat by omega]]
  exact h

theorem sub_rd {x y : Nat} (hx : Fin' x) (hy : Fin' y) : ∃ z, double.sub x y = some z ∧ Rd (V x - V y) 1 z := by
  obtain ⟨s, m, i, e1, hi, _, v1, _⟩ := read_fin hx
  obtain ⟨t, n, j, e2, hj, _, v2, _⟩ := read_fin hy
  refine ⟨_, by unfold Format.sub; rw [e1, e2]; rfl, ?_⟩
  have h := rd_sgn (if signed s m (i - min i j).toNat + signed (!t) n (j - min i j).toNat = 0 then s && !t else decide (signed s m (i - min i j).toNat + signed (!t) n (j - min i j).toNat < 0)) (signed s m (i - min i j).toNat + signed (!t) n (j - min i j).toNat).natAbs (min i j)
  rw [show (-1074 - min i j).toNat = 0 by omega, Nat.pow_zero, sgn_mul, sgn_natAbs] at h
  rw [show V x - V y = (signed s m (i - min i j).toNat + signed (!t) n (j - min i j).toNat) * ((2 ^ (min i j + 1074).toNat : Nat) : Int) by
    rw [signed_eq, signed_eq, Int.add_mul, ← sgn_mul, ← sgn_mul, Nat.mul_assoc, ← Nat.pow_add, Nat.mul_assoc, ← Nat.pow_add, v1, v2,
      show (i - min i j).toNat + (min i j + 1074).toNat = (i + 1074).toNat by omega, show (j - min i j).toNat + (min i j + 1074).toNat = (j + 1074).toNat by omega, sgn_not]
    omega]
  exact h

/-- One, in units. -/
def sE : Nat := hide (1074)
theorem sE_def : sE = 1074 := by unfold sE; exact hide_eq _
def SN : Nat := hide (2 ^ sE)
theorem SN_def : SN = 2 ^ sE := by unfold SN; exact hide_eq _
theorem SN_pos : 0 < SN := by rw [SN_def]; exact Nat.two_pow_pos _

theorem mul_rd {x y : Nat} (hx : Fin' x) (hy : Fin' y) : ∃ z, double.mul x y = some z ∧ Rd (V x * V y) SN z := by
  obtain ⟨s, m, i, e1, hi, _, v1, _⟩ := read_fin hx
  obtain ⟨t, n, j, e2, hj, _, v2, _⟩ := read_fin hy
  refine ⟨_, by unfold Format.mul; rw [e1, e2]; rfl, ?_⟩
  have h := rd_sgn (s ^^ t) (m * n) (i + j)
  refine h.scale (Nat.two_pow_pos _) SN_pos ?_
  have hS := sE_def
  rw [v1, v2, ← sgn_xor, ← sgn_mul, ← sgn_mul, SN_def]
  congr 1
  rw [Nat.mul_assoc (m * n), ← Nat.pow_add, Nat.mul_mul_mul_comm, ← Nat.pow_add, Nat.mul_assoc (m * n), ← Nat.pow_add]
  congr 2
  omega

theorem two_read : double.read 4611686018427387904 = .number false (2 ^ 52) (-51) := by decide +kernel
theorem half_rd {x : Nat} (hx : Fin' x) : ∃ z, double.div x 4611686018427387904 = some z ∧ Rd (V x) 2 z := by
  obtain ⟨s, m, i, e1, hi, hm, v1, _⟩ := read_fin hx
  have hl : (2 ^ 52 : Nat).log2 = 52 := by decide +kernel
  have hml : m.log2 ≤ 52 := by
    by_cases h0 : m = 0
    · subst h0; decide
    · have := (Nat.log2_lt h0).2 hm; omega
  have hd : m <<< (54 + 52 - m.log2) = (m * 2 ^ (54 - m.log2)) * 2 ^ 52 := by
    rw [Nat.shiftLeft_eq, Nat.mul_assoc, ← Nat.pow_add]
    congr 2
    omega
  have hd1 : m <<< (54 + 52 - m.log2) / 2 ^ 52 = m * 2 ^ (54 - m.log2) := by rw [hd]; exact Nat.mul_div_cancel _ (Nat.two_pow_pos _)
  have hd2 : m <<< (54 + 52 - m.log2) % 2 ^ 52 = 0 := by rw [hd]; exact Nat.mul_mod_left _ _
  refine ⟨double.write (.number (s ^^ false) (2 * (m * 2 ^ (54 - m.log2)) + 0) (i - -51 - (54 + 52 - m.log2 : Nat) - 1)), ?_, ?_⟩
  · unfold Format.div
    rw [e1, two_read]
    unfold Datum.quotient
    simp only
    rw [if_neg (by decide), show double.fractionBits + 2 = 54 from rfl, hl, hd1, hd2]
    rfl
  · have h := rd_sgn (s ^^ false) (2 * (m * 2 ^ (54 - m.log2)) + 0) (i - -51 - (54 + 52 - m.log2 : Nat) - 1)
    refine h.scale (Nat.two_pow_pos _) (by omega) ?_
    rw [v1, ← sgn_mul, ← sgn_mul, Bool.xor_false]
    congr 1
    generalize ha : (i - -51 - (54 + 52 - m.log2 : Nat) - 1 + 1074).toNat = a
    generalize hb : (-1074 - (i - -51 - (54 + 52 - m.log2 : Nat) - 1)).toNat = b
    generalize hc : (i + 1074).toNat = c
    have key : 54 - m.log2 + a + 2 = c + b := by omega
    rw [Nat.add_zero, Nat.mul_assoc, Nat.mul_assoc m (2 ^ c), ← Nat.pow_add, ← key, Nat.pow_add, Nat.pow_add, Nat.mul_comm 2, Nat.mul_assoc, Nat.mul_assoc, Nat.mul_assoc, Nat.mul_left_comm 2 (2 ^ a) 2]

theorem order_fin {x y : Nat} (hx : Fin' x) (hy : Fin' y) : double.order x y = some (compare (V x) (V y)) := by
  obtain ⟨s, m, i, e1, hi, _, v1, _⟩ := read_fin hx
  obtain ⟨t, n, j, e2, hj, _, v2, _⟩ := read_fin hy
  unfold Format.order
  rw [e1, e2]
  show some (compare (signed s m (i - min i j).toNat) (signed t n (j - min i j).toNat)) = _
  have hp : (0 : Int) < ((2 ^ (min i j + 1074).toNat : Nat) : Int) := by have := Nat.two_pow_pos (min i j + 1074).toNat; omega
  have a1 : V x = signed s m (i - min i j).toNat * ((2 ^ (min i j + 1074).toNat : Nat) : Int) := by
    rw [signed_eq, ← sgn_mul, Nat.mul_assoc, ← Nat.pow_add, v1, show (i - min i j).toNat + (min i j + 1074).toNat = (i + 1074).toNat by omega]
  have a2 : V y = signed t n (j - min i j).toNat * ((2 ^ (min i j + 1074).toNat : Nat) : Int) := by
    rw [signed_eq, ← sgn_mul, Nat.mul_assoc, ← Nat.pow_add, v2, show (j - min i j).toNat + (min i j + 1074).toNat = (j + 1074).toNat by omega]
  rw [a1, a2]
  generalize signed s m (i - min i j).toNat = u
  generalize signed t n (j - min i j).toNat = v
  generalize ((2 ^ (min i j + 1074).toNat : Nat) : Int) = k at hp
  congr 1
  simp only [compare, compareOfLessAndEq]
  have c1 : (u * k < v * k) ↔ u < v := ⟨fun h => Int.lt_of_mul_lt_mul_right h (by omega), fun h => Int.mul_lt_mul_of_pos_right h hp⟩
  have c2 : (u * k = v * k) ↔ u = v := ⟨fun h => Int.eq_of_mul_eq_mul_right (by omega) h, fun h => by rw [h]⟩
  simp only [c1, c2]
end Go.Proofs.YbulkbyisDoor.Fl
