import GoSem.Core.Float
namespace Go.Proofs.YbulkbyisDoor.Fl
open Ieee

/-- A number under a name that the elaborator does not open. -/
def hideFrom (x k : Nat) : Nat := if k = 0 then x else hideFrom x (k / 2)
theorem hideFrom_one (x : Nat) : hideFrom x 1 = x := by
  rw [hideFrom, if_neg (by decide), hideFrom, if_pos (by decide)]
def hide (x : Nat) : Nat := hideFrom x 1
theorem hide_eq (x : Nat) : hide x = x := hideFrom_one x

/-! ### The magnitude of a rung, in units of the least subnormal number -/
def bin : Nat := hide (2 ^ 52)
theorem bin_def : bin = 2 ^ 52 := by unfold bin; exact hide_eq _
theorem bin_pos : 0 < bin := by rw [bin_def]; decide
theorem bin_eq : double.binade = bin := by rw [bin_def]; rfl

def uv (R : Nat) : Nat := if R < bin then R else (bin + R % bin) * 2 ^ (R / bin - 1)

theorem uv_form (e kept : Nat) (h : (e = 0 ∧ kept ≤ 2 * bin) ∨ (bin ≤ kept ∧ kept ≤ 2 * bin)) : uv (e * bin + kept) = kept * 2 ^ e := by
  have hb := bin_pos
  unfold uv
  by_cases h2 : kept = 2 * bin
  · subst h2
    have e1 : e * bin + 2 * bin = (e + 2) * bin := by rw [Nat.add_mul]
    rw [e1, Nat.mul_mod_left, Nat.mul_div_cancel _ hb, if_neg (by rw [Nat.add_mul]; omega)]
    rw [show e + 2 - 1 = e + 1 by omega, Nat.pow_succ, Nat.add_zero, Nat.mul_comm 2 bin, Nat.mul_assoc, Nat.mul_comm 2]
  · by_cases h1 : kept < bin
    · have he : e = 0 := by rcases h with h | h <;> omega
      subst he
      simp [h1]
    · have e1 : e * bin + kept = (e + 1) * bin + (kept - bin) := by rw [Nat.add_mul]; omega
      have hk : kept - bin < bin := by rcases h with h | h <;> omega
      rw [e1, Nat.mul_comm (e + 1) bin, Nat.mul_add_mod, Nat.mod_eq_of_lt hk, Nat.mul_add_div hb, Nat.div_eq_of_lt hk]
      rw [if_neg (by rw [Nat.mul_add]; omega), Nat.add_zero, Nat.add_sub_cancel]
      rw [show bin + (kept - bin) = kept by omega]

theorem uv_mono {R R' : Nat} (h : R ≤ R') : uv R ≤ uv R' := by
  have hb := bin_pos
  unfold uv
  by_cases h1 : R < bin
  · rw [if_pos h1]
    by_cases h2 : R' < bin
    · rw [if_pos h2]; exact h
    · rw [if_neg h2]
      have : 1 ≤ 2 ^ (R' / bin - 1) := Nat.one_le_two_pow
      calc R ≤ bin := by omega
        _ ≤ bin + R' % bin := by omega
        _ = (bin + R' % bin) * 1 := by omega
        _ ≤ _ := Nat.mul_le_mul_left _ this
  · have h2 : ¬ R' < bin := by omega
    rw [if_neg h1, if_neg h2]
    have q1 : 1 ≤ R / bin := (Nat.one_le_div_iff hb).2 (by omega)
    have hq : R / bin ≤ R' / bin := Nat.div_le_div_right h
    rcases Nat.lt_or_ge (R / bin) (R' / bin) with hlt | hge
    · have hr : R % bin < bin := Nat.mod_lt _ hb
      calc (bin + R % bin) * 2 ^ (R / bin - 1) ≤ (bin * 2) * 2 ^ (R / bin - 1) := Nat.mul_le_mul_right _ (by omega)
        _ = bin * 2 ^ (R / bin - 1 + 1) := by rw [Nat.pow_succ, Nat.mul_assoc, Nat.mul_comm 2]
        _ ≤ bin * 2 ^ (R' / bin - 1) := Nat.mul_le_mul_left _ (Nat.pow_le_pow_right (by omega) (by omega))
        _ ≤ _ := Nat.mul_le_mul_right _ (by omega)
    · have he : R / bin = R' / bin := by omega
      rw [← he]
      refine Nat.mul_le_mul_right _ ?_
      have a := Nat.div_add_mod R bin
      have b := Nat.div_add_mod R' bin
      rw [← he] at b
      omega

theorem uv_lt {R R' : Nat} (h : R < R') : uv R < uv R' := by
  have hb := bin_pos
  refine Nat.lt_of_lt_of_le ?_ (uv_mono (show R + 1 ≤ R' from h))
  unfold uv
  by_cases h1 : R < bin
  · rw [if_pos h1]
    by_cases h2 : R + 1 < bin
    · rw [if_pos h2]; omega
    · rw [if_neg h2]
      have : 1 ≤ 2 ^ ((R + 1) / bin - 1) := Nat.one_le_two_pow
      have h3 := Nat.mul_le_mul_left (bin + (R + 1) % bin) this
      omega
  · rw [if_neg h1, if_neg (by omega)]
    have hr : R % bin < bin := Nat.mod_lt _ hb
    have a := Nat.div_add_mod R bin
    have q1 : 1 ≤ R / bin := (Nat.one_le_div_iff hb).2 (by omega)
    by_cases h2 : R % bin + 1 < bin
    · have e1 : (R + 1) % bin = R % bin + 1 := by
        rw [← a, Nat.add_assoc, Nat.mul_add_mod, Nat.mul_add_mod, Nat.mod_mod, Nat.mod_eq_of_lt h2]
      have e2 : (R + 1) / bin = R / bin := by
        conv => lhs; rw [← a, Nat.add_assoc, Nat.mul_add_div hb, Nat.div_eq_of_lt h2, Nat.add_zero]
      rw [e1, e2]
      exact Nat.mul_lt_mul_of_pos_right (by omega) (Nat.two_pow_pos _)
    · have e0 : R + 1 = bin * (R / bin + 1) := by rw [Nat.mul_add]; omega
      have e1 : (R + 1) % bin = 0 := by rw [e0]; exact Nat.mul_mod_right _ _
      have e2 : (R + 1) / bin = R / bin + 1 := by rw [e0]; exact Nat.mul_div_cancel_left _ hb
      rw [e1, e2, show R / bin + 1 - 1 = (R / bin - 1) + 1 by omega, Nat.pow_succ]
      calc (bin + R % bin) * 2 ^ (R / bin - 1) < (bin * 2) * 2 ^ (R / bin - 1) := Nat.mul_lt_mul_of_pos_right (by omega) (Nat.two_pow_pos _)
        _ = (bin + 0) * (2 ^ (R / bin - 1) * 2) := by rw [Nat.add_zero, Nat.mul_assoc, Nat.mul_comm 2]

theorem uv_le_iff {R R' : Nat} : uv R ≤ uv R' ↔ R ≤ R' := ⟨fun h => by
  rcases Nat.lt_or_ge R' R with h' | h'
  · have := uv_lt h'; omega
  · exact h', uv_mono⟩
theorem uv_lt_iff {R R' : Nat} : uv R < uv R' ↔ R < R' := by
  rw [← Nat.not_le, ← Nat.not_le, uv_le_iff]

theorem uv_zero : uv 0 = 0 := by unfold uv; rw [if_pos bin_pos]

/-! ### Rounding: the kept digits are the exact ones or one more, and one more only where something is dropped -/
theorem cut_even (neg : Bool) (n drop : Nat) : ∃ c : Nat, Toward.even.cut neg n drop = n / 2 ^ drop + c ∧ (c = 0 ∨ (c = 1 ∧ 0 < n % 2 ^ drop)) := by
  unfold Toward.cut
  simp only [Nat.one_shiftLeft]
  by_cases h : drop ≤ n.log2 + 2
  · rw [Nat.min_eq_left h]
    have hp : 0 < 2 ^ drop := Nat.two_pow_pos _
    refine ⟨_, rfl, ?_⟩
    by_cases hr : n % 2 ^ drop = 0
    · left
      have e1 : ¬ (2 ^ drop < 2 * 0) := by omega
      have e2 : (2 ^ drop == 2 * 0) = false := by rw [Nat.mul_zero]; exact beq_false_of_ne (by omega)
      rw [hr, e2]
      simp
    · rcases Bool.eq_false_or_eq_true (decide (2 ^ drop < 2 * (n % 2 ^ drop)) || (2 ^ drop == 2 * (n % 2 ^ drop) && n / 2 ^ drop % 2 == 1)) with hb | hb
      · right; rw [hb]; exact ⟨rfl, by omega⟩
      · left; rw [hb]; rfl
  · have hlt : n < 2 ^ (n.log2 + 1) := Nat.lt_log2_self
    have hm : min drop (n.log2 + 2) = n.log2 + 2 := by omega
    rw [hm]
    have hle : 2 ^ (n.log2 + 1) ≤ 2 ^ drop := Nat.pow_le_pow_right (by omega) (by omega)
    have h2 : 2 ^ (n.log2 + 2) = 2 * 2 ^ (n.log2 + 1) := by rw [Nat.pow_succ, Nat.mul_comm]
    have hlt2 : n < 2 ^ (n.log2 + 2) := by omega
    have hd : n / 2 ^ drop = 0 := Nat.div_eq_of_lt (by omega)
    have hd2 : n / 2 ^ (n.log2 + 2) = 0 := Nat.div_eq_of_lt hlt2
    rw [hd, hd2, Nat.mod_eq_of_lt hlt2]
    refine ⟨0, ?_, Or.inl rfl⟩
    have e1 : decide (2 ^ (n.log2 + 2) < 2 * n) = false := decide_eq_false (by omega)
    rw [e1]
    simp

/-- What is known of the rung that 'nearest' finds: the exact magnitude is E / B units. -/
structure Found (E B r : Nat) : Prop where
  le : ∀ R, E ≤ uv R * B → r ≤ R
  ge : ∀ R, uv R * B ≤ E → R ≤ r
  err : ∀ d, E ≤ 2 ^ (52 + d) * B → uv r * B ≤ E + 2 ^ d * B ∧ E ≤ uv r * B + 2 ^ d * B

theorem found (neg : Bool) (mag : Nat) (place : Int) (hm : mag ≠ 0) :
    Found (mag * 2 ^ (place + 1074).toNat) (2 ^ (-1074 - place).toNat)
      ((max (place + mag.log2 - 52) (-1074) + 1074).toNat * bin + Toward.even.cut neg (mag <<< (place - max (place + mag.log2 - 52) (-1074)).toNat) (max (place + mag.log2 - 52) (-1074) - place).toNat) := by
  generalize hlast : max (place + mag.log2 - 52) (-1074) = last
  have hl1 : -1074 ≤ last := by omega
  have hlo : 2 ^ mag.log2 ≤ mag := Nat.log2_self_le hm
  have hhi : mag < 2 ^ (mag.log2 + 1) := Nat.lt_log2_self
  generalize hL : mag.log2 = L at *
  generalize he : (last + 1074).toNat = e
  generalize ha : (place + 1074).toNat = a
  generalize hb : (-1074 - place).toNat = b
  rw [Nat.shiftLeft_eq]
  generalize hs : (place - last).toNat = s
  generalize hd : (last - place).toNat = d
  obtain ⟨c, hc, hc2⟩ := cut_even neg (mag * 2 ^ s) d
  rw [hc]
  -- the exact magnitude over the unit
  have hEq : mag * 2 ^ a / 2 ^ (e + b) = mag * 2 ^ s / 2 ^ d ∧ (0 < mag * 2 ^ s % 2 ^ d → 0 < mag * 2 ^ a % 2 ^ (e + b)) := by
    by_cases h1 : last ≤ place
    · have h2 : a = s + e := by omega
      have h3 : b = 0 := by omega
      have h4 : d = 0 := by omega
      subst h2 h3 h4
      rw [Nat.add_zero, Nat.pow_add, ← Nat.mul_assoc, Nat.mul_div_cancel _ (Nat.two_pow_pos e), Nat.pow_zero, Nat.div_one, Nat.mod_one]
      exact ⟨rfl, fun h => absurd h (by omega)⟩
    · have h2 : s = 0 := by omega
      subst h2
      by_cases h3 : -1074 ≤ place
      · have h4 : b = 0 := by omega
        have h5 : e = d + a := by omega
        subst h4 h5
        rw [Nat.add_zero, Nat.pow_add, Nat.mul_div_mul_right _ _ (Nat.two_pow_pos a), Nat.mul_mod_mul_right, Nat.pow_zero, Nat.mul_one]
        exact ⟨rfl, fun h => Nat.mul_pos h (Nat.two_pow_pos a)⟩
      · have h4 : a = 0 := by omega
        have h5 : d = e + b := by omega
        subst h4 h5
        exact ⟨rfl, id⟩
  obtain ⟨hq, hrest⟩ := hEq
  rw [← hq]
  have hup : mag * 2 ^ a < 2 ^ (53 + (e + b)) := by
    have h1 : L + 1 + a ≤ 53 + (e + b) := by omega
    calc mag * 2 ^ a < 2 ^ (L + 1) * 2 ^ a := Nat.mul_lt_mul_of_pos_right hhi (Nat.two_pow_pos a)
      _ = 2 ^ (L + 1 + a) := (Nat.pow_add ..).symm
      _ ≤ _ := Nat.pow_le_pow_right (by omega) h1
  have hdn : 0 < e → 2 ^ (52 + (e + b)) ≤ mag * 2 ^ a := by
    intro he0
    have h1 : 52 + (e + b) ≤ L + a := by omega
    calc 2 ^ (52 + (e + b)) ≤ 2 ^ (L + a) := Nat.pow_le_pow_right (by omega) h1
      _ = 2 ^ L * 2 ^ a := Nat.pow_add ..
      _ ≤ _ := Nat.mul_le_mul_right _ hlo
  generalize mag * 2 ^ a = E at *
  have hrest2 : c = 0 ∨ (c = 1 ∧ 0 < E % 2 ^ (e + b)) := by
    rcases hc2 with h | ⟨h, h'⟩
    · exact Or.inl h
    · exact Or.inr ⟨h, hrest h'⟩
  have hU : 0 < 2 ^ (e + b) := Nat.two_pow_pos _
  have hdm := Nat.div_add_mod E (2 ^ (e + b))
  have hml := Nat.mod_lt E hU
  generalize hk : E / 2 ^ (e + b) = k at *
  generalize hr : E % 2 ^ (e + b) = r at *
  have hk1 : k < 2 * bin := by
    rw [← hk, Nat.div_lt_iff_lt_mul hU, bin_def]
    rw [Nat.pow_add] at hup
    exact hup
  have hk2 : 0 < e → bin ≤ k := by
    intro h
    rw [← hk, Nat.le_div_iff_mul_le hU, bin_def, ← Nat.pow_add]
    exact hdn h
  have f1 : uv (e * bin + k) = k * 2 ^ e := uv_form e k (by
    rcases Nat.eq_zero_or_pos e with h | h
    · exact Or.inl ⟨h, by omega⟩
    · exact Or.inr ⟨hk2 h, by omega⟩)
  have f2 : uv (e * bin + (k + 1)) = (k + 1) * 2 ^ e := uv_form e (k + 1) (by
    rcases Nat.eq_zero_or_pos e with h | h
    · exact Or.inl ⟨h, by omega⟩
    · exact Or.inr ⟨by have := hk2 h; omega, by omega⟩)
  have g1 : uv (e * bin + k) * 2 ^ b = 2 ^ (e + b) * k := by rw [f1, Nat.mul_assoc, ← Nat.pow_add, Nat.mul_comm]
  have g2 : uv (e * bin + (k + 1)) * 2 ^ b = 2 ^ (e + b) * k + 2 ^ (e + b) := by rw [f2, Nat.mul_assoc, ← Nat.pow_add, Nat.mul_comm, Nat.mul_succ]
  have hB : 0 < 2 ^ b := Nat.two_pow_pos _
  refine ⟨fun R hR => ?_, fun R hR => ?_, fun d hR => ?_⟩
  · rcases hrest2 with h | ⟨h, hpos⟩
    · subst h
      have : uv (e * bin + k) * 2 ^ b ≤ uv R * 2 ^ b := by omega
      have := uv_le_iff.1 (Nat.le_of_mul_le_mul_right this hB)
      omega
    · subst h
      have : uv (e * bin + k) * 2 ^ b < uv R * 2 ^ b := by omega
      have := uv_lt_iff.1 (Nat.lt_of_mul_lt_mul_right this)
      omega
  · have : uv R * 2 ^ b < uv (e * bin + (k + 1)) * 2 ^ b := by omega
    have := uv_lt_iff.1 (Nat.lt_of_mul_lt_mul_right this)
    omega
  · have hed : 2 ^ (e + b) ≤ 2 ^ d * 2 ^ b := by
      rw [Nat.pow_add]
      refine Nat.mul_le_mul_right _ (Nat.pow_le_pow_right (by omega) ?_)
      rcases Nat.eq_zero_or_pos e with h | h
      · omega
      · have := Nat.le_trans (hdn h) hR
        rw [← Nat.pow_add] at this
        have := (Nat.pow_le_pow_iff_right (by omega)).1 this
        omega
    rcases hrest2 with h | ⟨h, hpos⟩
    · subst h
      rw [Nat.add_zero, g1]
      omega
    · subst h
      rw [g2]
      omega
end Go.Proofs.YbulkbyisDoor.Fl
