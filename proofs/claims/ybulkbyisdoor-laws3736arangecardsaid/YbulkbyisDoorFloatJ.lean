import Derived.Test.YbulkbyisDoorFloatI
namespace Go.Proofs.YbulkbyisDoor.Fl
open Ieee

theorem rep_P_neg : Rep (-(PN : Int)) := rep_P.neg

/-- The two arguments that the density hands to exp. -/
structure ArgR (A : Nat) (x1 x2 : Nat) : Prop where
  f1 : Fin' x1
  f2 : Fin' x2
  n1 : V x1 ≤ 0
  n2 : V x2 ≤ 0
  zero : A = 0 → V x1 = 0 ∧ V x2 = 0
  far : 39 * SN < A → V x1 < -(746 * (SN : Int))
  near : A ≤ 30 * SN → -(450 * (SN : Int)) ≤ V x1 ∧ -(SN : Int) ≤ 4 * V x2

theorem half_down {p x : Nat} (rx : Rd (V p) 2 x) (hp : V p ≤ 0) (fp : Fin' p) : V x ≤ 0 ∧ V p ≤ V x := by
  refine ⟨rx.le 0 rep_zero (by omega), rx.ge _ fp.rep (by omega)⟩

theorem first_arg {h : Nat} (fh : Fin' h) {H : Nat} (hH : V h = (H : Int) ∨ V h = -(H : Int)) (hP : H ≤ PN) :
    ∃ p x, double.mul (h ^^^ 2 ^ 63) h = some p ∧ double.div p 4611686018427387904 = some x ∧ Fin' x ∧ V x ≤ 0 ∧ (H = 0 → V x = 0) ∧ (39 * SN ≤ H → V x < -(746 * (SN : Int))) ∧ (H ≤ 30 * SN → -(450 * (SN : Int)) ≤ V x) := by
  have hSp := SN_pos
  obtain ⟨p, ep, rp⟩ := mul_rd (neg_fin fh) fh
  have e : V (h ^^^ 2 ^ 63) * V h = -((H * H : Nat) : Int) := by
    rw [neg_V fh.2, Int.natCast_mul]
    rcases hH with h' | h' <;> rw [h']
    · rw [Int.neg_mul]
    · rw [Int.neg_neg, Int.mul_neg]
  rw [e] at rp
  have hG : -((GN : Int) * (SN : Int)) ≤ -((H * H : Nat) : Int) := by
    rw [← PG]
    have : H * H ≤ PN * (2 * PN) := Nat.mul_le_mul hP (by omega)
    have h2 : ((PN * (2 * PN) : Nat) : Int) = (PN : Int) * (2 * (PN : Int)) := by rw [Int.natCast_mul, Int.natCast_mul]; rfl
    omega
  have p1 : V p ≤ 0 := rp.le 0 rep_zero (by omega)
  have p2 : -(GN : Int) ≤ V p := rp.ge _ rep_G.neg (by rw [Int.neg_mul]; exact hG)
  have fp : Fin' p := fin_G rp.lt (by omega) p2
  obtain ⟨x, ex, rx⟩ := half_rd fp
  have hx := half_down rx p1 fp
  refine ⟨p, x, ep, ex, fin_G rx.lt (by omega) (by omega), hx.1, fun h0 => ?_, fun h0 => ?_, fun h0 => ?_⟩
  · have : V p = 0 := rp.exactB rep_zero (by rw [h0]; omega)
    omega
  · have hp : V p ≤ -(((1521 : Nat) : Int) * (SN : Int)) := rp.le _ (rep_kS 1521 (by decide)).neg (by
      have := Nat.mul_le_mul h0 h0
      have e2 : 39 * SN * (39 * SN) = 1521 * SN * SN := by
        rw [Nat.mul_assoc, Nat.mul_left_comm SN, ← Nat.mul_assoc 39, Nat.mul_assoc (1521)]
      rw [e2] at this
      rw [Int.neg_mul, ← Int.natCast_mul, ← Int.natCast_mul]
      omega)
    have : V x ≤ -(((760 : Nat) : Int) * (SN : Int)) := rx.le _ (rep_kS 760 (by decide)).neg (by omega)
    omega
  · have hp : -(((900 : Nat) : Int) * (SN : Int)) ≤ V p := rp.ge _ (rep_kS 900 (by decide)).neg (by
      have := Nat.mul_le_mul h0 h0
      have e2 : 30 * SN * (30 * SN) = 900 * SN * SN := by
        rw [Nat.mul_assoc, Nat.mul_left_comm SN, ← Nat.mul_assoc 30, Nat.mul_assoc (900)]
      rw [e2] at this
      rw [Int.neg_mul, ← Int.natCast_mul, ← Int.natCast_mul]
      omega)
    have : -(((450 : Nat) : Int) * (SN : Int)) ≤ V x := rx.ge _ (rep_kS 450 (by decide)).neg (by omega)
    omega

theorem second_arg {a h : Nat} (fa : Fin' a) (fh : Fin' h) {A H : Nat} (hv : (V a = (A : Int) ∧ V h = (H : Int)) ∨ (V a = -(A : Int) ∧ V h = -(H : Int))) (hHA : H ≤ A) (hP : A ≤ PN) :
    ∃ lo sm p x, double.sub a h = some lo ∧ double.add a h = some sm ∧ double.mul (lo ^^^ 2 ^ 63) sm = some p ∧ double.div p 4611686018427387904 = some x ∧ lo < 2 ^ 64 ∧ Fin' x ∧ V x ≤ 0 ∧ (A = 0 → V x = 0) ∧
      (A ≤ 30 * SN → A ≤ H + 2 ^ 20 * DN → -(SN : Int) ≤ 4 * V x) := by
  have hSp := SN_pos
  have hDp := DN_pos
  have hSD := SN_DN
  obtain ⟨lo, el, rl⟩ := sub_rd fa fh
  obtain ⟨sm, es, rs⟩ := add_rd fa fh
  have rA : Rep (A : Int) := by
    rcases hv with h' | h'
    · exact h'.1 ▸ fa.rep
    · have := fa.rep.neg
      rw [h'.1, Int.neg_neg] at this
      exact this
  have hS : (0 ≤ V lo ∧ 0 ≤ V sm) ∨ (V lo ≤ 0 ∧ V sm ≤ 0) := by
    rcases hv with h' | h'
    · exact Or.inl ⟨rl.ge _ rep_zero (by omega), rs.ge _ rep_zero (by omega)⟩
    · exact Or.inr ⟨rl.le _ rep_zero (by omega), rs.le _ rep_zero (by omega)⟩
  have l1 : V lo ≤ (A : Int) := rl.le _ rA (by omega)
  have l2 : -(A : Int) ≤ V lo := rl.ge _ rA.neg (by omega)
  have s1 : V sm ≤ 2 * (PN : Int) := rs.le _ rep_P2 (by omega)
  have s2 : -(2 * (PN : Int)) ≤ V sm := rs.ge _ rep_P2.neg (by omega)
  have hPG : (2 * PN : Nat) ≤ GN := by
    have a1 := pE_def
    have a2 := gE_def
    rw [PN_def, GN_def, ← Nat.pow_succ']
    exact Nat.pow_le_pow_right (by omega) (by omega)
  have fl : Fin' lo := fin_G rl.lt (by omega) (by omega)
  have fs : Fin' sm := fin_G rs.lt (by omega) (by omega)
  obtain ⟨p, ep, rp⟩ := mul_rd (neg_fin fl) fs
  rw [neg_V fl.2, Int.neg_mul] at rp
  have hnn : 0 ≤ V lo * V sm := by
    rcases hS with h | h
    · exact Int.mul_nonneg h.1 h.2
    · exact Int.mul_nonneg_of_nonpos_of_nonpos h.1 h.2
  have p1 : V p ≤ 0 := rp.le 0 rep_zero (by omega)
  have p2 : -(GN : Int) ≤ V p := rp.ge _ rep_G.neg (by
    have := (mul_bound (p := (PN : Int)) (q := 2 * (PN : Int)) (a := V lo) (b := V sm) (by omega) (by omega) s1 s2).1
    rw [PG] at this
    rw [Int.neg_mul]
    omega)
  have fp : Fin' p := fin_G rp.lt (by omega) p2
  obtain ⟨x, ex, rx⟩ := half_rd fp
  have hx := half_down rx p1 fp
  refine ⟨lo, sm, p, x, el, es, ep, ex, fl.2, fin_G rx.lt (by omega) (by omega), hx.1, fun h0 => ?_, fun h0 h1 => ?_⟩
  · have v0 : V lo = 0 := by omega
    have : V p = 0 := rp.exactB rep_zero (by rw [v0]; simp)
    omega
  · have k1 : V lo ≤ 1048576 * (DN : Int) := rl.le _ rep_U1 (by omega)
    have k2 : -(1048576 * (DN : Int)) ≤ V lo := rl.ge _ rep_U1.neg (by omega)
    have k3 : V sm ≤ ((60 : Nat) : Int) * (SN : Int) := rs.le _ (rep_kS 60 (by decide)) (by omega)
    have k4 : -(((60 : Nat) : Int) * (SN : Int)) ≤ V sm := rs.ge _ (rep_kS 60 (by decide)).neg (by omega)
    have hb := (mul_bound k1 k2 k3 k4).1
    have hb2 : 1048576 * (DN : Int) * (((60 : Nat) : Int) * (SN : Int)) ≤ 67108864 * (DN : Int) * (SN : Int) := by
      rw [← Int.mul_assoc]
      exact Int.mul_le_mul_of_nonneg_right (by omega) (by omega)
    have hp : -(67108864 * (DN : Int)) ≤ V p := rp.ge _ rep_U64.neg (by rw [Int.neg_mul]; omega)
    generalize SN = S at *
    generalize DN = D at *
    omega

theorem args {a h : Nat} (fa : Fin' a) (hh : h = a - a % 2 ^ 27) (hP : (uv (a % 2 ^ 63)) ≤ PN) :
    ∃ lo p1 x1 sm p2 x2, double.sub a h = some lo ∧ double.mul (h ^^^ 2 ^ 63) h = some p1 ∧ double.div p1 4611686018427387904 = some x1 ∧ double.add a h = some sm ∧ double.mul (lo ^^^ 2 ^ 63) sm = some p2 ∧
      double.div p2 4611686018427387904 = some x2 ∧ lo < 2 ^ 64 ∧ ArgR (uv (a % 2 ^ 63)) x1 x2 := by
  obtain ⟨fh, er, hv⟩ := hi_V fa hh
  have hHA : uv (h % 2 ^ 63) ≤ uv (a % 2 ^ 63) := uv_mono (by omega)
  obtain ⟨p1, x1, e1, e2, f1, n1, z1, far, near⟩ := first_arg fh (H := uv (h % 2 ^ 63)) (by rcases hv with h' | h' <;> simp [h'.2]) (by omega)
  obtain ⟨lo, sm, p2, x2, e3, e4, e5, e6, l64, f2, n2, z2, near2⟩ := second_arg fa fh hv hHA hP
  refine ⟨lo, p1, x1, sm, p2, x2, e3, e1, e2, e4, e5, e6, l64, f1, f2, n1, n2, fun h0 => ⟨z1 (by omega), z2 h0⟩, fun h0 => far ?_, fun h0 => ⟨near (by omega), near2 h0 ?_⟩⟩
  · have c := c39_V
    rw [V_pos (by decide)] at c
    have hge : 4630685579355357184 < a % 2 ^ 63 := by
      rw [← uv_lt_iff]
      generalize uv 4630685579355357184 = u at *
      omega
    have : uv 4630685579355357184 ≤ uv (h % 2 ^ 63) := uv_mono (by omega)
    generalize uv 4630685579355357184 = u at *
    omega
  · have c := c30_V
    rw [V_pos (by decide)] at c
    have hle : a % 2 ^ 63 ≤ 4629137466983448576 := by
      rw [← uv_le_iff]
      generalize uv 4629137466983448576 = u at *
      omega
    rw [er]
    exact cut_digits (by omega)
end Go.Proofs.YbulkbyisDoor.Fl
