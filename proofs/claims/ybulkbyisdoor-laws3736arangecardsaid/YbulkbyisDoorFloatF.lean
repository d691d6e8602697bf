import Derived.Test.YbulkbyisDoorFloatE
namespace Go.Proofs.YbulkbyisDoor.Fl
open Ieee

theorem lin1 (X M s Q D : Int)
    (m1 : M * 4503599627370496 ≤ X * 6497320848556798 + D * 4503599627370496) (m2 : X * 6497320848556798 ≤ M * 4503599627370496 + D * 4503599627370496)
    (s1 : s ≤ M + 1099511627776 * D + D) (s2 : M + 1099511627776 * D ≤ s + D)
    (q1 : 2199023255552 * Q ≤ s) (q2 : s < 2199023255552 * Q + 2199023255552 * D) :
    4503599627370496 * (2199023255552 * Q - 1099511627776 * D - 2 * D) ≤ X * 6497320848556798 ∧ X * 6497320848556798 ≤ 4503599627370496 * (2199023255552 * Q + 1099511627776 * D + 2 * D) := by
  omega
theorem lin2 (X Q A Y L R D : Int) (hQ : Q ≤ 0) (hQ2 : -(1078 * D) ≤ Q)
    (x1 : 4503599627370496 * (2199023255552 * Q - 1099511627776 * D - 2 * D) ≤ X * 6497320848556798) (x2 : X * 6497320848556798 ≤ 4503599627370496 * (2199023255552 * Q + 1099511627776 * D + 2 * D))
    (a1 : A * 9007199254740992 ≤ 2199023255552 * Q * 6243314768166912 + D * 9007199254740992) (a2 : 2199023255552 * Q * 6243314768166912 ≤ A * 9007199254740992 + D * 9007199254740992)
    (l1 : L * 39614081257132168796771975168 ≤ 2199023255552 * Q * (-6829247562655284) + D * 39614081257132168796771975168) (l2 : 2199023255552 * Q * (-6829247562655284) ≤ L * 39614081257132168796771975168 + D * 39614081257132168796771975168)
    (y1 : Y ≤ X - A + D) (y2 : X - A ≤ Y + D) (r1 : R ≤ Y - L + D) (r2 : Y - L ≤ R + D) : R ≤ 824633720832 * D ∧ -(824633720832 * D) ≤ R := by
  omega

theorem exp_reduce {x : Nat} (hx : Fin' x) (h0 : V x ≤ 0) (h1 : -(746 * (SN : Int)) ≤ V x) :
    ∃ M s kf A Y L R : Nat, ∃ K : Int, double.mul x 4609176140021203710 = some M ∧ double.add M 4602678819172646912 = some s ∧ Fin' s ∧ double.write ((double.read s).integral .down) = kf ∧ kf < 2 ^ 64 ∧
      floatToIntVal .f64 kf .i64 = some K ∧ double.mul kf 4604418534313443328 = some A ∧ double.sub x A = some Y ∧ double.mul kf 13639225319613146676 = some L ∧ double.sub Y L = some R ∧ Fin' R ∧
      V R ≤ 24 * (TN : Int) ∧ -(24 * (TN : Int)) ≤ V R ∧ -1078 ≤ K ∧ K ≤ 0 ∧ (K = 0 → V R = V x) ∧ (-(450 * (SN : Int)) ≤ V x → -651 ≤ K) ∧ (-(SN : Int) ≤ 4 * V x → K = 0) := by
  have hSD := SN_DN
  have hTD := TN_def
  have hDp := DN_pos
  obtain ⟨M, eM, rM⟩ := mul_const hx log2e_fin log2e_V
  have bM := rM.errD (by generalize SN = S at *; generalize DN = D at *; generalize V x = X at *; omega) (by generalize SN = S at *; generalize DN = D at *; generalize V x = X at *; omega)
  have bM0 : V M ≤ 0 := rM.le 0 rep_zero (by generalize V x = X at *; omega)
  have fM : Fin' M := fin_small rM.lt (by generalize DN = D at *; omega) (by generalize SN = S at *; generalize DN = D at *; generalize V x = X at *; generalize V M = m at *; omega)
  obtain ⟨s, es, rs⟩ := add_rd fM half_fin
  rw [half_V] at rs
  have bs := rs.errD (by generalize SN = S at *; generalize DN = D at *; generalize V x = X at *; generalize V M = m at *; omega) (by generalize SN = S at *; generalize DN = D at *; generalize V x = X at *; generalize V M = m at *; omega)
  have bs0 : V s ≤ 2 ^ 40 * (DN : Int) := rs.le _ (half_V ▸ half_fin.rep) (by generalize DN = D at *; generalize V M = m at *; omega)
  have fs : Fin' s := fin_small rs.lt (by generalize DN = D at *; omega) (by generalize SN = S at *; generalize DN = D at *; generalize V x = X at *; generalize V M = m at *; generalize V s = ss at *; omega)
  obtain ⟨sg, c, ei, hK, _⟩ := floor_fin fs
  have hSp : (0 : Int) < (SN : Int) := by have := SN_pos; omega
  have q1 := Int.ediv_mul_le (V s) (b := (SN : Int)) (by omega)
  have q2 := Int.lt_ediv_add_one_mul_self (V s) hSp
  rw [← hK] at q1 q2
  generalize hKK : sgn sg c = K at *
  have hlo : -(1077 * (SN : Int)) ≤ V s := by generalize SN = S at *; generalize DN = D at *; generalize V x = X at *; generalize V M = m at *; generalize V s = ss at *; omega
  have hK0 : K ≤ 0 := by
    rw [hK]
    have : V s / (SN : Int) < 1 := Int.ediv_lt_of_lt_mul hSp (by generalize SN = S at *; generalize DN = D at *; generalize V s = ss at *; omega)
    omega
  have hK1 : -1077 ≤ K := by
    rw [hK]
    exact Int.le_ediv_of_mul_le hSp (by generalize SN = S at *; generalize V s = ss at *; omega)
  have hc : c < 1100 := by
    unfold sgn at hKK
    split at hKK <;> omega
  obtain ⟨vk, fk⟩ := small_int sg c hc
  have tk := toInt_small sg c hc
  rw [hKK] at vk tk
  rw [← ei] at vk fk tk
  generalize hkf : double.write ((double.read s).integral .down) = kf at vk fk tk
  have hQS : K * (SN : Int) = 2199023255552 * (K * (DN : Int)) := by
    rw [hSD, Int.natCast_mul, Int.mul_left_comm]; rfl
  have hQ0 : K * (DN : Int) ≤ 0 := by
    have := Int.mul_le_mul_of_nonneg_right hK0 (show (0 : Int) ≤ DN by omega)
    omega
  have hQ1 : -(1077 * (DN : Int)) ≤ K * (DN : Int) := by
    have := Int.mul_le_mul_of_nonneg_right hK1 (show (0 : Int) ≤ DN by omega)
    omega
  rw [hQS] at vk q1
  rw [Int.add_mul, Int.one_mul, hQS] at q2
  obtain ⟨A, eA, rA⟩ := mul_const fk ln2Hi_fin ln2Hi_V
  obtain ⟨L, eL, rL⟩ := mul_const fk ln2Lo_fin ln2Lo_V
  rw [vk] at rA rL
  generalize hQ : K * (DN : Int) = Q at *
  have bA := rA.errD (by generalize DN = D at *; omega) (by generalize DN = D at *; omega)
  have bL := rL.errD (by generalize DN = D at *; omega) (by generalize DN = D at *; omega)
  have fA : Fin' A := fin_small rA.lt (by generalize DN = D at *; generalize V A = a at *; omega) (by generalize DN = D at *; generalize V A = a at *; omega)
  have fL : Fin' L := fin_small rL.lt (by generalize DN = D at *; generalize V L = a at *; omega) (by generalize DN = D at *; generalize V L = a at *; omega)
  obtain ⟨Y, eY, rY⟩ := sub_rd hx fA
  have bY := rY.errD (by generalize SN = S at *; generalize DN = D at *; generalize V A = a at *; generalize V x = X at *; omega) (by generalize SN = S at *; generalize DN = D at *; generalize V A = a at *; generalize V x = X at *; omega)
  have fY : Fin' Y := fin_small rY.lt (by generalize SN = S at *; generalize DN = D at *; generalize V A = a at *; generalize V x = X at *; generalize V Y = y at *; omega) (by generalize SN = S at *; generalize DN = D at *; generalize V A = a at *; generalize V x = X at *; generalize V Y = y at *; omega)
  obtain ⟨R, eR, rR⟩ := sub_rd fY fL
  have bR := rR.errD (by generalize SN = S at *; generalize DN = D at *; generalize V A = a at *; generalize V x = X at *; generalize V Y = y at *; generalize V L = l at *; omega) (by generalize SN = S at *; generalize DN = D at *; generalize V A = a at *; generalize V x = X at *; generalize V Y = y at *; generalize V L = l at *; omega)
  have k1 := lin1 (V x) (V M) (V s) Q (DN : Int) (by generalize DN = D at *; generalize V x = X at *; generalize V M = m at *; omega) (by generalize DN = D at *; generalize V x = X at *; generalize V M = m at *; omega) (by generalize DN = D at *; generalize V s = ss at *; generalize V M = m at *; omega) (by generalize DN = D at *; generalize V s = ss at *; generalize V M = m at *; omega) q1 (by generalize SN = S at *; generalize DN = D at *; generalize V s = ss at *; omega)
  have k2 := lin2 (V x) Q (V A) (V Y) (V L) (V R) (DN : Int) hQ0 (by omega) k1.1 k1.2 (by generalize DN = D at *; generalize V A = a at *; omega) (by generalize DN = D at *; generalize V A = a at *; omega) (by generalize DN = D at *; generalize V L = a at *; omega) (by generalize DN = D at *; generalize V L = a at *; omega) (by generalize DN = D at *; generalize V A = a at *; generalize V x = X at *; generalize V Y = y at *; omega) (by generalize DN = D at *; generalize V A = a at *; generalize V x = X at *; generalize V Y = y at *; omega) (by generalize DN = D at *; generalize V R = a at *; generalize V L = X at *; generalize V Y = y at *; omega) (by generalize DN = D at *; generalize V R = a at *; generalize V L = X at *; generalize V Y = y at *; omega)
  have fR : Fin' R := fin_small rR.lt (by generalize DN = D at *; generalize V R = r at *; omega) (by generalize DN = D at *; generalize V R = r at *; omega)
  refine ⟨M, s, kf, A, Y, L, R, K, eM, es, fs, hkf, fk.2, tk, eA, eY, eL, eR, fR, ?_, ?_, by omega, hK0, ?_, ?_, ?_⟩
  · rw [hTD]; generalize DN = D at *; generalize V R = r at *; omega
  · rw [hTD]; generalize DN = D at *; generalize V R = r at *; omega
  · intro hz
    have hq : Q = 0 := by rw [← hQ, hz, Int.zero_mul]
    rw [hq] at rA rL
    have vA : V A = 0 := rA.exactB rep_zero (by omega)
    have vL : V L = 0 := rL.exactB rep_zero (by omega)
    rw [vA] at rY
    have vY : V Y = V x := by
      have := rY.exact (by rw [Int.sub_zero]; exact hx.rep)
      omega
    rw [vL] at rR
    have vR : V R = V Y := by
      have := rR.exact (by rw [Int.sub_zero]; exact fY.rep)
      omega
    rw [vR, vY]
  · intro hz
    rw [hK]
    exact Int.le_ediv_of_mul_le hSp (by generalize SN = S at *; generalize DN = D at *; generalize V x = X at *; generalize V M = m at *; generalize V s = ss at *; omega)
  · intro hz
    have : 0 ≤ K := by
      rw [hK]
      exact Int.le_ediv_of_mul_le hSp (by generalize SN = S at *; generalize DN = D at *; generalize V x = X at *; generalize V M = m at *; generalize V s = ss at *; omega)
    omega
end Go.Proofs.YbulkbyisDoor.Fl
