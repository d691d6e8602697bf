import Derived.Test.YbulkbyisDoorWalkB
namespace Go.Proofs.YbulkbyisDoor
open Go.RowKit

theorem c710_fin : Fl.Fin' 4649456441864749056 := Fl.fin_const _ (by decide) (by decide)
theorem c746_fin : Fl.Fin' 13873145138068324352 := Fl.fin_const _ (by decide) (by decide)
theorem c710_pos : 0 ≤ Fl.V 4649456441864749056 := by
  rw [Fl.V_pos (by decide)]
  generalize Fl.uv 4649456441864749056 = u
  omega

set_option maxHeartbeats 400000 in
theorem exp_under (x : Nat) (w : World) (fx : Fl.Fin' x) (h : Fl.V x < -(746 * (Fl.SN : Int))) :
    Calls Ybad.prog 10 #[.float .f64 x] w fun e w' => e = .returned (.float .f64 0) ∧ w' = w := by
  have HN : Hid (∀ w : World, Calls Ybad.prog 7 #[.float .f64 x] w fun e w' => e = .returned (.bool false) ∧ w' = w) := isnan_any x fx
  have h1 : (FloatKind.f64.format.order x 4649456441864749056 == some .gt) = false := gt_no fx c710_fin (by have := c710_pos; generalize Fl.V 4649456441864749056 = c at *; omega)
  have h2 : (FloatKind.f64.format.order x 13873145138068324352 == some .lt) = true := lt_yes fx c746_fin (by rw [Fl.c746_V]; exact h)
  clear h fx
  go_enter Ybad.func10, Ybad.ntmps10
  go_wp2_with (go_at_call 7; refine (HN.out _).mono ?_; rintro e w1 ⟨rfl, rfl⟩)
  go_ret
  exact ⟨rfl, rfl⟩

/-- The numbers of the series, under a name that the walk does not open. -/
structure Series (w : World) (tv : Nat → Nat) : Prop where
  cell : ∀ i, i < 12 → w.cell? ⟨1, i, none⟩ = some (.float .f64 (tv i))
  val : ∀ i, tv i = Fl.tay.getD i 0

set_option maxHeartbeats 1000000 in
theorem exp_main (x M s kf A Y L R : Nat) (tv : Nat → Nat) (K : Int) (w : World) (fx : Fl.Fin' x) (h0 : Fl.V x ≤ 0) (h1 : -(746 * (Fl.SN : Int)) ≤ Fl.V x)
    (eM : Ieee.double.mul x 4609176140021203710 = some M) (es : Ieee.double.add M 4602678819172646912 = some s) (fs : Fl.Fin' s) (ek : Ieee.double.write ((Ieee.double.read s).integral .down) = kf)
    (eK : floatToIntVal .f64 kf .i64 = some K) (eA : Ieee.double.mul kf 4604418534313443328 = some A) (eY : Ieee.double.sub x A = some Y) (eL : Ieee.double.mul kf 13639225319613146676 = some L) (eR : Ieee.double.sub Y L = some R)
    (fR : Fl.Fin' R) (r1 : Fl.V R ≤ 24 * (Fl.TN : Int)) (r2 : -(24 * (Fl.TN : Int)) ≤ Fl.V R) (u1 u2 v t : Nat)
    (e1 : Ieee.double.mul R R = some u1) (e2 : Ieee.double.mul u1 (Fl.hq R 11) = some u2) (e3 : Ieee.double.add R u2 = some v) (e4 : Ieee.double.add 4607182418800017408 v = some t)
    (HL : Hid (∀ w : World, Calls Ybad.prog 13 #[.float .f64 t, .int .i64 K] w fun e w' => (∃ z, e = .returned (.float .f64 z) ∧ Fl.LdR t K z) ∧ w' = w))
    (hg : Series w tv) :
    Calls Ybad.prog 10 #[.float .f64 x] w fun e w' => (∃ z, e = .returned (.float .f64 z) ∧ Fl.LdR t K z) ∧ w' = w := by
  have HN : Hid (∀ w : World, Calls Ybad.prog 7 #[.float .f64 x] w fun e w' => e = .returned (.bool false) ∧ w' = w) := isnan_any x fx
  have HF : Hid (∀ w : World, Calls Ybad.prog 12 #[.float .f64 s] w fun e w' => e = .returned (.float .f64 kf) ∧ w' = w) := by
    have h := floor_any s (by obtain ⟨_, _, _, _, hn⟩ := Fl.floor_fin fs; exact hn)
    rw [ek] at h
    exact h
  have g1 : (FloatKind.f64.format.order x 4649456441864749056 == some .gt) = false := gt_no fx c710_fin (by have := c710_pos; generalize Fl.V 4649456441864749056 = c at *; omega)
  have g2 : (FloatKind.f64.format.order x 13873145138068324352 == some .lt) = false := lt_no fx c746_fin (by rw [Fl.c746_V]; exact h1)
  have rM := fun w => run_float_arith (P := Ybad.prog) w .mul 22 .f64 _ _ _ eM
  have rs := fun w => run_float_arith (P := Ybad.prog) w .add 22 .f64 _ _ _ es
  have rA := fun w => run_float_arith (P := Ybad.prog) w .mul 22 .f64 _ _ _ eA
  have rY := fun w => run_float_arith (P := Ybad.prog) w .sub 22 .f64 _ _ _ eY
  have rL := fun w => run_float_arith (P := Ybad.prog) w .mul 22 .f64 _ _ _ eL
  have rR := fun w => run_float_arith (P := Ybad.prog) w .sub 22 .f64 _ _ _ eR
  have q1 := fun w => run_float_arith (P := Ybad.prog) w .mul 22 .f64 _ _ _ e1
  have q2 := fun w => run_float_arith (P := Ybad.prog) w .mul 22 .f64 _ _ _ e2
  have q3 := fun w => run_float_arith (P := Ybad.prog) w .add 22 .f64 _ _ _ e3
  have q4 := fun w => run_float_arith (P := Ybad.prog) w .add 22 .f64 _ _ _ e4
  have cK : ∀ w : World, (convert 22 3 (.float .f64 kf)).run Ybad.prog w = .ok (.int .i64 K) w := fun w => run_convert_float_int w 22 3 .f64 .i64 kf K (by rw [Ybad.underlying22]; rfl) Ybad.underlying3 eK
  have h11 := hg.cell 11 (by decide)
  have HS : Hid (∀ j, j < 11 → (∀ w : World, (binOp .mul 22 (.float .f64 R) (.float .f64 (Fl.hq R j))).run Ybad.prog w = .ok (.float .f64 (Fl.hp R (Fl.hq R j))) w) ∧
      (∀ w : World, (binOp .add 22 (.float .f64 (tv (10 - j))) (.float .f64 (Fl.hp R (Fl.hq R j)))).run Ybad.prog w = .ok (.float .f64 (Fl.hq R (j + 1))) w)) := by
    intro j hj
    have := Fl.hq_step fR r1 r2 j hj
    rw [hg.val]
    exact ⟨fun w => run_float_arith (P := Ybad.prog) w .mul 22 .f64 _ _ _ this.1, fun w => run_float_arith (P := Ybad.prog) w .add 22 .f64 _ _ _ this.2⟩
  have H0 : Hid (tv 11 = Fl.hq R 0) := by rw [hg.val]; rfl
  have HC : Hid (∀ i, i < 12 → w.cell? ⟨1, i, none⟩ = some (.float .f64 (tv i))) := hg.cell
  clear fx h0 h1 eM es fs ek eA eY eL eR hg eK fR r1 r2 e1 e2 e3 e4
  generalize Fl.hq R = hq at *
  generalize Fl.hp R = hp at *
  go_enter Ybad.func10, Ybad.ntmps10
  go_wp2_with (first
    | (go_at_call 7; refine (HN.out _).mono ?_; rintro e w1 ⟨rfl, rfl⟩)
    | (go_at_call 12; refine (HF.out _).mono ?_; rintro e w1 ⟨rfl, rfl⟩))
  go_loop [5, 6] (fun q i => ∃ j : Nat, j ≤ 11 ∧ i = .int .i64 (10 - (j : Int)) ∧ q = .float .f64 (hq j)) (fun _ i => (intOf i + 1).toNat)
  case atStart => exact ⟨0, by omega, rfl, by rw [H0.out]⟩
  case round =>
    obtain ⟨j, hj, rfl, rfl⟩ := hrel
    by_cases hlt : j < 11
    · obtain ⟨m1, m2⟩ := HS.out j hlt
      have c1 := HC.out (10 - j) (by omega)
      obtain ⟨k, hk⟩ : ∃ k : Nat, 10 - j = k := ⟨_, rfl⟩
      have hk2 : (10 : Int) - (j : Int) = (k : Int) := by omega
      rw [hk] at c1 m2
      rw [hk2]
      have hk3 : k ≤ 10 := by omega
      go_wp2
      refine ⟨⟨j + 1, by omega, ?_, rfl⟩, ?_⟩
      · rw [show (k : Int) - 1 = 10 - ((j + 1 : Nat) : Int) by omega]
      · simp only [intOf]; omega
    · have : j = 11 := by omega
      subst this
      go_wp2_with (go_at_call 13; refine (HL.out _).mono ?_; rintro e w1 ⟨⟨z, rfl, hr⟩, rfl⟩)
      go_ret
      exact ⟨⟨z, rfl, hr⟩, rfl⟩

theorem exp_any (x : Nat) (tv : Nat → Nat) (w : World) (fx : Fl.Fin' x) (h0 : Fl.V x ≤ 0) (hg : Series w tv) :
    Calls Ybad.prog 10 #[.float .f64 x] w fun e w' => (∃ z, e = .returned (.float .f64 z) ∧ Fl.ExpR x z) ∧ w' = w := by
  by_cases hu : Fl.V x < -(746 * (Fl.SN : Int))
  · exact (exp_under x w fx hu).mono fun e w' h => ⟨⟨0, h.1, Fl.expR_under hu⟩, h.2⟩
  · obtain ⟨M, s, kf, A, Y, L, R, K, eM, es, fs, ek, _, eK, eA, eY, eL, eR, fR, r1, r2, k1, k0, ks, kn, kz⟩ := Fl.exp_reduce fx h0 (by omega)
    obtain ⟨fq, q1, q2⟩ := Fl.hq_last fR r1 r2
    obtain ⟨u1, u2, v, t, e1, e2, e3, e4, ft, t1, t2, tn, tz⟩ := Fl.tail fR fq r1 r2 q1 q2
    have hT := Fl.TN_pos
    have hS := Fl.SN_TN'
    have hs : K = 0 → Fl.V t ≤ 64 * (Fl.TN : Int) := fun h => tn (by rw [ks h]; exact h0)
    refine (exp_main x M s kf A Y L R tv K w fx h0 (by omega) eM es fs ek eK eA eY eL eR fR r1 r2 u1 u2 v t e1 e2 e3 e4 (fun w => Ldexp_any t K w ft t1 t2 k0 k1 hs) hg).mono ?_
    rintro e w' ⟨⟨z, rfl, hr⟩, rfl⟩
    refine ⟨⟨z, rfl, hr.fin, hr.lo, hr.hi, fun h => absurd h hu, fun h => hr.pos (kn h), fun h => ?_, fun h => ?_⟩, rfl⟩
    · rw [hr.same (kz h)]; exact t1
    · have hk : K = 0 := kz (by rw [h]; omega)
      rw [hr.same hk, tz (by rw [ks hk, h]), hS]
end Go.Proofs.YbulkbyisDoor
