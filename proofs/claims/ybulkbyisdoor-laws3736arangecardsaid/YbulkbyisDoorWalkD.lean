import Derived.Test.YbulkbyisDoorWalkC
namespace Go.Proofs.YbulkbyisDoor
open Go.RowKit

theorem run_neg_float (x y : Nat) (h : x ^^^ 2 ^ 63 = y) (w : World) : (Op.unary .neg (.float .f64 x)).run Ybad.prog w = .ok (.float .f64 y) w := by
  subst h
  rfl

/-- What the density answers. -/
structure DensR (a d : Nat) : Prop where
  fin : Fl.Fin' d
  lo : 0 ≤ Fl.V d
  hi : Fl.V d ≤ Fl.V 4600858325139338833
  zero : Fl.uv (a % 2 ^ 63) = 0 → Fl.V d = Fl.V 4600858325139338833
  far : 39 * Fl.SN < Fl.uv (a % 2 ^ 63) → Fl.V d = 0
  near : Fl.uv (a % 2 ^ 63) ≤ 30 * Fl.SN → 0 < Fl.V d

set_option maxHeartbeats 1000000 in
theorem density_walk (a h lo p1 x1 sm p2 x2 : Nat) (w : World) (hh : (bits .andNot .u64 (a : Int) 134217727).toNat = h)
    (el : Ieee.double.sub a h = some lo) (e1 : Ieee.double.mul (h ^^^ 2 ^ 63) h = some p1) (e2 : Ieee.double.div p1 4611686018427387904 = some x1) (e3 : Ieee.double.add a h = some sm)
    (e4 : Ieee.double.mul (lo ^^^ 2 ^ 63) sm = some p2) (e5 : Ieee.double.div p2 4611686018427387904 = some x2)
    (H1 : Hid (∀ w' : World, w' = w → Calls Ybad.prog 10 #[.float .f64 x1] w' fun e w'' => (∃ z, e = .returned (.float .f64 z) ∧ Fl.ExpR x1 z) ∧ w'' = w'))
    (H2 : Hid (∀ w' : World, w' = w → Calls Ybad.prog 10 #[.float .f64 x2] w' fun e w'' => (∃ z, e = .returned (.float .f64 z) ∧ Fl.ExpR x2 z) ∧ w'' = w'))
    (HD : Hid (∀ y1 y2, Fl.ExpR x1 y1 → Fl.ExpR x2 y2 → ∃ p d, (∀ w : World, (binOp .mul 22 (.float .f64 y1) (.float .f64 y2)).run Ybad.prog w = .ok (.float .f64 p) w) ∧
      (∀ w : World, (binOp .mul 22 (.float .f64 p) (.float .f64 4600858325139338833)).run Ybad.prog w = .ok (.float .f64 d) w) ∧ DensR a d)) :
    Calls Ybad.prog 6 #[.float .f64 a] w fun e w' => (∃ d, e = .returned (.float .f64 d) ∧ DensR a d) ∧ w' = w := by
  have hbc := bits_call a
  have hfc : ∀ w : World, (callFunc 8 #[.int .u64 (bits .andNot .u64 (a : Int) 134217727)]).run Ybad.prog w = .ok (.value (.float .f64 h)) w := by
    intro w
    rw [frombits_call, hh]
  have rl := fun w => run_float_arith (P := Ybad.prog) w .sub 22 .f64 _ _ _ el
  have n1 := run_neg_float h _ rfl
  have n2 := run_neg_float lo _ rfl
  have r1 := fun w => run_float_arith (P := Ybad.prog) w .mul 22 .f64 _ _ _ e1
  have r2 := fun w => run_float_arith (P := Ybad.prog) w .quo 22 .f64 _ _ _ e2
  have r3 := fun w => run_float_arith (P := Ybad.prog) w .add 22 .f64 _ _ _ e3
  have r4 := fun w => run_float_arith (P := Ybad.prog) w .mul 22 .f64 _ _ _ e4
  have r5 := fun w => run_float_arith (P := Ybad.prog) w .quo 22 .f64 _ _ _ e5
  clear hh el e1 e2 e3 e4 e5
  generalize h ^^^ 2 ^ 63 = nh at *
  generalize lo ^^^ 2 ^ 63 = nl at *
  go_enter Ybad.func6, Ybad.ntmps6
  go_wp2_with (go_at_call 10; first
    | (have second := Y1; clear second; refine (H2.out _ rfl).mono ?_; rintro e w1 ⟨⟨y2, rfl, hy2⟩, rfl⟩; obtain ⟨p, d, m1, m2, hd⟩ := HD.out _ _ Y1.out hy2; have DD : Hid (DensR a d) := hd; clear hd hy2)
    | (refine (H1.out _ rfl).mono ?_; rintro e w1 ⟨⟨y1, rfl, hy1⟩, rfl⟩; have Y1 : Hid (Fl.ExpR x1 y1) := hy1; clear hy1))
  go_ret
  exact ⟨⟨d, rfl, DD.out⟩, rfl⟩

theorem density_any (a : Nat) (tv : Nat → Nat) (w : World) (fa : Fl.Fin' a) (hP : Fl.uv (a % 2 ^ 63) ≤ Fl.PN) (hg : Series w tv) :
    Calls Ybad.prog 6 #[.float .f64 a] w fun e w' => (∃ d, e = .returned (.float .f64 d) ∧ DensR a d) ∧ w' = w := by
  obtain ⟨lo, p1, x1, sm, p2, x2, el, e1, e2, e3, e4, e5, _, ha⟩ := Fl.args fa rfl hP
  refine density_walk a _ lo p1 x1 sm p2 x2 w (clear_low a fa.2) el e1 e2 e3 e4 e5 (fun w' h => ?_) (fun w' h => ?_) (fun y1 y2 h1 h2 => ?_)
  · subst h; exact exp_any x1 tv _ ha.f1 ha.n1 hg
  · subst h; exact exp_any x2 tv _ ha.f2 ha.n2 hg
  · obtain ⟨p, d, m1, m2, hd⟩ := Fl.den_gen Fl.inv_fin Fl.inv_V h1.fin h2.fin h1.lo h1.hi h2.lo h2.hi
    exact ⟨p, d, fun w => run_float_arith (P := Ybad.prog) w .mul 22 .f64 _ _ _ m1, fun w => run_float_arith (P := Ybad.prog) w .mul 22 .f64 _ _ _ m2,
      hd.fin, hd.lo, hd.hi, fun h => hd.full (h1.one (ha.zero h).1) (h2.one (ha.zero h).2), fun h => hd.zero (h1.under (ha.far h)), fun h => hd.pos (h1.pos (ha.near h).1) (h2.near (ha.near h).2)⟩

theorem read_not_fin {a : Nat} (h : Fl.infR ≤ a % 2 ^ 63) : Ieee.double.read (a % 2 ^ 63) = .infinity false ∨ ∃ t, Ieee.double.read (a % 2 ^ 63) = .nan false t := by
  have hb := Fl.bin_def
  have hi := Fl.infR_def
  have hsw : Ieee.double.signWeight = 2 ^ 63 := rfl
  have hl : a % 2 ^ 63 < 2 ^ 63 := Nat.mod_lt _ (by decide)
  unfold Ieee.Format.read
  simp only [hsw, Fl.bin_eq, Fl.infR_eq]
  generalize a % 2 ^ 63 = r at *
  have e1 : r / 2 ^ 63 % 2 = 0 := by omega
  have e2 : r % 2 ^ 63 = r := by omega
  rw [e1, e2, if_neg (by omega), if_neg (by omega)]
  split
  · exact Or.inl rfl
  · exact Or.inr ⟨_, rfl⟩

theorem e100_fin : Fl.Fin' 6103021453049119613 := Fl.fin_const _ (by decide) (by decide)
theorem out_order {a : Nat} (h : Fl.infR ≤ a % 2 ^ 63) : (FloatKind.f64.format.order (a % 2 ^ 63) 6103021453049119613 == some .lt || FloatKind.f64.format.order (a % 2 ^ 63) 6103021453049119613 == some .eq) = false := by
  obtain ⟨s, m, p, e, _⟩ := Fl.read_fin e100_fin
  have key : Ieee.double.order (a % 2 ^ 63) 6103021453049119613 = some .gt ∨ Ieee.double.order (a % 2 ^ 63) 6103021453049119613 = none := by
    unfold Ieee.Format.order
    rw [e]
    rcases read_not_fin h with h' | ⟨t, h'⟩ <;> rw [h']
    · exact Or.inl rfl
    · exact Or.inr rfl
  show (Ieee.double.order (a % 2 ^ 63) 6103021453049119613 == some .lt || Ieee.double.order (a % 2 ^ 63) 6103021453049119613 == some .eq) = false
  rcases key with k | k <;> rw [k] <;> rfl

set_option maxHeartbeats 400000 in
theorem law_out (a : Nat) (w : World) (h64 : a < 2 ^ 64) (h : (FloatKind.f64.format.order (a % 2 ^ 63) 6103021453049119613 == some .lt || FloatKind.f64.format.order (a % 2 ^ 63) 6103021453049119613 == some .eq) = false) :
    Calls Ybad.prog 3 #[.float .f64 a] w fun e w' => e = .returned (.bool true) ∧ w' = w := by
  have HA : Hid (∀ w : World, Calls Ybad.prog 5 #[.float .f64 a] w fun e w' => e = .returned (.float .f64 (a % 2 ^ 63)) ∧ w' = w) := abs_any a h64
  generalize a % 2 ^ 63 = x at HA h
  go_enter Ybad.func3, Ybad.ntmps3
  go_wp2_with (go_at_call 5; refine (HA.out _).mono ?_; rintro e w1 ⟨rfl, rfl⟩)
  go_ret
  exact ⟨rfl, rfl⟩

/-- The four ways through the law: what the comparisons answer. -/
structure Cmp (a x d : Nat) (z far near : Bool) : Prop where
  ge : (FloatKind.f64.format.order d 0 == some .gt || FloatKind.f64.format.order d 0 == some .eq) = true
  le : (FloatKind.f64.format.order d 4600858325139338833 == some .lt || FloatKind.f64.format.order d 4600858325139338833 == some .eq) = true
  az : (FloatKind.f64.format.order a 0 == some .eq) = z
  xf : (FloatKind.f64.format.order x 4630685579355357184 == some .gt) = far
  xn : (FloatKind.f64.format.order x 4629137466983448576 == some .lt || FloatKind.f64.format.order x 4629137466983448576 == some .eq) = near
  dz : z = true → (FloatKind.f64.format.order d 4600858325139338833 == some .eq) = true
  df : far = true → (FloatKind.f64.format.order d 0 == some .eq) = true
  dn : near = true → (FloatKind.f64.format.order d 0 == some .gt) = true

set_option maxHeartbeats 1000000 in
theorem law_in (a : Nat) (w : World) (z far near : Bool) (h64 : a < 2 ^ 64) (h : (FloatKind.f64.format.order (a % 2 ^ 63) 6103021453049119613 == some .lt || FloatKind.f64.format.order (a % 2 ^ 63) 6103021453049119613 == some .eq) = true)
    (HD : Hid (Calls Ybad.prog 6 #[.float .f64 a] w fun e w' => (∃ d, e = .returned (.float .f64 d) ∧ Cmp a (a % 2 ^ 63) d z far near) ∧ w' = w)) :
    Calls Ybad.prog 3 #[.float .f64 a] w fun e w' => e = .returned (.bool true) ∧ w' = w := by
  have HA : Hid (∀ w : World, Calls Ybad.prog 5 #[.float .f64 a] w fun e w' => e = .returned (.float .f64 (a % 2 ^ 63)) ∧ w' = w) := abs_any a h64
  generalize a % 2 ^ 63 = x at *
  cases z
  · cases far
    · cases near
      · go_enter Ybad.func3, Ybad.ntmps3
        go_wp2_with (first | (go_at_call 5; refine (HA.out _).mono ?_; rintro e w1 ⟨rfl, rfl⟩) | (go_at_call 6; refine HD.out.mono ?_; rintro e w1 ⟨⟨d, rfl, hd⟩, rfl⟩; have c1 := hd.ge; have c2 := hd.le; have c3 := hd.az; have c4 := hd.xf; have c5 := hd.xn; clear hd))
        go_ret
        exact ⟨rfl, rfl⟩
      · go_enter Ybad.func3, Ybad.ntmps3
        go_wp2_with (first | (go_at_call 5; refine (HA.out _).mono ?_; rintro e w1 ⟨rfl, rfl⟩) | (go_at_call 6; refine HD.out.mono ?_; rintro e w1 ⟨⟨d, rfl, hd⟩, rfl⟩; have c1 := hd.ge; have c2 := hd.le; have c3 := hd.az; have c4 := hd.xf; have c5 := hd.xn; have c6 := hd.dn rfl; clear hd))
        go_ret
        exact ⟨rfl, rfl⟩
    · go_enter Ybad.func3, Ybad.ntmps3
      go_wp2_with (first | (go_at_call 5; refine (HA.out _).mono ?_; rintro e w1 ⟨rfl, rfl⟩) | (go_at_call 6; refine HD.out.mono ?_; rintro e w1 ⟨⟨d, rfl, hd⟩, rfl⟩; have c1 := hd.ge; have c2 := hd.le; have c3 := hd.az; have c4 := hd.xf; have c6 := hd.df rfl; clear hd))
      go_ret
      exact ⟨rfl, rfl⟩
  · go_enter Ybad.func3, Ybad.ntmps3
    go_wp2_with (first | (go_at_call 5; refine (HA.out _).mono ?_; rintro e w1 ⟨rfl, rfl⟩) | (go_at_call 6; refine HD.out.mono ?_; rintro e w1 ⟨⟨d, rfl, hd⟩, rfl⟩; have c1 := hd.ge; have c2 := hd.le; have c3 := hd.az; have c6 := hd.dz rfl; clear hd))
    go_ret
    exact ⟨rfl, rfl⟩
end Go.Proofs.YbulkbyisDoor
