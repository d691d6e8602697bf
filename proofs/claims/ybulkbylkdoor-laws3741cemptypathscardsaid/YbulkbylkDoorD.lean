import Derived.Test.YbulkbylkDoorC
namespace Go.Proofs.YbulkbylkDoor
open Go.RowKit
attribute [local go_sem] run_store_float

/-- A measurement: where its expression lies, its function, its depth. -/
def cntTo (es : List (Nat × Int × Int)) (k : Nat) : Nat := ((es.take k).filter fun e => gv e.2.1 && e.2.2 == 0).length

theorem cnt_le (es : List (Nat × Int × Int)) (k : Nat) : cntTo es k ≤ k := by
  unfold cntTo
  have := List.length_filter_le (fun e : Nat × Int × Int => gv e.2.1 && e.2.2 == 0) (es.take k)
  have := List.length_take_le k es
  omega

theorem cnt_succ (es : List (Nat × Int × Int)) (k : Nat) (h : k < es.length) : cntTo es (k + 1) = cntTo es k + (gv (es.getD k (0, 0, 0)).2.1 && (es.getD k (0, 0, 0)).2.2 == 0).toNat := by
  unfold cntTo
  rw [List.take_succ_eq_append_getElem h, List.filter_append]
  have e : es.getD k (0, 0, 0) = es[k] := by simp [h]
  rw [e]
  by_cases hc : (gv es[k].2.1 && es[k].2.2 == 0) = true
  · simp [hc]
  · simp only [Bool.not_eq_true] at hc
    simp [hc]

theorem ExprAt.depth {W : World} {p : Nat} {f d : Int} (h : ExprAt W p f d) : W.cell? ⟨p, 8, none⟩ = some (.int .i64 d) := by
  rcases h with ⟨_, h⟩ | ⟨_, _, h, _⟩
  · exact h.2.2.2
  · exact h

/-- The list of the measurements in memory. -/
def MsAt (w : World) (g : Nat) (es : List (Nat × Int × Int)) : Prop :=
  ∀ i, i < es.length → w.cell? ⟨g, i, none⟩ = some (.pointer (some ⟨(es.getD i (0, 0, 0)).1, 0, none⟩)) ∧ ExprAt w (es.getD i (0, 0, 0)).1 (es.getD i (0, 0, 0)).2.1 (es.getD i (0, 0, 0)).2.2 ∧ okF (es.getD i (0, 0, 0)).2.1

set_option maxRecDepth 100000 in
set_option maxHeartbeats 1600000 in
theorem measured_any (c how : Value) (g cp n : Nat) (es : List (Nat × Int × Int)) (w W : World) (hn : es.length = n) (hn2 : n ≤ 1024) (hms : MsAt w g es) (hT : TabAt w) (hW : Below w.heap.size w W) (hI : Inv W w.heap.size (w.heap.size + 1) 0) :
    Calls Ybad.prog 8 #[c, .slice (some ⟨g, 0, none⟩) n cp, how, .int .i64 0, .func (.func 9) #[] #[.pointer (some ⟨w.heap.size, 0, none⟩)]] W fun e w' => e = .returned (.tuple #[]) ∧ Inv w' w.heap.size (w.heap.size + 1) (cntTo es n) ∧ Below w.heap.size w w' := by
  have HN : Hid (es.length = n) := hn
  have HM : Hid (MsAt w g es) := hms
  have HT : Hid (TabAt w) := hT
  have HI : Hid (Inv W w.heap.size (w.heap.size + 1) 0) := hI
  have HW : Hid (Below w.heap.size w W) := hW
  clear hn hms hT hI hW
  go_enter Ybad.func8, Ybad.ntmps8
  go_wp2
  go_loopw [16] (fun i wr => ∃ k : Nat, k ≤ n ∧ i = .int .i64 k ∧ Hid (Inv wr w.heap.size (w.heap.size + 1) (cntTo es k)) ∧ Hid (Below w.heap.size w wr)) (fun i _ => n - (intOf i).toNat)
  case atStart => exact ⟨0, Nat.zero_le _, rfl, HI, HW⟩
  case round =>
    obtain ⟨k, hk, rfl, hinv, hbel⟩ := hrel
    by_cases hlt : k < n
    · obtain ⟨m0, m1, m2⟩ := HM.out k (by rw [HN.out]; exact hlt)
      have hcs := cnt_succ es k (by rw [HN.out]; exact hlt)
      have hcl := cnt_le es k
      have e0 := cell_later hbel.out m0
      have E1 : Hid (ExprAt wr (es.getD k (0, 0, 0)).1 (es.getD k (0, 0, 0)).2.1 (es.getD k (0, 0, 0)).2.2) := m1.later hbel.out
      have E2 : Hid (okF (es.getD k (0, 0, 0)).2.1) := m2
      have HC : Hid (cntTo es (k + 1) = cntTo es k + (gv (es.getD k (0, 0, 0)).2.1 && (es.getD k (0, 0, 0)).2.2 == 0).toNat) := hcs
      clear m0 m1 m2 hcs
      generalize es.getD k (0, 0, 0) = x at *
      obtain ⟨p, f, d⟩ := x
      simp only at e0 E1 E2 HC
      obtain ⟨ct, hct⟩ : ∃ ct, cntTo es k = ct := ⟨_, rfl⟩
      rw [hct] at hinv HC hcl
      have k0 : (0 : Int) ≤ (k : Int) := Int.natCast_nonneg _
      have k1 : (k : Int) < (n : Int) := by omega
      clear hct
      have e8 := E1.out.depth
      have hp : p < wr.heap.size := World.block_lt_of_cell? _ _ e8
      have hLVw : w.heap.size < wr.heap.size := by obtain ⟨v, cv, _⟩ := hinv.out; exact World.block_lt_of_cell? _ _ cv
      cases hgf : gv f
      · go_wp2_with fail
        refine (eval_any c how p f d E2.out wr E1.out (HT.out.later hbel.out)).mono ?_
        rintro e w1 ⟨⟨ao, c1, rfl⟩, hb1⟩
        have HB1 : Hid (Below w.heap.size w w1) := hbel.out.trans (hb1.mono (by omega))
        have HI1 : Hid (Inv w1 w.heap.size (w.heap.size + 1) ct) := hinv.out.later hb1
        have HC' : Hid (cntTo es (k + 1) = ct) := by rw [HC.out, hgf]; rfl
        have hz1 : w.heap.size < w1.heap.size := Nat.lt_of_lt_of_le hLVw hb1.size
        clear HC E1 hinv hbel
        go_wp2_with fail
        go_roundw
        case rel =>
          have hA : Below w1.heap.size w1 (w1.alloc (.cells #[.float .f64 0, .string ⟨#[]⟩, .slice ao 0 c1, .bool false] 61)) := (Below.refl _ _).alloc (Nat.le_refl _) _
          exact ⟨k + 1, by omega, by go_num, by rw [HC'.out]; exact HI1.out.later hA, HB1.out.trans (hA.mono (by omega))⟩
        case measure => simp [intOf]; omega
      · go_wp2_with fail
        refine (eval_any c how p f d E2.out wr E1.out (HT.out.later hbel.out)).mono ?_
        rintro e w1 ⟨⟨ao, c1, rfl⟩, hb1⟩
        have HB1 : Hid (Below w.heap.size w w1) := hbel.out.trans (hb1.mono (by omega))
        have HI1 : Hid (Inv w1 w.heap.size (w.heap.size + 1) ct) := hinv.out.later hb1
        have HC' : Hid (cntTo es (k + 1) = ct + (d == 0).toNat) := by rw [HC.out, hgf, Bool.true_and]; exact rfl
        have hz1 : w.heap.size < w1.heap.size := Nat.lt_of_lt_of_le hLVw hb1.size
        have hp1 : p < w1.heap.size := Nat.lt_of_lt_of_le hp hb1.size
        have g8 := cell_later hb1 e8
        have hA : Below w1.heap.size w1 (w1.alloc (.cells #[.float .f64 0, .string ⟨#[]⟩, .slice ao 0 c1, .bool false] 61)) := (Below.refl _ _).alloc (Nat.le_refl _) _
        clear HC E1 hinv hbel e8 e0
        go_wp2_with fail
        go_region_with ((go_at_call 13; refine (visitAt_any w.heap.size (w.heap.size + 1) ct d ao c1 _ (by omega) (HI1.out.later hA.drew)).mono ?_; rintro e w2 ⟨rfl, hI2, hb2⟩; have HI2 : Hid (Inv w2 w.heap.size (w.heap.size + 1) (ct + (d == 0).toNat)) := hI2; clear hI2))
        all_goals
          have HB2 : Hid (Below w.heap.size w w2) := HB1.out.trans ((hA.drew.mono (by omega)).trans hb2)
          clear hb2 hb1 g8 hA HI1 HB1
          go_wp2
          go_roundw
          case rel => exact ⟨k + 1, by omega, by go_num, by rw [HC'.out]; exact HI2, HB2⟩
          case measure => simp [intOf]; omega
    · have : k = n := by omega
      subst this
      go_wp2
      go_end0
      exact ⟨rfl, hinv.out, hbel.out⟩

set_option maxRecDepth 100000 in
set_option maxHeartbeats 1600000 in
theorem measure_any (c how : Value) (g cp n : Nat) (es : List (Nat × Int × Int)) (w : World) (hn : es.length = n) (hn2 : n ≤ 1024) (hms : MsAt w g es) (hT : TabAt w) :
    Calls Ybad.prog 6 #[c, .slice (some ⟨g, 0, none⟩) n cp, how] w fun e w' => (∃ v, e = .returned v ∧ w'.ownsRow (w.heap.size + 1) 52 2 v (cntTo es n) (leafCells (cntTo es n)) ∧ (cntTo es n = 0 → v = .slice none 0 0)) ∧ Below w.heap.size w w' := by
  have HN : Hid (es.length = n) := hn
  have HM : Hid (MsAt w g es) := hms
  have HT : Hid (TabAt w) := hT
  clear hn hms hT
  have hA : Below w.heap.size w (w.alloc (.cells #[.slice none 0 0] 47)) := (Below.refl _ _).alloc (Nat.le_refl _) _
  have HI : Hid (Inv (w.alloc (.cells #[.slice none 0 0] 47)) w.heap.size (w.heap.size + 1) 0) := ⟨.slice none 0 0, by simp, by simp, World.ownsRow_nil _ _ _ _, fun _ => rfl, by omega, by simp⟩
  go_enter Ybad.func6, Ybad.ntmps6
  go_wp2_with fail
  refine (measured_any c how g cp n es w _ HN.out hn2 HM.out HT.out hA HI.out).mono ?_
  rintro e w1 ⟨rfl, hI, hb⟩
  obtain ⟨v, cv, fv, hown, hv0, _, _⟩ := hI
  have HO : Hid (w1.ownsRow (w.heap.size + 1) 52 2 v (cntTo es n) (leafCells (cntTo es n))) := hown
  have HV : Hid (cntTo es n = 0 → v = .slice none 0 0) := hv0
  clear hown hv0
  go_wp2
  go_ret
  exact ⟨⟨v, rfl, HO.out, HV.out⟩, hb⟩

theorem mk55 : ∀ w, (Instr.makeSlice 55 (.int .i64 0) (.int .i64 0)).run Ybad.prog w = .ok (.slice (some ⟨w.heap.size, 0, none⟩) 0 0) (w.alloc (.cells #[] 33)) := fun _ => by kernel_rfl
theorem mk33 : ∀ w, (Instr.makeSlice 33 (.int .i64 0) (.int .i64 0)).run Ybad.prog w = .ok (.slice (some ⟨w.heap.size, 0, none⟩) 0 0) (w.alloc (.cells #[] 3)) := fun _ => by kernel_rfl

set_option maxRecDepth 100000 in
set_option maxHeartbeats 1600000 in
theorem cand_any (R : Nat) (w : World) (hc : w.cell? ⟨R, 2, none⟩ = some (.slice none 0 0)) :
    Calls Ybad.prog 5 #[.pointer (some ⟨R, 0, none⟩), .slice none 0 0, .int .i64 0] w fun e w' => (∃ v, e = .returned v) ∧ Below w.heap.size w w' := by
  have hm1 := mk55
  have hm2 := mk33
  have hR : R < w.heap.size := World.block_lt_of_cell? _ _ hc
  have hR1 : R < w.heap.size + 1 := by omega
  have hR2 : R < w.heap.size + 1 + 1 := by omega
  have hR3 : R < w.heap.size + 1 + 1 + 1 := by omega
  go_enter Ybad.func5, Ybad.ntmps5
  go_wp2_with fail
  go_region
  all_goals
    go_wp2
    refine wp_loop_rounds 1 ?_
    rw [rounds_succ]
    go_wp2
    go_end0
    go_wp2
    go_ret
    exact ⟨⟨_, rfl⟩, ((((Below.refl _ _).alloc (Nat.le_refl _) _).alloc (by simp) _).alloc (by simp; omega) _).drew⟩
end Go.Proofs.YbulkbylkDoor
