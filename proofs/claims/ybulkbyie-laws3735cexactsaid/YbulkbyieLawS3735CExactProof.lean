import Derived.Test.YbulkbyieRows
import Derived.WalkKit
import Derived.ProofKit
import Derived.OpenShut
import Derived.ShutString
import Derived.ChangeOld
import Derived.Below
import Derived.Test.YbulkbyieNodeC
namespace Go.Proofs.Ybulkbyie.lawS3735CExact
open Go.ChangeShapes Go.WideShapes Go.ChangeAt Go.RowKit
open Go.ChangeMaps (open_string shut_string)
set_option linter.unusedVariables false

theorem own : ownKnob Yba.prog.godebug = none := by kernel_rfl
theorem laidOut : laidOutB Yba.prog = true := by kernel_rfl

/-- WHAT THE WALK IS TOLD OF A SLICE OF INTEGERS THAT CAME IN: it is nil; or it leads to a row of 'cap' cells, the numbers 'zs' (the first 'len' are its elements, the rest its spare room), each fitting its kind. -/
def IsRow (k : IntKind) (w : World) (a : Option Addr) (len cap : Nat) (zs : List Int) : Prop :=
  (a = none ∧ len = 0 ∧ cap = 0 ∧ zs = []) ∨
  ∃ x, a = some x ∧ len ≤ cap ∧ cap ≤ maxLen ∧ zs.length = cap ∧ (∀ i, i < zs.length → w.cell? (x.add i) = some (.int k (zs.getD i 0))) ∧ ∀ n ∈ zs, (Lit.int k n).wf = true

theorem walk_big (a0 : Option Addr) (len0 cap0 : Nat) (a1 : Int) (w : World) (h : 1024 < len0) :
    Calls Yba.prog 4 #[.slice a0 len0 cap0, .int .u64 a1] w fun e w' => e = .returned (.bool true) ∧ Below w.heap.size w w' := by
  go_enter Yba.func4, Yba.ntmps4
  go_wp2
  go_ret
  exact ⟨rfl, Below.refl _ _⟩

theorem take_any (zs : List Int) (k : Nat) (h : k < zs.length) : (zs.take (k + 1)).any hit = ((zs.take k).any hit || hit (zs[k]?.getD 0)) := by
  rw [List.take_succ_eq_append_getElem h, List.any_append]
  simp [h]

set_option maxRecDepth 100000 in
set_option maxHeartbeats 800000 in
theorem walk_some (b off n cap : Nat) (zs : List Int) (a1 : Int) (w : World) (hn : n ≤ 1024) (hz : n ≤ zs.length)
    (hc : ∀ k, k < n → w.cell? ⟨b, off + k, none⟩ = some (.int .u8 (zs.getD k 0))) :
    Calls Yba.prog 4 #[.slice (some ⟨b, off, none⟩) n cap, .int .u64 a1] w fun e w' => e = .returned (.bool true) ∧ Below w.heap.size w w' := by
  go_enter Yba.func4, Yba.ntmps4
  go_wp2_with (go_at_call 14; refine (msg_any b off n cap zs a1 _ hn hc).mono ?_; rintro e w1 ⟨rfl, hb1, g, cp, hown, hm⟩)
  go_loop [6, 7] (fun t i => ∃ k : Nat, k ≤ n ∧ i = .int .i64 k ∧ t = .bool ((zs.take k).any hit)) (fun _ i => n - (intOf i).toNat)
  case atStart => exact ⟨0, Nat.zero_le _, rfl, rfl⟩
  case round =>
    obtain ⟨k, hk, rfl, rfl⟩ := hrel
    by_cases hlt : k < n
    · have e0 := cell_later hb1 (hc k hlt)
      have hk' : (k : Int) < (n : Int) := by omega
      have HT : Hid ((zs.take (k + 1)).any hit = ((zs.take k).any hit || hit (zs[k]?.getD 0))) := take_any zs k (by omega)
      go_wp2
      · go_round
        case rel => exact ⟨k + 1, by omega, by go_num, by rw [HT.out, show hit (zs[k]?.getD 0) = true from by assumption]; simp⟩
        case measure => simp [intOf]; omega
      · go_round
        case rel => exact ⟨k + 1, by omega, by go_num, by rw [HT.out, show hit (zs[k]?.getD 0) = false from by assumption]; simp⟩
        case measure => simp [intOf]; omega
    · have : k = n := by omega
      subst this
      go_wp2_with (go_at_call 15; refine (stateless_built hn hz hown hm).mono ?_; rintro e w2 ⟨rfl, hb2⟩; have c2 := cell_later hb2 hm.1; have c3 := cell_later hb2 hm.2.1; have c8 := cell_later hb2 hm.2.2.1; have c7 := cell_later hb2 hm.2.2.2.1)
      have hop := opts_cells hown
      have hb12 : Below w.heap.size w w2 := hb1.trans (hb2.mono hb1.size)
      clear hown hm hb1
      go_loopw [8] (fun i wr => ∃ j : Nat, j ≤ k ∧ i = .int .i64 j ∧ Below w2.heap.size w2 wr) (fun i _ => k - (intOf i).toNat)
      case atStart => exact ⟨0, Nat.zero_le _, rfl, Below.refl _ _⟩
      case round =>
        obtain ⟨j, hj, rfl, hb3⟩ := hrel
        by_cases hlt : j < k
        · have e0 := cell_later hb3 (cell_later hb12 (hc j hlt))
          have e1 := cell_later hb3 (cell_later hb2 (hop j hlt).1)
          have e2 := cell_later hb3 (cell_later hb2 (hop j hlt).2.1)
          have e3 := cell_later hb3 (cell_later hb2 (hop j hlt).2.2)
          have e7 := cell_later hb3 c7
          have hj0 : (0 : Int) ≤ (j : Int) := Int.natCast_nonneg _
          have hj' : (j : Int) < (k : Int) := by omega
          clear hc hop c2 c3 c8 c7
          have hq := fun (w : World) => run_neq_slice_nil_any (P := Yba.prog) w 22 5 none 0 0 0 0 Yba.underlying22
          go_wp2
          go_quiet (fail)
          go_wp2
          go_roundw
          case rel => exact ⟨j + 1, by omega, by go_num, hb3.trans ⟨rfl, rfl, rfl, Nat.le_refl _, fun _ _ => rfl⟩⟩
          case measure => simp [intOf]; omega
        · have e2 := cell_later hb3 c2
          have e3 := cell_later hb3 c3
          have e8 := cell_later hb3 c8
          clear hc hop c2 c3 c8 c7
          go_wp2
          go_ret
          exact ⟨rfl, hb12.trans (hb3.mono hb12.size)⟩

set_option maxRecDepth 100000 in
set_option maxHeartbeats 800000 in
theorem walk_none (oa : Option Addr) (cap : Nat) (a1 : Int) (w : World)
    (hcall : Calls Yba.prog 14 #[.slice oa 0 cap, .int .u64 a1] w fun e w' => e = .returned (.pointer (some ⟨w.heap.size, 0, none⟩)) ∧ Below w.heap.size w w' ∧ ∃ oa cp, MsgAt w' w.heap.size a1 (.slice oa 0 cp)) :
    Calls Yba.prog 4 #[.slice oa 0 cap, .int .u64 a1] w fun e w' => e = .returned (.bool true) ∧ Below w.heap.size w w' := by
  have H : Hid (Calls Yba.prog 14 #[.slice oa 0 cap, .int .u64 a1] w fun e w' => e = .returned (.pointer (some ⟨w.heap.size, 0, none⟩)) ∧ Below w.heap.size w w' ∧ ∃ oa cp, MsgAt w' w.heap.size a1 (.slice oa 0 cp)) := hcall
  clear hcall
  go_enter Yba.func4, Yba.ntmps4
  go_wp2_with (go_at_call 14; refine (H.out).mono ?_; rintro e w1 ⟨rfl, hb1, oa1, cp, hm⟩)
  refine wp_loop_rounds 1 ?_
  rw [rounds_succ]
  go_wp2_with (go_at_call 15; refine (stateless_zero _ _ _ _ hm.2.2.2.1).mono ?_; rintro e w2 ⟨rfl, hb2⟩; have c2 := cell_later hb2 hm.1; have c3 := cell_later hb2 hm.2.1; have c8 := cell_later hb2 hm.2.2.1; have c7 := cell_later hb2 hm.2.2.2.1)
  refine wp_loop_rounds 1 ?_
  rw [rounds_succ]
  go_wp2
  go_ret
  exact ⟨rfl, hb1.trans (hb2.mono hb1.size)⟩

theorem walk (a0 : Option Addr) (len0 cap0 : Nat) (z0 : List Int) (a1 : Int) (w : World) (w0 : IsRow .u8 w a0 len0 cap0 z0) (w1 : (Lit.int .u64 a1).wf = true) :
    Calls Yba.prog 4 #[.slice a0 len0 cap0, .int .u64 a1] w fun e w' => e = .returned (.bool true) ∧ Below w.heap.size w w' := by
  rcases Nat.lt_or_ge 1024 len0 with h | h
  · exact walk_big a0 len0 cap0 a1 w h
  · rcases w0 with ⟨rfl, rfl, rfl, rfl⟩ | ⟨x, rfl, hl, hm, hz, hc, hw⟩
    · exact walk_none none 0 a1 w (msg_nil a1 w)
    · rcases Nat.eq_zero_or_pos len0 with h0 | h0
      · subst h0
        exact walk_none (some x) cap0 a1 w (msg_empty x cap0 a1 w)
      · obtain ⟨b, off, spot⟩ := x
        have hspot : spot = none := by simpa [Addr.add] using World.cell?_spot (hc 0 (by omega))
        subst hspot
        exact walk_some b off len0 cap0 z0 a1 w h (by omega) (fun k hk => by rw [← add_plain]; exact hc k (by omega))

/-! ### THE ROW's STEP: WRITTEN OUT: LEAVE IT -/
set_option maxRecDepth 100000 in
theorem lifted (os : Os) (started : os.Started) (H : Type) (enc : TypeId × Value → H) :
    ReturnsInHanded {} Yba.checked os 4 .any (Rows.lawS3735CExactSpec.pre6 enc Yba.prog Yba.f4 Rows.lawS3735CExactRow.domain false) (Rows.lawS3735CExactSpec.post enc Yba.prog Yba.f4 false true false false) := by
  refine returnsInHanded_of_change (C := Yba.checked) own started (by kernel_rfl) Yba.func4
    (ChangeSpec.witness6 (enc := enc) (C := Yba.checked) false ⟨#[], #[.slice none 0 0, .int .u64 0], []⟩ 8 (by kernel_rfl) (by kernel_rfl) (by kernel_rfl) (by kernel_rfl)) ?_
  intro W base args ds gs before hval0 hW hcnd _
  have hval : ∀ (j : Nat) t v, Yba.f4.params[j]? = some t → args[j]? = some v → Value.okWide Yba.prog W .any base t v := hval0
  have hW' := hW
  obtain ⟨p, q, hA0, hV, rfl, hfz, hnd⟩ := hW
  have hA : DataW.TrodAll enc Yba.prog W 0 (fun _ => true) true Yba.f4.params.toList args.toList ds p := hA0
  rw [Yba.params4] at hA hval
  obtain ⟨v0, vs0, d0, ds0, p0, q0, hargs, rfl, rfl, h0, r0⟩ := trodAll_cons hA
  obtain ⟨v1, vs1, d1, ds1, p1, q1, rfl, rfl, rfl, h1, r1⟩ := trodAll_cons r0
  obtain ⟨rfl, rfl, rfl⟩ := trodAll_nil r1
  obtain rfl : args = #[v0, v1] := by cases args; simp_all
  obtain ⟨rfl, rfl⟩ := trodVars_none hV
  obtain ⟨a0, len0, cap0, rfl⟩ := okWide_slice Yba.underlying22 (hval 0 22 v0 rfl rfl)
  have k0 := h0
  have lt0 : ∀ x ∈ p0, x.block < W.heap.size := by obtain ⟨m, hm⟩ := k0; exact DataW.trod_lt m _ _ _ hm
  obtain ⟨z0, w0⟩ : ∃ zs, IsRow .u8 W a0 len0 cap0 zs := by
    obtain ⟨fuel, hf⟩ := h0
    rcases open_ints Yba.underlying22 Yba.underlying5 (by kernel_rfl) hf with ⟨hcs, _⟩ | ⟨x, l, c, zs, hcs, _, hl, hm, hz, _, hcell, hwz⟩
    · simp [Value.cells] at hcs
      obtain ⟨rfl, rfl, rfl⟩ := hcs
      exact ⟨[], .inl ⟨rfl, rfl, rfl, rfl⟩⟩
    · simp [Value.cells] at hcs
      obtain ⟨rfl, rfl, rfl⟩ := hcs
      exact ⟨zs, .inr ⟨_, rfl, hl, hm, by simpa using hz, hcell, hwz⟩⟩
  obtain ⟨a1, rfl, rfl, rfl, w1⟩ := open_int Yba.underlying59 (hval 1 59 v1 rfl rfl) h1
  clear hA0 hval0
  refine (walk a0 len0 cap0 z0 a1 W w0 w1).mono fun e W' ⟨he, bel⟩ => ?_
  subst he
  exact ⟨_, rfl, _, _, _, [], _, [], hW', trodAll_mk1 (shut_bool Yba.underlying4 _), (trodAll_cons_mk (Below.trod laidOut (by kernel_rfl) (of_decide_eq_true (by kernel_rfl)) k0 bel lt0) (trodAll_cons_mk (shut_int Yba.underlying59 w1) trodAll_mk0)), rfl, bel.frame _, fun h => by cases h⟩

theorem over : Rows.lawS3735CExactRow.holds Yba.pinned (OpenSpec.ofChange Rows.lawS3735CExactSpec) :=
  OpenClaim.holds_of_wide 4 Yba.f4 rfl rfl rfl rfl rfl rfl rfl ⟨rfl, rfl, rfl, rfl, rfl⟩ rfl rfl rfl rfl rfl (by kernel_rfl) Yba.func4 (by kernel_rfl)
    (of_decide_eq_true (by kernel_rfl)) (by unfold Func.isWrapper; first | (rw [if_pos (by decide +kernel)]; kernel_rfl) | (rw [if_neg (by decide +kernel)]; exact ⟨rfl, rfl⟩))
    (fun os started H enc _ => lifted os started H enc)

/-- ████ THE STATEMENT ████ -/
theorem proved : Rows.LawS3735CExactSaid := over

end Go.Proofs.Ybulkbyie.lawS3735CExact
