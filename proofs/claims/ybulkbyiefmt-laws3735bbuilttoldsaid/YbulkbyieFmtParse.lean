import Derived.Test.YbulkbyieFmtFacts
import Derived.WalkKit
import Derived.WalkSpells
import Derived.WalkLawsBesides
import Derived.BigQuiet
import Derived.Deep.QuietTactic
import Derived.Outline
import Derived.Laws.BitsAllLaws
namespace Go.Proofs.YbulkbyieFmt
open Go.RowKit Go.Extern.Stop Go.Stop Go.Extern
attribute [local go_sem] call17 guard fmt0 fmt0r op3_100 op3_100w ptr44 elem44 isError44

set_option maxRecDepth 100000 in
set_option maxHeartbeats 800000 in
theorem parse_short (ao : Option Addr) (n cap : Nat) (a : Addr) (w : World)
    (hg : w.cell? ⟨0, 0, none⟩ = some (.iface 44 (.pointer (some a)))) (hn : n < 2) :
    Calls Ybaf.prog 7 #[.slice ao n cap] w fun e w' => e = .returned (.iface 44 (.pointer (some a))) ∧ Below w.heap.size w w' := by
  have h0 : 0 < w.heap.size := World.block_lt_of_cell? _ _ hg
  go_enter Ybaf.func7, Ybaf.ntmps7
  go_wp2
  refine wp_loop_rounds 1 ?_
  rw [rounds_succ]
  go_wp2
  go_ret
  exact ⟨rfl, (Below.refl _ _).alloc (Nat.le_refl _) _⟩

theorem ret_int {k : IntKind} {a b : Int} (h : a = b) : Ending.returned (.int k a) = .returned (.int k b) := by rw [h]
theorem ret_bool {a b : Bool} (h : a = b) : Ending.returned (.bool a) = .returned (.bool b) := by rw [h]

theorem or_add (a b : Nat) (hb : b < 256) : a * 256 ||| b = a * 256 + b := by
  have := Nat.shiftLeft_add_eq_or_of_lt (i := 8) (b := b) (by simpa using hb) a
  rw [Nat.shiftLeft_eq] at this
  exact this.symm

theorem be16_u64 (z0 z1 : Int) (hz0 : 0 ≤ z0 ∧ z0 ≤ 255) (hz1 : 0 ≤ z1 ∧ z1 ≤ 255) :
    bits BinOp.or IntKind.u64 (IntKind.u64.wrap (bits BinOp.or IntKind.u64 0 z0 * 256)) z1 = z0 * 256 + z1 := by
  obtain ⟨a, rfl⟩ := Int.eq_ofNat_of_zero_le hz0.1
  obtain ⟨b, rfl⟩ := Int.eq_ofNat_of_zero_le hz1.1
  have e0 : bits BinOp.or IntKind.u64 0 (a : Int) = (a : Int) := by
    have := u64_or_nat 0 a (by decide) (by omega)
    simpa using this
  have e1 : IntKind.u64.wrap ((a : Int) * 256) = ((a * 256 : Nat) : Int) := by
    simp [IntKind.wrap, IntKind.bits, IntKind.signed]
    omega
  rw [e0, e1, u64_or_nat _ _ (by omega) (by omega), or_add a b (by omega)]
  simp

theorem be16_i64 (z0 z1 : Int) (hz0 : 0 ≤ z0 ∧ z0 ≤ 255) (hz1 : 0 ≤ z1 ∧ z1 ≤ 255) : bits BinOp.or IntKind.i64 (z0 * 256) z1 = z0 * 256 + z1 := by
  obtain ⟨a, rfl⟩ := Int.eq_ofNat_of_zero_le hz0.1
  obtain ⟨b, rfl⟩ := Int.eq_ofNat_of_zero_le hz1.1
  show IntKind.i64.wrap ((BitVec.ofInt 64 ((a : Int) * 256) ||| BitVec.ofInt 64 (b : Int)).toNat : Int) = _
  rw [show (a : Int) * 256 = ((a * 256 : Nat) : Int) by simp, BitVec.toNat_or, ofInt_u64 _ (by omega), ofInt_u64 _ (by omega), or_add a b (by omega)]
  simp [IntKind.wrap, IntKind.bits, IntKind.signed]
  omega

def ReaderAt (W : World) (R : Nat) (v err : Value) : Prop :=
  W.cell? ⟨R, 0, none⟩ = some v ∧ W.cell? ⟨R, 1, none⟩ = some err ∧ W.frozen? ⟨R, 0, none⟩ = false ∧ W.frozen? ⟨R, 1, none⟩ = false

theorem reader_set0 {W : World} {R : Nat} {v err : Value} (h : ReaderAt W R v err) (u : Value) : ReaderAt (W.setCell ⟨R, 0, none⟩ u) R u err := by
  obtain ⟨a, b, c, d⟩ := h
  refine ⟨World.cell?_setCell_same _ _ _ a, ?_, by simpa using c, by simpa using d⟩
  rw [World.cell?_setCell_other _ _ _ _ (by simp)]; exact b
theorem reader_set1 {W : World} {R : Nat} {v err : Value} (h : ReaderAt W R v err) (u : Value) : ReaderAt (W.setCell ⟨R, 1, none⟩ u) R v u := by
  obtain ⟨a, b, c, d⟩ := h
  refine ⟨?_, World.cell?_setCell_same _ _ _ b, by simpa using c, by simpa using d⟩
  rw [World.cell?_setCell_other _ _ _ _ (by simp)]; exact a

set_option maxRecDepth 100000 in
set_option maxHeartbeats 800000 in
theorem bytes_ok (R n cap k : Nat) (x : Addr) (w : World) (hk : k ≤ n) (hcap : n ≤ cap) (_hm : cap ≤ 4000000) (hrd : ReaderAt w R (.slice (some x) n cap) .nilIface) :
    Calls Ybaf.prog 14 #[.pointer (some ⟨R, 0, none⟩), .int .i64 k] w fun e w' => e = .returned (.slice (some x) k k) ∧ (∃ x', ReaderAt w' R (.slice (some x') (n - k) (cap - k)) .nilIface) ∧ Below R w w' := by
  have h' := hrd
  obtain ⟨c0, c1, f0, f1⟩ := h'
  have k1 : (0 : Int) ≤ (k : Int) := by omega
  have k2 : (k : Int) ≤ (n : Int) := by omega
  have k3 : (n : Int) ≤ (cap : Int) := by omega
  have k4 : ¬ ((n : Int) < (k : Int)) := by omega
  go_enter Ybaf.func14, Ybaf.ntmps14
  go_wp2
  all_goals
    go_ret
    exact ⟨rfl, ⟨_, reader_set0 hrd _⟩, (Below.refl _ _).setCell (p := ⟨R, 0, none⟩) (Nat.le_refl _) _⟩

set_option maxRecDepth 100000 in
set_option maxHeartbeats 800000 in
theorem bytes_short (R n cap k : Nat) (ao : Option Addr) (a : Addr) (w : World) (hk : n < k) (hg : w.cell? ⟨0, 0, none⟩ = some (.iface 44 (.pointer (some a)))) (hrd : ReaderAt w R (.slice ao n cap) .nilIface) :
    Calls Ybaf.prog 14 #[.pointer (some ⟨R, 0, none⟩), .int .i64 k] w fun e w' => e = .returned (.slice none 0 0) ∧ ReaderAt w' R (.slice none 0 0) (.iface 44 (.pointer (some a))) ∧ Below R w w' := by
  have h' := hrd
  obtain ⟨c0, c1, f0, f1⟩ := h'
  have k4 : ((n : Int) < (k : Int)) := by omega
  go_enter Ybaf.func14, Ybaf.ntmps14
  go_wp2
  go_ret
  exact ⟨rfl, reader_set0 (reader_set1 hrd _) _, ((Below.refl _ _).setCell (p := ⟨R, 1, none⟩) (Nat.le_refl _) _).setCell (p := ⟨R, 0, none⟩) (Nat.le_refl _) _⟩

set_option maxRecDepth 100000 in
set_option maxHeartbeats 800000 in
theorem bytes_err (R : Nat) (k : Int) (v : Value) (a : Addr) (w : World) (hrd : ReaderAt w R v (.iface 44 (.pointer (some a)))) :
    Calls Ybaf.prog 14 #[.pointer (some ⟨R, 0, none⟩), .int .i64 k] w fun e w' => e = .returned (.slice none 0 0) ∧ w' = w := by
  obtain ⟨c0, c1, f0, f1⟩ := hrd
  go_enter Ybaf.func14, Ybaf.ntmps14
  go_wp2
  go_ret
  exact ⟨rfl, rfl⟩

set_option maxRecDepth 100000 in
set_option maxHeartbeats 800000 in
theorem uint_ok (R b off n cap : Nat) (z0 z1 : Int) (w : World) (hn : 2 ≤ n) (hcap : n ≤ cap) (hm : cap ≤ 4000000) (hrd : ReaderAt w R (.slice (some ⟨b, off, none⟩) n cap) .nilIface) (hb : b < R)
    (h0 : w.cell? ⟨b, off, none⟩ = some (.int .u8 z0)) (h1 : w.cell? ⟨b, off + 1, none⟩ = some (.int .u8 z1)) (hz0 : 0 ≤ z0 ∧ z0 ≤ 255) (hz1 : 0 ≤ z1 ∧ z1 ≤ 255) :
    Calls Ybaf.prog 15 #[.pointer (some ⟨R, 0, none⟩), .int .i64 2] w fun e w' => e = .returned (.int .u64 (z0 * 256 + z1)) ∧ (∃ x', ReaderAt w' R (.slice (some x') (n - 2) (cap - 2)) .nilIface) ∧ Below R w w' := by
  obtain ⟨p0, p1⟩ := hz0
  obtain ⟨q0, q1⟩ := hz1
  go_enter Ybaf.func15, Ybaf.ntmps15
  go_wp2_with (go_at_call 14; refine (bytes_ok R n cap 2 ⟨b, off, none⟩ _ hn hcap hm hrd).mono ?_; rintro e w1 ⟨rfl, hr, hb1⟩; have e0 := (hb1.cell (p := ⟨b, off, none⟩) hb).trans h0; have e1 := (hb1.cell (p := ⟨b, off + 1, none⟩) hb).trans h1)
  refine wp_loop_rounds 3 ?_
  rw [rounds_succ]
  go_wp2
  rw [rounds_succ]
  go_wp2
  rw [rounds_succ]
  go_wp2
  go_ret
  exact ⟨ret_int (be16_u64 z0 z1 ⟨p0, p1⟩ ⟨q0, q1⟩), hr, hb1⟩

set_option maxRecDepth 100000 in
set_option maxHeartbeats 800000 in
theorem well_any (b off n cap : Nat) (z0 z1 : Int) (w : World) (hn : 2 ≤ n) (hm : n ≤ 4000000)
    (h0 : w.cell? ⟨b, off, none⟩ = some (.int .u8 z0)) (h1 : w.cell? ⟨b, off + 1, none⟩ = some (.int .u8 z1)) (hz0 : 0 ≤ z0 ∧ z0 ≤ 255) (hz1 : 0 ≤ z1 ∧ z1 ≤ 255) :
    Calls Ybaf.prog 9 #[.slice (some ⟨b, off, none⟩) n cap] w fun e w' => e = .returned (.bool ((n : Int) == 2 + (z0 * 256 + z1))) ∧ ∃ q, w' = w.drewN q := by
  obtain ⟨p0, p1⟩ := hz0
  obtain ⟨q0, q1⟩ := hz1
  have k1 : (0 : Int) < (n : Int) := by omega
  have k2 : (1 : Int) < (n : Int) := by omega
  have k3 : ¬ ((n : Int) < 2) := by omega
  have k5 := be16_i64 z0 z1 ⟨p0, p1⟩ ⟨q0, q1⟩
  go_enter Ybaf.func9, Ybaf.ntmps9
  go_wp2
  go_quiet (fail)
  go_wp2
  go_ret
  exact ⟨rfl, nq, rfl⟩

theorem well_short (ao : Option Addr) (n cap : Nat) (w : World) (hn : n < 2) :
    Calls Ybaf.prog 9 #[.slice ao n cap] w fun e w' => e = .returned (.bool false) ∧ ∃ q, w' = w.drewN q := by
  go_enter Ybaf.func9, Ybaf.ntmps9
  go_wp2
  go_ret
  exact ⟨rfl, 0, rfl⟩

set_option maxRecDepth 100000 in
set_option maxHeartbeats 800000 in
theorem vector_ok (R b off n cap : Nat) (z0 z1 : Int) (w : World) (hn : 2 ≤ n) (hcap : n ≤ cap) (hm : cap ≤ 4000000) (hrd : ReaderAt w R (.slice (some ⟨b, off, none⟩) n cap) .nilIface) (hb : b < R)
    (h0 : w.cell? ⟨b, off, none⟩ = some (.int .u8 z0)) (h1 : w.cell? ⟨b, off + 1, none⟩ = some (.int .u8 z1)) (hz0 : 0 ≤ z0 ∧ z0 ≤ 255) (hz1 : 0 ≤ z1 ∧ z1 ≤ 255) (hL : 2 + (z0 * 256 + z1) ≤ n) :
    Calls Ybaf.prog 12 #[.pointer (some ⟨R, 0, none⟩), .int .i64 2] w fun e w' => (∃ v, e = .returned v) ∧ (∃ v c m, ReaderAt w' R (.slice (some v) m c) .nilIface ∧ (m : Int) = n - (2 + (z0 * 256 + z1))) ∧ Below R w w' := by
  obtain ⟨L, hLL⟩ : ∃ L : Nat, z0 * 256 + z1 = (L : Int) := ⟨(z0 * 256 + z1).toNat, by omega⟩
  go_enter Ybaf.func12, Ybaf.ntmps12
  go_wp2_with fail
  refine (uint_ok R b off n cap z0 z1 _ hn hcap hm hrd hb h0 h1 hz0 hz1).mono ?_
  rintro e w1 ⟨rfl, ⟨x1, hr1⟩, hb1⟩
  go_wp2_with fail
  refine (bytes_ok R (n - 2) (cap - 2) L x1 _ (by omega) (by omega) (by omega) hr1).mono ?_
  rintro e w2 ⟨rfl, ⟨x2, hr2⟩, hb2⟩
  go_wp2
  go_ret
  exact ⟨⟨_, rfl⟩, ⟨x2, _, _, hr2, by omega⟩, hb1.trans hb2⟩

set_option maxRecDepth 100000 in
set_option maxHeartbeats 800000 in
theorem vector_short (R b off n cap : Nat) (z0 z1 : Int) (a : Addr) (w : World) (hn : 2 ≤ n) (hcap : n ≤ cap) (hm : cap ≤ 4000000) (hrd : ReaderAt w R (.slice (some ⟨b, off, none⟩) n cap) .nilIface) (hb : b < R)
    (hg : w.cell? ⟨0, 0, none⟩ = some (.iface 44 (.pointer (some a)))) (hR : 0 < R)
    (h0 : w.cell? ⟨b, off, none⟩ = some (.int .u8 z0)) (h1 : w.cell? ⟨b, off + 1, none⟩ = some (.int .u8 z1)) (hz0 : 0 ≤ z0 ∧ z0 ≤ 255) (hz1 : 0 ≤ z1 ∧ z1 ≤ 255) (hL : n < 2 + (z0 * 256 + z1)) :
    Calls Ybaf.prog 12 #[.pointer (some ⟨R, 0, none⟩), .int .i64 2] w fun e w' => (∃ v, e = .returned v) ∧ ReaderAt w' R (.slice none 0 0) (.iface 44 (.pointer (some a))) ∧ Below R w w' := by
  obtain ⟨L, hLL⟩ : ∃ L : Nat, z0 * 256 + z1 = (L : Int) := ⟨(z0 * 256 + z1).toNat, by omega⟩
  go_enter Ybaf.func12, Ybaf.ntmps12
  go_wp2_with fail
  refine (uint_ok R b off n cap z0 z1 _ hn hcap hm hrd hb h0 h1 hz0 hz1).mono ?_
  rintro e w1 ⟨rfl, ⟨x1, hr1⟩, hb1⟩
  go_wp2_with fail
  refine (bytes_short R (n - 2) (cap - 2) L (some x1) a _ (by omega) ((hb1.cell (p := ⟨0, 0, none⟩) hR).trans hg) hr1).mono ?_
  rintro e w2 ⟨rfl, hr2, hb2⟩
  go_wp2
  go_ret
  exact ⟨⟨_, rfl⟩, hr2, hb1.trans hb2⟩

set_option maxRecDepth 100000 in
set_option maxHeartbeats 800000 in
theorem end_err (R : Nat) (v : Value) (a : Addr) (w : World) (hrd : ReaderAt w R v (.iface 44 (.pointer (some a)))) :
    Calls Ybaf.prog 13 #[.pointer (some ⟨R, 0, none⟩)] w fun e w' => e = .returned (.iface 44 (.pointer (some a))) ∧ w' = w := by
  obtain ⟨c0, c1, f0, f1⟩ := hrd
  go_enter Ybaf.func13, Ybaf.ntmps13
  go_wp2
  go_ret
  exact ⟨rfl, rfl⟩

set_option maxRecDepth 100000 in
set_option maxHeartbeats 800000 in
theorem end_done (R c : Nat) (x : Option Addr) (w : World) (hrd : ReaderAt w R (.slice x 0 c) .nilIface) :
    Calls Ybaf.prog 13 #[.pointer (some ⟨R, 0, none⟩)] w fun e w' => e = .returned .nilIface ∧ w' = w := by
  obtain ⟨c0, c1, f0, f1⟩ := hrd
  go_enter Ybaf.func13, Ybaf.ntmps13
  go_wp2
  go_ret
  exact ⟨rfl, rfl⟩

set_option maxRecDepth 100000 in
set_option maxHeartbeats 800000 in
theorem end_left (F : Interp) (R m c : Nat) (x : Option Addr) (w : World) (hF : F.answers w.tape) (hm : 0 < m) (hRw : R < w.heap.size) (hrd : ReaderAt w R (.slice x m c) .nilIface) :
    Calls Ybaf.prog 13 #[.pointer (some ⟨R, 0, none⟩)] w fun e w' => (∃ p, e = .returned (.iface 44 p)) ∧ Below R w w' := by
  obtain ⟨c0, c1, f0, f1⟩ := hrd
  have hF' := answers_open hF
  have hm' : ((m : Int) != 0) = true := by simp; omega
  have hR1 : R < w.heap.size + 1 := by omega
  go_enter Ybaf.func13, Ybaf.ntmps13
  go_wp2
  go_ret
  exact ⟨⟨_, rfl⟩, ((((Below.refl _ _).setCell (p := ⟨R, 1, none⟩) (Nat.le_refl _) _).alloc (by simp; omega) _).alloc (by simp; omega) _).drew⟩

theorem new_reader (v : Value) (w : World) : ReaderAt (w.alloc (.cells #[v, .nilIface] 37)) w.heap.size v .nilIface := ⟨by simp, by simp, by simp, by simp⟩

set_option maxRecDepth 100000 in
set_option maxHeartbeats 800000 in
theorem parse_bad (b off n cap : Nat) (z0 z1 : Int) (a : Addr) (w : World) (hn : 2 ≤ n) (hcap : n ≤ cap) (hm : cap ≤ 4000000)
    (hg : w.cell? ⟨0, 0, none⟩ = some (.iface 44 (.pointer (some a))))
    (h0 : w.cell? ⟨b, off, none⟩ = some (.int .u8 z0)) (h1 : w.cell? ⟨b, off + 1, none⟩ = some (.int .u8 z1)) (hz0 : 0 ≤ z0 ∧ z0 ≤ 255) (hz1 : 0 ≤ z1 ∧ z1 ≤ 255) (hL : n < 2 + (z0 * 256 + z1)) :
    Calls Ybaf.prog 7 #[.slice (some ⟨b, off, none⟩) n cap] w fun e w' => (∃ p, e = .returned (.iface 44 p)) ∧ Below w.heap.size w w' := by
  have hb0 : 0 < w.heap.size := World.block_lt_of_cell? _ _ hg
  have hb : b < w.heap.size := World.block_lt_of_cell? _ _ h0
  have hN := new_reader (.slice (some ⟨b, off, none⟩) n cap) w
  have hB := (Below.refl w.heap.size w).alloc (Nat.le_refl _) (.cells #[.slice (some ⟨b, off, none⟩) n cap, .nilIface] 37)
  go_enter Ybaf.func7, Ybaf.ntmps7
  go_wp2_with (first | (go_at_call 12; refine (vector_short w.heap.size b off n cap z0 z1 a _ hn hcap hm hN hb (cell_later hB hg) hb0 (cell_later hB h0) (cell_later hB h1) hz0 hz1 hL).mono ?_; rintro e w1 ⟨⟨v1, rfl⟩, hr1, hb1⟩) | (go_at_call 13; refine (end_err w.heap.size _ a _ hr1).mono ?_; rintro e w2 ⟨rfl, rfl⟩) | go_in)
  go_ret
  exact ⟨⟨_, rfl⟩, hB.trans hb1⟩

set_option maxRecDepth 100000 in
set_option maxHeartbeats 800000 in
theorem parse_left (F : Interp) (b off n cap : Nat) (z0 z1 : Int) (w : World) (hF : F.answers w.tape) (hn : 2 ≤ n) (hcap : n ≤ cap) (hm : cap ≤ 4000000)
    (h0 : w.cell? ⟨b, off, none⟩ = some (.int .u8 z0)) (h1 : w.cell? ⟨b, off + 1, none⟩ = some (.int .u8 z1)) (hz0 : 0 ≤ z0 ∧ z0 ≤ 255) (hz1 : 0 ≤ z1 ∧ z1 ≤ 255) (hL : 2 + (z0 * 256 + z1) < n) :
    Calls Ybaf.prog 7 #[.slice (some ⟨b, off, none⟩) n cap] w fun e w' => (∃ p, e = .returned (.iface 44 p)) ∧ Below w.heap.size w w' := by
  have hb : b < w.heap.size := World.block_lt_of_cell? _ _ h0
  have hN := new_reader (.slice (some ⟨b, off, none⟩) n cap) w
  have hB := (Below.refl w.heap.size w).alloc (Nat.le_refl _) (.cells #[.slice (some ⟨b, off, none⟩) n cap, .nilIface] 37)
  have HT : Hid (F.answers w.tape) := hF
  clear hF
  go_enter Ybaf.func7, Ybaf.ntmps7
  go_wp2_with (first | (go_at_call 12; refine (vector_ok w.heap.size b off n cap z0 z1 _ hn hcap hm hN hb (cell_later hB h0) (cell_later hB h1) hz0 hz1 (by omega)).mono ?_; rintro e w1 ⟨⟨v1, rfl⟩, ⟨x1, c1, m1, hr1, hm1⟩, hb1⟩; have hb2 := hB.trans hb1; have HM : Hid ((m1 : Int) = n - (2 + (z0 * 256 + z1))) := hm1; clear hm1) | (go_at_call 13; refine (end_left F w.heap.size m1 c1 (some x1) _ (by rw [hb2.tape]; exact HT.out) (by have := HM.out; omega) (World.block_lt_of_cell? _ _ hr1.1) hr1).mono ?_; rintro e w2 ⟨⟨p, rfl⟩, hb3⟩) | go_in)
  go_ret
  exact ⟨⟨_, rfl⟩, hb2.trans hb3⟩

set_option maxRecDepth 100000 in
set_option maxHeartbeats 800000 in
theorem parse_good (b off n cap : Nat) (z0 z1 : Int) (w : World) (hn : 2 ≤ n) (hcap : n ≤ cap) (hm : cap ≤ 4000000)
    (h0 : w.cell? ⟨b, off, none⟩ = some (.int .u8 z0)) (h1 : w.cell? ⟨b, off + 1, none⟩ = some (.int .u8 z1)) (hz0 : 0 ≤ z0 ∧ z0 ≤ 255) (hz1 : 0 ≤ z1 ∧ z1 ≤ 255) (hL : 2 + (z0 * 256 + z1) = n) :
    Calls Ybaf.prog 7 #[.slice (some ⟨b, off, none⟩) n cap] w fun e w' => e = .returned .nilIface ∧ Below w.heap.size w w' := by
  have hb : b < w.heap.size := World.block_lt_of_cell? _ _ h0
  have hN := new_reader (.slice (some ⟨b, off, none⟩) n cap) w
  have hB := (Below.refl w.heap.size w).alloc (Nat.le_refl _) (.cells #[.slice (some ⟨b, off, none⟩) n cap, .nilIface] 37)
  have HL : Hid (2 + (z0 * 256 + z1) = n) := hL
  clear hL
  go_enter Ybaf.func7, Ybaf.ntmps7
  go_wp2_with (first | (go_at_call 12; refine (vector_ok w.heap.size b off n cap z0 z1 _ hn hcap hm hN hb (cell_later hB h0) (cell_later hB h1) hz0 hz1 (by have := HL.out; omega)).mono ?_; rintro e w1 ⟨⟨v1, rfl⟩, ⟨x1, c1, m1, hr1, hm1⟩, hb1⟩; have hb2 := hB.trans hb1; have hm0 : m1 = 0 := (by have := HL.out; omega); subst hm0; clear hm1) | (go_at_call 13; refine (end_done w.heap.size c1 (some x1) _ hr1).mono ?_; rintro e w2 ⟨rfl, rfl⟩) | go_in)
  go_ret
  exact ⟨rfl, hb2⟩

/-- ParsePingRequest, at every slice of at least two bytes. -/
theorem parse_any (F : Interp) (b off n cap : Nat) (z0 z1 : Int) (a : Addr) (w : World) (hF : F.answers w.tape) (hn : 2 ≤ n) (hcap : n ≤ cap) (hm : cap ≤ 4000000)
    (hg : w.cell? ⟨0, 0, none⟩ = some (.iface 44 (.pointer (some a))))
    (h0 : w.cell? ⟨b, off, none⟩ = some (.int .u8 z0)) (h1 : w.cell? ⟨b, off + 1, none⟩ = some (.int .u8 z1)) (hz0 : 0 ≤ z0 ∧ z0 ≤ 255) (hz1 : 0 ≤ z1 ∧ z1 ≤ 255) :
    Calls Ybaf.prog 7 #[.slice (some ⟨b, off, none⟩) n cap] w fun e w' => ((((n : Int) == 2 + (z0 * 256 + z1)) = true ∧ e = .returned .nilIface) ∨ (((n : Int) == 2 + (z0 * 256 + z1)) = false ∧ ∃ p, e = .returned (.iface 44 p))) ∧ Below w.heap.size w w' := by
  rcases Int.lt_trichotomy (n : Int) (2 + (z0 * 256 + z1)) with h | h | h
  · refine (parse_bad b off n cap z0 z1 a w hn hcap hm hg h0 h1 hz0 hz1 h).mono ?_
    rintro e w' ⟨hp, hb⟩
    exact ⟨.inr ⟨by simp; omega, hp⟩, hb⟩
  · refine (parse_good b off n cap z0 z1 w hn hcap hm h0 h1 hz0 hz1 h.symm).mono ?_
    rintro e w' ⟨hp, hb⟩
    exact ⟨.inl ⟨by simp; omega, hp⟩, hb⟩
  · refine (parse_left F b off n cap z0 z1 w hF hn hcap hm h0 h1 hz0 hz1 h).mono ?_
    rintro e w' ⟨hp, hb⟩
    exact ⟨.inr ⟨by simp; omega, hp⟩, hb⟩
end Go.Proofs.YbulkbyieFmt
