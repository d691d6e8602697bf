import Derived.Test.YbulkbyieFmtWalkA
import Derived.Deep.AppendLies
namespace Go.Proofs.YbulkbyieFmt
open Go.WideShapes (add_plain)
open Go.RowKit Go.Extern.Stop Go.Stop Go.Extern

set_option maxRecDepth 100000 in
set_option maxHeartbeats 800000 in
theorem built_big (a0 a1 : Option Addr) (np cp nt ct : Nat) (w : World) (h : 65535 < np ∨ 1048576 < nt) :
    Calls Ybaf.prog 4 #[.slice a0 np cp, .slice a1 nt ct] w fun e w' => e = .returned (.bool true) ∧ Below w.heap.size w w' := by
  by_cases h1 : 65535 < np
  · have h' : (65535 : Int) < (np : Int) := by omega
    go_enter Ybaf.func4, Ybaf.ntmps4
    go_wp2
    go_ret
    exact ⟨rfl, Below.refl _ _⟩
  · have h' : ¬ ((65535 : Int) < (np : Int)) := by omega
    have h2 : (1048576 : Int) < (nt : Int) := by omega
    go_enter Ybaf.func4, Ybaf.ntmps4
    go_wp2
    go_ret
    exact ⟨rfl, Below.refl _ _⟩

/-- What the walk asks of a slice of bytes that is appended: its cells, as a list. -/
def Bytes (w : World) (ao : Option Addr) (n cap : Nat) (NP : List Value) : Prop :=
  NP.length = n ∧ (ao = none → n = 0 ∧ cap = 0) ∧ (∀ ad, ao = some ad → ∀ j u, NP[j]? = some u → w.cell? (ad.add j) = some u) ∧ ∀ u ∈ NP, u.oneCell' = true

theorem Bytes.later {w w' : World} {ao : Option Addr} {n cap : Nat} {NP : List Value} (h : Bytes w ao n cap NP) (hb : Below w.heap.size w w') : Bytes w' ao n cap NP :=
  ⟨h.1, h.2.1, fun ad had j u hu => cell_later hb (h.2.2.1 ad had j u hu), h.2.2.2⟩

theorem own_cells {W : World} {base g n cap : Nat} {zs : List Int} (h : W.ownsRow base 5 1 (.slice (some ⟨g, 0, none⟩) n cap) n (zs.map (Value.int .u8))) :
    ∀ k, k < n → W.cell? ⟨g, k, none⟩ = some (.int .u8 (zs.getD k 0)) := by
  intro k hk
  have hl : zs.length = n := by simpa using h.1
  rw [h.cellAt k (by omega)]
  simp [show k < zs.length by omega]

set_option maxRecDepth 100000 in
set_option maxHeartbeats 800000 in
theorem built_some (F : Interp) (a0 a1 : Option Addr) (np cp nt ct : Nat) (zp zt : List Int) (NP NT : List Value) (a : Addr) (w : World) (hF : F.answers w.tape) (h1 : np ≤ 65535) (h2 : nt ≤ 1048576)
    (hg : w.cell? ⟨0, 0, none⟩ = some (.iface 44 (.pointer (some a)))) (hP : Hid (Bytes w a0 np cp NP)) (hT : Hid (Bytes w a1 nt ct NT)) (hNP : Hid (NP = zp.map (Value.int .u8))) (hNT : Hid (NT = zt.map (Value.int .u8))) :
    Calls Ybaf.prog 4 #[.slice a0 np cp, .slice a1 nt ct] w fun e w' => e = .returned (.bool true) ∧ Below w.heap.size w w' := by
  have HF : Hid (F.answers w.tape) := hF
  clear hF
  have k1 : ¬ ((65535 : Int) < (np : Int)) := by omega
  have k2 : ¬ ((1048576 : Int) < (nt : Int)) := by omega
  obtain ⟨i0, hi0, hz0, hz1, hz2⟩ := info_parts info5
  go_enter Ybaf.func4, Ybaf.ntmps4
  go_wp2_with (first | (at_make; refine wpList_make_own _ rfl _ _ 22 rfl w.heap.size 5 i0 _ 1 Ybaf.underlying22 hi0 hz0 hz1 _ _ _ (2 + np + nt) rfl rfl (by omega) (by rw [hz2]; omega) (by unfold maxLen; omega) (Nat.le_refl _) ?_; intro w1 hown1 hgrow1; have hb1 : Below w.heap.size w w1 := (Below.refl _ _).grown hgrow1 (Nat.le_refl _) (by simp); clear hgrow1) | (at_builtin; refine wpList_append_fits _ rfl (.tmp 25) (.tmp 31) 22 rfl w.heap.size 5 i0 1 Ybaf.underlying22 hi0 hz1 w.heap.size 0 (2 + np + nt) [] rfl (hown1.alloc _) ⟨w1.heap.size, 0, none⟩ 2 2 [.int .u8 (np / 256), .int .u8 (np % 256)] rfl rfl (World.news_of_block (cs := #[.int .u8 (np / 256), .int .u8 (np % 256)]) (t := 5) (fr := (0, 0)) (heap_alloc_new w1 _)) (by simp [Value.oneCell']) (by omega) ?_; intro w2 hown2 hgrow2; have hb2 : Below w.heap.size w w2 := (hb1.alloc hb1.size _).grown hgrow2 (by have := hb1.size; simp; omega) (fun k hk => by simp at hk; omega); simp only [Nat.zero_add, List.nil_append] at hown2; clear hgrow2) | (at_builtin; refine wpList_append_fits_any _ rfl (.tmp 33) (.tmp 34) 22 rfl w.heap.size 5 i0 1 Ybaf.underlying22 hi0 hz1 w.heap.size 2 (2 + np + nt) _ rfl hown2 a0 np cp NP rfl (by have := hP.out.1; omega) hP.out.2.1 (hP.out.later hb2).2.2.1 hP.out.2.2.2 (by omega) ?_; intro w3 hown3 hgrow3; have hb3 : Below w.heap.size w w3 := hb2.grown hgrow3 hb2.size (fun k hk => by simp at hk; omega); clear hgrow3) | (at_builtin; refine wpList_append_fits_any _ rfl (.tmp 36) (.tmp 37) 22 rfl w.heap.size 5 i0 1 Ybaf.underlying22 hi0 hz1 w.heap.size (2 + np) (2 + np + nt) _ rfl hown3 a1 nt ct NT rfl (by have := hT.out.1; omega) hT.out.2.1 (hT.out.later hb3).2.2.1 hT.out.2.2.2 (by omega) ?_; intro w4 hown4 hgrow4; have hb4 : Below w.heap.size w w4 := hb3.grown hgrow4 hb3.size (fun k hk => by simp at hk; omega); clear hgrow4) | fail)
  have HZ : Hid (∃ zs : List Int, zs = ((np : Int) / 256) :: ((np : Int) % 256) :: (zp ++ zt)) := ⟨_, rfl⟩
  obtain ⟨zs, hzs⟩ := HZ.out
  clear HZ
  have hown5 : w4.ownsRow w.heap.size 5 1 (.slice (some ⟨w.heap.size, 0, none⟩) (2 + np + nt) (2 + np + nt)) (2 + np + nt) (zs.map (Value.int .u8)) := by
    have e : zs.map (Value.int .u8) = [Value.int .u8 (np / 256), Value.int .u8 (np % 256)] ++ NP ++ NT := by rw [hzs, hNP.out, hNT.out]; simp
    rw [e]; exact hown4
  have hl : zs.length = 2 + np + nt := by simpa using hown5.1
  have HC : Hid (∀ k, k < 2 + np + nt → w4.cell? ⟨w.heap.size, k, none⟩ = some (.int .u8 (zs.getD k 0))) := own_cells hown5
  have e0 : w4.cell? ⟨w.heap.size, 0, none⟩ = some (.int .u8 (np / 256)) := by rw [HC.out 0 (by omega), hzs]; rfl
  have e1 : w4.cell? ⟨w.heap.size, 0 + 1, none⟩ = some (.int .u8 (np % 256)) := by rw [Nat.zero_add, HC.out 1 (by omega), hzs]; rfl
  have HL : Hid (zs.length = 2 + np + nt) := hl
  obtain ⟨N, hN⟩ : ∃ N, N = 2 + np + nt := ⟨_, rfl⟩
  have HN : Hid (N = 2 + np + nt) := hN
  rw [← hN] at HC HL ⊢
  clear hzs hown5 hl hown1 hown2 hown3 hown4 hb1 hb2 hb3 hN
  refine (copy_any ⟨w.heap.size, 0, none⟩ N N zs w4 (by have := HN.out; omega) (by have := HL.out; omega) (fun k hk => by rw [add_plain, Nat.zero_add]; exact HC.out k hk)).mono ?_
  rintro e w5 ⟨rfl, hb5, hrow⟩
  have HR : Hid (∀ k, k < N → w5.cell? ⟨w4.heap.size, k, none⟩ = some (.int .u8 (zs.getD k 0))) := row_cells (by have := HL.out; omega) hrow
  clear hrow
  have hb05 : Below w.heap.size w w5 := hb4.trans (hb5.mono hb4.size)
  go_wp2_with fail
  refine (parse_any F w.heap.size 0 N N (np / 256) (np % 256) a _ (by rw [hb05.tape]; exact HF.out) (by have := HN.out; omega) (Nat.le_refl _) (by have := HN.out; omega) (cell_later hb05 hg) (cell_later hb5 e0) (cell_later hb5 e1) (by omega) (by omega)).mono ?_
  rintro e w6 ⟨he, hb6⟩
  have hb46 : Below w4.heap.size w4 w6 := hb5.trans (hb6.mono hb5.size)
  have hb06 : Below w.heap.size w w6 := hb05.trans (hb6.mono hb05.size)
  rcases he with ⟨hq, rfl⟩ | ⟨hq, p, rfl⟩
  · have hq0 : ((nt : Int) == 0) = true := by have := HN.out; simp at hq ⊢; omega
    clear hq e0 e1
    go_wp2_with fail
    refine (same_any w.heap.size 0 N w4.heap.size 0 N N zs _ (by have := HN.out; omega) (fun k hk => by rw [Nat.zero_add]; exact cell_later hb46 (HC.out k hk)) (fun k hk => by rw [Nat.zero_add]; exact cell_later hb6 (HR.out k hk))).mono ?_
    rintro e w7 ⟨rfl, hb7⟩
    go_wp2
    go_ret
    exact ⟨rfl, hb06.trans (hb7.mono hb06.size)⟩
  · have hq0 : ((nt : Int) == 0) = false := by have := HN.out; simp at hq ⊢; omega
    clear hq e0 e1
    go_wp2_with fail
    refine (same_any w.heap.size 0 N w4.heap.size 0 N N zs _ (by have := HN.out; omega) (fun k hk => by rw [Nat.zero_add]; exact cell_later hb46 (HC.out k hk)) (fun k hk => by rw [Nat.zero_add]; exact cell_later hb6 (HR.out k hk))).mono ?_
    rintro e w7 ⟨rfl, hb7⟩
    go_wp2
    go_ret
    exact ⟨rfl, hb06.trans (hb7.mono hb06.size)⟩

theorem bytes_of_row {w : World} {ao : Option Addr} {n cap : Nat} {zs : List Int} (h : IsRow w ao n cap zs) : Bytes w ao n cap ((zs.take n).map (Value.int .u8)) := by
  rcases h with ⟨rfl, rfl, rfl, rfl⟩ | ⟨x, rfl, hl, hm, hz, hc, hw⟩
  · exact ⟨rfl, fun _ => ⟨rfl, rfl⟩, (fun ad h => by cases h), (fun u h => by cases h)⟩
  · refine ⟨by simp; omega, (fun h => by cases h), ?_, ints_oneCell _ _⟩
    rintro ad had j u hu
    obtain rfl := Option.some.inj had
    have hj : j < n := by
      have := (List.getElem?_eq_some_iff.1 hu).1
      simp at this
      omega
    have hjz : j < zs.length := by omega
    rw [hc j hjz]
    simp [hj, hjz] at hu ⊢
    exact hu

theorem built_walk (F : Interp) (a0 a1 : Option Addr) (np cp nt ct : Nat) (zp zt : List Int) (a : Addr) (w : World) (hF : F.answers w.tape)
    (hg : w.cell? ⟨0, 0, none⟩ = some (.iface 44 (.pointer (some a)))) (hP : IsRow w a0 np cp zp) (hT : IsRow w a1 nt ct zt) :
    Calls Ybaf.prog 4 #[.slice a0 np cp, .slice a1 nt ct] w fun e w' => e = .returned (.bool true) ∧ Below w.heap.size w w' := by
  by_cases h : 65535 < np ∨ 1048576 < nt
  · exact built_big a0 a1 np cp nt ct w h
  · exact built_some F a0 a1 np cp nt ct (zp.take np) (zt.take nt) _ _ a w hF (by omega) (by omega) hg (bytes_of_row hP) (bytes_of_row hT) rfl rfl
end Go.Proofs.YbulkbyieFmt
