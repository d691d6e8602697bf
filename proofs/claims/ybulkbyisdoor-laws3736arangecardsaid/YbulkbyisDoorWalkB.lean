import Derived.Test.YbulkbyisDoorWalkA
namespace Go.Proofs.YbulkbyisDoor
open Go.RowKit

theorem field_bits (t : Nat) (h1 : 4602678819172646912 ≤ t) (h2 : t < 4611686018427387904) : bits .and .i64 ((t : Int) / 4503599627370496) 2047 = ((t / 2 ^ 52 : Nat) : Int) := by
  have : (t : Int) / 4503599627370496 = 1022 ∨ (t : Int) / 4503599627370496 = 1023 := by omega
  have e : ((t / 2 ^ 52 : Nat) : Int) = (t : Int) / 4503599627370496 := by omega
  rw [e]
  rcases this with h | h <;> rw [h] <;> decide +kernel
theorem wrap64_id (x : Int) (h1 : -9223372036854775808 ≤ x) (h2 : x ≤ 9223372036854775807) : wrap64 x = x := by
  unfold wrap64
  omega

structure LdPre (t : Nat) (K : Int) (E : Int) : Prop where
  ft : Fl.Fin' t
  h1 : 40 * (Fl.TN : Int) ≤ Fl.V t
  h2 : Fl.V t ≤ 97 * (Fl.TN : Int)
  hK0 : K ≤ 0
  hK1 : -1078 ≤ K
  hE : E = K + ((t / 2 ^ 52 : Nat) : Int) - 1023

theorem LdPre.field {t : Nat} {K E : Int} (h : LdPre t K E) : ∃ g, wrap64 (bits .and .i64 ((t : Int) / 4503599627370496) 2047 - 1023) = g ∧ wrap64 (K + g) = E := by
  obtain ⟨h63, hb1, hb2⟩ := Fl.t_bits h.ft h.h1 h.h2
  have := h.hE
  have a := h.hK0
  have b := h.hK1
  rw [field_bits t hb1 hb2]
  refine ⟨_, wrap64_id _ (by omega) (by omega), ?_⟩
  rw [wrap64_id _ (by omega) (by omega)]
  omega

set_option maxHeartbeats 400000 in
theorem ldexp_under (t : Nat) (K E : Int) (w : World) (h : LdPre t K E) (hE : E < -1075) :
    Calls Ybad.prog 17 #[.float .f64 t, .int .i64 K] w fun e w' => e = .returned (.float .f64 0) ∧ w' = w := by
  obtain ⟨h63, hb1, hb2⟩ := Fl.t_bits h.ft h.h1 h.h2
  have HI : Hid (∀ w : World, Calls Ybad.prog 18 #[.float .f64 t, .int .i64 0] w fun e w' => e = .returned (.bool false) ∧ w' = w) := isinf_any t h.ft
  have HN : Hid (∀ w : World, Calls Ybad.prog 7 #[.float .f64 t] w fun e w' => e = .returned (.bool false) ∧ w' = w) := isnan_any t h.ft
  have HZ : Hid (∀ w : World, Calls Ybad.prog 20 #[.float .f64 t] w fun e w' => e = .returned (.tuple #[.float .f64 t, .int .i64 0]) ∧ w' = w) := normalize_any t h.ft (by omega)
  have HC : Hid (∀ w : World, Calls Ybad.prog 21 #[.float .f64 0, .float .f64 t] w fun e w' => e = .returned (.float .f64 0) ∧ w' = w) := copysign_any t h63
  have hz : (FloatKind.f64.format.order t 0 == some .eq) = false := eq_no h.ft (Fl.fin_const _ (by decide) (by decide)) (by rw [Fl.V_0]; have := Fl.TN_pos; have := h.h1; omega)
  have hbc := bits_call t
  obtain ⟨g, hg1, hg2⟩ := h.field
  have hK0 := h.hK0
  have hK1 := h.hK1
  clear h
  go_enter Ybad.func17, Ybad.ntmps17
  go_wp2_with (first
    | (go_at_call 18; refine (HI.out _).mono ?_; rintro e w1 ⟨rfl, rfl⟩)
    | (go_at_call 7; refine (HN.out _).mono ?_; rintro e w1 ⟨rfl, rfl⟩)
    | (go_at_call 20; refine (HZ.out _).mono ?_; rintro e w1 ⟨rfl, rfl⟩)
    | (go_at_call 21; refine (HC.out _).mono ?_; rintro e w1 ⟨rfl, rfl⟩))
  go_ret
  exact ⟨rfl, rfl⟩

theorem glue_bits (t : Nat) (F : Int) (h63 : t < 2 ^ 63) (h0 : 0 ≤ F) (h1 : F < 2047) :
    (bits .or .u64 (bits .andNot .u64 (t : Int) 9218868437227405312) (F * 4503599627370496)).toNat = F.toNat * 2 ^ 52 + t % 2 ^ 52 := by
  have e : bits .andNot .u64 (t : Int) 9218868437227405312 = ((t &&& (18446744073709551615 - 9218868437227405312) : Nat) : Int) := u64_andNot_nat t 9218868437227405312 (by omega) (by decide)
  have e2 : t &&& (18446744073709551615 - 9218868437227405312) = t % 2 ^ 52 := by
    have a1 : (t &&& (18446744073709551615 - 9218868437227405312)) / 2 ^ 52 = 0 := by
      rw [Nat.and_div_two_pow, show (18446744073709551615 - 9218868437227405312) / 2 ^ 52 = 2 ^ 11 by decide]
      have b1 : (t / 2 ^ 52 &&& 2 ^ 11) / 2 ^ 11 = 0 := by
        rw [Nat.and_div_two_pow, show t / 2 ^ 52 / 2 ^ 11 = 0 by omega, Nat.zero_and]
      have b2 : (t / 2 ^ 52 &&& 2 ^ 11) % 2 ^ 11 = 0 := by
        rw [Nat.and_mod_two_pow, Nat.mod_self, Nat.and_zero]
      omega
    have a2 : (t &&& (18446744073709551615 - 9218868437227405312)) % 2 ^ 52 = t % 2 ^ 52 := by
      rw [Nat.and_mod_two_pow, show (18446744073709551615 - 9218868437227405312) % 2 ^ 52 = 2 ^ 52 - 1 by decide, Nat.and_two_pow_sub_one_eq_mod]
      omega
    omega
  rw [e, e2]
  obtain ⟨f, rfl⟩ := Int.eq_ofNat_of_zero_le h0
  have h := u64_or_nat (t % 2 ^ 52) (f * 4503599627370496) (by omega) (by omega)
  have e3 : bits .or .u64 ((t % 2 ^ 52 : Nat) : Int) ((f : Int) * 4503599627370496) = ((t % 2 ^ 52 ||| f * 4503599627370496 : Nat) : Int) := h
  rw [e3, Int.toNat_natCast, Int.toNat_natCast, Nat.or_comm, Nat.mul_comm f]
  have := Nat.two_pow_add_eq_or_of_lt (show t % 2 ^ 52 < 2 ^ 52 by omega) f
  rw [show 4503599627370496 = 2 ^ 52 by decide, ← this, Nat.mul_comm]

set_option maxHeartbeats 400000 in
theorem ldexp_normal (t z : Nat) (K E : Int) (w : World) (h : LdPre t K E) (hE : -1022 ≤ E) (hm : Ieee.double.mul 4607182418800017408 ((E + 1023).toNat * 2 ^ 52 + t % 2 ^ 52) = some z) :
    Calls Ybad.prog 17 #[.float .f64 t, .int .i64 K] w fun e w' => e = .returned (.float .f64 z) ∧ w' = w := by
  obtain ⟨h63, hb1, hb2⟩ := Fl.t_bits h.ft h.h1 h.h2
  have HI : Hid (∀ w : World, Calls Ybad.prog 18 #[.float .f64 t, .int .i64 0] w fun e w' => e = .returned (.bool false) ∧ w' = w) := isinf_any t h.ft
  have HN : Hid (∀ w : World, Calls Ybad.prog 7 #[.float .f64 t] w fun e w' => e = .returned (.bool false) ∧ w' = w) := isnan_any t h.ft
  have HZ : Hid (∀ w : World, Calls Ybad.prog 20 #[.float .f64 t] w fun e w' => e = .returned (.tuple #[.float .f64 t, .int .i64 0]) ∧ w' = w) := normalize_any t h.ft (by omega)
  have hz : (FloatKind.f64.format.order t 0 == some .eq) = false := eq_no h.ft (Fl.fin_const _ (by decide) (by decide)) (by rw [Fl.V_0]; have := Fl.TN_pos; have := h.h1; omega)
  have hbc := bits_call t
  have hfc := frombits_call
  obtain ⟨g, hg1, hg2⟩ := h.field
  have hE0 : E ≤ 0 := by have := h.hE; have := h.hK0; omega
  have hK0 := h.hK0
  have hK1 := h.hK1
  have hmul : ∀ w : World, (binOp .mul 22 (.float .f64 4607182418800017408) (.float .f64 (bits .or .u64 (bits .andNot .u64 (t : Int) 9218868437227405312) ((E + 1023) * 4503599627370496)).toNat)).run Ybad.prog w = .ok (.float .f64 z) w := by
    intro w
    rw [glue_bits t (E + 1023) h63 (by omega) (by omega)]
    exact run_float_arith w .mul 22 .f64 _ _ _ hm
  clear h hm
  go_enter Ybad.func17, Ybad.ntmps17
  go_wp2_with (first
    | (go_at_call 18; refine (HI.out _).mono ?_; rintro e w1 ⟨rfl, rfl⟩)
    | (go_at_call 7; refine (HN.out _).mono ?_; rintro e w1 ⟨rfl, rfl⟩)
    | (go_at_call 20; refine (HZ.out _).mono ?_; rintro e w1 ⟨rfl, rfl⟩))
  go_ret
  exact ⟨rfl, rfl⟩

set_option maxHeartbeats 400000 in
theorem ldexp_small (t z : Nat) (K E : Int) (w : World) (h : LdPre t K E) (hE : E < -1022) (hE1 : -1075 ≤ E) (hm : Ieee.double.mul 4368491638549381120 ((E + 53 + 1023).toNat * 2 ^ 52 + t % 2 ^ 52) = some z) :
    Calls Ybad.prog 17 #[.float .f64 t, .int .i64 K] w fun e w' => e = .returned (.float .f64 z) ∧ w' = w := by
  obtain ⟨h63, hb1, hb2⟩ := Fl.t_bits h.ft h.h1 h.h2
  have HI : Hid (∀ w : World, Calls Ybad.prog 18 #[.float .f64 t, .int .i64 0] w fun e w' => e = .returned (.bool false) ∧ w' = w) := isinf_any t h.ft
  have HN : Hid (∀ w : World, Calls Ybad.prog 7 #[.float .f64 t] w fun e w' => e = .returned (.bool false) ∧ w' = w) := isnan_any t h.ft
  have HZ : Hid (∀ w : World, Calls Ybad.prog 20 #[.float .f64 t] w fun e w' => e = .returned (.tuple #[.float .f64 t, .int .i64 0]) ∧ w' = w) := normalize_any t h.ft (by omega)
  have hz : (FloatKind.f64.format.order t 0 == some .eq) = false := eq_no h.ft (Fl.fin_const _ (by decide) (by decide)) (by rw [Fl.V_0]; have := Fl.TN_pos; have := h.h1; omega)
  have hbc := bits_call t
  have hfc := frombits_call
  obtain ⟨g, hg1, hg2⟩ := h.field
  have hE0 : E ≤ 0 := by have := h.hE; have := h.hK0; omega
  have hK0 := h.hK0
  have hK1 := h.hK1
  have hmul : ∀ w : World, (binOp .mul 22 (.float .f64 4368491638549381120) (.float .f64 (bits .or .u64 (bits .andNot .u64 (t : Int) 9218868437227405312) ((E + 53 + 1023) * 4503599627370496)).toNat)).run Ybad.prog w = .ok (.float .f64 z) w := by
    intro w
    rw [glue_bits t (E + 53 + 1023) h63 (by omega) (by omega)]
    exact run_float_arith w .mul 22 .f64 _ _ _ hm
  clear h hm
  go_enter Ybad.func17, Ybad.ntmps17
  go_wp2_with (first
    | (go_at_call 18; refine (HI.out _).mono ?_; rintro e w1 ⟨rfl, rfl⟩)
    | (go_at_call 7; refine (HN.out _).mono ?_; rintro e w1 ⟨rfl, rfl⟩)
    | (go_at_call 20; refine (HZ.out _).mono ?_; rintro e w1 ⟨rfl, rfl⟩))
  go_ret
  exact ⟨rfl, rfl⟩

theorem ldexp_any (t : Nat) (K : Int) (w : World) (ft : Fl.Fin' t) (h1 : 40 * (Fl.TN : Int) ≤ Fl.V t) (h2 : Fl.V t ≤ 97 * (Fl.TN : Int)) (hK0 : K ≤ 0) (hK1 : -1078 ≤ K) (hs : K = 0 → Fl.V t ≤ 64 * (Fl.TN : Int)) :
    Calls Ybad.prog 17 #[.float .f64 t, .int .i64 K] w fun e w' => (∃ z, e = .returned (.float .f64 z) ∧ Fl.LdR t K z) ∧ w' = w := by
  obtain ⟨h63, hb1, hb2⟩ := Fl.t_bits ft h1 h2
  have pre : LdPre t K (K + ((t / 2 ^ 52 : Nat) : Int) - 1023) := ⟨ft, h1, h2, hK0, hK1, rfl⟩
  by_cases c1 : K + ((t / 2 ^ 52 : Nat) : Int) - 1023 < -1075
  · exact (ldexp_under t K _ w pre c1).mono fun e w' h => ⟨⟨0, h.1, Fl.ld_zero (by omega)⟩, h.2⟩
  · by_cases c2 : K + ((t / 2 ^ 52 : Nat) : Int) - 1023 < -1022
    · obtain ⟨z, hz, hr⟩ := Fl.ld_small (t := t) (K := K) (y := (K + ((t / 2 ^ 52 : Nat) : Int) - 1023 + 53 + 1023).toNat * 2 ^ 52 + t % 2 ^ 52) (by omega) (by omega)
      exact (ldexp_small t z K _ w pre c2 (by omega) hz).mono fun e w' h => ⟨⟨z, h.1, hr⟩, h.2⟩
    · obtain ⟨z, hz, hr⟩ := Fl.ld_normal (t := t) (K := K) (E' := K + ((t / 2 ^ 52 : Nat) : Int) - 1023 + 1023) ft h1 h2 hK0 hs (by omega) (by omega) rfl
      exact (ldexp_normal t z K _ w pre (by omega) hz).mono fun e w' h => ⟨⟨z, h.1, hr⟩, h.2⟩

set_option maxHeartbeats 400000 in
theorem Ldexp_any (t : Nat) (K : Int) (w : World) (ft : Fl.Fin' t) (h1 : 40 * (Fl.TN : Int) ≤ Fl.V t) (h2 : Fl.V t ≤ 97 * (Fl.TN : Int)) (hK0 : K ≤ 0) (hK1 : -1078 ≤ K) (hs : K = 0 → Fl.V t ≤ 64 * (Fl.TN : Int)) :
    Calls Ybad.prog 13 #[.float .f64 t, .int .i64 K] w fun e w' => (∃ z, e = .returned (.float .f64 z) ∧ Fl.LdR t K z) ∧ w' = w := by
  have H : Hid (∀ w : World, Calls Ybad.prog 17 #[.float .f64 t, .int .i64 K] w fun e w' => (∃ z, e = .returned (.float .f64 z) ∧ Fl.LdR t K z) ∧ w' = w) := fun w => ldexp_any t K w ft h1 h2 hK0 hK1 hs
  clear ft h1 h2 hs
  go_enter Ybad.func13, Ybad.ntmps13
  go_wp2_with (go_at_call 17; refine (H.out _).mono ?_; rintro e w1 ⟨⟨z, rfl, hr⟩, rfl⟩)
  go_ret
  exact ⟨⟨z, rfl, hr⟩, rfl⟩
end Go.Proofs.YbulkbyisDoor
