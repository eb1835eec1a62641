/-
  The walk of FnJoinCountsOneParkAndCarries.
-/
import Derived.Test.Qxb6613268aJoin
namespace Go.Proofs.Qxb6613268a
open Go.RowKit

set_option maxHeartbeats 1000000 in
theorem counts_stopped (s h : Int) (h0 : 0 ≤ s) (h1 : s < 18446744073709551616) (hs : 9223372036854775808 ≤ s) (w : World) :
    Calls Try.prog 7 #[.int .u64 s, .int .u64 h] w fun e w' => e = .returned (.bool true) ∧ Grown w w' := by
  have hst : (bits BinOp.and IntKind.u64 s 9223372036854775808 != 0) = true := by
    rw [and_stop s h0 h1, bne_iff_ne]; omega
  have HJ : Hid (0 ≤ s ∧ s < 18446744073709551616 ∧ 9223372036854775808 ≤ s) := ⟨h0, h1, hs⟩
  clear h0 h1 hs
  go_enter Try.func7, Try.ntmps7
  go_wp2_with fail
  refine (newParking s h w).mono ?_
  rintro e w1 ⟨rfl, k⟩
  go_wp2_with fail
  refine (join_st_stopped k HJ.out.1 HJ.out.2.1 HJ.out.2.2).mono ?_
  rintro e w' ⟨rfl, hw⟩
  subst hw
  have c1 := k.c1
  have c2 := k.c2
  go_wp2_with fail
  refine (pState _ _ _ c1).mono ?_
  rintro e w' ⟨rfl, hw⟩
  subst hw
  go_wp2_with fail
  refine (pHigh _ _ _ c2).mono ?_
  rintro e w' ⟨rfl, hw⟩
  subst hw
  go_wp2_with fail
  go_ret
  exact ⟨rfl, k.grown⟩

set_option maxHeartbeats 1000000 in
theorem counts_carry (s h : Int) (h0 : 0 ≤ s) (h1 : s < 9223372036854775808) (hs : 4611686018427387904 ≤ s) (w : World) :
    Calls Try.prog 7 #[.int .u64 s, .int .u64 h] w fun e w' => e = .returned (.bool true) ∧ Grown w w' := by
  have hst : (bits BinOp.and IntKind.u64 s 9223372036854775808 != 0) = false := by
    rw [and_stop s h0 (by omega), bne_eq_false_iff_eq]; omega
  have hca : (bits BinOp.and IntKind.u64 s 4611686018427387904 != 0) = true := by
    rw [and_carry s h0 (by omega), bne_iff_ne]; omega
  clear h0 h1 hs
  go_enter Try.func7, Try.ntmps7
  go_wp2_with fail
  go_ret
  exact ⟨rfl, Grown.refl _⟩

set_option maxHeartbeats 1000000 in
theorem counts_full (s h : Int) (h0 : 0 ≤ s) (h1 : s < 4611686018427387904) (hs : s % 4294967296 = 4294967295) (w : World) :
    Calls Try.prog 7 #[.int .u64 s, .int .u64 h] w fun e w' => e = .returned (.bool true) ∧ Grown w w' := by
  have hst : (bits BinOp.and IntKind.u64 s 9223372036854775808 != 0) = false := by
    rw [and_stop s h0 (by omega), bne_eq_false_iff_eq]; omega
  have hca : (bits BinOp.and IntKind.u64 s 4611686018427387904 != 0) = false := by
    rw [and_carry s h0 (by omega), bne_eq_false_iff_eq]; omega
  have hpa : (bits BinOp.and IntKind.u64 s 4294967295 == 4294967295) = true := by
    rw [and_parked s h0 (by omega), hs]; rfl
  clear h0 h1 hs
  go_enter Try.func7, Try.ntmps7
  go_wp2_with fail
  go_ret
  exact ⟨rfl, Grown.refl _⟩

set_option maxHeartbeats 1000000 in
theorem counts_main (s h : Int) (h0 : 0 ≤ s) (h1 : s < 4611686018427387904) (hs : ¬ s % 4294967296 = 4294967295) (g0 : 0 ≤ h) (g1 : h < 18446744073709551616) (w : World) :
    Calls Try.prog 7 #[.int .u64 s, .int .u64 h] w fun e w' => e = .returned (.bool true) ∧ Grown w w' := by
  have hst : (bits BinOp.and IntKind.u64 s 9223372036854775808 != 0) = false := by
    rw [and_stop s h0 (by omega), bne_eq_false_iff_eq]; omega
  have hca : (bits BinOp.and IntKind.u64 s 4611686018427387904 != 0) = false := by
    rw [and_carry s h0 (by omega), bne_eq_false_iff_eq]; omega
  have hpa : (bits BinOp.and IntKind.u64 s 4294967295 == 4294967295) = false := by
    rw [and_parked s h0 (by omega), beq_eq_false_iff_ne]; exact hs
  obtain ⟨P, hP⟩ : ∃ P, P = s % 4294967296 := ⟨_, rfl⟩
  obtain ⟨C, hC⟩ : ∃ C, C = s / 4294967296 := ⟨_, rfl⟩
  obtain ⟨S2, hS2⟩ : ∃ x, x = nextS s := ⟨_, rfl⟩
  obtain ⟨H2, hH2⟩ : ∃ x, x = nextH s h := ⟨_, rfl⟩
  have f1 : bits BinOp.and IntKind.u64 s 4294967295 = P := by rw [and_parked s h0 (by omega), hP]
  have f2 : bits BinOp.and IntKind.u64 s 4611686014132420608 = C * 4294967296 := by rw [and_parks s h0 (by omega), hC]; omega
  have p0 : 0 ≤ P := by omega
  have p1 : P < 4294967295 := by omega
  have k0 : 0 ≤ C := by omega
  have k1 : C < 1073741824 := by omega
  have f3 : bits BinOp.or IntKind.u64 ((C + 1) % 1073741824 * 4294967296) (P + 1) = S2 := by
    rw [or_halves _ _ (by omega) (by omega) (by omega) (by omega), hS2, hP, hC]; rfl
  have F4 : Hid ((H2 == IntKind.u64.wrap (h + (C + 1) / 1073741824)) = true) := by
    show (H2 == IntKind.u64.wrap (h + (C + 1) / 1073741824)) = true
    rw [IntKind.wrap_u64, hH2, hC, beq_iff_eq]; rfl
  have HJ : Hid (0 ≤ s ∧ s < 4611686018427387904 ∧ S2 = nextS s ∧ H2 = nextH s h) := ⟨h0, h1, hS2, hH2⟩
  clear h0 h1 hs hP hC hS2 hH2
  go_enter Try.func7, Try.ntmps7
  go_wp2_with fail
  refine (newParking s h w).mono ?_
  rintro e w1 ⟨rfl, k⟩
  go_wp2_with fail
  refine (join_st k HJ.out.1 HJ.out.2.1 g0 g1).mono ?_
  rintro e w2 ⟨rfl, k2⟩
  rw [← HJ.out.2.2.1, ← HJ.out.2.2.2] at k2
  clear k
  have c1 := k2.c1
  have c2 := k2.c2
  go_wp2_with fail
  refine (pState _ _ _ c1).mono ?_
  rintro e w' ⟨rfl, hw⟩
  subst hw
  go_wp2_with fail
  refine (pHigh _ _ _ c2).mono ?_
  rintro e w' ⟨rfl, hw⟩
  subst hw
  go_wp2_with fail
  go_ret
  exact ⟨ret_yes F4.out, k2.grown⟩

theorem counts_walk (s h : Int) (h0 : 0 ≤ s) (h1 : s < 18446744073709551616) (g0 : 0 ≤ h) (g1 : h < 18446744073709551616) (w : World) :
    Calls Try.prog 7 #[.int .u64 s, .int .u64 h] w fun e w' => e = .returned (.bool true) ∧ Grown w w' := by
  by_cases a : 9223372036854775808 ≤ s
  · exact counts_stopped s h h0 h1 a w
  by_cases b : 4611686018427387904 ≤ s
  · exact counts_carry s h h0 (by omega) b w
  by_cases c : s % 4294967296 = 4294967295
  · exact counts_full s h h0 (by omega) c w
  · exact counts_main s h h0 (by omega) c g0 g1 w

end Go.Proofs.Qxb6613268a
