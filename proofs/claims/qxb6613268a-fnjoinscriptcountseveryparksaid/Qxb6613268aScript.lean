/-
  The walk of FnJoinScriptCountsEveryPark.
-/
import Derived.Test.Qxb6613268aJoin
namespace Go.Proofs.Qxb6613268a
open Go.RowKit

/-! ### The plain law: m joins in a row -/
def manyS (s : Int) (m : Nat) : Int := (s / 4294967296 + m) % 1073741824 * 4294967296 + (s % 4294967296 + m)
def manyH (s h : Int) (m : Nat) : Int := (h + (s / 4294967296 + m) / 1073741824) % 18446744073709551616

theorem manyS_zero (s : Int) (h0 : 0 ≤ s) (h1 : s < 4611686018427387904) : manyS s 0 = s := by unfold manyS; omega
theorem manyH_zero (s h : Int) (h0 : 0 ≤ s) (h1 : s < 4611686018427387904) (g0 : 0 ≤ h) (g1 : h < 18446744073709551616) : manyH s h 0 = h := by unfold manyH; omega
theorem manyS_bound (s : Int) (m : Nat) (hs : s % 4294967296 + m ≤ 4294967295) : 0 ≤ manyS s m ∧ manyS s m < 4611686018427387904 := by unfold manyS; omega
theorem manyH_bound (s h : Int) (m : Nat) : 0 ≤ manyH s h m ∧ manyH s h m < 18446744073709551616 := by unfold manyH; omega
theorem manyS_div (s : Int) (m : Nat) (hs : s % 4294967296 + m ≤ 4294967295) : manyS s m / 4294967296 = (s / 4294967296 + m) % 1073741824 := by unfold manyS; omega
theorem manyS_mod (s : Int) (m : Nat) (hs : s % 4294967296 + m ≤ 4294967295) : manyS s m % 4294967296 = s % 4294967296 + m := by unfold manyS; omega
theorem manyS_succ (s : Int) (m : Nat) (hs : s % 4294967296 + m < 4294967295) : nextS (manyS s m) = manyS s (m + 1) := by
  have e1 := manyS_div s m (by omega)
  have e2 := manyS_mod s m (by omega)
  unfold nextS
  rw [e1, e2]
  unfold manyS
  omega
theorem manyH_succ (s h : Int) (m : Nat) (hs : s % 4294967296 + m < 4294967295) : nextH (manyS s m) (manyH s h m) = manyH s h (m + 1) := by
  have e1 := manyS_div s m (by omega)
  unfold nextH
  rw [e1]
  unfold manyH
  omega

set_option maxHeartbeats 400000 in
theorem script_many (s h k : Int) (_h : 65536 < k) (w : World) : Calls Try.prog 8 #[.int .u64 s, .int .u64 h, .int .u32 k] w fun e w' => e = .returned (.bool true) ∧ Grown w w' := by
  go_enter Try.func8, Try.ntmps8
  go_wp2_with fail
  go_ret
  exact ⟨rfl, Grown.refl _⟩

set_option maxHeartbeats 1000000 in
theorem script_carry (s h k : Int) (_h : ¬ 65536 < k) (h0 : 0 ≤ s) (h1 : s < 9223372036854775808) (hs : 4611686018427387904 ≤ s) (w : World) :
    Calls Try.prog 8 #[.int .u64 s, .int .u64 h, .int .u32 k] w fun e w' => e = .returned (.bool true) ∧ Grown w w' := by
  have hst : (bits BinOp.and IntKind.u64 s 9223372036854775808 != 0) = false := by
    rw [and_stop s h0 (by omega), bne_eq_false_iff_eq]; omega
  have hca : (bits BinOp.and IntKind.u64 s 4611686018427387904 != 0) = true := by
    rw [and_carry s h0 (by omega), bne_iff_ne]; omega
  clear h0 h1 hs
  go_enter Try.func8, Try.ntmps8
  go_wp2_with fail
  go_ret
  exact ⟨rfl, Grown.refl _⟩

set_option maxHeartbeats 1000000 in
theorem script_full (s h k : Int) (k0 : 0 ≤ k) (_h : ¬ 65536 < k) (h0 : 0 ≤ s) (h1 : s < 4611686018427387904) (hs : 4294967295 < s % 4294967296 + k) (w : World) :
    Calls Try.prog 8 #[.int .u64 s, .int .u64 h, .int .u32 k] w fun e w' => e = .returned (.bool true) ∧ Grown w w' := by
  have hst : (bits BinOp.and IntKind.u64 s 9223372036854775808 != 0) = false := by
    rw [and_stop s h0 (by omega), bne_eq_false_iff_eq]; omega
  have hca : (bits BinOp.and IntKind.u64 s 4611686018427387904 != 0) = false := by
    rw [and_carry s h0 (by omega), bne_eq_false_iff_eq]; omega
  obtain ⟨P, hP⟩ : ∃ P, P = s % 4294967296 := ⟨_, rfl⟩
  have f1 : bits BinOp.and IntKind.u64 s 4294967295 = P := by rw [and_parked s h0 (by omega), hP]
  have p0 : 0 ≤ P := by omega
  have p1 : P < 4294967296 := by omega
  have hs' : 4294967295 < P + k := by omega
  clear h0 h1 hs hP
  go_enter Try.func8, Try.ntmps8
  go_wp2_with fail
  go_ret
  exact ⟨rfl, Grown.refl _⟩

set_option maxHeartbeats 2000000 in
theorem script_stopped (s h : Int) (k : Nat) (_h : ¬ (65536 : Int) < k) (h0 : 0 ≤ s) (h1 : s < 18446744073709551616) (hs : 9223372036854775808 ≤ s) (w : World) :
    Calls Try.prog 8 #[.int .u64 s, .int .u64 h, .int .u32 k] w fun e w' => e = .returned (.bool true) ∧ Grown w w' := by
  have hst : (bits BinOp.and IntKind.u64 s 9223372036854775808 != 0) = true := by
    rw [and_stop s h0 h1, bne_iff_ne]; omega
  have HJ : Hid (0 ≤ s ∧ s < 18446744073709551616 ∧ 9223372036854775808 ≤ s) := ⟨h0, h1, hs⟩
  clear h0 h1 hs
  go_enter Try.func8, Try.ntmps8
  go_wp2_with fail
  refine (newParking s h w).mono ?_
  rintro e w1 ⟨rfl, kk⟩
  go_wp2_with fail
  go_loopw [9] (fun i wr => ∃ m : Nat, m ≤ k ∧ i = .int .u32 m ∧ Pk w wr w.heap.size s h) (fun i _ => k - (intOf i).toNat)
  case atStart => exact ⟨0, Nat.zero_le _, rfl, kk⟩
  case round =>
    obtain ⟨m, hm, rfl, hst2⟩ := hrel
    clear kk
    by_cases hlt : m < k
    · have hlt' : (m : Int) < k := by omega
      go_wp2_with fail
      refine (join_st_stopped hst2 HJ.out.1 HJ.out.2.1 HJ.out.2.2).mono ?_
      rintro e w2 ⟨rfl, hw⟩
      subst hw
      go_wp2_with fail
      go_roundw
      case rel => exact ⟨m + 1, by omega, by go_num, hst2⟩
      case measure => simp [intOf]; omega
    · obtain rfl : m = k := by omega
      have hge : ¬ (m : Int) < m := by omega
      have c1 := hst2.c1
      have c2 := hst2.c2
      go_wp2_with fail
      refine (pState _ _ _ c1).mono ?_
      rintro e w' ⟨rfl, hw⟩
      subst hw
      go_wp2_with fail
      refine (pHigh _ _ _ c2).mono ?_
      rintro e w' ⟨rfl, hw⟩
      subst hw
      go_wp2_with fail
      go_ret
      exact ⟨rfl, hst2.grown⟩

set_option maxHeartbeats 2000000 in
theorem script_main (s h : Int) (k : Nat) (_h : ¬ (65536 : Int) < k) (h0 : 0 ≤ s) (h1 : s < 4611686018427387904) (hs : ¬ 4294967295 < s % 4294967296 + k) (g0 : 0 ≤ h) (g1 : h < 18446744073709551616) (w : World) :
    Calls Try.prog 8 #[.int .u64 s, .int .u64 h, .int .u32 k] w fun e w' => e = .returned (.bool true) ∧ Grown w w' := by
  have hst : (bits BinOp.and IntKind.u64 s 9223372036854775808 != 0) = false := by
    rw [and_stop s h0 (by omega), bne_eq_false_iff_eq]; omega
  have hca : (bits BinOp.and IntKind.u64 s 4611686018427387904 != 0) = false := by
    rw [and_carry s h0 (by omega), bne_eq_false_iff_eq]; omega
  obtain ⟨P, hP⟩ : ∃ P, P = s % 4294967296 := ⟨_, rfl⟩
  obtain ⟨C, hC⟩ : ∃ C, C = s / 4294967296 := ⟨_, rfl⟩
  obtain ⟨S2, hS2⟩ : ∃ x, x = manyS s k := ⟨_, rfl⟩
  obtain ⟨H2, hH2⟩ : ∃ x, x = manyH s h k := ⟨_, rfl⟩
  have f1 : bits BinOp.and IntKind.u64 s 4294967295 = P := by rw [and_parked s h0 (by omega), hP]
  have f2 : bits BinOp.and IntKind.u64 s 4611686014132420608 = C * 4294967296 := by rw [and_parks s h0 (by omega), hC]; omega
  have p0 : 0 ≤ P := by omega
  have p1 : P < 4294967296 := by omega
  have p2 : ¬ 4294967295 < P + k := by omega
  have k0 : 0 ≤ C := by omega
  have k1 : C < 1073741824 := by omega
  have f3 : bits BinOp.or IntKind.u64 ((C + k) % 1073741824 * 4294967296) (P + k) = S2 := by
    rw [or_halves _ _ (by omega) (by omega) (by omega) (by omega), hS2, hP, hC]; rfl
  have F4 : Hid ((H2 == IntKind.u64.wrap (h + (C + k) / 1073741824)) = true) := by
    show (H2 == IntKind.u64.wrap (h + (C + k) / 1073741824)) = true
    rw [IntKind.wrap_u64, hH2, hC, beq_iff_eq]; rfl
  have HJ : Hid (0 ≤ s ∧ s < 4611686018427387904 ∧ S2 = manyS s k ∧ H2 = manyH s h k ∧ s % 4294967296 + k ≤ 4294967295) := ⟨h0, h1, hS2, hH2, by omega⟩
  clear h0 h1 hs hP hC hS2 hH2
  go_enter Try.func8, Try.ntmps8
  go_wp2_with fail
  refine (newParking s h w).mono ?_
  rintro e w1 ⟨rfl, kk⟩
  go_wp2_with fail
  go_loopw [9] (fun i wr => ∃ m : Nat, m ≤ k ∧ i = .int .u32 m ∧ Pk w wr w.heap.size (manyS s m) (manyH s h m)) (fun i _ => k - (intOf i).toNat)
  case atStart => exact ⟨0, Nat.zero_le _, rfl, by rw [manyS_zero s HJ.out.1 HJ.out.2.1, manyH_zero s h HJ.out.1 HJ.out.2.1 g0 g1]; exact kk⟩
  case round =>
    obtain ⟨m, hm, rfl, hst2⟩ := hrel
    clear kk
    by_cases hlt : m < k
    · have hlt' : (m : Int) < k := by omega
      have HB : Hid (s % 4294967296 + m < 4294967295) := by
        have := HJ.out.2.2.2.2
        show s % 4294967296 + m < 4294967295
        omega
      go_wp2_with fail
      have hb := HB.out
      refine (join_st hst2 (manyS_bound s m (by omega)).1 (manyS_bound s m (by omega)).2 (manyH_bound s h m).1 (manyH_bound s h m).2).mono ?_
      rintro e w2 ⟨rfl, hst3⟩
      rw [manyS_succ s m hb, manyH_succ s h m hb] at hst3
      clear hst2 hb
      go_wp2_with fail
      go_roundw
      case rel => exact ⟨m + 1, by omega, by go_num, hst3⟩
      case measure => simp [intOf]; omega
    · obtain rfl : m = k := by omega
      have hge : ¬ (m : Int) < m := by omega
      have c1 := hst2.c1
      have c2 := hst2.c2
      rw [← HJ.out.2.2.1] at c1
      rw [← HJ.out.2.2.2.1] at c2
      go_wp2_with fail
      refine (pState _ _ _ c1).mono ?_
      rintro e w' ⟨rfl, hw⟩
      subst hw
      go_wp2_with fail
      refine (pHigh _ _ _ c2).mono ?_
      rintro e w' ⟨rfl, hw⟩
      subst hw
      go_wp2_with fail
      go_ret
      exact ⟨ret_yes F4.out, hst2.grown⟩

theorem script_walk (s h k : Int) (h0 : 0 ≤ s) (h1 : s < 18446744073709551616) (g0 : 0 ≤ h) (g1 : h < 18446744073709551616) (k0 : 0 ≤ k) (w : World) :
    Calls Try.prog 8 #[.int .u64 s, .int .u64 h, .int .u32 k] w fun e w' => e = .returned (.bool true) ∧ Grown w w' := by
  by_cases z : 65536 < k
  · exact script_many s h k z w
  by_cases a : 9223372036854775808 ≤ s
  · obtain ⟨k, rfl⟩ := Int.eq_ofNat_of_zero_le k0
    exact script_stopped s h k z h0 h1 a w
  by_cases b : 4611686018427387904 ≤ s
  · exact script_carry s h k z h0 (by omega) b w
  by_cases c : 4294967295 < s % 4294967296 + k
  · exact script_full s h k k0 z h0 (by omega) c w
  · obtain ⟨k, rfl⟩ := Int.eq_ofNat_of_zero_le k0
    exact script_main s h k z h0 (by omega) c g0 g1 w

end Go.Proofs.Qxb6613268a
