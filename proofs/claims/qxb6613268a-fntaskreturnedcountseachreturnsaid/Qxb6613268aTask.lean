/-
  The walk of FnTaskReturnedCountsEachReturn.
-/
import Derived.Test.Qxb6613268aWorker
namespace Go.Proofs.Qxb6613268a
open Go.RowKit

theorem task_more_mod (c : Int) (m : Nat) : ((c + m) % 18446744073709551616 + 1) % 18446744073709551616 = (c + ((m + 1 : Nat) : Int)) % 18446744073709551616 := by omega
theorem task_more_wrap (d : Int) (m : Nat) : wrap64 (wrap64 (d - m) - 1) = wrap64 (d - ((m + 1 : Nat) : Int)) := by unfold wrap64; omega

set_option maxHeartbeats 400000 in
theorem task_many (c d s k : Int) (_h : 65536 < k) (w : World) : Calls Try.prog 9 #[.int .u64 c, .int .i64 d, .int .u32 s, .int .u32 k] w fun e w' => e = .returned (.bool true) ∧ Grown w w' := by
  go_enter Try.func9, Try.ntmps9
  go_wp2_with fail
  go_ret
  exact ⟨rfl, Grown.refl _⟩

set_option maxHeartbeats 1000000 in
theorem task_few (c d s : Int) (k : Nat) (c0 : 0 ≤ c) (c1 : c < 18446744073709551616) (d0 : wrap64 d = d) (_h : ¬ (65536 : Int) < k) (w : World) :
    Calls Try.prog 9 #[.int .u64 c, .int .i64 d, .int .u32 s, .int .u32 k] w fun e w' => e = .returned (.bool true) ∧ Grown w w' := by
  have HD : Hid (wrap64 d = d) := d0
  clear d0
  go_enter Try.func9, Try.ntmps9
  go_wp2_with fail
  refine (newWorker c d s w).mono ?_
  rintro e w1 ⟨rfl, hk⟩
  go_wp2_with fail
  go_loopw [10] (fun i wr => ∃ m : Nat, m ≤ k ∧ i = .int .u32 m ∧ Wk w wr w.heap.size ((c + m) % 18446744073709551616) (wrap64 (d - m)) s) (fun i _ => k - (intOf i).toNat)
  case atStart =>
    refine ⟨0, Nat.zero_le _, rfl, ?_⟩
    rw [show (c + ((0 : Nat) : Int)) % 18446744073709551616 = c from by omega, show d - ((0 : Nat) : Int) = d from by omega, HD.out]
    exact hk
  case round =>
    obtain ⟨m, hm, rfl, hst⟩ := hrel
    clear hk
    by_cases hlt : m < k
    · have hlt' : (m : Int) < k := by omega
      go_wp2_with fail
      refine (returned_st hst).mono ?_
      rintro e w2 ⟨rfl, hst2⟩
      rw [task_more_mod, task_more_wrap] at hst2
      clear hst
      go_wp2_with fail
      go_roundw
      case rel => exact ⟨m + 1, by omega, by go_num, hst2⟩
      case measure => simp [intOf]; omega
    · obtain rfl : m = k := by omega
      have hge : ¬ (m : Int) < m := by omega
      have h3 := hst.c3
      have h0 := hst.c0
      have h1 := hst.c1
      go_wp2_with fail
      refine (wCompleted _ _ _ h3).mono ?_
      rintro e w' ⟨rfl, hw⟩
      subst hw
      go_wp2_with fail
      refine (wOwed _ _ _ h0).mono ?_
      rintro e w' ⟨rfl, hw⟩
      subst hw
      go_wp2_with fail
      refine (wStolen _ _ _ h1).mono ?_
      rintro e w' ⟨rfl, hw⟩
      subst hw
      go_wp2_with fail
      go_ret
      exact ⟨rfl, hst.grown⟩

theorem word64 {x : Int} (h : (Lit.int .u64 x).wf = true) : 0 ≤ x ∧ x < 18446744073709551616 := by
  simp [Lit.wf, IntKind.min, IntKind.max, IntKind.signed, IntKind.bits] at h
  exact ⟨by omega, by omega⟩
theorem word32 {x : Int} (h : (Lit.int .u32 x).wf = true) : 0 ≤ x ∧ x < 4294967296 := by
  simp [Lit.wf, IntKind.min, IntKind.max, IntKind.signed, IntKind.bits] at h
  exact ⟨by omega, by omega⟩
theorem int64 {x : Int} (h : (Lit.int .i64 x).wf = true) : wrap64 x = x := by
  simp [Lit.wf, IntKind.min, IntKind.max, IntKind.signed, IntKind.bits] at h
  unfold wrap64
  omega

theorem task_walk (a0 a1 a2 a3 : Int) (w0 : (Lit.int .u64 a0).wf = true) (w1 : (Lit.int .i64 a1).wf = true) (w3 : (Lit.int .u32 a3).wf = true) (w : World) :
    Calls Try.prog 9 #[.int .u64 a0, .int .i64 a1, .int .u32 a2, .int .u32 a3] w fun e w' => e = .returned (.bool true) ∧ Grown w w' := by
  by_cases h : 65536 < a3
  · exact task_many a0 a1 a2 a3 h w
  · obtain ⟨k, rfl⟩ := Int.eq_ofNat_of_zero_le (word32 w3).1
    exact task_few a0 a1 a2 k (word64 w0).1 (word64 w0).2 (int64 w1) h w

end Go.Proofs.Qxb6613268a
