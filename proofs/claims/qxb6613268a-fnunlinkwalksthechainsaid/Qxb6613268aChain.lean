/-
  The walk of FnUnlinkWalksTheChain.
-/
import Derived.Test.Qxb6613268aUnlink
import Derived.Deep.QuietTactic
import Derived.BigQuiet
namespace Go.Proofs.Qxb6613268a
open Go.RowKit

set_option maxHeartbeats 400000 in
theorem chain_few (a t : Int) (hs : Bool) (_h : a < 1) (w : World) : Calls Try.prog 5 #[.int .i64 a, .int .i64 t, .bool hs] w fun e w' => e = .returned (.bool true) ∧ Grown w w' := by
  go_enter Try.func5, Try.ntmps5
  go_wp2_with fail
  go_ret
  exact ⟨rfl, Grown.refl _⟩

set_option maxHeartbeats 400000 in
theorem chain_many (a t : Int) (hs : Bool) (_h : 128 < a) (w : World) : Calls Try.prog 5 #[.int .i64 a, .int .i64 t, .bool hs] w fun e w' => e = .returned (.bool true) ∧ Grown w w' := by
  have _h1 : ¬ a < 1 := by omega
  go_enter Try.func5, Try.ntmps5
  go_wp2_with fail
  go_ret
  exact ⟨rfl, Grown.refl _⟩

set_option maxHeartbeats 400000 in
theorem chain_low (a t : Int) (hs : Bool) (_h1 : ¬ a < 1) (_h2 : ¬ 128 < a) (_h : t < 0) (w : World) : Calls Try.prog 5 #[.int .i64 a, .int .i64 t, .bool hs] w fun e w' => e = .returned (.bool true) ∧ Grown w w' := by
  go_enter Try.func5, Try.ntmps5
  go_wp2_with fail
  go_ret
  exact ⟨rfl, Grown.refl _⟩

set_option maxHeartbeats 400000 in
theorem chain_high (a t : Int) (hs : Bool) (_h1 : ¬ a < 1) (_h2 : ¬ 128 < a) (_h : 1024 < t) (w : World) : Calls Try.prog 5 #[.int .i64 a, .int .i64 t, .bool hs] w fun e w' => e = .returned (.bool true) ∧ Grown w w' := by
  have _h3 : ¬ t < 0 := by omega
  go_enter Try.func5, Try.ntmps5
  go_wp2_with fail
  go_ret
  exact ⟨rfl, Grown.refl _⟩

/-- The successors once the first m segments have been cut loose. -/
def nxCut (S : Nat → Nat) (n m j : Nat) : Option Addr := if j < m then none else nxS S n j
theorem nxCut_zero (S : Nat → Nat) (n : Nat) : nxCut S n 0 = nxS S n := by funext j; rw [nxCut, if_neg (by omega)]
theorem nxCut_cut (S : Nat → Nat) (n m : Nat) : cutAt (nxCut S n m) m = nxCut S n (m + 1) := by
  funext j
  unfold cutAt nxCut
  by_cases h : j = m
  · subst h; rw [if_pos rfl, if_pos (by omega)]
  · rw [if_neg h]
    by_cases h2 : j < m
    · rw [if_pos h2, if_pos (by omega)]
    · rw [if_neg h2, if_neg (by omega)]
theorem nxCut_at {S : Nat → Nat} {n m : Nat} (h : m + 1 < n) : nxCut S n m m = some ⟨S (m + 1), 0, none⟩ := by
  rw [nxCut, if_neg (by omega), nxS, if_pos h]
theorem nxCut_off {S : Nat → Nat} {n m : Nat} : nxCut S n (m + 1) m = none := by rw [nxCut, if_pos (by omega)]

/-- The spare ahead of the (m+1)-th unlink. -/
def spareAt (S : Nat → Nat) (X : Option Nat) (m : Nat) : Option Addr := if m = 0 then ptrOf X else some ⟨S (m - 1), 0, none⟩

/-- What holds ahead of the (m+1)-th round. -/
def Ahead (w wr : World) (B Q n : Nat) (S : Nat → Nat) (X : Option Nat) (t : Int) (m : Nat) : Prop :=
  Grown w wr ∧ (m < n → ∃ hd : Int, State w wr B Q n S X (some ⟨S m, 0, none⟩) (spareAt S X m) hd t (nxCut S n m))

theorem spareAt_succ (S : Nat → Nat) (X : Option Nat) (m : Nat) : spareAt S X (m + 1) = some ⟨S m, 0, none⟩ := by simp [spareAt]

theorem w64 (k : Int) (h0 : -1000 ≤ k) (h1 : k ≤ 1000) : IntKind.i64.wrap k = k := by rw [IntKind.wrap_i64]; omega

set_option maxRecDepth 100000 in
set_option maxHeartbeats 4000000 in
theorem chain_main (n : Nat) (t : Int) (hs : Bool) (h1 : 1 ≤ n) (h2 : n ≤ 128) (_t0 : ¬ t < 0) (_t1 : ¬ 1024 < t) (w : World) :
    Calls Try.prog 5 #[.int .i64 n, .int .i64 t, .bool hs] w fun e w' => e = .returned (.bool true) ∧ Grown w w' := by
  have _n1 : ¬ (n : Int) < 1 := by omega
  have _n2 : ¬ (128 : Int) < n := by omega
  go_enter Try.func5, Try.ntmps5
  go_wp2_with fail
  refine (build_walk n t hs h1 h2 w).mono ?_
  rintro e w1 ⟨B, Q, S, X, rfl, sh, st⟩
  go_wp2_with fail
  go_loopw [10] (fun i wr => ∃ m : Nat, m ≤ n ∧ i = .int .i64 ((m : Int) + 1) ∧ Ahead w wr B Q n S X t m) (fun i _ => n + 1 - (intOf i).toNat)
  case atStart => exact ⟨0, Nat.zero_le _, rfl, st.grown, fun _ => ⟨headOf n t, by rw [nxCut_zero]; exact st⟩⟩
  case round =>
    obtain ⟨m, hm, rfl, hg, hA⟩ := hrel
    clear st
    by_cases hlt : m < n
    · obtain ⟨hd, st⟩ := hA hlt
      clear hA
      have hle : (m : Int) + 1 ≤ n := by omega
      by_cases hmore : m + 1 < n
      · go_wp2_with fail
        refine (unlink_st_more hmore st sh).mono ?_
        rintro e w2 ⟨rfl, st2⟩
        rw [nxCut_cut, nxCut_at hmore] at st2
        clear st hg
        have hc2 := st2.c2
        have hc3 := st2.c3
        have hc4 := st2.c4
        have hml := st2.cr (j := n - 1) (by omega)
        go_wp2_with fail
        refine (qFirst Q _ _ hc2).mono ?_
        rintro e w' ⟨rfl, hw⟩
        subst hw
        go_wp2_with fail
        have q1 := fun W => same_seg_neq ⟨S (n - 1), 0, none⟩ W
        have i1 : (1 : Int) ≤ n := by omega
        have i2 : (0 : Int) ≤ (n : Int) - 1 := by omega
        have i3 : (n : Int) - 1 < n := by omega
        have i4 := w64 ((n : Int) - 1) (by omega) (by omega)
        go_quiet ((first | (go_at_call 14; exact Calls.quiet_of_same (qLast Q _ _ hc3)) | (go_at_call 15; exact Calls.quiet_of_same (qHead Q _ _ hc4))))
        have st3 := st2.drewN nq
        clear st2 hc2 hc3 hc4 hml q1 i2 i3 i4
        generalize w'.drewN nq = w3 at st3 ⊢
        have hc5 := st3.c5
        have hm1 := st3.cr (j := m + 1) (by omega)
        have q3 := fun W => same_seg_neq ⟨S (m + 1), 0, none⟩ W
        have i5 : (m : Int) + 1 < n := by omega
        go_wp2_with fail
        refine (qTail Q _ _ hc5).mono ?_
        rintro e w'' ⟨rfl, hw⟩
        subst hw
        go_wp2_with fail
        clear hc5 hm1 q3
        have hc6 := st3.c6
        have hm0 := st3.cr (j := m) (by omega)
        have hs0 := st3.cs (j := m) (by omega)
        rw [nxCut_off] at hs0
        have q2 := fun W => same_seg_neq ⟨S m, 0, none⟩ W
        have i6 : (m : Int) < n := by omega
        have i7 := w64 (m : Int) (by omega) (by omega)
        go_quiet ((first | (go_at_call 17; exact Calls.quiet_of_same (qSpare Q _ _ hc6)) | (go_at_call 18; exact Calls.quiet_of_same (segNext _ _ _ hs0))))
        have st4 := st3.drewN nq
        clear st3 hc6 hm0 hs0 q2 i7
        generalize w''.drewN nq = w4 at st4 ⊢
        by_cases htwo : m + 2 < n
        · have i8 : (m : Int) + 1 + 1 < n := by omega
          go_wp2_with fail
          have i9 := w64 ((m : Int) + 1 + 1) (by omega) (by omega)
          have q3 := fun W => same_seg_neq ⟨S (m + 1 + 1), 0, none⟩ W
          have hm1 := st4.cr (j := m + 1) (by omega)
          have hm2 := st4.cr (j := m + 1 + 1) (by omega)
          have hs1 := st4.cs (j := m + 1) (by omega)
          rw [nxCut_at htwo] at hs1
          go_quiet ((go_at_call 18; exact Calls.quiet_of_same (segNext _ _ _ hs1)))
          have st5 := st4.drewN nq
          clear st4 q3 hm1 hm2 hs1
          generalize w4.drewN nq = w5 at st5 ⊢
          have hc4 := st5.c4
          have hf4 := st5.fq 4
          go_wp2_with fail
          refine (setHead Q _ _ _ hc4 hf4).mono ?_
          rintro e w6 ⟨rfl, hw⟩
          have st6 := st5.setHead sh 1024
          rw [← hw, ← spareAt_succ S X m] at st6
          clear hw st5 hc4 hf4 i8 i9
          go_wp2_with fail
          go_roundw
          case rel => exact ⟨m + 1, by omega, by go_num, st6.grown, fun _ => ⟨_, st6⟩⟩
          case measure => simp [intOf]; omega
        · have i8 : ¬ (m : Int) + 1 + 1 < n := by omega
          have hc4 := st4.c4
          have hf4 := st4.fq 4
          go_wp2_with fail
          refine (setHead Q _ _ _ hc4 hf4).mono ?_
          rintro e w6 ⟨rfl, hw⟩
          have st6 := st4.setHead sh t
          rw [← hw, ← spareAt_succ S X m] at st6
          clear hw st4 hc4 hf4 i8
          go_wp2_with fail
          go_roundw
          case rel => exact ⟨m + 1, by omega, by go_num, st6.grown, fun _ => ⟨_, st6⟩⟩
          case measure => simp [intOf]; omega
      · obtain rfl : m = n - 1 := by omega
        have em : ((n - 1 : Nat) : Int) + 1 = (n : Int) := by omega
        rw [em]
        clear em hle hmore hlt
        have hle : (n : Int) ≤ n := by omega
        have hnlt : ¬ (n : Int) < n := by omega
        go_wp2_with fail
        refine (unlink_st_lone st sh).mono ?_
        rintro e w2 ⟨rfl, st2⟩
        clear st hg
        have hc2 := st2.c2
        have hc3 := st2.c3
        have hc4 := st2.c4
        have hml := st2.cr (j := n - 1) (by omega)
        go_wp2_with fail
        refine (qFirst Q _ _ hc2).mono ?_
        rintro e w' ⟨rfl, hw⟩
        subst hw
        go_wp2_with fail
        have q1 := fun W => same_seg_neq ⟨S (n - 1), 0, none⟩ W
        have i1 : (1 : Int) ≤ n := by omega
        have i2 : (0 : Int) ≤ (n : Int) - 1 := by omega
        have i3 : (n : Int) - 1 < n := by omega
        have i4 := w64 ((n : Int) - 1) (by omega) (by omega)
        go_quiet ((first | (go_at_call 14; exact Calls.quiet_of_same (qLast Q _ _ hc3)) | (go_at_call 15; exact Calls.quiet_of_same (qHead Q _ _ hc4))))
        have st3 := st2.drewN nq
        clear st2 hc2 hc3 hc4 hml i2 i3 i4
        generalize w'.drewN nq = w3 at st3 ⊢
        have hc5 := st3.c5
        have hc6 := st3.c6
        have hml := st3.cr (j := n - 1) (by omega)
        have hsl := st3.cs (j := n - 1) (by omega)
        rw [show nxCut S n (n - 1) (n - 1) = none from by rw [nxCut, if_neg (by omega), nxS, if_neg (by omega)]] at hsl
        by_cases hbig : (1 : Int) < n
        · rw [show spareAt S X (n - 1) = some ⟨S (n - 2), 0, none⟩ from by rw [spareAt, if_neg (by omega), show n - 1 - 1 = n - 2 from by omega]] at hc6
          have hm2 := st3.cr (j := n - 2) (by omega)
          have q2 := fun W => same_seg_neq ⟨S (n - 2), 0, none⟩ W
          go_wp2_with fail
          refine (qTail Q _ _ hc5).mono ?_
          rintro e w'' ⟨rfl, hw⟩
          subst hw
          go_wp2_with fail
          refine (qSpare Q _ _ hc6).mono ?_
          rintro e w4 ⟨rfl, hw⟩
          subst hw
          go_wp2_with fail
          refine (segNext _ _ _ hsl).mono ?_
          rintro e w5 ⟨rfl, hw⟩
          subst hw
          go_wp2_with fail
          go_roundw
          case rel => exact ⟨n, Nat.le_refl _, by go_num, st3.grown, fun h => absurd h (by omega)⟩
          case measure => simp [intOf]
        · rw [show spareAt S X (n - 1) = ptrOf X from by rw [spareAt, if_pos (by omega)]] at hc6
          have q2 : ∀ W, (binOp .neq 28 (.pointer (ptrOf X)) (.pointer (ptrOf X))).run Try.prog W = .ok (.bool false) W := by
            intro W
            rcases X with _ | x
            · have h := run_neq_pointer_nil (P := Try.prog) W 28 none (by kernel_rfl)
              exact h
            · exact same_seg_neq ⟨x, 0, none⟩ W
          go_wp2_with fail
          refine (qTail Q _ _ hc5).mono ?_
          rintro e w'' ⟨rfl, hw⟩
          subst hw
          go_wp2_with fail
          refine (qSpare Q _ _ hc6).mono ?_
          rintro e w4 ⟨rfl, hw⟩
          subst hw
          go_wp2_with fail
          refine (segNext _ _ _ hsl).mono ?_
          rintro e w5 ⟨rfl, hw⟩
          subst hw
          go_wp2_with fail
          go_roundw
          case rel => exact ⟨n, Nat.le_refl _, by go_num, st3.grown, fun h => absurd h (by omega)⟩
          case measure => simp [intOf]
    · obtain rfl : m = n := by omega
      have hno : ¬ (m : Int) + 1 ≤ m := by omega
      go_wp2_with fail
      go_ret
      exact ⟨rfl, hg⟩

theorem chain_walk (a t : Int) (hs : Bool) (w : World) : Calls Try.prog 5 #[.int .i64 a, .int .i64 t, .bool hs] w fun e w' => e = .returned (.bool true) ∧ Grown w w' := by
  by_cases h1 : a < 1
  · exact chain_few a t hs h1 w
  by_cases h2 : 128 < a
  · exact chain_many a t hs h2 w
  by_cases h3 : t < 0
  · exact chain_low a t hs h1 h2 h3 w
  by_cases h4 : 1024 < t
  · exact chain_high a t hs h1 h2 h4 w
  obtain ⟨n, rfl⟩ := Int.eq_ofNat_of_zero_le (show 0 ≤ a by omega)
  exact chain_main n t hs (by omega) (by omega) h3 h4 w

end Go.Proofs.Qxb6613268a
