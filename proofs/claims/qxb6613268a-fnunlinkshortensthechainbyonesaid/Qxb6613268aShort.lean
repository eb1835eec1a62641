/-
  The walk of FnUnlinkShortensTheChainByOne.
-/
import Derived.Test.Qxb6613268aUnlink
namespace Go.Proofs.Qxb6613268a
open Go.RowKit

theorem i64_of_wf {x : Int} (h : (Lit.int .i64 x).wf = true) : -9223372036854775808 ≤ x ∧ x ≤ 9223372036854775807 := by
  simp [Lit.wf, IntKind.min, IntKind.max, IntKind.signed, IntKind.bits] at h
  exact ⟨by omega, by omega⟩

set_option maxHeartbeats 400000 in
theorem short_few (a t : Int) (hs : Bool) (_h : a < 1) (w : World) : Calls Try.prog 6 #[.int .i64 a, .int .i64 t, .bool hs] w fun e w' => e = .returned (.bool true) ∧ Grown w w' := by
  go_enter Try.func6, Try.ntmps6
  go_wp2_with fail
  go_ret
  exact ⟨rfl, Grown.refl _⟩

set_option maxHeartbeats 400000 in
theorem short_many (a t : Int) (hs : Bool) (_h : 128 < a) (w : World) : Calls Try.prog 6 #[.int .i64 a, .int .i64 t, .bool hs] w fun e w' => e = .returned (.bool true) ∧ Grown w w' := by
  have _h1 : ¬ a < 1 := by omega
  go_enter Try.func6, Try.ntmps6
  go_wp2_with fail
  go_ret
  exact ⟨rfl, Grown.refl _⟩

set_option maxHeartbeats 400000 in
theorem short_low (a t : Int) (hs : Bool) (_h1 : ¬ a < 1) (_h2 : ¬ 128 < a) (_h : t < 0) (w : World) : Calls Try.prog 6 #[.int .i64 a, .int .i64 t, .bool hs] w fun e w' => e = .returned (.bool true) ∧ Grown w w' := by
  go_enter Try.func6, Try.ntmps6
  go_wp2_with fail
  go_ret
  exact ⟨rfl, Grown.refl _⟩

set_option maxHeartbeats 400000 in
theorem short_high (a t : Int) (hs : Bool) (_h1 : ¬ a < 1) (_h2 : ¬ 128 < a) (_h : 1024 < t) (w : World) : Calls Try.prog 6 #[.int .i64 a, .int .i64 t, .bool hs] w fun e w' => e = .returned (.bool true) ∧ Grown w w' := by
  have _h3 : ¬ t < 0 := by omega
  go_enter Try.func6, Try.ntmps6
  go_wp2_with fail
  go_ret
  exact ⟨rfl, Grown.refl _⟩

def curOf (S : Nat → Nat) (n k : Nat) : Option Addr := if k < n then some ⟨S k, 0, none⟩ else none
def lastOf (S : Nat → Nat) (m : Nat) : Option Addr := if m = 0 then none else some ⟨S m, 0, none⟩

set_option maxHeartbeats 2000000 in
/-- More than one segment. -/
theorem short_more (n : Nat) (t : Int) (hs : Bool) (h1 : 2 ≤ n) (h2 : n ≤ 128) (_t0 : ¬ t < 0) (_t1 : ¬ 1024 < t) (w : World) :
    Calls Try.prog 6 #[.int .i64 n, .int .i64 t, .bool hs] w fun e w' => e = .returned (.bool true) ∧ Grown w w' := by
  have _n1 : ¬ (n : Int) < 1 := by omega
  have _n2 : ¬ (128 : Int) < n := by omega
  go_enter Try.func6, Try.ntmps6
  go_wp2_with fail
  refine (build_walk n t hs (by omega) h2 w).mono ?_
  rintro e w1 ⟨B, Q, S, X, rfl, sh, st⟩
  go_wp2_with fail
  refine (unlink_st_more (k := 0) (by omega) st sh).mono ?_
  rintro e w2 ⟨rfl, st2⟩
  clear st
  have hnx : nxS S n 0 = some ⟨S 1, 0, none⟩ := if_pos (by omega)
  rw [hnx] at st2
  clear hnx
  go_wp2_with fail
  refine (qSpare Q _ _ st2.c6).mono ?_
  rintro e w' ⟨rfl, rfl⟩
  go_wp2_with fail
  refine (qFirst Q _ _ st2.c2).mono ?_
  rintro e w' ⟨rfl, rfl⟩
  go_wp2_with fail
  go_loop [11, 12, 13] (fun c l cur => ∃ m : Nat, m + 1 ≤ n ∧ c = .int .i64 m ∧ l = .pointer (lastOf S m) ∧ cur = .pointer (curOf S n (m + 1))) (fun c _ _ => n - (intOf c).toNat)
  case atStart => exact ⟨0, by omega, rfl, rfl, by rw [curOf, if_pos (by omega)]⟩
  case round =>
    obtain ⟨m, hm, rfl, rfl, rfl⟩ := hrel
    by_cases hlt : m + 1 < n
    · rw [show curOf S n (m + 1) = some ⟨S (m + 1), 0, none⟩ from if_pos hlt]
      have hne := st2.other sh (i := m + 1) (j := 0) hlt (by omega) (by omega)
      have hle : (m : Int) ≤ n := by omega
      have hcs := st2.cs (j := m + 1) hlt
      have HN : Hid (cutAt (nxS S n) 0 (m + 1) = curOf S n (m + 1 + 1)) := by
        show cutAt (nxS S n) 0 (m + 1) = curOf S n (m + 1 + 1)
        rw [cutAt, if_neg (by omega)]; rfl
      rw [HN.out] at hcs
      have HC : Hid (w'.cell? ⟨S (m + 1), 1024, none⟩ = some (.pointer (curOf S n (m + 1 + 1)))) := hcs
      clear hcs HN
      go_wp2_with fail
      refine (segNext _ _ _ HC.out).mono ?_
      rintro e w'' ⟨rfl, rfl⟩
      go_wp2_with fail
      go_round
      case rel => exact ⟨m + 1, by omega, by go_num, rfl, rfl⟩
      case measure => simp [intOf]; omega
    · obtain rfl : m = n - 1 := by omega
      have em : ((n - 1 : Nat) : Int) = (n : Int) - 1 := by omega
      rw [em, show curOf S n (n - 1 + 1) = none from if_neg hlt, show lastOf S (n - 1) = some ⟨S (n - 1), 0, none⟩ from if_neg (by omega)]
      have hw1 : ¬ (n : Int) - 1 < 1 := by omega
      have hn1 : ((n : Int) == 1) = false := beq_eq_false_iff_ne.2 (by omega)
      have hsame := same_seg_neq ⟨S (n - 1), 0, none⟩ w'
      have hsame0 := same_seg ⟨S 0, 0, none⟩ w'
      have hc0 := st2.cr (j := 0) (by omega)
      have hcs := st2.cs (j := 0) (by omega)
      have hc3 := st2.c3
      rw [show cutAt (nxS S n) 0 0 = none from if_pos rfl] at hcs
      clear hm hlt em
      have hi : (0 : Int) < n := by omega
      go_wp2_with fail
      refine (qLast Q _ _ hc3).mono ?_
      rintro e w'' ⟨rfl, rfl⟩
      go_wp2_with fail
      refine (segNext _ _ _ hcs).mono ?_
      rintro e w'' ⟨rfl, rfl⟩
      go_wp2_with fail
      go_ret
      exact ⟨rfl, st2.grown⟩

theorem build_one (t : Int) (hs : Bool) (w : World) :
    Calls Try.prog 11 #[.int .i64 1, .int .i64 t, .bool hs] w fun e w' => ∃ (B Q : Nat) (S : Nat → Nat) (X : Option Nat),
      e = .returned (.tuple #[.slice (some ⟨B, 0, none⟩) 1 1, .pointer (ptrOf X), .pointer (some ⟨Q, 0, none⟩)]) ∧ Built w w' 1 t B Q S X := by
  have hb := build_walk 1 t hs (by omega) (by omega) w
  rw [show ((1 : Nat) : Int) = 1 from rfl] at hb
  exact hb

set_option maxHeartbeats 2000000 in
/-- One segment. -/
theorem short_one (t : Int) (hs : Bool) (_t0 : ¬ t < 0) (_t1 : ¬ 1024 < t) (w : World) :
    Calls Try.prog 6 #[.int .i64 1, .int .i64 t, .bool hs] w fun e w' => e = .returned (.bool true) ∧ Grown w w' := by
  go_enter Try.func6, Try.ntmps6
  go_wp2_with fail
  refine (build_one t hs w).mono ?_
  rintro e w1 ⟨B, Q, S, X, rfl, sh, st⟩
  go_wp2_with fail
  refine (unlink_st_lone st sh).mono ?_
  rintro e w2 ⟨rfl, st2⟩
  clear st
  have hc2 : w2.cell? ⟨Q, 2, none⟩ = some (.pointer (some ⟨S 0, 0, none⟩)) := st2.c2
  have hc3 : w2.cell? ⟨Q, 3, none⟩ = some (.pointer (some ⟨S 0, 0, none⟩)) := st2.c3
  have hc6 := st2.c6
  have hcs : w2.cell? ⟨S 0, 1024, none⟩ = some (.pointer none) := st2.cs (j := 0) (by omega)
  have hsame := same_seg_neq ⟨S 0, 0, none⟩ w2
  rcases X with _ | x
  · rw [show ptrOf none = none from rfl] at hc6
    rw [show ptrOf none = none from rfl]
    go_wp2_with fail
    refine (qSpare Q _ _ hc6).mono ?_
    rintro e w' ⟨rfl, hw⟩
    subst hw
    go_wp2_with fail
    refine (qFirst Q _ _ hc2).mono ?_
    rintro e w'' ⟨rfl, hw⟩
    subst hw
    go_wp2_with fail
    go_loop [11, 12, 13] (fun c l cur => (c = .int .i64 0 ∧ l = .pointer none ∧ cur = .pointer (some ⟨S 0, 0, none⟩)) ∨ (c = .int .i64 1 ∧ l = .pointer (some ⟨S 0, 0, none⟩) ∧ cur = .pointer none)) (fun c _ _ => 1 - (intOf c).toNat)
    case atStart => exact Or.inl ⟨rfl, rfl, rfl⟩
    case round =>
      rcases hrel with ⟨rfl, rfl, rfl⟩ | ⟨rfl, rfl, rfl⟩
      · go_wp2_with fail
        refine (segNext _ _ _ hcs).mono ?_
        rintro e w'' ⟨rfl, hw⟩
        subst hw
        go_wp2_with fail
        go_round
        case rel => exact Or.inr ⟨rfl, rfl, rfl⟩
        case measure => simp [intOf]
      · go_wp2_with fail
        refine (qLast Q _ _ hc3).mono ?_
        rintro e w'' ⟨rfl, hw⟩
        subst hw
        go_wp2_with fail
        go_ret
        exact ⟨rfl, st2.grown⟩
  · rw [show ptrOf (some x) = some ⟨x, 0, none⟩ from rfl] at hc6
    rw [show ptrOf (some x) = some ⟨x, 0, none⟩ from rfl]
    have hne := st2.notX sh (i := 0) (by omega) rfl
    have hsx := same_seg ⟨x, 0, none⟩ w2
    go_wp2_with fail
    refine (qSpare Q _ _ hc6).mono ?_
    rintro e w' ⟨rfl, hw⟩
    subst hw
    go_wp2_with fail
    refine (qFirst Q _ _ hc2).mono ?_
    rintro e w'' ⟨rfl, hw⟩
    subst hw
    go_wp2_with fail
    go_loop [11, 12, 13] (fun c l cur => (c = .int .i64 0 ∧ l = .pointer none ∧ cur = .pointer (some ⟨S 0, 0, none⟩)) ∨ (c = .int .i64 1 ∧ l = .pointer (some ⟨S 0, 0, none⟩) ∧ cur = .pointer none)) (fun c _ _ => 1 - (intOf c).toNat)
    case atStart => exact Or.inl ⟨rfl, rfl, rfl⟩
    case round =>
      rcases hrel with ⟨rfl, rfl, rfl⟩ | ⟨rfl, rfl, rfl⟩
      · go_wp2_with fail
        refine (segNext _ _ _ hcs).mono ?_
        rintro e w'' ⟨rfl, hw⟩
        subst hw
        go_wp2_with fail
        go_round
        case rel => exact Or.inr ⟨rfl, rfl, rfl⟩
        case measure => simp [intOf]
      · go_wp2_with fail
        refine (qLast Q _ _ hc3).mono ?_
        rintro e w'' ⟨rfl, hw⟩
        subst hw
        go_wp2_with fail
        go_ret
        exact ⟨rfl, st2.grown⟩

theorem short_walk (a t : Int) (hs : Bool) (w : World) : Calls Try.prog 6 #[.int .i64 a, .int .i64 t, .bool hs] w fun e w' => e = .returned (.bool true) ∧ Grown w w' := by
  by_cases h1 : a < 1
  · exact short_few a t hs h1 w
  by_cases h2 : 128 < a
  · exact short_many a t hs h2 w
  by_cases h3 : t < 0
  · exact short_low a t hs h1 h2 h3 w
  by_cases h4 : 1024 < t
  · exact short_high a t hs h1 h2 h4 w
  by_cases h5 : a = 1
  · subst h5; exact short_one t hs h3 h4 w
  · obtain ⟨n, rfl⟩ := Int.eq_ofNat_of_zero_le (show 0 ≤ a by omega)
    exact short_more n t hs (by omega) (by omega) h3 h4 w

end Go.Proofs.Qxb6613268a
