/-
  The walks of packState and ZZpackState: the packed word is lag * 2^32 + head.
-/
import Derived.Test.Qxb6613268aRows
import Derived.WalkKit
import Derived.WalkSpells
import Derived.WalkLawsBesides
namespace Go.Proofs.Qxb6613268a
open Go.RowKit

theorem u32_of_wf {x : Int} (h : (Lit.int .u32 x).wf = true) : 0 ≤ x ∧ x < 4294967296 := by
  simp [Lit.wf, IntKind.min, IntKind.max, IntKind.signed, IntKind.bits] at h
  exact ⟨by omega, by omega⟩

theorem or_pack (a b : Int) (a0 : 0 ≤ a) (a1 : a < 4294967296) (b0 : 0 ≤ b) (b1 : b < 4294967296) :
    bits BinOp.or IntKind.u64 (a * 4294967296) b = a * 4294967296 + b := by
  rw [u64_or _ _ (by omega) (by omega) b0 (by omega)]
  rw [nat_join 32 _ _ (by omega) (by omega)]
  omega

set_option maxHeartbeats 400000 in
theorem pack29 (a b : Int) (a0 : 0 ≤ a) (a1 : a < 4294967296) (b0 : 0 ≤ b) (b1 : b < 4294967296) (w : World) :
    Calls Try.prog 29 #[.int .u32 a, .int .u32 b] w fun e w' => e = .returned (.int .u64 (a * 4294967296 + b)) ∧ w' = w := by
  have hor := or_pack a b a0 a1 b0 b1
  go_enter Try.func29, Try.ntmps29
  go_wp2
  go_ret
  exact ⟨rfl, rfl⟩

set_option maxHeartbeats 400000 in
theorem pack10 (a b : Int) (a0 : 0 ≤ a) (a1 : a < 4294967296) (b0 : 0 ≤ b) (b1 : b < 4294967296) (w : World) :
    Calls Try.prog 10 #[.int .u32 a, .int .u32 b] w fun e w' => e = .returned (.int .u64 (a * 4294967296 + b)) ∧ w' = w := by
  go_enter Try.func10, Try.ntmps10
  go_wp2_with (go_at_call 29; refine (pack29 a b a0 a1 b0 b1 _).mono ?_; rintro e w' ⟨rfl, rfl⟩)
  go_ret
  exact ⟨rfl, rfl⟩

/-! ### The plain law, no Go in sight -/
theorem ret_true {b : Bool} (h : b = true) : Ending.returned (.bool b) = .returned (.bool true) := by rw [h]

theorem same_lag (a b c : Int) : ((a * 4294967296 + b == a * 4294967296 + c) == (b == c)) = true := by
  by_cases h : b = c
  · subst h; simp
  · have h2 : ¬ (a * 4294967296 + b = a * 4294967296 + c) := by omega
    rw [beq_eq_false_iff_ne.2 h, beq_eq_false_iff_ne.2 h2]; rfl

theorem other_lag (a b c d : Int) (b0 : 0 ≤ b) (b1 : b < 4294967296) (d0 : 0 ≤ d) (d1 : d < 4294967296) (h : ¬ a = c) :
    (!(a * 4294967296 + b == c * 4294967296 + d)) = true := by
  have h2 : ¬ (a * 4294967296 + b = c * 4294967296 + d) := by omega
  rw [beq_eq_false_iff_ne.2 h2]; rfl

theorem dec_iff {p q : Prop} [Decidable p] [Decidable q] (h : p ↔ q) : (decide p == decide q) = true := by
  by_cases hp : p
  · have hq := h.1 hp; simp [hp, hq]
  · have hq : ¬ q := fun x => hp (h.2 x)
    simp [hp, hq]

/-! ### The two laws' walks -/
set_option maxHeartbeats 1000000 in
theorem halves_walk (a0 a1 a2 a3 : Int) (a00 : 0 ≤ a0) (a01 : a0 < 4294967296) (a10 : 0 ≤ a1) (a11 : a1 < 4294967296)
    (a20 : 0 ≤ a2) (a21 : a2 < 4294967296) (a30 : 0 ≤ a3) (a31 : a3 < 4294967296) (w : World) :
    Calls Try.prog 3 #[.int .u32 a0, .int .u32 a1, .int .u32 a2, .int .u32 a3] w fun e w' => e = .returned (.bool true) ∧ Grown w w' := by
  go_enter Try.func3, Try.ntmps3
  go_wp2_with fail
  refine (pack10 a0 a1 a00 a01 a10 a11 _).mono ?_
  rintro e w' ⟨rfl, rfl⟩
  go_wp2_with fail
  refine (pack10 a2 a3 a20 a21 a30 a31 _).mono ?_
  rintro e w' ⟨rfl, rfl⟩
  go_wp2_with fail
  · go_ret
    exact ⟨ret_true (same_lag _ _ _), Grown.refl _⟩
  · go_ret
    exact ⟨ret_true (other_lag _ _ _ _ a10 a11 a30 a31 ‹_›), Grown.refl _⟩

set_option maxHeartbeats 1000000 in
theorem order_below (a0 a1 a2 a3 : Int) (a00 : 0 ≤ a0) (a01 : a0 < 4294967296) (a10 : 0 ≤ a1) (a11 : a1 < 4294967296)
    (a20 : 0 ≤ a2) (a21 : a2 < 4294967296) (a30 : 0 ≤ a3) (a31 : a3 < 4294967296) (h : a0 < a2) (w : World) :
    Calls Try.prog 4 #[.int .u32 a0, .int .u32 a1, .int .u32 a2, .int .u32 a3] w fun e w' => e = .returned (.bool true) ∧ Grown w w' := by
  go_enter Try.func4, Try.ntmps4
  go_wp2_with fail
  refine (pack10 a0 a1 a00 a01 a10 a11 _).mono ?_
  rintro e w' ⟨rfl, rfl⟩
  go_wp2_with fail
  refine (pack10 a2 a3 a20 a21 a30 a31 _).mono ?_
  rintro e w' ⟨rfl, rfl⟩
  go_wp2_with fail
  go_ret
  exact ⟨ret_true (dec_iff (by omega)), Grown.refl _⟩

set_option maxHeartbeats 1000000 in
theorem order_above (a0 a1 a2 a3 : Int) (a00 : 0 ≤ a0) (a01 : a0 < 4294967296) (a10 : 0 ≤ a1) (a11 : a1 < 4294967296)
    (a20 : 0 ≤ a2) (a21 : a2 < 4294967296) (a30 : 0 ≤ a3) (a31 : a3 < 4294967296) (h : a2 < a0) (w : World) :
    Calls Try.prog 4 #[.int .u32 a0, .int .u32 a1, .int .u32 a2, .int .u32 a3] w fun e w' => e = .returned (.bool true) ∧ Grown w w' := by
  go_enter Try.func4, Try.ntmps4
  go_wp2_with fail
  refine (pack10 a0 a1 a00 a01 a10 a11 _).mono ?_
  rintro e w' ⟨rfl, rfl⟩
  go_wp2_with fail
  refine (pack10 a2 a3 a20 a21 a30 a31 _).mono ?_
  rintro e w' ⟨rfl, rfl⟩
  go_wp2_with fail
  go_ret
  exact ⟨ret_true (decide_eq_true (by omega)), Grown.refl _⟩

set_option maxHeartbeats 1000000 in
theorem order_same_below (a0 a1 a3 : Int) (a00 : 0 ≤ a0) (a01 : a0 < 4294967296) (a10 : 0 ≤ a1) (a11 : a1 < 4294967296)
    (a30 : 0 ≤ a3) (a31 : a3 < 4294967296) (_h : a1 < a3) (w : World) :
    Calls Try.prog 4 #[.int .u32 a0, .int .u32 a1, .int .u32 a0, .int .u32 a3] w fun e w' => e = .returned (.bool true) ∧ Grown w w' := by
  go_enter Try.func4, Try.ntmps4
  go_wp2_with fail
  refine (pack10 a0 a1 a00 a01 a10 a11 _).mono ?_
  rintro e w' ⟨rfl, rfl⟩
  go_wp2_with fail
  refine (pack10 a0 a3 a00 a01 a30 a31 _).mono ?_
  rintro e w' ⟨rfl, rfl⟩
  go_wp2_with fail
  go_ret
  exact ⟨rfl, Grown.refl _⟩

set_option maxHeartbeats 1000000 in
theorem order_same_not (a0 a1 a3 : Int) (a00 : 0 ≤ a0) (a01 : a0 < 4294967296) (a10 : 0 ≤ a1) (a11 : a1 < 4294967296)
    (a30 : 0 ≤ a3) (a31 : a3 < 4294967296) (_h : ¬ a1 < a3) (w : World) :
    Calls Try.prog 4 #[.int .u32 a0, .int .u32 a1, .int .u32 a0, .int .u32 a3] w fun e w' => e = .returned (.bool true) ∧ Grown w w' := by
  go_enter Try.func4, Try.ntmps4
  go_wp2_with fail
  refine (pack10 a0 a1 a00 a01 a10 a11 _).mono ?_
  rintro e w' ⟨rfl, rfl⟩
  go_wp2_with fail
  refine (pack10 a0 a3 a00 a01 a30 a31 _).mono ?_
  rintro e w' ⟨rfl, rfl⟩
  go_wp2_with fail
  go_ret
  exact ⟨rfl, Grown.refl _⟩

theorem order_walk (a0 a1 a2 a3 : Int) (a00 : 0 ≤ a0) (a01 : a0 < 4294967296) (a10 : 0 ≤ a1) (a11 : a1 < 4294967296)
    (a20 : 0 ≤ a2) (a21 : a2 < 4294967296) (a30 : 0 ≤ a3) (a31 : a3 < 4294967296) (w : World) :
    Calls Try.prog 4 #[.int .u32 a0, .int .u32 a1, .int .u32 a2, .int .u32 a3] w fun e w' => e = .returned (.bool true) ∧ Grown w w' := by
  by_cases h1 : a0 < a2
  · exact order_below a0 a1 a2 a3 a00 a01 a10 a11 a20 a21 a30 a31 h1 w
  by_cases h2 : a2 < a0
  · exact order_above a0 a1 a2 a3 a00 a01 a10 a11 a20 a21 a30 a31 h2 w
  obtain rfl : a0 = a2 := by omega
  by_cases h3 : a1 < a3
  · exact order_same_below a0 a1 a3 a00 a01 a10 a11 a30 a31 h3 w
  · exact order_same_not a0 a1 a3 a00 a01 a10 a11 a30 a31 h3 w

end Go.Proofs.Qxb6613268a
