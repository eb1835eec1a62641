/-
  join over a parking of the shim's make; the walk of FnJoinCountsOneParkAndCarries.
-/
import Derived.Test.Qxb6613268aPark
namespace Go.Proofs.Qxb6613268a
open Go.RowKit

theorem ret_yes {b : Bool} (h : b = true) : Ending.returned (.bool b) = .returned (.bool true) := by rw [h]
theorem u64_of_wf {x : Int} (h : (Lit.int .u64 x).wf = true) : 0 ≤ x ∧ x < 18446744073709551616 := by
  simp [Lit.wf, IntKind.min, IntKind.max, IntKind.signed, IntKind.bits] at h
  exact ⟨by omega, by omega⟩

/-- What the parking's block holds. -/
structure Pk (w w' : World) (b : Nat) (s h : Int) : Prop where
  grown : Grown w w'
  bb : w.heap.size ≤ b
  held : ∃ cs : Array Value, w'.heap[b]? = some (.cells cs 74) ∧ cs[1]? = some (.int .u64 s) ∧ cs[2]? = some (.int .u64 h)

section
variable {w w1 : World} {b : Nat} {s h : Int}
theorem Pk.c1 (k : Pk w w1 b s h) : w1.cell? ⟨b, 1, none⟩ = some (.int .u64 s) := by
  obtain ⟨cs, h1, h2, h3⟩ := k.held
  rw [cell_of_row _ _ _ _ _ _ h1]; exact h2
theorem Pk.c2 (k : Pk w w1 b s h) : w1.cell? ⟨b, 2, none⟩ = some (.int .u64 h) := by
  obtain ⟨cs, h1, h2, h3⟩ := k.held
  rw [cell_of_row _ _ _ _ _ _ h1]; exact h3
theorem Pk.fz (k : Pk w w1 b s h) (i : Nat) : w1.frozen? ⟨b, i, none⟩ = false := by
  obtain ⟨cs, h1, h2, h3⟩ := k.held
  simp [World.frozen?, h1]
theorem Pk.set1 (k : Pk w w1 b s h) (s' : Int) : Pk w (w1.setCell ⟨b, 1, none⟩ (.int .u64 s')) b s' h := by
  obtain ⟨hg, hb, cs, h1, h2, h3⟩ := k
  exact ⟨hg.setCell hb _, hb, _, wset_same _ h1, at_same _ h2, (at_other _ (by decide)).trans h3⟩
theorem Pk.set2 (k : Pk w w1 b s h) (h' : Int) : Pk w (w1.setCell ⟨b, 2, none⟩ (.int .u64 h')) b s h' := by
  obtain ⟨hg, hb, cs, h1, h2, h3⟩ := k
  exact ⟨hg.setCell hb _, hb, _, wset_same _ h1, (at_other _ (by decide)).trans h2, at_same _ h3⟩
end

set_option maxHeartbeats 400000 in
/-- ZZnewParking. -/
theorem newParking (s h : Int) (w : World) :
    Calls Try.prog 20 #[.int .u64 s, .int .u64 h] w fun e w' => e = .returned (.pointer (some ⟨w.heap.size, 0, none⟩)) ∧ Pk w w' w.heap.size s h := by
  go_enter Try.func20, Try.ntmps20
  go_wp2_with fail
  refine (astore _ _ _ (.int .u64 0) _ ?_ ?_).mono ?_
  · rw [World.cell?_alloc_new]; rfl
  · exact World.frozen?_alloc_at _ _ _ _ rfl
  rintro e w' ⟨rfl, rfl⟩
  go_wp2_with fail
  refine (astore _ _ _ (.int .u64 0) _ ?_ ?_).mono ?_
  · rw [World.cell?_alloc_new]; rfl
  · exact World.frozen?_alloc_at _ _ _ _ rfl
  rintro e w' ⟨rfl, rfl⟩
  go_wp2_with fail
  go_ret
  exact ⟨rfl, (Grown.refl _).alloc _ _, Nat.le_refl _, #[.chan none, .int .u64 s, .int .u64 h, .int .i32 0, .slice none 0 0], by show (w.heap.push _)[w.heap.size]? = _; simp, rfl, rfl⟩

set_option maxHeartbeats 400000 in
theorem pState (b : Nat) (x : Int) (w : World) (h : w.cell? ⟨b, 1, none⟩ = some (.int .u64 x)) :
    Calls Try.prog 22 #[.pointer (some ⟨b, 0, none⟩)] w fun e w' => e = .returned (.int .u64 x) ∧ w' = w := by
  go_enter Try.func22, Try.ntmps22
  go_wp2_with fail
  refine (aload _ _ _ _ h).mono ?_
  rintro e w' ⟨rfl, rfl⟩
  go_wp2_with fail
  go_ret
  exact ⟨rfl, rfl⟩

set_option maxHeartbeats 400000 in
theorem pHigh (b : Nat) (x : Int) (w : World) (h : w.cell? ⟨b, 2, none⟩ = some (.int .u64 x)) :
    Calls Try.prog 23 #[.pointer (some ⟨b, 0, none⟩)] w fun e w' => e = .returned (.int .u64 x) ∧ w' = w := by
  go_enter Try.func23, Try.ntmps23
  go_wp2_with fail
  refine (aload _ _ _ _ h).mono ?_
  rintro e w' ⟨rfl, rfl⟩
  go_wp2_with fail
  go_ret
  exact ⟨rfl, rfl⟩

set_option maxHeartbeats 400000 in
/-- ZZjoin hands join's answer on. -/
theorem join21 (b : Nat) (v : Bool) (w w1 : World) (hc : Calls Try.prog 34 #[.pointer (some ⟨b, 0, none⟩)] w fun e w' => e = .returned (.bool v) ∧ w' = w1) :
    Calls Try.prog 21 #[.pointer (some ⟨b, 0, none⟩)] w fun e w' => e = .returned (.bool v) ∧ w' = w1 := by
  go_enter Try.func21, Try.ntmps21
  go_wp2_with fail
  refine hc.mono ?_
  rintro e w' ⟨rfl, rfl⟩
  go_wp2_with fail
  go_ret
  exact ⟨rfl, rfl⟩

/-- The state word behind a join; what is carried. -/
def nextS (s : Int) : Int := (s / 4294967296 + 1) % 1073741824 * 4294967296 + (s % 4294967296 + 1)
def nextH (s h : Int) : Int := (h + (s / 4294967296 + 1) / 1073741824) % 18446744073709551616

section
variable {w w1 : World} {b : Nat} {s h : Int}
theorem join_st_stopped (k : Pk w w1 b s h) (h0 : 0 ≤ s) (h1 : s < 18446744073709551616) (hs : 9223372036854775808 ≤ s) :
    Calls Try.prog 21 #[.pointer (some ⟨b, 0, none⟩)] w1 fun e w' => e = .returned (.bool false) ∧ w' = w1 :=
  join21 b false w1 w1 (join_stopped b s h0 h1 hs w1 k.c1)

theorem join_st (k : Pk w w1 b s h) (h0 : 0 ≤ s) (h1 : s < 4611686018427387904) (g0 : 0 ≤ h) (g1 : h < 18446744073709551616) :
    Calls Try.prog 21 #[.pointer (some ⟨b, 0, none⟩)] w1 fun e w' => e = .returned (.bool true) ∧ Pk w w' b (nextS s) (nextH s h) := by
  by_cases hp : s / 4294967296 < 1073741823
  · refine (join21 b true w1 _ (join_plain b s h0 h1 hp w1 k.c1 (k.fz 1))).mono ?_
    rintro e w' ⟨rfl, rfl⟩
    have e1 : nextS s = s + 4294967296 + 1 := by unfold nextS; omega
    have e2 : nextH s h = h := by unfold nextH; omega
    rw [e1, e2]
    exact ⟨rfl, k.set1 _⟩
  · refine (join21 b true w1 _ (join_wrap b s h h0 h1 (by omega) w1 k.c1 (k.fz 1) k.c2 (k.fz 2))).mono ?_
    rintro e w' ⟨rfl, rfl⟩
    have e1 : nextS s = s % 4294967296 + 1 := by unfold nextS; omega
    have e2 : nextH s h = (h + 1) % 18446744073709551616 := by unfold nextH; omega
    rw [e1, e2]
    exact ⟨rfl, ((k.set1 _).set2 _).set1 _⟩
end

end Go.Proofs.Qxb6613268a
