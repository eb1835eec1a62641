/-
  The worker's counters: the leaves of the shim, taskReturned.
-/
import Derived.Test.Qxb6613268aRows
import Derived.WalkKit
import Derived.WalkSpells
import Derived.WalkLawsBesides
namespace Go.Proofs.Qxb6613268a
open Go.RowKit

/-! ### sync/atomic.Uint64 -/
set_option maxHeartbeats 400000 in
theorem aload (b o : Nat) (x : Int) (w : World) (h : w.cell? ⟨b, o, none⟩ = some (.int .u64 x)) :
    Calls Try.prog 35 #[.pointer (some ⟨b, o, none⟩)] w fun e w' => e = .returned (.int .u64 x) ∧ w' = w := by
  have hl := run_call_load (P := Try.prog) Try.func43 (by kernel_rfl) (by kernel_rfl) (by kernel_rfl) .u64 (by kernel_rfl) h
  go_enter Try.func35, Try.ntmps35
  go_wp2
  go_ret
  exact ⟨rfl, rfl⟩

set_option maxHeartbeats 400000 in
theorem astore (b o : Nat) (x : Int) (u : Value) (w : World) (h : w.cell? ⟨b, o, none⟩ = some u) (f : w.frozen? ⟨b, o, none⟩ = false) :
    Calls Try.prog 33 #[.pointer (some ⟨b, o, none⟩), .int .u64 x] w fun e w' => e = .returned (.tuple #[]) ∧ w' = w.setCell ⟨b, o, none⟩ (.int .u64 x) := by
  have hl := run_call_store (P := Try.prog) Try.func37 (by kernel_rfl) (by kernel_rfl) (by kernel_rfl) (by kernel_rfl) (k := .u64) (y := x) h f
  go_enter Try.func33, Try.ntmps33
  go_wp2
  go_end0
  exact ⟨rfl, rfl⟩

set_option maxHeartbeats 400000 in
theorem aadd (b o : Nat) (x y : Int) (w : World) (h : w.cell? ⟨b, o, none⟩ = some (.int .u64 x)) (f : w.frozen? ⟨b, o, none⟩ = false) :
    Calls Try.prog 41 #[.pointer (some ⟨b, o, none⟩), .int .u64 y] w fun e w' => e = .returned (.int .u64 ((x + y) % 18446744073709551616)) ∧ w' = w.setCell ⟨b, o, none⟩ (.int .u64 ((x + y) % 18446744073709551616)) := by
  have hl := run_call_add (P := Try.prog) Try.func45 (by kernel_rfl) (by kernel_rfl) (by kernel_rfl) .u64 (by kernel_rfl) (y := y) (s := (x + y) % 18446744073709551616) h f (by rw [← IntKind.wrap_u64]; rfl)
  go_enter Try.func41, Try.ntmps41
  go_wp2
  go_ret
  exact ⟨rfl, rfl⟩

set_option maxHeartbeats 400000 in
theorem wOwed (b : Nat) (x : Int) (w : World) (h : w.cell? ⟨b, 270, none⟩ = some (.int .i64 x)) :
    Calls Try.prog 27 #[.pointer (some ⟨b, 0, none⟩)] w fun e w' => e = .returned (.int .i64 x) ∧ w' = w := by
  go_enter Try.func27, Try.ntmps27
  go_wp2
  go_ret
  exact ⟨rfl, rfl⟩

set_option maxHeartbeats 400000 in
theorem wStolen (b : Nat) (x : Int) (w : World) (h : w.cell? ⟨b, 271, none⟩ = some (.int .u32 x)) :
    Calls Try.prog 28 #[.pointer (some ⟨b, 0, none⟩)] w fun e w' => e = .returned (.int .u32 x) ∧ w' = w := by
  go_enter Try.func28, Try.ntmps28
  go_wp2
  go_ret
  exact ⟨rfl, rfl⟩

set_option maxHeartbeats 400000 in
theorem wCompleted (b : Nat) (x : Int) (w : World) (h : w.cell? ⟨b, 273, none⟩ = some (.int .u64 x)) :
    Calls Try.prog 26 #[.pointer (some ⟨b, 0, none⟩)] w fun e w' => e = .returned (.int .u64 x) ∧ w' = w := by
  go_enter Try.func26, Try.ntmps26
  go_wp2_with fail
  refine (aload _ _ _ _ h).mono ?_
  rintro e w' ⟨rfl, rfl⟩
  go_wp2_with fail
  go_ret
  exact ⟨rfl, rfl⟩

set_option maxHeartbeats 400000 in
theorem returned36 (b : Nat) (c d : Int) (w : World) (h3 : w.cell? ⟨b, 273, none⟩ = some (.int .u64 c)) (h0 : w.cell? ⟨b, 270, none⟩ = some (.int .i64 d))
    (f3 : w.frozen? ⟨b, 273, none⟩ = false) (f0 : w.frozen? ⟨b, 270, none⟩ = false) :
    Calls Try.prog 36 #[.pointer (some ⟨b, 0, none⟩)] w fun e w' => e = .returned (.tuple #[]) ∧ w' = (w.setCell ⟨b, 273, none⟩ (.int .u64 ((c + 1) % 18446744073709551616))).setCell ⟨b, 270, none⟩ (.int .i64 (wrap64 (d - 1))) := by
  go_enter Try.func36, Try.ntmps36
  go_wp2_with fail
  refine (aadd _ _ _ _ _ h3 f3).mono ?_
  rintro e w' ⟨rfl, rfl⟩
  go_wp2_with fail
  go_end0
  exact ⟨rfl, rfl⟩

set_option maxHeartbeats 400000 in
theorem returned25 (b : Nat) (c d : Int) (w : World) (h3 : w.cell? ⟨b, 273, none⟩ = some (.int .u64 c)) (h0 : w.cell? ⟨b, 270, none⟩ = some (.int .i64 d))
    (f3 : w.frozen? ⟨b, 273, none⟩ = false) (f0 : w.frozen? ⟨b, 270, none⟩ = false) :
    Calls Try.prog 25 #[.pointer (some ⟨b, 0, none⟩)] w fun e w' => e = .returned (.tuple #[]) ∧ w' = (w.setCell ⟨b, 273, none⟩ (.int .u64 ((c + 1) % 18446744073709551616))).setCell ⟨b, 270, none⟩ (.int .i64 (wrap64 (d - 1))) := by
  have hc := returned36 b c d w h3 h0 f3 f0
  clear h3 h0 f3 f0
  go_enter Try.func25, Try.ntmps25
  go_wp2_with fail
  refine hc.mono ?_
  rintro e w' ⟨rfl, rfl⟩
  go_wp2_with fail
  go_end0
  exact ⟨rfl, rfl⟩

/-- A worker's zero value: 279 cells, never written out. -/
theorem zero97 : ∃ zs : Array Value, zs.size = 279 ∧ ∀ w, (zeroValue 97).run Try.prog w = .ok (.agg zs) w := by
  obtain ⟨zs, hs, h⟩ : ∃ zs : Array Value, zs.size = 279 ∧ Try.t97.zero = some (.agg zs) :=
    ⟨(match Try.t97.zero with | some (.agg c) => c | _ => #[]), by kernel_rfl, by kernel_rfl⟩
  refine ⟨zs, hs, fun w => ?_⟩
  simp only [zeroValue, Sem.run_bind, Try.typeInfo97, Result.andThen, h]
  rfl

set_option maxHeartbeats 400000 in
theorem newWorker_core (c d s : Int) (w : World) (zs : Array Value) (hs : zs.size = 279) (_hz : ∀ w, (zeroValue 97).run Try.prog w = .ok (.agg zs) w) (_hne : ¬ zs = #[]) :
    Calls Try.prog 24 #[.int .u64 c, .int .i64 d, .int .u32 s] w fun e w' => e = .returned (.pointer (some ⟨w.heap.size, 0, none⟩)) ∧
      w' = w.alloc (.cells (((zs.setIfInBounds 273 (.int .u64 c)).setIfInBounds 270 (.int .i64 d)).setIfInBounds 271 (.int .u32 s)) 97) := by
  obtain ⟨u3, hu3⟩ : ∃ u, zs[273]? = some u := ⟨_, Array.getElem?_eq_getElem (by omega)⟩
  obtain ⟨u0, hu0⟩ : ∃ u, zs[270]? = some u := ⟨_, Array.getElem?_eq_getElem (by omega)⟩
  obtain ⟨u1, hu1⟩ : ∃ u, zs[271]? = some u := ⟨_, Array.getElem?_eq_getElem (by omega)⟩
  go_enter Try.func24, Try.ntmps24
  go_wp2_with fail
  refine (astore _ _ _ u3 _ ?_ ?_).mono ?_
  · rw [World.cell?_alloc_new]; exact hu3
  · exact World.frozen?_alloc_at _ _ _ _ rfl
  rintro e w' ⟨rfl, rfl⟩
  go_wp2_with fail
  go_ret
  exact ⟨rfl, rfl⟩

/-- What the worker's block holds. -/
structure Wk (w w' : World) (b : Nat) (c d s : Int) : Prop where
  grown : Grown w w'
  bb : w.heap.size ≤ b
  held : ∃ cs : Array Value, w'.heap[b]? = some (.cells cs 97) ∧ cs[273]? = some (.int .u64 c) ∧ cs[270]? = some (.int .i64 d) ∧ cs[271]? = some (.int .u32 s)

section
variable {w w1 : World} {b : Nat} {c d s : Int}
theorem Wk.c3 (h : Wk w w1 b c d s) : w1.cell? ⟨b, 273, none⟩ = some (.int .u64 c) := by
  obtain ⟨cs, h1, h2, h3, h4⟩ := h.held
  rw [cell_of_row _ _ _ _ _ _ h1]; exact h2
theorem Wk.c0 (h : Wk w w1 b c d s) : w1.cell? ⟨b, 270, none⟩ = some (.int .i64 d) := by
  obtain ⟨cs, h1, h2, h3, h4⟩ := h.held
  rw [cell_of_row _ _ _ _ _ _ h1]; exact h3
theorem Wk.c1 (h : Wk w w1 b c d s) : w1.cell? ⟨b, 271, none⟩ = some (.int .u32 s) := by
  obtain ⟨cs, h1, h2, h3, h4⟩ := h.held
  rw [cell_of_row _ _ _ _ _ _ h1]; exact h4
theorem Wk.fz (h : Wk w w1 b c d s) (i : Nat) : w1.frozen? ⟨b, i, none⟩ = false := by
  obtain ⟨cs, h1, h2, h3, h4⟩ := h.held
  simp [World.frozen?, h1]

theorem wset_same {w : World} {g i : Nat} {cs : Array Value} {t : TypeId} (v : Value) (hg : w.heap[g]? = some (.cells cs t)) : (w.setCell ⟨g, i, none⟩ v).heap[g]? = some (.cells (cs.setIfInBounds i v) t) := by
  simp [World.setCell, Array.getElem?_modify, hg]

theorem at_other {cs : Array Value} {i j : Nat} (v : Value) (h : i ≠ j) : (cs.setIfInBounds i v)[j]? = cs[j]? := Array.getElem?_setIfInBounds_ne h
theorem at_same {cs : Array Value} {i : Nat} {u : Value} (v : Value) (h : cs[i]? = some u) : (cs.setIfInBounds i v)[i]? = some v :=
  Array.getElem?_setIfInBounds_self_of_lt (Array.getElem?_eq_some_iff.1 h).1

theorem Wk.step (h : Wk w w1 b c d s) (c' d' : Int) : Wk w ((w1.setCell ⟨b, 273, none⟩ (.int .u64 c')).setCell ⟨b, 270, none⟩ (.int .i64 d')) b c' d' s := by
  obtain ⟨hg, hb, cs, h1, h2, h3, h4⟩ := h
  refine ⟨(hg.setCell hb _).setCell hb _, hb, _, wset_same _ (wset_same _ h1), ?_, ?_, ?_⟩
  · rw [at_other _ (by decide), at_same _ h2]
  · exact at_same _ ((at_other _ (by decide)).trans h3)
  · rw [at_other _ (by decide), at_other _ (by decide)]; exact h4

/-- ZZnewWorker. -/
theorem newWorker (c d s : Int) (w : World) :
    Calls Try.prog 24 #[.int .u64 c, .int .i64 d, .int .u32 s] w fun e w' => e = .returned (.pointer (some ⟨w.heap.size, 0, none⟩)) ∧ Wk w w' w.heap.size c d s := by
  obtain ⟨zs, hs, hz⟩ := zero97
  refine (newWorker_core c d s w zs hs hz (fun h => by rw [h] at hs; simp at hs)).mono ?_
  rintro e w' ⟨rfl, rfl⟩
  refine ⟨rfl, (Grown.refl _).alloc _ _, Nat.le_refl _, ((zs.setIfInBounds 273 (.int .u64 c)).setIfInBounds 270 (.int .i64 d)).setIfInBounds 271 (.int .u32 s), ?_, ?_, ?_, ?_⟩
  · show (w.heap.push _)[w.heap.size]? = _
    simp
  · rw [at_other _ (by decide), at_other _ (by decide), Array.getElem?_setIfInBounds_self_of_lt (by omega)]
  · rw [at_other _ (by decide), Array.getElem?_setIfInBounds_self_of_lt (by simp; omega)]
  · rw [Array.getElem?_setIfInBounds_self_of_lt (by simp; omega)]

/-- ZZtaskReturned. -/
theorem returned_st (h : Wk w w1 b c d s) :
    Calls Try.prog 25 #[.pointer (some ⟨b, 0, none⟩)] w1 fun e w' => e = .returned (.tuple #[]) ∧ Wk w w' b ((c + 1) % 18446744073709551616) (wrap64 (d - 1)) s := by
  refine (returned25 b c d w1 h.c3 h.c0 (h.fz 273) (h.fz 270)).mono ?_
  rintro e w' ⟨rfl, rfl⟩
  exact ⟨rfl, h.step _ _⟩
end

end Go.Proofs.Qxb6613268a
