/-
  The leaves of the shared queue's shim: readers, makers, unlink.
-/
import Derived.Test.Qxb6613268aRows
import Derived.WalkKit
import Derived.WalkSpells
import Derived.WalkLawsBesides
import Derived.LaidEqlPtr
namespace Go.Proofs.Qxb6613268a
open Go.RowKit

set_option maxHeartbeats 400000 in
theorem qFirst (Q : Nat) (p : Option Addr) (w : World) (h : w.cell? ⟨Q, 2, none⟩ = some (.pointer p)) :
    Calls Try.prog 13 #[.pointer (some ⟨Q, 0, none⟩)] w fun e w' => e = .returned (.pointer p) ∧ w' = w := by
  go_enter Try.func13, Try.ntmps13
  go_wp2
  go_ret
  exact ⟨rfl, rfl⟩

set_option maxHeartbeats 400000 in
theorem qLast (Q : Nat) (p : Option Addr) (w : World) (h : w.cell? ⟨Q, 3, none⟩ = some (.pointer p)) :
    Calls Try.prog 14 #[.pointer (some ⟨Q, 0, none⟩)] w fun e w' => e = .returned (.pointer p) ∧ w' = w := by
  go_enter Try.func14, Try.ntmps14
  go_wp2
  go_ret
  exact ⟨rfl, rfl⟩

set_option maxHeartbeats 400000 in
theorem qHead (Q : Nat) (n : Int) (w : World) (h : w.cell? ⟨Q, 4, none⟩ = some (.int .i64 n)) :
    Calls Try.prog 15 #[.pointer (some ⟨Q, 0, none⟩)] w fun e w' => e = .returned (.int .i64 n) ∧ w' = w := by
  go_enter Try.func15, Try.ntmps15
  go_wp2
  go_ret
  exact ⟨rfl, rfl⟩

set_option maxHeartbeats 400000 in
theorem qTail (Q : Nat) (n : Int) (w : World) (h : w.cell? ⟨Q, 5, none⟩ = some (.int .i64 n)) :
    Calls Try.prog 16 #[.pointer (some ⟨Q, 0, none⟩)] w fun e w' => e = .returned (.int .i64 n) ∧ w' = w := by
  go_enter Try.func16, Try.ntmps16
  go_wp2
  go_ret
  exact ⟨rfl, rfl⟩

set_option maxHeartbeats 400000 in
theorem qSpare (Q : Nat) (p : Option Addr) (w : World) (h : w.cell? ⟨Q, 6, none⟩ = some (.pointer p)) :
    Calls Try.prog 17 #[.pointer (some ⟨Q, 0, none⟩)] w fun e w' => e = .returned (.pointer p) ∧ w' = w := by
  go_enter Try.func17, Try.ntmps17
  go_wp2
  go_ret
  exact ⟨rfl, rfl⟩

set_option maxHeartbeats 400000 in
theorem segNext (b : Nat) (p : Option Addr) (w : World) (h : w.cell? ⟨b, 1024, none⟩ = some (.pointer p)) :
    Calls Try.prog 18 #[.pointer (some ⟨b, 0, none⟩)] w fun e w' => e = .returned (.pointer p) ∧ w' = w := by
  go_enter Try.func18, Try.ntmps18
  go_wp2
  go_ret
  exact ⟨rfl, rfl⟩

set_option maxHeartbeats 400000 in
theorem setHead (Q : Nat) (n m : Int) (w : World) (h : w.cell? ⟨Q, 4, none⟩ = some (.int .i64 n)) (f : w.frozen? ⟨Q, 4, none⟩ = false) :
    Calls Try.prog 19 #[.pointer (some ⟨Q, 0, none⟩), .int .i64 m] w fun e w' => e = .returned (.tuple #[]) ∧ w' = w.setCell ⟨Q, 4, none⟩ (.int .i64 m) := by
  go_enter Try.func19, Try.ntmps19
  go_wp2
  go_end0
  exact ⟨rfl, rfl⟩

/-- A segment's zero value: 1025 cells, never written out. -/
theorem zero66 : ∃ zs : Array Value, zs.size = 1025 ∧ ∀ w, (zeroValue 66).run Try.prog w = .ok (.agg zs) w := by
  obtain ⟨zs, hs, h⟩ : ∃ zs : Array Value, zs.size = 1025 ∧ Try.t66.zero = some (.agg zs) :=
    ⟨(match Try.t66.zero with | some (.agg c) => c | _ => #[]), by kernel_rfl, by kernel_rfl⟩
  refine ⟨zs, hs, fun w => ?_⟩
  simp only [zeroValue, Sem.run_bind, Try.typeInfo66, Result.andThen, h]
  rfl

set_option maxHeartbeats 400000 in
theorem newSeg_core (p : Option Addr) (w : World) (zs : Array Value) (_hs : zs.size = 1025) (_hz : ∀ w, (zeroValue 66).run Try.prog w = .ok (.agg zs) w) (_hne : ¬ zs = #[]) :
    Calls Try.prog 30 #[.pointer p] w fun e w' => e = .returned (.pointer (some ⟨w.heap.size, 0, none⟩)) ∧ w' = w.alloc (.cells (zs.setIfInBounds 1024 (.pointer p)) 66) := by
  go_enter Try.func30, Try.ntmps30
  go_wp2
  go_ret
  exact ⟨rfl, rfl⟩

/-- ZZnewSegment: a new block that bears the successor in its cell 1024. -/
theorem newSeg (p : Option Addr) (w : World) :
    Calls Try.prog 30 #[.pointer p] w fun e w' => e = .returned (.pointer (some ⟨w.heap.size, 0, none⟩)) ∧ ∃ c : Array Value, c[1024]? = some (.pointer p) ∧ w' = w.alloc (.cells c 66) := by
  obtain ⟨zs, hs, hz⟩ := zero66
  refine (newSeg_core p w zs hs hz (fun h => by rw [h] at hs; simp at hs)).mono ?_
  rintro e w' ⟨rfl, rfl⟩
  exact ⟨rfl, _, by rw [Array.getElem?_setIfInBounds_self_of_lt (by omega)], rfl⟩

set_option maxHeartbeats 400000 in
theorem newQ (p1 p2 p3 : Option Addr) (h t : Int) (w : World) :
    Calls Try.prog 31 #[.pointer p1, .pointer p2, .pointer p3, .int .i64 h, .int .i64 t] w fun e w' => e = .returned (.pointer (some ⟨w.heap.size, 0, none⟩)) ∧
      w' = w.alloc (.cells #[.int .i32 0, .int .u32 0, .pointer p1, .pointer p2, .int .i64 h, .int .i64 t, .pointer p3, .int .i64 0] 63) := by
  go_enter Try.func31, Try.ntmps31
  go_wp2
  go_ret
  exact ⟨rfl, rfl⟩


theorem size66 : (Try.prog.info? 66).map (·.size) = some 1025 := by kernel_rfl
theorem info66 : ∃ i, Try.prog.info? 66 = some i ∧ i.size ≠ 0 := by
  have h := size66
  cases hq : Try.prog.info? 66 with
  | none => rw [hq] at h; simp at h
  | some i => rw [hq] at h; simp at h; exact ⟨i, rfl, by omega⟩

/-- Two pointers to one segment are equal. -/
theorem same_seg (a : Addr) (w : World) : (binOp .eql 28 (.pointer (some a)) (.pointer (some a))).run Try.prog w = .ok (.bool true) w := by
  obtain ⟨i, hi, _⟩ := info66
  exact run_eql_ptr_same w a Try.underlying28 hi

/-- Two pointers to segments in two blocks are not. -/
theorem other_seg {a b : Nat} {ca cb : Array Value} {ta tb : TypeId} (w : World) (hne : ¬ a = b) (ha : w.heap[a]? = some (.cells ca ta (0, 0))) (hb : w.heap[b]? = some (.cells cb tb (0, 0))) :
    (binOp .eql 28 (.pointer (some ⟨a, 0, none⟩)) (.pointer (some ⟨b, 0, none⟩))).run Try.prog w = .ok (.bool false) w := by
  obtain ⟨i, hi, hs⟩ := info66
  exact run_eql_ptr_other w Try.underlying28 hi hs (fun h => hne (congrArg Addr.block h)) ha hb

theorem same_seg_neq (a : Addr) (w : World) : (binOp .neq 28 (.pointer (some a)) (.pointer (some a))).run Try.prog w = .ok (.bool false) w := by
  have h := same_seg a w
  simp only [binOp] at h ⊢
  cases hq : (Op.equal 28 (.pointer (some a)) (.pointer (some a))).run Try.prog w with
  | ok v w1 => simp [hq] at h ⊢; simp [h]
  | halt x w1 => simp [hq] at h

set_option maxHeartbeats 800000 in
/-- unlink of the lone last segment. -/
theorem unlink_lone (Q b : Nat) (h t : Int) (w : World) (h2 : w.cell? ⟨Q, 2, none⟩ = some (.pointer (some ⟨b, 0, none⟩))) (h3 : w.cell? ⟨Q, 3, none⟩ = some (.pointer (some ⟨b, 0, none⟩)))
    (h4 : w.cell? ⟨Q, 4, none⟩ = some (.int .i64 h)) (h5 : w.cell? ⟨Q, 5, none⟩ = some (.int .i64 t)) (f4 : w.frozen? ⟨Q, 4, none⟩ = false) (f5 : w.frozen? ⟨Q, 5, none⟩ = false) :
    Calls Try.prog 32 #[.pointer (some ⟨Q, 0, none⟩)] w fun e w' => e = .returned (.tuple #[]) ∧ w' = (w.setCell ⟨Q, 4, none⟩ (.int .i64 0)).setCell ⟨Q, 5, none⟩ (.int .i64 0) := by
  have heq := same_seg ⟨b, 0, none⟩ w
  go_enter Try.func32, Try.ntmps32
  go_wp2
  refine bodyPost_ret (results_none rfl _ _ _) rfl ?_
  exact ⟨rfl, rfl⟩

set_option maxHeartbeats 800000 in
/-- unlink of the first of several segments. -/
theorem unlink_more (Q b l : Nat) (h : Int) (p sp : Option Addr) (w : World) (_hqb : ¬ Q = b) (_hbq : ¬ b = Q) (hneq : (binOp .eql 28 (.pointer (some ⟨b, 0, none⟩)) (.pointer (some ⟨l, 0, none⟩))).run Try.prog w = .ok (.bool false) w)
    (h2 : w.cell? ⟨Q, 2, none⟩ = some (.pointer (some ⟨b, 0, none⟩))) (h3 : w.cell? ⟨Q, 3, none⟩ = some (.pointer (some ⟨l, 0, none⟩)))
    (h4 : w.cell? ⟨Q, 4, none⟩ = some (.int .i64 h)) (h6 : w.cell? ⟨Q, 6, none⟩ = some (.pointer sp)) (hn : w.cell? ⟨b, 1024, none⟩ = some (.pointer p))
    (f2 : w.frozen? ⟨Q, 2, none⟩ = false) (f4 : w.frozen? ⟨Q, 4, none⟩ = false) (f6 : w.frozen? ⟨Q, 6, none⟩ = false) (fn : w.frozen? ⟨b, 1024, none⟩ = false) :
    Calls Try.prog 32 #[.pointer (some ⟨Q, 0, none⟩)] w fun e w' => e = .returned (.tuple #[]) ∧
      w' = (((w.setCell ⟨Q, 2, none⟩ (.pointer p)).setCell ⟨Q, 4, none⟩ (.int .i64 0)).setCell ⟨b, 1024, none⟩ (.pointer none)).setCell ⟨Q, 6, none⟩ (.pointer (some ⟨b, 0, none⟩)) := by
  go_enter Try.func32, Try.ntmps32
  go_wp2
  go_end0
  exact ⟨rfl, rfl⟩

end Go.Proofs.Qxb6613268a
