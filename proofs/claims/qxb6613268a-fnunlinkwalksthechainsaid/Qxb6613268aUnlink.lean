/-
  unlink over the queue that zzBuildQueue built: what it does to the State.
-/
import Derived.Test.Qxb6613268aBuild
namespace Go.Proofs.Qxb6613268a
open Go.RowKit

section
variable {w w1 : World} {B Q n : Nat} {S : Nat → Nat} {X : Option Nat} {first spare : Option Addr} {hd t : Int} {nx : Nat → Option Addr}

theorem State.c2 (h : State w w1 B Q n S X first spare hd t nx) : w1.cell? ⟨Q, 2, none⟩ = some (.pointer first) := by rw [cell_of_row _ _ _ _ _ _ h.q]; rfl
theorem State.c3 (h : State w w1 B Q n S X first spare hd t nx) : w1.cell? ⟨Q, 3, none⟩ = some (.pointer (some ⟨S (n - 1), 0, none⟩)) := by rw [cell_of_row _ _ _ _ _ _ h.q]; rfl
theorem State.c4 (h : State w w1 B Q n S X first spare hd t nx) : w1.cell? ⟨Q, 4, none⟩ = some (.int .i64 hd) := by rw [cell_of_row _ _ _ _ _ _ h.q]; rfl
theorem State.c5 (h : State w w1 B Q n S X first spare hd t nx) : w1.cell? ⟨Q, 5, none⟩ = some (.int .i64 t) := by rw [cell_of_row _ _ _ _ _ _ h.q]; rfl
theorem State.c6 (h : State w w1 B Q n S X first spare hd t nx) : w1.cell? ⟨Q, 6, none⟩ = some (.pointer spare) := by rw [cell_of_row _ _ _ _ _ _ h.q]; rfl
theorem State.fq (h : State w w1 B Q n S X first spare hd t nx) (i : Nat) : w1.frozen? ⟨Q, i, none⟩ = false := by simp [World.frozen?, h.q]
theorem State.cs (h : State w w1 B Q n S X first spare hd t nx) {j : Nat} (hj : j < n) : w1.cell? ⟨S j, 1024, none⟩ = some (.pointer (nx j)) := by
  obtain ⟨c, hc, hc2⟩ := h.segs j hj
  rw [cell_of_row _ _ _ _ _ _ hc]; exact hc2
theorem State.fs (h : State w w1 B Q n S X first spare hd t nx) {j : Nat} (hj : j < n) (i : Nat) : w1.frozen? ⟨S j, i, none⟩ = false := by
  obtain ⟨c, hc, hc2⟩ := h.segs j hj
  simp [World.frozen?, hc]
theorem State.cr (h : State w w1 B Q n S X first spare hd t nx) {j : Nat} (hj : j < n) : w1.cell? ⟨B, j, none⟩ = some (.pointer (some ⟨S j, 0, none⟩)) := by
  obtain ⟨c, hc, hc2⟩ := h.row
  rw [cell_of_row _ _ _ _ _ _ hc]; exact hc2 j hj
theorem State.drew (h : State w w1 B Q n S X first spare hd t nx) : State w w1.drew B Q n S X first spare hd t nx := ⟨h.grown.drew, h.row, h.q, h.segs, h.xs⟩
theorem State.drewN (h : State w w1 B Q n S X first spare hd t nx) (k : Nat) : State w (w1.drewN k) B Q n S X first spare hd t nx := ⟨h.grown, h.row, h.q, h.segs, h.xs⟩

/-- Two segments of the chain are told apart. -/
theorem State.other (h : State w w1 B Q n S X first spare hd t nx) (sh : Shape w B Q n S X) {i j : Nat} (hi : i < n) (hj : j < n) (hij : i ≠ j) :
    (binOp .eql 28 (.pointer (some ⟨S i, 0, none⟩)) (.pointer (some ⟨S j, 0, none⟩))).run Try.prog w1 = .ok (.bool false) w1 := by
  obtain ⟨c, hc, _⟩ := h.segs i hi
  obtain ⟨d, hd, _⟩ := h.segs j hj
  exact other_seg w1 (fun e => hij (sh.inj i j hi hj e)) hc hd

/-- A segment and the spare that was there are told apart. -/
theorem State.notX (h : State w w1 B Q n S X first spare hd t nx) (sh : Shape w B Q n S X) {i x : Nat} (hi : i < n) (hx : X = some x) :
    (binOp .eql 28 (.pointer (some ⟨S i, 0, none⟩)) (.pointer (some ⟨x, 0, none⟩))).run Try.prog w1 = .ok (.bool false) w1 := by
  obtain ⟨c, hc, _⟩ := h.segs i hi
  obtain ⟨d, hd⟩ := h.xs x hx
  exact other_seg w1 (fun e => sh.XS x hx i hi e.symm) hc hd

/-- head set. -/
theorem State.setHead (h : State w w1 B Q n S X first spare hd t nx) (sh : Shape w B Q n S X) (m : Int) : State w (w1.setCell ⟨Q, 4, none⟩ (.int .i64 m)) B Q n S X first spare m t nx := by
  obtain ⟨hg, ⟨r, hr, hrj⟩, hq, hseg, hx⟩ := h
  refine ⟨hg.setCell sh.bQ _, ⟨r, ?_, hrj⟩, ?_, ?_, ?_⟩
  · rw [set_other _ _ _ _ sh.BQ]; exact hr
  · rw [set_same _ hq]; rfl
  · intro j hj
    obtain ⟨c, hc, hc2⟩ := hseg j hj
    exact ⟨c, by rw [set_other _ _ _ _ (sh.SQ j hj)]; exact hc, hc2⟩
  · intro x hxx
    obtain ⟨c, hc⟩ := hx x hxx
    exact ⟨c, by rw [set_other _ _ _ _ (sh.XQ x hxx)]; exact hc⟩

theorem State.setTail (h : State w w1 B Q n S X first spare hd t nx) (sh : Shape w B Q n S X) (m : Int) : State w (w1.setCell ⟨Q, 5, none⟩ (.int .i64 m)) B Q n S X first spare hd m nx := by
  obtain ⟨hg, ⟨r, hr, hrj⟩, hq, hseg, hx⟩ := h
  refine ⟨hg.setCell sh.bQ _, ⟨r, ?_, hrj⟩, ?_, ?_, ?_⟩
  · rw [set_other _ _ _ _ sh.BQ]; exact hr
  · rw [set_same _ hq]; rfl
  · intro j hj
    obtain ⟨c, hc, hc2⟩ := hseg j hj
    exact ⟨c, by rw [set_other _ _ _ _ (sh.SQ j hj)]; exact hc, hc2⟩
  · intro x hxx
    obtain ⟨c, hc⟩ := hx x hxx
    exact ⟨c, by rw [set_other _ _ _ _ (sh.XQ x hxx)]; exact hc⟩

theorem State.setFirst (h : State w w1 B Q n S X first spare hd t nx) (sh : Shape w B Q n S X) (m : Option Addr) : State w (w1.setCell ⟨Q, 2, none⟩ (.pointer m)) B Q n S X m spare hd t nx := by
  obtain ⟨hg, ⟨r, hr, hrj⟩, hq, hseg, hx⟩ := h
  refine ⟨hg.setCell sh.bQ _, ⟨r, ?_, hrj⟩, ?_, ?_, ?_⟩
  · rw [set_other _ _ _ _ sh.BQ]; exact hr
  · rw [set_same _ hq]; rfl
  · intro j hj
    obtain ⟨c, hc, hc2⟩ := hseg j hj
    exact ⟨c, by rw [set_other _ _ _ _ (sh.SQ j hj)]; exact hc, hc2⟩
  · intro x hxx
    obtain ⟨c, hc⟩ := hx x hxx
    exact ⟨c, by rw [set_other _ _ _ _ (sh.XQ x hxx)]; exact hc⟩

theorem State.setSpare (h : State w w1 B Q n S X first spare hd t nx) (sh : Shape w B Q n S X) (m : Option Addr) : State w (w1.setCell ⟨Q, 6, none⟩ (.pointer m)) B Q n S X first m hd t nx := by
  obtain ⟨hg, ⟨r, hr, hrj⟩, hq, hseg, hx⟩ := h
  refine ⟨hg.setCell sh.bQ _, ⟨r, ?_, hrj⟩, ?_, ?_, ?_⟩
  · rw [set_other _ _ _ _ sh.BQ]; exact hr
  · rw [set_same _ hq]; rfl
  · intro j hj
    obtain ⟨c, hc, hc2⟩ := hseg j hj
    exact ⟨c, by rw [set_other _ _ _ _ (sh.SQ j hj)]; exact hc, hc2⟩
  · intro x hxx
    obtain ⟨c, hc⟩ := hx x hxx
    exact ⟨c, by rw [set_other _ _ _ _ (sh.XQ x hxx)]; exact hc⟩

/-- A segment cut loose. -/
def cutAt (nx : Nat → Option Addr) (k : Nat) (j : Nat) : Option Addr := if j = k then none else nx j

theorem State.cut (h : State w w1 B Q n S X first spare hd t nx) (sh : Shape w B Q n S X) {k : Nat} (hk : k < n) : State w (w1.setCell ⟨S k, 1024, none⟩ (.pointer none)) B Q n S X first spare hd t (cutAt nx k) := by
  obtain ⟨hg, ⟨r, hr, hrj⟩, hq, hseg, hx⟩ := h
  refine ⟨hg.setCell (sh.bS k hk) _, ⟨r, ?_, hrj⟩, ?_, ?_, ?_⟩
  · rw [set_other _ _ _ _ (fun e => sh.SB k hk e.symm)]; exact hr
  · rw [set_other _ _ _ _ (fun e => sh.SQ k hk e.symm)]; exact hq
  · intro j hj
    obtain ⟨c, hc, hc2⟩ := hseg j hj
    by_cases e : j = k
    · subst e
      refine ⟨_, set_same _ hc, ?_⟩
      have hlt : 1024 < c.size := (Array.getElem?_eq_some_iff.1 hc2).1
      rw [Array.getElem?_setIfInBounds_self_of_lt hlt, cutAt, if_pos rfl]
    · refine ⟨c, ?_, ?_⟩
      · rw [set_other _ _ _ _ (fun e' => e (sh.inj j k hj hk e'))]; exact hc
      · rw [hc2, cutAt, if_neg e]
  · intro x hxx
    obtain ⟨c, hc⟩ := hx x hxx
    exact ⟨c, by rw [set_other _ _ _ _ (sh.XS x hxx k hk)]; exact hc⟩

set_option maxHeartbeats 800000 in
/-- ZZunlink where one segment is left. -/
theorem unlink_st_lone (h : State w w1 B Q n S X (some ⟨S (n - 1), 0, none⟩) spare hd t nx) (sh : Shape w B Q n S X) :
    Calls Try.prog 12 #[.pointer (some ⟨Q, 0, none⟩)] w1 fun e w2 => e = .returned (.tuple #[]) ∧ State w w2 B Q n S X (some ⟨S (n - 1), 0, none⟩) spare 0 0 nx := by
  have hc := unlink_lone Q (S (n - 1)) hd t w1 h.c2 h.c3 h.c4 h.c5 (h.fq 4) (h.fq 5)
  have HC : Hid (State w ((w1.setCell ⟨Q, 4, none⟩ (.int .i64 0)).setCell ⟨Q, 5, none⟩ (.int .i64 0)) B Q n S X (some ⟨S (n - 1), 0, none⟩) spare 0 0 nx) := (h.setHead sh 0).setTail sh 0
  clear h sh
  go_enter Try.func12, Try.ntmps12
  go_wp2_with fail
  refine hc.mono ?_
  rintro e w' ⟨rfl, rfl⟩
  go_wp2_with fail
  go_end0
  exact ⟨rfl, HC.out⟩

set_option maxHeartbeats 800000 in
/-- ZZunlink where segments remain behind the first. -/
theorem unlink_st_more {k : Nat} (hk : k + 1 < n) (h : State w w1 B Q n S X (some ⟨S k, 0, none⟩) spare hd t nx) (sh : Shape w B Q n S X) :
    Calls Try.prog 12 #[.pointer (some ⟨Q, 0, none⟩)] w1 fun e w2 => e = .returned (.tuple #[]) ∧ State w w2 B Q n S X (nx k) (some ⟨S k, 0, none⟩) 0 t (cutAt nx k) := by
  have hk' : k < n := by omega
  have hc := unlink_more Q (S k) (S (n - 1)) hd (nx k) spare w1 (fun e => sh.SQ k hk' e.symm) (sh.SQ k hk') (h.other sh hk' (by omega) (by omega)) h.c2 h.c3 h.c4 h.c6 (h.cs hk') (h.fq 2) (h.fq 4) (h.fq 6) (h.fs hk' 1024)
  have HC : Hid (State w ((((w1.setCell ⟨Q, 2, none⟩ (.pointer (nx k))).setCell ⟨Q, 4, none⟩ (.int .i64 0)).setCell ⟨S k, 1024, none⟩ (.pointer none)).setCell ⟨Q, 6, none⟩ (.pointer (some ⟨S k, 0, none⟩))) B Q n S X (nx k) (some ⟨S k, 0, none⟩) 0 t (cutAt nx k)) :=
    (((h.setFirst sh (nx k)).setHead sh 0).cut sh hk').setSpare sh (some ⟨S k, 0, none⟩)
  clear h sh hk hk'
  go_enter Try.func12, Try.ntmps12
  go_wp2_with fail
  refine hc.mono ?_
  rintro e w' ⟨rfl, rfl⟩
  go_wp2_with fail
  go_end0
  exact ⟨rfl, HC.out⟩
end

end Go.Proofs.Qxb6613268a
