/-
  zzBuildQueue by its contract.
-/
import Derived.Test.Qxb6613268aQueue
import Derived.Deep.RegionWith
namespace Go.Proofs.Qxb6613268a
open Go.RowKit

/-- The successor of segment j in a chain of n, the blocks numbered downward from base + n. -/
def nxB (base n j : Nat) : Option Addr := if j + 1 < n then some ⟨base + n - (j + 1), 0, none⟩ else none

/-- The builder's loop: the segments from m on are made and laid into the row. -/
structure Bld (w wr : World) (n m : Nat) : Prop where
  grown : Grown w wr
  size : wr.heap.size = w.heap.size + 1 + (n - m)
  row : ∃ c : Array Value, wr.heap[w.heap.size]? = some (.cells c 28) ∧ c.size = n ∧ ∀ j, m ≤ j → j < n → c[j]? = some (.pointer (some ⟨w.heap.size + n - j, 0, none⟩))
  segs : ∀ j, m ≤ j → j < n → ∃ c : Array Value, wr.heap[w.heap.size + n - j]? = some (.cells c 66) ∧ c[1024]? = some (.pointer (nxB w.heap.size n j))

theorem bytes28 : (Try.prog.info? 28).map (fun i => (i.zero, i.size, i.bytes)) = some (some (.pointer none), 1, 8) := by kernel_rfl

theorem make27 (n : Nat) (h2 : n ≤ 128) : ∃ mc : Array Value, mc.size = n ∧ ∀ w, (Instr.makeSlice 27 (.int .i64 n) (.int .i64 n)).run Try.prog w = .ok (.slice (some ⟨w.heap.size, 0, none⟩) n n) (w.alloc (.cells mc 28)) := by
  obtain ⟨i, hi, hz, hs, hb⟩ := info_parts bytes28
  refine ⟨madeCells (Value.pointer none).cells n, size_madeCells _ _, fun w => ?_⟩
  have h := run_make (P := Try.prog) w 27 28 i (.pointer none) Try.underlying27 hi hz .i64 .i64 n n (by omega) (by omega) (by rw [hb]; omega) (by omega)
  rw [hs] at h
  simpa using h

theorem alloc_old (w : World) (o : Obj) {i : Nat} (h : i < w.heap.size) : (w.alloc o).heap[i]? = w.heap[i]? := Below.heap_alloc w o i h
theorem alloc_at (w : World) (o : Obj) {i : Nat} (h : i = w.heap.size) : (w.alloc o).heap[i]? = some o := by
  subst h
  show (w.heap.push o)[w.heap.size]? = some o
  simp
theorem set_same {w : World} {g i : Nat} {cs : Array Value} {t : TypeId} (v : Value) (hg : w.heap[g]? = some (.cells cs t)) : (w.setCell ⟨g, i, none⟩ v).heap[g]? = some (.cells (cs.setIfInBounds i v) t) := by
  simp [World.setCell, Array.getElem?_modify, hg]
theorem set_other (w : World) (g i : Nat) {k : Nat} (v : Value) (h : k ≠ g) : (w.setCell ⟨g, i, none⟩ v).heap[k]? = w.heap[k]? := Below.heap_setCell w ⟨g, i, none⟩ v k h

theorem Bld.start (w : World) (n : Nat) (h1 : 1 ≤ n) (mc c : Array Value) (hm : mc.size = n) (hc : c[1024]? = some (.pointer none)) :
    Bld w ((w.alloc (.cells (mc.setIfInBounds (n - 1) (.pointer (some ⟨w.heap.size + 1, 0, none⟩))) 28)).alloc (.cells c 66)) n (n - 1) := by
  refine ⟨((Grown.refl _).alloc _ _).alloc _ _, ?_, ⟨mc.setIfInBounds (n - 1) (.pointer (some ⟨w.heap.size + 1, 0, none⟩)), ?_, ?_, ?_⟩, ?_⟩
  · simp; omega
  · rw [alloc_old _ _ (by simp), alloc_at _ _ rfl]
  · simpa using hm
  · intro j h3 h4
    obtain rfl : j = n - 1 := by omega
    rw [Array.getElem?_setIfInBounds_self_of_lt (by omega), show w.heap.size + n - (n - 1) = w.heap.size + 1 from by omega]
  · intro j h3 h4
    obtain rfl : j = n - 1 := by omega
    refine ⟨c, ?_, ?_⟩
    · exact alloc_at _ _ (by simp; omega)
    · rw [hc, nxB, if_neg (by omega)]

theorem Bld.step {w wr : World} {n m : Nat} (h : Bld w wr n (m + 1)) (hm : m + 1 < n) (c : Array Value) (hc : c[1024]? = some (.pointer (some ⟨w.heap.size + n - (m + 1), 0, none⟩))) :
    Bld w ((wr.setCell ⟨w.heap.size, m, none⟩ (.pointer (some ⟨wr.heap.size, 0, none⟩))).alloc (.cells c 66)) n m := by
  obtain ⟨hg, hsz, ⟨r, hr, hrs, hrj⟩, hseg⟩ := h
  have hw : wr.heap.size = w.heap.size + n - m := by omega
  refine ⟨(hg.setCell (Nat.le_refl _) _).alloc _ _, ?_, ⟨r.setIfInBounds m (.pointer (some ⟨wr.heap.size, 0, none⟩)), ?_, by simpa using hrs, ?_⟩, ?_⟩
  · simp; omega
  · rw [alloc_old _ _ (by simp; omega)]
    exact set_same _ hr
  · intro j h3 h4
    by_cases e : j = m
    · subst e
      rw [Array.getElem?_setIfInBounds_self_of_lt (by omega), hw]
    · rw [Array.getElem?_setIfInBounds_ne (by omega)]
      exact hrj j (by omega) h4
  · intro j h3 h4
    by_cases e : j = m
    · subst e
      refine ⟨c, ?_, ?_⟩
      · exact alloc_at _ _ (by simp; omega)
      · rw [hc, nxB, if_pos (by omega)]
    · obtain ⟨d, hd, hd2⟩ := hseg j (by omega) h4
      refine ⟨d, ?_, hd2⟩
      rw [alloc_old _ _ (by simp; omega), set_other _ _ _ _ (by omega)]
      exact hd

/-! ### The queue in memory: what is fixed, and what turns -/

/-- Which blocks they are: the row of pointers, the queue, the segments, the spare. -/
structure Shape (w : World) (B Q n : Nat) (S : Nat → Nat) (X : Option Nat) : Prop where
  bB : w.heap.size ≤ B
  bQ : w.heap.size ≤ Q
  bS : ∀ j, j < n → w.heap.size ≤ S j
  BQ : B ≠ Q
  SB : ∀ j, j < n → S j ≠ B
  SQ : ∀ j, j < n → S j ≠ Q
  inj : ∀ i j, i < n → j < n → S i = S j → i = j
  XQ : ∀ x, X = some x → x ≠ Q
  XS : ∀ x, X = some x → ∀ j, j < n → x ≠ S j

/-- What they hold. -/
structure State (w w' : World) (B Q n : Nat) (S : Nat → Nat) (X : Option Nat) (first spare : Option Addr) (hd t : Int) (nx : Nat → Option Addr) : Prop where
  grown : Grown w w'
  row : ∃ c : Array Value, w'.heap[B]? = some (.cells c 28) ∧ ∀ j, j < n → c[j]? = some (.pointer (some ⟨S j, 0, none⟩))
  q : w'.heap[Q]? = some (.cells #[.int .i32 0, .int .u32 0, .pointer first, .pointer (some ⟨S (n - 1), 0, none⟩), .int .i64 hd, .int .i64 t, .pointer spare, .int .i64 0] 63)
  segs : ∀ j, j < n → ∃ c : Array Value, w'.heap[S j]? = some (.cells c 66) ∧ c[1024]? = some (.pointer (nx j))
  xs : ∀ x, X = some x → ∃ c : Array Value, w'.heap[x]? = some (.cells c 66)

def ptrOf : Option Nat → Option Addr
  | none => none
  | some x => some ⟨x, 0, none⟩

/-- The successors in a whole chain. -/
def nxS (S : Nat → Nat) (n j : Nat) : Option Addr := if j + 1 < n then some ⟨S (j + 1), 0, none⟩ else none

def headOf (n : Nat) (t : Int) : Int := if 1 < n then 1024 else t

/-- What zzBuildQueue leaves. -/
def Built (w w' : World) (n : Nat) (t : Int) (B Q : Nat) (S : Nat → Nat) (X : Option Nat) : Prop :=
  Shape w B Q n S X ∧ State w w' B Q n S X (some ⟨S 0, 0, none⟩) (ptrOf X) (headOf n t) t (nxS S n)

theorem built_bare {w wr : World} {n : Nat} {t : Int} (h1 : 1 ≤ n) (h : Bld w wr n 0) :
    Built w (wr.alloc (.cells #[.int .i32 0, .int .u32 0, .pointer (some ⟨w.heap.size + n, 0, none⟩), .pointer (some ⟨w.heap.size + n - (n - 1), 0, none⟩), .int .i64 (headOf n t), .int .i64 t, .pointer none, .int .i64 0] 63)) n t
      w.heap.size wr.heap.size (fun j => w.heap.size + n - j) none := by
  obtain ⟨hg, hsz, ⟨r, hr, hrs, hrj⟩, hseg⟩ := h
  refine ⟨⟨Nat.le_refl _, by omega, fun j hj => by omega, by omega, fun j hj => by omega, fun j hj => by omega, fun i j hi hj e => by (have e' : w.heap.size + n - i = w.heap.size + n - j := e); omega, by simp, by simp⟩, ?_⟩
  refine ⟨hg.alloc _ _, ⟨r, ?_, fun j hj => hrj j (Nat.zero_le _) hj⟩, alloc_at _ _ rfl, ?_, by simp⟩
  · rw [alloc_old _ _ (by omega)]; exact hr
  · intro j hj
    obtain ⟨c, hc, hc2⟩ := hseg j (Nat.zero_le _) hj
    refine ⟨c, ?_, ?_⟩
    · rw [alloc_old _ _ (by show w.heap.size + n - j < _; omega)]; exact hc
    · rw [hc2]; rfl

theorem built_spare {w wr : World} {n : Nat} {t : Int} (h1 : 1 ≤ n) (h : Bld w wr n 0) (c0 : Array Value) :
    Built w ((wr.alloc (.cells c0 66)).alloc (.cells #[.int .i32 0, .int .u32 0, .pointer (some ⟨w.heap.size + n, 0, none⟩), .pointer (some ⟨w.heap.size + n - (n - 1), 0, none⟩), .int .i64 (headOf n t), .int .i64 t, .pointer (some ⟨wr.heap.size, 0, none⟩), .int .i64 0] 63)) n t
      w.heap.size (wr.heap.size + 1) (fun j => w.heap.size + n - j) (some wr.heap.size) := by
  obtain ⟨hg, hsz, ⟨r, hr, hrs, hrj⟩, hseg⟩ := h
  refine ⟨⟨Nat.le_refl _, by omega, fun j hj => by omega, by omega, fun j hj => by omega, fun j hj => by omega, fun i j hi hj e => by (have e' : w.heap.size + n - i = w.heap.size + n - j := e); omega, fun x hx => by simp at hx; omega, fun x hx j hj => by simp at hx; omega⟩, ?_⟩
  refine ⟨(hg.alloc _ _).alloc _ _, ⟨r, ?_, fun j hj => hrj j (Nat.zero_le _) hj⟩, alloc_at _ _ (by simp), ?_, ?_⟩
  · rw [alloc_old _ _ (by simp; omega), alloc_old _ _ (by omega)]; exact hr
  · intro j hj
    obtain ⟨c, hc, hc2⟩ := hseg j (Nat.zero_le _) hj
    refine ⟨c, ?_, ?_⟩
    · rw [alloc_old _ _ (by show w.heap.size + n - j < _; simp; omega), alloc_old _ _ (by show w.heap.size + n - j < _; omega)]; exact hc
    · rw [hc2]; rfl
  · intro x hx
    simp at hx
    subst hx
    exact ⟨c0, by rw [alloc_old _ _ (by simp), alloc_at _ _ rfl]⟩

theorem Built.drew {w w' : World} {n : Nat} {t : Int} {B Q : Nat} {S : Nat → Nat} {X : Option Nat} (h : Built w w' n t B Q S X) : Built w w'.drew n t B Q S X :=
  ⟨h.1, ⟨h.2.grown.drew, h.2.row, h.2.q, h.2.segs, h.2.xs⟩⟩

set_option maxHeartbeats 2000000 in
theorem build_walk (n : Nat) (t : Int) (hs : Bool) (h1 : 1 ≤ n) (h2 : n ≤ 128) (w : World) :
    Calls Try.prog 11 #[.int .i64 n, .int .i64 t, .bool hs] w fun e w' => ∃ (B Q : Nat) (S : Nat → Nat) (X : Option Nat),
      e = .returned (.tuple #[.slice (some ⟨B, 0, none⟩) n n, .pointer (ptrOf X), .pointer (some ⟨Q, 0, none⟩)]) ∧ Built w w' n t B Q S X := by
  obtain ⟨mc, hmc, hmk⟩ := make27 n h2
  obtain ⟨v0, hv0⟩ : ∃ v, mc[n - 1]? = some v := ⟨_, Array.getElem?_eq_getElem (by omega)⟩
  go_enter Try.func11, Try.ntmps11
  go_wp2_with fail
  refine (newSeg none _).mono ?_
  rintro e w' ⟨rfl, c, hc, rfl⟩
  go_wp2_with fail
  go_loopw [10] (fun i wr => ∃ m : Nat, i = .int .i64 ((m : Int) - 1) ∧ m ≤ n - 1 ∧ Bld w wr n m) (fun i _ => (intOf i + 1).toNat)
  case atStart => exact ⟨n - 1, by congr 1; omega, Nat.le_refl _, Bld.start w n h1 mc c hmc hc⟩
  case round =>
    obtain ⟨m, rfl, hm, hB⟩ := hrel
    clear hmk hmc hc hv0
    rcases m with _ | m
    · obtain ⟨r, hr, hrs, hrj⟩ := hB.row
      have hcA : wr.cell? ⟨w.heap.size, 0, none⟩ = some (.pointer (some ⟨w.heap.size + n, 0, none⟩)) := by
        rw [cell_of_row _ _ _ _ _ _ hr]; exact hrj 0 (Nat.le_refl _) (by omega)
      have hcB : wr.cell? ⟨w.heap.size, n - 1, none⟩ = some (.pointer (some ⟨w.heap.size + n - (n - 1), 0, none⟩)) := by
        rw [cell_of_row _ _ _ _ _ _ hr]; exact hrj (n - 1) (by omega) (by omega)
      have hsz := hB.size
      have hlt : w.heap.size < wr.heap.size := by omega
      clear hr hrs hrj hsz
      have i1 : (1 : Int) ≤ n := by omega
      have i2 : (0 : Int) ≤ (n : Int) - 1 := by omega
      have i3 : (n : Int) - 1 < n := by omega
      have i4 : IntKind.i64.wrap ((n : Int) - 1) = (n : Int) - 1 := by rw [IntKind.wrap_i64]; omega
      by_cases hn : (1 : Int) < n
      · have HH : Hid (headOf n t = 1024) := if_pos (by omega)
        cases hs
        · go_wp2_with fail
          go_region_with (go_at_call 31; refine (newQ _ _ _ _ _ _).mono ?_; rintro e w' ⟨rfl, rfl⟩)
          all_goals
            go_wp2_with fail
            go_ret3
            have hfin := (built_bare (t := t) h1 hB).drew
            rw [HH.out] at hfin
            exact ⟨_, _, _, none, rfl, hfin⟩
        · go_wp2_with fail
          refine (newSeg _ _).mono ?_
          rintro e w' ⟨rfl, c0, hc0, rfl⟩
          go_wp2_with fail
          go_region_with (go_at_call 31; refine (newQ _ _ _ _ _ _).mono ?_; rintro e w' ⟨rfl, rfl⟩)
          all_goals
            go_wp2_with fail
            go_ret3
            have hfin := (built_spare (t := t) h1 hB c0).drew
            rw [HH.out] at hfin
            exact ⟨_, _, _, some _, rfl, hfin⟩
      · have HH : Hid (headOf n t = t) := if_neg (by omega)
        cases hs
        · go_wp2_with fail
          go_region_with (go_at_call 31; refine (newQ _ _ _ _ _ _).mono ?_; rintro e w' ⟨rfl, rfl⟩)
          all_goals
            go_wp2_with fail
            go_ret3
            have hfin := (built_bare (t := t) h1 hB).drew
            rw [HH.out] at hfin
            exact ⟨_, _, _, none, rfl, hfin⟩
        · go_wp2_with fail
          refine (newSeg _ _).mono ?_
          rintro e w' ⟨rfl, c0, hc0, rfl⟩
          go_wp2_with fail
          go_region_with (go_at_call 31; refine (newQ _ _ _ _ _ _).mono ?_; rintro e w' ⟨rfl, rfl⟩)
          all_goals
            go_wp2_with fail
            go_ret3
            have hfin := (built_spare (t := t) h1 hB c0).drew
            rw [HH.out] at hfin
            exact ⟨_, _, _, some _, rfl, hfin⟩
    · have e1 : ((m + 1 : Nat) : Int) - 1 = (m : Int) := by omega
      rw [e1]
      obtain ⟨r, hr, hrs, hrj⟩ := hB.row
      have hc1 : wr.cell? ⟨w.heap.size, m + 1, none⟩ = some (.pointer (some ⟨w.heap.size + n - (m + 1), 0, none⟩)) := by
        rw [cell_of_row _ _ _ _ _ _ hr]; exact hrj (m + 1) (Nat.le_refl _) (by omega)
      have hc0 : ∃ v, wr.cell? ⟨w.heap.size, m, none⟩ = some v := by
        rw [cell_of_row _ _ _ _ _ _ hr]; exact ⟨_, Array.getElem?_eq_getElem (by omega)⟩
      obtain ⟨v0, hc0⟩ := hc0
      have hf0 : wr.frozen? ⟨w.heap.size, m, none⟩ = false := by simp [World.frozen?, hr]
      have hsz := hB.size
      have hlt : w.heap.size < wr.heap.size := by omega
      clear hr hrs hrj hsz
      go_wp2_with fail
      refine (newSeg _ _).mono ?_
      rintro e w' ⟨rfl, c, hc, rfl⟩
      go_wp2_with fail
      go_roundw
      case rel => exact ⟨m, by go_num, by omega, hB.step (by omega) c hc⟩
      case measure => simp [intOf]

end Go.Proofs.Qxb6613268a
