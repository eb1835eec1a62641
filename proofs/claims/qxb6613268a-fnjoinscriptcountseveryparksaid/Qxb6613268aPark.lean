/-
  parking's state word: the leaves of the shim, joined, join.
-/
import Derived.Test.Qxb6613268aWorker
import Derived.Test.Qxb6613268aBits
namespace Go.Proofs.Qxb6613268a
open Go.RowKit

/-- sync/atomic.AndT: what the cell held is handed back; the conjunction is stored. -/
theorem run_call_and {P : Program} {f : FuncId} {fn : Func} (hf : P.funcs[f]? = some fn) (hname : (fn.name == "runtime.NumGoroutine") = false) (hb : fn.body.isNone = true) (hn : Extern.findNext fn = none) (k : IntKind)
    (he : Extern.find fn = some (Extern.Atomic.update (Op.intBits .and) k false)) {a : Addr} {x y : Int} {w : World} (hc : w.cell? a = some (.int k x)) (hz : w.frozen? a = false) :
    (callFunc f #[.pointer (some a), .int k y]).run P w = .ok (.value (.int k x)) (w.setCell a (.int k (bits .and k x y))) := by
  rw [run_callFunc_extern hf hname hb hn he]
  change (Sem.run P (do
    let a' ← asAddr (.pointer (some a))
    let old ← Extern.Atomic.read (.int k) a'
    let new ← Op.intBits .and k (← asInt old) (← asInt (.int k y))
    store a' new .atomic
    pure (if false = true then new else old)) w).andThen _ = _
  simp [Extern.Atomic.read, asAddr, asInt, asIntOf, hc, hz, intBits_and, run_store P w a (.int k (bits .and k x y)) .atomic rfl, Result.andThen]

set_option maxHeartbeats 400000 in
theorem acas (b o : Nat) (x y : Int) (w : World) (h : w.cell? ⟨b, o, none⟩ = some (.int .u64 x)) (f : w.frozen? ⟨b, o, none⟩ = false) :
    Calls Try.prog 40 #[.pointer (some ⟨b, o, none⟩), .int .u64 x, .int .u64 y] w fun e w' => e = .returned (.bool true) ∧ w' = w.setCell ⟨b, o, none⟩ (.int .u64 y) := by
  have hl := run_call_cas_hit (P := Try.prog) Try.func44 (by kernel_rfl) (by kernel_rfl) (by kernel_rfl) .u64 (by kernel_rfl) (y := y) h f
  go_enter Try.func40, Try.ntmps40
  go_wp2
  go_ret
  exact ⟨rfl, rfl⟩

set_option maxHeartbeats 400000 in
theorem aand (b o : Nat) (x y z : Int) (w : World) (h : w.cell? ⟨b, o, none⟩ = some (.int .u64 x)) (f : w.frozen? ⟨b, o, none⟩ = false) (hz : bits .and .u64 x y = z) :
    Calls Try.prog 42 #[.pointer (some ⟨b, o, none⟩), .int .u64 y] w fun e w' => e = .returned (.int .u64 x) ∧ w' = w.setCell ⟨b, o, none⟩ (.int .u64 z) := by
  subst hz
  have hl := run_call_and (P := Try.prog) Try.func46 (by kernel_rfl) (by kernel_rfl) (by kernel_rfl) .u64 (by kernel_rfl) (y := y) h f
  go_enter Try.func42, Try.ntmps42
  go_wp2
  go_ret
  exact ⟨rfl, rfl⟩

set_option maxHeartbeats 400000 in
/-- joined, the park count below its greatest value. -/
theorem joined_plain (s : Int) (h0 : 0 ≤ s) (h1 : s < 4611686018427387904) (hp : s / 4294967296 < 1073741823) (w : World) :
    Calls Try.prog 39 #[.int .u64 s] w fun e w' => e = .returned (.tuple #[.int .u64 (s + 4294967296 + 1), .bool false]) ∧ w' = w := by
  have hne : (bits BinOp.and IntKind.u64 s 4611686014132420608 != 4611686014132420608) = true := by
    rw [and_parks s h0 (by omega), bne_iff_ne]; omega
  go_enter Try.func39, Try.ntmps39
  go_wp2
  go_ret2
  exact ⟨rfl, rfl⟩

set_option maxHeartbeats 400000 in
/-- joined, the park count at its greatest value: it wraps around and the carry bit is set. -/
theorem joined_wrap (s : Int) (h0 : 0 ≤ s) (h1 : s < 4611686018427387904) (hp : 1073741823 ≤ s / 4294967296) (w : World) :
    Calls Try.prog 39 #[.int .u64 s] w fun e w' => e = .returned (.tuple #[.int .u64 (s % 4294967296 + 4611686018427387904 + 1), .bool true]) ∧ w' = w := by
  have hne : (bits BinOp.and IntKind.u64 s 4611686014132420608 != 4611686014132420608) = false := by
    rw [and_parks s h0 (by omega), bne_eq_false_iff_eq]; omega
  have hd := andNot_parks s h0 h1
  have p0 : 0 ≤ s % 4294967296 := by omega
  have p1 : s % 4294967296 < 4294967296 := by omega
  have ho := or_carry (s % 4294967296) p0 (by omega)
  go_enter Try.func39, Try.ntmps39
  go_wp2
  go_ret2
  exact ⟨rfl, rfl⟩

set_option maxHeartbeats 400000 in
/-- join, once stop has been called. -/
theorem join_stopped (b : Nat) (s : Int) (h0 : 0 ≤ s) (h1 : s < 18446744073709551616) (hs : 9223372036854775808 ≤ s) (w : World) (c1 : w.cell? ⟨b, 1, none⟩ = some (.int .u64 s)) :
    Calls Try.prog 34 #[.pointer (some ⟨b, 0, none⟩)] w fun e w' => e = .returned (.bool false) ∧ w' = w := by
  have hst : (bits BinOp.and IntKind.u64 s 9223372036854775808 != 0) = true := by
    rw [and_stop s h0 h1, bne_iff_ne]; omega
  have hl := aload b 1 s w c1
  clear c1 h0 h1 hs
  go_enter Try.func34, Try.ntmps34
  go_wp2_with fail
  refine wp_loop_rounds 1 ?_
  rw [rounds_succ]
  go_wp2_with fail
  refine hl.mono ?_
  rintro e w' ⟨rfl, rfl⟩
  go_wp2_with fail
  go_ret
  exact ⟨rfl, rfl⟩

set_option maxHeartbeats 400000 in
/-- join, no carry. -/
theorem join_plain (b : Nat) (s : Int) (h0 : 0 ≤ s) (h1 : s < 4611686018427387904) (hp : s / 4294967296 < 1073741823) (w : World) (c1 : w.cell? ⟨b, 1, none⟩ = some (.int .u64 s)) (f1 : w.frozen? ⟨b, 1, none⟩ = false) :
    Calls Try.prog 34 #[.pointer (some ⟨b, 0, none⟩)] w fun e w' => e = .returned (.bool true) ∧ w' = w.setCell ⟨b, 1, none⟩ (.int .u64 (s + 4294967296 + 1)) := by
  have hst : (bits BinOp.and IntKind.u64 s 9223372036854775808 != 0) = false := by
    rw [and_stop s h0 (by omega), bne_eq_false_iff_eq]; omega
  have hbo : (bits BinOp.and IntKind.u64 s 9223372032559808512 == 9223372032559808512) = false := by
    rw [and_both s h0 (by omega), beq_eq_false_iff_ne]; omega
  have hl := aload b 1 s w c1
  have hj := joined_plain s h0 h1 hp w
  have hc := acas b 1 s (s + 4294967296 + 1) w c1 f1
  clear c1 f1
  go_enter Try.func34, Try.ntmps34
  go_wp2_with fail
  refine wp_loop_rounds 1 ?_
  rw [rounds_succ]
  go_wp2_with fail
  refine hl.mono ?_
  rintro e w' ⟨rfl, hw⟩
  subst hw
  go_wp2_with fail
  refine hj.mono ?_
  rintro e w' ⟨rfl, hw⟩
  subst hw
  go_wp2_with fail
  refine hc.mono ?_
  rintro e w' ⟨rfl, hw⟩
  subst hw
  go_wp2_with fail
  go_ret
  exact ⟨rfl, rfl⟩

set_option maxHeartbeats 400000 in
/-- join, the park count wraps around and is carried. -/
theorem join_wrap (b : Nat) (s h : Int) (h0 : 0 ≤ s) (h1 : s < 4611686018427387904) (hp : 1073741823 ≤ s / 4294967296) (w : World) (c1 : w.cell? ⟨b, 1, none⟩ = some (.int .u64 s)) (f1 : w.frozen? ⟨b, 1, none⟩ = false)
    (c2 : w.cell? ⟨b, 2, none⟩ = some (.int .u64 h)) (f2 : w.frozen? ⟨b, 2, none⟩ = false) :
    Calls Try.prog 34 #[.pointer (some ⟨b, 0, none⟩)] w fun e w' => e = .returned (.bool true) ∧
      w' = ((w.setCell ⟨b, 1, none⟩ (.int .u64 (s % 4294967296 + 4611686018427387904 + 1))).setCell ⟨b, 2, none⟩ (.int .u64 ((h + 1) % 18446744073709551616))).setCell ⟨b, 1, none⟩ (.int .u64 (s % 4294967296 + 1)) := by
  have hst : (bits BinOp.and IntKind.u64 s 9223372036854775808 != 0) = false := by
    rw [and_stop s h0 (by omega), bne_eq_false_iff_eq]; omega
  have hbo : (bits BinOp.and IntKind.u64 s 9223372032559808512 == 9223372032559808512) = false := by
    rw [and_both s h0 (by omega), beq_eq_false_iff_ne]; omega
  have hl := aload b 1 s w c1
  have hj := joined_wrap s h0 h1 hp w
  have hc := acas b 1 s (s % 4294967296 + 4611686018427387904 + 1) w c1 f1
  generalize hX : s % 4294967296 + 4611686018427387904 + 1 = X at *
  have hand : bits BinOp.and IntKind.u64 X 13835058055282163711 = s % 4294967296 + 1 := by
    rw [and_notCarry X (by omega) (by omega)]; omega
  have d2 : (w.setCell ⟨b, 1, none⟩ (.int .u64 X)).cell? ⟨b, 2, none⟩ = some (.int .u64 h) := by rw [World.cell?_setCell_other _ _ _ _ (by simp)]; exact c2
  have g2 : (w.setCell ⟨b, 1, none⟩ (.int .u64 X)).frozen? ⟨b, 2, none⟩ = false := by rw [World.frozen?_setCell]; exact f2
  have ha := aadd b 2 h 1 (w.setCell ⟨b, 1, none⟩ (.int .u64 X)) d2 g2
  have d1 : ((w.setCell ⟨b, 1, none⟩ (.int .u64 X)).setCell ⟨b, 2, none⟩ (.int .u64 ((h + 1) % 18446744073709551616))).cell? ⟨b, 1, none⟩ = some (.int .u64 X) := by
    rw [World.cell?_setCell_other _ _ _ _ (by simp)]; exact World.cell?_setCell_same _ _ _ c1
  have g1 : ((w.setCell ⟨b, 1, none⟩ (.int .u64 X)).setCell ⟨b, 2, none⟩ (.int .u64 ((h + 1) % 18446744073709551616))).frozen? ⟨b, 1, none⟩ = false := by
    rw [World.frozen?_setCell, World.frozen?_setCell]; exact f1
  have hn := aand b 1 X 13835058055282163711 (s % 4294967296 + 1) ((w.setCell ⟨b, 1, none⟩ (.int .u64 X)).setCell ⟨b, 2, none⟩ (.int .u64 ((h + 1) % 18446744073709551616))) d1 g1 hand
  clear c1 f1 c2 f2 hX hand d2 g2 d1 g1
  go_enter Try.func34, Try.ntmps34
  go_wp2_with fail
  refine wp_loop_rounds 1 ?_
  rw [rounds_succ]
  go_wp2_with fail
  refine hl.mono ?_
  rintro e w' ⟨rfl, hw⟩
  subst hw
  go_wp2_with fail
  refine hj.mono ?_
  rintro e w' ⟨rfl, hw⟩
  subst hw
  go_wp2_with fail
  refine hc.mono ?_
  rintro e w' ⟨rfl, hw⟩
  subst hw
  go_wp2_with fail
  refine ha.mono ?_
  rintro e w' ⟨rfl, hw⟩
  subst hw
  go_wp2_with fail
  refine hn.mono ?_
  rintro e w' ⟨rfl, hw⟩
  subst hw
  go_wp2_with fail
  go_ret
  exact ⟨rfl, rfl⟩

end Go.Proofs.Qxb6613268a
