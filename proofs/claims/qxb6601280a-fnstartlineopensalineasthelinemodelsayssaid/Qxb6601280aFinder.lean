import Derived.Test.Qxb6601280aRows
import Derived.Test.Qxb6601280aPlain
import Derived.WalkKit
import Derived.WalkSpells
import Derived.WalkLawsBesides
import Derived.Deep.QuietTactic
import Derived.BigQuiet
namespace Go.Proofs.Qxb6601280a
open Go.RowKit

/-! ### THE FINDER: the walks of isLineBreak, zzIsBreak, zzIsBlank, endLine, startLine, next, ZZNext, ZZStartLine -/

/-- the finder's block: a struct of three fields -/
abbrev fblk (d : Bool) (st m : Int) : Obj := .cells #[.bool d, .int .i64 st, .int .i64 m] 42

theorem ret_bool {a b : Bool} (h : a = b) : Ending.returned (.bool a) = .returned (.bool b) := by rw [h]
theorem fblk_eq {w : World} {d d' : Bool} {st st' m m' : Int} (h1 : d = d') (h2 : st = st') (h3 : m = m') : w.alloc (fblk d st m) = w.alloc (fblk d' st' m') := by rw [h1, h2, h3]
theorem results_tmp4 {fn : Func} {t u v x : Tmp} (h : fn.results = #[.tmp t, .tmp u, .tmp v, .tmp x]) (tmps : Array Value) (P : Program) (w : World) :
    (results fn tmps).run P w = .ok (.tuple #[tmps.getD t undef, tmps.getD u undef, tmps.getD v undef, tmps.getD x undef]) w := by
  simp [results, h]

set_option maxHeartbeats 400000 in
theorem brk_any (c : Int) (w : World) :
    Calls Try.prog 31 #[.int .i32 c] w fun e w' => e = .returned (.bool (Pl.brk c)) ∧ w' = w := by
  go_enter Try.func31, Try.ntmps31
  go_wp2
  all_goals (go_ret; exact ⟨ret_bool (by simp_all [Pl.brk]), rfl⟩)

set_option maxHeartbeats 400000 in
theorem brk2_any (c : Int) (w : World) :
    Calls Try.prog 14 #[.int .i32 c] w fun e w' => e = .returned (.bool (Pl.brk c)) ∧ w' = w := by
  go_enter Try.func14, Try.ntmps14
  go_wp2
  all_goals (go_ret; exact ⟨ret_bool (by simp_all [Pl.brk]), rfl⟩)

set_option maxHeartbeats 400000 in
theorem blk_any (c : Int) (w : World) :
    Calls Try.prog 29 #[.int .i32 c] w fun e w' => e = .returned (.bool (Pl.blk c)) ∧ w' = w := by
  go_enter Try.func29, Try.ntmps29
  go_wp2
  all_goals (go_ret; exact ⟨ret_bool (by simp_all [Pl.blk]), rfl⟩)

set_option maxHeartbeats 400000 in
theorem endLine_any (d : Bool) (st m : Int) (w : World) :
    Calls Try.prog 32 #[.pointer (some ⟨w.heap.size, 0, none⟩)] (w.alloc (fblk d st m)) fun e w' => e = .returned (.tuple #[]) ∧ w' = w.alloc (fblk (Pl.elD d st m) 1 m) := by
  go_enter Try.func32, Try.ntmps32
  go_wp2
  all_goals (go_end0; exact ⟨rfl, fblk_eq (by simp_all [Pl.elD]) rfl rfl⟩)

set_option maxHeartbeats 800000 in
theorem startLine_any (d : Bool) (st m c : Int) (w : World) :
    Calls Try.prog 30 #[.pointer (some ⟨w.heap.size, 0, none⟩), .int .i32 c] (w.alloc (fblk d st m)) fun e w' => e = .returned (.tuple #[]) ∧ w' = w.alloc (fblk d (Pl.slS d st c) (Pl.slM d st m c)) := by
  go_enter Try.func30, Try.ntmps30
  go_wp2
  all_goals (first | go_end0 | refine bodyPost_ret (results_none rfl _ _ _) rfl ?_)
  all_goals (refine ⟨rfl, fblk_eq ?_ ?_ ?_⟩ <;> simp_all [Pl.slS, Pl.slM, Pl.blk])
end Go.Proofs.Qxb6601280a
