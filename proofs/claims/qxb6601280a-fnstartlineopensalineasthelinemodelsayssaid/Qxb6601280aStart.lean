/-
  THE WALK OF 'FnStartLineOpensALineAsTheLineModelSays' BEHIND ITS FIRST TESTS.
-/
import Derived.Test.Qxb6601280aFeedAny
import Derived.WalkKit
import Derived.WalkSpells
import Derived.WalkLawsBesides
import Derived.Deep.OwnRows
namespace Go.Proofs.Qxb6601280a
open Go.RowKit
set_option maxHeartbeats 400000 in
theorem bytes15 (a0 : Bool) (a1 a2 a3 : Int) (a : Option Addr) (len cap : Nat) (w : World) :
    Calls Try.prog 15 #[.bool a0, .int .i64 a1, .int .i64 a2, .int .i32 a3, .slice a len cap] w fun e w' => e = .returned (.bool (decide (len ≤ 1048576))) ∧ w' = w := by
  by_cases h : len ≤ 1048576
  · go_enter Try.func15, Try.ntmps15
    go_wp2
    go_ret
    exact ⟨ret_bool (by simp [h]), rfl⟩
  · go_enter Try.func15, Try.ntmps15
    go_wp2
    go_ret
    exact ⟨ret_bool (by simp [h]), rfl⟩

theorem row_start (w : World) (len : Nat) (c : Int) (zs : List Int) :
    (w.alloc (.cells ((madeCells #[Value.int .i32 0] (len + 1)).setIfInBounds 0 (.int .i32 c)) 21)).rowIs w.heap.size 21 (len + 1) (fun j => if j ≤ 0 then .int .i32 ((c :: zs).getD j 0) else .int .i32 0) := by
  have h := World.rowIs_alloc w ((madeCells #[Value.int .i32 0] (len + 1)).setIfInBounds 0 (.int .i32 c)) 21 (fun j => if j ≤ 0 then .int .i32 ((c :: zs).getD j 0) else .int .i32 0) (by
    intro i hi
    rw [Array.size_setIfInBounds, size_madeCells] at hi
    rw [Array.getElem?_setIfInBounds]
    by_cases e : i = 0
    · subst e
      simp [size_madeCells]
    · rw [if_neg (fun h => e h.symm)]
      have h1 : ¬ i ≤ 0 := by omega
      simp only [h1, if_false]
      simp [madeCells, hi, Nat.mod_one])
  rw [Array.size_setIfInBounds, size_madeCells] at h
  exact h

set_option maxRecDepth 100000 in
set_option maxHeartbeats 1000000 in
theorem sl_core (a0 : Bool) (a1 a2 c : Int) (ao : Option Addr) (len cap : Nat) (zs : List Int) (w : World) (hlo : -9223372036854775808 ≤ a2) (hlen : len ≤ 262144) (hb : Pl.brk c = false)
    (hst : (a1 = 0 ∧ (a1 != 0) = false) ∨ (a1 = 1 ∧ (a1 != 0) = true ∧ (a1 != 1) = false))
    (hc : ∀ j, j < len → ∃ b off, ao = some ⟨b, off, none⟩ ∧ len ≤ cap ∧ w.cell? ⟨b, off + j, none⟩ = some (.int .i32 (zs.getD j 0))) :
    Calls Try.prog 5 #[.bool a0, .int .i64 a1, .int .i64 a2, .int .i32 c, .slice ao len cap] w fun e w' => e = .returned (.bool true) ∧ Below w.heap.size w w' := by
  have HC : Hid (∀ j, j < len → ∃ b off, ao = some ⟨b, off, none⟩ ∧ len ≤ cap ∧ w.cell? ⟨b, off + j, none⟩ = some (.int .i32 (zs.getD j 0))) := hc
  clear hc
  have HST : Hid (a1 = 0 ∨ a1 = 1) := by show _ ∨ _; omega
  have hst2 : ((a1 != 0) = false) ∨ ((a1 != 0) = true ∧ (a1 != 1) = false) := by
    rcases hst with h | h
    · exact .inl h.2
    · exact .inr h.2
  clear hst
  have hby : decide (len ≤ 1048576) = true := by simp; omega
  have hbig : decide ((262144 : Int) < (len : Int)) = false := by simp; omega
  have hmk : ∀ w, (Instr.makeSlice 22 (.int .i64 ((len : Int) + 1)) (.int .i64 ((len : Int) + 1))).run Try.prog w = .ok (.slice (some ⟨w.heap.size, 0, none⟩) (len + 1) (len + 1)) (w.alloc (.cells (madeCells #[.int .i32 0] (len + 1)) 21)) := by
    intro w
    have h := run_make_row' (P := Try.prog) 22 21 (.int .i32 0) 4 Try.underlying22 info21 rfl .i64 .i64 (len + 1) (by omega) (by omega) w
    have ec : ((len + 1 : Nat) : Int) = (len : Int) + 1 := by omega
    rw [ec] at h
    exact h
  have hsz : (madeCells #[Value.int .i32 0] (len + 1)).size = len + 1 := size_madeCells _ _
  rcases hst2 with hs0 | ⟨hs0, hs1⟩
  all_goals
    go_enter Try.func5, Try.ntmps5
    go_wp2_with (first | (go_at_call 15; refine (bytes15 _ _ _ _ _ _ _ _).mono ?_; rintro e w' ⟨rfl, hw⟩; obtain rfl := hw.symm) | (go_at_call 14; refine (brk2_any _ _).mono ?_; rintro e w' ⟨rfl, hw⟩; obtain rfl := hw.symm))
    go_loopw [12] (fun vi wr => ∃ k : Nat, k ≤ len ∧ vi = .int .i64 (k : Int) ∧ wr.rowIs w.heap.size 21 (len + 1) (fun j => if j ≤ k then .int .i32 ((c :: zs).getD j 0) else .int .i32 0) ∧ Below w.heap.size w wr) (fun vi _ => len - (intOf vi).toNat)
    case atStart => exact ⟨0, by omega, rfl, row_start w len c zs, (Below.refl _ _).alloc (Nat.le_refl _) _⟩
    case round =>
      obtain ⟨k, hk, rfl, hrow, hbel⟩ := hrel
      by_cases hlt : k < len
      · obtain ⟨b, off, rfl, hlc, hcx0⟩ := HC.out k hlt
        have hcx : wr.cell? ⟨b, off + k, none⟩ = some (.int .i32 (zs.getD k 0)) := (hbel.cell (p := ⟨b, off + k, none⟩) (cell_lt hcx0)).trans hcx0
        have hco := hrow.cell (i := k + 1) (by omega)
        have hfo := hrow.frozen (k + 1)
        have HSET : Hid ((wr.setCell ⟨w.heap.size, k + 1, none⟩ (.int .i32 (zs.getD k 0))).rowIs w.heap.size 21 (len + 1) (fun j => if j ≤ k + 1 then .int .i32 ((c :: zs).getD j 0) else .int .i32 0)) := by
          refine World.rowIs.congr (hrow.set (k + 1) (.int .i32 (zs.getD k 0))) (fun j hj => ?_)
          by_cases e : j = k + 1
          · subst e; simp
          · have h1 : (j ≤ k + 1) ↔ j ≤ k := by omega
            simp only [e, if_false, h1]
        clear hcx0 HC
        generalize zs.getD k 0 = x at *
        go_wp2
        go_roundw
        case rel => exact ⟨k + 1, by omega, by go_num, HSET.out, hbel.setCell (by simp) _⟩
        case measure => simp [intOf]; omega
      · have HRU : Hid (RunesAt wr (some ⟨w.heap.size, 0, none⟩) (len + 1) (len + 1) (c :: zs)) := by
          refine .inr ⟨_, rfl, Nat.le_refl _, fun i hi => ?_⟩
          rw [hrow.cell hi]
          rw [if_pos (by omega)]
        clear HC
        go_wp2_with (first | (go_at_call 11; refine (feed_any _ _ _ _ _ _ _ _ _ HST.out hlo (by omega) HRU.out).mono ?_; rintro e w2 ⟨rfl, hb2⟩))
        go_ret
        exact ⟨rfl, hbel.trans (hb2.mono hbel.size)⟩
end Go.Proofs.Qxb6601280a
