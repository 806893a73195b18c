import Derived.Test.Qxb6601280aFinder
import Derived.WalkKit
import Derived.WalkSpells
import Derived.WalkLawsBesides
import Derived.Deep.QuietTactic
import Derived.BigQuiet
namespace Go.Proofs.Qxb6601280a
open Go.RowKit

set_option linter.unusedSimpArgs false
theorem nm0 : wrap32 ((({ data := #[37, 89, 65, 77, 76] } : ByteArray)[0]'(by decide)).toNat : Int) = 37 := by decide +kernel
theorem nm1 : wrap32 ((({ data := #[37, 89, 65, 77, 76] } : ByteArray)[1]'(by decide)).toNat : Int) = 89 := by decide +kernel
theorem nm2 : wrap32 ((({ data := #[37, 89, 65, 77, 76] } : ByteArray)[2]'(by decide)).toNat : Int) = 65 := by decide +kernel
theorem nm3 : wrap32 ((({ data := #[37, 89, 65, 77, 76] } : ByteArray)[3]'(by decide)).toNat : Int) = 77 := by decide +kernel
theorem nm4 : wrap32 ((({ data := #[37, 89, 65, 77, 76] } : ByteArray)[4]'(by decide)).toNat : Int) = 76 := by decide +kernel

/-- what 'next' owes at one state -/
abbrev NextAt (st : Int) : Prop := ∀ (d : Bool) (m c : Int) (w : World), Pl.brk c = false → -9223372036854775808 ≤ m →
    Calls Try.prog 25 #[.pointer (some ⟨w.heap.size, 0, none⟩), .int .i32 c] (w.alloc (fblk d st m)) fun e w' => e = .returned (.bool (Pl.ngot st c)) ∧ w' = w.alloc (fblk (Pl.ndoc d st m c) (Pl.nst d st m c) (Pl.nmat d st m c))

theorem next_brk (d : Bool) (st m c : Int) (w : World) (hb : Pl.brk c = true) :
    Calls Try.prog 25 #[.pointer (some ⟨w.heap.size, 0, none⟩), .int .i32 c] (w.alloc (fblk d st m)) fun e w' => e = .returned (.bool (Pl.ngot st c)) ∧ w' = w.alloc (fblk (Pl.ndoc d st m c) (Pl.nst d st m c) (Pl.nmat d st m c)) := by
  go_enter Try.func25, Try.ntmps25
  go_wp2_with (first | (go_at_call 31; refine (brk_any _ _).mono ?_; rintro e w' ⟨rfl, rfl⟩) | (go_at_call 32; refine (endLine_any _ _ _ _).mono ?_; rintro e w' ⟨rfl, rfl⟩))
  go_ret
  exact ⟨ret_bool (by simp [Pl.ngot, hb]), fblk_eq (by simp [Pl.ndoc, hb]) (by simp [Pl.nst, hb]) (by simp [Pl.nmat, hb])⟩

set_option maxHeartbeats 400000 in
theorem next_0 : NextAt 0 := by
  intro d m c w hb hlo
  go_enter Try.func25, Try.ntmps25
  go_wp2_with (first | (go_at_call 31; refine (brk_any _ _).mono ?_; rintro e w' ⟨rfl, rfl⟩) | (go_at_call 30; refine (startLine_any _ _ _ _ _).mono ?_; rintro e w' ⟨rfl, rfl⟩))
  all_goals (go_ret; refine ⟨ret_bool ?_, fblk_eq ?_ ?_ ?_⟩ <;> simp_all [Pl.ngot, Pl.nxG, Pl.ndoc, Pl.nst, Pl.nmat, Pl.nxS, Pl.nxM])

set_option maxHeartbeats 400000 in
theorem next_1 : NextAt 1 := by
  intro d m c w hb hlo
  go_enter Try.func25, Try.ntmps25
  go_wp2_with (first | (go_at_call 31; refine (brk_any _ _).mono ?_; rintro e w' ⟨rfl, rfl⟩) | (go_at_call 30; refine (startLine_any _ _ _ _ _).mono ?_; rintro e w' ⟨rfl, rfl⟩))
  all_goals (go_ret; refine ⟨ret_bool ?_, fblk_eq ?_ ?_ ?_⟩ <;> simp_all [Pl.ngot, Pl.nxG, Pl.ndoc, Pl.nst, Pl.nmat, Pl.nxS, Pl.nxM])

set_option maxHeartbeats 400000 in
theorem next_2 : NextAt 2 := by
  intro d m c w hb hlo
  go_enter Try.func25, Try.ntmps25
  go_wp2_with (first | (go_at_call 31; refine (brk_any _ _).mono ?_; rintro e w' ⟨rfl, rfl⟩))
  all_goals (go_ret; refine ⟨ret_bool ?_, fblk_eq ?_ ?_ ?_⟩ <;> simp_all [Pl.ngot, Pl.nxG, Pl.ndoc, Pl.nst, Pl.nmat, Pl.nxS, Pl.nxM, Pl.blk, Pl.nam] <;> omega)

set_option maxHeartbeats 400000 in
theorem next_4 : NextAt 4 := by
  intro d m c w hb hlo
  go_enter Try.func25, Try.ntmps25
  go_wp2_with (first | (go_at_call 31; refine (brk_any _ _).mono ?_; rintro e w' ⟨rfl, rfl⟩))
  all_goals (go_ret; refine ⟨ret_bool ?_, fblk_eq ?_ ?_ ?_⟩ <;> simp_all [Pl.ngot, Pl.nxG, Pl.ndoc, Pl.nst, Pl.nmat, Pl.nxS, Pl.nxM, Pl.blk, Pl.nam] <;> omega)

set_option maxHeartbeats 400000 in
theorem next_5 : NextAt 5 := by
  intro d m c w hb hlo
  go_enter Try.func25, Try.ntmps25
  go_wp2_with (first | (go_at_call 31; refine (brk_any _ _).mono ?_; rintro e w' ⟨rfl, rfl⟩))
  all_goals (go_ret; refine ⟨ret_bool ?_, fblk_eq ?_ ?_ ?_⟩ <;> simp_all [Pl.ngot, Pl.nxG, Pl.ndoc, Pl.nst, Pl.nmat, Pl.nxS, Pl.nxM, Pl.blk, Pl.nam] <;> omega)

set_option maxHeartbeats 400000 in
theorem next_6 : NextAt 6 := by
  intro d m c w hb hlo
  go_enter Try.func25, Try.ntmps25
  go_wp2_with (first | (go_at_call 31; refine (brk_any _ _).mono ?_; rintro e w' ⟨rfl, rfl⟩))
  all_goals (go_ret; refine ⟨ret_bool ?_, fblk_eq ?_ ?_ ?_⟩ <;> simp_all [Pl.ngot, Pl.nxG, Pl.ndoc, Pl.nst, Pl.nmat, Pl.nxS, Pl.nxM, Pl.blk, Pl.nam] <;> omega)

set_option maxHeartbeats 400000 in
theorem next_7 : NextAt 7 := by
  intro d m c w hb hlo
  go_enter Try.func25, Try.ntmps25
  go_wp2_with (first | (go_at_call 31; refine (brk_any _ _).mono ?_; rintro e w' ⟨rfl, rfl⟩))
  all_goals (go_ret; refine ⟨ret_bool ?_, fblk_eq ?_ ?_ ?_⟩ <;> simp_all [Pl.ngot, Pl.nxG, Pl.ndoc, Pl.nst, Pl.nmat, Pl.nxS, Pl.nxM, Pl.blk, Pl.nam] <;> omega)


set_option maxHeartbeats 400000 in
theorem next_far (st : Int) (h0 : (st == 0) = false) (h1 : (st == 1) = false) (h2 : (st == 2) = false) (h3 : (st == 3) = false) (h4 : (st == 4) = false) (h5 : (st == 5) = false) (h6 : (st == 6) = false) (h7 : (st == 7) = false) : NextAt st := by
  intro d m c w hb hlo
  go_enter Try.func25, Try.ntmps25
  go_wp2_with (first | (go_at_call 31; refine (brk_any _ _).mono ?_; rintro e w' ⟨rfl, rfl⟩))
  all_goals (go_ret; refine ⟨ret_bool ?_, fblk_eq ?_ ?_ ?_⟩ <;> simp_all [Pl.ngot, Pl.nxG, Pl.ndoc, Pl.nst, Pl.nmat, Pl.nxS, Pl.nxM, Pl.blk, Pl.nam] <;> omega)

set_option maxHeartbeats 400000 in
theorem next_3_0 (d : Bool) (c : Int) (w : World) (hb : Pl.brk c = false) :
    Calls Try.prog 25 #[.pointer (some ⟨w.heap.size, 0, none⟩), .int .i32 c] (w.alloc (fblk d 3 0)) fun e w' => e = .returned (.bool (Pl.ngot 3 c)) ∧ w' = w.alloc (fblk (Pl.ndoc d 3 0 c) (Pl.nst d 3 0 c) (Pl.nmat d 3 0 c)) := by
  go_enter Try.func25, Try.ntmps25
  go_wp2_with (first | (go_at_call 31; refine (brk_any _ _).mono ?_; rintro e w' ⟨rfl, rfl⟩))
  all_goals (go_ret; refine ⟨ret_bool ?_, fblk_eq ?_ ?_ ?_⟩ <;> simp_all [Pl.ngot, Pl.nxG, Pl.ndoc, Pl.nst, Pl.nmat, Pl.nxS, Pl.nxM, Pl.blk, Pl.nam, nm0] <;> omega)

set_option maxHeartbeats 400000 in
theorem next_3_1 (d : Bool) (c : Int) (w : World) (hb : Pl.brk c = false) :
    Calls Try.prog 25 #[.pointer (some ⟨w.heap.size, 0, none⟩), .int .i32 c] (w.alloc (fblk d 3 1)) fun e w' => e = .returned (.bool (Pl.ngot 3 c)) ∧ w' = w.alloc (fblk (Pl.ndoc d 3 1 c) (Pl.nst d 3 1 c) (Pl.nmat d 3 1 c)) := by
  go_enter Try.func25, Try.ntmps25
  go_wp2_with (first | (go_at_call 31; refine (brk_any _ _).mono ?_; rintro e w' ⟨rfl, rfl⟩))
  all_goals (go_ret; refine ⟨ret_bool ?_, fblk_eq ?_ ?_ ?_⟩ <;> simp_all [Pl.ngot, Pl.nxG, Pl.ndoc, Pl.nst, Pl.nmat, Pl.nxS, Pl.nxM, Pl.blk, Pl.nam, nm1] <;> omega)

set_option maxHeartbeats 400000 in
theorem next_3_2 (d : Bool) (c : Int) (w : World) (hb : Pl.brk c = false) :
    Calls Try.prog 25 #[.pointer (some ⟨w.heap.size, 0, none⟩), .int .i32 c] (w.alloc (fblk d 3 2)) fun e w' => e = .returned (.bool (Pl.ngot 3 c)) ∧ w' = w.alloc (fblk (Pl.ndoc d 3 2 c) (Pl.nst d 3 2 c) (Pl.nmat d 3 2 c)) := by
  go_enter Try.func25, Try.ntmps25
  go_wp2_with (first | (go_at_call 31; refine (brk_any _ _).mono ?_; rintro e w' ⟨rfl, rfl⟩))
  all_goals (go_ret; refine ⟨ret_bool ?_, fblk_eq ?_ ?_ ?_⟩ <;> simp_all [Pl.ngot, Pl.nxG, Pl.ndoc, Pl.nst, Pl.nmat, Pl.nxS, Pl.nxM, Pl.blk, Pl.nam, nm2] <;> omega)

set_option maxHeartbeats 400000 in
theorem next_3_3 (d : Bool) (c : Int) (w : World) (hb : Pl.brk c = false) :
    Calls Try.prog 25 #[.pointer (some ⟨w.heap.size, 0, none⟩), .int .i32 c] (w.alloc (fblk d 3 3)) fun e w' => e = .returned (.bool (Pl.ngot 3 c)) ∧ w' = w.alloc (fblk (Pl.ndoc d 3 3 c) (Pl.nst d 3 3 c) (Pl.nmat d 3 3 c)) := by
  go_enter Try.func25, Try.ntmps25
  go_wp2_with (first | (go_at_call 31; refine (brk_any _ _).mono ?_; rintro e w' ⟨rfl, rfl⟩))
  all_goals (go_ret; refine ⟨ret_bool ?_, fblk_eq ?_ ?_ ?_⟩ <;> simp_all [Pl.ngot, Pl.nxG, Pl.ndoc, Pl.nst, Pl.nmat, Pl.nxS, Pl.nxM, Pl.blk, Pl.nam, nm3] <;> omega)

set_option maxHeartbeats 400000 in
theorem next_3_4 (d : Bool) (c : Int) (w : World) (hb : Pl.brk c = false) :
    Calls Try.prog 25 #[.pointer (some ⟨w.heap.size, 0, none⟩), .int .i32 c] (w.alloc (fblk d 3 4)) fun e w' => e = .returned (.bool (Pl.ngot 3 c)) ∧ w' = w.alloc (fblk (Pl.ndoc d 3 4 c) (Pl.nst d 3 4 c) (Pl.nmat d 3 4 c)) := by
  go_enter Try.func25, Try.ntmps25
  go_wp2_with (first | (go_at_call 31; refine (brk_any _ _).mono ?_; rintro e w' ⟨rfl, rfl⟩))
  all_goals (go_ret; refine ⟨ret_bool ?_, fblk_eq ?_ ?_ ?_⟩ <;> simp_all [Pl.ngot, Pl.nxG, Pl.ndoc, Pl.nst, Pl.nmat, Pl.nxS, Pl.nxM, Pl.blk, Pl.nam, nm4] <;> omega)

set_option maxHeartbeats 400000 in
theorem next_3_far (d : Bool) (m c : Int) (w : World) (hb : Pl.brk c = false) (hm : 5 ≤ m) :
    Calls Try.prog 25 #[.pointer (some ⟨w.heap.size, 0, none⟩), .int .i32 c] (w.alloc (fblk d 3 m)) fun e w' => e = .returned (.bool (Pl.ngot 3 c)) ∧ w' = w.alloc (fblk (Pl.ndoc d 3 m c) (Pl.nst d 3 m c) (Pl.nmat d 3 m c)) := by
  go_enter Try.func25, Try.ntmps25
  go_wp2_with (first | (go_at_call 31; refine (brk_any _ _).mono ?_; rintro e w' ⟨rfl, rfl⟩))
  all_goals (go_ret; refine ⟨ret_bool ?_, fblk_eq ?_ ?_ ?_⟩ <;> simp_all [Pl.ngot, Pl.nxG, Pl.ndoc, Pl.nst, Pl.nmat, Pl.nxS, Pl.nxM, Pl.blk, Pl.nam] <;> omega)


/-- 'next' at every state -/
theorem next_any (d : Bool) (st m c : Int) (w : World) (h3 : st = 3 → 0 ≤ m) (hlo : -9223372036854775808 ≤ m) :
    Calls Try.prog 25 #[.pointer (some ⟨w.heap.size, 0, none⟩), .int .i32 c] (w.alloc (fblk d st m)) fun e w' => e = .returned (.bool (Pl.ngot st c)) ∧ w' = w.alloc (fblk (Pl.ndoc d st m c) (Pl.nst d st m c) (Pl.nmat d st m c)) := by
  by_cases hb : Pl.brk c = true
  · exact next_brk d st m c w hb
  have hb' : Pl.brk c = false := by simpa using hb
  by_cases e0 : st = 0
  · subst e0; exact next_0 d m c w hb' hlo
  by_cases e1 : st = 1
  · subst e1; exact next_1 d m c w hb' hlo
  by_cases e2 : st = 2
  · subst e2; exact next_2 d m c w hb' hlo
  by_cases e3 : st = 3
  · subst e3
    have hm := h3 rfl
    by_cases m0 : m = 0
    · subst m0; exact next_3_0 d c w hb'
    by_cases m1 : m = 1
    · subst m1; exact next_3_1 d c w hb'
    by_cases m2 : m = 2
    · subst m2; exact next_3_2 d c w hb'
    by_cases m3 : m = 3
    · subst m3; exact next_3_3 d c w hb'
    by_cases m4 : m = 4
    · subst m4; exact next_3_4 d c w hb'
    exact next_3_far d m c w hb' (by omega)
  by_cases e4 : st = 4
  · subst e4; exact next_4 d m c w hb' hlo
  by_cases e5 : st = 5
  · subst e5; exact next_5 d m c w hb' hlo
  by_cases e6 : st = 6
  · subst e6; exact next_6 d m c w hb' hlo
  by_cases e7 : st = 7
  · subst e7; exact next_7 d m c w hb' hlo
  exact next_far st (by simpa using e0) (by simpa using e1) (by simpa using e2) (by simpa using e3) (by simpa using e4) (by simpa using e5) (by simpa using e6) (by simpa using e7) d m c w hb' hlo
end Go.Proofs.Qxb6601280a
