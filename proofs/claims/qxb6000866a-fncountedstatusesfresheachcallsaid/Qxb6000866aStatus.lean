/-
  THE WALKS OF countedStatuses, zzCount, zzKnownStatus, zzCountedWellFormed: everything is a constant.
-/
import Derived.Test.Qxb6000866aRows
import Derived.WalkKit
import Derived.WalkSpells
import Derived.WalkLawsBesides
namespace Go.Proofs.Qxb6000866a
open Go.RowKit

/-- the three statuses, and the word that overwrites them -/
abbrev sSub : ByteArray := ⟨#[115, 117, 98, 109, 105, 116, 116, 101, 100]⟩
abbrev sApp : ByteArray := ⟨#[97, 112, 112, 114, 111, 118, 101, 100]⟩
abbrev sCor : ByteArray := ⟨#[99, 111, 114, 114, 101, 99, 116, 101, 100]⟩
abbrev sTam : ByteArray := ⟨#[116, 97, 109, 112, 101, 114, 101, 100]⟩

set_option maxHeartbeats 400000 in
theorem known_sub (w : World) : Calls Try.prog 24 #[.string sSub] w fun e w' => e = .returned (.bool true) ∧ w' = w := by
  go_enter Try.func24, Try.ntmps24
  go_wp2
  go_ret
  exact ⟨rfl, rfl⟩
set_option maxHeartbeats 400000 in
theorem known_app (w : World) : Calls Try.prog 24 #[.string sApp] w fun e w' => e = .returned (.bool true) ∧ w' = w := by
  go_enter Try.func24, Try.ntmps24
  go_wp2
  go_ret
  exact ⟨rfl, rfl⟩
set_option maxHeartbeats 400000 in
theorem known_cor (w : World) : Calls Try.prog 24 #[.string sCor] w fun e w' => e = .returned (.bool true) ∧ w' = w := by
  go_enter Try.func24, Try.ntmps24
  go_wp2
  go_ret
  exact ⟨rfl, rfl⟩
set_option maxHeartbeats 400000 in
theorem counted_yes (w : World) : Calls Try.prog 23 #[.bool true] w fun e w' => e = .returned (.slice (some ⟨w.heap.size, 0, none⟩) 2 2) ∧ w' = w.alloc (.cells #[.string sApp, .string sCor] 34) := by
  go_enter Try.func23, Try.ntmps23
  go_wp2
  go_ret
  exact ⟨rfl, rfl⟩
set_option maxHeartbeats 400000 in
theorem counted_no (w : World) : Calls Try.prog 23 #[.bool false] w fun e w' => e = .returned (.slice (some ⟨w.heap.size, 0, none⟩) 1 1) ∧ w' = w.alloc (.cells #[.string sSub] 34) := by
  go_enter Try.func23, Try.ntmps23
  go_wp2
  go_ret
  exact ⟨rfl, rfl⟩

set_option maxHeartbeats 400000 in
theorem count_1 (g : Nat) (s0 t : ByteArray) (b0 : Bool) (w : World) (h0 : w.cell? ⟨g, 0, none⟩ = some (.string s0)) (e0 : (s0.toList == t.toList) = b0) :
    Calls Try.prog 22 #[.slice (some ⟨g, 0, none⟩) 1 1, .string t] w fun e w' => e = .returned (.int .i64 (if b0 = true then 1 else 0)) ∧ w' = w := by
  cases b0
  all_goals
    go_enter Try.func22, Try.ntmps22
    go_wp2
    refine wp_loop_rounds 2 ?_
    rw [rounds_succ]
    go_wp2
    rw [rounds_succ]
    go_wp2
    go_ret
    exact ⟨rfl, rfl⟩
set_option maxHeartbeats 400000 in
theorem count_2 (g : Nat) (s0 s1 t : ByteArray) (b0 b1 : Bool) (w : World) (h0 : w.cell? ⟨g, 0, none⟩ = some (.string s0)) (h1 : w.cell? ⟨g, 1, none⟩ = some (.string s1)) (e0 : (s0.toList == t.toList) = b0) (e1 : (s1.toList == t.toList) = b1) :
    Calls Try.prog 22 #[.slice (some ⟨g, 0, none⟩) 2 2, .string t] w fun e w' => e = .returned (.int .i64 ((if b0 = true then 1 else 0) + (if b1 = true then 1 else 0))) ∧ w' = w := by
  cases b0 <;> cases b1
  all_goals
    go_enter Try.func22, Try.ntmps22
    go_wp2
    refine wp_loop_rounds 3 ?_
    rw [rounds_succ]
    go_wp2
    rw [rounds_succ]
    go_wp2
    rw [rounds_succ]
    go_wp2
    go_ret
    exact ⟨rfl, rfl⟩

theorem ne_list (a b : ByteArray) (h : (a.data.toList == b.data.toList) = false) : (a.toList == b.toList) = false := by
  rw [ByteArray.toList_eq, ByteArray.toList_eq]; exact h
theorem eq_list (a b : ByteArray) (h : (a.data.toList == b.data.toList) = true) : (a.toList == b.toList) = true := by
  rw [ByteArray.toList_eq, ByteArray.toList_eq]; exact h

set_option maxRecDepth 100000 in
set_option maxHeartbeats 1000000 in
theorem formed_yes (g : Nat) (w : World) (h0 : w.cell? ⟨g, 0, none⟩ = some (.string sApp)) (h1 : w.cell? ⟨g, 1, none⟩ = some (.string sCor)) :
    Calls Try.prog 25 #[.slice (some ⟨g, 0, none⟩) 2 2, .bool true] w fun e w' => e = .returned (.bool true) ∧ w' = w := by
  have Happ : Hid (Calls Try.prog 22 #[.slice (some ⟨g, 0, none⟩) 2 2, .string sApp] w fun e w' => e = .returned (.int .i64 1) ∧ w' = w) :=
    count_2 g sApp sCor sApp true false w h0 h1 (eq_list _ _ (by decide)) (ne_list _ _ (by decide))
  have Hcor : Hid (Calls Try.prog 22 #[.slice (some ⟨g, 0, none⟩) 2 2, .string sCor] w fun e w' => e = .returned (.int .i64 1) ∧ w' = w) :=
    count_2 g sApp sCor sCor false true w h0 h1 (ne_list _ _ (by decide)) (eq_list _ _ (by decide))
  have Hsub : Hid (Calls Try.prog 22 #[.slice (some ⟨g, 0, none⟩) 2 2, .string sSub] w fun e w' => e = .returned (.int .i64 0) ∧ w' = w) :=
    count_2 g sApp sCor sSub false false w h0 h1 (ne_list _ _ (by decide)) (ne_list _ _ (by decide))
  go_enter Try.func25, Try.ntmps25
  go_wp2_with fail
  refine wp_loop_rounds 3 ?_
  rw [rounds_succ]
  go_wp2_with fail
  refine (known_app _).mono ?_
  rintro e w' ⟨rfl, hw⟩
  obtain rfl := hw.symm
  go_wp2_with fail
  refine Happ.out.mono ?_
  rintro e w' ⟨rfl, hw⟩
  obtain rfl := hw.symm
  go_wp2_with fail
  rw [rounds_succ]
  go_wp2_with fail
  refine (known_cor _).mono ?_
  rintro e w' ⟨rfl, hw⟩
  obtain rfl := hw.symm
  go_wp2_with fail
  refine Hcor.out.mono ?_
  rintro e w' ⟨rfl, hw⟩
  obtain rfl := hw.symm
  go_wp2_with fail
  rw [rounds_succ]
  go_wp2_with fail
  refine Hsub.out.mono ?_
  rintro e w' ⟨rfl, hw⟩
  obtain rfl := hw.symm
  go_wp2_with fail
  refine Happ.out.mono ?_
  rintro e w' ⟨rfl, hw⟩
  obtain rfl := hw.symm
  go_wp2_with fail
  refine Hcor.out.mono ?_
  rintro e w' ⟨rfl, hw⟩
  obtain rfl := hw.symm
  go_wp2_with fail
  go_ret
  exact ⟨rfl, rfl⟩

set_option maxRecDepth 100000 in
set_option maxHeartbeats 1000000 in
theorem formed_no (g : Nat) (w : World) (h0 : w.cell? ⟨g, 0, none⟩ = some (.string sSub)) :
    Calls Try.prog 25 #[.slice (some ⟨g, 0, none⟩) 1 1, .bool false] w fun e w' => e = .returned (.bool true) ∧ w' = w := by
  have Happ : Hid (Calls Try.prog 22 #[.slice (some ⟨g, 0, none⟩) 1 1, .string sApp] w fun e w' => e = .returned (.int .i64 0) ∧ w' = w) :=
    count_1 g sSub sApp false w h0 (ne_list _ _ (by decide))
  have Hcor : Hid (Calls Try.prog 22 #[.slice (some ⟨g, 0, none⟩) 1 1, .string sCor] w fun e w' => e = .returned (.int .i64 0) ∧ w' = w) :=
    count_1 g sSub sCor false w h0 (ne_list _ _ (by decide))
  have Hsub : Hid (Calls Try.prog 22 #[.slice (some ⟨g, 0, none⟩) 1 1, .string sSub] w fun e w' => e = .returned (.int .i64 1) ∧ w' = w) :=
    count_1 g sSub sSub true w h0 (eq_list _ _ (by decide))
  go_enter Try.func25, Try.ntmps25
  go_wp2_with fail
  refine wp_loop_rounds 2 ?_
  rw [rounds_succ]
  go_wp2_with fail
  refine (known_sub _).mono ?_
  rintro e w' ⟨rfl, hw⟩
  obtain rfl := hw.symm
  go_wp2_with fail
  refine Hsub.out.mono ?_
  rintro e w' ⟨rfl, hw⟩
  obtain rfl := hw.symm
  go_wp2_with fail
  rw [rounds_succ]
  go_wp2_with fail
  refine Hsub.out.mono ?_
  rintro e w' ⟨rfl, hw⟩
  obtain rfl := hw.symm
  go_wp2_with fail
  refine Happ.out.mono ?_
  rintro e w' ⟨rfl, hw⟩
  obtain rfl := hw.symm
  go_wp2_with fail
  refine Hcor.out.mono ?_
  rintro e w' ⟨rfl, hw⟩
  obtain rfl := hw.symm
  go_wp2_with fail
  go_ret
  exact ⟨rfl, rfl⟩
end Go.Proofs.Qxb6000866a
