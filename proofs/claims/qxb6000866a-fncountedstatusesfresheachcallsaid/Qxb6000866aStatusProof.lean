/-
  THE ROW: the shell's frame (proof-skeleton), its hole filled by the walks of this family.
-/
import Derived.Test.Qxb6000866aRows
import Derived.Test.Qxb6000866aStatus
import Derived.WalkKit
import Derived.ProofKit
import Derived.OpenShut
import Derived.ShutString
import Derived.Below
import Derived.WalkSpells
import Derived.WalkLawsBesides
namespace Go.Proofs.Qxb6000866a.fnCountedStatusesFreshEachCall
open Go.ChangeShapes Go.WideShapes Go.ChangeAt Go.RowKit
open Go.ChangeMaps (open_string shut_string)
set_option linter.unusedVariables false      -- a walk need not use every 'w<i>' (that an integer argument fits its kind)

theorem own : ownKnob Try.prog.godebug = none := by kernel_rfl

/-! ### THE WALK -/
set_option maxRecDepth 100000 in
set_option maxHeartbeats 1000000 in
theorem walk (a0 : Bool) (w : World) :
    Calls Try.prog 9 #[.bool a0] w fun e w' => e = .returned (.bool true) ∧ Below w.heap.size w w' := by
  cases a0
  · have HT : Hid (∀ (g : Nat) (w : World), w.cell? ⟨g, 0, none⟩ = some (.string sSub) → Calls Try.prog 22 #[.slice (some ⟨g, 0, none⟩) 1 1, .string sTam] w fun e w' => e = .returned (.int .i64 0) ∧ w' = w) :=
      fun g w h => count_1 g sSub sTam false w h (ne_list _ _ (by decide))
    go_enter Try.func9, Try.ntmps9
    go_wp2_with fail
    refine (counted_no _).mono ?_
    rintro e w1 ⟨rfl, rfl⟩
    go_wp2_with fail
    refine wp_loop_rounds 2 ?_
    rw [rounds_succ]
    go_wp2_with fail
    rw [rounds_succ]
    go_wp2_with fail
    refine (counted_no _).mono ?_
    rintro e w2 ⟨rfl, rfl⟩
    go_wp2_with fail
    refine (HT.out _ _ (by simp)).mono ?_
    rintro e w3 ⟨rfl, rfl⟩
    go_wp2_with fail
    refine (formed_no _ _ (by simp)).mono ?_
    rintro e w4 ⟨rfl, rfl⟩
    go_wp2_with fail
    go_ret
    exact ⟨rfl, ((Below.refl _ w).alloc (Nat.le_refl _) _).alloc (by simp) _⟩
  · have HT : Hid (∀ (g : Nat) (w : World), w.cell? ⟨g, 0, none⟩ = some (.string sApp) → w.cell? ⟨g, 1, none⟩ = some (.string sCor) → Calls Try.prog 22 #[.slice (some ⟨g, 0, none⟩) 2 2, .string sTam] w fun e w' => e = .returned (.int .i64 0) ∧ w' = w) :=
      fun g w h h' => count_2 g sApp sCor sTam false false w h h' (ne_list _ _ (by decide)) (ne_list _ _ (by decide))
    go_enter Try.func9, Try.ntmps9
    go_wp2_with fail
    refine (counted_yes _).mono ?_
    rintro e w1 ⟨rfl, rfl⟩
    go_wp2_with fail
    refine wp_loop_rounds 3 ?_
    rw [rounds_succ]
    go_wp2_with fail
    rw [rounds_succ]
    go_wp2_with fail
    rw [rounds_succ]
    go_wp2_with fail
    refine (counted_yes _).mono ?_
    rintro e w2 ⟨rfl, rfl⟩
    go_wp2_with fail
    refine (HT.out _ _ (by simp) (by simp)).mono ?_
    rintro e w3 ⟨rfl, rfl⟩
    go_wp2_with fail
    refine (formed_yes _ _ (by simp) (by simp)).mono ?_
    rintro e w4 ⟨rfl, rfl⟩
    go_wp2_with fail
    go_ret
    exact ⟨rfl, ((Below.refl _ w).alloc (Nat.le_refl _) _).alloc (by simp) _⟩

/-! ### THE ROW's STEP: WRITTEN OUT: LEAVE IT -/
set_option maxRecDepth 100000 in
theorem lifted (os : Os) (started : os.Started) (H : Type) (enc : TypeId × Value → H) :
    ReturnsInHanded {} Try.checked os 9 .any (Rows.fnCountedStatusesFreshEachCallSpec.pre6 enc Try.prog Try.f9 Rows.fnCountedStatusesFreshEachCallRow.domain false) (Rows.fnCountedStatusesFreshEachCallSpec.post enc Try.prog Try.f9 false true false false) := by
  refine returnsInHanded_of_change (C := Try.checked) own started (by kernel_rfl) Try.func9
    (ChangeSpec.witness6 (enc := enc) (C := Try.checked) false ⟨#[], #[.bool false], []⟩ 8 (by kernel_rfl) (by kernel_rfl) (by kernel_rfl) (by kernel_rfl)) ?_
  intro W base args ds gs before hval0 hW hcnd _
  have hval : ∀ (j : Nat) t v, Try.f9.params[j]? = some t → args[j]? = some v → Value.okWide Try.prog W .any base t v := hval0
  have hW' := hW
  obtain ⟨p, q, hA0, hV, rfl, hfz, hnd⟩ := hW
  have hA : DataW.TrodAll enc Try.prog W 0 (fun _ => true) true Try.f9.params.toList args.toList ds p := hA0
  rw [Try.params9] at hA hval
  obtain ⟨v0, vs0, d0, ds0, p0, q0, hargs, rfl, rfl, h0, r0⟩ := trodAll_cons hA
  obtain ⟨rfl, rfl, rfl⟩ := trodAll_nil r0
  obtain rfl : args = #[v0] := by cases args; simp_all
  obtain ⟨rfl, rfl⟩ := trodVars_none hV
  obtain ⟨a0, rfl, rfl, rfl⟩ := open_bool Try.underlying4 (hval 0 4 v0 rfl rfl) h0
  clear hA0 hval0
  refine (walk a0 W).mono fun e W' ⟨he, hg⟩ => ?_
  subst he
  exact ⟨_, rfl, _, _, _, [], _, [], hW', trodAll_mk1 (shut_bool Try.underlying4 _), (trodAll_cons_mk (shut_bool Try.underlying4 _) trodAll_mk0), rfl, hg.frame _, fun h => by cases h⟩

theorem over : Rows.fnCountedStatusesFreshEachCallRow.holds Try.pinned (OpenSpec.ofChange Rows.fnCountedStatusesFreshEachCallSpec) :=
  OpenClaim.holds_of_wide 9 Try.f9 rfl rfl rfl rfl rfl rfl rfl ⟨rfl, rfl, rfl, rfl, rfl⟩ rfl rfl rfl rfl rfl (by kernel_rfl) Try.func9 (by kernel_rfl)
    (of_decide_eq_true (by kernel_rfl)) (by unfold Func.isWrapper; first | (rw [if_pos (by decide +kernel)]; kernel_rfl) | (rw [if_neg (by decide +kernel)]; exact ⟨rfl, rfl⟩))
    (fun os started H enc _ => lifted os started H enc)

/-- ████ THE STATEMENT ████ -/
theorem proved : Rows.FnCountedStatusesFreshEachCallSaid :=
  over
end Go.Proofs.Qxb6000866a.fnCountedStatusesFreshEachCall
