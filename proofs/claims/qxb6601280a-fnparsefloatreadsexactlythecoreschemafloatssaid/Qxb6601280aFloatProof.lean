/-
  THE ROW: the shell's frame (proof-skeleton), its hole filled by the walks of this family.
-/
import Derived.Test.Qxb6601280aRows
import Derived.Test.Qxb6601280aFloatR
import Derived.WalkKit
import Derived.ProofKit
import Derived.OpenShut
import Derived.ShutString
import Derived.Below
import Derived.WalkSpells
import Derived.WalkLawsBesides
namespace Go.Proofs.Qxb6601280a.fnParseFloatReadsExactlyTheCoreSchemaFloats
open Go.ChangeShapes Go.WideShapes Go.ChangeAt Go.RowKit
open Go.ChangeMaps (open_string shut_string)
set_option linter.unusedVariables false      -- a walk need not use every 'w<i>' (that an integer argument fits its kind)

theorem own : ownKnob Try.prog.godebug = none := by kernel_rfl

set_option maxHeartbeats 400000 in
theorem bytes16 (s : ByteArray) (w : World) :
    Calls Try.prog 16 #[.string s] w fun e w' => e = .returned (.bool (decide (s.size ≤ 1048576))) ∧ w' = w := by
  by_cases h : s.size ≤ 1048576
  · go_enter Try.func16, Try.ntmps16
    go_wp2
    go_ret
    exact ⟨ret_bool' (by simp [h]), rfl⟩
  · go_enter Try.func16, Try.ntmps16
    go_wp2
    go_ret
    exact ⟨ret_bool' (by simp [h]), rfl⟩

/-! ### THE WALK -/
set_option maxHeartbeats 1000000 in
theorem walk (a0 : ByteArray) (w0 : a0.size ≤ maxLen) (w : World) :
    Calls Try.prog 6 #[.string a0] w fun e w' => e = .returned (.bool true) ∧ Below w.heap.size w w' := by
  by_cases hs : a0.size ≤ 1048576
  · have hby : decide (a0.size ≤ 1048576) = true := by simpa using hs
    have hbig : decide ((1048576 : Int) < (a0.size : Int)) = false := by simp; omega
    have H17 : Hid (∀ w, Calls Try.prog 17 #[.string a0] w fun e w' => e = .returned (.tuple #[.bool (Tx.parse (Tx.L a0)).neg, .string (Tx.S (Tx.parse (Tx.L a0)).w), .string (Tx.S (Tx.parse (Tx.L a0)).f), .string (Tx.S (Tx.parse (Tx.L a0)).x), .bool (Tx.parse (Tx.L a0)).ok]) ∧ Below w.heap.size w w') := fun w => zzparse_any a0 w hs
    have H18 : Hid (∀ w, Calls Try.prog 18 #[.string a0] w fun e w' => e = .returned (mval (Tx.model (Tx.L a0))) ∧ w' = w) := fun w => model_any a0 w hs
    have hm := Tx.model_eq (Tx.L a0)
    cases hok : (Tx.parse (Tx.L a0)).ok
    · -- refused
      have H19 : Hid (∀ w, Calls Try.prog 19 #[.string a0, .bool (Tx.parse (Tx.L a0)).neg, .string (Tx.S (Tx.parse (Tx.L a0)).w), .string (Tx.S (Tx.parse (Tx.L a0)).f), .string (Tx.S (Tx.parse (Tx.L a0)).x)] w fun e w' => e = .returned (.bool true) ∧ w' = w) := by
        intro w
        refine refused_go a0 _ _ _ _ w hs ?_
        show _ ∨ _
        simp only [Tx.L_S]
        rcases Tx.refused (Tx.L a0) hok with ⟨h1, h2⟩ | ⟨h1, h2, h3, h4⟩
        · left
          rw [h1]
          exact ⟨rfl, h2⟩
        · right
          refine ⟨?_, h2, h3, h4⟩
          rcases h1 with h1 | h1
          · simp [zb, h1]
          · simp [zb, h1]
      rw [hok, if_neg (by simp)] at hm
      rw [hm] at H18
      rw [hok] at H17
      clear hm hok
      generalize Tx.parse (Tx.L a0) = Q at *
      go_enter Try.func6, Try.ntmps6
      go_wp2_with (first | (go_at_call 16; refine (bytes16 _ _).mono ?_; rintro e w' ⟨rfl, rfl⟩) | (go_at_call 17; refine (H17.out _).mono ?_; rintro e w1 ⟨rfl, hb1⟩) | (go_at_call 18; refine (H18.out _).mono ?_; rintro e w2 ⟨rfl, rfl⟩) | (go_at_call 19; refine (H19.out _).mono ?_; rintro e w3 ⟨rfl, rfl⟩))
      go_ret
      exact ⟨rfl, by assumption⟩
    · -- read
      rw [hok, if_pos rfl] at hm
      rw [hm] at H18
      rw [hok] at H17
      clear hm
      generalize Tx.parse (Tx.L a0) = Q at *
      obtain ⟨ok, ng, wl, fl, xl⟩ := Q
      obtain rfl : ok = true := hok
      go_enter Try.func6, Try.ntmps6
      go_wp2_with (first | (go_at_call 16; refine (bytes16 _ _).mono ?_; rintro e w' ⟨rfl, rfl⟩) | (go_at_call 17; refine (H17.out _).mono ?_; rintro e w1 ⟨rfl, hb1⟩) | (go_at_call 18; refine (H18.out _).mono ?_; rintro e w2 ⟨rfl, rfl⟩))
      go_ret
      exact ⟨rfl, by assumption⟩
  · have hby : decide (a0.size ≤ 1048576) = false := by simpa using hs
    go_enter Try.func6, Try.ntmps6
    go_wp2_with (first | (go_at_call 16; refine (bytes16 _ _).mono ?_; rintro e w' ⟨rfl, rfl⟩))
    go_ret
    exact ⟨rfl, Below.refl _ _⟩

/-! ### THE ROW's STEP: WRITTEN OUT: LEAVE IT -/
set_option maxRecDepth 100000 in
theorem lifted (os : Os) (started : os.Started) (H : Type) (enc : TypeId × Value → H) :
    ReturnsInHanded {} Try.checked os 6 .any (Rows.fnParseFloatReadsExactlyTheCoreSchemaFloatsSpec.pre6 enc Try.prog Try.f6 Rows.fnParseFloatReadsExactlyTheCoreSchemaFloatsRow.domain false) (Rows.fnParseFloatReadsExactlyTheCoreSchemaFloatsSpec.post enc Try.prog Try.f6 false true false false) := by
  refine returnsInHanded_of_change (C := Try.checked) own started (by kernel_rfl) Try.func6
    (ChangeSpec.witness6 (enc := enc) (C := Try.checked) false ⟨#[], #[.string ByteArray.empty], []⟩ 8 (by kernel_rfl) (by kernel_rfl) (by kernel_rfl) (by kernel_rfl)) ?_
  intro W base args ds gs before hval0 hW hcnd _
  have hval : ∀ (j : Nat) t v, Try.f6.params[j]? = some t → args[j]? = some v → Value.okWide Try.prog W .any base t v := hval0
  have hW' := hW
  obtain ⟨p, q, hA0, hV, rfl, hfz, hnd⟩ := hW
  have hA : DataW.TrodAll enc Try.prog W 0 (fun _ => true) true Try.f6.params.toList args.toList ds p := hA0
  rw [Try.params6] at hA hval
  obtain ⟨v0, vs0, d0, ds0, p0, q0, hargs, rfl, rfl, h0, r0⟩ := trodAll_cons hA
  obtain ⟨rfl, rfl, rfl⟩ := trodAll_nil r0
  obtain rfl : args = #[v0] := by cases args; simp_all
  obtain ⟨rfl, rfl⟩ := trodVars_none hV
  obtain ⟨a0, rfl, rfl, rfl, w0⟩ := open_string Try.underlying9 (hval 0 9 v0 rfl rfl) h0
  clear hA0 hval0
  refine (walk a0 w0 W).mono fun e W' ⟨he, hg⟩ => ?_
  subst he
  exact ⟨_, rfl, _, _, _, [], _, [], hW', trodAll_mk1 (shut_bool Try.underlying4 _), (trodAll_cons_mk (shut_string Try.underlying9 w0) trodAll_mk0), rfl, hg.frame _, fun h => by cases h⟩

theorem over : Rows.fnParseFloatReadsExactlyTheCoreSchemaFloatsRow.holds Try.pinned (OpenSpec.ofChange Rows.fnParseFloatReadsExactlyTheCoreSchemaFloatsSpec) :=
  OpenClaim.holds_of_wide 6 Try.f6 rfl rfl rfl rfl rfl rfl rfl ⟨rfl, rfl, rfl, rfl, rfl⟩ rfl rfl rfl rfl rfl (by kernel_rfl) Try.func6 (by kernel_rfl)
    (of_decide_eq_true (by kernel_rfl)) (by unfold Func.isWrapper; first | (rw [if_pos (by decide +kernel)]; kernel_rfl) | (rw [if_neg (by decide +kernel)]; exact ⟨rfl, rfl⟩))
    (fun os started H enc _ => lifted os started H enc)

/-- ████ THE STATEMENT ████ -/
theorem proved : Rows.FnParseFloatReadsExactlyTheCoreSchemaFloatsSaid :=
  over
end Go.Proofs.Qxb6601280a.fnParseFloatReadsExactlyTheCoreSchemaFloats
