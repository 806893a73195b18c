/-
  THE ROW: the shell's frame (proof-skeleton), its hole filled by the walks of this family.
-/
import Derived.Test.Qxb6601280aRows
import Derived.Test.Qxb6601280aStart
import Derived.WalkKit
import Derived.ProofKit
import Derived.OpenShut
import Derived.ShutString
import Derived.ChangeOld
import Derived.Below
import Derived.WalkSpells
import Derived.WalkLawsBesides
namespace Go.Proofs.Qxb6601280a.fnStartLineOpensALineAsTheLineModelSays
open Go.ChangeShapes Go.WideShapes Go.ChangeAt Go.RowKit
open Go.ChangeMaps (open_string shut_string)
set_option linter.unusedVariables false

theorem own : ownKnob Try.prog.godebug = none := by kernel_rfl
theorem laidOut : laidOutB Try.prog = true := by kernel_rfl

/-! ### THE WALK -/
set_option maxHeartbeats 1000000 in
theorem walk (a0 : Bool) (a1 : Int) (a2 : Int) (a3 : Int) (a4 : Option Addr) (len4 cap4 : Nat) (z4 : List Int) (w : World) (w1 : (Lit.int .i64 a1).wf = true) (w2 : (Lit.int .i64 a2).wf = true) (w3 : (Lit.int .i32 a3).wf = true) (w4 : IsRow .i32 w a4 len4 cap4 z4) :
    Calls Try.prog 5 #[.bool a0, .int .i64 a1, .int .i64 a2, .int .i32 a3, .slice a4 len4 cap4] w fun e w' => e = .returned (.bool true) ∧ Below w.heap.size w w' := by
  have hlo : -9223372036854775808 ≤ a2 := (bounds_i64 w2).1
  by_cases h1 : len4 ≤ 262144
  · have hby : decide (len4 ≤ 1048576) = true := by simp; omega
    have hbig : decide ((262144 : Int) < (len4 : Int)) = false := by simp; omega
    by_cases hs : a1 = 0 ∨ a1 = 1
    · cases hb : Pl.brk a3
      · refine sl_core a0 a1 a2 a3 a4 len4 cap4 z4 w hlo h1 hb ?_ ?_
        · rcases hs with h | h
          · left; exact ⟨h, by simp [h]⟩
          · right; exact ⟨h, by simp [h], by simp [h]⟩
        · intro j hj
          rcases w4 with ⟨_, h, _⟩ | ⟨x, rfl, hlc, hm, hz, hc, _⟩
          · omega
          · obtain ⟨b, off, rfl, hc'⟩ := row_at hc (by omega)
            exact ⟨b, off, rfl, hlc, hc' j (by omega)⟩
      · have hst2 : ((a1 != 0) = false) ∨ ((a1 != 0) = true ∧ (a1 != 1) = false) := by
          rcases hs with h | h
          · left; simp [h]
          · right; exact ⟨by simp [h], by simp [h]⟩
        clear hs w4
        rcases hst2 with hs0 | ⟨hs0, hs1⟩
        all_goals
          go_enter Try.func5, Try.ntmps5
          go_wp2_with (first | (go_at_call 15; refine (bytes15 _ _ _ _ _ _ _ _).mono ?_; rintro e w' ⟨rfl, rfl⟩) | (go_at_call 14; refine (brk2_any _ _).mono ?_; rintro e w' ⟨rfl, rfl⟩))
          go_ret
          exact ⟨rfl, Below.refl _ _⟩
    · have hs0 : (a1 != 0) = true := by simp; omega
      have hs1 : (a1 != 1) = true := by simp; omega
      clear hs w4
      go_enter Try.func5, Try.ntmps5
      go_wp2_with (first | (go_at_call 15; refine (bytes15 _ _ _ _ _ _ _ _).mono ?_; rintro e w' ⟨rfl, rfl⟩))
      go_ret
      exact ⟨rfl, Below.refl _ _⟩
  · by_cases h2 : len4 ≤ 1048576
    · have hby : decide (len4 ≤ 1048576) = true := by simp; omega
      have hbig : decide ((262144 : Int) < (len4 : Int)) = true := by simp; omega
      go_enter Try.func5, Try.ntmps5
      go_wp2_with (first | (go_at_call 15; refine (bytes15 _ _ _ _ _ _ _ _).mono ?_; rintro e w' ⟨rfl, rfl⟩))
      go_ret
      exact ⟨rfl, Below.refl _ _⟩
    · have hby : decide (len4 ≤ 1048576) = false := by simp; omega
      go_enter Try.func5, Try.ntmps5
      go_wp2_with (first | (go_at_call 15; refine (bytes15 _ _ _ _ _ _ _ _).mono ?_; rintro e w' ⟨rfl, rfl⟩))
      go_ret
      exact ⟨rfl, Below.refl _ _⟩

/-! ### THE ROW's STEP: WRITTEN OUT: LEAVE IT -/
set_option maxRecDepth 100000 in
theorem lifted (os : Os) (started : os.Started) (H : Type) (enc : TypeId × Value → H) :
    ReturnsInHanded {} Try.checked os 5 .any (Rows.fnStartLineOpensALineAsTheLineModelSaysSpec.pre6 enc Try.prog Try.f5 Rows.fnStartLineOpensALineAsTheLineModelSaysRow.domain false) (Rows.fnStartLineOpensALineAsTheLineModelSaysSpec.post enc Try.prog Try.f5 false true false false) := by
  refine returnsInHanded_of_change (C := Try.checked) own started (by kernel_rfl) Try.func5
    (ChangeSpec.witness6 (enc := enc) (C := Try.checked) false ⟨#[], #[.bool false, .int .i64 0, .int .i64 0, .int .i32 0, .slice none 0 0], []⟩ 8 (by kernel_rfl) (by kernel_rfl) (by kernel_rfl) (by kernel_rfl)) ?_
  intro W base args ds gs before hval0 hW hcnd _
  have hval : ∀ (j : Nat) t v, Try.f5.params[j]? = some t → args[j]? = some v → Value.okWide Try.prog W .any base t v := hval0
  have hW' := hW
  obtain ⟨p, q, hA0, hV, rfl, hfz, hnd⟩ := hW
  have hA : DataW.TrodAll enc Try.prog W 0 (fun _ => true) true Try.f5.params.toList args.toList ds p := hA0
  rw [Try.params5] at hA hval
  obtain ⟨v0, vs0, d0, ds0, p0, q0, hargs, rfl, rfl, h0, r0⟩ := trodAll_cons hA
  obtain ⟨v1, vs1, d1, ds1, p1, q1, rfl, rfl, rfl, h1, r1⟩ := trodAll_cons r0
  obtain ⟨v2, vs2, d2, ds2, p2, q2, rfl, rfl, rfl, h2, r2⟩ := trodAll_cons r1
  obtain ⟨v3, vs3, d3, ds3, p3, q3, rfl, rfl, rfl, h3, r3⟩ := trodAll_cons r2
  obtain ⟨v4, vs4, d4, ds4, p4, q4, rfl, rfl, rfl, h4, r4⟩ := trodAll_cons r3
  obtain ⟨rfl, rfl, rfl⟩ := trodAll_nil r4
  obtain rfl : args = #[v0, v1, v2, v3, v4] := by cases args; simp_all
  obtain ⟨rfl, rfl⟩ := trodVars_none hV
  obtain ⟨a0, rfl, rfl, rfl⟩ := open_bool Try.underlying4 (hval 0 4 v0 rfl rfl) h0
  obtain ⟨a1, rfl, rfl, rfl, w1⟩ := open_int Try.underlying3 (hval 1 3 v1 rfl rfl) h1
  obtain ⟨a2, rfl, rfl, rfl, w2⟩ := open_int Try.underlying3 (hval 2 3 v2 rfl rfl) h2
  obtain ⟨a3, rfl, rfl, rfl, w3⟩ := open_int Try.underlying21 (hval 3 21 v3 rfl rfl) h3
  obtain ⟨a4, len4, cap4, rfl⟩ := okWide_slice Try.underlying22 (hval 4 22 v4 rfl rfl)
  have k4 := h4
  have lt4 : ∀ x ∈ p4, x.block < W.heap.size := by obtain ⟨m, hm⟩ := k4; exact DataW.trod_lt m _ _ _ hm
  obtain ⟨z4, w4⟩ : ∃ zs, IsRow .i32 W a4 len4 cap4 zs := by
    obtain ⟨fuel, hf⟩ := h4
    rcases open_ints Try.underlying22 Try.underlying21 (by kernel_rfl) hf with ⟨hcs, _⟩ | ⟨x, l, c, zs, hcs, _, hl, hm, hz, _, hcell, hwz⟩
    · simp [Value.cells] at hcs
      obtain ⟨rfl, rfl, rfl⟩ := hcs
      exact ⟨[], .inl ⟨rfl, rfl, rfl, rfl⟩⟩
    · simp [Value.cells] at hcs
      obtain ⟨rfl, rfl, rfl⟩ := hcs
      exact ⟨zs, .inr ⟨_, rfl, hl, hm, by simpa using hz, hcell, hwz⟩⟩
  clear hA0 hval0
  refine (walk a0 a1 a2 a3 a4 len4 cap4 z4 W w1 w2 w3 w4).mono fun e W' ⟨he, bel⟩ => ?_
  subst he
  exact ⟨_, rfl, _, _, _, [], _, [], hW', trodAll_mk1 (shut_bool Try.underlying4 _), (trodAll_cons_mk (shut_bool Try.underlying4 _) (trodAll_cons_mk (shut_int Try.underlying3 w1) (trodAll_cons_mk (shut_int Try.underlying3 w2) (trodAll_cons_mk (shut_int Try.underlying21 w3) (trodAll_cons_mk (Below.trod laidOut (by kernel_rfl) (of_decide_eq_true (by kernel_rfl)) k4 bel lt4) trodAll_mk0))))), rfl, bel.frame _, fun h => by cases h⟩

theorem over : Rows.fnStartLineOpensALineAsTheLineModelSaysRow.holds Try.pinned (OpenSpec.ofChange Rows.fnStartLineOpensALineAsTheLineModelSaysSpec) :=
  OpenClaim.holds_of_wide 5 Try.f5 rfl rfl rfl rfl rfl rfl rfl ⟨rfl, rfl, rfl, rfl, rfl⟩ rfl rfl rfl rfl rfl (by kernel_rfl) Try.func5 (by kernel_rfl)
    (of_decide_eq_true (by kernel_rfl)) (by unfold Func.isWrapper; first | (rw [if_pos (by decide +kernel)]; kernel_rfl) | (rw [if_neg (by decide +kernel)]; exact ⟨rfl, rfl⟩))
    (fun os started H enc _ => lifted os started H enc)

/-- ████ THE STATEMENT ████ -/
theorem proved : Rows.FnStartLineOpensALineAsTheLineModelSaysSaid := over
end Go.Proofs.Qxb6601280a.fnStartLineOpensALineAsTheLineModelSays
