/-
  THE ROW: the frame as the shells of this seat have it, turned to an array of sixteen bytes by value; its hole filled by the walks of this family.
-/
import Derived.Test.Qxb6000866aRows
import Derived.Test.Qxb6000866aUuidFn
import Derived.WalkKit
import Derived.ProofKit
import Derived.OpenShut
import Derived.ShutString
import Derived.Below
import Derived.DataShut
namespace Go.Proofs.Qxb6000866a.fnIsUUIDAcceptsEveryFormattedValue
open Go.ChangeShapes Go.WideShapes Go.ChangeAt Go.RowKit

theorem own : ownKnob Try.prog.godebug = none := by kernel_rfl
theorem cells5 : Try.prog.cellsOf 5 = 1 := by kernel_rfl
theorem cells24 : Try.prog.cellsOf 24 = 16 := by kernel_rfl

theorem gather {H : Type} : ∀ (cs : List Value) (xs : List (DataW H × List MemPlace)), cs.length = xs.length →
    (∀ i, i < xs.length → ∃ n, cs[i]? = some (.int .u8 n) ∧ xs[i]? = some (.lit (.int .u8 n), []) ∧ (Lit.int .u8 n).wf = true) →
    ∃ L : List Int, cs = L.map (Value.int .u8) ∧ xs = L.map (fun n => (.lit (.int .u8 n), [])) ∧ ∀ n ∈ L, (Lit.int .u8 n).wf = true
  | [], [], _, _ => ⟨[], rfl, rfl, by simp⟩
  | [], _ :: _, h, _ => by simp at h
  | _ :: _, [], h, _ => by simp at h
  | c :: cs, x :: xs, h, hf => by
    obtain ⟨n, h1, h2, h3⟩ := hf 0 (by simp)
    obtain ⟨L, e1, e2, e3⟩ := gather cs xs (by simpa using h) (fun i hi => by
      have := hf (i + 1) (by simpa using hi)
      simpa using this)
    simp at h1 h2
    refine ⟨n :: L, by rw [h1, e1]; rfl, by rw [h2, e2]; rfl, ?_⟩
    intro m hm
    rcases List.mem_cons.1 hm with rfl | hm
    · exact h3
    · exact e3 m hm

theorem open_arr {H : Type} {enc : TypeId × Value → H} {W : World} {base b0 : Nat} {sp : Nat → Bool} {held : Bool} {v : Value} {d : DataW H} {p : List MemPlace}
    (hv : Value.okWide Try.prog W .any base 24 v) (h : DataW.Trod enc Try.prog W b0 sp held 24 v d p) :
    ∃ L : List Int, v = .agg (L.map (Value.int .u8)).toArray ∧ d = .agg (L.map fun n => .lit (.int .u8 n)) ∧ p = [] ∧ L.length = 16 ∧ ∀ n ∈ L, (Lit.int .u8 n).wf = true := by
  obtain ⟨cs, rfl, hsz, _⟩ : ∃ cs, v = .agg cs ∧ cs.size = Try.prog.cellsOf 24 ∧ Row.okWide Try.prog W .any base 24 cs := by
    simpa [Value.okWide, Try.underlying24] using hv
  rw [cells24] at hsz
  obtain ⟨l⟩ := cs
  have hl : l.length = 16 := hsz
  obtain ⟨fuel, hf⟩ := h
  obtain ⟨xs, m, _, ex, _, hxl, hel⟩ := DataW.trod_array Try.underlying24 hf
  obtain ⟨L, e1, e2, e3⟩ := gather l xs (by omega) (fun i hi => by
    have hE := hel i (by omega)
    rw [cells5, Nat.mul_one, List.getElem?_eq_getElem hi] at hE
    obtain ⟨n, c1, c2, c3⟩ := DataW.trod_int Try.underlying5 hE
    refine ⟨n, ?_, by rw [List.getElem?_eq_getElem hi, c2], c3⟩
    have h0 : ((l.drop i).take 1)[0]? = some (.int .u8 n) := by
      have : (Value.agg ⟨l⟩).cells.toList = l := rfl
      rw [this] at c1
      rw [c1]; rfl
    simpa using h0)
  subst e1 e2
  refine ⟨L, rfl, ?_, ?_, by simpa using hl, e3⟩
  · have := (Prod.mk.inj ex).1
    rw [this, List.map_map]; rfl
  · have := (Prod.mk.inj ex).2
    rw [this]
    simp

theorem shut_arr {H : Type} {enc : TypeId × Value → H} {W : World} {b0 : Nat} {sp : Nat → Bool} {held : Bool} (L : List Int) (hl : L.length = 16) (hw : ∀ n ∈ L, (Lit.int .u8 n).wf = true) :
    DataW.Trod enc Try.prog W b0 sp held 24 (.agg (L.map (Value.int .u8)).toArray) (.agg (L.map fun n => .lit (.int .u8 n))) [] := by
  refine ⟨2, ?_⟩
  have hc : (Value.agg (L.map (Value.int .u8)).toArray).cells.toList = L.map (Value.int .u8) := rfl
  rw [hc]
  have hm : ((List.range 16).mapM fun i => DataW.trod enc Try.prog W b0 sp held 1 5 (((L.map (Value.int .u8)).drop (i * Try.prog.cellsOf 5)).take (Try.prog.cellsOf 5))) = some (L.map fun n => ((.lit (.int .u8 n) : DataW H), ([] : List MemPlace))) := by
    refine mapM_some_of_get _ _ (by simp [hl]) (fun i x hx => ?_)
    obtain ⟨hi, rfl⟩ : i < 16 ∧ x = i := by
      obtain ⟨h1, h2⟩ := List.getElem?_eq_some_iff.1 hx
      simp at h1 h2
      exact ⟨h1, h2.symm⟩
    have h1 : x < L.length := by omega
    have h2 : ((L.map (Value.int .u8)).drop x).take 1 = [.int .u8 L[x]] := by
      rw [List.drop_eq_getElem_cons (by simpa using h1)]
      simp
    rw [cells5, Nat.mul_one, h2, List.getElem?_map, List.getElem?_eq_getElem h1]
    unfold DataW.trod
    rw [Try.underlying5]
    simp [hw _ (List.getElem_mem h1)]
  unfold DataW.trod
  rw [Try.underlying24]
  simp only [List.length_map, hl, cells24, if_true, hm]
  simp

set_option maxRecDepth 100000 in
theorem lifted (os : Os) (started : os.Started) (H : Type) (enc : TypeId × Value → H) :
    ReturnsInHanded {} Try.checked os 5 .any (Rows.fnIsUUIDAcceptsEveryFormattedValueSpec.pre6 enc Try.prog Try.f5 Rows.fnIsUUIDAcceptsEveryFormattedValueRow.domain false) (Rows.fnIsUUIDAcceptsEveryFormattedValueSpec.post enc Try.prog Try.f5 false true false false) := by
  refine returnsInHanded_of_change (C := Try.checked) own started (by kernel_rfl) Try.func5
    (ChangeSpec.witness6 (enc := enc) (C := Try.checked) false ⟨#[], #[.agg #[.int .u8 0, .int .u8 0, .int .u8 0, .int .u8 0, .int .u8 0, .int .u8 0, .int .u8 0, .int .u8 0, .int .u8 0, .int .u8 0, .int .u8 0, .int .u8 0, .int .u8 0, .int .u8 0, .int .u8 0, .int .u8 0], .bool false], []⟩ 8 (by kernel_rfl) (by kernel_rfl) (by kernel_rfl) (by kernel_rfl)) ?_
  intro W base args ds gs before hval0 hW hcnd _
  have hval : ∀ (j : Nat) t v, Try.f5.params[j]? = some t → args[j]? = some v → Value.okWide Try.prog W .any base t v := hval0
  have hW' := hW
  obtain ⟨p, q, hA0, hV, rfl, hfz, hnd⟩ := hW
  have hA : DataW.TrodAll enc Try.prog W 0 (fun _ => true) true Try.f5.params.toList args.toList ds p := hA0
  rw [Try.params5] at hA hval
  obtain ⟨v0, vs0, d0, ds0, p0, q0, hargs, rfl, rfl, h0, r0⟩ := trodAll_cons hA
  obtain ⟨v1, vs1, d1, ds1, p1, q1, hargs1, rfl, rfl, h1, r1⟩ := trodAll_cons r0
  obtain ⟨rfl, rfl, rfl⟩ := trodAll_nil r1
  obtain rfl : args = #[v0, v1] := by cases args; simp_all
  obtain ⟨rfl, rfl⟩ := trodVars_none hV
  obtain ⟨L, rfl, rfl, rfl, hl, hw⟩ := open_arr (hval 0 24 v0 rfl rfl) h0
  obtain ⟨a1, rfl, rfl, rfl⟩ := open_bool Try.underlying4 (hval 1 4 v1 rfl rfl) h1
  clear hA0 hval0
  have hx : ∀ x ∈ L, 0 ≤ x ∧ x ≤ 255 := by
    intro x hx
    have h : (decide ((0 : Int) ≤ x) && decide (x ≤ 255)) = true := hw x hx
    simpa using h
  refine (fn_walk L a1 W hl hx).mono fun e W' ⟨he, hg⟩ => ?_
  subst he
  exact ⟨_, rfl, _, _, _, [], _, [], hW', trodAll_mk1 (shut_bool Try.underlying4 _), (trodAll_cons_mk (shut_arr L hl hw) (trodAll_cons_mk (shut_bool Try.underlying4 _) trodAll_mk0)), rfl, hg.frame _, fun h => by cases h⟩

theorem over : Rows.fnIsUUIDAcceptsEveryFormattedValueRow.holds Try.pinned (OpenSpec.ofChange Rows.fnIsUUIDAcceptsEveryFormattedValueSpec) :=
  OpenClaim.holds_of_wide 5 Try.f5 rfl rfl rfl rfl rfl rfl rfl ⟨rfl, rfl, rfl, rfl, rfl⟩ rfl rfl rfl rfl rfl (by kernel_rfl) Try.func5 (by kernel_rfl)
    (of_decide_eq_true (by kernel_rfl)) (by unfold Func.isWrapper; first | (rw [if_pos (by decide +kernel)]; kernel_rfl) | (rw [if_neg (by decide +kernel)]; exact ⟨rfl, rfl⟩))
    (fun os started H enc _ => lifted os started H enc)

/-- ████ THE STATEMENT ████ -/
theorem proved : Rows.FnIsUUIDAcceptsEveryFormattedValueSaid :=
  over
end Go.Proofs.Qxb6000866a.fnIsUUIDAcceptsEveryFormattedValue
