/-
  THE WALK OF zzFormatUUID.
-/
import Derived.Test.Qxb6000866aUuidB
import Derived.WalkKit
import Derived.WalkSpells
import Derived.WalkLawsBesides
import Derived.Deep.OwnRows
import Derived.Maps.AppendAt
import Derived.Laws.BytesArg
import Derived.Laws.BitsLemmas
import Derived.Deep.DeepCutAuto
import Derived.Deep.CutBlock
namespace Go.Proofs.Qxb6000866a
open Go.RowKit

theorem info5 : (Try.prog.info? 5).map (fun i => (i.zero, i.size, i.bytes)) = some (some (.int .u8 0), 1, 1) := by kernel_rfl

/-- a slice of bytes that the call owns -/
abbrev Own (w : World) (base : Nat) (v : Value) (cs : List Int) : Prop := w.ownsRow base 5 1 v cs.length (cs.map (Value.int .u8))

theorem own_shape {w : World} {base : Nat} {v : Value} {xs : List Int} (h : Own w base v xs) :
    (v = .slice none 0 0 ∧ xs = []) ∨ ∃ g cap, v = .slice (some ⟨g, 0, none⟩) xs.length cap ∧ base ≤ g ∧ g < w.heap.size ∧ xs.length ≤ cap ∧ ∀ j, j < xs.length → w.cell? ⟨g, j, none⟩ = some (.int .u8 (xs.getD j 0)) := by
  have h' := h
  rcases h.2 with ⟨h1, h2⟩ | ⟨g, cap, cur, rfl, h2, h3, h4, h5, h6, h7⟩
  · left
    exact ⟨h1, List.length_eq_zero_iff.1 h2⟩
  · right
    refine ⟨g, cap, rfl, h2, (Array.getElem?_eq_some_iff.1 h3).1, h4, fun j hj => ?_⟩
    rw [h'.cellAt j (by omega)]
    simp [hj]
theorem own_snoc {w : World} {base : Nat} {v : Value} {cs : List Int} {c : Int} (h : w.ownsRow base 5 1 v (cs.length + 1) (cs.map (Value.int .u8) ++ [.int .u8 c])) : Own w base v (cs ++ [c]) := by
  simpa [Own] using h
/-- string(b) of a slice of bytes that the call owns, not empty -/
theorem own_string {w : World} {base : Nat} {v : Value} {cs : List Int} (h : Own w base v cs) (hne : cs ≠ []) :
    (convert 39 9 v).run Try.prog w = .ok (.string (strOfNums cs)) w := by
  rcases own_shape h with ⟨_, h1⟩ | ⟨g, cap, rfl, _, _, _, hc⟩
  · exact absurd h1 hne
  · exact run_convert_bytes_arg w 39 5 Try.underlying39 Try.underlying5 g 0 cs.length cap cs rfl (fun i hi => by simpa using hc i hi) 9 Try.underlying9

set_option maxRecDepth 100000 in
set_option maxHeartbeats 4000000 in
theorem format (xs : List Int) (up : Bool) (w : World) (hl : xs.length = 16) (hx : ∀ x ∈ xs, 0 ≤ x ∧ x ≤ 255) :
    Calls Try.prog 15 #[.agg (xs.map (Value.int .u8)).toArray, .bool up] w fun e w' => ∃ cs, e = .returned (.string (strOfNums cs)) ∧ cs.length = 36 ∧ Uu.al 0 cs = true ∧ Below w.heap.size w w' := by
  obtain ⟨i0, hi, hz0, hz1, hz2⟩ := info_parts info5
  have HX : Hid (∀ k, k < 16 → 0 ≤ xs.getD k 0 ∧ xs.getD k 0 ≤ 255) := by
    intro k hk
    have h : k < xs.length := by omega
    rw [List.getD, List.getElem?_eq_getElem h]
    exact hx _ (List.getElem_mem h)
  have HD : Hid (∀ (v : Int) (w : World), 0 ≤ v → v ≤ 15 → Calls Try.prog 29 #[.int .u8 v, .bool up] w fun e w' => ∃ c, e = .returned (.int .u8 c) ∧ Uu.hex c = true ∧ w = w') := fun v w h0 h1 => hex_digit v up w h0 h1
  obtain ⟨w2, hmk, hown2, hgrow2⟩ := run_make_own (P := Try.prog) (w.alloc (.cells (xs.map (Value.int .u8)).toArray 24)) (w.heap.size + 1) 39 5 i0 (.int .u8 0) 1 Try.underlying39 hi hz0 hz1 .i64 .i64 36 (by rw [hz2]; decide) (by decide) (by simp)
  rw [show ((36 : Nat) : Int) = 36 from rfl] at hmk
  have hcw : ∀ k, k < 16 → (w.alloc (.cells (xs.map (Value.int .u8)).toArray 24)).cell? ⟨w.heap.size, k, none⟩ = some (.int .u8 (xs.getD k 0)) := by
    intro k hk
    have h : k < xs.length := by omega
    rw [World.cell?_alloc_new, List.getD, List.getElem?_eq_getElem h]
    simp [h]
  have hb1 : Below w.heap.size w (w.alloc (.cells (xs.map (Value.int .u8)).toArray 24)) := (Below.refl _ w).alloc (Nat.le_refl _) _
  have hs1 : (w.alloc (.cells (xs.map (Value.int .u8)).toArray 24)).heap.size = w.heap.size + 1 := by simp
  have hb2 : Below (w.heap.size + 1) (w.alloc (.cells (xs.map (Value.int .u8)).toArray 24)) w2 := (Below.refl _ _).grown hgrow2 (by simp) (fun k hk => by cases hk)
  have hown2 : Own w2 (w.heap.size + 1) (.slice (some ⟨(w.alloc (.cells (xs.map (Value.int .u8)).toArray 24)).heap.size, 0, none⟩) 0 36) [] := hown2
  clear hgrow2 hx
  generalize hA : (xs.map (Value.int .u8)).toArray = A at *
  go_enter Try.func15, Try.ntmps15
  go_wp2_with fail
  obtain ⟨w1, hw1⟩ : ∃ w1, w1 = w.alloc (.cells A 24) := ⟨_, rfl⟩
  rw [← hw1] at hcw hb1 hs1 hb2 hown2
  have HCW : Hid (∀ k, k < 16 → w1.cell? ⟨w.heap.size, k, none⟩ = some (.int .u8 (xs.getD k 0))) := hcw
  rw [hs1] at hown2
  clear hcw hw1 hmk hA
  go_loopw [5, 6] (fun v vi wr => ∃ (k : Nat) (cs : List Int), k ≤ 16 ∧ vi = .int .i64 (k : Int) ∧ Uu.pos k cs.length ∧ Uu.al 0 cs = true ∧ Own wr (w.heap.size + 1) v cs ∧ Below (w.heap.size + 1) w1 wr) (fun _ vi _ => 16 - (intOf vi).toNat)
  case atStart => exact ⟨0, [], by omega, rfl, by unfold Uu.pos; simp, rfl, hown2, hb2⟩
  case round =>
    obtain ⟨k, cs, hk, rfl, hpos, hal, hown3, hb3⟩ := hrel
    have HPOS : Hid (Uu.pos k cs.length) := hpos
    have HAL : Hid (Uu.al 0 cs = true) := hal
    have hcl : cs.length ≤ 36 := by unfold Uu.pos at hpos; omega
    have hsz3 := hb3.size
    rw [hs1] at hsz3
    clear hpos hal hown2 hb2
    by_cases hlt : k < 16
    · have hcell0 : wr.cell? ⟨w.heap.size, k, none⟩ = some (.int .u8 (xs.getD k 0)) := by
        rw [hb3.cell (by simp)]; exact HCW.out k hlt
      obtain ⟨hx0, hx1⟩ := HX.out k hlt
      generalize xs.getD k 0 = x at hcell0 hx0 hx1
      have hand := u8_and15 (x := x) hx0 (by omega)
      by_cases hk4 : k = 4 ∨ k = 6 ∨ k = 8 ∨ k = 10
      · rcases hk4 with rfl | rfl | rfl | rfl
        · go_wp2_with (first | (at_builtin; refine wpList_append_own_at _ rfl _ _ 39 rfl (w.heap.size + 1) 5 i0 (.int .u8 0) 1 1 Try.underlying39 hi hz0 hz1 hz2 rfl (by decide) _ _ _ rfl (hown3.alloc _) ⟨wr.heap.size, 0, none⟩ 1 1 [.int .u8 45] rfl rfl ?r1 ?r2 ?r3 ?r4 ?r5 ?_))
          case r1 => exact cell_one_new _ _ _
          case r2 => intro u hu; simp at hu; subst hu; rfl
          case r3 => unfold maxLen; first | (simp; done) | (simp; omega) | omega
          case r4 => first | (simp; done) | (simp; omega) | omega
          case r5 => first | (simp; done) | (simp; omega) | omega
          intro w4v w4 hown' hgrow _ hat
          have hb4 : Below (w.heap.size + 1) w1 w4 := (hb3.alloc (by omega) _).grown hgrow (by simp; omega) (fun k hk => (hown3.lt k hk).1)
          have hown4 : Own w4 (w.heap.size + 1) w4v (cs ++ [45]) := by simpa [Own] using hown'
          have hsz4 := hb4.size
          rw [hs1] at hsz4
          clear hown' hgrow hat
          have hcc1 : w4.cell? ⟨w.heap.size, 4, none⟩ = some (.int .u8 x) := by rw [hb4.cell (by simp), ← hb3.cell (by simp)]; exact hcell0
          go_wp2_with fail
          refine (HD.out _ _ (by omega) (by omega)).mono ?_
          rintro e wx ⟨c1, rfl, hhc1, rfl⟩
          go_wp2_with (first | (at_builtin; refine wpList_append_own_at _ rfl _ _ 39 rfl (w.heap.size + 1) 5 i0 (.int .u8 0) 1 1 Try.underlying39 hi hz0 hz1 hz2 rfl (by decide) _ _ _ rfl (hown4.alloc _) ⟨w4.heap.size, 0, none⟩ 1 1 [.int .u8 c1] rfl rfl ?p1 ?p2 ?p3 ?p4 ?p5 ?_))
          case p1 => exact cell_one_new _ _ _
          case p2 => intro u hu; simp at hu; subst hu; rfl
          case p3 => unfold maxLen; first | (simp; done) | (simp; omega) | omega
          case p4 => first | (simp; done) | (simp; omega) | omega
          case p5 => first | (simp; done) | (simp; omega) | omega
          intro w5v w5 hown' hgrow _ hat
          have hb5 : Below (w.heap.size + 1) w1 w5 := (hb4.alloc (by omega) _).grown hgrow (by simp; omega) (fun k hk => (hown4.lt k hk).1)
          have hown5 : Own w5 (w.heap.size + 1) w5v ((cs ++ [45]) ++ [c1]) := by simpa [Own] using hown'
          have hsz5 := hb5.size
          rw [hs1] at hsz5
          clear hown' hgrow hat
          have hcc2 : w5.cell? ⟨w.heap.size, 4, none⟩ = some (.int .u8 x) := by rw [hb5.cell (by simp), ← hb3.cell (by simp)]; exact hcell0
          go_wp2_with fail
          refine (HD.out _ _ (by omega) (by omega)).mono ?_
          rintro e wx ⟨c2, rfl, hhc2, rfl⟩
          go_wp2_with (first | (at_builtin; refine wpList_append_own_at _ rfl _ _ 39 rfl (w.heap.size + 1) 5 i0 (.int .u8 0) 1 1 Try.underlying39 hi hz0 hz1 hz2 rfl (by decide) _ _ _ rfl (hown5.alloc _) ⟨w5.heap.size, 0, none⟩ 1 1 [.int .u8 c2] rfl rfl ?q1 ?q2 ?q3 ?q4 ?q5 ?_))
          case q1 => exact cell_one_new _ _ _
          case q2 => intro u hu; simp at hu; subst hu; rfl
          case q3 => unfold maxLen; first | (simp; done) | (simp; omega) | omega
          case q4 => first | (simp; done) | (simp; omega) | omega
          case q5 => first | (simp; done) | (simp; omega) | omega
          intro w6v w6 hown' hgrow _ hat
          have hb6 : Below (w.heap.size + 1) w1 w6 := (hb5.alloc (by omega) _).grown hgrow (by simp; omega) (fun k hk => (hown5.lt k hk).1)
          have hown6 : Own w6 (w.heap.size + 1) w6v (((cs ++ [45]) ++ [c1]) ++ [c2]) := by simpa [Own] using hown'
          have hsz6 := hb6.size
          rw [hs1] at hsz6
          clear hown' hgrow hat
          go_wp2_with fail
          go_roundw
          case rel =>
            refine ⟨4 + 1, (cs ++ [45]) ++ [c1] ++ [c2], by omega, by go_num, ?_, ?_, hown6, hb6⟩
            · have := HPOS.out
              unfold Uu.pos at this ⊢
              simp only [List.length_append, List.length_cons, List.length_nil]
              omega
            · have hp := HPOS.out
              unfold Uu.pos at hp
              have h1 : Uu.okAt (0 + cs.length) 45 = true := Uu.okAt_hy _ (by omega)
              have h2 : Uu.okAt (0 + (cs ++ [45]).length) c1 = true := Uu.okAt_hex _ _ (by simp only [List.length_append, List.length_cons, List.length_nil]; omega) hhc1
              have h3 : Uu.okAt (0 + (cs ++ [45] ++ [c1]).length) c2 = true := Uu.okAt_hex _ _ (by simp only [List.length_append, List.length_cons, List.length_nil]; omega) hhc2
              rw [Uu.al_snoc, Uu.al_snoc, Uu.al_snoc, HAL.out, h1, h2, h3]; rfl
          case measure => first | (simp [intOf]; done) | (simp [intOf]; omega)
        · go_wp2_with (first | (at_builtin; refine wpList_append_own_at _ rfl _ _ 39 rfl (w.heap.size + 1) 5 i0 (.int .u8 0) 1 1 Try.underlying39 hi hz0 hz1 hz2 rfl (by decide) _ _ _ rfl (hown3.alloc _) ⟨wr.heap.size, 0, none⟩ 1 1 [.int .u8 45] rfl rfl ?r1 ?r2 ?r3 ?r4 ?r5 ?_))
          case r1 => exact cell_one_new _ _ _
          case r2 => intro u hu; simp at hu; subst hu; rfl
          case r3 => unfold maxLen; first | (simp; done) | (simp; omega) | omega
          case r4 => first | (simp; done) | (simp; omega) | omega
          case r5 => first | (simp; done) | (simp; omega) | omega
          intro w4v w4 hown' hgrow _ hat
          have hb4 : Below (w.heap.size + 1) w1 w4 := (hb3.alloc (by omega) _).grown hgrow (by simp; omega) (fun k hk => (hown3.lt k hk).1)
          have hown4 : Own w4 (w.heap.size + 1) w4v (cs ++ [45]) := by simpa [Own] using hown'
          have hsz4 := hb4.size
          rw [hs1] at hsz4
          clear hown' hgrow hat
          have hcc1 : w4.cell? ⟨w.heap.size, 6, none⟩ = some (.int .u8 x) := by rw [hb4.cell (by simp), ← hb3.cell (by simp)]; exact hcell0
          go_wp2_with fail
          refine (HD.out _ _ (by omega) (by omega)).mono ?_
          rintro e wx ⟨c1, rfl, hhc1, rfl⟩
          go_wp2_with (first | (at_builtin; refine wpList_append_own_at _ rfl _ _ 39 rfl (w.heap.size + 1) 5 i0 (.int .u8 0) 1 1 Try.underlying39 hi hz0 hz1 hz2 rfl (by decide) _ _ _ rfl (hown4.alloc _) ⟨w4.heap.size, 0, none⟩ 1 1 [.int .u8 c1] rfl rfl ?p1 ?p2 ?p3 ?p4 ?p5 ?_))
          case p1 => exact cell_one_new _ _ _
          case p2 => intro u hu; simp at hu; subst hu; rfl
          case p3 => unfold maxLen; first | (simp; done) | (simp; omega) | omega
          case p4 => first | (simp; done) | (simp; omega) | omega
          case p5 => first | (simp; done) | (simp; omega) | omega
          intro w5v w5 hown' hgrow _ hat
          have hb5 : Below (w.heap.size + 1) w1 w5 := (hb4.alloc (by omega) _).grown hgrow (by simp; omega) (fun k hk => (hown4.lt k hk).1)
          have hown5 : Own w5 (w.heap.size + 1) w5v ((cs ++ [45]) ++ [c1]) := by simpa [Own] using hown'
          have hsz5 := hb5.size
          rw [hs1] at hsz5
          clear hown' hgrow hat
          have hcc2 : w5.cell? ⟨w.heap.size, 6, none⟩ = some (.int .u8 x) := by rw [hb5.cell (by simp), ← hb3.cell (by simp)]; exact hcell0
          go_wp2_with fail
          refine (HD.out _ _ (by omega) (by omega)).mono ?_
          rintro e wx ⟨c2, rfl, hhc2, rfl⟩
          go_wp2_with (first | (at_builtin; refine wpList_append_own_at _ rfl _ _ 39 rfl (w.heap.size + 1) 5 i0 (.int .u8 0) 1 1 Try.underlying39 hi hz0 hz1 hz2 rfl (by decide) _ _ _ rfl (hown5.alloc _) ⟨w5.heap.size, 0, none⟩ 1 1 [.int .u8 c2] rfl rfl ?q1 ?q2 ?q3 ?q4 ?q5 ?_))
          case q1 => exact cell_one_new _ _ _
          case q2 => intro u hu; simp at hu; subst hu; rfl
          case q3 => unfold maxLen; first | (simp; done) | (simp; omega) | omega
          case q4 => first | (simp; done) | (simp; omega) | omega
          case q5 => first | (simp; done) | (simp; omega) | omega
          intro w6v w6 hown' hgrow _ hat
          have hb6 : Below (w.heap.size + 1) w1 w6 := (hb5.alloc (by omega) _).grown hgrow (by simp; omega) (fun k hk => (hown5.lt k hk).1)
          have hown6 : Own w6 (w.heap.size + 1) w6v (((cs ++ [45]) ++ [c1]) ++ [c2]) := by simpa [Own] using hown'
          have hsz6 := hb6.size
          rw [hs1] at hsz6
          clear hown' hgrow hat
          go_wp2_with fail
          go_roundw
          case rel =>
            refine ⟨6 + 1, (cs ++ [45]) ++ [c1] ++ [c2], by omega, by go_num, ?_, ?_, hown6, hb6⟩
            · have := HPOS.out
              unfold Uu.pos at this ⊢
              simp only [List.length_append, List.length_cons, List.length_nil]
              omega
            · have hp := HPOS.out
              unfold Uu.pos at hp
              have h1 : Uu.okAt (0 + cs.length) 45 = true := Uu.okAt_hy _ (by omega)
              have h2 : Uu.okAt (0 + (cs ++ [45]).length) c1 = true := Uu.okAt_hex _ _ (by simp only [List.length_append, List.length_cons, List.length_nil]; omega) hhc1
              have h3 : Uu.okAt (0 + (cs ++ [45] ++ [c1]).length) c2 = true := Uu.okAt_hex _ _ (by simp only [List.length_append, List.length_cons, List.length_nil]; omega) hhc2
              rw [Uu.al_snoc, Uu.al_snoc, Uu.al_snoc, HAL.out, h1, h2, h3]; rfl
          case measure => first | (simp [intOf]; done) | (simp [intOf]; omega)
        · go_wp2_with (first | (at_builtin; refine wpList_append_own_at _ rfl _ _ 39 rfl (w.heap.size + 1) 5 i0 (.int .u8 0) 1 1 Try.underlying39 hi hz0 hz1 hz2 rfl (by decide) _ _ _ rfl (hown3.alloc _) ⟨wr.heap.size, 0, none⟩ 1 1 [.int .u8 45] rfl rfl ?r1 ?r2 ?r3 ?r4 ?r5 ?_))
          case r1 => exact cell_one_new _ _ _
          case r2 => intro u hu; simp at hu; subst hu; rfl
          case r3 => unfold maxLen; first | (simp; done) | (simp; omega) | omega
          case r4 => first | (simp; done) | (simp; omega) | omega
          case r5 => first | (simp; done) | (simp; omega) | omega
          intro w4v w4 hown' hgrow _ hat
          have hb4 : Below (w.heap.size + 1) w1 w4 := (hb3.alloc (by omega) _).grown hgrow (by simp; omega) (fun k hk => (hown3.lt k hk).1)
          have hown4 : Own w4 (w.heap.size + 1) w4v (cs ++ [45]) := by simpa [Own] using hown'
          have hsz4 := hb4.size
          rw [hs1] at hsz4
          clear hown' hgrow hat
          have hcc1 : w4.cell? ⟨w.heap.size, 8, none⟩ = some (.int .u8 x) := by rw [hb4.cell (by simp), ← hb3.cell (by simp)]; exact hcell0
          go_wp2_with fail
          refine (HD.out _ _ (by omega) (by omega)).mono ?_
          rintro e wx ⟨c1, rfl, hhc1, rfl⟩
          go_wp2_with (first | (at_builtin; refine wpList_append_own_at _ rfl _ _ 39 rfl (w.heap.size + 1) 5 i0 (.int .u8 0) 1 1 Try.underlying39 hi hz0 hz1 hz2 rfl (by decide) _ _ _ rfl (hown4.alloc _) ⟨w4.heap.size, 0, none⟩ 1 1 [.int .u8 c1] rfl rfl ?p1 ?p2 ?p3 ?p4 ?p5 ?_))
          case p1 => exact cell_one_new _ _ _
          case p2 => intro u hu; simp at hu; subst hu; rfl
          case p3 => unfold maxLen; first | (simp; done) | (simp; omega) | omega
          case p4 => first | (simp; done) | (simp; omega) | omega
          case p5 => first | (simp; done) | (simp; omega) | omega
          intro w5v w5 hown' hgrow _ hat
          have hb5 : Below (w.heap.size + 1) w1 w5 := (hb4.alloc (by omega) _).grown hgrow (by simp; omega) (fun k hk => (hown4.lt k hk).1)
          have hown5 : Own w5 (w.heap.size + 1) w5v ((cs ++ [45]) ++ [c1]) := by simpa [Own] using hown'
          have hsz5 := hb5.size
          rw [hs1] at hsz5
          clear hown' hgrow hat
          have hcc2 : w5.cell? ⟨w.heap.size, 8, none⟩ = some (.int .u8 x) := by rw [hb5.cell (by simp), ← hb3.cell (by simp)]; exact hcell0
          go_wp2_with fail
          refine (HD.out _ _ (by omega) (by omega)).mono ?_
          rintro e wx ⟨c2, rfl, hhc2, rfl⟩
          go_wp2_with (first | (at_builtin; refine wpList_append_own_at _ rfl _ _ 39 rfl (w.heap.size + 1) 5 i0 (.int .u8 0) 1 1 Try.underlying39 hi hz0 hz1 hz2 rfl (by decide) _ _ _ rfl (hown5.alloc _) ⟨w5.heap.size, 0, none⟩ 1 1 [.int .u8 c2] rfl rfl ?q1 ?q2 ?q3 ?q4 ?q5 ?_))
          case q1 => exact cell_one_new _ _ _
          case q2 => intro u hu; simp at hu; subst hu; rfl
          case q3 => unfold maxLen; first | (simp; done) | (simp; omega) | omega
          case q4 => first | (simp; done) | (simp; omega) | omega
          case q5 => first | (simp; done) | (simp; omega) | omega
          intro w6v w6 hown' hgrow _ hat
          have hb6 : Below (w.heap.size + 1) w1 w6 := (hb5.alloc (by omega) _).grown hgrow (by simp; omega) (fun k hk => (hown5.lt k hk).1)
          have hown6 : Own w6 (w.heap.size + 1) w6v (((cs ++ [45]) ++ [c1]) ++ [c2]) := by simpa [Own] using hown'
          have hsz6 := hb6.size
          rw [hs1] at hsz6
          clear hown' hgrow hat
          go_wp2_with fail
          go_roundw
          case rel =>
            refine ⟨8 + 1, (cs ++ [45]) ++ [c1] ++ [c2], by omega, by go_num, ?_, ?_, hown6, hb6⟩
            · have := HPOS.out
              unfold Uu.pos at this ⊢
              simp only [List.length_append, List.length_cons, List.length_nil]
              omega
            · have hp := HPOS.out
              unfold Uu.pos at hp
              have h1 : Uu.okAt (0 + cs.length) 45 = true := Uu.okAt_hy _ (by omega)
              have h2 : Uu.okAt (0 + (cs ++ [45]).length) c1 = true := Uu.okAt_hex _ _ (by simp only [List.length_append, List.length_cons, List.length_nil]; omega) hhc1
              have h3 : Uu.okAt (0 + (cs ++ [45] ++ [c1]).length) c2 = true := Uu.okAt_hex _ _ (by simp only [List.length_append, List.length_cons, List.length_nil]; omega) hhc2
              rw [Uu.al_snoc, Uu.al_snoc, Uu.al_snoc, HAL.out, h1, h2, h3]; rfl
          case measure => first | (simp [intOf]; done) | (simp [intOf]; omega)
        · go_wp2_with (first | (at_builtin; refine wpList_append_own_at _ rfl _ _ 39 rfl (w.heap.size + 1) 5 i0 (.int .u8 0) 1 1 Try.underlying39 hi hz0 hz1 hz2 rfl (by decide) _ _ _ rfl (hown3.alloc _) ⟨wr.heap.size, 0, none⟩ 1 1 [.int .u8 45] rfl rfl ?r1 ?r2 ?r3 ?r4 ?r5 ?_))
          case r1 => exact cell_one_new _ _ _
          case r2 => intro u hu; simp at hu; subst hu; rfl
          case r3 => unfold maxLen; first | (simp; done) | (simp; omega) | omega
          case r4 => first | (simp; done) | (simp; omega) | omega
          case r5 => first | (simp; done) | (simp; omega) | omega
          intro w4v w4 hown' hgrow _ hat
          have hb4 : Below (w.heap.size + 1) w1 w4 := (hb3.alloc (by omega) _).grown hgrow (by simp; omega) (fun k hk => (hown3.lt k hk).1)
          have hown4 : Own w4 (w.heap.size + 1) w4v (cs ++ [45]) := by simpa [Own] using hown'
          have hsz4 := hb4.size
          rw [hs1] at hsz4
          clear hown' hgrow hat
          have hcc1 : w4.cell? ⟨w.heap.size, 10, none⟩ = some (.int .u8 x) := by rw [hb4.cell (by simp), ← hb3.cell (by simp)]; exact hcell0
          go_wp2_with fail
          refine (HD.out _ _ (by omega) (by omega)).mono ?_
          rintro e wx ⟨c1, rfl, hhc1, rfl⟩
          go_wp2_with (first | (at_builtin; refine wpList_append_own_at _ rfl _ _ 39 rfl (w.heap.size + 1) 5 i0 (.int .u8 0) 1 1 Try.underlying39 hi hz0 hz1 hz2 rfl (by decide) _ _ _ rfl (hown4.alloc _) ⟨w4.heap.size, 0, none⟩ 1 1 [.int .u8 c1] rfl rfl ?p1 ?p2 ?p3 ?p4 ?p5 ?_))
          case p1 => exact cell_one_new _ _ _
          case p2 => intro u hu; simp at hu; subst hu; rfl
          case p3 => unfold maxLen; first | (simp; done) | (simp; omega) | omega
          case p4 => first | (simp; done) | (simp; omega) | omega
          case p5 => first | (simp; done) | (simp; omega) | omega
          intro w5v w5 hown' hgrow _ hat
          have hb5 : Below (w.heap.size + 1) w1 w5 := (hb4.alloc (by omega) _).grown hgrow (by simp; omega) (fun k hk => (hown4.lt k hk).1)
          have hown5 : Own w5 (w.heap.size + 1) w5v ((cs ++ [45]) ++ [c1]) := by simpa [Own] using hown'
          have hsz5 := hb5.size
          rw [hs1] at hsz5
          clear hown' hgrow hat
          have hcc2 : w5.cell? ⟨w.heap.size, 10, none⟩ = some (.int .u8 x) := by rw [hb5.cell (by simp), ← hb3.cell (by simp)]; exact hcell0
          go_wp2_with fail
          refine (HD.out _ _ (by omega) (by omega)).mono ?_
          rintro e wx ⟨c2, rfl, hhc2, rfl⟩
          go_wp2_with (first | (at_builtin; refine wpList_append_own_at _ rfl _ _ 39 rfl (w.heap.size + 1) 5 i0 (.int .u8 0) 1 1 Try.underlying39 hi hz0 hz1 hz2 rfl (by decide) _ _ _ rfl (hown5.alloc _) ⟨w5.heap.size, 0, none⟩ 1 1 [.int .u8 c2] rfl rfl ?q1 ?q2 ?q3 ?q4 ?q5 ?_))
          case q1 => exact cell_one_new _ _ _
          case q2 => intro u hu; simp at hu; subst hu; rfl
          case q3 => unfold maxLen; first | (simp; done) | (simp; omega) | omega
          case q4 => first | (simp; done) | (simp; omega) | omega
          case q5 => first | (simp; done) | (simp; omega) | omega
          intro w6v w6 hown' hgrow _ hat
          have hb6 : Below (w.heap.size + 1) w1 w6 := (hb5.alloc (by omega) _).grown hgrow (by simp; omega) (fun k hk => (hown5.lt k hk).1)
          have hown6 : Own w6 (w.heap.size + 1) w6v (((cs ++ [45]) ++ [c1]) ++ [c2]) := by simpa [Own] using hown'
          have hsz6 := hb6.size
          rw [hs1] at hsz6
          clear hown' hgrow hat
          go_wp2_with fail
          go_roundw
          case rel =>
            refine ⟨10 + 1, (cs ++ [45]) ++ [c1] ++ [c2], by omega, by go_num, ?_, ?_, hown6, hb6⟩
            · have := HPOS.out
              unfold Uu.pos at this ⊢
              simp only [List.length_append, List.length_cons, List.length_nil]
              omega
            · have hp := HPOS.out
              unfold Uu.pos at hp
              have h1 : Uu.okAt (0 + cs.length) 45 = true := Uu.okAt_hy _ (by omega)
              have h2 : Uu.okAt (0 + (cs ++ [45]).length) c1 = true := Uu.okAt_hex _ _ (by simp only [List.length_append, List.length_cons, List.length_nil]; omega) hhc1
              have h3 : Uu.okAt (0 + (cs ++ [45] ++ [c1]).length) c2 = true := Uu.okAt_hex _ _ (by simp only [List.length_append, List.length_cons, List.length_nil]; omega) hhc2
              rw [Uu.al_snoc, Uu.al_snoc, Uu.al_snoc, HAL.out, h1, h2, h3]; rfl
          case measure => first | (simp [intOf]; done) | (simp [intOf]; omega)
      · have a1 : ((k : Int) == 4) = false := by simp; omega
        have a2 : ((k : Int) == 6) = false := by simp; omega
        have a3 : ((k : Int) == 8) = false := by simp; omega
        have a4 : ((k : Int) == 10) = false := by simp; omega
        have hcc1 : wr.cell? ⟨w.heap.size, k, none⟩ = some (.int .u8 x) := by rw [hb3.cell (by simp), ← hb3.cell (by simp)]; exact hcell0
        go_wp2_with fail
        refine (HD.out _ _ (by omega) (by omega)).mono ?_
        rintro e wx ⟨c1, rfl, hhc1, rfl⟩
        go_wp2_with (first | (at_builtin; refine wpList_append_own_at _ rfl _ _ 39 rfl (w.heap.size + 1) 5 i0 (.int .u8 0) 1 1 Try.underlying39 hi hz0 hz1 hz2 rfl (by decide) _ _ _ rfl (hown3.alloc _) ⟨wr.heap.size, 0, none⟩ 1 1 [.int .u8 c1] rfl rfl ?p1 ?p2 ?p3 ?p4 ?p5 ?_))
        case p1 => exact cell_one_new _ _ _
        case p2 => intro u hu; simp at hu; subst hu; rfl
        case p3 => unfold maxLen; first | (simp; done) | (simp; omega) | omega
        case p4 => first | (simp; done) | (simp; omega) | omega
        case p5 => first | (simp; done) | (simp; omega) | omega
        intro w5v w5 hown' hgrow _ hat
        have hb5 : Below (w.heap.size + 1) w1 w5 := (hb3.alloc (by omega) _).grown hgrow (by simp; omega) (fun k hk => (hown3.lt k hk).1)
        have hown5 : Own w5 (w.heap.size + 1) w5v (cs ++ [c1]) := by simpa [Own] using hown'
        have hsz5 := hb5.size
        rw [hs1] at hsz5
        clear hown' hgrow hat
        have hcc2 : w5.cell? ⟨w.heap.size, k, none⟩ = some (.int .u8 x) := by rw [hb5.cell (by simp), ← hb3.cell (by simp)]; exact hcell0
        go_wp2_with fail
        refine (HD.out _ _ (by omega) (by omega)).mono ?_
        rintro e wx ⟨c2, rfl, hhc2, rfl⟩
        go_wp2_with (first | (at_builtin; refine wpList_append_own_at _ rfl _ _ 39 rfl (w.heap.size + 1) 5 i0 (.int .u8 0) 1 1 Try.underlying39 hi hz0 hz1 hz2 rfl (by decide) _ _ _ rfl (hown5.alloc _) ⟨w5.heap.size, 0, none⟩ 1 1 [.int .u8 c2] rfl rfl ?q1 ?q2 ?q3 ?q4 ?q5 ?_))
        case q1 => exact cell_one_new _ _ _
        case q2 => intro u hu; simp at hu; subst hu; rfl
        case q3 => unfold maxLen; first | (simp; done) | (simp; omega) | omega
        case q4 => first | (simp; done) | (simp; omega) | omega
        case q5 => first | (simp; done) | (simp; omega) | omega
        intro w6v w6 hown' hgrow _ hat
        have hb6 : Below (w.heap.size + 1) w1 w6 := (hb5.alloc (by omega) _).grown hgrow (by simp; omega) (fun k hk => (hown5.lt k hk).1)
        have hown6 : Own w6 (w.heap.size + 1) w6v ((cs ++ [c1]) ++ [c2]) := by simpa [Own] using hown'
        have hsz6 := hb6.size
        rw [hs1] at hsz6
        clear hown' hgrow hat
        go_wp2_with fail
        go_roundw
        case rel =>
          refine ⟨k + 1, cs ++ [c1] ++ [c2], by omega, by go_num, ?_, ?_, hown6, hb6⟩
          · have := HPOS.out
            unfold Uu.pos at this ⊢
            simp only [List.length_append, List.length_cons, List.length_nil]
            omega
          · have hp := HPOS.out
            unfold Uu.pos at hp
            have h2 : Uu.okAt (0 + cs.length) c1 = true := Uu.okAt_hex _ _ (by omega) hhc1
            have h3 : Uu.okAt (0 + (cs ++ [c1]).length) c2 = true := Uu.okAt_hex _ _ (by simp only [List.length_append, List.length_cons, List.length_nil]; omega) hhc2
            rw [Uu.al_snoc, Uu.al_snoc, HAL.out, h2, h3]; rfl
        case measure => first | (simp [intOf]; done) | (simp [intOf]; omega)
    · have hp := HPOS.out
      unfold Uu.pos at hp
      have hc36 : cs.length = 36 := by omega
      have hcv := own_string hown3 (by intro e; rw [e] at hc36; simp at hc36)
      have hbf : Below w.heap.size w wr := hb1.trans (hb3.mono (by omega))
      clear hp hown3
      go_wp2_with fail
      go_ret
      exact ⟨cs, rfl, hc36, HAL.out, hbf⟩
end Go.Proofs.Qxb6000866a
