import Derived.Test.Qxb6601280aMinor
import Derived.WalkKit
import Derived.WalkSpells
import Derived.WalkLawsBesides
import Derived.Deep.DeepCutAuto
import Derived.Deep.CutBlock
namespace Go.Proofs.Qxb6601280a
open Go.RowKit

set_option maxRecDepth 100000 in
set_option maxHeartbeats 1000000 in
theorem eff_long (b o n cap : Nat) (l : List Int) (w : World) (hn : l.length = n) (hn1 : 1 ≤ n) (hnm : n ≤ 1048576)
    (hc : ∀ j, j < n → w.cell? ⟨b, o + j, none⟩ = some (.int .i32 (l.getD j 0))) (R : Int) (HR : Hid (Pl.eff l = R)) :
    Calls Try.prog 24 #[.slice (some ⟨b, o, none⟩) n cap] w fun e w' => e = .returned (.int .i64 R) ∧ w' = w := by
  have HN : Hid (l.length = n) := hn
  clear hn
  have c0 : w.cell? ⟨b, o, none⟩ = some (.int .i32 (l.getD 0 0)) := by simpa using hc 0 (by omega)
  have HC : Hid (∀ j, j < n → w.cell? ⟨b, o + j, none⟩ = some (.int .i32 (l.getD j 0))) := hc
  clear hc
  go_enter Try.func24, Try.ntmps24
  go_upto_region 1 with fail
  go_cut [35] (fun v wc => ∃ z : Bool, v = .bool z ∧ z = Pl.ddd l ∧ w = wc)
  case first =>
    by_cases h3 : 3 ≤ n
    · have c1 := HC.out 1 (by omega)
      have c2 := HC.out 2 (by omega)
      have HD : Hid (Pl.ddd l = (l.getD 0 0 == 46 && (l.getD 1 0 == 46 && (l.getD 2 0 == 46 && (((n : Int) == 3) || Pl.blk (l.getD 3 0)))))) := by
        show _ = _
        have h := HN.out
        match l, h with
        | [y0, y1, y2], h => simp at h; subst h; simp [Pl.ddd]
        | y0 :: y1 :: y2 :: y3 :: r, h =>
          have : ((n : Int) == 3) = false := by simp only [List.length_cons] at h; simp; omega
          simp [Pl.ddd, this]
        | [], h => simp at h; omega
        | [_], h => simp at h; omega
        | [_, _], h => simp at h; omega
      have c3 : 3 < n → w.cell? ⟨b, o + 3, none⟩ = some (.int .i32 (l.getD 3 0)) := fun h => HC.out 3 h
      generalize l.getD 0 0 = x0 at *
      generalize l.getD 1 0 = x1 at *
      generalize l.getD 2 0 = x2 at *
      generalize l.getD 3 0 = x3 at *
      clear HC
      cases t0 : (x0 == 46)
      · go_wp2
        go_meet
        exact ⟨_, rfl, by rw [HD.out, t0]; rfl, rfl⟩
      · cases t1 : (x1 == 46)
        · go_wp2
          go_meet
          exact ⟨_, rfl, by rw [HD.out, t0, t1]; rfl, rfl⟩
        · cases t2 : (x2 == 46)
          · go_wp2
            go_meet
            exact ⟨_, rfl, by rw [HD.out, t0, t1, t2]; rfl, rfl⟩
          · cases t3 : ((n : Int) == 3)
            · have hn3 : 3 < n := by
                have : ¬ (n : Int) = 3 := by simpa using t3
                omega
              have c3' := c3 hn3
              clear c3
              go_wp2_with (first | (go_at_call 29; refine (blk_any _ _).mono ?_; rintro e w' ⟨rfl, rfl⟩))
              go_meet
              exact ⟨_, rfl, by rw [HD.out, t0, t1, t2, t3]; simp, rfl⟩
            · clear c3
              go_wp2
              go_meet
              exact ⟨_, rfl, by rw [HD.out, t0, t1, t2, t3]; simp, rfl⟩
    · have HD : Hid (Pl.ddd l = false) := by
        show _ = _
        have h := HN.out
        match l, h with
        | [], h => rfl
        | [_], h => rfl
        | [_, _], h => rfl
        | y0 :: y1 :: y2 :: r, h => simp only [List.length_cons] at h; omega
      go_wp2
      go_meet
      exact ⟨_, rfl, by rw [HD.out], rfl⟩
  case rest =>
    obtain ⟨z, rfl, hz, rfl⟩ := hcut
    cases z
    · have HX : Hid (R = if l.isEmpty = true ∨ Pl.pct l = true then 0 else if Pl.bare l = true then 0 else 1) := by
        show _ = _
        rw [← HR.out, Pl.eff, if_neg (by rw [← hz]; simp)]
      clear HR hz
      have hle : l.isEmpty = false := by
        have h := HN.out
        cases l with
        | nil => simp at h; omega
        | cons a r => rfl
      have hpc : Pl.pct l = (l.getD 0 0 == 37) := by
        cases l with
        | nil => simp at hle
        | cons a r => rfl
      cases tp : (l.getD 0 0 == 37)
      · have HX2 : Hid (R = if Pl.bare l = true then 0 else 1) := by
          show _ = _
          rw [HX.out, if_neg]
          rw [hle, hpc, tp]; simp
        clear HX hle hpc
        generalize l.getD 0 0 = x0 at *
        have hl0 : ((n : Int) == 0) = false := by simp; omega
        go_upto_block 0 with fail
        go_cut [3] (fun v wc => v = .int .i64 ((Pl.cB l : Nat) : Int) ∧ w = wc)
        case first =>
          go_wp2_with fail
          go_loop [3] (fun vj => ∃ j : Nat, j ≤ n ∧ vj = .int .i64 (j : Int) ∧ j + Pl.cB (l.drop j) = Pl.cB l) (fun vj => n - (intOf vj).toNat)
          case atStart => exact ⟨0, by omega, rfl, by simp⟩
          case round =>
            obtain ⟨j, hjn, rfl, hj⟩ := hrel
            have HJ : Hid (j + Pl.cB (l.drop j) = Pl.cB l) := hj
            clear hj
            by_cases hjl : j < n
            · have HG : Hid (l.drop j = l.getD j 0 :: l.drop (j + 1)) := get_l l j (by have := HN.out; omega)
              have cj := HC.out j hjl
              cases hb : Pl.blk (l.getD j 0)
              · have HE : Hid (j = Pl.cB l) := by
                  show _ = _
                  rw [← HJ.out, HG.out]; simp only [Pl.cB, hb, Bool.false_eq_true, if_false]; omega
                generalize l.getD j 0 = c at *
                go_wp2_with (first | (go_at_call 29; refine (blk_any _ _).mono ?_; rintro e w' ⟨rfl, rfl⟩))
                go_meet
                exact ⟨by rw [← HE.out], rfl⟩
              · have HE : Hid (j + 1 + Pl.cB (l.drop (j + 1)) = Pl.cB l) := by
                  show _ = _
                  rw [← HJ.out, HG.out]; simp only [Pl.cB, hb, if_true]; omega
                generalize l.getD j 0 = c at *
                go_wp2_with (first | (go_at_call 29; refine (blk_any _ _).mono ?_; rintro e w' ⟨rfl, rfl⟩))
                go_round
                case rel => exact ⟨j + 1, by omega, by go_num, HE.out⟩
                case measure => simp [intOf]; omega
            · have HE : Hid (j = Pl.cB l) := by
                show _ = _
                have h := HJ.out
                rw [List.drop_of_length_le (show l.length ≤ j by have := HN.out; omega)] at h
                simp only [Pl.cB] at h
                omega
              go_wp2
              go_meet
              exact ⟨by rw [← HE.out], rfl⟩
        case rest =>
          obtain ⟨rfl, rfl⟩ := hcut
          have hcb : Pl.cB l ≤ n := by
            have := cB_le l
            rw [HN.out] at this
            exact this
          have HBR : Hid (Pl.bare l = match l.drop (Pl.cB l) with
            | [] => true
            | c :: _ => c == 35) := rfl
          generalize Pl.cB l = J at *
          by_cases hj : J < n
          · have HG : Hid (l.drop J = l.getD J 0 :: l.drop (J + 1)) := get_l l J (by have := HN.out; omega)
            have cj := HC.out J hj
            have hjb : ((J : Int) == (n : Int)) = false := by simp; omega
            cases t35 : (l.getD J 0 == 35)
            · have HX3 : Hid (R = 1) := by
                show _ = _
                rw [HX2.out, HBR.out, HG.out]
                simp only [t35, Bool.false_eq_true, if_false]
              generalize l.getD J 0 = c at *
              go_wp2
              go_ret
              exact ⟨ret_i64' HX3.out.symm, rfl⟩
            · have HX3 : Hid (R = 0) := by
                show _ = _
                rw [HX2.out, HBR.out, HG.out]
                simp only [t35, if_true]
              generalize l.getD J 0 = c at *
              go_wp2
              go_ret
              exact ⟨ret_i64' HX3.out.symm, rfl⟩
          · have hjb : ((J : Int) == (n : Int)) = true := by simp; omega
            have HX3 : Hid (R = 0) := by
              show _ = _
              rw [HX2.out, HBR.out, List.drop_of_length_le (show l.length ≤ J by have := HN.out; omega)]
              simp
            go_wp2
            go_ret
            exact ⟨ret_i64' HX3.out.symm, rfl⟩
      · have HX2 : Hid (R = 0) := by
          show _ = _
          rw [HX.out, if_pos]
          rw [hpc, tp]; simp
        clear HX hle hpc
        generalize l.getD 0 0 = x0 at *
        have hl0 : ((n : Int) == 0) = false := by simp; omega
        go_wp2
        go_ret
        exact ⟨ret_i64' HX2.out.symm, rfl⟩
    · have HX : Hid (R = 2) := by
        show _ = _
        rw [← HR.out, Pl.eff, if_pos hz.symm]
      clear HR hz
      go_wp2
      go_ret
      exact ⟨ret_i64' HX.out.symm, rfl⟩

set_option maxHeartbeats 400000 in
theorem eff_none (ao : Option Addr) (cap : Nat) (w : World) :
    Calls Try.prog 24 #[.slice ao 0 cap] w fun e w' => e = .returned (.int .i64 0) ∧ w' = w := by
  go_enter Try.func24, Try.ntmps24
  go_wp2
  go_ret
  exact ⟨rfl, rfl⟩

end Go.Proofs.Qxb6601280a
