import Derived.Test.Qxb6601280aRunes
import Derived.Test.Qxb6601280aLine
import Derived.WalkKit
import Derived.WalkSpells
import Derived.WalkLawsBesides
import Derived.Deep.QuietTactic
import Derived.BigQuiet
import Derived.Deep.DeepCutAuto
import Derived.Deep.CutBlock
namespace Go.Proofs.Qxb6601280a
open Go.RowKit

theorem get_l (l : List Int) (j : Nat) (h : j < l.length) : l.drop j = l.getD j 0 :: l.drop (j + 1) := by
  rw [List.drop_eq_getElem_cons h]
  simp [h]
theorem drewN_add (w : World) (p : Nat) : ∀ q, (w.drewN p).drewN q = w.drewN (p + q)
  | 0 => rfl
  | q + 1 => by
    have := drewN_add w p q
    show (World.drewN (w.drewN p) q).drew = (World.drewN w (p + q)).drew
    rw [this]
theorem cB_le : ∀ l : List Int, Pl.cB l ≤ l.length
  | [] => Nat.le_refl _
  | c :: r => by
    have := cB_le r
    simp only [Pl.cB, List.length_cons]
    split <;> omega
theorem cD_le : ∀ l : List Int, Pl.cD l ≤ l.length
  | [] => Nat.le_refl _
  | c :: r => by
    have := cD_le r
    simp only [Pl.cD, List.length_cons]
    split <;> omega
theorem ret_i64' {a b : Int} (h : a = b) : Ending.returned (.int .i64 a) = .returned (.int .i64 b) := by rw [h]

set_option maxRecDepth 100000 in
set_option maxHeartbeats 1000000 in
theorem m2_long (b o n cap : Nat) (l : List Int) (w : World) (hn : l.length = n) (hn5 : 5 ≤ n) (hnm : n ≤ 1048576)
    (hc : ∀ j, j < n → w.cell? ⟨b, o + j, none⟩ = some (.int .i32 (l.getD j 0))) (R : Int) (HR : Hid (Pl.m2 l = R)) :
    Calls Try.prog 22 #[.slice (some ⟨b, o, none⟩) n cap] w fun e w' => e = .returned (.int .i64 R) ∧ ∃ q, w' = w.drewN q := by
  have HN : Hid (l.length = n) := hn
  clear hn
  have hlt5 : decide ((n : Int) < 5) = false := by simp; omega
  have c0 : w.cell? ⟨b, o, none⟩ = some (.int .i32 (l.getD 0 0)) := by simpa using hc 0 (by omega)
  have c1 := hc 1 (by omega)
  have c2 := hc 2 (by omega)
  have c3 := hc 3 (by omega)
  have c4 := hc 4 (by omega)
  have HC : Hid (∀ j, j < n → w.cell? ⟨b, o + j, none⟩ = some (.int .i32 (l.getD j 0))) := hc
  clear hc
  have HL : Hid (l.take 5 = [l.getD 0 0, l.getD 1 0, l.getD 2 0, l.getD 3 0, l.getD 4 0]) := by
    show _ = _
    have h := HN.out
    match l, h with
    | y0 :: y1 :: y2 :: y3 :: y4 :: r, _ => simp
    | [], h => simp at h; omega
    | [_], h => simp at h; omega
    | [_, _], h => simp at h; omega
    | [_, _, _], h => simp at h; omega
    | [_, _, _, _], h => simp at h; omega
  generalize l.getD 0 0 = x0 at *
  generalize l.getD 1 0 = x1 at *
  generalize l.getD 2 0 = x2 at *
  generalize l.getD 3 0 = x3 at *
  generalize l.getD 4 0 = x4 at *
  go_enter Try.func22, Try.ntmps22
  go_wp2_with fail
  go_loopw [3] (fun vk wr => ∃ k : Int, 0 ≤ k ∧ k ≤ 5 ∧ vk = .int .i64 k ∧ (1 ≤ k → x0 = 37) ∧ (2 ≤ k → x1 = 89) ∧ (3 ≤ k → x2 = 65) ∧ (4 ≤ k → x3 = 77) ∧ (5 ≤ k → x4 = 76) ∧ ∃ q, wr = w.drewN q) (fun vk _ => 5 - (intOf vk).toNat)
  case atStart => exact ⟨0, by omega, by omega, rfl, by omega, by omega, by omega, by omega, by omega, 0, rfl⟩
  case round =>
    obtain ⟨k, hk0, hk, rfl, a0, a1, a2, a3, a4, q, rfl⟩ := hrel
    rcases (show k = 0 ∨ k = 1 ∨ k = 2 ∨ k = 3 ∨ k = 4 ∨ k = 5 by omega) with rfl | rfl | rfl | rfl | rfl | rfl
    · have e0 := nm0
      clear a0 a1 a2 a3 a4
      by_cases hx : x0 = 37
      · have hxb : (x0 != 37) = false := by simpa using hx
        have HX : Hid (x0 = 37) := hx
        clear hx
        go_wp2_with fail
        go_quiet (fail)
        go_wp2
        go_roundw
        case rel => exact ⟨0 + 1, by omega, by omega, by go_num, fun _ => HX.out, by omega, by omega, by omega, by omega, ⟨_, rfl⟩⟩
        case measure => decide
      · have hxb : (x0 != 37) = true := by simpa using hx
        have HX : Hid (R = -1) := by
          show _ = _
          rw [← HR.out, Pl.m2, if_neg]
          intro e
          rw [HL.out] at e
          simp at e
          exact hx (by simp [e])
        clear hx
        go_wp2_with fail
        go_quiet (fail)
        go_wp2
        go_ret
        exact ⟨ret_i64' HX.out.symm, ⟨_, drewN_add _ _ _⟩⟩
    · have e1 := nm1
      have K0 : Hid (x0 = 37) := a0 (by omega)
      clear a0 a1 a2 a3 a4
      by_cases hx : x1 = 89
      · have hxb : (x1 != 89) = false := by simpa using hx
        have HX : Hid (x1 = 89) := hx
        clear hx
        go_wp2_with fail
        go_quiet (fail)
        go_wp2
        go_roundw
        case rel => exact ⟨1 + 1, by omega, by omega, by go_num, fun _ => K0.out, fun _ => HX.out, by omega, by omega, by omega, ⟨_, rfl⟩⟩
        case measure => decide
      · have hxb : (x1 != 89) = true := by simpa using hx
        have HX : Hid (R = -1) := by
          show _ = _
          rw [← HR.out, Pl.m2, if_neg]
          intro e
          rw [HL.out] at e
          simp at e
          exact hx (by simp [e])
        clear hx
        go_wp2_with fail
        go_quiet (fail)
        go_wp2
        go_ret
        exact ⟨ret_i64' HX.out.symm, ⟨_, drewN_add _ _ _⟩⟩
    · have e2 := nm2
      have K0 : Hid (x0 = 37) := a0 (by omega)
      have K1 : Hid (x1 = 89) := a1 (by omega)
      clear a0 a1 a2 a3 a4
      by_cases hx : x2 = 65
      · have hxb : (x2 != 65) = false := by simpa using hx
        have HX : Hid (x2 = 65) := hx
        clear hx
        go_wp2_with fail
        go_quiet (fail)
        go_wp2
        go_roundw
        case rel => exact ⟨2 + 1, by omega, by omega, by go_num, fun _ => K0.out, fun _ => K1.out, fun _ => HX.out, by omega, by omega, ⟨_, rfl⟩⟩
        case measure => decide
      · have hxb : (x2 != 65) = true := by simpa using hx
        have HX : Hid (R = -1) := by
          show _ = _
          rw [← HR.out, Pl.m2, if_neg]
          intro e
          rw [HL.out] at e
          simp at e
          exact hx (by simp [e])
        clear hx
        go_wp2_with fail
        go_quiet (fail)
        go_wp2
        go_ret
        exact ⟨ret_i64' HX.out.symm, ⟨_, drewN_add _ _ _⟩⟩
    · have e3 := nm3
      have K0 : Hid (x0 = 37) := a0 (by omega)
      have K1 : Hid (x1 = 89) := a1 (by omega)
      have K2 : Hid (x2 = 65) := a2 (by omega)
      clear a0 a1 a2 a3 a4
      by_cases hx : x3 = 77
      · have hxb : (x3 != 77) = false := by simpa using hx
        have HX : Hid (x3 = 77) := hx
        clear hx
        go_wp2_with fail
        go_quiet (fail)
        go_wp2
        go_roundw
        case rel => exact ⟨3 + 1, by omega, by omega, by go_num, fun _ => K0.out, fun _ => K1.out, fun _ => K2.out, fun _ => HX.out, by omega, ⟨_, rfl⟩⟩
        case measure => decide
      · have hxb : (x3 != 77) = true := by simpa using hx
        have HX : Hid (R = -1) := by
          show _ = _
          rw [← HR.out, Pl.m2, if_neg]
          intro e
          rw [HL.out] at e
          simp at e
          exact hx (by simp [e])
        clear hx
        go_wp2_with fail
        go_quiet (fail)
        go_wp2
        go_ret
        exact ⟨ret_i64' HX.out.symm, ⟨_, drewN_add _ _ _⟩⟩
    · have e4 := nm4
      have K0 : Hid (x0 = 37) := a0 (by omega)
      have K1 : Hid (x1 = 89) := a1 (by omega)
      have K2 : Hid (x2 = 65) := a2 (by omega)
      have K3 : Hid (x3 = 77) := a3 (by omega)
      clear a0 a1 a2 a3 a4
      by_cases hx : x4 = 76
      · have hxb : (x4 != 76) = false := by simpa using hx
        have HX : Hid (x4 = 76) := hx
        clear hx
        go_wp2_with fail
        go_quiet (fail)
        go_wp2
        go_roundw
        case rel => exact ⟨4 + 1, by omega, by omega, by go_num, fun _ => K0.out, fun _ => K1.out, fun _ => K2.out, fun _ => K3.out, fun _ => HX.out, ⟨_, rfl⟩⟩
        case measure => decide
      · have hxb : (x4 != 76) = true := by simpa using hx
        have HX : Hid (R = -1) := by
          show _ = _
          rw [← HR.out, Pl.m2, if_neg]
          intro e
          rw [HL.out] at e
          simp at e
          exact hx (by simp [e])
        clear hx
        go_wp2_with fail
        go_quiet (fail)
        go_wp2
        go_ret
        exact ⟨ret_i64' HX.out.symm, ⟨_, drewN_add _ _ _⟩⟩
    · have HX : Hid (R = Pl.m2a l) := by
        show _ = _
        rw [← HR.out, Pl.m2, if_pos]
        rw [HL.out, a0 (by omega), a1 (by omega), a2 (by omega), a3 (by omega), a4 (by omega)]
      clear a0 a1 a2 a3 a4 c0 c1 c2 c3 c4 HR HL
      go_upto_block 2 with fail
      go_cut [4] (fun v wc => v = .int .i64 ((5 + Pl.cB (l.drop 5) : Nat) : Int) ∧ w.drewN q = wc)
      case first =>
        go_wp2_with fail
        go_loop [4] (fun vj => ∃ j : Nat, 5 ≤ j ∧ j ≤ n ∧ vj = .int .i64 (j : Int) ∧ j + Pl.cB (l.drop j) = 5 + Pl.cB (l.drop 5)) (fun vj => n - (intOf vj).toNat)
        case atStart => exact ⟨5, by omega, by omega, rfl, rfl⟩
        case round =>
          obtain ⟨j, hj5, hjn, rfl, hj⟩ := hrel
          have HJ : Hid (j + Pl.cB (l.drop j) = 5 + Pl.cB (l.drop 5)) := hj
          clear hj
          by_cases hjl : j < n
          · have HG : Hid (l.drop j = l.getD j 0 :: l.drop (j + 1)) := get_l l j (by have := HN.out; omega)
            have cj := HC.out j hjl
            cases hb : Pl.blk (l.getD j 0)
            · have HE : Hid (j = 5 + Pl.cB (l.drop 5)) := by
                show _ = _
                rw [← HJ.out, HG.out]; simp only [Pl.cB, hb, Bool.false_eq_true, if_false]; omega
              generalize l.getD j 0 = c at *
              go_wp2_with (first | (go_at_call 29; refine (blk_any _ _).mono ?_; rintro e w' ⟨rfl, rfl⟩))
              go_meet
              exact ⟨by rw [← HE.out], rfl⟩
            · have HE : Hid (j + 1 + Pl.cB (l.drop (j + 1)) = 5 + Pl.cB (l.drop 5)) := by
                show _ = _
                rw [← HJ.out, HG.out]; simp only [Pl.cB, hb, if_true]; omega
              generalize l.getD j 0 = c at *
              go_wp2_with (first | (go_at_call 29; refine (blk_any _ _).mono ?_; rintro e w' ⟨rfl, rfl⟩))
              go_round
              case rel => exact ⟨j + 1, by omega, by omega, by go_num, HE.out⟩
              case measure => simp [intOf]; omega
          · have HE : Hid (j = 5 + Pl.cB (l.drop 5)) := by
              show _ = _
              have h := HJ.out
              rw [List.drop_of_length_le (show l.length ≤ j by have := HN.out; omega)] at h
              simp only [Pl.cB] at h
              omega
            go_wp2
            go_meet
            exact ⟨by rw [← HE.out], rfl⟩
      case rest =>
        obtain ⟨rfl, rfl⟩ := hcut
        have hcb : 5 + Pl.cB (l.drop 5) ≤ n := by
          have := cB_le (l.drop 5)
          rw [List.length_drop, HN.out] at this
          omega
        by_cases hz : Pl.cB (l.drop 5) = 0
        · have HX2 : Hid (R = -1) := by
            show _ = _
            rw [HX.out, Pl.m2a, if_pos hz]
          rw [hz]
          clear hz hcb
          go_wp2
          go_ret
          exact ⟨ret_i64' HX2.out.symm, ⟨_, rfl⟩⟩
        · have HX2 : Hid (R = Pl.m2b l (5 + Pl.cB (l.drop 5))) := by
            show _ = _
            rw [HX.out, Pl.m2a, if_neg hz]
          have hj5 : 5 < 5 + Pl.cB (l.drop 5) := by omega
          clear HX hz
          generalize 5 + Pl.cB (l.drop 5) = J at *
          have hJb : ((J : Int) == 5) = false := by simp; omega
          go_upto_block 4 with fail
          go_cut [4] (fun v wc => v = .int .i64 ((J + Pl.cD (l.drop J) : Nat) : Int) ∧ w.drewN q = wc)
          case first =>
            go_wp2_with fail
            go_loop [4] (fun vj => ∃ j : Nat, j ≤ n ∧ vj = .int .i64 (j : Int) ∧ j + Pl.cD (l.drop j) = J + Pl.cD (l.drop J)) (fun vj => n - (intOf vj).toNat)
            case atStart => exact ⟨J, hcb, rfl, rfl⟩
            case round =>
              obtain ⟨j, hjn, rfl, hj⟩ := hrel
              have HJ : Hid (j + Pl.cD (l.drop j) = J + Pl.cD (l.drop J)) := hj
              clear hj
              by_cases hjl : j < n
              · have HG : Hid (l.drop j = l.getD j 0 :: l.drop (j + 1)) := get_l l j (by have := HN.out; omega)
                have cj := HC.out j hjl
                by_cases hd : 48 ≤ l.getD j 0 ∧ l.getD j 0 ≤ 57
                · have HE : Hid (j + 1 + Pl.cD (l.drop (j + 1)) = J + Pl.cD (l.drop J)) := by
                    show _ = _
                    have hdd : Pl.dig (l.getD j 0) = true := by simp only [Pl.dig, Bool.and_eq_true, decide_eq_true_eq]; exact hd
                    rw [← HJ.out, HG.out]; simp only [Pl.cD, hdd, if_true]; omega
                  generalize l.getD j 0 = c at *
                  obtain ⟨hd1, hd2⟩ := hd
                  go_wp2
                  go_round
                  case rel => exact ⟨j + 1, by omega, by go_num, HE.out⟩
                  case measure => simp [intOf]; omega
                · have HE : Hid (j = J + Pl.cD (l.drop J)) := by
                    show _ = _
                    have hdd : Pl.dig (l.getD j 0) = false := by
                      cases h : Pl.dig (l.getD j 0)
                      · rfl
                      · simp only [Pl.dig, Bool.and_eq_true, decide_eq_true_eq] at h; exact absurd h hd
                    rw [← HJ.out, HG.out]; simp only [Pl.cD, hdd, Bool.false_eq_true, if_false]; omega
                  generalize l.getD j 0 = c at *
                  by_cases hd1 : 48 ≤ c
                  · have hd2 : 57 < c := by omega
                    clear hd
                    go_wp2
                    go_meet
                    exact ⟨by rw [← HE.out], rfl⟩
                  · clear hd
                    go_wp2
                    go_meet
                    exact ⟨by rw [← HE.out], rfl⟩
              · have HE : Hid (j = J + Pl.cD (l.drop J)) := by
                  show _ = _
                  have h := HJ.out
                  rw [List.drop_of_length_le (show l.length ≤ j by have := HN.out; omega)] at h
                  simp only [Pl.cD] at h
                  omega
                go_wp2
                go_meet
                exact ⟨by rw [← HE.out], rfl⟩
          case rest =>
            obtain ⟨rfl, rfl⟩ := hcut
            have hcd : J + Pl.cD (l.drop J) ≤ n := by
              have := cD_le (l.drop J)
              rw [List.length_drop, HN.out] at this
              omega
            by_cases hz : Pl.cD (l.drop J) = 0
            · have HX3 : Hid (R = -1) := by
                show _ = _
                rw [HX2.out, Pl.m2b, if_pos hz]
              rw [hz]
              clear hz hcd
              go_wp2
              go_ret
              exact ⟨ret_i64' HX3.out.symm, ⟨_, rfl⟩⟩
            · have HX3 : Hid (R = if Pl.tl (l.drop (J + Pl.cD (l.drop J))) = true then ((J + Pl.cD (l.drop J) + 1 : Nat) : Int) else -1) := by
                show _ = _
                rw [HX2.out, Pl.m2b, if_neg hz]
              have hjK : J < J + Pl.cD (l.drop J) := by omega
              clear HX2 hz
              generalize J + Pl.cD (l.drop J) = K at *
              have hKb : ((K : Int) == (J : Int)) = false := by simp; omega
              by_cases hk1 : K < n
              · have HG : Hid (l.drop K = l.getD K 0 :: l.drop (K + 1)) := get_l l K (by have := HN.out; omega)
                have cK := HC.out K hk1
                by_cases h46 : l.getD K 0 = 46
                · rw [h46] at cK
                  by_cases hk2 : K + 1 < n
                  · have HG2 : Hid (l.drop (K + 1) = l.getD (K + 1) 0 :: l.drop (K + 1 + 1)) := get_l l (K + 1) (by have := HN.out; omega)
                    have cK2 : w.cell? ⟨b, o + (K + 1), none⟩ = some (.int .i32 (l.getD (K + 1) 0)) := HC.out (K + 1) hk2
                    by_cases h50 : l.getD (K + 1) 0 = 50
                    · rw [h50] at cK2
                      have HX4 : Hid (R = (K : Int) + 1) := by
                        show _ = _
                        rw [HX3.out, HG.out, HG2.out, if_pos]
                        · omega
                        · simp only [Pl.tl, Bool.and_eq_true, beq_iff_eq]
                          exact ⟨h46, h50⟩
                      clear h46 h50
                      go_wp2
                      go_ret
                      exact ⟨ret_i64' HX4.out.symm, ⟨_, rfl⟩⟩
                    · have h50b : (l.getD (K + 1) 0 != 50) = true := by simpa using h50
                      have HX4 : Hid (R = -1) := by
                        show _ = _
                        rw [HX3.out, HG.out, HG2.out, if_neg]
                        simp only [Pl.tl, Bool.and_eq_true, beq_iff_eq]
                        exact fun h => h50 h.2
                      clear h46 h50
                      generalize l.getD (K + 1) 0 = c2 at *
                      go_wp2
                      go_ret
                      exact ⟨ret_i64' HX4.out.symm, ⟨_, rfl⟩⟩
                  · have HX4 : Hid (R = -1) := by
                      show _ = _
                      rw [HX3.out, HG.out, List.drop_of_length_le (show l.length ≤ K + 1 by have := HN.out; omega), if_neg]
                      simp [Pl.tl]
                    clear h46
                    go_wp2
                    go_ret
                    exact ⟨ret_i64' HX4.out.symm, ⟨_, rfl⟩⟩
                · have h46b : (l.getD K 0 != 46) = true := by simpa using h46
                  have HX4 : Hid (R = -1) := by
                    show _ = _
                    rw [HX3.out, HG.out, if_neg]
                    cases l.drop (K + 1) with
                    | nil => simp [Pl.tl]
                    | cons a r => simp only [Pl.tl, Bool.and_eq_true, beq_iff_eq]; exact fun h => h46 h.1
                  clear h46
                  generalize l.getD K 0 = c2 at *
                  go_wp2
                  go_ret
                  exact ⟨ret_i64' HX4.out.symm, ⟨_, rfl⟩⟩
              · have HX4 : Hid (R = -1) := by
                  show _ = _
                  rw [HX3.out, List.drop_of_length_le (show l.length ≤ K by have := HN.out; omega), if_neg]
                  simp [Pl.tl]
                go_wp2
                go_ret
                exact ⟨ret_i64' HX4.out.symm, ⟨_, rfl⟩⟩

set_option maxHeartbeats 400000 in
theorem m2_short (ao : Option Addr) (n cap : Nat) (w : World) (hn5 : n < 5) :
    Calls Try.prog 22 #[.slice ao n cap] w fun e w' => e = .returned (.int .i64 (-1)) ∧ w' = w := by
  have hlt5 : decide ((n : Int) < 5) = true := by simp; omega
  go_enter Try.func22, Try.ntmps22
  go_wp2
  go_ret
  exact ⟨rfl, rfl⟩

end Go.Proofs.Qxb6601280a
