import Derived.Test.Qxb6601280aFloatM
import Derived.WalkKit
import Derived.WalkSpells
import Derived.WalkLawsBesides
import Derived.Deep.DeepCutAuto
import Derived.Deep.CutBlock
namespace Go.Proofs.Qxb6601280a
open Go.RowKit

set_option maxHeartbeats 400000 in
theorem accepts_any (s : ByteArray) (a : Int) (n : Nat) (w : World) (hs : s.size ≤ 1048576) (ha : a = (n : Int)) :
    Calls Try.prog 28 #[.string s, .int .i64 a] w fun e w' => e = .returned (.bool (Tx.acc (Tx.L s) n)) ∧ w' = w := by
  subst ha
  by_cases h : n ≤ s.size
  · have HA : Hid (∀ w, Calls Try.prog 18 #[.string (s.extract 0 n)] w fun e w' => e = .returned (mval (Tx.model (Tx.L (s.extract 0 n)))) ∧ w' = w) := fun w =>
      model_any (s.extract 0 n) w (by rw [Tx.size_L, Tx.extract_L, List.length_take, List.length_drop, ← Tx.size_L]; omega)
    have HB : Hid (Tx.acc (Tx.L s) n = (Tx.model (Tx.L (s.extract 0 n))).ok) := by
      show _ = _
      have h' : n ≤ (Tx.L s).length := by rw [← Tx.size_L]; exact h
      rw [Tx.acc, Tx.extract_L]
      simp [h']
    generalize Tx.model (Tx.L (s.extract 0 n)) = M at *
    go_enter Try.func28, Try.ntmps28
    go_wp2_with (first | (go_at_call 18; refine (HA.out _).mono ?_; rintro e w' ⟨rfl, rfl⟩))
    go_ret
    exact ⟨ret_bool' HB.out.symm, rfl⟩
  · have HB : Hid (Tx.acc (Tx.L s) n = false) := by
      show _ = _
      have h' : ¬ n ≤ (Tx.L s).length := by rw [← Tx.size_L]; exact h
      simp [Tx.acc, h']
    go_enter Try.func28, Try.ntmps28
    go_wp2
    go_ret
    exact ⟨ret_bool' HB.out.symm, rfl⟩

/-- nothing was read -/
def zb (ng : Bool) (a b c : List UInt8) : Bool := !ng && (a.isEmpty && (b.isEmpty && c.isEmpty))

set_option maxRecDepth 100000 in
set_option maxHeartbeats 16000000 in
theorem refused_go (s W F X : ByteArray) (ng : Bool) (w : World) (hs : s.size ≤ 1048576)
    (HY : Hid ((zb ng (Tx.L W) (Tx.L F) (Tx.L X) = true ∧ (Tx.noneB (Tx.L s) = true ∨ Tx.eCutB (Tx.L s) = true)) ∨
      (zb ng (Tx.L W) (Tx.L F) (Tx.L X) = false ∧ Tx.noneB (Tx.L s) = false ∧ Tx.eCutB (Tx.L s) = false ∧ ∃ v, v ≤ 1 ∧ Tx.Good (Tx.L s) ng (Tx.L W) (Tx.L F) (Tx.L X) v))) :
    Calls Try.prog 19 #[.string s, .bool ng, .string W, .string F, .string X] w fun e w' => e = .returned (.bool true) ∧ w' = w := by
  have HA : Hid (∀ (a : Int) (n : Nat) (w : World), a = (n : Int) → Calls Try.prog 28 #[.string s, .int .i64 a] w fun e w' => e = .returned (.bool (Tx.acc (Tx.L s) n)) ∧ w' = w) :=
    fun a n w h => accepts_any s a n w hs h
  go_enter Try.func19, Try.ntmps19
  go_upto_region 1 with fail
  go_cut [11] (fun v wc => ∃ z : Bool, v = .bool z ∧ z = zb ng (Tx.L W) (Tx.L F) (Tx.L X) ∧ w = wc)
  case first =>
    as_aux_lemma =>
      have e1 : W.toList.isEmpty = (Tx.L W).isEmpty := by rw [ByteArray.toList_eq]; rfl
      have e2 : F.toList.isEmpty = (Tx.L F).isEmpty := by rw [ByteArray.toList_eq]; rfl
      have e3 : X.toList.isEmpty = (Tx.L X).isEmpty := by rw [ByteArray.toList_eq]; rfl
      clear HY HA
      cases ng <;> cases ha : (Tx.L W).isEmpty <;> cases hb : (Tx.L F).isEmpty <;> rw [ha] at e1 <;> rw [hb] at e2
      all_goals
        go_wp2
        go_meet
        exact ⟨_, rfl, by simp [zb, ha, hb], rfl⟩
  case rest =>
    obtain ⟨z, rfl, hz0, rfl⟩ := hcut
    have HZ : Hid (z = zb ng (Tx.L W) (Tx.L F) (Tx.L X)) := hz0
    clear hz0
    go_upto_region 2 with fail
    go_cut [12] (fun v wc => ∃ b : Bool, v = .bool b ∧ b = Tx.noneB (Tx.L s) ∧ w = wc)
    case first =>
      as_aux_lemma =>
        have H1 : Hid (∀ w, Calls Try.prog 28 #[.string s, .int .i64 1] w fun e w' => e = .returned (.bool (Tx.acc (Tx.L s) 1)) ∧ w' = w) := fun w => HA.out 1 1 w rfl
        have H2 : Hid (∀ w, Calls Try.prog 28 #[.string s, .int .i64 2] w fun e w' => e = .returned (.bool (Tx.acc (Tx.L s) 2)) ∧ w' = w) := fun w => HA.out 2 2 w rfl
        have H3 : Hid (∀ w, Calls Try.prog 28 #[.string s, .int .i64 3] w fun e w' => e = .returned (.bool (Tx.acc (Tx.L s) 3)) ∧ w' = w) := fun w => HA.out 3 3 w rfl
        have HNB : Hid (Tx.noneB (Tx.L s) = (!Tx.acc (Tx.L s) 1 && (!Tx.acc (Tx.L s) 2 && !Tx.acc (Tx.L s) 3))) := rfl
        generalize Tx.acc (Tx.L s) 1 = b1 at *
        generalize Tx.acc (Tx.L s) 2 = b2 at *
        generalize Tx.acc (Tx.L s) 3 = b3 at *
        clear HY HA HZ
        cases b1
        · go_wp2_with fail
          refine (H1.out _).mono ?_
          rintro e w' ⟨rfl, rfl⟩
          cases b2
          · go_wp2_with fail
            refine (H2.out _).mono ?_
            rintro e w' ⟨rfl, rfl⟩
            go_wp2_with fail
            refine (H3.out _).mono ?_
            rintro e w' ⟨rfl, rfl⟩
            go_wp2_with fail
            go_meet
            exact ⟨_, rfl, by rw [HNB.out]; simp, rfl⟩
          · go_wp2_with fail
            refine (H2.out _).mono ?_
            rintro e w' ⟨rfl, rfl⟩
            go_wp2_with fail
            go_meet
            exact ⟨_, rfl, by rw [HNB.out]; simp, rfl⟩
        · go_wp2_with fail
          refine (H1.out _).mono ?_
          rintro e w' ⟨rfl, rfl⟩
          go_wp2_with fail
          go_meet
          exact ⟨_, rfl, by rw [HNB.out]; simp, rfl⟩
    case rest =>
      obtain ⟨nb, rfl, hnb, rfl⟩ := hcut
      have HN : Hid (nb = Tx.noneB (Tx.L s)) := hnb
      clear hnb
      go_upto_block 0 with fail
      go_cut [13] (fun v wc => v = .int .i64 (if Tx.cE (Tx.L s) < s.size then ((Tx.cE (Tx.L s) : Nat) : Int) else -1) ∧ w = wc)
      case first =>
        as_aux_lemma =>
          clear HY HA HZ HN
          go_wp2_with fail
          go_loop [13, 14] (fun ve vk => ∃ k : Nat, k ≤ s.size ∧ ve = .int .i64 (-1) ∧ vk = .int .i64 (k : Int) ∧ k + Tx.cE ((Tx.L s).drop k) = Tx.cE (Tx.L s)) (fun _ vk => s.size - (intOf vk).toNat)
          case atStart => exact ⟨0, Nat.zero_le _, rfl, rfl, by simp⟩
          case round =>
            obtain ⟨k, hk, rfl, rfl, hc⟩ := hrel
            have HC : Hid (k + Tx.cE ((Tx.L s).drop k) = Tx.cE (Tx.L s)) := hc
            clear hc
            by_cases hlt : k < s.size
            · have HG : Hid ((Tx.L s).drop k = s[k] :: (Tx.L s).drop (k + 1)) := Tx.get_L s k hlt
              by_cases h1 : (s[k].toNat : Int) = 101
              · have h1' : ((s[k].toNat : Int) == 101) = true := by simpa using h1
                have HE : Hid (k = Tx.cE (Tx.L s)) := by
                  show _ = _
                  rw [← HC.out, HG.out]; simp [Tx.cE, Tx.isE, h1]
                clear h1
                go_wp2
                go_meet
                exact ⟨by rw [← HE.out, if_pos hlt], rfl⟩
              · have h1' : ((s[k].toNat : Int) == 101) = false := by simpa using h1
                by_cases h2 : (s[k].toNat : Int) = 69
                · have h2' : ((s[k].toNat : Int) == 69) = true := by simpa using h2
                  have HE : Hid (k = Tx.cE (Tx.L s)) := by
                    show _ = _
                    rw [← HC.out, HG.out]; simp [Tx.cE, Tx.isE, h2]
                  clear h1 h2
                  go_wp2
                  go_meet
                  exact ⟨by rw [← HE.out, if_pos hlt], rfl⟩
                · have h2' : ((s[k].toNat : Int) == 69) = false := by simpa using h2
                  have HE : Hid (k + 1 + Tx.cE ((Tx.L s).drop (k + 1)) = Tx.cE (Tx.L s)) := by
                    show _ = _
                    have h3 : Tx.isE s[k] = false := by simp [Tx.isE, h1, h2]
                    rw [← HC.out, HG.out]; simp only [Tx.cE, h3, Bool.false_eq_true, if_false]; omega
                  clear h1 h2
                  go_wp2
                  go_round
                  case rel => exact ⟨k + 1, by omega, rfl, by go_num, HE.out⟩
                  case measure => simp [intOf]; omega
            · have HE : Hid (s.size = Tx.cE (Tx.L s)) := by
                show _ = _
                have h := HC.out
                rw [List.drop_of_length_le (show (Tx.L s).length ≤ k by have := Tx.size_L s; omega)] at h
                simp only [Tx.cE] at h
                omega
              go_wp2
              go_meet
              exact ⟨by rw [← HE.out, if_neg (by omega)], rfl⟩
      case rest =>
        obtain ⟨rfl, rfl⟩ := hcut
        go_upto_region 9 with fail
        go_cut [13, 15] (fun _ v wc => ∃ b : Bool, v = .bool b ∧ b = Tx.eCutB (Tx.L s) ∧ w = wc)
        case first =>
          as_aux_lemma =>
            have HEB : Hid (Tx.eCutB (Tx.L s) = (decide (Tx.cE (Tx.L s) < (Tx.L s).length) && (Tx.acc (Tx.L s) (Tx.cE (Tx.L s)) && (!Tx.acc (Tx.L s) (Tx.cE (Tx.L s) + 2) && !Tx.acc (Tx.L s) (Tx.cE (Tx.L s) + 3))))) := rfl
            have hsz : (Tx.L s).length = s.size := rfl
            rw [hsz] at HEB
            clear hsz
            have H1 : Hid (∀ w, Calls Try.prog 28 #[.string s, .int .i64 (Tx.cE (Tx.L s) : Int)] w fun e w' => e = .returned (.bool (Tx.acc (Tx.L s) (Tx.cE (Tx.L s)))) ∧ w' = w) := fun w => HA.out _ _ w rfl
            have H2 : Hid (∀ w, Calls Try.prog 28 #[.string s, .int .i64 ((Tx.cE (Tx.L s) : Int) + 2)] w fun e w' => e = .returned (.bool (Tx.acc (Tx.L s) (Tx.cE (Tx.L s) + 2))) ∧ w' = w) := fun w => HA.out _ _ w (by omega)
            have H3 : Hid (∀ w, Calls Try.prog 28 #[.string s, .int .i64 ((Tx.cE (Tx.L s) : Int) + 3)] w fun e w' => e = .returned (.bool (Tx.acc (Tx.L s) (Tx.cE (Tx.L s) + 3))) ∧ w' = w) := fun w => HA.out _ _ w (by omega)
            generalize Tx.acc (Tx.L s) (Tx.cE (Tx.L s)) = b1 at *
            generalize Tx.acc (Tx.L s) (Tx.cE (Tx.L s) + 2) = b2 at *
            generalize Tx.acc (Tx.L s) (Tx.cE (Tx.L s) + 3) = b3 at *
            generalize Tx.cE (Tx.L s) = k at *
            clear HY HA HZ HN
            by_cases hlt : k < s.size
            · rw [if_pos hlt]
              cases b1
              · go_wp2_with fail
                refine (H1.out _).mono ?_
                rintro e w' ⟨rfl, rfl⟩
                go_wp2_with fail
                go_meet
                exact ⟨_, rfl, by rw [HEB.out]; simp, rfl⟩
              · go_wp2_with fail
                refine (H1.out _).mono ?_
                rintro e w' ⟨rfl, rfl⟩
                cases b2
                · go_wp2_with fail
                  refine (H2.out _).mono ?_
                  rintro e w' ⟨rfl, rfl⟩
                  go_wp2_with fail
                  refine (H3.out _).mono ?_
                  rintro e w' ⟨rfl, rfl⟩
                  go_wp2_with fail
                  go_meet
                  exact ⟨_, rfl, by rw [HEB.out]; simp [hlt], rfl⟩
                · go_wp2_with fail
                  refine (H2.out _).mono ?_
                  rintro e w' ⟨rfl, rfl⟩
                  go_wp2_with fail
                  go_meet
                  exact ⟨_, rfl, by rw [HEB.out]; simp, rfl⟩
            · rw [if_neg hlt]
              go_wp2_with fail
              go_meet
              exact ⟨_, rfl, by rw [HEB.out]; simp [hlt], rfl⟩
        case rest =>
          obtain ⟨ec, rfl, hec, rfl⟩ := hcut
          have HC : Hid (ec = Tx.eCutB (Tx.L s)) := hec
          clear hec
          have hy := HY.out
          rw [← HZ.out, ← HN.out, ← HC.out] at hy
          clear HY HZ HN HC
          rcases hy with ⟨rfl, hy⟩ | ⟨rfl, rfl, rfl, v, hv, hg⟩
          · cases nb
            · obtain rfl : ec = true := by simpa using hy
              clear hy
              go_wp2
              go_ret
              exact ⟨rfl, rfl⟩
            · clear hy
              go_wp2
              go_ret
              exact ⟨rfl, rfl⟩
          · have hpl := hg.hp
            have hszl : (Tx.L s).length = s.size := rfl
            have hW : W.size = (Tx.L W).length := rfl
            have hF : F.size = (Tx.L F).length := rfl
            have hX : X.size = (Tx.L X).length := rfl
            unfold Tx.pAt at hpl
            rw [hszl, ← hW, ← hF, ← hX] at hpl
            have HGD : Hid (Tx.Good (Tx.L s) ng (Tx.L W) (Tx.L F) (Tx.L X) v) := hg
            clear hg hszl hW hF hX
            go_upto_region 15 with fail
            go_cut [106] (fun v wc => ∃ b : Bool, v = .bool b ∧ b = ss (Tx.L s) ∧ w = wc)
            case first =>
              as_aux_lemma =>
                clear HA HGD
                by_cases h0 : s.size = 0
                · have he := empty_yes h0
                  have HL : Hid (Tx.L s = []) := nil_L h0
                  clear h0 hpl
                  go_wp2
                  go_meet
                  exact ⟨_, rfl, by rw [HL.out]; rfl, rfl⟩
                · have hp : 0 < s.size := by omega
                  have he := empty_no hp
                  have HL : Hid (Tx.L s = s[0] :: (Tx.L s).drop 1) := head_L hp
                  clear h0
                  by_cases h1 : (s[0].toNat : Int) = 45
                  · have h1' : ((s[0].toNat : Int) == 45) = true := by simpa using h1
                    have HR : Hid (ss (Tx.L s) = true) := by show _ = _; rw [HL.out]; simp [ss, h1]
                    clear h1
                    go_wp2
                    go_meet
                    exact ⟨_, rfl, HR.out.symm, rfl⟩
                  · have h1' : ((s[0].toNat : Int) == 45) = false := by simpa using h1
                    have HR : Hid (ss (Tx.L s) = ((s[0].toNat : Int) == 43)) := by show _ = _; rw [HL.out]; simp [ss, h1]
                    clear h1
                    go_wp2
                    go_meet
                    exact ⟨_, rfl, HR.out.symm, rfl⟩
            case rest =>
              obtain ⟨b, rfl, hb, rfl⟩ := hcut
              have HB : Hid (b = ss (Tx.L s)) := hb
              clear hb
              go_upto_if 106 with fail
              go_cut [16] (fun v wc => ∃ g : Nat, v = .int .i64 g ∧ g = Tx.sgn (Tx.L s) ∧ w = wc)
              case first =>
                as_aux_lemma =>
                  clear HA HGD
                  have HT : Hid (Tx.sgn (Tx.L s) = if b = true then 1 else 0) := by
                    show _ = _
                    rw [HB.out]
                    cases Tx.L s with
                    | nil => rfl
                    | cons c l => rfl
                  cases b
                  · go_wp2
                    go_meet
                    exact ⟨0, by go_num, by rw [HT.out]; simp, rfl⟩
                  · go_wp2
                    go_meet
                    exact ⟨1, by go_num, by rw [HT.out]; simp, rfl⟩
              case rest =>
                obtain ⟨g, rfl, hg0, rfl⟩ := hcut
                have HGE : Hid (g = Tx.sgn (Tx.L s)) := hg0
                rw [← hg0] at hpl
                clear hg0 HB
                go_wp2_with fail
                go_loop [17] (fun vk => ∃ k : Nat, k ≤ v ∧ vk = .int .i64 (k : Int)) (fun vk => 2 - (intOf vk).toNat)
                case atStart => exact ⟨0, Nat.zero_le _, rfl⟩
                case round =>
                  obtain ⟨k, hk, rfl⟩ := hrel
                  by_cases hkv : k = v
                  · as_aux_lemma =>
                      subst hkv
                      have hfe : (k : Int) == 0 → F.toList.isEmpty = true := by
                        intro h
                        have h' : k = 0 := by simpa using h
                        have := HGD.out.hv h'
                        rw [ByteArray.toList_eq]
                        show (Tx.L F).isEmpty = true
                        rw [this]; rfl
                      go_upto_region 20 with fail
                      go_cut [116] (fun v wc => v = .bool false ∧ w = wc)
                      case first =>
                        as_aux_lemma =>
                          cases hk0 : ((k : Int) == 0)
                          · go_wp2
                            go_meet
                            exact ⟨rfl, rfl⟩
                          · have hf2 := hfe hk0
                            clear hfe
                            go_wp2
                            go_meet
                            exact ⟨rfl, rfl⟩
                      case rest =>
                        obtain ⟨rfl, rfl⟩ := hcut
                        clear hfe
                        go_upto_region 21 with fail
                        go_cut [18] (fun v wc => ∃ p : Nat, v = .int .i64 p ∧ p = g + W.size + k + F.size + X.size ∧ w = wc)
                        case first =>
                          as_aux_lemma =>
                            go_wp2
                            go_meet
                            exact ⟨g + W.size + k + F.size + X.size, by go_num, rfl, rfl⟩
                        case rest =>
                          obtain ⟨p, rfl, hp0, rfl⟩ := hcut
                          have hps : p < s.size := by omega
                          have hpA : Tx.pAt (Tx.L s) (Tx.L W) (Tx.L F) (Tx.L X) k = p := by
                            unfold Tx.pAt
                            rw [← HGE.out, hp0]; rfl
                          have hgd := HGD.out
                          have g1 := hgd.hm
                          have g2 := hgd.h1
                          have g3 := hgd.h2
                          have g4 := hgd.h3
                          have g5 := hgd.he
                          rw [hpA] at g1 g2 g3 g4 g5
                          have HM : Hid (∀ w, Calls Try.prog 18 #[.string (s.extract 0 p)] w fun e w' => e = .returned (.tuple #[.bool true, .bool ng, .string W, .string F, .string X]) ∧ w' = w) := by
                            intro w
                            have := model_any (s.extract 0 p) w (by rw [Tx.size_L, Tx.extract_L, List.length_take, List.length_drop, ← Tx.size_L]; omega)
                            have e0 : Tx.L (s.extract 0 p) = (Tx.L s).take p := by rw [Tx.extract_L]; simp
                            rw [e0, g1] at this
                            exact this
                          have H1 : Hid (∀ w, Calls Try.prog 28 #[.string s, .int .i64 ((p : Int) + 1)] w fun e w' => e = .returned (.bool false) ∧ w' = w) := fun w => by
                            have := HA.out ((p : Int) + 1) (p + 1) w (by omega)
                            rwa [g2] at this
                          have H2 : Hid (∀ w, Calls Try.prog 28 #[.string s, .int .i64 ((p : Int) + 2)] w fun e w' => e = .returned (.bool false) ∧ w' = w) := fun w => by
                            have := HA.out ((p : Int) + 2) (p + 2) w (by omega)
                            rwa [g3] at this
                          have H3 : Hid (∀ w, Calls Try.prog 28 #[.string s, .int .i64 ((p : Int) + 3)] w fun e w' => e = .returned (.bool false) ∧ w' = w) := fun w => by
                            have := HA.out ((p : Int) + 3) (p + 3) w (by omega)
                            rwa [g4] at this
                          have HE5 : Hid (X.toList.isEmpty = true → ((s[p].toNat : Int) == 101) = false ∧ ((s[p].toNat : Int) == 69) = false) := by
                            intro h
                            rw [ByteArray.toList_eq] at h
                            have h' : Tx.L X = [] := by simpa using (show (Tx.L X).isEmpty = true from h)
                            have h5 := g5 h' _ _ (Tx.get_L s p hps)
                            simp only [Tx.isE, Bool.or_eq_false_iff] at h5
                            exact h5
                          clear hgd g1 g2 g3 g4 g5 hpA hp0 HGD HGE HA hpl
                          cases hxe : X.toList.isEmpty
                          · clear HE5
                            go_wp2_with fail
                            refine (HM.out _).mono ?_
                            rintro e w' ⟨rfl, rfl⟩
                            go_wp2_with fail
                            refine (H1.out _).mono ?_
                            rintro e w' ⟨rfl, rfl⟩
                            go_wp2_with fail
                            refine (H2.out _).mono ?_
                            rintro e w' ⟨rfl, rfl⟩
                            go_wp2_with fail
                            refine (H3.out _).mono ?_
                            rintro e w' ⟨rfl, rfl⟩
                            go_wp2_with fail
                            go_ret
                            exact ⟨rfl, rfl⟩
                          · obtain ⟨q1, q2⟩ := HE5.out hxe
                            clear HE5
                            go_wp2_with fail
                            refine (HM.out _).mono ?_
                            rintro e w' ⟨rfl, rfl⟩
                            go_wp2_with fail
                            refine (H1.out _).mono ?_
                            rintro e w' ⟨rfl, rfl⟩
                            go_wp2_with fail
                            refine (H2.out _).mono ?_
                            rintro e w' ⟨rfl, rfl⟩
                            go_wp2_with fail
                            refine (H3.out _).mono ?_
                            rintro e w' ⟨rfl, rfl⟩
                            go_wp2_with fail
                            go_ret
                            exact ⟨rfl, rfl⟩
                  · as_aux_lemma =>
                      obtain rfl : k = 0 := by omega
                      obtain rfl : v = 1 := by omega
                      have HG2 : Hid (∀ (a : Int) (w : World), 0 ≤ a → Calls Try.prog 28 #[.string s, .int .i64 a] w fun e w' => ∃ b : Bool, e = .returned (.bool b) ∧ w' = w) := fun a w h => by
                        obtain ⟨n, hn⟩ := Int.eq_ofNat_of_zero_le h
                        exact (HA.out a n w hn).mono (fun e w' h => ⟨_, h.1, h.2⟩)
                      clear HA HGD HGE hkv
                      cases hfe : F.toList.isEmpty
                      · go_wp2
                        go_round
                        case rel => exact ⟨1, by omega, by go_num⟩
                        case measure => decide
                      · go_upto_region 21 with fail
                        go_cut [18] (fun v wc => ∃ p : Nat, v = .int .i64 p ∧ p = g + W.size + 0 + F.size + X.size ∧ w = wc)
                        case first =>
                          as_aux_lemma =>
                            go_wp2
                            go_meet
                            exact ⟨g + W.size + 0 + F.size + X.size, by go_num, rfl, rfl⟩
                        case rest =>
                          obtain ⟨p, rfl, hp0, rfl⟩ := hcut
                          have hps : p < s.size := by omega
                          clear hp0
                          obtain ⟨M, HM⟩ : ∃ M : Tx.FT, Hid (∀ w, Calls Try.prog 18 #[.string (s.extract 0 p)] w fun e w' => e = .returned (mval M) ∧ w' = w) :=
                            ⟨_, fun w => model_any (s.extract 0 p) w (by rw [Tx.size_L, Tx.extract_L, List.length_take, List.length_drop, ← Tx.size_L]; omega)⟩
                          go_upto_region 24 with (first | (go_at_call 18; refine (HM.out _).mono ?_; rintro e w' ⟨rfl, hw⟩; obtain rfl := hw.symm))
                          go_cut [19, 20, 21, 22, 23, 164] (fun _ _ _ _ _ v wc => ∃ b : Bool, v = .bool b ∧ w = wc)
                          case first =>
                            as_aux_lemma =>
                              go_wp2
                              all_goals
                                go_meet
                                exact ⟨_, rfl, rfl⟩
                          case rest =>
                            obtain ⟨b, rfl, rfl⟩ := hcut
                            clear HM
                            cases b
                            · go_upto_region 25 with fail
                              go_cut [180] (fun v wc => ∃ b : Bool, v = .bool b ∧ w = wc)
                              case first =>
                                as_aux_lemma =>
                                  go_wp2_with fail
                                  refine (HG2.out _ _ (by omega)).mono ?_
                                  rintro e w' ⟨b1, rfl, rfl⟩
                                  cases b1
                                  · go_wp2_with fail
                                    refine (HG2.out _ _ (by omega)).mono ?_
                                    rintro e w' ⟨b1, rfl, rfl⟩
                                    cases b1
                                    · go_wp2_with fail
                                      refine (HG2.out _ _ (by omega)).mono ?_
                                      rintro e w' ⟨b1, rfl, rfl⟩
                                      go_wp2_with fail
                                      go_meet
                                      exact ⟨_, rfl, rfl⟩
                                    · go_wp2_with fail
                                      go_meet
                                      exact ⟨_, rfl, rfl⟩
                                  · go_wp2_with fail
                                    go_meet
                                    exact ⟨_, rfl, rfl⟩
                              case rest =>
                                obtain ⟨b, rfl, rfl⟩ := hcut
                                cases b
                                · go_upto_region 26 with fail
                                  go_cut [194] (fun v wc => ∃ b : Bool, v = .bool b ∧ w = wc)
                                  case first =>
                                    as_aux_lemma =>
                                      go_wp2
                                      all_goals
                                        go_meet
                                        exact ⟨_, rfl, rfl⟩
                                  case rest =>
                                    obtain ⟨b, rfl, rfl⟩ := hcut
                                    cases b
                                    · go_wp2
                                      go_ret
                                      exact ⟨rfl, rfl⟩
                                    · go_wp2
                                      go_round
                                      case rel => exact ⟨1, by omega, by go_num⟩
                                      case measure => decide
                                · go_wp2
                                  go_round
                                  case rel => exact ⟨1, by omega, by go_num⟩
                                  case measure => decide
                            · go_wp2
                              go_round
                              case rel => exact ⟨1, by omega, by go_num⟩
                              case measure => decide
end Go.Proofs.Qxb6601280a
