import Derived.Test.Qxb6601280aFloatC
import Derived.WalkKit
import Derived.WalkSpells
import Derived.WalkLawsBesides
import Derived.Deep.DeepCutAuto
import Derived.Deep.CutBlock
namespace Go.Proofs.Qxb6601280a
open Go.RowKit

theorem ret_bool' {a b : Bool} (h : a = b) : Ending.returned (.bool a) = .returned (.bool b) := by rw [h]
theorem ret_mval {a b : Value} (h : a = b) : Ending.returned a = .returned b := by rw [h]
/-- a reading as the model hands it back -/
abbrev mval (p : Tx.FT) : Value := .tuple #[.bool p.ok, .bool p.neg, .string (Tx.S p.w), .string (Tx.S p.f), .string (Tx.S p.x)]

set_option maxHeartbeats 400000 in
theorem isdig_any (c : UInt8) (w : World) :
    Calls Try.prog 27 #[.int .u8 (c.toNat : Int)] w fun e w' => e = .returned (.bool (Tx.isD c)) ∧ w' = w := by
  by_cases h1 : 48 ≤ (c.toNat : Int)
  · go_enter Try.func27, Try.ntmps27
    go_wp2
    go_ret
    exact ⟨ret_bool' (by simp [Tx.isD, h1]), rfl⟩
  · go_enter Try.func27, Try.ntmps27
    go_wp2
    go_ret
    exact ⟨ret_bool' (by simp [Tx.isD]; omega), rfl⟩

theorem Tx.cE_le (r : ByteArray) : Tx.cE (Tx.L r) ≤ r.size := by
  rw [Tx.size_L]
  generalize Tx.L r = l
  induction l with
  | nil => exact Nat.le_refl _
  | cons c l ih => simp only [Tx.cE, List.length_cons]; split <;> omega

set_option maxRecDepth 100000 in
set_option maxHeartbeats 2000000 in
theorem model_go (s : ByteArray) (w : World) (hs : s.size ≤ 1048576) (P : Tx.FT) (HP : Hid (Tx.model (Tx.L s) = P)) :
    Calls Try.prog 18 #[.string s] w fun e w' => e = .returned (mval P) ∧ w' = w := by
  go_enter Try.func18, Try.ntmps18
  go_upto_region 1 with fail
  go_cut [7] (fun v wc => ∃ b : Bool, v = .bool b ∧ b = Tx.neg (Tx.L s) ∧ w = wc)
  case first =>
    by_cases h0 : s.size = 0
    · have he := empty_yes h0
      have HL : Hid (Tx.L s = []) := nil_L h0
      clear h0
      go_wp2
      go_meet
      exact ⟨_, rfl, by rw [HL.out]; rfl, rfl⟩
    · have hp : 0 < s.size := by omega
      have he := empty_no hp
      have HL : Hid (Tx.L s = s[0] :: (Tx.L s).drop 1) := head_L hp
      clear h0
      go_wp2
      go_meet
      exact ⟨_, rfl, by rw [HL.out]; rfl, rfl⟩
  case rest =>
    obtain ⟨ng, rfl, hng, rfl⟩ := hcut
    have HN : Hid (ng = Tx.neg (Tx.L s)) := hng
    clear hng
    go_upto_region 3 with fail
    go_cut [37] (fun v wc => ∃ b : Bool, v = .bool b ∧ b = ss (Tx.L s) ∧ w = wc)
    case first =>
      by_cases h0 : s.size = 0
      · have he := empty_yes h0
        have HL : Hid (Tx.L s = []) := nil_L h0
        clear h0
        go_wp2
        go_meet
        exact ⟨_, rfl, by rw [HL.out]; rfl, rfl⟩
      · have hp : 0 < s.size := by omega
        have he := empty_no hp
        have HL : Hid (Tx.L s = s[0] :: (Tx.L s).drop 1) := head_L hp
        clear h0
        by_cases h1 : (s[0].toNat : Int) = 45
        · have h1' : ((s[0].toNat : Int) == 45) = true := by simpa using h1
          have HR : Hid (ss (Tx.L s) = true) := by show _ = _; rw [HL.out]; simp [ss, h1]
          clear h1
          go_wp2
          go_meet
          exact ⟨_, rfl, HR.out.symm, rfl⟩
        · have h1' : ((s[0].toNat : Int) == 45) = false := by simpa using h1
          have HR : Hid (ss (Tx.L s) = ((s[0].toNat : Int) == 43)) := by show _ = _; rw [HL.out]; simp [ss, h1]
          clear h1
          go_wp2
          go_meet
          exact ⟨_, rfl, HR.out.symm, rfl⟩
    case rest =>
      obtain ⟨b, rfl, hb, rfl⟩ := hcut
      have HB : Hid (b = ss (Tx.L s)) := hb
      clear hb
      go_upto_if 37 with fail
      go_cut [8] (fun v wc => ∃ r : ByteArray, v = .string r ∧ Tx.L r = Tx.uns (Tx.L s) ∧ w = wc)
      case first =>
        cases b
        · have HU : Hid (Tx.L s = Tx.uns (Tx.L s)) := by
            show _ = _
            have hb := HB.out
            cases hl : Tx.L s with
            | nil => rfl
            | cons c l => rw [hl] at hb; have h1 : Tx.isS c = false := hb.symm; simp [Tx.uns, h1]
          go_wp2
          go_meet
          exact ⟨_, rfl, HU.out, rfl⟩
        · have hp : 1 ≤ s.size := by
            have hb := HB.out
            by_cases h0 : s.size = 0
            · rw [nil_L h0] at hb; simp [ss] at hb
            · omega
          have HU : Hid (Tx.L (s.extract 1 s.size) = Tx.uns (Tx.L s)) := by
            show _ = _
            have hb := HB.out
            rw [Tx.extract_L, List.take_of_length_le (by rw [List.length_drop, Tx.size_L]; omega)]
            cases hl : Tx.L s with
            | nil => rfl
            | cons c l => rw [hl] at hb; have h1 : Tx.isS c = true := hb.symm; simp [Tx.uns, h1]
          go_wp2
          go_meet
          exact ⟨_, rfl, HU.out, rfl⟩
      case rest =>
        obtain ⟨r, rfl, hr, rfl⟩ := hcut
        have HR : Hid (Tx.L r = Tx.uns (Tx.L s)) := hr
        have hrs : r.size ≤ 1048576 := by
          rw [Tx.size_L, hr, Tx.uns_eq, List.length_drop, ← Tx.size_L]; omega
        clear hr HB
        go_upto_block 0 with fail
        go_cut [9] (fun v wc => v = .int .i64 ((Tx.cE (Tx.L r) : Nat) : Int) ∧ w = wc)
        case first =>
          go_wp2_with fail
          go_loop [9, 10] (fun ve vk => ∃ k : Nat, k ≤ r.size ∧ ve = .int .i64 (r.size : Int) ∧ vk = .int .i64 (k : Int) ∧ k + Tx.cE ((Tx.L r).drop k) = Tx.cE (Tx.L r)) (fun _ vk => r.size - (intOf vk).toNat)
          case atStart => exact ⟨0, Nat.zero_le _, rfl, rfl, by simp⟩
          case round =>
            obtain ⟨k, hk, rfl, rfl, hc⟩ := hrel
            have HC : Hid (k + Tx.cE ((Tx.L r).drop k) = Tx.cE (Tx.L r)) := hc
            clear hc
            by_cases hlt : k < r.size
            · have HG : Hid ((Tx.L r).drop k = r[k] :: (Tx.L r).drop (k + 1)) := Tx.get_L r k hlt
              by_cases h1 : (r[k].toNat : Int) = 101
              · have h1' : ((r[k].toNat : Int) == 101) = true := by simpa using h1
                have HE : Hid (k = Tx.cE (Tx.L r)) := by
                  show _ = _
                  rw [← HC.out, HG.out]; simp [Tx.cE, Tx.isE, h1]
                clear h1
                go_wp2
                go_meet
                exact ⟨by rw [← HE.out], rfl⟩
              · have h1' : ((r[k].toNat : Int) == 101) = false := by simpa using h1
                by_cases h2 : (r[k].toNat : Int) = 69
                · have h2' : ((r[k].toNat : Int) == 69) = true := by simpa using h2
                  have HE : Hid (k = Tx.cE (Tx.L r)) := by
                    show _ = _
                    rw [← HC.out, HG.out]; simp [Tx.cE, Tx.isE, h2]
                  clear h1 h2
                  go_wp2
                  go_meet
                  exact ⟨by rw [← HE.out], rfl⟩
                · have h2' : ((r[k].toNat : Int) == 69) = false := by simpa using h2
                  have HE : Hid (k + 1 + Tx.cE ((Tx.L r).drop (k + 1)) = Tx.cE (Tx.L r)) := by
                    show _ = _
                    have h3 : Tx.isE r[k] = false := by simp [Tx.isE, h1, h2]
                    rw [← HC.out, HG.out]; simp only [Tx.cE, h3, Bool.false_eq_true, if_false]; omega
                  clear h1 h2
                  go_wp2
                  go_round
                  case rel => exact ⟨k + 1, by omega, rfl, by go_num, HE.out⟩
                  case measure => simp [intOf]; omega
            · have HE : Hid (r.size = Tx.cE (Tx.L r)) := by
                show _ = _
                have h := HC.out
                rw [List.drop_of_length_le (show (Tx.L r).length ≤ k by have := Tx.size_L r; omega)] at h
                simp only [Tx.cE] at h
                omega
              go_wp2
              go_meet
              exact ⟨by rw [← HE.out], rfl⟩
        case rest =>
          obtain ⟨rfl, rfl⟩ := hcut
          have hel : Tx.cE (Tx.L r) ≤ r.size := Tx.cE_le r
          obtain ⟨e, he⟩ : ∃ e, Tx.cE (Tx.L r) = e := ⟨_, rfl⟩
          have HE : Hid (Tx.cE (Tx.L r) = e) := he
          rw [he] at hel ⊢
          clear he
          go_wp2_with fail
          have hM : Tx.L (r.extract 0 e) = (Tx.L r).take e := by rw [Tx.extract_L]; simp
          have hX : Tx.L (r.extract e r.size) = (Tx.L r).drop e := by
            rw [Tx.extract_L, List.take_of_length_le]
            rw [List.length_drop, Tx.size_L]; omega
          have hMs : (r.extract 0 e).size ≤ 1048576 := by
            rw [Tx.size_L, hM, List.length_take]; omega
          have hXs : (r.extract e r.size).size ≤ 1048576 := by
            rw [Tx.size_L, hX, List.length_drop, ← Tx.size_L]; omega
          generalize r.extract 0 e = M at *
          generalize r.extract e r.size = X at *
          have HP2 : Hid ((match Tx.scan (Tx.L M) (-1) 0 with
              | none => Tx.zero
              | some d => Tx.mfin ng (Tx.L M) (Tx.L X) d) = P) := by
            show _ = _
            rw [← HP.out, Tx.model, ← HR.out, HE.out, hM, hX, HN.out]
            rfl
          clear hM hX HP HR HE HN
          go_loop [13, 14] (fun vd vk => ∃ (d : Int) (k : Nat), k ≤ M.size ∧ vd = .int .i64 d ∧ vk = .int .i64 (k : Int) ∧ -1 ≤ d ∧ d < k ∧ Tx.scan ((Tx.L M).drop k) d k = Tx.scan (Tx.L M) (-1) 0) (fun _ vk => M.size - (intOf vk).toNat)
          case atStart => exact ⟨-1, 0, Nat.zero_le _, rfl, rfl, by omega, by omega, by simp⟩
          case round =>
            obtain ⟨d, k, hk, rfl, rfl, hd1, hd2, hc⟩ := hrel
            have HC : Hid (Tx.scan ((Tx.L M).drop k) d k = Tx.scan (Tx.L M) (-1) 0) := hc
            clear hc
            by_cases hlt : k < M.size
            · have HG : Hid ((Tx.L M).drop k = M[k] :: (Tx.L M).drop (k + 1)) := Tx.get_L M k hlt
              by_cases h1 : ((M[k].toNat : Int) == 46) = true
              · have hp : Tx.isP M[k] = true := h1
                by_cases h2 : 0 ≤ d
                · have HZ : Hid (P = Tx.zero) := by
                    show _ = _
                    have h := HC.out
                    rw [HG.out] at h
                    simp only [Tx.scan, hp, if_true, h2] at h
                    rw [← HP2.out, ← h]
                  clear hp
                  go_wp2
                  refine bodyPost_ret (results_tmp5 rfl _ _ _) rfl ?_
                  exact ⟨by rw [HZ.out]; rfl, rfl⟩
                · have HC2 : Hid (Tx.scan ((Tx.L M).drop (k + 1)) (k : Int) (k + 1) = Tx.scan (Tx.L M) (-1) 0) := by
                    show _ = _
                    have h := HC.out
                    rw [HG.out] at h
                    simp only [Tx.scan, hp, if_true, h2, if_false] at h
                    exact h
                  clear hp
                  go_wp2
                  go_round
                  case rel => exact ⟨(k : Int), k + 1, by omega, rfl, by go_num, by omega, by omega, HC2.out⟩
                  case measure => simp [intOf]; omega
              · have h1' : ((M[k].toNat : Int) == 46) = false := by simpa using h1
                have hp : Tx.isP M[k] = false := h1'
                clear h1
                cases hdg : Tx.isD M[k]
                · have HZ : Hid (P = Tx.zero) := by
                    show _ = _
                    have h := HC.out
                    rw [HG.out] at h
                    simp only [Tx.scan, hp, hdg, Bool.false_eq_true, if_false] at h
                    rw [← HP2.out, ← h]
                  clear hp
                  go_wp2_with (first | (go_at_call 27; refine (isdig_any _ _).mono ?_; rintro e w' ⟨rfl, rfl⟩))
                  refine bodyPost_ret (results_tmp5 rfl _ _ _) rfl ?_
                  exact ⟨by rw [HZ.out]; rfl, rfl⟩
                · have HC2 : Hid (Tx.scan ((Tx.L M).drop (k + 1)) d (k + 1) = Tx.scan (Tx.L M) (-1) 0) := by
                    show _ = _
                    have h := HC.out
                    rw [HG.out] at h
                    simp only [Tx.scan, hp, hdg, Bool.false_eq_true, if_false, if_true] at h
                    exact h
                  clear hp
                  go_wp2_with (first | (go_at_call 27; refine (isdig_any _ _).mono ?_; rintro e w' ⟨rfl, rfl⟩))
                  go_round
                  case rel => exact ⟨d, k + 1, by omega, rfl, by go_num, by omega, by omega, HC2.out⟩
                  case measure => simp [intOf]; omega
            · obtain rfl : k = M.size := by omega
              have HP3 : Hid (Tx.mfin ng (Tx.L M) (Tx.L X) d = P) := by
                show _ = _
                have h := HC.out
                rw [List.drop_of_length_le (show (Tx.L M).length ≤ M.size by rw [← Tx.size_L]; omega)] at h
                simp only [Tx.scan] at h
                rw [← HP2.out, ← h]
              clear HP2 HC hlt
              go_upto_if 85 with fail
              go_cut [15, 16] (fun v1 v2 wc => ∃ A B : ByteArray, v1 = .string A ∧ v2 = .string B ∧ (if Tx.L A = [] ∧ Tx.L B = [] then Tx.zero else if Tx.okX (Tx.L X) = true then (⟨true, ng, Tx.L A, Tx.L B, Tx.L X⟩ : Tx.FT) else Tx.zero) = P ∧ w = wc)
              case first =>
                by_cases h2 : 0 ≤ d
                · obtain ⟨j, rfl⟩ := Int.eq_ofNat_of_zero_le h2
                  have hj : j < M.size := by omega
                  have HA : Hid (Tx.L (M.extract 0 j) = (Tx.L M).take j) := by show _ = _; rw [Tx.extract_L]; simp
                  have HB : Hid (Tx.L (M.extract (j + 1) M.size) = (Tx.L M).drop (j + 1)) := by
                    show _ = _
                    rw [Tx.extract_L, List.take_of_length_le]
                    rw [List.length_drop, Tx.size_L]; omega
                  have HQ : Hid ((if (Tx.L M).take j = [] ∧ (Tx.L M).drop (j + 1) = [] then Tx.zero else if Tx.okX (Tx.L X) = true then (⟨true, ng, (Tx.L M).take j, (Tx.L M).drop (j + 1), Tx.L X⟩ : Tx.FT) else Tx.zero) = P) := by
                    show _ = _
                    rw [← HP3.out, Tx.mfin, if_pos h2, Int.toNat_natCast]
                  clear HP3
                  go_wp2
                  go_meet
                  exact ⟨_, _, rfl, rfl, by rw [HA.out, HB.out]; exact HQ.out, rfl⟩
                · have HQ : Hid ((if Tx.L M = [] ∧ Tx.L (⟨#[]⟩ : ByteArray) = [] then Tx.zero else if Tx.okX (Tx.L X) = true then (⟨true, ng, Tx.L M, Tx.L (⟨#[]⟩ : ByteArray), Tx.L X⟩ : Tx.FT) else Tx.zero) = P) := by
                    show _ = _
                    rw [← HP3.out, Tx.mfin, if_neg h2]
                    have : Tx.L (⟨#[]⟩ : ByteArray) = [] := rfl
                    rw [this]
                    simp
                  clear HP3
                  go_wp2
                  go_meet
                  exact ⟨_, _, rfl, rfl, HQ.out, rfl⟩
              case rest =>
                obtain ⟨A, B, rfl, rfl, hq, rfl⟩ := hcut
                have HQ : Hid ((if Tx.L A = [] ∧ Tx.L B = [] then Tx.zero else if Tx.okX (Tx.L X) = true then (⟨true, ng, Tx.L A, Tx.L B, Tx.L X⟩ : Tx.FT) else Tx.zero) = P) := hq
                clear hq HP3
                go_upto_region 28 with fail
                go_cut [98] (fun v wc => ∃ z : Bool, v = .bool z ∧ z = ((Tx.L A).isEmpty && (Tx.L B).isEmpty) ∧ w = wc)
                case first =>
                  have e1 : A.toList.isEmpty = (Tx.L A).isEmpty := by rw [ByteArray.toList_eq]; rfl
                  have e2 : B.toList.isEmpty = (Tx.L B).isEmpty := by rw [ByteArray.toList_eq]; rfl
                  cases ha : (Tx.L A).isEmpty
                  · rw [ha] at e1
                    go_wp2
                    go_meet
                    exact ⟨_, rfl, by simp [ha], rfl⟩
                  · rw [ha] at e1
                    go_wp2
                    go_meet
                    exact ⟨_, rfl, by simp [ha], rfl⟩
                case rest =>
                  obtain ⟨z, rfl, hz0, rfl⟩ := hcut
                  cases z
                  · have HP4 : Hid ((if Tx.okX (Tx.L X) = true then (⟨true, ng, Tx.L A, Tx.L B, Tx.L X⟩ : Tx.FT) else Tx.zero) = P) := by
                      show _ = _
                      have hn : ¬ (Tx.L A = [] ∧ Tx.L B = []) := by
                        intro h
                        simp [h.1, h.2] at hz0
                      rw [← HQ.out, if_neg hn]
                    clear hz0 HQ
                    by_cases hx : X.size = 0
                    · have hxe := empty_yes hx
                      have HZ : Hid (P = ⟨true, ng, Tx.L A, Tx.L B, Tx.L X⟩) := by
                        show _ = _
                        rw [← HP4.out, nil_L hx]; rfl
                      clear hx HP4
                      go_wp2
                      refine bodyPost_ret (results_tmp5 rfl _ _ _) rfl ?_
                      exact ⟨by rw [HZ.out]; rfl, rfl⟩
                    · have hxp : 0 < X.size := by omega
                      have hxe := empty_no hxp
                      clear hx
                      have HXL : Hid (Tx.L X = X[0] :: (Tx.L X).drop 1) := head_L hxp
                      go_upto_region 32 with fail
                      go_cut [116] (fun v wc => ∃ b : Bool, v = .bool b ∧ b = ss ((Tx.L X).drop 1) ∧ w = wc)
                      case first =>
                        by_cases hlt2 : 1 < X.size
                        · have HG : Hid ((Tx.L X).drop 1 = X[1] :: (Tx.L X).drop (1 + 1)) := Tx.get_L X 1 hlt2
                          by_cases h1 : (X[1].toNat : Int) = 45
                          · have h1' : ((X[1].toNat : Int) == 45) = true := by simpa using h1
                            have HR : Hid (ss ((Tx.L X).drop 1) = true) := by show _ = _; rw [HG.out]; simp [ss, h1]
                            clear h1
                            go_wp2
                            go_meet
                            exact ⟨_, rfl, HR.out.symm, rfl⟩
                          · have h1' : ((X[1].toNat : Int) == 45) = false := by simpa using h1
                            have HR : Hid (ss ((Tx.L X).drop 1) = ((X[1].toNat : Int) == 43)) := by show _ = _; rw [HG.out]; simp [ss, h1]
                            clear h1
                            go_wp2
                            go_meet
                            exact ⟨_, rfl, HR.out.symm, rfl⟩
                        · have HG : Hid ((Tx.L X).drop 1 = []) := List.drop_of_length_le (by have := Tx.size_L X; omega)
                          go_wp2
                          go_meet
                          exact ⟨_, rfl, by rw [HG.out]; rfl, rfl⟩
                      case rest =>
                        obtain ⟨b, rfl, hb0, rfl⟩ := hcut
                        have HS : Hid (b = ss ((Tx.L X).drop 1)) := hb0
                        clear hb0
                        go_upto_if 116 with fail
                        go_cut [17] (fun v wc => ∃ q : Nat, v = .int .i64 q ∧ q = 1 + Tx.sgn ((Tx.L X).drop 1) ∧ w = wc)
                        case first =>
                          have HT : Hid (Tx.sgn ((Tx.L X).drop 1) = if b = true then 1 else 0) := by
                            show _ = _
                            rw [HS.out]
                            cases (Tx.L X).drop 1 with
                            | nil => rfl
                            | cons c l => rfl
                          cases b
                          · go_wp2
                            go_meet
                            exact ⟨1, by go_num, by rw [HT.out]; simp, rfl⟩
                          · go_wp2
                            go_meet
                            exact ⟨1 + 1, by go_num, by rw [HT.out]; simp, rfl⟩
                        case rest =>
                          obtain ⟨q, rfl, hq0, rfl⟩ := hcut
                          have HDD : Hid (q = 1 + Tx.sgn ((Tx.L X).drop 1)) := hq0
                          have hsl := (Tx.sgn_le ((Tx.L X).drop 1)).1
                          rw [List.length_drop, ← Tx.size_L] at hsl
                          have hqr : q ≤ X.size := by omega
                          have hqn : 1 ≤ q := by omega
                          clear hq0 hsl HS
                          have HOK : Hid (Tx.okX (Tx.L X) = if q = X.size then false else Tx.alD ((Tx.L X).drop q)) := by
                            show _ = _
                            have h1 := HXL.out
                            have h2 := HDD.out
                            have h3 : X.size = ((Tx.L X).drop 1).length + 1 := by rw [List.length_drop, Tx.size_L]; have := Tx.size_L X; omega
                            have h4 : (Tx.L X).drop q = ((Tx.L X).drop 1).drop (Tx.sgn ((Tx.L X).drop 1)) := by rw [h2, List.drop_drop]
                            rw [h4]
                            generalize (Tx.L X).drop 1 = l at *
                            rw [h1, Tx.okX]
                            by_cases h5 : Tx.sgn l = l.length
                            · rw [if_pos h5, if_pos (by omega)]
                            · rw [if_neg h5, if_neg (by omega)]
                          clear HXL HDD
                          by_cases hqe : q = X.size
                          · have hqe' : ((q : Int) == (X.size : Int)) = true := by simp [hqe]
                            have HZ : Hid (P = Tx.zero) := by
                              show _ = _
                              rw [← HP4.out, HOK.out, if_pos hqe]; rfl
                            clear hqe HOK HP4
                            go_wp2
                            refine bodyPost_ret (results_tmp5 rfl _ _ _) rfl ?_
                            exact ⟨by rw [HZ.out]; rfl, rfl⟩
                          · have hqe' : ((q : Int) == (X.size : Int)) = false := by simp; omega
                            have HOK2 : Hid (Tx.okX (Tx.L X) = Tx.alD ((Tx.L X).drop q)) := by show _ = _; rw [HOK.out, if_neg hqe]
                            clear hqe HOK
                            go_wp2_with fail
                            go_loop [17] (fun vk => ∃ k : Nat, k ≤ X.size ∧ vk = .int .i64 (k : Int) ∧ Tx.okX (Tx.L X) = Tx.alD ((Tx.L X).drop k)) (fun vk => X.size - (intOf vk).toNat)
                            case atStart => exact ⟨q, hqr, rfl, HOK2.out⟩
                            case round =>
                              obtain ⟨k, hk, rfl, hc⟩ := hrel
                              have HC : Hid (Tx.okX (Tx.L X) = Tx.alD ((Tx.L X).drop k)) := hc
                              clear hc
                              by_cases hlt : k < X.size
                              · have HG : Hid ((Tx.L X).drop k = X[k] :: (Tx.L X).drop (k + 1)) := Tx.get_L X k hlt
                                cases hdg : Tx.isD X[k]
                                · have HZ : Hid (P = Tx.zero) := by
                                    show _ = _
                                    rw [← HP4.out, HC.out, HG.out, Tx.alD, hdg]; rfl
                                  go_wp2_with (first | (go_at_call 27; refine (isdig_any _ _).mono ?_; rintro e w' ⟨rfl, rfl⟩))
                                  refine bodyPost_ret (results_tmp5 rfl _ _ _) rfl ?_
                                  exact ⟨by rw [HZ.out]; rfl, rfl⟩
                                · have HC2 : Hid (Tx.okX (Tx.L X) = Tx.alD ((Tx.L X).drop (k + 1))) := by
                                    show _ = _
                                    rw [HC.out, HG.out, Tx.alD, hdg]; simp
                                  go_wp2_with (first | (go_at_call 27; refine (isdig_any _ _).mono ?_; rintro e w' ⟨rfl, rfl⟩))
                                  go_round
                                  case rel => exact ⟨k + 1, by omega, by go_num, HC2.out⟩
                                  case measure => simp [intOf]; omega
                              · have HZ : Hid (P = ⟨true, ng, Tx.L A, Tx.L B, Tx.L X⟩) := by
                                  show _ = _
                                  rw [← HP4.out, HC.out, List.drop_of_length_le (show (Tx.L X).length ≤ k by have := Tx.size_L X; omega)]
                                  rfl
                                go_wp2
                                refine bodyPost_ret (results_tmp5 rfl _ _ _) rfl ?_
                                exact ⟨by rw [HZ.out]; rfl, rfl⟩
                  · have HZ : Hid (P = Tx.zero) := by
                      show _ = _
                      rw [← HQ.out, if_pos]
                      have := hz0.symm
                      simpa using this
                    clear hz0 HQ
                    go_wp2
                    refine bodyPost_ret (results_tmp5 rfl _ _ _) rfl ?_
                    exact ⟨by rw [HZ.out]; rfl, rfl⟩

theorem model_any (s : ByteArray) (w : World) (hs : s.size ≤ 1048576) :
    Calls Try.prog 18 #[.string s] w fun e w' => e = .returned (mval (Tx.model (Tx.L s))) ∧ w' = w := model_go s w hs _ rfl
end Go.Proofs.Qxb6601280a
