import Derived.Test.Qxb6601280aFloatA
import Derived.WalkKit
import Derived.WalkSpells
import Derived.WalkLawsBesides
import Derived.Deep.DeepCutAuto
namespace Go.Proofs.Qxb6601280a
open Go.RowKit

abbrev pblk (ng : Bool) (a b c : ByteArray) : Obj := .cells #[.bool ng, .string a, .string b, .string c] 44
/-- a reading as the Go text hands it back -/
abbrev pval (p : Tx.FT) : Value := .tuple #[.agg #[.bool p.neg, .string (Tx.S p.w), .string (Tx.S p.f), .string (Tx.S p.x)], .bool p.ok]

/-- the first byte is a point -/
def pt : List UInt8 → Bool
  | [] => false
  | c :: _ => (c.toNat : Int) == 46
/-- the first byte is e or E -/
def ee : List UInt8 → Bool
  | [] => false
  | c :: _ => ((c.toNat : Int) == 101 || (c.toNat : Int) == 69)
/-- the first byte is a sign -/
def ss : List UInt8 → Bool
  | [] => false
  | c :: _ => ((c.toNat : Int) == 45 || (c.toNat : Int) == 43)

theorem empty_S (l : List UInt8) : (Tx.S l).toList.isEmpty = l.isEmpty := by rw [ByteArray.toList_eq]; rfl

set_option maxRecDepth 100000 in
set_option maxHeartbeats 2000000 in
theorem pf_core (s r : ByteArray) (n0 : Nat) (w : World) (hr : r.size ≤ 1048576) (hp : 0 < s.size) (hn0 : n0 ≤ r.size) (ng : Bool) (hng : (((s[0]'hp).toNat : Int) == 45) = ng)
    (H33 : Hid (∀ w, Calls Try.prog 33 #[.string s] w fun e w' => e = .returned (.string r) ∧ w' = w))
    (H34 : Hid (∀ w, Calls Try.prog 34 #[.string r, .int .i64 0] w fun e w' => e = .returned (.int .i64 (n0 : Int)) ∧ w' = w))
    (wl f r3 : List UInt8) (HW : Hid (r.extract 0 n0 = Tx.S wl)) (HF : Hid (Tx.fr ((Tx.L r).drop n0) = (f, r3))) :
    Calls Try.prog 26 #[.string s] w fun e w' => e = .returned (pval (if wl = [] ∧ f = [] then Tx.zero else Tx.fin ng wl f r3)) ∧ Below w.heap.size w w' := by
  have he := empty_no hp
  generalize hP : (if wl = [] ∧ f = [] then Tx.zero else Tx.fin ng wl f r3) = P
  have HP : Hid ((if wl = [] ∧ f = [] then Tx.zero else Tx.fin ng wl f r3) = P) := hP
  clear hP
  go_enter Try.func26, Try.ntmps26
  go_upto_region 5 with (first | (go_at_call 33; refine (H33.out _).mono ?_; rintro e w' ⟨rfl, rfl⟩) | (go_at_call 34; refine (H34.out _).mono ?_; rintro e w' ⟨rfl, rfl⟩))
  rw [HW.out]
  clear H33 H34 he hng
  go_cut [34] (fun v wc => ∃ b : Bool, v = .bool b ∧ b = pt ((Tx.L r).drop n0) ∧ wc = w.alloc (pblk ng (Tx.S wl) ⟨#[]⟩ ⟨#[]⟩))
  case first =>
    by_cases hlt : n0 < r.size
    · have HG : Hid ((Tx.L r).drop n0 = r[n0] :: (Tx.L r).drop (n0 + 1)) := Tx.get_L r n0 hlt
      go_wp2
      go_meet
      exact ⟨_, rfl, by rw [HG.out]; rfl, rfl⟩
    · have HG : Hid ((Tx.L r).drop n0 = []) := List.drop_of_length_le (by have := Tx.size_L r; omega)
      go_wp2
      go_meet
      exact ⟨_, rfl, by rw [HG.out]; rfl, rfl⟩
  case rest =>
    obtain ⟨b, rfl, hb0, hw⟩ := hcut
    subst hw
    have HB : Hid (b = pt ((Tx.L r).drop n0)) := hb0
    clear hb0
    go_upto_if 34 with fail
    go_cut [5] (fun vi wc => ∃ (n1 : Nat), vi = .int .i64 n1 ∧ n1 ≤ r.size ∧ (Tx.L r).drop n1 = r3 ∧ wc = w.alloc (pblk ng (Tx.S wl) (Tx.S f) ⟨#[]⟩))
    case first =>
      by_cases hlt : n0 < r.size
      · have hG : (Tx.L r).drop n0 = r[n0] :: (Tx.L r).drop (n0 + 1) := Tx.get_L r n0 hlt
        by_cases h46 : ((r[n0].toNat : Int) == 46) = true
        · obtain rfl : b = true := by rw [HB.out, hG]; exact h46
          have hfr := HF.out
          rw [hG] at hfr
          simp only [Tx.fr, Tx.isP, h46, if_true, Prod.mk.injEq] at hfr
          have HF1 : Hid (((Tx.L r).drop (n0 + 1)).take (Tx.cnt ((Tx.L r).drop (n0 + 1))) = f) := hfr.1
          have HF2 : Hid (((Tx.L r).drop (n0 + 1)).drop (Tx.cnt ((Tx.L r).drop (n0 + 1))) = r3) := hfr.2
          have hcl := Tx.cnt_le ((Tx.L r).drop (n0 + 1))
          rw [List.length_drop, ← Tx.size_L] at hcl
          have HQ : Hid (∀ w, Calls Try.prog 34 #[.string r, .int .i64 ((n0 : Int) + 1)] w fun e w' => e = .returned (.int .i64 ((n0 + 1 + Tx.cnt ((Tx.L r).drop (n0 + 1)) : Nat) : Int)) ∧ w' = w) := by
            intro w
            have := digitsEnd_any r (n0 + 1) w hr (by omega)
            simpa using this
          clear hfr hG h46
          generalize Tx.cnt ((Tx.L r).drop (n0 + 1)) = m at *
          have HX : Hid (r.extract (n0 + 1) (n0 + 1 + m) = Tx.S f) := by
            show _ = _
            rw [Tx.extract_S, ← HF1.out]
            congr 2; omega
          have HY : Hid ((Tx.L r).drop (n0 + 1 + m) = r3) := by
            show _ = _
            rw [← HF2.out, List.drop_drop]
          clear HF1 HF2
          obtain ⟨n1, hn1⟩ : ∃ n1, n1 = n0 + 1 + m := ⟨_, rfl⟩
          rw [← hn1] at HQ HX HY
          have b1 : n0 + 1 ≤ n1 := by omega
          have b2 : n1 ≤ r.size := by omega
          clear hn1 hcl
          go_wp2_with (first | (go_at_call 34; refine (HQ.out _).mono ?_; rintro e w' ⟨rfl, rfl⟩))
          go_meet
          exact ⟨n1, rfl, b2, HY.out, by rw [HX.out]⟩
        · obtain rfl : b = false := by rw [HB.out, hG]; simpa [pt] using h46
          have hfr := HF.out
          rw [hG] at hfr
          simp only [Tx.fr, Tx.isP, h46, if_false, Prod.mk.injEq, Bool.false_eq_true] at hfr
          have HF1 : Hid ([] = f) := hfr.1
          have HF2 : Hid ((Tx.L r).drop n0 = r3) := by show _ = _; rw [hG]; exact hfr.2
          clear hfr hG h46
          go_wp2
          go_meet
          exact ⟨n0, rfl, hn0, HF2.out, by rw [← HF1.out]; rfl⟩
      · have hG : (Tx.L r).drop n0 = [] := List.drop_of_length_le (by have := Tx.size_L r; omega)
        obtain rfl : b = false := by rw [HB.out, hG]; rfl
        have hfr := HF.out
        rw [hG] at hfr
        simp only [Tx.fr, Prod.mk.injEq] at hfr
        have HF1 : Hid ([] = f) := hfr.1
        have HF2 : Hid ((Tx.L r).drop n0 = r3) := by show _ = _; rw [hG]; exact hfr.2
        clear hfr hG
        go_wp2
        go_meet
        exact ⟨n0, rfl, hn0, HF2.out, by rw [← HF1.out]; rfl⟩
    case rest =>
      obtain ⟨n1, rfl, hn1, hd1, hw⟩ := hcut
      subst hw
      have HD : Hid ((Tx.L r).drop n1 = r3) := hd1
      clear hd1 HF HW
      go_upto_region 8 with fail
      go_cut [53] (fun v wc => ∃ z : Bool, v = .bool z ∧ z = (wl.isEmpty && f.isEmpty) ∧ wc = w.alloc (pblk ng (Tx.S wl) (Tx.S f) ⟨#[]⟩))
      case first =>
        have e1 := empty_S wl
        have e2 := empty_S f
        cases wl with
        | nil =>
          go_wp2
          go_meet
          exact ⟨_, rfl, by simp, rfl⟩
        | cons a0 l0 =>
          go_wp2
          go_meet
          exact ⟨_, rfl, by simp, rfl⟩
      case rest =>
        obtain ⟨z, rfl, hz0, hw⟩ := hcut
        subst hw
        cases z
        · have HZ : Hid (¬ (wl = [] ∧ f = [])) := by
            show ¬ _
            intro h
            simp [h.1, h.2] at hz0
          clear hz0
          go_upto_region 10 with fail
          go_cut [70] (fun v wc => ∃ b : Bool, v = .bool b ∧ b = ee ((Tx.L r).drop n1) ∧ wc = w.alloc (pblk ng (Tx.S wl) (Tx.S f) ⟨#[]⟩))
          case first =>
            by_cases hlt : n1 < r.size
            · have HG : Hid ((Tx.L r).drop n1 = r[n1] :: (Tx.L r).drop (n1 + 1)) := Tx.get_L r n1 hlt
              by_cases h1 : (r[n1].toNat : Int) = 101
              · have h1' : ((r[n1].toNat : Int) == 101) = true := by simpa using h1
                have HR : Hid (ee ((Tx.L r).drop n1) = true) := by show _ = _; rw [HG.out]; simp [ee, h1]
                clear h1
                go_wp2
                go_meet
                exact ⟨_, rfl, HR.out.symm, rfl⟩
              · have h1' : ((r[n1].toNat : Int) == 101) = false := by simpa using h1
                have HR : Hid (ee ((Tx.L r).drop n1) = ((r[n1].toNat : Int) == 69)) := by show _ = _; rw [HG.out]; simp [ee, h1]
                clear h1
                go_wp2
                go_meet
                exact ⟨_, rfl, HR.out.symm, rfl⟩
            · have HG : Hid ((Tx.L r).drop n1 = []) := List.drop_of_length_le (by have := Tx.size_L r; omega)
              go_wp2
              go_meet
              exact ⟨_, rfl, by rw [HG.out]; rfl, rfl⟩
          case rest =>
            obtain ⟨b, rfl, hb0, hw⟩ := hcut
            subst hw
            have HB : Hid (b = ee ((Tx.L r).drop n1)) := hb0
            clear hb0
            have HP2 : Hid (Tx.fin ng wl f r3 = P) := by show _ = _; rw [← HP.out, if_neg HZ.out]
            clear HP HZ
            cases b
            · -- no exponent
              have HR : Hid (P = ⟨((n1 : Int) == (r.size : Int)), ng, wl, f, []⟩) := by
                show _ = _
                rw [← HP2.out]
                have hb := HB.out.symm
                rw [HD.out] at hb
                have hl : r3.length = r.size - n1 := by rw [← HD.out, List.length_drop, Tx.size_L]
                cases r3 with
                | nil =>
                  have : n1 = r.size := by simp only [List.length_nil] at hl; omega
                  simp [Tx.fin, Tx.ex, this]
                | cons c l =>
                  have h1 : Tx.isE c = false := hb
                  have : ¬ n1 = r.size := by simp only [List.length_cons] at hl; omega
                  have h2 : ((n1 : Int) == (r.size : Int)) = false := by simp; omega
                  rw [h2]
                  simp [Tx.fin, Tx.ex, h1]
              clear HP2 HB HD
              go_wp2
              refine bodyPost_ret (v := pval ⟨((n1 : Int) == (r.size : Int)), ng, wl, f, []⟩) (by simp [results, Try.results26, go_sem, Tx.S]) rfl ⟨by rw [HR.out], ?_⟩
              exact (Below.refl _ _).alloc (Nat.le_refl _) _
            · -- an exponent
              have hlt : n1 < r.size := by
                by_cases h : n1 < r.size
                · exact h
                · have := HB.out
                  rw [List.drop_of_length_le (show (Tx.L r).length ≤ n1 by have := Tx.size_L r; omega)] at this
                  simp [ee] at this
              go_upto_region 12 with fail
              go_cut [88] (fun v wc => ∃ b : Bool, v = .bool b ∧ b = ss ((Tx.L r).drop (n1 + 1)) ∧ wc = w.alloc (pblk ng (Tx.S wl) (Tx.S f) ⟨#[]⟩))
              case first =>
                by_cases hlt2 : n1 + 1 < r.size
                · have HG : Hid ((Tx.L r).drop (n1 + 1) = r[n1 + 1] :: (Tx.L r).drop (n1 + 1 + 1)) := Tx.get_L r (n1 + 1) hlt2
                  by_cases h1 : (r[n1 + 1].toNat : Int) = 45
                  · have h1' : ((r[n1 + 1].toNat : Int) == 45) = true := by simpa using h1
                    have HR : Hid (ss ((Tx.L r).drop (n1 + 1)) = true) := by show _ = _; rw [HG.out]; simp [ss, h1]
                    clear h1
                    go_wp2
                    go_meet
                    exact ⟨_, rfl, HR.out.symm, rfl⟩
                  · have h1' : ((r[n1 + 1].toNat : Int) == 45) = false := by simpa using h1
                    have HR : Hid (ss ((Tx.L r).drop (n1 + 1)) = ((r[n1 + 1].toNat : Int) == 43)) := by show _ = _; rw [HG.out]; simp [ss, h1]
                    clear h1
                    go_wp2
                    go_meet
                    exact ⟨_, rfl, HR.out.symm, rfl⟩
                · have HG : Hid ((Tx.L r).drop (n1 + 1) = []) := List.drop_of_length_le (by have := Tx.size_L r; omega)
                  go_wp2
                  go_meet
                  exact ⟨_, rfl, by rw [HG.out]; rfl, rfl⟩
              case rest =>
                obtain ⟨b, rfl, hb0, hw⟩ := hcut
                subst hw
                have HS : Hid (b = ss ((Tx.L r).drop (n1 + 1))) := hb0
                clear hb0
                go_upto_if 88 with fail
                go_cut [7] (fun v wc => ∃ d : Nat, v = .int .i64 d ∧ d = n1 + 1 + Tx.sgn ((Tx.L r).drop (n1 + 1)) ∧ wc = w.alloc (pblk ng (Tx.S wl) (Tx.S f) ⟨#[]⟩))
                case first =>
                  have HT : Hid (Tx.sgn ((Tx.L r).drop (n1 + 1)) = if b = true then 1 else 0) := by
                    show _ = _
                    rw [HS.out]
                    cases (Tx.L r).drop (n1 + 1) with
                    | nil => rfl
                    | cons c l => rfl
                  cases b
                  · go_wp2
                    go_meet
                    exact ⟨n1 + 1, by go_num, by rw [HT.out]; simp, rfl⟩
                  · go_wp2
                    go_meet
                    exact ⟨n1 + 1 + 1, by go_num, by rw [HT.out]; simp, rfl⟩
                case rest =>
                  obtain ⟨d, rfl, hd0, hw⟩ := hcut
                  subst hw
                  have HDD : Hid (d = n1 + 1 + Tx.sgn ((Tx.L r).drop (n1 + 1))) := hd0
                  have hsl := (Tx.sgn_le ((Tx.L r).drop (n1 + 1))).1
                  rw [List.length_drop, ← Tx.size_L] at hsl
                  have hdr : d ≤ r.size := by omega
                  have hdn : n1 + 1 ≤ d := by omega
                  clear hd0 hsl HS
                  have hcl := Tx.cnt_le ((Tx.L r).drop d)
                  rw [List.length_drop, ← Tx.size_L] at hcl
                  have HQ : Hid (∀ w, Calls Try.prog 34 #[.string r, .int .i64 (d : Int)] w fun e w' => e = .returned (.int .i64 ((d + Tx.cnt ((Tx.L r).drop d) : Nat) : Int)) ∧ w' = w) := by
                    intro w
                    have := digitsEnd_any r d w hr hdr
                    simpa using this
                  obtain ⟨n2, hn2⟩ : ∃ n2, n2 = d + Tx.cnt ((Tx.L r).drop d) := ⟨_, rfl⟩
                  have HN : Hid (n2 = d + Tx.cnt ((Tx.L r).drop d)) := hn2
                  rw [← hn2] at HQ
                  have b1 : d ≤ n2 := by omega
                  have b2 : n2 ≤ r.size := by omega
                  clear hn2 hcl
                  -- the plain reading
                  have HV : Hid (∃ c l, r3 = c :: l ∧ Tx.isE c = true ∧ (Tx.L r).drop (n1 + 1) = l) := by
                    have h1 := HD.out
                    have h2 := HB.out
                    rw [Tx.get_L r n1 hlt] at h1 h2
                    exact ⟨_, _, h1.symm, h2.symm, rfl⟩
                  by_cases hm : n2 = d
                  · have hm' : ((n2 : Int) == (d : Int)) = true := by simp [hm]
                    have HR : Hid (P = Tx.zero) := by
                      show _ = _
                      rw [← HP2.out]
                      obtain ⟨c, l, rfl, hE, hl⟩ := HV.out
                      have h3 := HN.out
                      have h4 := HDD.out
                      rw [hl] at h4
                      have h5 : (Tx.L r).drop d = l.drop (Tx.sgn l) := by rw [h4, ← List.drop_drop, hl]
                      rw [h5] at h3
                      have h6 : Tx.cnt (l.drop (Tx.sgn l)) = 0 := by omega
                      simp [Tx.fin, Tx.ex, hE, h6]
                    clear HP2 HB HD HV HN HDD hm
                    go_wp2_with (first | (go_at_call 34; refine (HQ.out _).mono ?_; rintro e w' ⟨rfl, rfl⟩))
                    refine bodyPost_ret (v := pval Tx.zero) (by simp [results, Try.results26, go_sem, Tx.zero, Tx.S]) rfl ⟨by rw [HR.out], ?_⟩
                    exact (Below.refl _ _).alloc (Nat.le_refl _) _
                  · have hm' : ((n2 : Int) == (d : Int)) = false := by simp; omega
                    have HR : Hid (∃ x, P = ⟨((n2 : Int) == (r.size : Int)), ng, wl, f, x⟩ ∧ r.extract n1 n2 = Tx.S x) := by
                      show ∃ _, _
                      rw [← HP2.out]
                      obtain ⟨c, l, rfl, hE, hl⟩ := HV.out
                      have h3 := HN.out
                      have h4 := HDD.out
                      rw [hl] at h4
                      have h5 : (Tx.L r).drop d = l.drop (Tx.sgn l) := by rw [h4, ← List.drop_drop, hl]
                      rw [h5] at h3
                      have h6 : ¬ Tx.cnt (l.drop (Tx.sgn l)) = 0 := by omega
                      have hll : l.length = r.size - (n1 + 1) := by rw [← hl, List.length_drop, Tx.size_L]
                      refine ⟨c :: l.take (Tx.sgn l + Tx.cnt (l.drop (Tx.sgn l))), ?_, ?_⟩
                      · simp only [Tx.fin, Tx.ex, hE, if_true, h6, if_false]
                        congr 1
                        by_cases h7 : n2 = r.size
                        · have h8 : l.length ≤ Tx.sgn l + Tx.cnt (l.drop (Tx.sgn l)) := by omega
                          simp [h7, h8]
                        · have h8 : ¬ l.length ≤ Tx.sgn l + Tx.cnt (l.drop (Tx.sgn l)) := by omega
                          have h9 : ((n2 : Int) == (r.size : Int)) = false := by simp; omega
                          rw [h9]
                          simp [h8]
                      · rw [Tx.extract_S, HD.out]
                        have h8 : n2 - n1 = (Tx.sgn l + Tx.cnt (l.drop (Tx.sgn l))) + 1 := by omega
                        rw [h8, List.take_succ_cons]
                    obtain ⟨x, hx1, hx2⟩ := HR.out
                    have HX1 : Hid (P = ⟨((n2 : Int) == (r.size : Int)), ng, wl, f, x⟩) := hx1
                    have HX2 : Hid (r.extract n1 n2 = Tx.S x) := hx2
                    clear HP2 HB HD HV HN HDD hm HR hx1 hx2
                    go_wp2_with (first | (go_at_call 34; refine (HQ.out _).mono ?_; rintro e w' ⟨rfl, rfl⟩))
                    rw [HX2.out]
                    refine bodyPost_ret (v := pval ⟨((n2 : Int) == (r.size : Int)), ng, wl, f, x⟩) (by simp [results, Try.results26, go_sem]) rfl ⟨by rw [HX1.out], ?_⟩
                    exact (Below.refl _ _).alloc (Nat.le_refl _) _
        · have HZ : Hid (P = Tx.zero) := by
            show _ = _
            rw [← HP.out, if_pos]
            have := hz0.symm
            simpa using this
          clear hz0
          go_wp2
          refine bodyPost_ret (v := pval Tx.zero) (by simp [results, Try.results26, go_sem, Tx.zero, Tx.S]) rfl ⟨by rw [HZ.out], ?_⟩
          exact (Below.refl _ _).alloc (Nat.le_refl _) _
end Go.Proofs.Qxb6601280a
