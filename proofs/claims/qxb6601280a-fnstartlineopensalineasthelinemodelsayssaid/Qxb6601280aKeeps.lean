/-
  THE WALK OF 'FnNextKeepsItsLineInvariants' BEHIND ITS FIRST TESTS.
-/
import Derived.Test.Qxb6601280aRunes
import Derived.WalkKit
import Derived.WalkSpells
import Derived.WalkLawsBesides
namespace Go.Proofs.Qxb6601280a
open Go.RowKit

theorem keep_brk (d : Bool) (st m c : Int) (hb : Pl.brk c = true) : Pl.ngot st c = false ∧ Pl.nst d st m c = 1 ∧ Pl.nmat d st m c = m := by
  simp [Pl.ngot, Pl.nst, Pl.nmat, hb]
theorem keep_doc (d : Bool) (st m c : Int) (hb : Pl.brk c = false) : Pl.ndoc d st m c = d := by simp [Pl.ndoc, hb]
theorem keep_got (d : Bool) (st m c : Int) (hb : Pl.brk c = false) (hg : Pl.ngot st c = true) : c = 50 ∧ st = 6 ∧ Pl.nst d st m c = 9 := by
  simp only [Pl.ngot, hb, Pl.nxG, Bool.false_eq_true, if_false] at hg
  by_cases h : st = 6
  · subst h; simp at hg; subst hg; simp [Pl.nst, Pl.nxS]; decide
  · simp [h] at hg
theorem keep_nine (d : Bool) (m c : Int) (hb : Pl.brk c = false) : Pl.ngot 9 c = false ∧ Pl.nst d 9 m c = 9 := by
  simp [Pl.ngot, Pl.nst, Pl.nxG, Pl.nxS, hb]
theorem slS_ne (d : Bool) (st c : Int) : Pl.slS d st c ≠ 0 := by unfold Pl.slS; repeat' split <;> try omega
theorem keep_ne (d : Bool) (st m c : Int) (hb : Pl.brk c = false) : Pl.nst d st m c ≠ 0 := by
  simp only [Pl.nst, hb, Bool.false_eq_true, if_false]
  unfold Pl.nxS
  by_cases h : st = 0 ∨ st = 1
  · rw [if_pos h]; exact slS_ne d st c
  · rw [if_neg h]; repeat' split <;> try omega
theorem slM_lo (d : Bool) (st m c : Int) (hlo : -9223372036854775808 ≤ m) : -9223372036854775808 ≤ Pl.slM d st m c := by unfold Pl.slM; repeat' split <;> try omega
theorem keep_lo (d : Bool) (st m c : Int) (hlo : -9223372036854775808 ≤ m) : -9223372036854775808 ≤ Pl.nmat d st m c := by
  unfold Pl.nmat Pl.nxM
  have := slM_lo d st m c hlo
  repeat' split <;> try omega
theorem keep_3 (d : Bool) (st m c : Int) (h3 : st = 3 → 0 ≤ m) (hs : Pl.nst d st m c = 3) : 0 ≤ Pl.nmat d st m c := by
  by_cases hb : Pl.brk c = true
  · simp [Pl.nst, hb] at hs
  unfold Pl.nst at hs
  unfold Pl.nmat
  rw [if_neg hb] at hs ⊢
  unfold Pl.nxS at hs
  unfold Pl.nxM
  by_cases h : st = 0 ∨ st = 1
  · rw [if_pos h] at hs ⊢
    unfold Pl.slS at hs
    unfold Pl.slM
    by_cases c1 : d = true ∧ c ≠ 46 ∧ c ≠ 37
    · rw [if_pos c1] at hs; omega
    rw [if_neg c1] at hs ⊢
    by_cases c2 : st = 0 ∧ c = 65279
    · rw [if_pos c2] at hs; omega
    rw [if_neg c2] at hs ⊢
    by_cases c3 : c = 37
    · rw [if_pos c3]; decide
    rw [if_neg c3] at hs
    exfalso
    revert hs
    repeat' split <;> try omega
  rw [if_neg h] at hs ⊢
  by_cases e3 : st = 3
  · subst e3
    have := h3 rfl
    repeat' split <;> try omega
  · exfalso
    revert hs
    repeat' split <;> try omega

set_option maxHeartbeats 400000 in
theorem bytes12 (a0 : Bool) (a1 a2 : Int) (a : Option Addr) (len cap : Nat) (w : World) :
    Calls Try.prog 12 #[.bool a0, .int .i64 a1, .int .i64 a2, .slice a len cap] w fun e w' => e = .returned (.bool (decide (len ≤ 1048576))) ∧ w' = w := by
  by_cases h : len ≤ 1048576
  · go_enter Try.func12, Try.ntmps12
    go_wp2
    go_ret
    exact ⟨ret_bool (by simp [h]), rfl⟩
  · go_enter Try.func12, Try.ntmps12
    go_wp2
    go_ret
    exact ⟨ret_bool (by simp [h]), rfl⟩

set_option maxHeartbeats 1000000 in
theorem keeps_core (a0 : Bool) (a1 a2 : Int) (a3 : Option Addr) (len3 cap3 : Nat) (z3 : List Int) (w : World) (hlo : -9223372036854775808 ≤ a2) (w3 : IsRow .i32 w a3 len3 cap3 z3) (hlen : len3 ≤ 262144)
    (hst : a1 = 3 → 0 ≤ a2) (ht : (a1 == 3) = false ∨ (a1 == 3) = true ∧ decide (a2 < 0) = false) :
    Calls Try.prog 4 #[.bool a0, .int .i64 a1, .int .i64 a2, .slice a3 len3 cap3] w fun e w' => e = .returned (.bool true) ∧ Below w.heap.size w w' := by
  have Hcopy : Hid (Calls Try.prog 10 #[.slice a3 len3 cap3] w fun e w' => ∃ ao cp, e = .returned (.slice ao len3 cp) ∧ RunesAt w' ao len3 cp z3 ∧ Below w.heap.size w w') := copy_any a3 len3 cap3 z3 w w3 hlen
  clear w3
  have hby : decide (len3 ≤ 1048576) = true := by simp; omega
  have hbig : decide ((262144 : Int) < (len3 : Int)) = false := by simp; omega
  rcases ht with ht | ⟨ht, ht2⟩
  all_goals
    go_enter Try.func4, Try.ntmps4
    go_wp2_with (first | (go_at_call 12; refine (bytes12 _ _ _ _ _ _ _).mono ?_; rintro e w' ⟨rfl, rfl⟩) | (go_at_call 10; refine (Hid.out Hcopy).mono ?_; rintro e w1 ⟨ao, cp, rfl, hru, hb1⟩))
    clear Hcopy
    go_loopw [9, 10, 11, 12, 13] (fun vd vs vm vn vi wr => ∃ (d : Bool) (st m : Int) (sn : Bool) (k : Nat), k ≤ len3 ∧ vd = .bool d ∧ vs = .int .i64 st ∧ vm = .int .i64 m ∧ vn = .bool sn ∧ vi = .int .i64 k ∧
        (sn = true → st = 9) ∧ (st = 3 → 0 ≤ m) ∧ -9223372036854775808 ≤ m ∧ Below w1.heap.size w1 wr)
      (fun _ _ _ _ vi _ => len3 - (intOf vi).toNat)
    case atStart => exact ⟨a0, a1, a2, false, 0, Nat.zero_le _, rfl, rfl, rfl, rfl, rfl, by simp, hst, hlo, Below.refl _ _⟩
    case round =>
      obtain ⟨d, st, m, sn, k, hk, rfl, rfl, rfl, rfl, rfl, hsn, h3, hml, hbw⟩ := hrel
      by_cases hlt : k < len3
      · rcases hru with ⟨_, hx, _⟩ | ⟨g, rfl, hcap, hcell⟩
        · simp [hx] at hlt
        have hc0 := hcell k hlt
        have hc1 : wr.cell? ⟨g, k, none⟩ = some (.int .i32 (z3.getD k 0)) := (hbw.cell (p := ⟨g, k, none⟩) (cell_lt hc0)).trans hc0
        generalize z3.getD k 0 = c at hc1
        clear hcell hc0
        have K3 : Hid (Pl.nst d st m c = 3 → 0 ≤ Pl.nmat d st m c) := keep_3 d st m c h3
        have Klo := keep_lo d st m c hml
        by_cases hb : Pl.brk c = true
        · obtain ⟨q1, q2, q3⟩ := keep_brk d st m c hb
          go_wp2_with (first | (go_at_call 13; refine (zznext_any _ _ _ _ _ h3 hml).mono ?_; rintro e w2 ⟨rfl, hb2⟩) | (go_at_call 14; refine (brk2_any _ _).mono ?_; rintro e w2 ⟨rfl, rfl⟩))
          go_roundw
          case rel => exact ⟨_, _, _, _, k + 1, by omega, rfl, rfl, rfl, rfl, by go_num, by simp, by omega, hml, hbw.trans (Below.mono (by assumption) hbw.size)⟩
          case measure => simp [intOf]; omega
        · have hb' : Pl.brk c = false := by simpa using hb
          clear hb
          have q1 := keep_doc d st m c hb'
          have q2 : (Pl.nst d st m c == 0) = false := by simpa using keep_ne d st m c hb'
          cases hg : Pl.ngot st c
          · have SN : Hid (sn = true → Pl.nst d st m c = 9) := fun h => by rw [hsn h]; exact (keep_nine d m c hb').2
            clear hsn
            go_wp2_with (first | (go_at_call 13; refine (zznext_any _ _ _ _ _ h3 hml).mono ?_; rintro e w2 ⟨rfl, hb2⟩) | (go_at_call 14; refine (brk2_any _ _).mono ?_; rintro e w2 ⟨rfl, rfl⟩))
            go_roundw
            case rel => exact ⟨_, _, _, _, k + 1, by omega, rfl, rfl, rfl, rfl, by go_num, SN.out, K3.out, Klo, hbw.trans (Below.mono (by assumption) hbw.size)⟩
            case measure => simp [intOf]; omega
          · obtain ⟨rfl, hst6, q3⟩ := keep_got d st m c hb' hg
            have q4 : sn = false := by
              cases sn
              · rfl
              · have := hsn rfl; omega
            clear hst6
            subst q4
            go_wp2_with (first | (go_at_call 13; refine (zznext_any _ _ _ _ _ h3 hml).mono ?_; rintro e w2 ⟨rfl, hb2⟩) | (go_at_call 14; refine (brk2_any _ _).mono ?_; rintro e w2 ⟨rfl, rfl⟩))
            go_roundw
            case rel => exact ⟨_, _, _, _, k + 1, by omega, rfl, rfl, rfl, rfl, by go_num, fun _ => rfl, by omega, Klo, hbw.trans (Below.mono (by assumption) hbw.size)⟩
            case measure => simp [intOf]; omega
      · go_wp2
        go_ret
        exact ⟨rfl, hb1.trans (hbw.mono hb1.size)⟩
end Go.Proofs.Qxb6601280a
