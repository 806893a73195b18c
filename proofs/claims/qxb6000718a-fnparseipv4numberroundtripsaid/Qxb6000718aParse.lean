/-
  THE WALKS OF digit, parseIPv4Number, ZZParseIPv4Number.
-/
import Derived.Test.Qxb6000718aRows
import Derived.Test.Qxb6000718aPlain
import Derived.Test.Qxb6000718aBytes
import Derived.WalkKit
import Derived.WalkSpells
import Derived.WalkLawsBesides
import Derived.Deep.QuietTactic
import Derived.BigQuiet
import Derived.Deep.DeepCutAuto
import Derived.Deep.CutBlock
namespace Go.Proofs.Qxb6000718a
open Go.RowKit

theorem ret_i64 {a b : Int} (h : a = b) : Ending.returned (.int .i64 a) = .returned (.int .i64 b) := by rw [h]
set_option maxHeartbeats 1000000 in
theorem digit_any (c : Int) (w : World) (h : Pl.ok c) :
    Calls Try.prog 13 #[.int .u8 c] w fun e w' => e = .returned (.int .i64 (Pl.dgv c)) ∧ w' = w := by
  rcases h with ⟨h1, h2⟩ | h | h
  · go_enter Try.func13, Try.ntmps13
    go_wp2
    go_ret
    exact ⟨ret_i64 (by simp only [Pl.dgv]; rw [if_pos h2]), rfl⟩
  · rcases (show c = 65 ∨ c = 66 ∨ c = 67 ∨ c = 68 ∨ c = 69 ∨ c = 70 by omega) with rfl | rfl | rfl | rfl | rfl | rfl
    all_goals
      clear h
      go_enter Try.func13, Try.ntmps13
      go_wp2
      go_ret
      exact ⟨ret_i64 (by decide), rfl⟩
  · rcases (show c = 97 ∨ c = 98 ∨ c = 99 ∨ c = 100 ∨ c = 101 ∨ c = 102 by omega) with rfl | rfl | rfl | rfl | rfl | rfl
    all_goals
      clear h
      go_enter Try.func13, Try.ntmps13
      go_wp2
      go_ret
      exact ⟨ret_i64 (by decide), rfl⟩
theorem empty_yes {s : ByteArray} (h : s.size = 0) : s.toList.isEmpty = true := by
  rw [ByteArray.toList_eq]
  have : s.data.toList.length = 0 := h
  rw [List.length_eq_zero_iff] at this
  rw [this]; rfl
theorem empty_no {s : ByteArray} (h : 0 < s.size) : s.toList.isEmpty = false := by
  rw [ByteArray.toList_eq]
  have h' : 0 < s.data.toList.length := h
  cases hl : s.data.toList with
  | nil => rw [hl] at h'; simp at h'
  | cons a l => rfl
/-- which of the three notations: the base, and what is read -/
def Kind (s r : ByteArray) (base : Int) : Prop :=
  (base = 10 ∧ r = s ∧ (s.size < 2 ∨ ∃ h : 0 < s.size, 2 ≤ s.size ∧ ((s[0].toNat : Nat) : Int) ≠ 48)) ∨
  (base = 8 ∧ r = s.extract 1 s.size ∧ ∃ h : 1 < s.size, ((s[0].toNat : Nat) : Int) = 48 ∧ ((s[1].toNat : Nat) : Int) ≠ 120 ∧ ((s[1].toNat : Nat) : Int) ≠ 88) ∨
  (base = 16 ∧ r = s.extract 2 s.size ∧ ∃ h : 1 < s.size, ((s[0].toNat : Nat) : Int) = 48 ∧ (((s[1].toNat : Nat) : Int) = 120 ∨ ((s[1].toNat : Nat) : Int) = 88))

set_option maxRecDepth 100000 in
set_option maxHeartbeats 1000000 in
theorem parse_go (s r : ByteArray) (base : Int) (w : World) (hs : s.size ≤ 1000) (hp : 0 < s.size) (hK : Kind s r base) (hr : 0 < r.size) (hrs : r.size ≤ 1000)
    (hd : ∀ c ∈ B r, Pl.ok c ∧ Pl.dgv c < base) :
    Calls Try.prog 12 #[.string s] w fun e w' => e = .returned (.tuple #[.int .u64 (Pl.sat base (B r) 0), .bool true]) ∧ ∃ q, w' = w.drewN q := by
  have he := empty_no hp
  have her := empty_no hr
  have HK : Hid (Kind s r base) := hK
  have hbb : base = 8 ∨ base = 10 ∨ base = 16 := by
    rcases hK with h | h | h <;> omega
  have HD : Hid (∀ c ∈ B r, Pl.ok c ∧ Pl.dgv c < base) := hd
  clear hd hK
  go_enter Try.func12, Try.ntmps12
  go_upto_block 0 with fail
  go_cut [0, 4] (fun v0 v4 wc => v0 = .string r ∧ v4 = .int .i64 base ∧ ∃ q, w.drewN q = wc)
  case first =>
    rcases HK.out with ⟨h1, h2, h3⟩ | ⟨h1, h2, h3, h4, h5, h6⟩ | ⟨h1, h2, h3, h4, h5⟩
    · subst h1 h2
      clear HK HD
      rcases h3 with h3 | ⟨_, h3, h4⟩
      · go_wp2
        go_meet
        exact ⟨rfl, rfl, 0, rfl⟩
      · have e1 : ((r.extract 0 2).toList == [48, 120]) = false := by
          rw [ByteArray.toList_eq, two_eq r (by omega)]
          simp only [Bool.and_eq_false_iff, beq_eq_false_iff_ne]
          exact .inl h4
        have e2 : ((r.extract 0 2).toList == [48, 88]) = false := by
          rw [ByteArray.toList_eq, two_eq r (by omega)]
          simp only [Bool.and_eq_false_iff, beq_eq_false_iff_ne]
          exact .inl h4
        have e3 : (((r[0].toNat : Nat) : Int) == 48) = false := by simpa using h4
        clear h4
        go_wp2
        go_meet
        exact ⟨rfl, rfl, 0, rfl⟩
    · subst h1 h2
      have e1 : ((s.extract 0 2).toList == [48, 120]) = false := by
        rw [ByteArray.toList_eq, two_eq s (by omega)]
        simp only [Bool.and_eq_false_iff, beq_eq_false_iff_ne]
        exact .inr h5
      have e2 : ((s.extract 0 2).toList == [48, 88]) = false := by
        rw [ByteArray.toList_eq, two_eq s (by omega)]
        simp only [Bool.and_eq_false_iff, beq_eq_false_iff_ne]
        exact .inr h6
      have e3 : (((s[0].toNat : Nat) : Int) == 48) = true := by simpa using h4
      clear h4 h5 h6 HK HD
      go_wp2
      go_quiet (fail)
      go_wp2
      go_meet
      exact ⟨rfl, rfl, _, rfl⟩
    · subst h1 h2
      have e0 : (((s[0].toNat : Nat) : Int) == 48) = true := by simpa using h4
      rcases h5 with h5 | h5
      · have e1 : ((s.extract 0 2).toList == [48, 120]) = true := by
          rw [ByteArray.toList_eq, two_eq s (by omega)]
          simp only [Bool.and_eq_true, beq_iff_eq]
          exact ⟨h4, h5⟩
        clear h4 h5 HK HD e0
        go_wp2
        go_quiet (fail)
        go_wp2
        go_meet
        exact ⟨rfl, rfl, _, rfl⟩
      · have e1 : ((s.extract 0 2).toList == [48, 120]) = false := by
          rw [ByteArray.toList_eq, two_eq s (by omega)]
          simp only [Bool.and_eq_false_iff, beq_eq_false_iff_ne]
          right
          rw [h5]; decide
        have e2 : ((s.extract 0 2).toList == [48, 88]) = true := by
          rw [ByteArray.toList_eq, two_eq s (by omega)]
          simp only [Bool.and_eq_true, beq_iff_eq]
          exact ⟨h4, h5⟩
        clear h4 h5 HK HD e0
        go_wp2
        go_quiet (fail)
        go_wp2
        go_meet
        exact ⟨rfl, rfl, _, rfl⟩
  case rest =>
    obtain ⟨rfl, rfl, q, rfl⟩ := hcut
    go_wp2_with fail
    go_loop [5, 6] (fun vn vi => ∃ (a : Int) (k : Nat), k ≤ r.size ∧ vn = .int .u64 a ∧ vi = .int .i64 (k : Int) ∧ 0 ≤ a ∧ a ≤ 8589934592 ∧ Pl.sat base ((B r).drop k) a = Pl.sat base (B r) 0) (fun _ vi => r.size - (intOf vi).toNat)
    case atStart => exact ⟨0, 0, by omega, rfl, rfl, by omega, by omega, by simp⟩
    case round =>
      obtain ⟨a, k, hk, rfl, rfl, ha0, ha1, hsat⟩ := hrel
      have HS : Hid (Pl.sat base ((B r).drop k) a = Pl.sat base (B r) 0) := hsat
      clear hsat
      by_cases hlt : k < r.size
      · have HG : Hid ((B r).drop k = ((r[k].toNat : Nat) : Int) :: (B r).drop (k + 1)) := B_drop r k hlt
        have hmem : ((r[k].toNat : Nat) : Int) ∈ B r := by
          have : ((r[k].toNat : Nat) : Int) ∈ (B r).drop k := by rw [HG.out]; simp
          exact List.mem_of_mem_drop this
        obtain ⟨hok, hlb⟩ := HD.out _ hmem
        have hdr := Pl.dgv_range _ hok
        have H13 : Hid (∀ w, Calls Try.prog 13 #[.int .u8 ((r[k].toNat : Nat) : Int)] w fun e w' => e = .returned (.int .i64 (Pl.dgv ((r[k].toNat : Nat) : Int))) ∧ w' = w) := fun w => digit_any _ w hok
        have HS2 : Hid (Pl.sat base ((B r).drop (k + 1)) (min (a * base + Pl.dgv ((r[k].toNat : Nat) : Int)) Pl.M) = Pl.sat base (B r) 0) := by
          show _ = _
          rw [← HS.out, HG.out]; rfl
        clear hmem hok HS HG
        generalize Pl.dgv ((r[k].toNat : Nat) : Int) = x at *
        obtain ⟨hx0, hx1⟩ := hdr
        by_cases hM : 8589934592 < a * base + x
        · have HS3 : Hid (Pl.sat base ((B r).drop (k + 1)) 8589934592 = Pl.sat base (B r) 0) := by
            show _ = _
            rw [← HS2.out, Int.min_eq_right (by unfold Pl.M; omega)]; rfl
          clear HS2
          rcases hbb with rfl | rfl | rfl
          all_goals
            go_wp2_with (first | (go_at_call 13; refine (H13.out _).mono ?_; rintro e w' ⟨rfl, rfl⟩))
            go_round
            case rel => exact ⟨8589934592, k + 1, by omega, rfl, by go_num, by omega, by omega, HS3.out⟩
            case measure => simp [intOf]; omega
        · have HS3 : Hid (Pl.sat base ((B r).drop (k + 1)) (a * base + x) = Pl.sat base (B r) 0) := by
            show _ = _
            rw [← HS2.out, Int.min_eq_left (by unfold Pl.M; omega)]
          clear HS2
          rcases hbb with rfl | rfl | rfl
          all_goals
            go_wp2_with (first | (go_at_call 13; refine (H13.out _).mono ?_; rintro e w' ⟨rfl, rfl⟩))
            go_round
            case rel => exact ⟨_, k + 1, by omega, rfl, by go_num, by omega, by omega, HS3.out⟩
            case measure => simp [intOf]; omega
      · have HZ : Hid (a = Pl.sat base (B r) 0) := by
          show _ = _
          have h := HS.out
          rw [List.drop_of_length_le (by rw [B_len]; omega)] at h
          exact h
        go_wp2
        go_ret2
        exact ⟨by rw [← HZ.out]; rfl, _, rfl⟩

set_option maxHeartbeats 400000 in
theorem zzparse_go (s r : ByteArray) (base : Int) (w : World) (hs : s.size ≤ 1000) (hp : 0 < s.size) (hK : Kind s r base) (hr : 0 < r.size) (hrs : r.size ≤ 1000)
    (hd : ∀ c ∈ B r, Pl.ok c ∧ Pl.dgv c < base) :
    Calls Try.prog 7 #[.string s] w fun e w' => e = .returned (.tuple #[.int .u64 (Pl.sat base (B r) 0), .bool true]) ∧ ∃ q, w' = w.drewN q := by
  have H : Hid (∀ w, Calls Try.prog 12 #[.string s] w fun e w' => e = .returned (.tuple #[.int .u64 (Pl.sat base (B r) 0), .bool true]) ∧ ∃ q, w' = w.drewN q) := fun w => parse_go s r base w hs hp hK hr hrs hd
  clear hs hp hK hr hrs hd
  generalize Pl.sat base (B r) 0 = v at *
  go_enter Try.func7, Try.ntmps7
  go_wp2_with (first | (go_at_call 12; refine (H.out _).mono ?_; rintro e w' ⟨rfl, q, rfl⟩))
  go_ret2
  exact ⟨rfl, q, rfl⟩
end Go.Proofs.Qxb6000718a
