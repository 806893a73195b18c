import Derived.Test.Qxb6601280aRows
import Derived.Test.Qxb6601280aText
import Derived.WalkKit
import Derived.WalkSpells
import Derived.WalkLawsBesides
namespace Go.Proofs.Qxb6601280a
open Go.RowKit

theorem ret_i64 {a b : Int} (h : a = b) : Ending.returned (.int .i64 a) = .returned (.int .i64 b) := by rw [h]
theorem ret_str {a b : ByteArray} (h : a = b) : Ending.returned (.string a) = .returned (.string b) := by rw [h]

theorem empty_yes {s : ByteArray} (h : s.size = 0) : s.toList.isEmpty = true := by
  rw [ByteArray.toList_eq]
  have : s.data.toList.length = 0 := h
  rw [List.length_eq_zero_iff] at this
  rw [this]; rfl
theorem empty_no {s : ByteArray} (h : 0 < s.size) : s.toList.isEmpty = false := by
  rw [ByteArray.toList_eq]
  have h' : 0 < s.data.toList.length := h
  cases hl : s.data.toList with
  | nil => rw [hl] at h'; simp at h'
  | cons a l => rfl
theorem head_L {s : ByteArray} (h : 0 < s.size) : Tx.L s = s[0] :: (Tx.L s).drop 1 := by
  have := Tx.get_L s 0 h
  simpa using this
theorem nil_L {s : ByteArray} (h : s.size = 0) : Tx.L s = [] := List.length_eq_zero_iff.1 h

set_option maxHeartbeats 400000 in
theorem digitsEnd_any (s : ByteArray) (a : Nat) (w : World) (hs : s.size ≤ 1048576) (ha : a ≤ s.size) :
    Calls Try.prog 34 #[.string s, .int .i64 (a : Int)] w fun e w' => e = .returned (.int .i64 ((a : Int) + (Tx.cnt ((Tx.L s).drop a) : Int))) ∧ w' = w := by
  go_enter Try.func34, Try.ntmps34
  go_wp2
  go_loop [5] (fun i => ∃ k : Nat, k ≤ s.size ∧ i = .int .i64 k ∧ k + Tx.cnt ((Tx.L s).drop k) = a + Tx.cnt ((Tx.L s).drop a)) (fun i => s.size - (intOf i).toNat)
  case atStart => exact ⟨a, ha, rfl, rfl⟩
  case round =>
    obtain ⟨k, hk, rfl, hr⟩ := hrel
    have HR : Hid (k + Tx.cnt ((Tx.L s).drop k) = a + Tx.cnt ((Tx.L s).drop a)) := hr
    clear hr
    by_cases hlt : k < s.size
    · have HG : Hid ((Tx.L s).drop k = s[k] :: (Tx.L s).drop (k + 1)) := Tx.get_L s k hlt
      by_cases hd : 48 ≤ (s[k].toNat : Int) ∧ (s[k].toNat : Int) ≤ 57
      · obtain ⟨hd1, hd2⟩ := hd
        go_wp2
        go_round
        case rel =>
          refine ⟨k + 1, by omega, by go_num, ?_⟩
          have h := HR.out
          rw [HG.out] at h
          simp only [Tx.cnt, Tx.isD, hd1, hd2, decide_true, Bool.and_self, if_true] at h
          omega
        case measure => simp [intOf]; omega
      · have h := HR.out
        rw [HG.out] at h
        have hn : Tx.isD s[k] = false := by simp [Tx.isD]; omega
        simp only [Tx.cnt, hn, Bool.false_eq_true, if_false] at h
        have HK : Hid (k = a + Tx.cnt ((Tx.L s).drop a)) := by show _ = _; simpa using h
        clear h hn
        go_wp2
        all_goals
          first | (exfalso; omega) | skip
        all_goals
          go_ret
          exact ⟨ret_i64 (by have := HK.out; omega), rfl⟩
    · go_wp2
      go_ret
      refine ⟨ret_i64 ?_, rfl⟩
      have h := HR.out
      rw [List.drop_of_length_le (show (Tx.L s).length ≤ k by have := Tx.size_L s; omega)] at h
      simp only [Tx.cnt] at h
      omega

set_option maxHeartbeats 400000 in
theorem unsigned_any (s : ByteArray) (w : World) (hs : s.size ≤ 1048576) :
    Calls Try.prog 33 #[.string s] w fun e w' => e = .returned (.string (Tx.S (Tx.uns (Tx.L s)))) ∧ w' = w := by
  by_cases h0 : s.size = 0
  · have he := empty_yes h0
    have HF : Hid (Tx.S (Tx.uns (Tx.L s)) = s) := by
      have := nil_L h0
      show _ = _
      rw [this, ← Tx.S_L s, this]; rfl
    clear h0
    go_enter Try.func33, Try.ntmps33
    go_wp2
    go_ret
    exact ⟨ret_str HF.out.symm, rfl⟩
  · have hp : 0 < s.size := by omega
    clear h0
    have he := empty_no hp
    have HH : Hid (Tx.L s = s[0] :: (Tx.L s).drop 1) := head_L hp
    have HX : Hid (s.extract 1 s.size = Tx.S ((Tx.L s).drop 1)) := by
      show _ = _
      rw [Tx.extract_S, List.take_of_length_le]
      rw [List.length_drop, Tx.size_L s]; omega
    by_cases h1 : (s[0].toNat : Int) = 45
    · have h1' : ((s[0].toNat : Int) == 45) = true := by simpa using h1
      have HF : Hid (Tx.uns (Tx.L s) = (Tx.L s).drop 1) := by
        show _ = _
        conv => lhs; rw [HH.out]
        simp [Tx.uns, Tx.isS, h1]
      clear h1
      go_enter Try.func33, Try.ntmps33
      go_wp2
      go_ret
      exact ⟨ret_str (by rw [HF.out, HX.out]), rfl⟩
    · have h1' : ((s[0].toNat : Int) == 45) = false := by simpa using h1
      by_cases h2 : (s[0].toNat : Int) = 43
      · have h2' : ((s[0].toNat : Int) == 43) = true := by simpa using h2
        have HF : Hid (Tx.uns (Tx.L s) = (Tx.L s).drop 1) := by
          show _ = _
          conv => lhs; rw [HH.out]
          simp [Tx.uns, Tx.isS, h2]
        clear h1 h2
        go_enter Try.func33, Try.ntmps33
        go_wp2
        go_ret
        exact ⟨ret_str (by rw [HF.out, HX.out]), rfl⟩
      · have h2' : ((s[0].toNat : Int) == 43) = false := by simpa using h2
        have HF : Hid (Tx.uns (Tx.L s) = Tx.L s) := by
          show _ = _
          conv => lhs; rw [HH.out]
          conv => rhs; rw [HH.out]
          simp [Tx.uns, Tx.isS, h1, h2]
        clear h1 h2
        go_enter Try.func33, Try.ntmps33
        go_wp2
        go_ret
        exact ⟨ret_str (by rw [HF.out, Tx.S_L]), rfl⟩
end Go.Proofs.Qxb6601280a
