/-
  THE WALK OF isUUID.
-/
import Derived.Test.Qxb6000866aUuid
import Derived.Test.Qxb6000866aRows
import Derived.WalkKit
import Derived.WalkSpells
import Derived.WalkLawsBesides
import Derived.Laws.RangeString
namespace Go.Proofs.Qxb6000866a
open Go.RowKit

set_option maxRecDepth 100000 in
set_option maxHeartbeats 2000000 in
theorem is_short (s : ByteArray) (w : World) (h : s.size ≠ 36) :
    Calls Try.prog 26 #[.string s] w fun e w' => e = .returned (.bool false) ∧ Below w.heap.size w w' := by
  go_enter Try.func26, Try.ntmps26
  go_wp2_with fail
  go_ret
  exact ⟨rfl, Below.refl _ w⟩

set_option maxRecDepth 100000 in
set_option maxHeartbeats 4000000 in
theorem is_full (s : ByteArray) (w : World) (h : s.size = 36) (ha : ∀ i (h : i < s.size), (s[i]'h).toNat < 128) :
    Calls Try.prog 26 #[.string s] w fun e w' => e = .returned (.bool (Uu.al 0 (Uu.B s))) ∧ Below w.heap.size w w' := by
  have HA : Hid (∀ i (h : i < s.size), (s[i]'h).toNat < 128) := ha
  clear ha
  go_enter Try.func26, Try.ntmps26
  go_wp2_with fail
  go_loopw [] (fun wr => ∃ pos : Nat, pos ≤ 36 ∧ wr = w.iter s pos ∧ Uu.al 0 (Uu.B s) = Uu.al pos ((Uu.B s).drop pos)) (fun wr => s.size - wr.iterPos w.heap.size)
  case atStart => exact ⟨0, by omega, rfl, by simp⟩
  case round =>
    obtain ⟨pos, hp, rfl, hal⟩ := hrel
    have HAL : Hid (Uu.al 0 (Uu.B s) = Uu.al pos ((Uu.B s).drop pos)) := hal
    clear hal
    have hb : Below w.heap.size w (w.iter s (pos + 1)) := (Below.refl _ w).alloc (Nat.le_refl _) _
    by_cases hlt : pos < s.size
    · have hnx : ∀ ty, (Instr.next (.pointer (some ⟨w.heap.size, 0, none⟩)) true ty).run Try.prog (w.iter s pos) = _ := fun ty => run_next_ascii w s pos ty hlt (HA.out pos hlt)
      have hc := HA.out pos hlt
      have HD := Uu.B_drop s pos hlt
      have HD' : Hid ((Uu.B s).drop pos = ((s[pos].toNat : Nat) : Int) :: (Uu.B s).drop (pos + 1)) := HD
      clear HD
      generalize s[pos].toNat = c at hnx hc HD'
      have HS : Hid (Uu.al 0 (Uu.B s) = (Uu.okAt pos c && Uu.al (pos + 1) ((Uu.B s).drop (pos + 1)))) := by
        show _ = _
        rw [HAL.out, HD'.out]; rfl
      clear HAL HD'
      by_cases hh : pos = 8 ∨ pos = 13 ∨ pos = 18 ∨ pos = 23
      · by_cases h45 : c = 45
        · have HN : Hid (Uu.al 0 (Uu.B s) = Uu.al (pos + 1) ((Uu.B s).drop (pos + 1))) := by
            show _ = _
            rw [HS.out, h45, show ((45 : Nat) : Int) = 45 from rfl, Uu.okAt_hy pos hh, Bool.true_and]
          clear HS
          subst h45
          rcases hh with rfl | rfl | rfl | rfl
          all_goals
            go_wp2_with fail
            go_roundw
            case rel => exact ⟨_, by omega, rfl, HN.out⟩
            case measure => simp; omega
        · have HN : Hid (Uu.al 0 (Uu.B s) = false) := by
            show _ = _
            rw [HS.out, Uu.okAt_hyno pos c hh (by omega), Bool.false_and]
          clear HS
          rcases hh with rfl | rfl | rfl | rfl
          all_goals
            go_wp2_with fail
            go_ret
            exact ⟨by rw [HN.out]; rfl, hb⟩
      · have hq : pos ≠ 8 ∧ pos ≠ 13 ∧ pos ≠ 18 ∧ pos ≠ 23 := by omega
        by_cases hx : Uu.hex c = true
        · have HN : Hid (Uu.al 0 (Uu.B s) = Uu.al (pos + 1) ((Uu.B s).drop (pos + 1))) := by
            show _ = _
            rw [HS.out, Uu.okAt_hex pos c hq hx, Bool.true_and]
          clear HS
          have hr : (48 ≤ c ∧ c ≤ 57) ∨ (65 ≤ c ∧ c ≤ 70) ∨ (97 ≤ c ∧ c ≤ 102) := by
            simp [Uu.hex] at hx; omega
          clear hx hh
          obtain ⟨hq1, hq2, hq3, hq4⟩ := hq
          rcases hr with ⟨hr1, hr2⟩ | ⟨hr1, hr2⟩ | ⟨hr1, hr2⟩
          · have d57 : decide ((c : Int) ≤ 57) = true := by simp; omega
            have d102 : decide ((c : Int) ≤ 102) = true := by simp; omega
            have d70 : decide ((c : Int) ≤ 70) = true := by simp; omega
            go_wp2_with fail
            go_roundw
            case rel => exact ⟨_, by omega, rfl, HN.out⟩
            case measure => simp; omega
          · have d57 : decide ((c : Int) ≤ 57) = false := by simp; omega
            have d102 : decide ((c : Int) ≤ 102) = true := by simp; omega
            have d70 : decide ((c : Int) ≤ 70) = true := by simp; omega
            go_wp2_with fail
            go_roundw
            case rel => exact ⟨_, by omega, rfl, HN.out⟩
            case measure => simp; omega
          · have d57 : decide ((c : Int) ≤ 57) = false := by simp; omega
            have d102 : decide ((c : Int) ≤ 102) = true := by simp; omega
            have d70 : decide ((c : Int) ≤ 70) = false := by simp; omega
            go_wp2_with fail
            go_roundw
            case rel => exact ⟨_, by omega, rfl, HN.out⟩
            case measure => simp; omega
        · have HN : Hid (Uu.al 0 (Uu.B s) = false) := by
            show _ = _
            rw [HS.out, Uu.okAt_hexno pos c hq (by simpa using hx), Bool.false_and]
          clear HS
          have hr : c < 48 ∨ (57 < c ∧ c < 65) ∨ (70 < c ∧ c < 97) ∨ 102 < c := by
            simp [Uu.hex] at hx; omega
          clear hx hh
          obtain ⟨hq1, hq2, hq3, hq4⟩ := hq
          rcases hr with hr1 | ⟨hr1, hr2⟩ | ⟨hr1, hr2⟩ | hr1
          · have d57 : decide ((c : Int) ≤ 57) = true := by simp; omega
            have d102 : decide ((c : Int) ≤ 102) = true := by simp; omega
            have d70 : decide ((c : Int) ≤ 70) = true := by simp; omega
            go_wp2_with fail
            go_ret
            exact ⟨by rw [HN.out]; rfl, hb⟩
          · have d57 : decide ((c : Int) ≤ 57) = false := by simp; omega
            have d102 : decide ((c : Int) ≤ 102) = true := by simp; omega
            have d70 : decide ((c : Int) ≤ 70) = true := by simp; omega
            go_wp2_with fail
            go_ret
            exact ⟨by rw [HN.out]; rfl, hb⟩
          · have d57 : decide ((c : Int) ≤ 57) = false := by simp; omega
            have d102 : decide ((c : Int) ≤ 102) = true := by simp; omega
            have d70 : decide ((c : Int) ≤ 70) = false := by simp; omega
            go_wp2_with fail
            go_ret
            exact ⟨by rw [HN.out]; rfl, hb⟩
          · have d57 : decide ((c : Int) ≤ 57) = false := by simp; omega
            have d102 : decide ((c : Int) ≤ 102) = false := by simp; omega
            have d70 : decide ((c : Int) ≤ 70) = false := by simp; omega
            go_wp2_with fail
            go_ret
            exact ⟨by rw [HN.out]; rfl, hb⟩
    · have hnx : ∀ ty, (Instr.next (.pointer (some ⟨w.heap.size, 0, none⟩)) true ty).run Try.prog (w.iter s pos) = _ := fun ty => run_next_end w s pos ty hlt
      have HN : Hid (Uu.al 0 (Uu.B s) = true) := by
        show _ = _
        rw [HAL.out, List.drop_eq_nil_of_le (by rw [Uu.B_len]; omega)]; rfl
      clear HAL
      have hb0 : Below w.heap.size w (w.iter s pos) := (Below.refl _ w).alloc (Nat.le_refl _) _
      go_wp2_with fail
      go_ret
      exact ⟨by rw [HN.out]; rfl, hb0⟩
end Go.Proofs.Qxb6000866a
