/-
  THE WALKS OF ZZisUUID, zzHexDigit, zzIsHyphenPos AND zzWithByte.
-/
import Derived.Test.Qxb6000866aIsUuid
import Derived.WalkKit
import Derived.WalkSpells
import Derived.WalkLawsBesides
import Derived.Laws.BytesArg
import Derived.Laws.IdiomStrings
namespace Go.Proofs.Qxb6000866a
open Go.RowKit

theorem B_at (s : ByteArray) (h : ∀ c ∈ Uu.B s, c < 128) (i : Nat) (hi : i < s.size) : (s[i]'hi).toNat < 128 := by
  have h1 : i < (Uu.B s).length := by rw [Uu.B_len]; exact hi
  have h2 := h _ (List.getElem_mem h1)
  have h3 := Uu.B_getD s i hi
  rw [List.getD, List.getElem?_eq_getElem h1] at h3
  simp only [Option.getD_some] at h3
  omega

set_option maxRecDepth 100000 in
set_option maxHeartbeats 2000000 in
theorem is_any (s : ByteArray) (w : World) (h : ∀ c ∈ Uu.B s, c < 128) :
    Calls Try.prog 11 #[.string s] w fun e w' => e = .returned (.bool (Uu.uu (Uu.B s))) ∧ Below w.heap.size w w' := by
  have HC : Hid (Calls Try.prog 26 #[.string s] w fun e w' => e = .returned (.bool (Uu.uu (Uu.B s))) ∧ Below w.heap.size w w') := by
    by_cases hs : s.size = 36
    · rw [show Uu.uu (Uu.B s) = Uu.al 0 (Uu.B s) by simp [Uu.uu, Uu.B_len, hs]]
      exact is_full s w hs (B_at s h)
    · rw [Uu.uu_len (Uu.B s) (by rw [Uu.B_len]; exact hs)]
      exact is_short s w hs
  clear h
  go_enter Try.func11, Try.ntmps11
  go_wp2_with fail
  refine HC.out.mono ?_
  rintro e w1 ⟨rfl, hb⟩
  go_wp2_with fail
  go_ret
  exact ⟨rfl, hb⟩

set_option maxRecDepth 100000 in
set_option maxHeartbeats 2000000 in
theorem hex_digit (v : Int) (up : Bool) (w : World) (h0 : 0 ≤ v) (h1 : v ≤ 15) :
    Calls Try.prog 29 #[.int .u8 v, .bool up] w fun e w' => ∃ c, e = .returned (.int .u8 c) ∧ Uu.hex c = true ∧ w = w' := by
  by_cases h : v < 10
  · go_enter Try.func29, Try.ntmps29
    go_wp2_with fail
    go_ret
    exact ⟨48 + v, by simp, by simp [Uu.hex]; omega, rfl⟩
  · cases up
    · go_enter Try.func29, Try.ntmps29
      go_wp2_with fail
      go_ret
      exact ⟨97 + v - 10, by simp, by simp [Uu.hex]; omega, rfl⟩
    · go_enter Try.func29, Try.ntmps29
      go_wp2_with fail
      go_ret
      exact ⟨65 + v - 10, by simp, by simp [Uu.hex]; omega, rfl⟩

set_option maxRecDepth 100000 in
set_option maxHeartbeats 2000000 in
theorem hyphen (i : Nat) (w : World) (h : i < 36) :
    Calls Try.prog 16 #[.int .i64 (i : Int)] w fun e w' => e = .returned (.bool (Uu.hy i)) ∧ w' = w := by
  by_cases hh : i = 8 ∨ i = 13 ∨ i = 18 ∨ i = 23
  · rcases hh with rfl | rfl | rfl | rfl
    all_goals
      go_enter Try.func16, Try.ntmps16
      go_wp2_with fail
      go_ret
      exact ⟨rfl, rfl⟩
  · have e : Uu.hy i = false := Uu.hy_no i (by omega)
    rw [e]
    have a1 : ((i : Int) == 8) = false := by simp; omega
    have a2 : ((i : Int) == 13) = false := by simp; omega
    have a3 : ((i : Int) == 18) = false := by simp; omega
    have a4 : ((i : Int) == 23) = false := by simp; omega
    go_enter Try.func16, Try.ntmps16
    go_wp2_with fail
    go_ret
    exact ⟨rfl, rfl⟩

theorem lay_bytes (s : ByteArray) (w : World) (hs : s.size = 36) : ∃ (cap : Nat) (w1 : World), 36 ≤ cap ∧
    (convert 9 39 (.string s)).run Try.prog w = .ok (.slice (some ⟨w.heap.size, 0, none⟩) 36 cap) w1 ∧ w.heap.size < w1.heap.size ∧ Below w.heap.size w w1 ∧
    (∀ j, j < 36 → w1.cell? ⟨w.heap.size, j, none⟩ = some (.int .u8 ((Uu.B s).getD j 0))) ∧ ∀ j, j < 36 → w1.frozen? ⟨w.heap.size, j, none⟩ = false := by
  have hcv := run_bytes_of_string (P := Try.prog) w 9 39 5 s Try.underlying9 Try.underlying39 Try.underlying5
  rw [hs] at hcv
  have hge := grownCap_ge w 36 0 5
  generalize grownCap w 36 0 5 = cap at hcv hge
  have hsz : (bytesRow s cap).size = cap := by
    have hd : s.data.size = 36 := hs
    rw [bytesRow, Array.size_append, Array.size_map, Array.size_replicate, hd]
    have : s.size = 36 := hs
    omega
  refine ⟨cap, _, hge, hcv, by simp, ((Below.refl _ w).drew).alloc (by simp) _, fun j hj => ?_, fun j hj => ?_⟩
  · have hd : j < s.data.size := by have : s.data.size = 36 := hs; omega
    have h1 := bytesRow_at s cap j hd
    have h2 := Uu.B_getD s j (by omega)
    rw [h2]
    refine (World.cell?_alloc_mark w.drew (bytesRow s cap) 5 _ j).trans ?_
    rw [h1]; rfl
  · refine (World.frozen?_alloc_mark w.drew (bytesRow s cap) 5 _ _ j).trans ?_
    rw [hsz]
    simp
    omega

set_option maxRecDepth 100000 in
set_option maxHeartbeats 2000000 in
theorem with_byte (s : ByteArray) (i : Nat) (c : Int) (w : World) (hs : s.size = 36) (h : i < 36) :
    Calls Try.prog 17 #[.string s, .int .i64 (i : Int), .int .u8 c] w fun e w' => e = .returned (.string (strOfNums ((Uu.B s).set i c))) ∧ Below w.heap.size w w' := by
  obtain ⟨cap, w1, hge, hcv, hsz, hb, hcell, hfro⟩ := lay_bytes s w hs
  have hc := hcell i h
  have hf := hfro i h
  have HCELL : Hid (∀ j, j < 36 → w1.cell? ⟨w.heap.size, j, none⟩ = some (.int .u8 ((Uu.B s).getD j 0))) := hcell
  have hcv2 := run_convert_bytes_arg (P := Try.prog) (w1.setCell ⟨w.heap.size, i, none⟩ (.int .u8 c)) 39 5 Try.underlying39 Try.underlying5 w.heap.size 0 36 cap ((Uu.B s).set i c) (by rw [List.length_set, Uu.B_len, hs]) (fun j hj => by
    have hj' : j < 36 := hj
    have hl : (Uu.B s).length = 36 := by rw [Uu.B_len, hs]
    rw [Nat.zero_add]
    by_cases e : i = j
    · subst e
      rw [World.cell?_setCell_same (h := hc), List.getD, List.getElem?_set_self (by omega)]; rfl
    · rw [World.cell?_setCell_other (h := by intro e2; cases e2; exact e rfl), HCELL.out j hj', List.getD, List.getD, List.getElem?_set_ne e]) 9 Try.underlying9
  have hb2 : Below w.heap.size w (w1.setCell ⟨w.heap.size, i, none⟩ (.int .u8 c)) := hb.setCell (Nat.le_refl _) _
  clear hcell hfro
  go_enter Try.func17, Try.ntmps17
  go_wp2_with fail
  go_ret
  exact ⟨rfl, hb2⟩
end Go.Proofs.Qxb6000866a
