/-
  THE PLAIN LAW OF THE UUID's TEXT: no Go in sight.
-/
namespace Go.Proofs.Qxb6000866a.Uu

/-- a hex digit -/
def hex (c : Int) : Bool := (decide (48 ≤ c) && decide (c ≤ 57)) || ((decide (97 ≤ c) && decide (c ≤ 102)) || (decide (65 ≤ c) && decide (c ≤ 70)))
/-- a hyphen's place -/
def hy (k : Nat) : Bool := k == 8 || (k == 13 || (k == 18 || k == 23))
/-- what may stand at place k -/
def okAt (k : Nat) (c : Int) : Bool := if hy k = true then c == 45 else hex c
/-- from place k on all stands well -/
def al : Nat → List Int → Bool
  | _, [] => true
  | k, c :: r => okAt k c && al (k + 1) r
/-- isUUID -/
def uu (l : List Int) : Bool := l.length == 36 && al 0 l

theorem al_snoc : ∀ (l : List Int) (k : Nat) (c : Int), al k (l ++ [c]) = (al k l && okAt (k + l.length) c)
  | [], k, c => by simp [al]
  | a :: l, k, c => by
    simp only [List.cons_append, al, al_snoc l (k + 1) c, List.length_cons]
    rw [Bool.and_assoc]
    congr 3
    omega
theorem al_at : ∀ (l : List Int) (k i : Nat), al k l = true → i < l.length → okAt (k + i) (l.getD i 0) = true
  | [], _, i, _, h => by simp at h
  | a :: l, k, 0, h, _ => by
    simp only [al, Bool.and_eq_true] at h
    simpa using h.1
  | a :: l, k, i + 1, h, hi => by
    simp only [al, Bool.and_eq_true] at h
    have := al_at l (k + 1) i h.2 (by simpa using hi)
    rw [show k + (i + 1) = k + 1 + i by omega]
    simpa using this
theorem uu_len (l : List Int) (h : l.length ≠ 36) : uu l = false := by simp [uu, h]
theorem uu_bad (l : List Int) (i : Nat) (hi : i < l.length) (h : okAt i (l.getD i 0) = false) : uu l = false := by
  cases ha : al 0 l
  · simp [uu, ha]
  · have := al_at l 0 i ha hi
    rw [Nat.zero_add, h] at this
    exact absurd this (by simp)
theorem uu_yes (l : List Int) (h1 : l.length = 36) (h2 : al 0 l = true) : uu l = true := by simp [uu, h1, h2]

theorem hex_not45 (c : Int) (h : hex c = true) : (c == 45) = false := by
  simp [hex] at h; simp; omega
theorem okAt_range (k : Nat) (c : Int) (h : okAt k c = true) : 45 ≤ c ∧ c ≤ 102 := by
  unfold okAt at h
  split at h
  · simp at h; omega
  · simp [hex] at h; omega

/-- ahead of the text one place more: what stood at 7 stands at 8 -/
theorem shift_right (l : List Int) (h1 : l.length = 36) (h2 : al 0 l = true) : uu (48 :: l.take 35) = false := by
  have h7 := al_at l 0 7 h2 (by omega)
  have hh : hex (l.getD 7 0) = true := by simpa [okAt, hy] using h7
  refine uu_bad _ 8 (by simp; omega) ?_
  have e : (48 :: l.take 35).getD 8 0 = l.getD 7 0 := by simp
  rw [e]
  simp only [okAt, hy]
  exact hex_not45 _ hh
theorem shift_left (l : List Int) (h1 : l.length = 36) (h2 : al 0 l = true) : uu (l.drop 1 ++ [48]) = false := by
  have h9 := al_at l 0 9 h2 (by omega)
  have hh : hex (l.getD 9 0) = true := by simpa [okAt, hy] using h9
  refine uu_bad _ 8 (by simp; omega) ?_
  have e : (l.drop 1 ++ [48]).getD 8 0 = l.getD 9 0 := by
    have h3 : 8 < (l.drop 1).length := by rw [List.length_drop]; omega
    rw [List.getD, List.getElem?_append_left h3]
    simp
  rw [e]
  simp only [okAt, hy]
  exact hex_not45 _ hh
/-- one byte turned -/
theorem turned (l : List Int) (i : Nat) (c : Int) (h1 : l.length = 36) (hi : i < 36) (hc : okAt i c = false) : uu (l.set i c) = false := by
  refine uu_bad _ i (by simp; omega) ?_
  have : (l.set i c).getD i 0 = c := by
    rw [List.getD, List.getElem?_set_self (by omega)]; rfl
  rw [this]; exact hc

/-- the text's length ahead of round k of zzFormatUUID -/
def pos (k n : Nat) : Prop := (k ≤ 4 ∧ n = 2 * k) ∨ (4 < k ∧ k ≤ 6 ∧ n = 2 * k + 1) ∨ (6 < k ∧ k ≤ 8 ∧ n = 2 * k + 2) ∨ (8 < k ∧ k ≤ 10 ∧ n = 2 * k + 3) ∨ (10 < k ∧ k ≤ 16 ∧ n = 2 * k + 4)
theorem hy_no (n : Nat) (h : n ≠ 8 ∧ n ≠ 13 ∧ n ≠ 18 ∧ n ≠ 23) : hy n = false := by simp [hy, h.1, h.2.1, h.2.2.1, h.2.2.2]
theorem okAt_hex (n : Nat) (c : Int) (h : n ≠ 8 ∧ n ≠ 13 ∧ n ≠ 18 ∧ n ≠ 23) (hc : hex c = true) : okAt n c = true := by
  rw [okAt, hy_no n h]; simpa using hc
theorem okAt_hy (n : Nat) (h : n = 8 ∨ n = 13 ∨ n = 18 ∨ n = 23) : okAt n 45 = true := by
  rcases h with h | h | h | h <;> rw [h] <;> decide

theorem okAt_hyno (n : Nat) (c : Int) (h : n = 8 ∨ n = 13 ∨ n = 18 ∨ n = 23) (hc : c ≠ 45) : okAt n c = false := by
  rcases h with h | h | h | h <;> rw [h] <;> simpa [okAt, hy] using hc
theorem okAt_hexno (n : Nat) (c : Int) (h : n ≠ 8 ∧ n ≠ 13 ∧ n ≠ 18 ∧ n ≠ 23) (hc : hex c = false) : okAt n c = false := by
  rw [okAt, hy_no n h]; simpa using hc

/-- a string's bytes as numbers -/
def B (s : ByteArray) : List Int := s.data.toList.map (fun b => (b.toNat : Int))
theorem B_len (s : ByteArray) : (B s).length = s.size := by
  rw [B, List.length_map]; rfl
theorem B_drop (s : ByteArray) (k : Nat) (h : k < s.size) : (B s).drop k = ((s[k].toNat : Nat) : Int) :: (B s).drop (k + 1) := by
  have h' : k < (B s).length := by rw [B_len]; exact h
  rw [List.drop_eq_getElem_cons h']
  congr 1
  simp only [B, List.getElem_map]
  rfl
theorem B_getD (s : ByteArray) (k : Nat) (h : k < s.size) : (B s).getD k 0 = ((s[k].toNat : Nat) : Int) := by
  have h' : k < (B s).length := by rw [B_len]; exact h
  rw [List.getD, List.getElem?_eq_getElem h']
  simp only [B, List.getElem_map]
  rfl
theorem B_of (xs : List Int) (h : ∀ x ∈ xs, 0 ≤ x ∧ x ≤ 255) : B ⟨(xs.map fun n => UInt8.ofNat n.toNat).toArray⟩ = xs := by
  have e : (⟨(xs.map fun n => UInt8.ofNat n.toNat).toArray⟩ : ByteArray).data.toList = xs.map fun n => UInt8.ofNat n.toNat := rfl
  rw [B, e, List.map_map]
  conv => rhs; rw [← List.map_id xs]
  apply List.map_congr_left
  intro x hx
  obtain ⟨h1, h2⟩ := h x hx
  show (((UInt8.ofNat x.toNat).toNat : Nat) : Int) = x
  rw [UInt8.toNat_ofNat']
  omega
theorem B_app (a b : ByteArray) : B (a ++ b) = B a ++ B b := by
  have h : (a ++ b).data.toList = a.data.toList ++ b.data.toList := by simp
  rw [B, h, List.map_append]; rfl
theorem B_head (s : ByteArray) (n : Nat) : B (s.extract 0 n) = (B s).take n := by
  have h : (s.extract 0 n).data.toList = s.data.toList.take n := by
    simp [List.extract_eq_take_drop]
  rw [B, h, List.map_take]; rfl
theorem B_tail (s : ByteArray) (a : Nat) : B (s.extract a s.size) = (B s).drop a := by
  have h : (s.extract a s.size).data.toList = s.data.toList.drop a := by
    simp [List.extract_eq_take_drop]
    rw [List.take_of_length_le]
    rw [List.length_drop]
    exact Nat.le_refl _
  rw [B, h, List.map_drop]; rfl

end Go.Proofs.Qxb6000866a.Uu
