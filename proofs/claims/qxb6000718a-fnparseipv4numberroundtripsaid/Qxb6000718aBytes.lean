/-
  A STRING'S BYTES AS A LIST OF NUMBERS: plain facts.
-/
namespace Go.Proofs.Qxb6000718a

/-- a string's bytes as numbers -/
def B (s : ByteArray) : List Int := s.data.toList.map (fun b => (b.toNat : Int))
theorem B_len (s : ByteArray) : (B s).length = s.size := by
  rw [B, List.length_map]; rfl
theorem B_drop (s : ByteArray) (k : Nat) (h : k < s.size) : (B s).drop k = ((s[k].toNat : Nat) : Int) :: (B s).drop (k + 1) := by
  have h' : k < (B s).length := by rw [B_len]; exact h
  rw [List.drop_eq_getElem_cons h']
  congr 1
  simp only [B, List.getElem_map]
  rfl
theorem B_extract (s : ByteArray) (a : Nat) : B (s.extract a s.size) = (B s).drop a := by
  have h : (s.extract a s.size).data.toList = s.data.toList.drop a := by
    simp [List.extract_eq_take_drop]
    rw [List.take_of_length_le]
    rw [List.length_drop]
    exact Nat.le_refl _
  rw [B, h, List.map_drop]; rfl
theorem two_data (s : ByteArray) (h : 1 < s.size) : (s.extract 0 2).data.toList = [s[0], s[1]] := by
  have h2 : 1 < s.data.toList.length := h
  have e : (s.extract 0 2).data.toList = s.data.toList.take 2 := by
    simp [List.extract_eq_take_drop]
  rw [e]
  have key : ∀ (l : List UInt8) (h : 1 < l.length), l.take 2 = [l[0], l[1]] := by
    intro l h
    match l, h with
    | a :: b :: r, _ => simp
  exact key _ h2
theorem byte_eq (a : UInt8) (n : UInt8) : (a == n) = (((a.toNat : Nat) : Int) == ((n.toNat : Nat) : Int)) := by
  rw [Bool.eq_iff_iff]
  simp only [beq_iff_eq]
  constructor
  · intro h; rw [h]
  · intro h; exact UInt8.toNat_inj.1 (by omega)
/-- the first two bytes against two given ones -/
theorem two_eq (s : ByteArray) (h : 1 < s.size) (x y : UInt8) :
    ((s.extract 0 2).data.toList == [x, y]) = ((((s[0].toNat : Nat) : Int) == ((x.toNat : Nat) : Int)) && (((s[1].toNat : Nat) : Int) == ((y.toNat : Nat) : Int))) := by
  rw [two_data s h, ← byte_eq, ← byte_eq]
  simp
theorem B_of (xs : List Int) (h : ∀ x ∈ xs, 0 ≤ x ∧ x ≤ 255) : B ⟨(xs.map fun n => UInt8.ofNat n.toNat).toArray⟩ = xs := by
  have e : (⟨(xs.map fun n => UInt8.ofNat n.toNat).toArray⟩ : ByteArray).data.toList = xs.map fun n => UInt8.ofNat n.toNat := rfl
  rw [B, e, List.map_map]
  conv => rhs; rw [← List.map_id xs]
  apply List.map_congr_left
  intro x hx
  obtain ⟨h1, h2⟩ := h x hx
  show (((UInt8.ofNat x.toNat).toNat : Nat) : Int) = x
  rw [UInt8.toNat_ofNat']
  omega

theorem rev_take (ds : List Int) (n k : Nat) (hn : n = ds.length) (h : k < n) : ds.reverse.take (k + 1) = ds.reverse.take k ++ [ds.getD (n - 1 - k) 0] := by
  subst hn
  have h1 : ds.length - 1 - k < ds.length := by omega
  have h2 : k < ds.reverse.length := by rw [List.length_reverse]; exact h
  rw [List.take_succ_eq_append_getElem h2, List.getElem_reverse, List.getD, List.getElem?_eq_getElem h1]
  rfl
theorem snoc_getD (cs : List Int) (c : Int) (j k : Nat) (h : cs.length = k) : (cs ++ [c]).getD j 0 = if j = k then c else cs.getD j 0 := by
  subst h
  rw [List.getD, List.getD, List.getElem?_append]
  by_cases h1 : j < cs.length
  · rw [if_pos h1, if_neg (by omega)]
  · rw [if_neg h1]
    by_cases h2 : j = cs.length
    · rw [if_pos h2, h2]; simp
    · rw [if_neg h2, List.getElem?_eq_none (show cs.length ≤ j by omega), List.getElem?_eq_none (by simp; omega)]

end Go.Proofs.Qxb6000718a
