/-
  THE PLAIN LAW OF THE IPv4 NUMBER: no Go in sight. Digits, their values, the saturating reading.
-/
namespace Go.Proofs.Qxb6000718a.Pl

/-- ipv4Max -/
def M : Int := 8589934592
theorem M_eq : M = 8589934592 := rfl

/-- the characters that stand for digits -/
def ok (c : Int) : Prop := (48 ≤ c ∧ c ≤ 57) ∨ (65 ≤ c ∧ c ≤ 70) ∨ (97 ≤ c ∧ c ≤ 102)
/-- a character's value as a digit -/
def dgv (c : Int) : Int := if c ≤ 57 then c - 48 else if c ≤ 70 then c - 55 else c - 87

theorem dgv_range (c : Int) (h : ok c) : 0 ≤ dgv c ∧ dgv c ≤ 15 := by
  unfold ok at h; unfold dgv; repeat' split <;> omega

/-- the saturating reading, from a -/
def sat (b : Int) : List Int → Int → Int
  | [], a => a
  | c :: r, a => sat b r (min (a * b + dgv c) M)
/-- a list of digits' value, from a -/
def vl (b : Int) : List Int → Int → Int
  | [], a => a
  | d :: r, a => vl b r (a * b + d)

theorem sat_eq (b : Int) (hb : 1 ≤ b) : ∀ (l : List Int) (a : Int), 0 ≤ a → (∀ c ∈ l, ok c) → sat b l (min a M) = min (vl b (l.map dgv) a) M
  | [], a, _, _ => rfl
  | c :: r, a, ha, h => by
    have hc := dgv_range c (h c (by simp))
    have hab : a ≤ a * b := by
      have := Int.mul_le_mul_of_nonneg_left hb ha
      rw [Int.mul_one] at this
      exact this
    have h0 : 0 ≤ a * b + dgv c := by omega
    have ih := sat_eq b hb r (a * b + dgv c) h0 (fun x hx => h x (by simp [hx]))
    show sat b r (min (min a M * b + dgv c) M) = min (vl b (r.map dgv) (a * b + dgv c)) M
    rw [← ih]
    congr 1
    by_cases hm : a ≤ M
    · rw [Int.min_eq_left hm]
    · have hm' : M ≤ a := by omega
      have hM : 0 ≤ M := by unfold M; omega
      have hMb : M ≤ M * b := by
        have := Int.mul_le_mul_of_nonneg_left hb hM
        rw [Int.mul_one] at this
        exact this
      rw [Int.min_eq_right hm', Int.min_eq_right (by omega), Int.min_eq_right (by omega)]

theorem vl_snoc (b : Int) : ∀ (l : List Int) (d a : Int), vl b (l ++ [d]) a = vl b l a * b + d
  | [], _, _ => rfl
  | c :: r, d, a => by
    show vl b (r ++ [d]) (a * b + c) = _
    rw [vl_snoc b r d]; rfl
theorem vl_zeros (b : Int) (ds : List Int) : ∀ p : Nat, vl b (List.replicate p 0 ++ ds) 0 = vl b ds 0
  | 0 => rfl
  | p + 1 => by
    rw [List.replicate_succ, List.cons_append]
    show vl b (List.replicate p 0 ++ ds) (0 * b + 0) = _
    rw [Int.zero_mul, Int.add_zero, vl_zeros b ds p]

/-- the digits of x, the least first -/
def rd (b : Nat) : Nat → Nat → List Int
  | 0, _ => []
  | f + 1, x => if x = 0 then [] else ((x % b : Nat) : Int) :: rd b f (x / b)

theorem rd_len (b : Nat) : ∀ (f x : Nat), (rd b f x).length ≤ f
  | 0, _ => Nat.le_refl _
  | f + 1, x => by
    have := rd_len b f (x / b)
    unfold rd
    split
    · simp
    · simp only [List.length_cons]; omega

theorem rd_val (b : Nat) (hb : 2 ≤ b) : ∀ (f x : Nat), x < 2 ^ f → vl (b : Int) (rd b f x).reverse 0 = (x : Int)
  | 0, x, h => by
    have : x = 0 := by simpa using h
    rw [this]; rfl
  | f + 1, x, h => by
    unfold rd
    by_cases h0 : x = 0
    · rw [if_pos h0, h0]; rfl
    · rw [if_neg h0, List.reverse_cons, vl_snoc]
      have hlt : x / b < 2 ^ f := by
        rw [Nat.pow_succ] at h
        apply Nat.div_lt_of_lt_mul
        calc x < 2 ^ f * 2 := h
          _ ≤ 2 ^ f * b := Nat.mul_le_mul_left _ hb
          _ = b * 2 ^ f := Nat.mul_comm _ _
      rw [rd_val b hb f (x / b) hlt]
      have := Nat.div_add_mod x b
      have h2 : ((b * (x / b) + x % b : Nat) : Int) = (x : Int) := by rw [this]
      rw [Int.natCast_add, Int.natCast_mul, Int.mul_comm] at h2
      exact h2

/-- digits are small -/
theorem rd_small (b : Nat) (hb : 2 ≤ b) : ∀ (f x : Nat), ∀ d ∈ rd b f x, 0 ≤ d ∧ d < (b : Int)
  | 0, _, d, h => by simp [rd] at h
  | f + 1, x, d, h => by
    unfold rd at h
    split at h
    · simp at h
    · rcases List.mem_cons.1 h with h | h
      · have := Nat.mod_lt x (show 0 < b by omega)
        rw [h]; omega
      · exact rd_small b hb f (x / b) d h

/-- the greatest digit is not 0 -/
theorem rd_last (b : Nat) (hb : 2 ≤ b) : ∀ (f x : Nat), x < 2 ^ f → x ≠ 0 → ∃ d l, (rd b f x).reverse = d :: l ∧ d ≠ 0
  | 0, x, h, h0 => by
    have : x = 0 := by simpa using h
    exact absurd this h0
  | f + 1, x, h, h0 => by
    unfold rd
    rw [if_neg h0, List.reverse_cons]
    have hlt : x / b < 2 ^ f := by
      rw [Nat.pow_succ] at h
      apply Nat.div_lt_of_lt_mul
      calc x < 2 ^ f * 2 := h
        _ ≤ 2 ^ f * b := Nat.mul_le_mul_left _ hb
        _ = b * 2 ^ f := Nat.mul_comm _ _
    by_cases hq : x / b = 0
    · have hr : rd b f (x / b) = [] := by
        rw [hq]; cases f <;> simp [rd]
      have hx : x < b := by
        rcases Nat.div_eq_zero_iff.1 hq with h | h
        · omega
        · exact h
      rw [hr]
      refine ⟨((x % b : Nat) : Int), [], rfl, ?_⟩
      rw [Nat.mod_eq_of_lt hx]
      omega
    · obtain ⟨d, l, h1, h2⟩ := rd_last b hb f (x / b) hlt hq
      exact ⟨d, l ++ [((x % b : Nat) : Int)], by rw [h1]; rfl, h2⟩

/-- zzDigits' digits, the greatest first -/
def digs (b x : Nat) : List Int := if x = 0 then [0] else (rd b 64 x).reverse
theorem digs_val (b x : Nat) (hb : 2 ≤ b) (hx : x < 18446744073709551616) : vl (b : Int) (digs b x) 0 = (x : Int) := by
  unfold digs
  by_cases h0 : x = 0
  · rw [if_pos h0, h0]; simp [vl]
  · rw [if_neg h0]
    exact rd_val b hb 64 x (by have : (2 : Nat) ^ 64 = 18446744073709551616 := by decide
                               omega)

/-- THE PLAIN LAW: zeros ahead, then the digits: the number, held at ipv4Max -/
theorem read_back (b x p : Nat) (cs : List Int) (hb : 2 ≤ b) (hx : x < 18446744073709551616) (hok : ∀ c ∈ cs, ok c) (hd : cs.map dgv = digs b x) :
    sat (b : Int) (List.replicate p 48 ++ cs) 0 = min (x : Int) M := by
  have hz : (0 : Int) = min 0 M := by unfold M; decide
  have h48 : dgv 48 = 0 := by decide
  have hall : ∀ c ∈ List.replicate p 48 ++ cs, ok c := by
    intro c hc
    rcases List.mem_append.1 hc with h | h
    · rw [(List.mem_replicate.1 h).2]; left; omega
    · exact hok c h
  have h1 := sat_eq (b : Int) (by omega) (List.replicate p 48 ++ cs) 0 (by omega) hall
  rw [← hz] at h1
  rw [h1, List.map_append, List.map_replicate, h48, hd, vl_zeros, digs_val b x hb hx]

end Go.Proofs.Qxb6000718a.Pl
