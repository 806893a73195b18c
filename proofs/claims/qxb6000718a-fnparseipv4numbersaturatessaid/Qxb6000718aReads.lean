/-
  WHAT IS WRITTEN READS BACK: zzWrite's string under ZZParseIPv4Number.
-/
import Derived.Test.Qxb6000718aWrite
namespace Go.Proofs.Qxb6000718a
open Go.RowKit

/-- what ZZParseIPv4Number answers on s -/
def Reads (s : ByteArray) (x : Nat) : Prop := ∀ w : World, Calls Try.prog 7 #[.string s] w fun e w' => e = .returned (.tuple #[.int .u64 (min (x : Int) Pl.M), .bool true]) ∧ ∃ q, w' = w.drewN q

theorem ok_range (c : Int) (h : Pl.ok c) : 0 ≤ c ∧ c ≤ 255 := by unfold Pl.ok at h; omega
theorem B_nums (xs : List Int) (h : ∀ x ∈ xs, 0 ≤ x ∧ x ≤ 255) : B (strOfNums xs) = xs := B_of xs h
theorem digs_small (b x : Nat) (hb : 2 ≤ b) : ∀ d ∈ Pl.digs b x, d < (b : Int) := by
  intro d hd
  unfold Pl.digs at hd
  split at hd
  · simp at hd; omega
  · exact (Pl.rd_small b hb 64 x d (List.mem_reverse.1 hd)).2
theorem digs_len (b x : Nat) (hb : 2 ≤ b) (hx : x < 18446744073709551616) : 0 < (Pl.digs b x).length ∧ (Pl.digs b x).length ≤ 64 := by
  unfold Pl.digs
  split
  · simp
  · rename_i h0
    obtain ⟨d, l, h1, _⟩ := Pl.rd_last b hb 64 x (lt64 x hx) h0
    refine ⟨by rw [h1]; simp, by rw [List.length_reverse]; exact Pl.rd_len b 64 x⟩
theorem B_head (s : ByteArray) (h : 0 < s.size) (c : Int) (l : List Int) (hb : B s = c :: l) : ((s[0].toNat : Nat) : Int) = c := by
  have := B_drop s 0 h
  rw [List.drop_zero, hb] at this
  simp only [List.cons.injEq] at this
  exact this.1.symm
theorem B_second (s : ByteArray) (h : 1 < s.size) (c d : Int) (l : List Int) (hb : B s = c :: d :: l) : ((s[1].toNat : Nat) : Int) = d := by
  have := B_drop s 1 h
  rw [hb] at this
  simp only [List.drop_succ_cons, List.drop_zero, List.cons.injEq] at this
  exact this.1.symm

theorem reads_dec (x : Nat) (cs : List Int) (hx : x < 18446744073709551616) (h1 : ∀ c ∈ cs, Pl.ok c) (h2 : cs.map Pl.dgv = Pl.digs 10 x) : Reads (strOfNums cs) x := by
  intro w
  have hB : B (strOfNums cs) = cs := B_nums cs (fun c hc => ok_range c (h1 c hc))
  have hl : cs.length = (Pl.digs 10 x).length := by rw [← h2, List.length_map]
  have hdl := digs_len 10 x (by omega) hx
  have hsz : (strOfNums cs).size = cs.length := strOfNums_size cs
  have hd : ∀ c ∈ B (strOfNums cs), Pl.ok c ∧ Pl.dgv c < 10 := by
    intro c hc
    rw [hB] at hc
    refine ⟨h1 c hc, digs_small 10 x (by omega) _ ?_⟩
    rw [← h2]; exact List.mem_map_of_mem hc
  have hK : Kind (strOfNums cs) (strOfNums cs) 10 := by
    left
    refine ⟨rfl, rfl, ?_⟩
    by_cases hs2 : (strOfNums cs).size < 2
    · exact .inl hs2
    · right
      have hp : 0 < (strOfNums cs).size := by omega
      refine ⟨hp, by omega, ?_⟩
      have hx0 : ¬ x = 0 := by
        intro e
        rw [e, Pl.digs, if_pos rfl] at hl
        simp at hl
        omega
      obtain ⟨d, l, e1, e2⟩ := Pl.rd_last 10 (by omega) 64 x (lt64 x hx) hx0
      rw [Pl.digs, if_neg hx0, e1] at h2
      cases cs with
      | nil => simp at h2
      | cons c0 r =>
        rw [B_head _ hp c0 r hB]
        simp only [List.map_cons, List.cons.injEq] at h2
        intro e
        rw [e] at h2
        exact e2 (by rw [← h2.1]; decide)
  have := zzparse_go (strOfNums cs) (strOfNums cs) 10 w (by omega) (by omega) hK (by omega) (by omega) hd
  rw [hB] at this
  have hr := Pl.read_back 10 x 0 cs (by omega) hx h1 h2
  rw [List.replicate_zero, List.nil_append] at hr
  rw [show ((10 : Nat) : Int) = 10 from rfl] at hr
  rw [hr] at this
  exact this

/-- behind an opening of a byte or two -/
theorem reads_pre (x base p : Nat) (pre cs : List Int) (hx : x < 18446744073709551616) (hp : p ≤ 255) (h1 : ∀ c ∈ cs, Pl.ok c) (h2 : cs.map Pl.dgv = Pl.digs base x)
    (hk : (base = 8 ∧ pre = [48]) ∨ (base = 16 ∧ (pre = [48, 88] ∨ pre = [48, 120]))) : Reads (strOfNums (pre ++ List.replicate p 48 ++ cs)) x := by
  intro w
  have hb2 : 2 ≤ base := by omega
  have hpre : ∀ c ∈ pre, 0 ≤ c ∧ c ≤ 255 := by
    intro c hc
    rcases hk with ⟨_, rfl⟩ | ⟨_, rfl | rfl⟩ <;> simp at hc <;> omega
  have hok : ∀ c ∈ List.replicate p 48 ++ cs, Pl.ok c := by
    intro c hc
    rcases List.mem_append.1 hc with h | h
    · rw [(List.mem_replicate.1 h).2]; left; omega
    · exact h1 c h
  have hB : B (strOfNums (pre ++ List.replicate p 48 ++ cs)) = pre ++ (List.replicate p 48 ++ cs) := by
    rw [B_nums, List.append_assoc]
    intro c hc
    rw [List.append_assoc] at hc
    rcases List.mem_append.1 hc with h | h
    · exact hpre c h
    · exact ok_range c (hok c h)
  generalize strOfNums (pre ++ List.replicate p 48 ++ cs) = s at *
  have hl : cs.length = (Pl.digs base x).length := by rw [← h2, List.length_map]
  have hdl := digs_len base x hb2 hx
  have hpl : pre.length ≤ 2 := by
    rcases hk with ⟨_, rfl⟩ | ⟨_, rfl | rfl⟩ <;> simp
  have hsz : s.size = pre.length + (p + cs.length) := by
    rw [← B_len, hB]; simp
  have hBr : B (s.extract pre.length s.size) = List.replicate p 48 ++ cs := by
    rw [B_extract, hB]; simp
  have hrs : (s.extract pre.length s.size).size = p + cs.length := by
    rw [← B_len, hBr]; simp
  have hd : ∀ c ∈ B (s.extract pre.length s.size), Pl.ok c ∧ Pl.dgv c < (base : Int) := by
    intro c hc
    rw [hBr] at hc
    refine ⟨hok c hc, ?_⟩
    rcases List.mem_append.1 hc with h | h
    · rw [(List.mem_replicate.1 h).2]
      have : Pl.dgv 48 = 0 := by decide
      omega
    · refine digs_small base x hb2 _ ?_
      rw [← h2]; exact List.mem_map_of_mem h
  -- the first byte behind the opening
  have hr0 : ∃ c r, List.replicate p 48 ++ cs = c :: r ∧ Pl.ok c := by
    cases hq : List.replicate p 48 ++ cs with
    | nil =>
      have := congrArg List.length hq
      rw [List.length_append, List.length_replicate, List.length_nil] at this
      omega
    | cons c r => exact ⟨c, r, rfl, hok c (by rw [hq]; simp)⟩
  obtain ⟨c, r, hcr, hc⟩ := hr0
  have hK : Kind s (s.extract pre.length s.size) (base : Int) := by
    rcases hk with ⟨rfl, rfl⟩ | ⟨rfl, rfl | rfl⟩
    · right; left
      have hz : 1 < s.size := by simp at hsz; omega
      rw [hcr] at hB
      refine ⟨rfl, rfl, hz, B_head s (by omega) 48 _ hB, ?_, ?_⟩
      · rw [B_second s hz 48 c r hB]; unfold Pl.ok at hc; omega
      · rw [B_second s hz 48 c r hB]; unfold Pl.ok at hc; omega
    · right; right
      have hz : 1 < s.size := by simp at hsz; omega
      exact ⟨rfl, rfl, hz, B_head s (by omega) 48 _ hB, .inr (B_second s hz 48 88 _ hB)⟩
    · right; right
      have hz : 1 < s.size := by simp at hsz; omega
      exact ⟨rfl, rfl, hz, B_head s (by omega) 48 _ hB, .inl (B_second s hz 48 120 _ hB)⟩
  have := zzparse_go s (s.extract pre.length s.size) (base : Int) w (by omega) (by omega) hK (by omega) (by omega) hd
  rw [hBr, Pl.read_back base x p cs hb2 hx h1 h2] at this
  exact this

/-- zzWrite, and how what it writes reads -/
theorem write_any (x : Nat) (form pad : Int) (up : Bool) (mask : Int) (w : World) (hx : x < 18446744073709551616) (hf0 : 0 ≤ form) (hf1 : form ≤ 255) (hp0 : 0 ≤ pad) (hp1 : pad ≤ 255) (hm0 : 0 ≤ mask) (hm1 : mask ≤ 18446744073709551615) :
    Calls Try.prog 6 #[.int .u64 (x : Int), .int .u8 form, .int .u8 pad, .bool up, .int .u64 mask] w fun e w' => ∃ s, e = .returned (.string s) ∧ Reads s x ∧ Below w.heap.size w w' := by
  obtain ⟨p, rfl⟩ := Int.eq_ofNat_of_zero_le hp0
  by_cases h0 : form % 3 = 0
  · refine (write_dec x form p up mask w hx hf0 hf1 (by simpa using h0)).mono ?_
    rintro e w' ⟨cs, rfl, h1, h2, hb⟩
    exact ⟨_, rfl, reads_dec x cs hx h1 h2, hb⟩
  · by_cases h2 : form % 3 = 2
    · refine (write_go x 16 p form up mask [48, if up = true then 88 else 120] w hx hf0 hf1 (by omega) hm0 hm1 (by simpa using h0) (.inr ⟨by simpa using h2, rfl, rfl⟩)).mono ?_
      rintro e w' ⟨cs, rfl, h1, h2, hb⟩
      refine ⟨_, rfl, reads_pre x 16 p _ cs hx (by omega) h1 h2 (.inr ⟨rfl, ?_⟩), hb⟩
      cases up <;> simp
    · refine (write_go x 8 p form up mask [48] w hx hf0 hf1 (by omega) hm0 hm1 (by simpa using h0) (.inl ⟨by simpa using h2, rfl, rfl⟩)).mono ?_
      rintro e w' ⟨cs, rfl, h1, h2, hb⟩
      exact ⟨_, rfl, reads_pre x 8 p _ cs hx (by omega) h1 h2 (.inl ⟨rfl, rfl⟩), hb⟩
end Go.Proofs.Qxb6000718a
