/-
  THE PLAIN LAW OF A LINE: what the finder answers over one line is what the line model says. No Go in sight.
-/
import Derived.Test.Qxb6601280aPlain
namespace Go.Proofs.Qxb6601280a.Pl

/-- a digit -/
def dig (c : Int) : Bool := decide (48 ≤ c) && decide (c ≤ 57)
/-- how many blanks it begins with -/
def cB : List Int → Nat
  | [] => 0
  | c :: r => if blk c = true then cB r + 1 else 0
/-- how many digits it begins with -/
def cD : List Int → Nat
  | [] => 0
  | c :: r => if dig c = true then cD r + 1 else 0

/-- behind the digits: the point and the 2 -/
def tl : List Int → Bool
  | c :: e :: _ => c == 46 && e == 50
  | _ => false
/-- zzMinorTwoAt behind the name: l is the whole line -/
def m2b (l : List Int) (j : Nat) : Int :=
  if cD (l.drop j) = 0 then -1 else if tl (l.drop (j + cD (l.drop j))) = true then ((j + cD (l.drop j) + 1 : Nat) : Int) else -1
def m2a (l : List Int) : Int := if cB (l.drop 5) = 0 then -1 else m2b l (5 + cB (l.drop 5))
/-- zzMinorTwoAt -/
def m2 (l : List Int) : Int := if l.take 5 = [37, 89, 65, 77, 76] then m2a l else -1

/-- the three dots, alone or ahead of a blank -/
def ddd : List Int → Bool
  | a :: b :: c :: r => a == 46 && (b == 46 && (c == 46 && (match r with | [] => true | x :: _ => blk x)))
  | _ => false
/-- no content: blanks, and perhaps a comment behind them -/
def bare (l : List Int) : Bool := match l.drop (cB l) with
  | [] => true
  | c :: _ => c == 35
/-- it begins with % -/
def pct : List Int → Bool
  | [] => false
  | c :: _ => c == 37
/-- zzLineEffect -/
def eff (l : List Int) : Int := if ddd l = true then 2 else if l.isEmpty = true ∨ pct l = true then 0 else if bare l = true then 0 else 1

/-- what an effect makes of 'within a document' -/
def newd (d : Bool) (e : Int) : Bool := if e = 1 then true else if e = 2 then false else d

/-- where, over the runes of one line, next answers true -/
def run (d : Bool) : Int → Int → List Int → Option Nat
  | _, _, [] => none
  | st, m, c :: r => if nxG st c = true then some 0 else (run d (nxS d st m c) (nxM d st m c) r).map (· + 1)
/-- the state behind the runes of one line -/
def rs (d : Bool) : Int → Int → List Int → Int × Int
  | st, m, [] => (st, m)
  | st, m, c :: r => rs d (nxS d st m c) (nxM d st m c) r

/-- a byte order mark that is passed over -/
def off (d : Bool) (st : Int) : List Int → Nat
  | [] => 0
  | c :: _ => if d = false ∧ st = 0 ∧ c = 65279 then 1 else 0

/-! ### the states -/

theorem run_dead (d : Bool) : ∀ (r : List Int) (st m : Int), (st = 2 ∨ 7 ≤ st) → run d st m r = none
  | [], _, _, _ => rfl
  | c :: r, st, m, h => by
    have hg : nxG st c = false := by
      unfold nxG; rw [if_neg (by omega)]
    have hs : nxS d st m c = 2 ∨ 7 ≤ nxS d st m c := by
      unfold nxS
      rw [if_neg (by omega)]
      rcases h with h | h
      · subst h; simp only [if_true]; repeat' split <;> omega
      · rw [if_neg (by omega), if_neg (by omega), if_neg (by omega), if_neg (by omega), if_neg (by omega)]
        repeat' split <;> omega
    simp [run, hg, run_dead d r _ _ hs]

theorem run6 (d : Bool) (m : Int) (r : List Int) : run d 6 m r = match r with
    | [] => none
    | c :: _ => if c = 50 then some 0 else none := by
  cases r with
  | nil => rfl
  | cons c r =>
    by_cases h : c = 50
    · simp [run, nxG, h]
    · have hs : nxS d 6 m c = 9 := by simp [nxS]
      simp [run, nxG, h, hs, run_dead d r 9 _ (.inr (by omega))]

theorem run5 (d : Bool) (m : Int) : ∀ r : List Int, run d 5 m r = if tl (r.drop (cD r)) = true then some (cD r + 1) else none
  | [] => rfl
  | c :: r => by
    have hg : nxG 5 c = false := by simp [nxG]
    by_cases hd : dig c = true
    · have hd' := hd
      simp only [dig, Bool.and_eq_true, decide_eq_true_eq] at hd'
      have hs : nxS d 5 m c = 5 := by
        have h1 : ¬ c = 46 := by omega
        have h2 : ¬ (c < 48 ∨ 57 < c) := by omega
        simp [nxS, h1, h2]
      have hm : nxM d 5 m c = m := by simp [nxM]
      have hc : cD (c :: r) = cD r + 1 := by simp [cD, hd]
      rw [hc, List.drop_succ_cons, run, hs, hm, run5 d m r]
      simp only [hg, Bool.false_eq_true, if_false]
      split <;> simp
    · have hd' : ¬ (48 ≤ c ∧ c ≤ 57) := by
        intro h; exact hd (by simp [dig, h])
      have hc : cD (c :: r) = 0 := by simp [cD, hd]
      rw [hc, List.drop_zero]
      by_cases h46 : c = 46
      · subst h46
        have hs : nxS d 5 m 46 = 6 := by simp [nxS]
        simp only [run, hg, hs, Bool.false_eq_true, if_false, run6]
        cases r with
        | nil => simp [tl]
        | cons e r => by_cases h50 : e = 50 <;> simp [tl, h50]
      · have hs : nxS d 5 m c = 9 := by
          have h2 : c < 48 ∨ 57 < c := by omega
          simp [nxS, h46, h2]
        simp only [run, hg, hs, Bool.false_eq_true, if_false, run_dead d r 9 _ (.inr (by omega))]
        cases r with
        | nil => simp [tl]
        | cons e r => simp [tl, h46]

theorem run4 (d : Bool) (m : Int) : ∀ r : List Int, run d 4 m r = if cD (r.drop (cB r)) = 0 then none else if tl (r.drop (cB r + cD (r.drop (cB r)))) = true then some (cB r + cD (r.drop (cB r)) + 1) else none
  | [] => rfl
  | c :: r => by
    have hg : nxG 4 c = false := by simp [nxG]
    have hm : nxM d 4 m c = m := by simp [nxM]
    by_cases hb : blk c = true
    · have hb' := hb
      simp only [blk, Bool.or_eq_true, beq_iff_eq] at hb'
      have h1 : ¬ (48 ≤ c ∧ c ≤ 57) := by omega
      have hs : nxS d 4 m c = 4 := by simp [nxS, h1, hb]
      have hc : cB (c :: r) = cB r + 1 := by simp [cB, hb]
      have e1 : cB r + 1 + cD (r.drop (cB r)) = (cB r + cD (r.drop (cB r))) + 1 := by omega
      rw [hc, List.drop_succ_cons, e1, List.drop_succ_cons, run, hs, hm, run4 d m r]
      simp only [hg, Bool.false_eq_true, if_false]
      split
      · rfl
      · split <;> simp
    · have hc : cB (c :: r) = 0 := by simp [cB, hb]
      rw [hc, List.drop_zero, Nat.zero_add]
      by_cases hd : dig c = true
      · have hd' := hd
        simp only [dig, Bool.and_eq_true, decide_eq_true_eq] at hd'
        have hs : nxS d 4 m c = 5 := by simp [nxS, hd'.1, hd'.2]
        have hcd : cD (c :: r) = cD r + 1 := by simp [cD, hd]
        have h0 : ¬ (cD r + 1 = 0) := by omega
        rw [hcd, List.drop_succ_cons, run, hs, hm, run5 d m r, if_neg h0]
        simp only [hg, Bool.false_eq_true, if_false]
        split <;> simp
      · have hd' : ¬ (48 ≤ c ∧ c ≤ 57) := by
          intro h; exact hd (by simp [dig, h])
        have hs : nxS d 4 m c = 9 := by simp [nxS, hd', hb]
        have hcd : cD (c :: r) = 0 := by simp [cD, hd]
        simp only [run, hg, hs, Bool.false_eq_true, if_false, run_dead d r 9 _ (.inr (by omega)), hcd, if_true]
        rfl

theorem run35 (d : Bool) (r : List Int) : run d 3 5 r = if cB r = 0 then none else if cD (r.drop (cB r)) = 0 then none else if tl (r.drop (cB r + cD (r.drop (cB r)))) = true then some (cB r + cD (r.drop (cB r)) + 1) else none := by
  cases r with
  | nil => rfl
  | cons c r =>
    have hg : nxG 3 c = false := by simp [nxG]
    by_cases hb : blk c = true
    · have hs : nxS d 3 5 c = 4 := by simp [nxS, hb]
      have hm : nxM d 3 5 c = 5 := by simp [nxM, hb]
      have hc : cB (c :: r) = cB r + 1 := by simp [cB, hb]
      have e1 : cB r + 1 + cD (r.drop (cB r)) = (cB r + cD (r.drop (cB r))) + 1 := by omega
      have h0 : ¬ (cB r + 1 = 0) := by omega
      rw [hc, List.drop_succ_cons, e1, List.drop_succ_cons, run, hs, hm, run4 d 5 r, if_neg h0]
      simp only [hg, Bool.false_eq_true, if_false]
      split
      · rfl
      · split <;> simp
    · have hc : cB (c :: r) = 0 := by simp [cB, hb]
      have hs : nxS d 3 5 c = 9 := by simp [nxS, hb]
      simp only [run, hg, hs, Bool.false_eq_true, if_false, run_dead d r 9 _ (.inr (by omega)), hc, if_true]
      rfl

/-- one character of the name -/
theorem run3 (d : Bool) (m : Int) (hm : 0 ≤ m ∧ m < 5) (r : List Int) : run d 3 m r = match r with
    | [] => none
    | c :: r => if c = nam m then (run d 3 (m + 1) r).map (· + 1) else none := by
  cases r with
  | nil => rfl
  | cons c r =>
    have hg : nxG 3 c = false := by simp [nxG]
    have h5 : ¬ m = 5 := by omega
    by_cases hc : c = nam m
    · have hs : nxS d 3 m c = 3 := by simp [nxS, h5, hc, hm.2]
      have hn : nxM d 3 m c = m + 1 := by simp [nxM, h5, hc, hm.2]
      simp only [run, hg, Bool.false_eq_true, if_false, hs, hn]
      rw [if_pos hc]
    · have hs : nxS d 3 m c = 9 := by simp [nxS, h5, hc]
      simp only [run, hg, Bool.false_eq_true, if_false, hs, run_dead d r 9 _ (.inr (by omega))]
      rw [if_neg hc]; rfl

theorem run31 (d : Bool) (r : List Int) : run d 3 1 r = if r.take 4 = [89, 65, 77, 76] then (run d 3 5 (r.drop 4)).map (· + 4) else none := by
  have n1 : nam 1 = 89 := by decide
  have n2 : nam 2 = 65 := by decide
  have n3 : nam 3 = 77 := by decide
  have n4 : nam 4 = 76 := by decide
  match r with
  | [] => rfl
  | [a] =>
    by_cases ha : a = 89 <;> simp [run3, n1, ha]
  | [a, b] =>
    by_cases ha : a = 89 <;> by_cases hb : b = 65 <;> simp [run3, n1, n2, ha, hb]
  | [a, b, c] =>
    by_cases ha : a = 89 <;> by_cases hb : b = 65 <;> by_cases hc : c = 77 <;> simp [run3, n1, n2, n3, ha, hb, hc]
  | a :: b :: c :: e :: r =>
    by_cases ha : a = 89
    · by_cases hb : b = 65
      · by_cases hc : c = 77
        · by_cases he : e = 76
          · have e2 : ∀ o : Option Nat, (((o.map (· + 1)).map (· + 1)).map (· + 1)).map (· + 1) = o.map (· + 4) := by
              intro o; cases o <;> rfl
            simp only [run3 d 1 (by omega), n1, ha, if_true, show (1 : Int) + 1 = 2 from rfl, run3 d 2 (by omega), n2, hb, show (2 : Int) + 1 = 3 from rfl, run3 d 3 (by omega), n3, hc, show (3 : Int) + 1 = 4 from rfl, run3 d 4 (by omega), n4, he, show (4 : Int) + 1 = 5 from rfl, e2, List.take_succ_cons, List.take_zero, List.drop_succ_cons, List.drop_zero]
          · simp [run3, n1, n2, n3, n4, ha, hb, hc, he]
        · simp [run3, n1, n2, n3, ha, hb, hc]
      · simp [run3, n1, n2, ha, hb]
    · simp [run3, n1, ha]

/-- nothing is answered: as the model writes it -/
def tow (o : Option Nat) : Int := match o with
  | none => -1
  | some p => (p : Int)

theorem tow_map (o : Option Nat) (k : Nat) : tow (o.map (· + k)) = if tow o < 0 then -1 else tow o + k := by
  cases o with
  | none => rfl
  | some p =>
    have h : ¬ tow (some p) < 0 := by show ¬ ((p : Int) < 0); omega
    rw [if_neg h]
    show ((p + k : Nat) : Int) = (p : Int) + (k : Int)
    omega

/-- the line's first character is % -/
theorem run_pct (d : Bool) (r : List Int) : tow ((run d 3 1 r).map (· + 1)) = m2 (37 :: r) := by
  rw [run31]
  by_cases h : r.take 4 = [89, 65, 77, 76]
  · have h5 : (37 :: r).take 5 = [37, 89, 65, 77, 76] := by rw [List.take_succ_cons, h]
    rw [if_pos h, m2, if_pos h5, m2a, List.drop_succ_cons, run35]
    have hd : ∀ k, r.drop (4 + k) = (r.drop 4).drop k := fun k => by rw [List.drop_drop]
    generalize r.drop 4 = q at hd
    by_cases h1 : cB q = 0
    · simp [h1, tow]
    · have e1 : 5 + cB q = (4 + cB q) + 1 := by omega
      rw [if_neg h1, if_neg h1, m2b, e1, List.drop_succ_cons, hd]
      by_cases h2 : cD (q.drop (cB q)) = 0
      · simp [h2, tow]
      · have e2 : 4 + cB q + 1 + cD (q.drop (cB q)) = (4 + (cB q + cD (q.drop (cB q)))) + 1 := by omega
        rw [if_neg h2, if_neg h2, e2, List.drop_succ_cons, hd]
        by_cases h3 : tl (q.drop (cB q + cD (q.drop (cB q)))) = true
        · rw [if_pos h3, if_pos h3]; simp only [Option.map_some, tow]; omega
        · rw [if_neg h3, if_neg h3]; rfl
  · have h5 : ¬ (37 :: r).take 5 = [37, 89, 65, 77, 76] := by
      rw [List.take_succ_cons]; intro e; exact h (by simpa using e)
    rw [if_neg h, m2, if_neg h5]; rfl

theorem m2_no (c : Int) (r : List Int) (h : c ≠ 37) : m2 (c :: r) = -1 := by
  have h5 : ¬ (c :: r).take 5 = [37, 89, 65, 77, 76] := by
    rw [List.take_succ_cons]; intro e; simp at e; exact h e.1
  rw [m2, if_neg h5]

/-- a line that is opened at a line start, or at the stream's start where no mark is passed over -/
theorem run_open (d : Bool) (st m : Int) (l : List Int) (hst : st = 0 ∨ st = 1) (h0 : off d st l = 0) : tow (run d st m l) = m2 l := by
  cases l with
  | nil => simp [run, tow, m2]
  | cons c r =>
    have hg : nxG st c = false := by unfold nxG; rw [if_neg (by omega)]
    have hs : nxS d st m c = slS d st c := by unfold nxS; rw [if_pos hst]
    have hm : nxM d st m c = slM d st m c := by unfold nxM; rw [if_pos hst]
    by_cases hc : c = 37
    · subst hc
      have e1 : slS d st 37 = 3 := by simp [slS]
      have e2 : slM d st m 37 = 1 := by simp [slM]
      rw [run, hs, hm, e1, e2]
      simp only [hg, Bool.false_eq_true, if_false]
      exact run_pct d r
    · rw [m2_no c r hc]
      have hx : slS d st c = 2 ∨ 7 ≤ slS d st c := by
        unfold slS
        by_cases c1 : d = true ∧ c ≠ 46 ∧ c ≠ 37
        · rw [if_pos c1]; omega
        rw [if_neg c1]
        by_cases c2 : st = 0 ∧ c = 65279
        · exfalso
          have hd : d = false := by
            cases d
            · rfl
            · exact absurd ⟨rfl, by omega, hc⟩ c1
          simp [off, hd, c2.1, c2.2] at h0
        rw [if_neg c2, if_neg hc]
        repeat' split <;> omega
      simp only [run, hg, hs, Bool.false_eq_true, if_false, run_dead d r _ _ hx]
      rfl

/-- THE PLAIN LAW OF A LINE, its answers -/
theorem run_line (d : Bool) (st m : Int) (l : List Int) (hst : st = 0 ∨ st = 1) :
    tow (run d st m l) = if m2 (l.drop (off d st l)) < 0 then -1 else m2 (l.drop (off d st l)) + (off d st l : Nat) := by
  by_cases h0 : off d st l = 0
  · rw [run_open d st m l hst h0, h0, List.drop_zero]
    have hlo : -1 ≤ m2 l := by
      unfold m2 m2a m2b
      repeat' split <;> try omega
    split <;> omega
  · cases l with
    | nil => simp [off] at h0
    | cons c r =>
      have hc : d = false ∧ st = 0 ∧ c = 65279 := by
        by_cases h : d = false ∧ st = 0 ∧ c = 65279
        · exact h
        · simp [off, h] at h0
      obtain ⟨rfl, rfl, rfl⟩ := hc
      have e0 : off false 0 (65279 :: r) = 1 := by simp [off]
      have hg : nxG 0 65279 = false := by simp [nxG]
      have hs : nxS false 0 m 65279 = 1 := by simp [nxS, slS]
      have hm : nxM false 0 m 65279 = m := by simp [nxM, slM]
      have ho : off false 1 r = 0 := by cases r <;> simp [off]
      rw [e0, run, hs, hm]
      simp only [hg, Bool.false_eq_true, if_false, List.drop_succ_cons, List.drop_zero]
      rw [tow_map, run_open false 1 m r (.inr rfl) ho]

/-! ### what a line makes of 'within a document' -/

theorem rs_far (d : Bool) : ∀ (l : List Int) (st m : Int), 8 ≤ st → rs d st m l = (st, m)
  | [], _, _, _ => rfl
  | c :: r, st, m, h => by
    have hs : nxS d st m c = st := by
      unfold nxS
      rw [if_neg (by omega), if_neg (by omega), if_neg (by omega), if_neg (by omega), if_neg (by omega), if_neg (by omega), if_neg (by omega)]
    have hm : nxM d st m c = m := by
      unfold nxM
      rw [if_neg (by omega), if_neg (by omega), if_neg (by omega)]
    rw [rs, hs, hm, rs_far d r st m h]

/-- a directive's line -/
theorem rs_dir (d : Bool) : ∀ (l : List Int) (st m : Int), (3 ≤ st ∧ st ≤ 6 ∨ st = 9) → 3 ≤ (rs d st m l).1 ∧ (rs d st m l).1 ≤ 6 ∨ (rs d st m l).1 = 9
  | [], _, _, h => h
  | c :: r, st, m, h => by
    rw [rs]
    refine rs_dir d r _ _ ?_
    unfold nxS
    rw [if_neg (by omega), if_neg (by omega)]
    repeat' split <;> omega

theorem el_10 (d : Bool) (m : Int) : elD d 10 m = true := by simp [elD]
theorem el_8 (d : Bool) (m : Int) : elD d 8 m = false := by simp [elD]
theorem el_keep (d : Bool) (st m : Int) (h : st ≠ 7 ∧ st ≠ 8 ∧ st ≠ 10) : elD d st m = d := by simp [elD, h.1, h.2.1, h.2.2]

/-- how a line ends, said of its state -/
def ends (d : Bool) (st m : Int) (l : List Int) : Bool := elD d (rs d st m l).1 (rs d st m l).2

theorem ends_far (d : Bool) (st m : Int) (l : List Int) (h : 8 ≤ st) : ends d st m l = elD d st m := by
  rw [ends, rs_far d l st m h]
theorem ends_cons (d : Bool) (st m c : Int) (r : List Int) : ends d st m (c :: r) = ends d (nxS d st m c) (nxM d st m c) r := rfl
theorem ends_dir (d : Bool) (st m : Int) (l : List Int) (h : 3 ≤ st ∧ st ≤ 6 ∨ st = 9) : ends d st m l = d := by
  have := rs_dir d l st m h
  exact el_keep d _ _ (by omega)

theorem ends_blank (d : Bool) (m : Int) : ∀ l : List Int, ends d 2 m l = if bare l = true then d else true
  | [] => by simp [ends, rs, bare, cB, elD]
  | c :: r => by
    have hm : nxM d 2 m c = m := by simp [nxM]
    rw [ends_cons, hm]
    by_cases hb : blk c = true
    · have h35 : ¬ c = 35 := by
        simp only [blk, Bool.or_eq_true, beq_iff_eq] at hb; omega
      have hs : nxS d 2 m c = 2 := by simp [nxS, h35, hb]
      have hbr : bare (c :: r) = bare r := by simp [bare, cB, hb]
      rw [hs, hbr, ends_blank d m r]
    · have hcb : cB (c :: r) = 0 := by simp [cB, hb]
      have hbr : bare (c :: r) = (c == 35) := by simp [bare, hcb]
      rw [hbr]
      by_cases h35 : c = 35
      · have hs : nxS d 2 m c = 9 := by simp [nxS, h35]
        rw [hs, ends_far d 9 m r (by omega), el_keep d 9 m (by omega)]
        simp [h35]
      · have hs : nxS d 2 m c = 10 := by simp [nxS, h35, hb]
        rw [hs, ends_far d 10 m r (by omega), el_10]
        simp [h35]

/-- behind one dot, two dots, three dots -/
theorem ends_73 (d : Bool) (l : List Int) : ends d 7 3 l = match l with
    | [] => false
    | x :: _ => !blk x := by
  cases l with
  | nil => simp [ends, rs, elD]
  | cons x r =>
    rw [ends_cons]
    by_cases hb : blk x = true
    · have hs : nxS d 7 3 x = 8 := by simp [nxS, hb]
      rw [hs, ends_far d 8 _ r (by omega), el_8]; simp [hb]
    · have hs : nxS d 7 3 x = 10 := by simp [nxS, hb]
      rw [hs, ends_far d 10 _ r (by omega), el_10]; simp [hb]
theorem ends_7 (d : Bool) (m : Int) (hm : m < 3) (l : List Int) : ends d 7 m l = match l with
    | [] => true
    | x :: r => if x = 46 then ends d 7 (m + 1) r else true := by
  cases l with
  | nil => simp [ends, rs, elD, hm]
  | cons x r =>
    have h3 : ¬ m = 3 := by omega
    rw [ends_cons]
    by_cases hx : x = 46
    · have hs : nxS d 7 m x = 7 := by simp [nxS, h3, hx, hm]
      have hn : nxM d 7 m x = m + 1 := by simp [nxM, h3, hx, hm]
      rw [hs, hn]; simp [hx]
    · have hs : nxS d 7 m x = 10 := by simp [nxS, h3, hx]
      rw [hs, ends_far d 10 _ r (by omega), el_10]; simp [hx]

theorem blk_facts (c : Int) (h : blk c = true) : c = 32 ∨ c = 9 := by
  simpa [blk] using h

theorem ends_dot (d : Bool) (r : List Int) : ends d 7 1 r = newd d (eff (46 :: r)) := by
  have hb46 : blk 46 = false := by decide
  have hcb : cB (46 :: r) = 0 := by simp [cB, hb46]
  have hbare : bare (46 :: r) = false := by simp [bare, hcb]
  have hpct : pct (46 :: r) = false := by simp [pct]
  have key : newd d (eff (46 :: r)) = !ddd (46 :: r) := by
    unfold eff
    cases ddd (46 :: r)
    · simp [hpct, hbare, newd]
    · simp [newd]
  rw [key, ends_7 d 1 (by omega)]
  match r with
  | [] => simp [ddd]
  | [b] =>
    by_cases hb : b = 46
    · simp only [hb, if_true, ends_7 d (1 + 1) (by omega)]; simp [ddd]
    · simp [hb, ddd]
  | b :: c :: r =>
    by_cases hb : b = 46
    · simp only [hb, if_true, ends_7 d (1 + 1) (by omega)]
      by_cases hc : c = 46
      · simp only [hc, if_true, show (1 : Int) + 1 + 1 = 3 from rfl, ends_73]
        cases r with
        | nil => simp [ddd]
        | cons x r => simp [ddd]
      · simp [hc, ddd]
    · simp [hb, ddd]

theorem ddd_no (c : Int) (r : List Int) (h : c ≠ 46) : ddd (c :: r) = false := by
  match r with
  | [] => rfl
  | [b] => rfl
  | b :: e :: r => simp [ddd, h]

theorem ends_open (d : Bool) (st m : Int) (l : List Int) (hst : st = 0 ∨ st = 1) (h0 : off d st l = 0) : ends d st m l = newd d (eff l) := by
  cases l with
  | nil =>
    have : eff [] = 0 := by simp [eff, ddd]
    rw [this]
    show elD d st m = _
    rw [el_keep d st m (by omega)]; simp [newd]
  | cons c r =>
    have hs : nxS d st m c = slS d st c := by unfold nxS; rw [if_pos hst]
    have hm : nxM d st m c = slM d st m c := by unfold nxM; rw [if_pos hst]
    rw [ends_cons, hs, hm]
    by_cases h37 : c = 37
    · subst h37
      have e1 : slS d st 37 = 3 := by simp [slS]
      rw [e1, ends_dir d 3 _ r (by omega)]
      have : eff (37 :: r) = 0 := by simp [eff, ddd_no, pct]
      rw [this]; simp [newd]
    · by_cases h46 : c = 46
      · subst h46
        have e1 : slS d st 46 = 7 := by simp [slS]
        have e2 : slM d st m 46 = 1 := by simp [slM]
        rw [e1, e2]
        exact ends_dot d r
      · have hdd := ddd_no c r h46
        have hpc : pct (c :: r) = false := by simpa [pct] using h37
        have heff : eff (c :: r) = if bare (c :: r) = true then 0 else 1 := by simp [eff, hdd, hpc]
        cases d with
        | true =>
          have e1 : slS true st c = 10 := by simp [slS, h37, h46]
          rw [e1, ends_far true 10 _ r (by omega), el_10, heff]
          split <;> simp [newd]
        | false =>
          have hno : ¬ (st = 0 ∧ c = 65279) := by
            intro h
            simp [off, h.1, h.2] at h0
          have e0 : slS false st c = if c = 35 then 9 else if blk c = true then 2 else 10 := by
            simp [slS, h37, h46, hno]
          rw [heff, e0]
          by_cases h35 : c = 35
          · have hbr : bare (c :: r) = true := by
              have hb : blk c = false := by rw [h35]; decide
              have hcb : cB (c :: r) = 0 := by simp [cB, hb]
              rw [bare, hcb, List.drop_zero]
              simpa using h35
            rw [if_pos h35, ends_far false 9 _ r (by omega), el_keep false 9 _ (by omega), if_pos hbr]
            simp [newd]
          · rw [if_neg h35]
            by_cases hb : blk c = true
            · have hbr : bare (c :: r) = bare r := by simp [bare, cB, hb]
              rw [if_pos hb, ends_blank, hbr]
              split <;> simp [newd]
            · have hcb : cB (c :: r) = 0 := by simp [cB, hb]
              have hbr : bare (c :: r) = false := by simp [bare, hcb, h35]
              rw [if_neg hb, ends_far false 10 _ r (by omega), el_10, hbr]
              simp [newd]

/-- THE PLAIN LAW OF A LINE, 'within a document' at its break -/
theorem ends_line (d : Bool) (st m : Int) (l : List Int) (hst : st = 0 ∨ st = 1) : ends d st m l = newd d (eff (l.drop (off d st l))) := by
  by_cases h0 : off d st l = 0
  · rw [h0, List.drop_zero]; exact ends_open d st m l hst h0
  · cases l with
    | nil => simp [off] at h0
    | cons c r =>
      have hc : d = false ∧ st = 0 ∧ c = 65279 := by
        by_cases h : d = false ∧ st = 0 ∧ c = 65279
        · exact h
        · simp [off, h] at h0
      obtain ⟨rfl, rfl, rfl⟩ := hc
      have e0 : off false 0 (65279 :: r) = 1 := by simp [off]
      have hs : nxS false 0 m 65279 = 1 := by simp [nxS, slS]
      have hm : nxM false 0 m 65279 = m := by simp [nxM, slM]
      have ho : off false 1 r = 0 := by cases r <;> simp [off]
      rw [e0, ends_cons, hs, hm]
      simp only [List.drop_succ_cons, List.drop_zero]
      exact ends_open false 1 m r (.inr rfl) ho

end Go.Proofs.Qxb6601280a.Pl
