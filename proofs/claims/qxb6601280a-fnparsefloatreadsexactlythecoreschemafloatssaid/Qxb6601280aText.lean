/-
  PLAIN FUNCTIONS ON TEXTS (lists of bytes): no Go in sight. What unsigned, digitsEnd, parseFloat and the model compute.
-/
namespace Go.Proofs.Qxb6601280a.Tx

/-- a digit -/
def isD (c : UInt8) : Bool := decide (48 ≤ (c.toNat : Int)) && decide ((c.toNat : Int) ≤ 57)
/-- e or E -/
def isE (c : UInt8) : Bool := (c.toNat : Int) == 101 || (c.toNat : Int) == 69
/-- a sign -/
def isS (c : UInt8) : Bool := (c.toNat : Int) == 45 || (c.toNat : Int) == 43
/-- the point -/
def isP (c : UInt8) : Bool := (c.toNat : Int) == 46

/-- a text as a string's bytes -/
def S (l : List UInt8) : ByteArray := ⟨l.toArray⟩
/-- a string's bytes as a text -/
def L (s : ByteArray) : List UInt8 := s.data.toList

theorem S_L (s : ByteArray) : S (L s) = s := rfl
theorem L_S (l : List UInt8) : L (S l) = l := rfl
theorem size_L (s : ByteArray) : s.size = (L s).length := rfl
theorem size_S (l : List UInt8) : (S l).size = l.length := by simp [S, ByteArray.size]

theorem get_L (s : ByteArray) (k : Nat) (h : k < s.size) : (L s).drop k = s[k] :: (L s).drop (k + 1) := by
  have h' : k < (L s).length := h
  rw [List.drop_eq_getElem_cons h']
  rfl

theorem extract_L (s : ByteArray) (a b : Nat) : L (s.extract a b) = ((L s).drop a).take (b - a) := by
  simp [L, List.extract_eq_take_drop]

theorem extract_S (s : ByteArray) (a b : Nat) : s.extract a b = S (((L s).drop a).take (b - a)) := by
  rw [← extract_L, S_L]

/-- without its sign -/
def uns : List UInt8 → List UInt8
  | [] => []
  | c :: r => if isS c = true then r else c :: r
/-- it begins with a minus sign -/
def neg : List UInt8 → Bool
  | [] => false
  | c :: _ => (c.toNat : Int) == 45
/-- how many digits it begins with -/
def cnt : List UInt8 → Nat
  | [] => 0
  | c :: r => if isD c = true then cnt r + 1 else 0
theorem cnt_le : ∀ l : List UInt8, cnt l ≤ l.length
  | [] => Nat.le_refl _
  | c :: r => by
    have := cnt_le r
    simp only [cnt, List.length_cons]
    split <;> omega

/-! ### the reading -/

/-- what a reading gives -/
structure FT where
  ok : Bool
  neg : Bool
  w : List UInt8
  f : List UInt8
  x : List UInt8

/-- nothing read -/
def zero : FT := ⟨false, false, [], [], []⟩

/-- behind the whole digits: the fraction, and what is left -/
def fr : List UInt8 → List UInt8 × List UInt8
  | [] => ([], [])
  | c :: r => if isP c = true then (r.take (cnt r), r.drop (cnt r)) else ([], c :: r)

/-- 1 at a sign -/
def sgn : List UInt8 → Nat
  | [] => 0
  | c :: _ => if isS c = true then 1 else 0

/-- the exponent, and what is left; none: an e or E with no digits behind it -/
def ex : List UInt8 → Option (List UInt8 × List UInt8)
  | [] => some ([], [])
  | c :: r => if isE c = true then (if cnt (r.drop (sgn r)) = 0 then none else some (c :: r.take (sgn r + cnt (r.drop (sgn r))), r.drop (sgn r + cnt (r.drop (sgn r))))) else some ([], c :: r)

/-- the tail of the reading -/
def fin (ng : Bool) (w f : List UInt8) (t : List UInt8) : FT :=
  match ex t with
  | none => zero
  | some y => ⟨y.2.isEmpty, ng, w, f, y.1⟩

/-- parseFloat -/
def parse (l : List UInt8) : FT :=
  if (uns l).take (cnt (uns l)) = [] ∧ (fr ((uns l).drop (cnt (uns l)))).1 = [] then zero else
  fin (neg l) ((uns l).take (cnt (uns l))) (fr ((uns l).drop (cnt (uns l)))).1 (fr ((uns l).drop (cnt (uns l)))).2

/-! ### the model -/

/-- how many bytes stand ahead of the first e or E -/
def cE : List UInt8 → Nat
  | [] => 0
  | c :: r => if isE c = true then 0 else cE r + 1

/-- digits with at most one point: where the point stands (-1: nowhere) -/
def scan : List UInt8 → Int → Nat → Option Int
  | [], d, _ => some d
  | c :: r, d, k => if isP c = true then (if 0 ≤ d then none else scan r (k : Int) (k + 1)) else if isD c = true then scan r d (k + 1) else none

/-- digits alone -/
def alD : List UInt8 → Bool
  | [] => true
  | c :: r => isD c && alD r

/-- the exponent is well formed -/
def okX : List UInt8 → Bool
  | [] => true
  | _ :: r => if sgn r = r.length then false else alD (r.drop (sgn r))

/-- behind the mantissa -/
def mfin (ng : Bool) (mant exp : List UInt8) (d : Int) : FT :=
  if 0 ≤ d then
    (if mant.take d.toNat = [] ∧ mant.drop (d.toNat + 1) = [] then zero else if okX exp = true then ⟨true, ng, mant.take d.toNat, mant.drop (d.toNat + 1), exp⟩ else zero)
  else
    (if mant = [] then zero else if okX exp = true then ⟨true, ng, mant, [], exp⟩ else zero)

/-- zzFloatModel -/
def model (l : List UInt8) : FT :=
  match scan ((uns l).take (cE (uns l))) (-1) 0 with
  | none => zero
  | some d => mfin (neg l) ((uns l).take (cE (uns l))) ((uns l).drop (cE (uns l))) d

/-! ### plain facts -/

theorem D_notE {c : UInt8} (h : isD c = true) : isE c = false := by
  simp [isD, isE] at *; omega
theorem D_notP {c : UInt8} (h : isD c = true) : isP c = false := by
  simp [isD, isP] at *; omega
theorem D_notS {c : UInt8} (h : isD c = true) : isS c = false := by
  simp [isD, isS] at *; omega
theorem E_notP {c : UInt8} (h : isE c = true) : isP c = false := by
  simp [isE, isP] at *; omega
theorem P_notE {c : UInt8} (h : isP c = true) : isE c = false := by
  simp [isE, isP] at *; omega
theorem P_notS {c : UInt8} (h : isP c = true) : isS c = false := by
  simp [isS, isP] at *; omega
theorem P_notD {c : UInt8} (h : isP c = true) : isD c = false := by
  simp [isD, isP] at *; omega
theorem E_notS {c : UInt8} (h : isE c = true) : isS c = false := by
  simp [isS, isE] at *; omega
theorem S_notE {c : UInt8} (h : isS c = true) : isE c = false := by
  simp [isS, isE] at *; omega
theorem S_notD {c : UInt8} (h : isS c = true) : isD c = false := by
  simp [isS, isD] at *; omega

theorem alD_take : ∀ l : List UInt8, alD (l.take (cnt l)) = true
  | [] => rfl
  | c :: r => by
    unfold cnt
    by_cases h : isD c = true
    · rw [if_pos h]; simp [alD, h, alD_take r]
    · rw [if_neg h]; rfl
theorem cnt_drop : ∀ l : List UInt8, cnt (l.drop (cnt l)) = 0
  | [] => rfl
  | c :: r => by
    by_cases h : isD c = true
    · have e : cnt (c :: r) = cnt r + 1 := by simp [cnt, h]
      rw [e]; exact cnt_drop r
    · have e : cnt (c :: r) = 0 := by simp [cnt, h]
      rw [e]; exact e
theorem cnt_app : ∀ (w t : List UInt8), alD w = true → cnt (w ++ t) = w.length + cnt t
  | [], t, _ => by simp
  | c :: r, t, h => by
    simp [alD] at h
    simp only [List.cons_append, cnt, h.1, if_true, cnt_app r t h.2, List.length_cons]
    omega
theorem cnt_alD (l : List UInt8) (h : alD l = true) : cnt l = l.length := by
  have := cnt_app l [] h
  simpa [cnt] using this
theorem alD_cnt : ∀ l : List UInt8, cnt l = l.length → alD l = true
  | [], _ => rfl
  | c :: r, h => by
    simp only [cnt, List.length_cons] at h
    by_cases hd : isD c = true
    · rw [if_pos hd] at h; simp [alD, hd, alD_cnt r (by omega)]
    · rw [if_neg hd] at h; omega
theorem cE_app : ∀ (w t : List UInt8), alD w = true → cE (w ++ t) = w.length + cE t
  | [], t, _ => by simp
  | c :: r, t, h => by
    simp [alD] at h
    simp only [List.cons_append, cE, D_notE h.1, cE_app r t h.2, List.length_cons, Bool.false_eq_true, if_false]
    omega
theorem scan_app : ∀ (w t : List UInt8) (d : Int) (k : Nat), alD w = true → scan (w ++ t) d k = scan t d (k + w.length)
  | [], t, d, k, _ => by simp
  | c :: r, t, d, k, h => by
    simp [alD] at h
    simp only [List.cons_append, scan, D_notP h.1, h.1, scan_app r t d (k + 1) h.2, List.length_cons, Bool.false_eq_true, if_false, if_true]
    congr 1
    omega
theorem cnt_zero {c : UInt8} {r : List UInt8} (h : cnt (c :: r) = 0) : isD c = false := by
  unfold cnt at h
  by_cases hd : isD c = true
  · rw [if_pos hd] at h; omega
  · simpa using hd

theorem alD_cons {c : UInt8} {r : List UInt8} : alD (c :: r) = (isD c && alD r) := rfl

/-- the exponent's two readings agree -/
theorem okX_ex (ng : Bool) (w f : List UInt8) : ∀ t : List UInt8, (∀ c r, t = c :: r → isE c = true) →
    (if okX t = true then (⟨true, ng, w, f, t⟩ : FT) else zero) = if (fin ng w f t).ok = true then fin ng w f t else zero
  | [], _ => by simp [okX, fin, ex]
  | c :: r, h => by
    have hc := h c r rfl
    have hle : sgn r ≤ r.length := by
      cases r with
      | nil => simp [sgn]
      | cons a r => simp only [sgn, List.length_cons]; split <;> omega
    have hl : (r.drop (sgn r)).length = r.length - sgn r := List.length_drop ..
    by_cases h1 : sgn r = r.length
    · have h0 : cnt (r.drop (sgn r)) = 0 := by rw [h1]; simp [cnt]
      simp [okX, h1, fin, ex, hc, cnt, zero]
    · by_cases h2 : alD (r.drop (sgn r)) = true
      · have h3 := cnt_alD _ h2
        have h4 : sgn r + cnt (r.drop (sgn r)) = r.length := by omega
        have h5 : ¬ cnt (r.drop (sgn r)) = 0 := by omega
        simp [okX, h1, h2, fin, ex, hc, h4, h5]
      · have h3 : cnt (r.drop (sgn r)) ≠ (r.drop (sgn r)).length := fun e => h2 (alD_cnt _ e)
        have h4 := cnt_le (r.drop (sgn r))
        have h5 : ¬ r.length ≤ sgn r + cnt (r.drop (sgn r)) := by omega
        simp only [okX, h1, if_false, h2, fin, ex, hc, if_true]
        by_cases h0 : cnt (r.drop (sgn r)) = 0
        · simp [h0, zero]
        · simp [h0, h5]

theorem zero_ok : zero.ok = false := rfl

/-- the parse of what stands behind the sign: w, its digits; t, what follows them -/
def pcore (ng : Bool) (w t : List UInt8) : FT := if w = [] ∧ (fr t).1 = [] then zero else fin ng w (fr t).1 (fr t).2
/-- the model of the same -/
def mcore (ng : Bool) (w t : List UInt8) : FT :=
  match scan (t.take (cE t)) (-1) w.length with
  | none => zero
  | some d => mfin ng (w ++ t.take (cE t)) (t.drop (cE t)) d

theorem law_core (ng : Bool) (w t : List UInt8) (ht : cnt t = 0) :
    mcore ng w t = if (pcore ng w t).ok = true then pcore ng w t else zero := by
  cases t with
  | nil =>
    by_cases h : w = []
    · subst h; simp [mcore, scan, mfin, pcore, fr, cE]
    · simp [mcore, scan, mfin, pcore, fr, cE, h, okX, fin, ex]
  | cons c r =>
    have hD := cnt_zero ht
    by_cases hE : isE c = true
    · have hP := E_notP hE
      have hfr : fr (c :: r) = ([], c :: r) := by simp [fr, hP]
      have hk := okX_ex ng w [] (c :: r) (fun c' r' h => by cases h; exact hE)
      simp only [mcore, pcore, cE, hE, if_true, List.take_zero, scan, List.drop_zero, List.append_nil, mfin, hfr]
      have hneg : ¬ (0 : Int) ≤ -1 := by omega
      rw [if_neg hneg]
      by_cases h : w = []
      · simp [h, zero_ok]
      · simp only [h, if_false, false_and]
        exact hk
    · by_cases hP : isP c = true
      · -- the point
        have hfr : fr (c :: r) = (r.take (cnt r), r.drop (cnt r)) := by simp [fr, hP]
        have hcE : cE (c :: r) = cE r + 1 := by simp [cE, hE]
        have hf := alD_take r
        have h3 := cnt_drop r
        have hr : r = r.take (cnt r) ++ r.drop (cnt r) := (List.take_append_drop _ _).symm
        generalize r.take (cnt r) = f at *
        generalize r.drop (cnt r) = r3 at *
        subst hr
        have hcE2 := cE_app f r3 hf
        have ht1 : (c :: (f ++ r3)).take (cE (c :: (f ++ r3))) = c :: (f ++ r3.take (cE r3)) := by
          rw [hcE, hcE2, List.take_succ_cons, List.take_append, List.take_of_length_le (by omega)]
          congr 3; omega
        have ht2 : (c :: (f ++ r3)).drop (cE (c :: (f ++ r3))) = r3.drop (cE r3) := by
          rw [hcE, hcE2, List.drop_succ_cons, List.drop_append, List.drop_of_length_le (by omega), List.nil_append]
          congr 1; omega
        have hsc : scan (c :: (f ++ r3.take (cE r3))) (-1) w.length = scan (r3.take (cE r3)) (w.length : Int) (w.length + 1 + f.length) := by
          have hneg : ¬ (0 : Int) ≤ -1 := by omega
          rw [scan, if_pos hP, if_neg hneg, scan_app _ _ _ _ hf]
        unfold mcore pcore
        rw [ht1, ht2, hsc, hfr]
        have hw0 : (0 : Int) ≤ (w.length : Int) := by omega
        cases r3 with
        | nil =>
          simp only [cE, List.take_nil, scan, List.append_nil, List.drop_nil, mfin, hw0, if_true, Int.toNat_natCast]
          have e1 : (w ++ c :: f).take w.length = w := by simp
          have e2 : (w ++ c :: f).drop (w.length + 1) = f := by simp [List.drop_append]
          rw [e1, e2]
          by_cases h : w = [] ∧ f = []
          · simp [h, zero_ok]
          · simp only [h, if_false, okX, if_true, fin, ex, List.isEmpty_nil]
        | cons c3 r4 =>
          have hD3 := cnt_zero h3
          by_cases hE3 : isE c3 = true
          · have hk := okX_ex ng w f (c3 :: r4) (fun c' r' h => by cases h; exact hE3)
            have h0 : cE (c3 :: r4) = 0 := by simp [cE, hE3]
            simp only [h0, List.take_zero, scan, List.append_nil, List.drop_zero, mfin, hw0, if_true, Int.toNat_natCast]
            have e1 : (w ++ c :: f).take w.length = w := by simp
            have e2 : (w ++ c :: f).drop (w.length + 1) = f := by simp [List.drop_append]
            rw [e1, e2]
            by_cases h : w = [] ∧ f = []
            · simp [h, zero_ok]
            · simp only [h, if_false]
              exact hk
          · have h0 : cE (c3 :: r4) = cE r4 + 1 := by simp [cE, hE3]
            have hsn : scan ((c3 :: r4).take (cE (c3 :: r4))) (w.length : Int) (w.length + 1 + f.length) = none := by
              rw [h0, List.take_succ_cons, scan]
              by_cases hP3 : isP c3 = true
              · rw [if_pos hP3, if_pos hw0]
              · rw [if_neg hP3]; simp [hD3]
            rw [hsn]
            by_cases h : w = [] ∧ f = []
            · simp [h, zero_ok]
            · simp [h, fin, ex, hE3]
      · -- neither
        have hfr : fr (c :: r) = ([], c :: r) := by simp [fr, hP]
        have hcE : cE (c :: r) = cE r + 1 := by simp [cE, hE]
        have hsn : scan ((c :: r).take (cE (c :: r))) (-1) w.length = none := by
          rw [hcE, List.take_succ_cons, scan]
          simp [hP, hD]
        unfold mcore pcore
        rw [hsn, hfr]
        by_cases h : w = []
        · simp [h, zero_ok]
        · simp [h, fin, ex, hE]

theorem parse_core (l : List UInt8) : parse l = pcore (neg l) ((uns l).take (cnt (uns l))) ((uns l).drop (cnt (uns l))) := rfl
theorem model_core (l : List UInt8) : model l = mcore (neg l) ((uns l).take (cnt (uns l))) ((uns l).drop (cnt (uns l))) := by
  have hw := alD_take (uns l)
  have hr : uns l = (uns l).take (cnt (uns l)) ++ (uns l).drop (cnt (uns l)) := (List.take_append_drop _ _).symm
  unfold model
  generalize (uns l).take (cnt (uns l)) = w at *
  generalize (uns l).drop (cnt (uns l)) = t at *
  rw [hr]
  have h1 := cE_app w t hw
  have e1 : (w ++ t).take (cE (w ++ t)) = w ++ t.take (cE t) := by
    rw [h1, List.take_append, List.take_of_length_le (by omega)]
    congr 2; omega
  have e2 : (w ++ t).drop (cE (w ++ t)) = t.drop (cE t) := by
    rw [h1, List.drop_append, List.drop_of_length_le (by omega), List.nil_append]
    congr 1; omega
  rw [e1, e2, scan_app _ _ _ _ hw, Nat.zero_add]
  rfl

/-- THE FIRST PLAIN LAW: the model accepts just what the parse accepts, with the same parts; what it refuses reads as nothing. -/
theorem model_eq (l : List UInt8) : model l = if (parse l).ok = true then parse l else zero := by
  rw [model_core, parse_core]
  exact law_core _ _ _ (cnt_drop _)

/-! ### heads of a text -/

theorem cnt_take : ∀ (l : List UInt8) (n : Nat), cnt (l.take n) = min (cnt l) n
  | [], n => by simp [cnt]
  | c :: r, 0 => by simp [cnt]
  | c :: r, n + 1 => by
    simp only [List.take_succ_cons, cnt]
    by_cases h : isD c = true
    · simp only [h, if_true, cnt_take r n]; omega
    · simp [h]

theorem sgn_le (l : List UInt8) : sgn l ≤ l.length ∧ sgn l ≤ 1 := by
  cases l with
  | nil => simp [sgn]
  | cons c r => simp only [sgn, List.length_cons]; split <;> omega

theorem uns_eq (l : List UInt8) : uns l = l.drop (sgn l) := by
  cases l with
  | nil => rfl
  | cons c r =>
    by_cases h : isS c = true <;> simp [uns, sgn, h]

theorem uns_take (l : List UInt8) (n : Nat) (hn : 1 ≤ n) : uns (l.take n) = (uns l).take (n - sgn l) ∧ neg (l.take n) = neg l := by
  cases l with
  | nil => simp [uns, neg]
  | cons c r =>
    obtain ⟨m, rfl⟩ : ∃ m, n = m + 1 := ⟨n - 1, by omega⟩
    by_cases h : isS c = true <;> simp [uns, sgn, h, neg]

/-- how many bytes the point and the fraction take -/
def qf (t : List UInt8) : Nat := t.length - (fr t).2.length

theorem fr_take (t : List UInt8) (i : Nat) : fr (t.take (qf t + i)) = ((fr t).1, (fr t).2.take i) ∧ t.length = qf t + (fr t).2.length ∧
    (qf t = (fr t).1.length + 1 ∨ qf t = 0 ∧ (fr t).1 = []) ∧ cE t = qf t + cE (fr t).2 := by
  cases t with
  | nil => simp [qf, fr, cE]
  | cons c r =>
    by_cases hP : isP c = true
    · have hfr : fr (c :: r) = (r.take (cnt r), r.drop (cnt r)) := by simp [fr, hP]
      have hle := cnt_le r
      have hq : qf (c :: r) = cnt r + 1 := by
        simp only [qf, hfr, List.length_cons, List.length_drop]; omega
      refine ⟨?_, ?_, ?_, ?_⟩
      · have e : qf (c :: r) + i = (cnt r + i) + 1 := by omega
        rw [e, List.take_succ_cons, hfr]
        have h2 : cnt (r.take (cnt r + i)) = cnt r := by rw [cnt_take]; omega
        simp only [fr, hP, if_true, h2, List.take_take]
        rw [List.drop_take]
        congr 2
        · omega
        · omega
      · rw [hq, hfr]; simp only [List.length_cons, List.length_drop]; omega
      · left; rw [hq, hfr]; simp only [List.length_take]; omega
      · rw [hq, hfr]
        have h1 : cE (c :: r) = cE r + 1 := by simp [cE, P_notE hP]
        have h2 := cE_app (r.take (cnt r)) (r.drop (cnt r)) (alD_take r)
        rw [List.take_append_drop, List.length_take] at h2
        rw [h1, h2]; simp only []; omega
    · have hfr : fr (c :: r) = ([], c :: r) := by simp [fr, hP]
      have hq : qf (c :: r) = 0 := by simp [qf, hfr]
      refine ⟨?_, by rw [hq, hfr]; simp, .inr ⟨hq, by rw [hfr]⟩, by rw [hq, hfr]; simp⟩
      rw [hq, hfr, Nat.zero_add]
      cases i with
      | zero => simp [fr]
      | succ i => simp [fr, hP]

/-- the parse of a head of the text that reaches behind the fraction -/
theorem parse_take (l : List UInt8) (i : Nat) (w t : List UInt8) (hw : w = (uns l).take (cnt (uns l))) (ht : t = (uns l).drop (cnt (uns l))) (hn : 1 ≤ sgn l + w.length + qf t + i) :
    parse (l.take (sgn l + w.length + qf t + i)) = if w = [] ∧ (fr t).1 = [] then zero else fin (neg l) w (fr t).1 ((fr t).2.take i) := by
  have h0 : cnt t = 0 := by rw [ht]; exact cnt_drop _
  have haw : alD w = true := by rw [hw]; exact alD_take _
  have hr : uns l = w ++ t := by rw [hw, ht]; exact (List.take_append_drop _ _).symm
  obtain ⟨u1, u2⟩ := uns_take l (sgn l + w.length + qf t + i) hn
  have hu : uns (l.take (sgn l + w.length + qf t + i)) = w ++ t.take (qf t + i) := by
    rw [u1, hr, List.take_append, List.take_of_length_le (by omega)]
    congr 2; omega
  have hc : cnt (uns (l.take (sgn l + w.length + qf t + i))) = w.length := by
    rw [hu, cnt_app _ _ haw, cnt_take, h0]; omega
  rw [parse_core, hc, hu, u2]
  have e1 : (w ++ t.take (qf t + i)).take w.length = w := by simp
  have e2 : (w ++ t.take (qf t + i)).drop w.length = t.take (qf t + i) := by simp
  rw [e1, e2, pcore, (fr_take t i).1]

/-! ### the exponent on heads of a text -/

/-- nothing is left -/
def okE (t : List UInt8) : Bool := match ex t with
  | none => false
  | some y => y.2.isEmpty
theorem fin_ok (ng : Bool) (w f t : List UInt8) : (fin ng w f t).ok = okE t := by
  unfold fin okE
  cases ex t <;> rfl
theorem okE_nil : okE [] = true := rfl

theorem ex_none (t : List UInt8) (h : ex t = none) : okE (t.take 2) = false ∧ okE (t.take 3) = false ∧ cE t = 0 ∧ 0 < t.length := by
  cases t with
  | nil => simp [ex] at h
  | cons e r =>
    by_cases hE : isE e = true
    · by_cases h0 : cnt (r.drop (sgn r)) = 0
      · refine ⟨?_, ?_, by simp [cE, hE], by simp⟩
        · cases r with
          | nil => simp [okE, ex, hE, sgn, cnt]
          | cons c r' =>
            by_cases hS : isS c = true
            · simp [okE, ex, hE, sgn, hS, cnt]
            · simp [sgn, hS] at h0
              simp [okE, ex, hE, sgn, hS, cnt, cnt_zero h0]
        · cases r with
          | nil => simp [okE, ex, hE, sgn, cnt]
          | cons c r' =>
            by_cases hS : isS c = true
            · simp [sgn, hS] at h0
              have : cnt (r'.take 1) = 0 := by rw [cnt_take, h0]; simp
              simp [okE, ex, hE, sgn, hS, this]
            · simp [sgn, hS] at h0
              simp [okE, ex, hE, sgn, hS, cnt, cnt_zero h0]
      · simp [ex, hE, h0] at h
    · simp [ex, hE] at h

theorem sgn_take (r : List UInt8) (n : Nat) (hn : 1 ≤ n) : sgn (r.take n) = sgn r := by
  cases r with
  | nil => simp
  | cons c r => obtain ⟨m, rfl⟩ : ∃ m, n = m + 1 := ⟨n - 1, by omega⟩; simp [sgn]

theorem ex_some (t x r5 : List UInt8) (h : ex t = some (x, r5)) (h5 : r5 ≠ []) :
    ex (t.take x.length) = some (x, []) ∧ (∀ i, x.length < i → okE (t.take i) = false) ∧ t.length = x.length + r5.length ∧
    ((x = [] ∧ ∃ c r, t = c :: r ∧ isE c = false) ∨ (x ≠ [] ∧ cE t = 0 ∧ 0 < t.length ∧ (2 ≤ t.length ∧ okE (t.take 2) = true ∨ 3 ≤ t.length ∧ okE (t.take 3) = true))) := by
  have h5l : 0 < r5.length := List.length_pos_iff.2 h5
  cases t with
  | nil => simp [ex] at h; exact absurd h.2.symm (by simpa using h5)
  | cons e r =>
    by_cases hE : isE e = true
    · by_cases h0 : cnt (r.drop (sgn r)) = 0
      · simp [ex, hE, h0] at h
      · simp only [ex, hE, h0, if_true, if_false, Option.some.injEq, Prod.mk.injEq] at h
        obtain ⟨rfl, rfl⟩ := h
        have hc := cnt_le (r.drop (sgn r))
        have hsl := (sgn_le r).1
        simp only [List.length_drop] at hc h5l
        have hn : sgn r + cnt (r.drop (sgn r)) < r.length := by omega
        have key : ∀ j, sgn r + cnt (r.drop (sgn r)) ≤ j → ex (e :: r.take j) = some (e :: r.take (sgn r + cnt (r.drop (sgn r))), (r.drop (sgn r + cnt (r.drop (sgn r)))).take (j - (sgn r + cnt (r.drop (sgn r))))) := by
          intro j hj
          have hs : sgn (r.take j) = sgn r := sgn_take r j (by omega)
          have hd : (r.take j).drop (sgn r) = (r.drop (sgn r)).take (j - sgn r) := List.drop_take ..
          have hcn : cnt ((r.take j).drop (sgn r)) = cnt (r.drop (sgn r)) := by rw [hd, cnt_take]; omega
          rw [ex, if_pos hE, hs, hcn, if_neg h0, List.take_take, List.drop_take, Nat.min_eq_left hj]
        refine ⟨?_, ?_, ?_, ?_⟩
        · have := key (sgn r + cnt (r.drop (sgn r))) (Nat.le_refl _)
          rw [Nat.sub_self, List.take_zero] at this
          have e1 : (e :: r.take (sgn r + cnt (r.drop (sgn r)))).length = (sgn r + cnt (r.drop (sgn r))) + 1 := by
            simp only [List.length_cons, List.length_take]; omega
          rw [e1, List.take_succ_cons]
          exact this
        · intro i hi
          simp only [List.length_cons, List.length_take] at hi
          obtain ⟨j, rfl⟩ : ∃ j, i = j + 1 := ⟨i - 1, by omega⟩
          rw [List.take_succ_cons, okE, key j (by omega)]
          simp
          omega
        · simp only [List.length_cons, List.length_take, List.length_drop]; omega
        · right
          refine ⟨by simp, by simp [cE, hE], by simp, ?_⟩
          cases r with
          | nil => simp [cnt] at h0
          | cons c r' =>
            by_cases hS : isS c = true
            · simp [sgn, hS] at h0
              cases r' with
              | nil => simp [cnt] at h0
              | cons d r'' =>
                have hd : isD d = true := by
                  by_cases hd : isD d = true
                  · exact hd
                  · simp [cnt, hd] at h0
                right
                refine ⟨by simp, ?_⟩
                simp [okE, ex, hE, sgn, hS, cnt, hd]
            · simp [sgn, hS] at h0
              have hd : isD c = true := by
                by_cases hd : isD c = true
                · exact hd
                · simp [cnt, hd] at h0
              left
              refine ⟨by simp, ?_⟩
              simp [okE, ex, hE, sgn, hS, cnt, hd]
    · rw [ex, if_neg hE] at h
      simp only [Option.some.injEq, Prod.mk.injEq] at h
      obtain ⟨rfl, rfl⟩ := h
      refine ⟨rfl, ?_, by simp, .inl ⟨rfl, e, r, rfl, by simpa using hE⟩⟩
      intro i hi
      simp only [List.length_nil] at hi
      obtain ⟨j, rfl⟩ : ∃ j, i = j + 1 := ⟨i - 1, by omega⟩
      simp [okE, ex, hE]

/-! ### the second plain law: what a refused text reads as -/

/-- zzAcceptsPrefix -/
def acc (l : List UInt8) (n : Nat) : Bool := decide (n ≤ l.length) && (model (l.take n)).ok
/-- no short head of the text is a float -/
def noneB (l : List UInt8) : Bool := !acc l 1 && (!acc l 2 && !acc l 3)
/-- a float that an e or E follows which opens no exponent -/
def eCutB (l : List UInt8) : Bool := decide (cE l < l.length) && (acc l (cE l) && (!acc l (cE l + 2) && !acc l (cE l + 3)))
/-- the table's place -/
def pAt (l w f x : List UInt8) (v : Nat) : Nat := sgn l + w.length + v + f.length + x.length
/-- the table's tests at one of its two rounds -/
structure Good (l : List UInt8) (ng : Bool) (w f x : List UInt8) (v : Nat) : Prop where
  hv : v = 0 → f = []
  hp : pAt l w f x v < l.length
  hm : model (l.take (pAt l w f x v)) = ⟨true, ng, w, f, x⟩
  h1 : acc l (pAt l w f x v + 1) = false
  h2 : acc l (pAt l w f x v + 2) = false
  h3 : acc l (pAt l w f x v + 3) = false
  he : x = [] → ∀ c r, l.drop (pAt l w f x v) = c :: r → isE c = false

theorem model_ok (l : List UInt8) : (model l).ok = (parse l).ok := by
  rw [model_eq]
  by_cases h : (parse l).ok = true
  · rw [if_pos h]
  · rw [if_neg h]; simpa [zero] using h

theorem cE_sgn (l : List UInt8) : cE l = sgn l + cE (uns l) := by
  cases l with
  | nil => rfl
  | cons c r =>
    by_cases h : isS c = true
    · simp [sgn, uns, h, cE, S_notE h]; omega
    · simp [sgn, uns, h]

theorem drop_at (l : List UInt8) : l.drop (sgn l + ((uns l).take (cnt (uns l))).length + qf ((uns l).drop (cnt (uns l)))) = (fr ((uns l).drop (cnt (uns l)))).2 := by
  have hle := cnt_le (uns l)
  have e1 : ((uns l).take (cnt (uns l))).length = cnt (uns l) := by rw [List.length_take]; omega
  rw [e1, Nat.add_assoc, ← List.drop_drop, ← uns_eq, ← List.drop_drop]
  generalize (uns l).drop (cnt (uns l)) = t
  cases t with
  | nil => simp [fr]
  | cons c r =>
    by_cases hP : isP c = true
    · have hq : qf (c :: r) = cnt r + 1 := by
        have := cnt_le r
        simp only [qf, fr, hP, if_true, List.length_cons, List.length_drop]; omega
      rw [hq]; simp [fr, hP]
    · simp [qf, fr, hP]

theorem refused (l : List UInt8) (h : (parse l).ok = false) :
    (parse l = zero ∧ (noneB l = true ∨ eCutB l = true)) ∨
    (((parse l).w ≠ [] ∨ (parse l).f ≠ []) ∧ noneB l = false ∧ eCutB l = false ∧ ∃ v, v ≤ 1 ∧ Good l (parse l).neg (parse l).w (parse l).f (parse l).x v) := by
  have hacc : ∀ n, acc l n = (decide (n ≤ l.length) && (parse (l.take n)).ok) := fun n => by rw [acc, model_ok]
  have hdrop := drop_at l
  have hpc := parse_core l
  have hsl := (sgn_le l).1
  have hs1 := (sgn_le l).2
  have hcl := cnt_le (uns l)
  have hul : (uns l).length = l.length - sgn l := by rw [uns_eq, List.length_drop]
  have hcE : cE l = sgn l + cE (uns l) := cE_sgn l
  have hcE2 : cE (uns l) = ((uns l).take (cnt (uns l))).length + cE ((uns l).drop (cnt (uns l))) := by
    have := cE_app _ ((uns l).drop (cnt (uns l))) (alD_take (uns l))
    rwa [List.take_append_drop] at this
  have haw := alD_take (uns l)
  have hcut : uns l = (uns l).take (cnt (uns l)) ++ (uns l).drop (cnt (uns l)) := (List.take_append_drop _ _).symm
  have hptk := fun i => parse_take l i _ _ rfl rfl
  have hct := cnt_drop (uns l)
  have hlen : l.length = sgn l + ((uns l).take (cnt (uns l))).length + ((uns l).drop (cnt (uns l))).length := by
    rw [List.length_take, List.length_drop]; omega
  generalize hw : (uns l).take (cnt (uns l)) = w at *
  generalize ht : (uns l).drop (cnt (uns l)) = t at *
  obtain ⟨-, f2, f3, f4⟩ := fr_take t 0
  have hfd : cnt t = 0 := hct
  by_cases hz : w = [] ∧ (fr t).1 = []
  · -- nothing read
    left
    refine ⟨by rw [hpc, pcore, if_pos hz], .inl ?_⟩
    have key : ∀ n, 1 ≤ n → (parse (l.take n)).ok = false := by
      intro n hn
      obtain ⟨u1, u2⟩ := uns_take l n hn
      have hu : uns (l.take n) = t.take (n - sgn l) := by rw [u1, hcut, hz.1, List.nil_append]
      have hc : cnt (t.take (n - sgn l)) = 0 := by rw [cnt_take, hfd]; omega
      rw [parse_core, hu, hc, List.take_zero, List.drop_zero, pcore]
      have hfr : (fr (t.take (n - sgn l))).1 = [] := by
        rcases f3 with f3 | ⟨f3, _⟩
        · have hf0 := hz.2
          rw [hf0, List.length_nil] at f3
          generalize n - sgn l = m
          cases t with
          | nil => simp [fr]
          | cons c r =>
            cases m with
            | zero => simp [fr]
            | succ m =>
              by_cases hP : isP c = true
              · simp [fr, hP] at hf0
                have h0 : cnt r = 0 := by
                  rcases hf0 with h | h
                  · exact h
                  · rw [h]; rfl
                have : cnt (r.take m) = 0 := by rw [cnt_take, h0]; omega
                simp [fr, hP, this]
              · simp [fr, hP]
        · have := (fr_take t (n - sgn l)).1
          rw [f3, Nat.zero_add] at this
          rw [this]; exact hz.2
      rw [if_pos ⟨rfl, hfr⟩]; rfl
    simp [noneB, hacc, key]
  · -- something read
    have hpar : parse l = fin (neg l) w (fr t).1 (fr t).2 := by rw [hpc, pcore, if_neg hz]
    have hlen2 : l.length = sgn l + w.length + qf t + (fr t).2.length := by omega
    have hpos : 1 ≤ sgn l + w.length + qf t := by
      rcases f3 with f3 | ⟨f3, f3'⟩
      · omega
      · have : w ≠ [] := fun e => hz ⟨e, f3'⟩
        have := List.length_pos_iff.2 this
        omega
    have hptk2 : ∀ i, parse (l.take (sgn l + w.length + qf t + i)) = fin (neg l) w (fr t).1 ((fr t).2.take i) := fun i => by
      rw [hptk i (by omega), if_neg hz]
    have haccp : ∀ i, acc l (sgn l + w.length + qf t + i) = (decide (i ≤ (fr t).2.length) && okE ((fr t).2.take i)) := by
      intro i
      rw [hacc, hptk2, fin_ok]
      congr 1
      rw [decide_eq_decide]
      omega
    have hcEp : cE l = sgn l + w.length + qf t + cE (fr t).2 := by omega
    cases hex : ex (fr t).2 with
    | none =>
      left
      have hpz : parse l = zero := by rw [hpar, fin, hex]
      refine ⟨hpz, .inr ?_⟩
      obtain ⟨e1, e2, e3, e4⟩ := ex_none _ hex
      have a0 := haccp 0
      have a2 := haccp 2
      have a3 := haccp 3
      rw [e1] at a2
      rw [e2] at a3
      rw [eCutB, hcEp, e3]
      simp only [Nat.add_zero, List.take_zero, okE_nil] at a0 ⊢
      have hlt : sgn l + w.length + qf t < l.length := by omega
      simp [a0, a2, a3, hlt]
    | some y =>
      obtain ⟨x, r5⟩ := y
      have hpv : parse l = ⟨r5.isEmpty, neg l, w, (fr t).1, x⟩ := by rw [hpar, fin, hex]
      have h5 : r5 ≠ [] := by
        rw [hpv] at h
        intro e
        rw [e] at h
        simp at h
      obtain ⟨e1, e2, e3, e4⟩ := ex_some _ _ _ hex h5
      have h5l : 0 < r5.length := List.length_pos_iff.2 h5
      right
      rw [hpv]
      refine ⟨?_, ?_, ?_, ?_⟩
      · by_cases hw0 : w = []
        · right; exact fun e => hz ⟨hw0, e⟩
        · left; exact hw0
      · -- a short head is a float
        have key : ∃ n, (n = 1 ∨ n = 2 ∨ n = 3) ∧ acc l n = true := by
          cases w with
          | cons d w' =>
            refine ⟨sgn l + 1, by omega, ?_⟩
            simp [alD] at haw
            rw [hacc]
            obtain ⟨u1, u2⟩ := uns_take l (sgn l + 1) (by omega)
            have hu : uns (l.take (sgn l + 1)) = [d] := by
              rw [u1, hcut]; simp
            have hle : sgn l + 1 ≤ l.length := by simp only [List.length_cons] at hlen2; omega
            rw [parse_core, hu]
            simp [hle, cnt, haw.1, pcore, fr, fin, ex]
          | nil =>
            have hf : (fr t).1 ≠ [] := fun e => hz ⟨rfl, e⟩
            cases t with
            | nil => simp [fr] at hf
            | cons c r =>
              by_cases hP : isP c = true
              · cases r with
                | nil => simp [fr, hP] at hf
                | cons d r' =>
                  have hd : isD d = true := by
                    by_cases hd : isD d = true
                    · exact hd
                    · simp [fr, hP, cnt, hd] at hf
                  refine ⟨sgn l + 2, by omega, ?_⟩
                  rw [hacc]
                  obtain ⟨u1, u2⟩ := uns_take l (sgn l + 2) (by omega)
                  have hu : uns (l.take (sgn l + 2)) = [c, d] := by
                    rw [u1, hcut]; simp
                  have hle : sgn l + 2 ≤ l.length := by rw [hlen]; simp
                  rw [parse_core, hu]
                  simp [hle, cnt, P_notD hP, pcore, fr, hP, hd, fin, ex]
              · simp [fr, hP] at hf
        obtain ⟨n, hn, ha⟩ := key
        rcases hn with rfl | rfl | rfl <;> simp [noneB, ha]
      · -- no cut
        rcases e4 with ⟨hx, c, r, hc, hcE'⟩ | ⟨hx, hc0, hc1, h23⟩
        · have hE1 : cE (fr t).2 = cE r + 1 := by rw [hc]; simp [cE, hcE']
          have := haccp (cE (fr t).2)
          rw [e2 _ (by rw [hx, List.length_nil]; omega)] at this
          rw [eCutB, hcEp, this]
          simp
        · rw [eCutB, hcEp, hc0, Nat.add_zero]
          rcases h23 with ⟨h2, h2'⟩ | ⟨h3, h3'⟩
          · have := haccp 2
            rw [h2'] at this
            simp [this, h2]
          · have := haccp 3
            rw [h3'] at this
            simp [this, h3]
      · -- the table's round
        obtain ⟨v, hv1, hv2, hv3⟩ : ∃ v, v ≤ 1 ∧ v + (fr t).1.length = qf t ∧ (v = 0 → (fr t).1 = []) := by
          rcases f3 with f3 | ⟨f3, f3'⟩
          · exact ⟨1, by omega, by omega, by omega⟩
          · exact ⟨0, by omega, by rw [f3']; simpa using f3.symm, fun _ => f3'⟩
        have hpa : pAt l w (fr t).1 x v = sgn l + w.length + qf t + x.length := by unfold pAt; omega
        refine ⟨v, hv1, ⟨hv3, ?_, ?_, ?_, ?_, ?_, ?_⟩⟩
        · rw [hpa]; omega
        · rw [hpa]
          have hpp : parse (l.take (sgn l + w.length + qf t + x.length)) = ⟨true, neg l, w, (fr t).1, x⟩ := by
            rw [hptk2, fin, e1]; rfl
          rw [model_eq, hpp]; rfl
        · rw [hpa, Nat.add_assoc _ x.length, haccp, e2 _ (by omega)]; simp
        · rw [hpa, Nat.add_assoc _ x.length, haccp, e2 _ (by omega)]; simp
        · rw [hpa, Nat.add_assoc _ x.length, haccp, e2 _ (by omega)]; simp
        · intro hx0 c r hc
          have hx : x = [] := hx0
          rw [hpa, hx, List.length_nil, Nat.add_zero, hdrop] at hc
          rcases e4 with ⟨_, c', r', hc', hcE'⟩ | ⟨hx', _⟩
          · rw [hc] at hc'
            simp only [List.cons.injEq] at hc'
            rw [hc'.1]; exact hcE'
          · exact absurd hx hx'

end Go.Proofs.Qxb6601280a.Tx
