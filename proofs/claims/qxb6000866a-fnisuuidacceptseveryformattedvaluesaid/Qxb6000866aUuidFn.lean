/-
  THE WALK OF FnIsUUIDAcceptsEveryFormattedValue.
-/
import Derived.Test.Qxb6000866aFormat
import Derived.Laws.Concat
namespace Go.Proofs.Qxb6000866a
open Go.RowKit

theorem B_nums (cs : List Int) (h : ∀ c ∈ cs, 0 ≤ c ∧ c ≤ 255) : Uu.B (strOfNums cs) = cs := Uu.B_of cs h
theorem al_range (cs : List Int) (h : Uu.al 0 cs = true) : ∀ c ∈ cs, 45 ≤ c ∧ c ≤ 102 := by
  intro c hc
  obtain ⟨i, hi, rfl⟩ := List.getElem_of_mem hc
  have := Uu.al_at cs 0 i h hi
  rw [List.getD, List.getElem?_eq_getElem hi] at this
  exact Uu.okAt_range _ _ this
theorem okAt_g (i : Nat) : Uu.okAt i 103 = false := by
  cases h : Uu.hy i <;> simp [Uu.okAt, h, Uu.hex]
theorem okAt_0 (i : Nat) (h : Uu.hy i = true) : Uu.okAt i 48 = false := by
  simp [Uu.okAt, h]

/-- the calls of ZZisUUID that the law makes, each answered -/
structure Asked (t : ByteArray) : Prop where
  size : t.size = 36
  yes : ∀ w, Calls Try.prog 11 #[.string t] w fun e w' => e = .returned (.bool true) ∧ Below w.heap.size w w'
  head : ∀ w, Calls Try.prog 11 #[.string (t.extract 0 35)] w fun e w' => e = .returned (.bool false) ∧ Below w.heap.size w w'
  tail : ∀ w, Calls Try.prog 11 #[.string (t.extract 1 36)] w fun e w' => e = .returned (.bool false) ∧ Below w.heap.size w w'
  back : ∀ w, Calls Try.prog 11 #[.string (t ++ ⟨#[48]⟩)] w fun e w' => e = .returned (.bool false) ∧ Below w.heap.size w w'
  front : ∀ w, Calls Try.prog 11 #[.string (⟨#[48]⟩ ++ t)] w fun e w' => e = .returned (.bool false) ∧ Below w.heap.size w w'
  right : ∀ w, Calls Try.prog 11 #[.string (⟨#[48]⟩ ++ t.extract 0 35)] w fun e w' => e = .returned (.bool false) ∧ Below w.heap.size w w'
  left : ∀ w, Calls Try.prog 11 #[.string (t.extract 1 36 ++ ⟨#[48]⟩)] w fun e w' => e = .returned (.bool false) ∧ Below w.heap.size w w'
  zero : ∀ i w, i < 36 → Uu.hy i = true → Calls Try.prog 11 #[.string (strOfNums ((Uu.B t).set i 48))] w fun e w' => e = .returned (.bool false) ∧ Below w.heap.size w w'
  gee : ∀ i w, i < 36 → Calls Try.prog 11 #[.string (strOfNums ((Uu.B t).set i 103))] w fun e w' => e = .returned (.bool false) ∧ Below w.heap.size w w'

theorem B_one : Uu.B ⟨#[48]⟩ = [48] := rfl
theorem asked (t : ByteArray) (hs : t.size = 36) (ha : Uu.al 0 (Uu.B t) = true) : Asked t := by
  have hl : (Uu.B t).length = 36 := by rw [Uu.B_len, hs]
  have hr := al_range _ ha
  have isB : ∀ (s : ByteArray) (l : List Int) (b : Bool) (w : World), Uu.B s = l → (∀ c ∈ l, c < 128) → Uu.uu l = b → Calls Try.prog 11 #[.string s] w fun e w' => e = .returned (.bool b) ∧ Below w.heap.size w w' := by
    intro s l b w h1 h2 h3
    subst h1 h3
    exact is_any s w h2
  have hlt : ∀ c ∈ Uu.B t, c < 128 := fun c hc => by have := hr c hc; omega
  have h48 : ∀ c ∈ [(48 : Int)], c < 128 := by intro c hc; simp at hc; omega
  have happ : ∀ (a b : List Int), (∀ c ∈ a, c < 128) → (∀ c ∈ b, c < 128) → ∀ c ∈ a ++ b, c < 128 := by
    intro a b h1 h2 c hc
    rcases List.mem_append.1 hc with h | h
    · exact h1 c h
    · exact h2 c h
  have htk : ∀ c ∈ (Uu.B t).take 35, c < 128 := fun c hc => hlt c (List.mem_of_mem_take hc)
  have hdr : ∀ c ∈ (Uu.B t).drop 1, c < 128 := fun c hc => hlt c (List.mem_of_mem_drop hc)
  have hset : ∀ (i : Nat) (x : Int), 0 ≤ x → x < 128 → ∀ c ∈ (Uu.B t).set i x, 0 ≤ c ∧ c < 128 := by
    intro i x h0 h1 c hc
    rcases List.mem_or_eq_of_mem_set hc with h | h
    · have := hr c h; omega
    · omega
  have hB1 : Uu.B (t.extract 1 36) = (Uu.B t).drop 1 := by
    have := Uu.B_tail t 1
    rw [hs] at this
    exact this
  refine ⟨hs, fun w => isB _ _ _ w rfl hlt (Uu.uu_yes _ hl ha), fun w => isB _ _ _ w (Uu.B_head t 35) htk (Uu.uu_len _ (by simp; omega)), fun w => isB _ _ _ w hB1 hdr (Uu.uu_len _ (by simp; omega)),
    fun w => isB _ _ _ w (Uu.B_app _ _) (happ _ _ hlt h48) (Uu.uu_len _ (by rw [B_one]; simp; omega)), fun w => isB _ _ _ w (Uu.B_app _ _) (happ _ _ h48 hlt) (Uu.uu_len _ (by rw [B_one]; simp; omega)), fun w => ?_, fun w => ?_, fun i w hi hh => ?_, fun i w hi => ?_⟩
  · exact isB _ (48 :: (Uu.B t).take 35) _ w (by rw [Uu.B_app, Uu.B_head, B_one]; rfl) (happ [48] _ h48 htk) (Uu.shift_right _ hl ha)
  · exact isB _ ((Uu.B t).drop 1 ++ [48]) _ w (by rw [Uu.B_app, hB1, B_one]) (happ _ _ hdr h48) (Uu.shift_left _ hl ha)
  · exact isB _ _ _ w (B_nums _ fun c hc => by have := hset i 48 (by omega) (by omega) c hc; omega) (fun c hc => (hset i 48 (by omega) (by omega) c hc).2) (Uu.turned _ i 48 hl hi (okAt_0 i hh))
  · exact isB _ _ _ w (B_nums _ fun c hc => by have := hset i 103 (by omega) (by omega) c hc; omega) (fun c hc => (hset i 103 (by omega) (by omega) c hc).2) (Uu.turned _ i 103 hl hi (okAt_g i))

theorem format_asked (xs : List Int) (up : Bool) (w : World) (hl : xs.length = 16) (hx : ∀ x ∈ xs, 0 ≤ x ∧ x ≤ 255) :
    Calls Try.prog 15 #[.agg (xs.map (Value.int .u8)).toArray, .bool up] w fun e w' => ∃ t, e = .returned (.string t) ∧ Asked t ∧ Below w.heap.size w w' := by
  refine (format xs up w hl hx).mono ?_
  rintro e w' ⟨cs, rfl, h1, h2, hb⟩
  have hB : Uu.B (strOfNums cs) = cs := B_nums cs fun c hc => by have := al_range cs h2 c hc; omega
  exact ⟨strOfNums cs, rfl, asked _ (by rw [← Uu.B_len, hB, h1]) (by rw [hB, h2]), hb⟩

theorem list16 {α : Type} (l : List α) (h : l.length = 16) : ∃ a0 a1 a2 a3 a4 a5 a6 a7 a8 a9 a10 a11 a12 a13 a14 a15, l = [a0, a1, a2, a3, a4, a5, a6, a7, a8, a9, a10, a11, a12, a13, a14, a15] := by
  match l, h with
  | [a0, a1, a2, a3, a4, a5, a6, a7, a8, a9, a10, a11, a12, a13, a14, a15], _ => exact ⟨a0, a1, a2, a3, a4, a5, a6, a7, a8, a9, a10, a11, a12, a13, a14, a15, rfl⟩
theorem arr16 {α : Type} (A : Array α) (h : A.size = 16) : #[A[0]'(by omega), A[1]'(by omega), A[2]'(by omega), A[3]'(by omega), A[4]'(by omega), A[5]'(by omega), A[6]'(by omega), A[7]'(by omega), A[8]'(by omega), A[9]'(by omega), A[10]'(by omega), A[11]'(by omega), A[12]'(by omega), A[13]'(by omega), A[14]'(by omega), A[15]'(by omega)] = A := by
  obtain ⟨l⟩ := A
  obtain ⟨a0, a1, a2, a3, a4, a5, a6, a7, a8, a9, a10, a11, a12, a13, a14, a15, rfl⟩ := list16 l h
  rfl

set_option maxRecDepth 100000 in
set_option maxHeartbeats 4000000 in
theorem fn_walk (xs : List Int) (up : Bool) (w : World) (hl : xs.length = 16) (hx : ∀ x ∈ xs, 0 ≤ x ∧ x ≤ 255) :
    Calls Try.prog 5 #[.agg (xs.map (Value.int .u8)).toArray, .bool up] w fun e w' => e = .returned (.bool true) ∧ Below w.heap.size w w' := by
  have HF : Hid (∀ w, Calls Try.prog 15 #[.agg (xs.map (Value.int .u8)).toArray, .bool up] w fun e w' => ∃ t, e = .returned (.string t) ∧ Asked t ∧ Below w.heap.size w w') := fun w => format_asked xs up w hl hx
  have hsz : ((xs.map (Value.int .u8)).toArray).size = 16 := by simp [hl]
  have hb1 : Below w.heap.size w (w.alloc (.cells (xs.map (Value.int .u8)).toArray 24)) := (Below.refl _ w).alloc (Nat.le_refl _) _
  generalize (xs.map (Value.int .u8)).toArray = A at *
  clear hx hl
  go_enter Try.func5, Try.ntmps5
  go_wp2_with fail
  rw [arr16 A hsz]
  refine (HF.out _).mono ?_
  rintro e w2 ⟨t, rfl, hq, hb2⟩
  have HQ : Hid (Asked t) := hq
  have hts := hq.size
  have hbA : Below w.heap.size w w2 := hb1.trans (hb2.mono (by simp))
  clear hq hb1 hb2 HF
  go_wp2_with fail
  refine (HQ.out.yes _).mono ?_
  rintro e w3 ⟨rfl, hb3⟩
  have hbB : Below w.heap.size w w3 := hbA.trans (hb3.mono hbA.size)
  clear hbA hb3
  go_wp2_with fail
  refine (HQ.out.head _).mono ?_
  rintro e w4 ⟨rfl, hb4⟩
  have hbC : Below w.heap.size w w4 := hbB.trans (hb4.mono hbB.size)
  clear hbB hb4
  go_wp2_with fail
  refine (HQ.out.tail _).mono ?_
  rintro e w5 ⟨rfl, hb5⟩
  have hbD : Below w.heap.size w w5 := hbC.trans (hb5.mono hbC.size)
  clear hbC hb5
  go_wp2_with fail
  refine (HQ.out.back _).mono ?_
  rintro e w6 ⟨rfl, hb6⟩
  have hbE : Below w.heap.size w w6 := hbD.trans (hb6.mono hbD.size)
  clear hbD hb6
  go_wp2_with fail
  refine (HQ.out.front _).mono ?_
  rintro e w7 ⟨rfl, hb7⟩
  have hbF : Below w.heap.size w w7 := hbE.trans (hb7.mono hbE.size)
  clear hbE hb7
  go_wp2_with fail
  refine (HQ.out.right _).mono ?_
  rintro e w8 ⟨rfl, hb8⟩
  have hbG : Below w.heap.size w w8 := hbF.trans (hb8.mono hbF.size)
  clear hbF hb8
  go_wp2_with fail
  refine (HQ.out.left _).mono ?_
  rintro e w9 ⟨rfl, hb9⟩
  have hbH : Below w.heap.size w w9 := hbG.trans (hb9.mono hbG.size)
  clear hbG hb9
  go_wp2_with fail
  go_loopw [6] (fun vi wr => ∃ i : Nat, i ≤ 36 ∧ vi = .int .i64 (i : Int) ∧ Below w.heap.size w wr) (fun vi _ => 36 - (intOf vi).toNat)
  case atStart => exact ⟨0, by omega, rfl, hbH⟩
  case round =>
    obtain ⟨i, hi, rfl, hr0⟩ := hrel
    clear hbH
    by_cases hlt : i < 36
    · cases hh : Uu.hy i
      · have hhy := hyphen i wr hlt
        rw [hh] at hhy
        have HHY : Hid (Calls Try.prog 16 #[.int .i64 (i : Int)] wr fun e w' => e = .returned (.bool false) ∧ w' = wr) := hhy
        clear hhy hh
        go_wp2_with fail
        refine HHY.out.mono ?_
        rintro e wa ⟨rfl, ha⟩
        rw [ha]
        clear HHY ha
        go_wp2_with fail
        refine (with_byte t i 103 _ hts hlt).mono ?_
        rintro e wb ⟨rfl, hr1⟩
        have hr2 : Below w.heap.size w wb := hr0.trans (hr1.mono hr0.size)
        clear hr0 hr1
        go_wp2_with fail
        refine (HQ.out.gee i _ hlt).mono ?_
        rintro e wc ⟨rfl, hr3⟩
        have hr4 : Below w.heap.size w wc := hr2.trans (hr3.mono hr2.size)
        clear hr2 hr3
        go_wp2_with fail
        go_roundw
        case rel => exact ⟨i + 1, by omega, by go_num, hr4⟩
        case measure => simp [intOf]; omega
      · have hhy := hyphen i wr hlt
        rw [hh] at hhy
        have HHY : Hid (Calls Try.prog 16 #[.int .i64 (i : Int)] wr fun e w' => e = .returned (.bool true) ∧ w' = wr) := hhy
        have HH : Hid (Uu.hy i = true) := hh
        clear hhy hh
        go_wp2_with fail
        refine HHY.out.mono ?_
        rintro e wa ⟨rfl, ha⟩
        rw [ha]
        clear HHY ha
        go_wp2_with fail
        refine (with_byte t i 48 _ hts hlt).mono ?_
        rintro e wb ⟨rfl, hr1⟩
        have hr2 : Below w.heap.size w wb := hr0.trans (hr1.mono hr0.size)
        clear hr0 hr1
        go_wp2_with fail
        refine (HQ.out.zero i _ hlt HH.out).mono ?_
        rintro e wc ⟨rfl, hr3⟩
        have hr4 : Below w.heap.size w wc := hr2.trans (hr3.mono hr2.size)
        clear hr2 hr3
        go_wp2_with fail
        go_roundw
        case rel => exact ⟨i + 1, by omega, by go_num, hr4⟩
        case measure => simp [intOf]; omega
    · go_wp2_with fail
      go_ret
      exact ⟨rfl, hr0⟩
end Go.Proofs.Qxb6000866a
