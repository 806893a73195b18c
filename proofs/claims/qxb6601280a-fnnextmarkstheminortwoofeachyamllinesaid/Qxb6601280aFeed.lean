/-
  THE WALK OF zzFeed: over every slice of runes that the call itself made, the finder answers as the line model says.
-/
import Derived.Test.Qxb6601280aEffect
import Derived.Test.Qxb6601280aKeeps
import Derived.WalkKit
import Derived.WalkSpells
import Derived.WalkLawsBesides
import Derived.Deep.DeepCutAuto
import Derived.Deep.CutBlock
namespace Go.Proofs.Qxb6601280a
open Go.RowKit

set_option maxRecDepth 100000 in
set_option maxHeartbeats 400000 in
theorem feed_empty (d : Bool) (st m : Int) (ao : Option Addr) (cap : Nat) (via : Bool) (w : World) :
    Calls Try.prog 11 #[.bool d, .int .i64 st, .int .i64 m, .slice ao 0 cap, .bool via] w fun e w' => e = .returned (.bool true) ∧ w' = w := by
  go_enter Try.func11, Try.ntmps11
  go_wp2_with fail
  refine wp_loop_rounds 1 ?_
  rw [rounds_succ]
  go_wp2_with fail
  refine wp_loop_rounds 1 ?_
  rw [rounds_succ]
  go_wp2_with (first | (go_at_call 22; refine (m2_short _ _ _ _ (by omega)).mono ?_; rintro e w' ⟨rfl, rfl⟩))
  all_goals
    refine wp_loop_rounds 1 ?_
    rw [rounds_succ]
    go_wp2_with fail
    go_ret
    exact ⟨rfl, rfl⟩

theorem m2_len (l : List Int) (h : l.length < 5) : Pl.m2 l = -1 := by
  rw [Pl.m2, if_neg]
  intro e
  have := congrArg List.length e
  rw [List.length_take] at this
  simp at this
  omega
theorem m2_le (l : List Int) : Pl.m2 l ≤ l.length := by
  unfold Pl.m2 Pl.m2a Pl.m2b
  have h2 := cD_le (l.drop (5 + Pl.cB (l.drop 5)))
  rw [List.length_drop] at h2
  by_cases h5 : l.take 5 = [37, 89, 65, 77, 76]
  · rw [if_pos h5]
    by_cases hb : Pl.cB (l.drop 5) = 0
    · rw [if_pos hb]; omega
    · rw [if_neg hb]
      by_cases hd : Pl.cD (l.drop (5 + Pl.cB (l.drop 5))) = 0
      · rw [if_pos hd]; omega
      · rw [if_neg hd]
        by_cases ht : Pl.tl (l.drop (5 + Pl.cB (l.drop 5) + Pl.cD (l.drop (5 + Pl.cB (l.drop 5))))) = true
        · rw [if_pos ht]
          generalize 5 + Pl.cB (l.drop 5) + Pl.cD (l.drop (5 + Pl.cB (l.drop 5))) = K at *
          by_cases hk : K + 1 < l.length
          · omega
          · exfalso
            have h3 : (l.drop K).length ≤ 1 := by rw [List.length_drop]; omega
            generalize l.drop K = t at *
            match t, h3 with
            | [], _ => simp [Pl.tl] at ht
            | [_], _ => simp [Pl.tl] at ht
            | _ :: _ :: _, h => simp at h
        · rw [if_neg ht]; omega
  · rw [if_neg h5]; omega
theorem m2_any (b o n cap : Nat) (l : List Int) (w : World) (hn : l.length = n) (hnm : n ≤ 1048576)
    (hc : ∀ j, j < n → w.cell? ⟨b, o + j, none⟩ = some (.int .i32 (l.getD j 0))) :
    Calls Try.prog 22 #[.slice (some ⟨b, o, none⟩) n cap] w fun e w' => e = .returned (.int .i64 (Pl.m2 l)) ∧ ∃ q, w' = w.drewN q := by
  by_cases h5 : 5 ≤ n
  · exact m2_long b o n cap l w hn h5 hnm hc _ rfl
  · rw [m2_len l (by omega)]
    exact (m2_short _ n cap w (by omega)).mono (fun e w' h => ⟨h.1, 0, h.2⟩)
/-- 'want' against what is still to come -/
def Wr (W : Int) (i : Nat) (o : Option Nat) : Prop := match o with
  | some p => W = (i : Int) + (p : Int)
  | none => W < (i : Int)
theorem wr_start (W : Int) (s : Nat) (o : Option Nat) (h : W = (if Pl.tow o < 0 then -1 else (s : Int) + Pl.tow o)) : Wr W s o := by
  cases o with
  | none => simp [Pl.tow] at h; simp only [Wr]; omega
  | some p =>
    have h2 : ¬ (Pl.tow (some p) < 0) := by show ¬ ((p : Int) < 0); omega
    rw [if_neg h2] at h
    exact h
theorem wr_step (W : Int) (i : Nat) (d : Bool) (st m c : Int) (r : List Int) (h : Wr W i (Pl.run d st m (c :: r))) :
    Pl.nxG st c = ((i : Int) == W) ∧ Wr W (i + 1) (Pl.run d (Pl.nxS d st m c) (Pl.nxM d st m c) r) := by
  by_cases hg : Pl.nxG st c = true
  · have h6 : st = 6 := by
      by_cases h6 : st = 6
      · exact h6
      · simp [Pl.nxG, h6] at hg
    have hs : Pl.nxS d st m c = 9 := by rw [h6]; simp [Pl.nxS]
    rw [hs, Pl.run_dead d r 9 _ (.inr (by omega))]
    simp only [Pl.run, hg, if_true, Wr] at h
    refine ⟨?_, ?_⟩
    · rw [hg]; simp; omega
    · simp only [Wr]; omega
  · have hg' : Pl.nxG st c = false := by simpa using hg
    simp only [Pl.run, hg', Bool.false_eq_true, if_false] at h
    cases hr : Pl.run d (Pl.nxS d st m c) (Pl.nxM d st m c) r with
    | none =>
      rw [hr] at h
      simp only [Option.map_none, Wr] at h
      refine ⟨?_, ?_⟩
      · rw [hg']; symm; simp; omega
      · simp only [Wr]; omega
    | some p =>
      rw [hr] at h
      simp only [Option.map_some, Wr] at h
      refine ⟨?_, ?_⟩
      · rw [hg']; symm; simp; omega
      · simp only [Wr]; omega
theorem keep_3' (d : Bool) (st m c : Int) (hb : Pl.brk c = false) (h3 : st = 3 → 0 ≤ m) (hs : Pl.nxS d st m c = 3) : 0 ≤ Pl.nxM d st m c := by
  have := keep_3 d st m c h3 (by simp only [Pl.nst, hb, Bool.false_eq_true, if_false]; exact hs)
  simpa only [Pl.nmat, hb, Bool.false_eq_true, if_false] using this
theorem keep_lo' (d : Bool) (st m c : Int) (hb : Pl.brk c = false) (hl : -9223372036854775808 ≤ m) : -9223372036854775808 ≤ Pl.nxM d st m c := by
  have := keep_lo d st m c hl
  simpa only [Pl.nmat, hb, Bool.false_eq_true, if_false] using this
theorem eff_any (b o n cap : Nat) (l : List Int) (w : World) (hn : l.length = n) (hnm : n ≤ 1048576)
    (hc : ∀ j, j < n → w.cell? ⟨b, o + j, none⟩ = some (.int .i32 (l.getD j 0))) :
    Calls Try.prog 24 #[.slice (some ⟨b, o, none⟩) n cap] w fun e w' => e = .returned (.int .i64 (Pl.eff l)) ∧ w' = w := by
  by_cases h1 : 1 ≤ n
  · exact eff_long b o n cap l w hn h1 hnm hc _ rfl
  · obtain rfl : n = 0 := by omega
    obtain rfl : l = [] := List.length_eq_zero_iff.1 hn
    exact eff_none _ cap w
theorem off_le (d : Bool) (st : Int) (l : List Int) : Pl.off d st l ≤ l.length := by
  cases l with
  | nil => simp [Pl.off]
  | cons c r => simp only [Pl.off, List.length_cons]; split <;> omega

set_option maxRecDepth 100000 in
set_option maxHeartbeats 8000000 in
theorem feed_go (d0 : Bool) (st0 m0 : Int) (g n cap : Nat) (L : List Int) (via : Bool) (w : World) (hn : L.length = n) (hnm : n ≤ 262145) (hcap : n ≤ cap) (hst : st0 = 0 ∨ st0 = 1) (hlo : -9223372036854775808 ≤ m0)
    (hc : ∀ j, j < n → w.cell? ⟨g, j, none⟩ = some (.int .i32 (L.getD j 0))) (hn1 : 1 ≤ n) :
    Calls Try.prog 11 #[.bool d0, .int .i64 st0, .int .i64 m0, .slice (some ⟨g, 0, none⟩) n cap, .bool via] w fun e w' => e = .returned (.bool true) ∧ Below w.heap.size w w' := by
  have HN : Hid (L.length = n) := hn
  clear hn
  have HC : Hid (∀ j, j < n → w.cell? ⟨g, j, none⟩ = some (.int .i32 (L.getD j 0))) := hc
  clear hc
  have hgs : g < w.heap.size := cell_lt (HC.out 0 (by omega))
  go_enter Try.func11, Try.ntmps11
  go_wp2_with fail
  go_loopw [0, 1, 2, 11, 12, 13] (fun vd vs vm vmd vstr vsx wr => ∃ (d : Bool) (st m : Int) (sm : Bool) (s : Nat), vd = .bool d ∧ vs = .int .i64 st ∧ vm = .int .i64 m ∧ vmd = .bool d ∧ vstr = .bool sm ∧ vsx = .int .i64 (s : Int) ∧ s ≤ n ∧ ((st = 0 ∧ sm = true) ∨ (st = 1 ∧ sm = false)) ∧ -9223372036854775808 ≤ m ∧ Below w.heap.size w wr) (fun _ _ _ _ _ vsx _ => n + 1 - (intOf vsx).toNat)
  case atStart =>
    refine ⟨d0, st0, m0, _, 0, rfl, rfl, rfl, rfl, rfl, rfl, by omega, ?_, hlo, Below.refl _ _⟩
    rcases hst with rfl | rfl
    · left; exact ⟨rfl, rfl⟩
    · right; exact ⟨rfl, rfl⟩
  case round =>
    obtain ⟨d, st, m, sm, s, rfl, rfl, rfl, rfl, rfl, rfl, hsn, hss, hml, hbw⟩ := hrel
    have HCr : Hid (∀ j, j < n → wr.cell? ⟨g, j, none⟩ = some (.int .i32 (L.getD j 0))) := fun j hj => (hbw.cell (p := ⟨g, j, none⟩) hgs).trans (HC.out j hj)
    clear hst hlo
    go_upto_block 2 with fail
    go_cut [14] (fun v wc => ∃ e : Nat, v = .int .i64 (e : Int) ∧ s ≤ e ∧ e ≤ n ∧ (∀ i, s ≤ i → i < e → Pl.brk (L.getD i 0) = false) ∧ (e < n → Pl.brk (L.getD e 0) = true) ∧ wr = wc)
    case first =>
      as_aux_lemma =>
        go_wp2_with fail
        go_loop [14] (fun vj => ∃ j : Nat, s ≤ j ∧ j ≤ n ∧ vj = .int .i64 (j : Int) ∧ ∀ i, s ≤ i → i < j → Pl.brk (L.getD i 0) = false) (fun vj => n - (intOf vj).toNat)
        case atStart => exact ⟨s, by omega, hsn, rfl, fun i h1 h2 => by omega⟩
        case round =>
          obtain ⟨j, hsj, hjn, rfl, hj⟩ := hrel
          have HJ : Hid (∀ i, s ≤ i → i < j → Pl.brk (L.getD i 0) = false) := hj
          clear hj
          by_cases hjl : j < n
          · have cj := HCr.out j hjl
            cases hb : Pl.brk (L.getD j 0)
            · have HJ2 : Hid (∀ i, s ≤ i → i < j + 1 → Pl.brk (L.getD i 0) = false) := fun i h1 h2 => by
                by_cases e : i = j
                · rw [e]; exact hb
                · exact HJ.out i h1 (by omega)
              generalize L.getD j 0 = c at *
              go_wp2_with (first | (go_at_call 14; refine (brk2_any _ _).mono ?_; rintro e w' ⟨rfl, rfl⟩))
              go_round
              case rel => exact ⟨j + 1, by omega, by omega, by go_num, HJ2.out⟩
              case measure => simp [intOf]; omega
            · have HB : Hid (j < n → Pl.brk (L.getD j 0) = true) := fun _ => hb
              generalize L.getD j 0 = c at cj hb
              go_wp2_with (first | (go_at_call 14; refine (brk2_any _ _).mono ?_; rintro e w' ⟨rfl, rfl⟩))
              go_meet
              exact ⟨j, rfl, hsj, by omega, HJ.out, HB.out, rfl⟩
          · go_wp2
            go_meet
            exact ⟨j, rfl, hsj, hjn, HJ.out, fun h => by omega, rfl⟩
    case rest =>
      obtain ⟨e, rfl, hse, hen, hnb, hbe, rfl⟩ := hcut
      have HNB : Hid (∀ i, s ≤ i → i < e → Pl.brk (L.getD i 0) = false) := hnb
      have HBE : Hid (e < n → Pl.brk (L.getD e 0) = true) := hbe
      clear hnb hbe
      -- the line
      obtain ⟨l, hl⟩ : ∃ l, l = (L.drop s).take (e - s) := ⟨_, rfl⟩
      have HL : Hid (l = (L.drop s).take (e - s)) := hl
      have HLL : Hid (l.length = e - s) := by
        show _ = _
        rw [hl, List.length_take, List.length_drop, HN.out]; omega
      have HLG : Hid (∀ j, j < e - s → l.getD j 0 = L.getD (s + j) 0) := by
        intro j hj
        rw [hl]
        simp [hj]
      clear hl
      go_upto_region 9 with fail
      go_cut [59] (fun v wc => ∃ b : Bool, v = .bool b ∧ (b = true ↔ (d = false ∧ st = 0 ∧ s < e ∧ L.getD s 0 = 65279)) ∧ wr = wc)
      case first =>
        as_aux_lemma =>
          have cs : s < e → wr.cell? ⟨g, s, none⟩ = some (.int .i32 (L.getD s 0)) := fun h => HCr.out s (by omega)
          rcases hss with ⟨rfl, rfl⟩ | ⟨rfl, rfl⟩
          · cases d
            · by_cases hse2 : s < e
              · have cs' := cs hse2
                clear cs
                have HZ : Hid ((L.getD s 0 == 65279) = true ↔ (false = false ∧ (0 : Int) = 0 ∧ s < e ∧ L.getD s 0 = 65279)) := by
                  show _ ↔ _
                  simp [hse2]
                generalize L.getD s 0 = c at *
                go_wp2
                go_meet
                exact ⟨_, rfl, HZ.out, rfl⟩
              · clear cs
                go_wp2
                go_meet
                exact ⟨_, rfl, by simp; omega, rfl⟩
            · clear cs
              go_wp2
              go_meet
              exact ⟨_, rfl, by simp, rfl⟩
          · clear cs
            go_wp2
            go_meet
            exact ⟨_, rfl, by simp, rfl⟩
      case rest =>
        obtain ⟨bo, rfl, hbo, rfl⟩ := hcut
        have HBO : Hid (bo = true ↔ (d = false ∧ st = 0 ∧ s < e ∧ L.getD s 0 = 65279)) := hbo
        clear hbo
        go_upto_if 59 with fail
        go_cut [15] (fun v wc => ∃ o : Nat, v = .int .i64 (o : Int) ∧ o = Pl.off d st l ∧ wr = wc)
        case first =>
          as_aux_lemma =>
            have HO : Hid (Pl.off d st l = if bo = true then 1 else 0) := by
              show _ = _
              have h1 := HLL.out
              have h2 := HLG.out
              have h3 := HBO.out
              cases l with
              | nil =>
                have : ¬ bo = true := by
                  rw [h3]; simp at h1; omega
                simp [Pl.off, this]
              | cons c r =>
                have h4 := h2 0 (by simp at h1; omega)
                simp at h4
                have h5 : s < e := by simp at h1; omega
                have h6 : bo = true ↔ (d = false ∧ st = 0 ∧ c = 65279) := by
                  rw [h3, h4]; simp [h5]
                by_cases hb : bo = true
                · rw [if_pos hb, Pl.off, if_pos (h6.1 hb)]
                · rw [if_neg hb, Pl.off, if_neg (fun h => hb (h6.2 h))]
            cases bo
            · go_wp2
              go_meet
              exact ⟨0, by go_num, by rw [HO.out]; simp, rfl⟩
            · go_wp2
              go_meet
              exact ⟨1, by go_num, by rw [HO.out]; simp, rfl⟩
        case rest =>
          obtain ⟨o, rfl, ho, rfl⟩ := hcut
          have HO : Hid (o = Pl.off d st l) := ho
          have hoe : s + o ≤ e := by
            have := off_le d st l
            rw [HLL.out] at this
            omega
          clear ho HBO
          have HLO : Hid ((l.drop o).length = e - (s + o)) := by
            show _ = _
            rw [List.length_drop, HLL.out]; omega
          have HLC : Hid (∀ j, j < e - (s + o) → wr.cell? ⟨g, s + o + j, none⟩ = some (.int .i32 ((l.drop o).getD j 0))) := by
            intro j hj
            rw [HCr.out (s + o + j) (by omega)]
            have h1 : (l.drop o).getD j 0 = l.getD (o + j) 0 := by simp
            rw [h1, HLG.out (o + j) (by omega), Nat.add_assoc]
          have HRL : Hid (Pl.tow (Pl.run d st m l) = if Pl.m2 (l.drop o) < 0 then -1 else Pl.m2 (l.drop o) + (o : Nat)) := by
            show _ = _
            rw [HO.out]
            exact Pl.run_line d st m l (by omega)
          have HEL : Hid (Pl.ends d st m l = Pl.newd d (Pl.eff (l.drop o))) := by
            show _ = _
            rw [HO.out]
            exact Pl.ends_line d st m l (by omega)
          clear HO
          go_upto_region 12 with fail
          go_cut [17] (fun v wc => ∃ q : Nat, v = .int .i64 (Pl.m2 (l.drop o)) ∧ wr.drewN q = wc)
          case first =>
            as_aux_lemma =>
              by_cases hcp : cap ≤ s + o
              · go_wp2_with fail
                refine (m2_any g 0 _ _ (l.drop o) _ HLO.out (by omega) (fun j hj => by omega)).mono ?_
                rintro e' w' ⟨rfl, q, rfl⟩
                go_wp2_with fail
                go_meet
                exact ⟨q, rfl, rfl⟩
              · have hcp' : s + o < cap := by omega
                clear hcp
                go_wp2_with fail
                refine (m2_any g (s + o) _ _ (l.drop o) _ HLO.out (by omega) HLC.out).mono ?_
                rintro e' w' ⟨rfl, q, rfl⟩
                go_wp2_with fail
                go_meet
                exact ⟨q, rfl, rfl⟩
          case rest =>
            obtain ⟨q, rfl, rfl⟩ := hcut
            have hm2 : Pl.m2 (l.drop o) ≤ 262145 := by
              have := m2_le (l.drop o)
              rw [HLO.out] at this
              omega
            have HW : Hid ((if Pl.m2 (l.drop o) < 0 then (-1 : Int) else (s : Int) + (o : Int) + Pl.m2 (l.drop o)) = if Pl.tow (Pl.run d st m l) < 0 then -1 else (s : Int) + Pl.tow (Pl.run d st m l)) := by
              show _ = _
              rw [HRL.out]
              by_cases h : Pl.m2 (l.drop o) < 0
              · simp [h]
              · have h2 : ¬ (Pl.m2 (l.drop o) + (o : Nat) < 0) := by omega
                rw [if_neg h, if_neg h, if_neg h2]; omega
            generalize Pl.m2 (l.drop o) = p at *
            clear HRL
            go_upto_if 68 with fail
            go_cut [16] (fun v wc => ∃ W : Int, v = .int .i64 W ∧ W = (if Pl.tow (Pl.run d st m l) < 0 then -1 else (s : Int) + Pl.tow (Pl.run d st m l)) ∧ wr.drewN q = wc)
            case first =>
              as_aux_lemma =>
                by_cases hp : p < 0
                · have HW2 : Hid (-1 = (if Pl.tow (Pl.run d st m l) < 0 then -1 else (s : Int) + Pl.tow (Pl.run d st m l))) := by
                    have := HW.out
                    rw [if_pos hp] at this
                    exact this
                  go_wp2
                  go_meet
                  exact ⟨_, rfl, HW2.out, rfl⟩
                · have HW2 : Hid ((s : Int) + (o : Int) + p = (if Pl.tow (Pl.run d st m l) < 0 then -1 else (s : Int) + Pl.tow (Pl.run d st m l))) := by
                    have := HW.out
                    rw [if_neg hp] at this
                    exact this
                  go_wp2
                  go_meet
                  exact ⟨_, rfl, HW2.out, rfl⟩
            case rest =>
              obtain ⟨W, rfl, hW, rfl⟩ := hcut
              have HWW : Hid (W = (if Pl.tow (Pl.run d st m l) < 0 then -1 else (s : Int) + Pl.tow (Pl.run d st m l))) := hW
              clear hW HW hm2
              go_upto_block 4 with fail
              go_cut [0, 1, 2, 18, 19] (fun vd vs vm _ _ wc => ∃ st' m' : Int, vd = .bool d ∧ vs = .int .i64 st' ∧ vm = .int .i64 m' ∧ Pl.elD d st' m' = Pl.ends d st m l ∧ (st' = 3 → 0 ≤ m') ∧ -9223372036854775808 ≤ m' ∧ Below w.heap.size w wc)
              case first =>
                as_aux_lemma =>
                  have hbq : Below w.heap.size w (wr.drewN q) := below_drewN hbw q
                  have HSS : Hid (st = 0 ∨ st = 1) := by show _ ∨ _; omega
                  clear HEL HLC HLO HCr hss
                  go_wp2_with fail
                  go_loopw [0, 1, 2, 18, 19] (fun vd vs vm vi _ wq => ∃ (st' m' : Int) (i : Nat), vd = .bool d ∧ vs = .int .i64 st' ∧ vm = .int .i64 m' ∧ vi = .int .i64 (i : Int) ∧ s ≤ i ∧ i ≤ e ∧ Wr W i (Pl.run d st' m' (l.drop (i - s))) ∧ Pl.rs d st' m' (l.drop (i - s)) = Pl.rs d st m l ∧ (st' = 3 → 0 ≤ m') ∧ -9223372036854775808 ≤ m' ∧ (i = s → st' = st) ∧ Below w.heap.size w wq) (fun _ _ _ vi _ _ => e - (intOf vi).toNat)
                  case atStart =>
                    refine ⟨st, m, s, rfl, rfl, rfl, rfl, by omega, hse, ?_, by simp, ?_, hml, fun _ => rfl, hbq⟩
                    · rw [Nat.sub_self, List.drop_zero]
                      exact wr_start W s _ HWW.out
                    · intro h
                      have := HSS.out
                      omega
                  case round =>
                    obtain ⟨st', m', i, rfl, rfl, rfl, rfl, hsi, hie, hwr, hrs, h3, hml', hfs, hbx⟩ := hrel
                    have HWR : Hid (Wr W i (Pl.run d st' m' (l.drop (i - s)))) := hwr
                    have HRS : Hid (Pl.rs d st' m' (l.drop (i - s)) = Pl.rs d st m l) := hrs
                    have HFS : Hid (i = s → st' = st) := hfs
                    clear hwr hrs hfs
                    by_cases hil : i < e
                    · have hci := (hbx.cell (p := ⟨g, i, none⟩) hgs).trans (HC.out i (by omega))
                      have hnb := HNB.out i hsi hil
                      have HDR : Hid (l.drop (i - s) = L.getD i 0 :: l.drop (i + 1 - s)) := by
                        show _ = _
                        rw [get_l l (i - s) (by rw [HLL.out]; omega), HLG.out (i - s) (by omega)]
                        congr 2
                        · congr 1; omega
                        · omega
                      have hst := wr_step W i d st' m' (L.getD i 0) (l.drop (i + 1 - s)) (by have := HWR.out; rw [HDR.out] at this; exact this)
                      have HW1 : Hid (Pl.nxG st' (L.getD i 0) = ((i : Int) == W)) := hst.1
                      have HW2 : Hid (Wr W (i + 1) (Pl.run d (Pl.nxS d st' m' (L.getD i 0)) (Pl.nxM d st' m' (L.getD i 0)) (l.drop (i + 1 - s)))) := hst.2
                      have HR2 : Hid (Pl.rs d (Pl.nxS d st' m' (L.getD i 0)) (Pl.nxM d st' m' (L.getD i 0)) (l.drop (i + 1 - s)) = Pl.rs d st m l) := by
                        show _ = _
                        rw [← HRS.out, HDR.out]; rfl
                      have H32 : Hid (Pl.nxS d st' m' (L.getD i 0) = 3 → 0 ≤ Pl.nxM d st' m' (L.getD i 0)) := by
                        have := keep_3' d st' m' (L.getD i 0) hnb h3
                        exact this
                      have hlo2 : -9223372036854775808 ≤ Pl.nxM d st' m' (L.getD i 0) := keep_lo' d st' m' (L.getD i 0) hnb hml'
                      have HZN : Hid (∀ w, Calls Try.prog 13 #[.bool d, .int .i64 st', .int .i64 m', .int .i32 (L.getD i 0)] w fun e w' => e = .returned (.tuple #[.bool (Pl.nxG st' (L.getD i 0)), .bool d, .int .i64 (Pl.nxS d st' m' (L.getD i 0)), .int .i64 (Pl.nxM d st' m' (L.getD i 0))]) ∧ Below w.heap.size w w') := by
                        intro w
                        have := zznext_any d st' m' (L.getD i 0) w h3 hml'
                        simp only [Pl.ngot, Pl.ndoc, Pl.nst, Pl.nmat, hnb, Bool.false_eq_true, if_false] at this
                        exact this
                      have HZS : Hid (i = 0 → ∀ w, Calls Try.prog 23 #[.bool d, .int .i64 st', .int .i64 m', .int .i32 (L.getD i 0)] w fun e w' => e = .returned (.tuple #[.bool d, .int .i64 (Pl.nxS d st' m' (L.getD i 0)), .int .i64 (Pl.nxM d st' m' (L.getD i 0))]) ∧ Below w.heap.size w w') := by
                        intro hi0 w
                        have h1 : st' = 0 ∨ st' = 1 := by
                          have h2 := HFS.out (by omega)
                          have h3 := HSS.out
                          omega
                        have := zzstart_any d st' m' (L.getD i 0) w
                        rw [Pl.nxS, if_pos h1, Pl.nxM, if_pos h1]
                        exact this
                      clear hst hnb HRS HWR HFS HDR HLG HNB HSS HWW
                      generalize Pl.nxS d st' m' (L.getD i 0) = st2 at *
                      generalize Pl.nxM d st' m' (L.getD i 0) = m2' at *
                      generalize Pl.nxG st' (L.getD i 0) = G at *
                      generalize L.getD i 0 = c at *
                      by_cases hv : via = true ∧ i = 0
                      · obtain ⟨rfl, hi0⟩ := hv
                        have hib : ((i : Int) == 0) = true := by simp [hi0]
                        have HZ : Hid (∀ w, Calls Try.prog 23 #[.bool d, .int .i64 st', .int .i64 m', .int .i32 c] w fun e w' => e = .returned (.tuple #[.bool d, .int .i64 st2, .int .i64 m2']) ∧ Below w.heap.size w w') := HZS.out hi0
                        clear hi0 HZS HZN
                        go_wp2_with (first | (go_at_call 23; refine (HZ.out _).mono ?_; rintro e w2 ⟨rfl, hb2⟩))
                        go_roundw
                        case rel => exact ⟨st2, m2', i + 1, rfl, rfl, rfl, by go_num, by omega, by omega, HW2.out, HR2.out, H32.out, hlo2, fun h => by omega, hbx.trans (hb2.mono hbx.size)⟩
                        case measure => simp [intOf]; omega
                      · have hvb : (via = false) ∨ (via = true ∧ ((i : Int) == 0) = false) := by
                          cases via
                          · left; rfl
                          · right; refine ⟨rfl, ?_⟩
                            simp
                            intro h
                            exact hv ⟨rfl, h⟩
                        clear hv HZS
                        have hg : (G = true ∧ ((i : Int) == W) = true) ∨ (G = false ∧ ((i : Int) == W) = false) := by
                          have := HW1.out
                          cases G
                          · right; exact ⟨rfl, this.symm⟩
                          · left; exact ⟨rfl, this.symm⟩
                        clear HW1
                        rcases hvb with rfl | ⟨rfl, hib⟩ <;> rcases hg with ⟨rfl, hgw⟩ | ⟨rfl, hgw⟩
                        all_goals
                          go_wp2_with (first | (go_at_call 13; refine (HZN.out _).mono ?_; rintro e w2 ⟨rfl, hb2⟩))
                          go_roundw
                          case rel => exact ⟨st2, m2', i + 1, rfl, rfl, rfl, by go_num, by omega, by omega, HW2.out, HR2.out, H32.out, hlo2, fun h => by omega, hbx.trans (Below.mono (by assumption) hbx.size)⟩
                          case measure => simp [intOf]; omega
                    · have HEN : Hid (Pl.elD d st' m' = Pl.ends d st m l) := by
                        show _ = _
                        have := HRS.out
                        rw [List.drop_of_length_le (by rw [HLL.out]; omega)] at this
                        rw [Pl.ends, ← this]; rfl
                      go_wp2
                      go_meet
                      exact ⟨st', m', rfl, rfl, rfl, HEN.out, h3, hml', hbx⟩
              case rest =>
                obtain ⟨st', m', rfl, rfl, rfl, hen, h3, hml', hbx⟩ := hcut
                have HEN : Hid (Pl.elD d st' m' = Pl.newd d (Pl.eff (l.drop o))) := by
                  show _ = _
                  rw [hen, HEL.out]
                clear hen HEL HWW HNB hss HCr HLC
                by_cases hel : e = n
                · have heb : ((e : Int) == (n : Int)) = true := by simp [hel]
                  clear hel
                  go_wp2
                  go_ret
                  exact ⟨rfl, hbx⟩
                · have heb : ((e : Int) == (n : Int)) = false := by simp; omega
                  have hel2 : e < n := by omega
                  have hcp : s + o < cap := by omega
                  clear hel
                  have hce := (hbx.cell (p := ⟨g, e, none⟩) hgs).trans (HC.out e hel2)
                  have hbe := HBE.out hel2
                  have HEF : Hid (Calls Try.prog 24 #[.slice (some ⟨g, s + o, none⟩) (e - (s + o)) (cap - (s + o))] wc fun e w' => e = .returned (.int .i64 (Pl.eff (l.drop o))) ∧ w' = wc) := by
                    refine eff_any g (s + o) _ _ (l.drop o) wc HLO.out (by omega) ?_
                    intro j hj
                    rw [hbx.cell (p := ⟨g, s + o + j, none⟩) hgs, HC.out (s + o + j) (by omega)]
                    have h1 : (l.drop o).getD j 0 = l.getD (o + j) 0 := by simp
                    rw [h1, HLG.out (o + j) (by omega), Nat.add_assoc]
                  have HZB : Hid (∀ w, Calls Try.prog 13 #[.bool d, .int .i64 st', .int .i64 m', .int .i32 (L.getD e 0)] w fun e w' => e = .returned (.tuple #[.bool false, .bool (Pl.newd d (Pl.eff (l.drop o))), .int .i64 1, .int .i64 m']) ∧ Below w.heap.size w w') := by
                    intro w
                    have := zznext_any d st' m' (L.getD e 0) w h3 hml'
                    simp only [Pl.ngot, Pl.ndoc, Pl.nst, Pl.nmat, hbe, if_true, HEN.out] at this
                    exact this
                  clear hbe HEN HBE HLG HLL HL HLO HN h3
                  generalize Pl.eff (l.drop o) = E at *
                  generalize L.getD e 0 = c at *
                  by_cases hE1 : E = 1
                  · have hE1b : (E == 1) = true := by simpa using hE1
                    have hnd : Pl.newd d E = true := by simp [Pl.newd, hE1]
                    rw [hnd] at HZB
                    clear hE1 hnd
                    go_wp2_with (first | (go_at_call 24; refine (HEF.out).mono ?_; rintro e' w' ⟨rfl, hw⟩; obtain rfl := hw.symm) | (go_at_call 13; refine (HZB.out _).mono ?_; rintro e' w2 ⟨rfl, hb2⟩))
                    go_roundw
                    case rel => exact ⟨true, 1, m', false, e + 1, rfl, rfl, rfl, rfl, rfl, by go_num, by omega, .inr ⟨rfl, rfl⟩, hml', hbx.trans (hb2.mono hbx.size)⟩
                    case measure => simp [intOf]; omega
                  · have hE1b : (E == 1) = false := by simpa using hE1
                    by_cases hE2 : E = 2
                    · have hE2b : (E == 2) = true := by simpa using hE2
                      have hnd : Pl.newd d E = false := by simp [Pl.newd, hE2]
                      rw [hnd] at HZB
                      clear hE1 hE2 hnd
                      go_wp2_with (first | (go_at_call 24; refine (HEF.out).mono ?_; rintro e' w' ⟨rfl, hw⟩; obtain rfl := hw.symm) | (go_at_call 13; refine (HZB.out _).mono ?_; rintro e' w2 ⟨rfl, hb2⟩))
                      go_roundw
                      case rel => exact ⟨false, 1, m', false, e + 1, rfl, rfl, rfl, rfl, rfl, by go_num, by omega, .inr ⟨rfl, rfl⟩, hml', hbx.trans (hb2.mono hbx.size)⟩
                      case measure => simp [intOf]; omega
                    · have hE2b : (E == 2) = false := by simpa using hE2
                      have hnd : Pl.newd d E = d := by simp [Pl.newd, hE1, hE2]
                      rw [hnd] at HZB
                      clear hE1 hE2 hnd
                      go_wp2_with (first | (go_at_call 24; refine (HEF.out).mono ?_; rintro e' w' ⟨rfl, hw⟩; obtain rfl := hw.symm) | (go_at_call 13; refine (HZB.out _).mono ?_; rintro e' w2 ⟨rfl, hb2⟩))
                      go_roundw
                      case rel => exact ⟨d, 1, m', false, e + 1, rfl, rfl, rfl, rfl, rfl, by go_num, by omega, .inr ⟨rfl, rfl⟩, hml', hbx.trans (hb2.mono hbx.size)⟩
                      case measure => simp [intOf]; omega
end Go.Proofs.Qxb6601280a
