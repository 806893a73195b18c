/-
  THE WALK OF zzWrite.
-/
import Derived.Test.Qxb6000718aDigits
import Derived.WalkKit
import Derived.WalkSpells
import Derived.WalkLawsBesides
import Derived.Deep.OwnRows
import Derived.Maps.AppendAt
import Derived.Laws.BytesArg
import Derived.Deep.DeepCutAuto
import Derived.Deep.CutBlock
namespace Go.Proofs.Qxb6000718a
open Go.RowKit

/-- a slice of bytes that the call owns -/
abbrev Own (w : World) (base : Nat) (v : Value) (cs : List Int) : Prop := w.ownsRow base 5 1 v cs.length (cs.map (Value.int .u8))

theorem own_below {w w' : World} {base : Nat} {v : Value} {cs : List Int} (h : Own w base v cs) (hb : Below w.heap.size w w') : Own w' base v cs := by
  refine ⟨h.1, ?_⟩
  rcases h.2 with h1 | ⟨g, cap, cur, h1, h2, h3, h4⟩
  · exact .inl h1
  · refine .inr ⟨g, cap, cur, h1, h2, ?_, h4⟩
    rw [hb.block g (Array.getElem?_eq_some_iff.1 h3).1]
    exact h3
theorem own_snoc {w : World} {base : Nat} {v : Value} {cs : List Int} {c : Int} (h : w.ownsRow base 5 1 v (cs.length + 1) (cs.map (Value.int .u8) ++ [.int .u8 c])) : Own w base v (cs ++ [c]) := by
  simpa [Own] using h

/-- string(b) of a slice of bytes that the call owns, not empty -/
theorem own_string {w : World} {base : Nat} {v : Value} {cs : List Int} (h : Own w base v cs) (hne : cs ≠ []) :
    (convert 32 9 v).run Try.prog w = .ok (.string (strOfNums cs)) w := by
  rcases own_shape h with ⟨_, h1⟩ | ⟨g, cap, rfl, _, _, _, hc⟩
  · exact absurd h1 hne
  · exact run_convert_bytes_arg w 32 5 Try.underlying32 Try.underlying5 g 0 cs.length cap cs rfl (fun i hi => by simpa using hc i hi) 9 Try.underlying9

set_option maxRecDepth 100000 in
set_option maxHeartbeats 2000000 in
theorem write_dec (x : Nat) (form pad : Int) (up : Bool) (mask : Int) (w : World) (hx : x < 18446744073709551616) (hf0 : 0 ≤ form) (hf1 : form ≤ 255) (hf : (form % 3 == 0) = true) :
    Calls Try.prog 6 #[.int .u64 (x : Int), .int .u8 form, .int .u8 pad, .bool up, .int .u64 mask] w fun e w' => ∃ cs, e = .returned (.string (strOfNums cs)) ∧ (∀ c ∈ cs, Pl.ok c) ∧ cs.map Pl.dgv = Pl.digs 10 x ∧ Below w.heap.size w w' := by
  have HD : Hid (∀ w, Calls Try.prog 11 #[.int .u64 (x : Int), .int .u64 10, .int .u64 0] w fun e w' => ∃ g cs, e = .returned (.slice (some ⟨g, 0, none⟩) cs.length cs.length) ∧ DigAt w' 10 x g cs ∧ w.heap.size ≤ g ∧ Below w.heap.size w w') := fun w => digits_any x 10 0 w (by omega) hx (by omega) (by omega)
  go_enter Try.func6, Try.ntmps6
  go_wp2_with fail
  refine (HD.out _).mono ?_
  rintro e w1 ⟨g, cs, rfl, ⟨hd1, hd2, hd3⟩, hg, hb⟩
  have hcv := run_convert_bytes_arg (P := Try.prog) w1 32 5 Try.underlying32 Try.underlying5 g 0 cs.length cs.length cs rfl (fun i hi => by simpa using hd3 i hi) 9 Try.underlying9
  have H1 : Hid (∀ c ∈ cs, Pl.ok c) := hd1
  have H2 : Hid (cs.map Pl.dgv = Pl.digs 10 x) := hd2
  clear hd1 hd2 hd3
  go_wp2_with fail
  go_ret
  exact ⟨cs, rfl, H1.out, H2.out, hb⟩

set_option maxRecDepth 100000 in
set_option maxHeartbeats 2000000 in
theorem write_go (x base p : Nat) (form : Int) (up : Bool) (mask : Int) (pre : List Int) (w : World) (hx : x < 18446744073709551616) (hf0 : 0 ≤ form) (hf1 : form ≤ 255) (hp : p ≤ 255) (hm0 : 0 ≤ mask) (hm1 : mask ≤ 18446744073709551615)
    (hf : (form % 3 == 0) = false) (hk : ((form % 3 == 2) = false ∧ base = 8 ∧ pre = [48]) ∨ ((form % 3 == 2) = true ∧ base = 16 ∧ pre = [48, if up = true then 88 else 120])) :
    Calls Try.prog 6 #[.int .u64 (x : Int), .int .u8 form, .int .u8 (p : Int), .bool up, .int .u64 mask] w fun e w' => ∃ cs, e = .returned (.string (strOfNums (pre ++ List.replicate p 48 ++ cs))) ∧ (∀ c ∈ cs, Pl.ok c) ∧ cs.map Pl.dgv = Pl.digs base x ∧ Below w.heap.size w w' := by
  obtain ⟨i0, hi, hz0, hz1, hz2⟩ := info_parts info5
  have hbs : 8 ≤ base ∧ base ≤ 16 := by omega
  have HD : Hid (∀ w, Calls Try.prog 11 #[.int .u64 (x : Int), .int .u64 (base : Int), .int .u64 mask] w fun e w' => ∃ g cs, e = .returned (.slice (some ⟨g, 0, none⟩) cs.length cs.length) ∧ DigAt w' base x g cs ∧ w.heap.size ≤ g ∧ Below w.heap.size w w') := fun w => digits_any x base mask w hbs hx hm0 hm1
  have HK : Hid (((form % 3 == 2) = false ∧ base = 8 ∧ pre = [48]) ∨ ((form % 3 == 2) = true ∧ base = 16 ∧ pre = [48, if up = true then 88 else 120])) := hk
  have hpl : pre.length ≤ 2 ∧ pre ≠ [] := by
    rcases hk with ⟨_, _, h⟩ | ⟨_, _, h⟩ <;> rw [h] <;> simp
  obtain ⟨hpl, hpn⟩ := hpl
  have HPN : Hid (pre ≠ []) := hpn
  clear hk hpn
  go_enter Try.func6, Try.ntmps6
  go_upto_region 5 with fail
  go_cut [12] (fun v wc => Own wc w.heap.size v [48] ∧ Below w.heap.size w wc)
  case first =>
    have hnil : Own w w.heap.size (.slice none 0 0) [] := World.ownsRow_nil _ _ _ _
    go_wp2_with (first | (at_builtin; refine wpList_append_own_at _ rfl _ _ 32 rfl w.heap.size 5 i0 (.int .u8 0) 1 1 Try.underlying32 hi hz0 hz1 hz2 rfl (by decide) _ _ _ rfl (hnil.alloc _) ⟨w.heap.size, 0, none⟩ 1 1 [.int .u8 48] rfl rfl ?c1 ?c2 ?c3 ?c4 ?c5 ?_))
    case c1 => exact cell_one_new _ _ _
    case c2 => intro u hu; simp at hu; subst hu; rfl
    case c3 => unfold maxLen; first | (simp; done) | (simp; omega) | omega
    case c4 => first | (simp; done) | (simp; omega) | omega
    case c5 => first | (simp; done) | (simp; omega) | omega
    · intro v' w1 hown' hgrow _ hat
      have hb1 : Below w.heap.size w w1 := ((Below.refl _ w).alloc (Nat.le_refl _) _).grown hgrow (by simp) (fun k hk => by simp [Value.ownBlock] at hk)
      have hown2 : Own w1 w.heap.size v' [48] := own_snoc (cs := []) hown'
      clear hown' hgrow hat hnil
      go_wp2_with fail
      go_meet
      exact ⟨hown2, hb1⟩
  case rest =>
    obtain ⟨hown1, hb1⟩ := hcut
    have hsz1 := hb1.size
    go_upto_if 28 with fail
    go_cut [12, 13] (fun v vb wc => vb = .int .u64 (base : Int) ∧ Own wc w.heap.size v pre ∧ Below w.heap.size w wc)
    case first =>
      obtain ⟨w1, hw1⟩ : ∃ w1, w1 = wc := ⟨_, rfl⟩
      subst hw1
      rcases HK.out with ⟨h1, rfl, rfl⟩ | ⟨h1, rfl, hpre⟩
      · clear HD HK HPN
        go_wp2_with fail
        go_meet
        exact ⟨rfl, hown1, hb1⟩
      · cases up
        · obtain rfl : pre = [48, 120] := by simpa using hpre
          clear HD HK HPN hpre
          go_wp2_with (first | (at_builtin; refine wpList_append_own_at _ rfl _ _ 32 rfl w.heap.size 5 i0 (.int .u8 0) 1 1 Try.underlying32 hi hz0 hz1 hz2 rfl (by decide) _ _ _ rfl (hown1.alloc _) ⟨w1.heap.size, 0, none⟩ 1 1 [.int .u8 120] rfl rfl ?c1 ?c2 ?c3 ?c4 ?c5 ?_))
          case c1 => exact cell_one_new _ _ _
          case c2 => intro u hu; simp at hu; subst hu; rfl
          case c3 => unfold maxLen; first | (simp; done) | (simp; omega) | omega
          case c4 => first | (simp; done) | (simp; omega) | omega
          case c5 => first | (simp; done) | (simp; omega) | omega
          · intro v' w2 hown' hgrow _ hat
            have hb2 : Below w.heap.size w w2 := (hb1.alloc (by omega) _).grown hgrow (by simp; omega) (fun k hk => (hown1.lt k hk).1)
            have hown2 : Own w2 w.heap.size v' [48, 120] := own_snoc (cs := [48]) hown'
            clear hown' hgrow hat hown1
            go_wp2_with fail
            go_meet
            exact ⟨rfl, hown2, hb2⟩
        · obtain rfl : pre = [48, 88] := by simpa using hpre
          clear HD HK HPN hpre
          go_wp2_with (first | (at_builtin; refine wpList_append_own_at _ rfl _ _ 32 rfl w.heap.size 5 i0 (.int .u8 0) 1 1 Try.underlying32 hi hz0 hz1 hz2 rfl (by decide) _ _ _ rfl (hown1.alloc _) ⟨w1.heap.size, 0, none⟩ 1 1 [.int .u8 88] rfl rfl ?c1 ?c2 ?c3 ?c4 ?c5 ?_))
          case c1 => exact cell_one_new _ _ _
          case c2 => intro u hu; simp at hu; subst hu; rfl
          case c3 => unfold maxLen; first | (simp; done) | (simp; omega) | omega
          case c4 => first | (simp; done) | (simp; omega) | omega
          case c5 => first | (simp; done) | (simp; omega) | omega
          · intro v' w2 hown' hgrow _ hat
            have hb2 : Below w.heap.size w w2 := (hb1.alloc (by omega) _).grown hgrow (by simp; omega) (fun k hk => (hown1.lt k hk).1)
            have hown2 : Own w2 w.heap.size v' [48, 88] := own_snoc (cs := [48]) hown'
            clear hown' hgrow hat hown1
            go_wp2_with fail
            go_meet
            exact ⟨rfl, hown2, hb2⟩
    case rest =>
      obtain ⟨rfl, hown2, hb2⟩ := hcut
      clear HK hown1 hb1 hsz1
      go_wp2_with fail
      go_loopw [12, 14] (fun v vi wr => ∃ k : Nat, k ≤ p ∧ vi = .int .i64 (k : Int) ∧ Own wr w.heap.size v (pre ++ List.replicate k 48) ∧ Below w.heap.size w wr) (fun _ vi _ => p - (intOf vi).toNat)
      case atStart => exact ⟨0, by omega, rfl, by simpa using hown2, hb2⟩
      case round =>
        obtain ⟨k, hk, rfl, hown3, hb3⟩ := hrel
        have hsz3 := hb3.size
        obtain ⟨cs, hcs⟩ : ∃ cs, cs = pre ++ List.replicate k 48 := ⟨_, rfl⟩
        have HCS : Hid (cs = pre ++ List.replicate k 48) := hcs
        have hln : cs.length ≤ 257 := by rw [hcs]; simp; omega
        rw [← hcs] at hown3
        clear hcs
        by_cases hlt : k < p
        · clear HD hown2
          go_wp2_with (first | (at_builtin; refine wpList_append_own_at _ rfl _ _ 32 rfl w.heap.size 5 i0 (.int .u8 0) 1 1 Try.underlying32 hi hz0 hz1 hz2 rfl (by decide) _ _ _ rfl (hown3.alloc _) ⟨wr.heap.size, 0, none⟩ 1 1 [.int .u8 48] rfl rfl ?c1 ?c2 ?c3 ?c4 ?c5 ?_))
          case c1 => exact cell_one_new _ _ _
          case c2 => intro u hu; simp at hu; subst hu; rfl
          case c3 => unfold maxLen; first | (simp; done) | (simp; omega) | omega
          case c4 => first | (simp; done) | (simp; omega) | omega
          case c5 => first | (simp; done) | (simp; omega) | omega
          · intro v' w4 hown' hgrow _ hat
            have hb4 : Below w.heap.size w w4 := (hb3.alloc (by omega) _).grown hgrow (by simp; omega) (fun k hk => (hown3.lt k hk).1)
            have hown4 : Own w4 w.heap.size v' (pre ++ List.replicate (k + 1) 48) := by
              have := own_snoc hown'
              rw [HCS.out, List.append_assoc, ← List.replicate_succ'] at this
              exact this
            clear hown' hgrow hat hown3
            go_wp2_with fail
            go_roundw
            case rel => exact ⟨k + 1, by omega, by go_num, hown4, hb4⟩
            case measure => simp [intOf]; omega
        · have HCS2 : Hid (cs = pre ++ List.replicate p 48) := by
            show _ = _
            rw [HCS.out]; congr 2; omega
          clear HCS hown2 hb2
          obtain ⟨w3, hw3⟩ : ∃ w3, w3 = wr := ⟨_, rfl⟩
          subst hw3
          go_wp2_with fail
          refine (HD.out _).mono ?_
          rintro e w5 ⟨gd, ds, rfl, ⟨hd1, hd2, hd3⟩, hgd, hb5⟩
          have H1 : Hid (∀ c ∈ ds, Pl.ok c) := hd1
          have H2 : Hid (ds.map Pl.dgv = Pl.digs base x) := hd2
          have hdl : ds.length ≤ 64 := by
            have h := congrArg List.length hd2
            rw [List.length_map] at h
            rw [h, Pl.digs]
            split
            · simp
            · rw [List.length_reverse]; exact Pl.rd_len base 64 x
          have hdp : 0 < ds.length := by
            have h := congrArg List.length hd2
            rw [List.length_map] at h
            rw [h, Pl.digs]
            split
            · simp
            · rename_i hx0
              obtain ⟨d, l, h1, _⟩ := Pl.rd_last base (by omega) 64 x (lt64 x hx) hx0
              rw [h1]; simp
          have hgs : gd < w5.heap.size := World.block_lt_of_cell? w5 _ (hd3 0 hdp)
          have HDC : Hid (∀ j, j < ds.length → w5.cell? ⟨gd, j, none⟩ = some (.int .u8 (ds.getD j 0))) := hd3
          have hown5 : Own w5 w.heap.size u12 cs := own_below hown3 hb5
          have hne5 : u12.ownBlock ≠ some gd := by
            intro e
            have := (hown3.lt gd e).2
            omega
          have hbw5 : Below w.heap.size w w5 := hb3.trans (hb5.mono hsz3)
          clear hd1 hd2 hd3 hown3 hb3 hb5 HD
          obtain ⟨n, hn⟩ : ∃ n, n = ds.length := ⟨_, rfl⟩
          have HNL : Hid (n = ds.length) := hn
          rw [← hn] at hdl hdp ⊢
          clear hn
          go_wp2_with fail
          go_loopw [12, 16] (fun v vi wr => ∃ i : Nat, i ≤ n ∧ vi = .int .i64 (i : Int) ∧ Own wr w.heap.size v (cs ++ ds.take i) ∧ v.ownBlock ≠ some gd ∧ (∀ j, j < ds.length → wr.cell? ⟨gd, j, none⟩ = some (.int .u8 (ds.getD j 0))) ∧ gd < wr.heap.size ∧ Below w.heap.size w wr) (fun _ vi _ => n - (intOf vi).toNat)
          case atStart => exact ⟨0, by omega, rfl, by simpa using hown5, hne5, HDC.out, hgs, hbw5⟩
          case round =>
            obtain ⟨i, hi', rfl, hown6, hne6, hdc6, hgs6, hb6⟩ := hrel
            have HDC6 : Hid (∀ j, j < ds.length → wr.cell? ⟨gd, j, none⟩ = some (.int .u8 (ds.getD j 0))) := hdc6
            have hsz6 := hb6.size
            obtain ⟨es, hes⟩ : ∃ es, es = cs ++ ds.take i := ⟨_, rfl⟩
            have HES : Hid (es = cs ++ ds.take i) := hes
            have hel : es.length ≤ 321 := by
              rw [hes, List.length_append, List.length_take]; omega
            rw [← hes] at hown6
            clear hdc6 hes hown5 hne5 hbw5 HDC hgs
            by_cases hil : i < n
            · have hcx := HDC6.out i (by have := HNL.out; omega)
              have HTS : Hid (ds.take (i + 1) = ds.take i ++ [ds.getD i 0]) := by
                show _ = _
                have h1 : i < ds.length := by have := HNL.out; omega
                rw [List.take_succ_eq_append_getElem h1, List.getD, List.getElem?_eq_getElem h1]
                rfl
              generalize ds.getD i 0 = y at hcx HTS
              go_wp2_with (first | (at_builtin; refine wpList_append_own_at _ rfl _ _ 32 rfl w.heap.size 5 i0 (.int .u8 0) 1 1 Try.underlying32 hi hz0 hz1 hz2 rfl (by decide) _ _ _ rfl (hown6.alloc _) ⟨wr.heap.size, 0, none⟩ 1 1 [.int .u8 y] rfl rfl ?d1 ?d2 ?d3 ?d4 ?d5 ?_))
              case d1 => exact cell_one_new _ _ _
              case d2 => intro u hu; simp at hu; subst hu; rfl
              case d3 => unfold maxLen; first | (simp; done) | (simp; omega) | omega
              case d4 => first | (simp; done) | (simp; omega) | omega
              case d5 => first | (simp; done) | (simp; omega) | omega
              · intro v' w7 hown' hgrow _ hat
                have hb7 : Below w.heap.size w w7 := (hb6.alloc (by omega) _).grown hgrow (by simp; omega) (fun k hk => (hown6.lt k hk).1)
                have hown7 : Own w7 w.heap.size v' (cs ++ ds.take (i + 1)) := by
                  have := own_snoc hown'
                  rw [HES.out, List.append_assoc, ← HTS.out] at this
                  exact this
                have hne7 : v'.ownBlock ≠ some gd := by
                  rcases hat with h | h
                  · rw [h]; exact hne6
                  · rw [h]; simp; omega
                have hgs7 : gd < w7.heap.size := by
                  have := hgrow.size
                  simp at this
                  omega
                have HDC7 : Hid (∀ j, j < ds.length → w7.cell? ⟨gd, j, none⟩ = some (.int .u8 (ds.getD j 0))) := by
                  intro j hj
                  rw [World.cell?_of_block (w := wr.alloc (.cells #[.int .u8 y] 5)) (hgrow.block gd (by simp; omega) (fun e => hne6 e.symm))]
                  rw [World.cell?_alloc_lt _ _ _ (by exact hgs6)]
                  exact HDC6.out j hj
                clear hown' hgrow hat hown6 hne6 hcx
                go_wp2_with fail
                go_roundw
                case rel => exact ⟨i + 1, by omega, by go_num, hown7, hne7, HDC7.out, hgs7, hb7⟩
                case measure => simp [intOf]; omega
            · have HFE : Hid (es = pre ++ List.replicate p 48 ++ ds) := by
                show _ = _
                rw [HES.out, HCS2.out, List.take_of_length_le (by have := HNL.out; omega)]
              have hcv := own_string hown6 (by rw [HFE.out]; have := HPN.out; simp [this])
              clear hown6 hne6
              go_wp2_with fail
              go_ret
              exact ⟨ds, by rw [← HFE.out]; rfl, H1.out, H2.out, hb6⟩
end Go.Proofs.Qxb6000718a
