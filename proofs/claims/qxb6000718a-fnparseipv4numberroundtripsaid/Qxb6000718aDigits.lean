/-
  THE WALK OF zzDigits.
-/
import Derived.Test.Qxb6000718aParse
import Derived.WalkKit
import Derived.WalkSpells
import Derived.WalkLawsBesides
import Derived.Deep.OwnRows
import Derived.Maps.AppendAt
namespace Go.Proofs.Qxb6000718a
open Go.RowKit

theorem info5 : (Try.prog.info? 5).map (fun i => (i.zero, i.size, i.bytes)) = some (some (.int .u8 0), 1, 1) := by kernel_rfl

theorem lt64 (x : Nat) (h : x < 18446744073709551616) : x < 2 ^ 64 := by
  have e : (2 : Nat) ^ 64 = 18446744073709551616 := by decide
  rw [e]; exact h
/-- the shape of a slice of bytes that the call owns -/
theorem own_shape {w : World} {base : Nat} {v : Value} {xs : List Int} (h : w.ownsRow base 5 1 v xs.length (xs.map (Value.int .u8))) :
    (v = .slice none 0 0 ∧ xs = []) ∨ ∃ g cap, v = .slice (some ⟨g, 0, none⟩) xs.length cap ∧ base ≤ g ∧ g < w.heap.size ∧ xs.length ≤ cap ∧ ∀ j, j < xs.length → w.cell? ⟨g, j, none⟩ = some (.int .u8 (xs.getD j 0)) := by
  have h' := h
  rcases h.2 with ⟨h1, h2⟩ | ⟨g, cap, cur, rfl, h2, h3, h4, h5, h6, h7⟩
  · left
    exact ⟨h1, List.length_eq_zero_iff.1 h2⟩
  · right
    refine ⟨g, cap, rfl, h2, (Array.getElem?_eq_some_iff.1 h3).1, h4, fun j hj => ?_⟩
    rw [h'.cellAt j (by omega)]
    simp [hj]

/-- zzDigits' answer: a slice of bytes of its own that holds the digits of x -/
def DigAt (w : World) (b x : Nat) (g : Nat) (cs : List Int) : Prop :=
  (∀ c ∈ cs, Pl.ok c) ∧ cs.map Pl.dgv = Pl.digs b x ∧ ∀ j, j < cs.length → w.cell? ⟨g, j, none⟩ = some (.int .u8 (cs.getD j 0))

set_option maxRecDepth 100000 in
set_option maxHeartbeats 2000000 in
theorem digits_pos (x0 b : Nat) (mask : Int) (w : World) (hb : 8 ≤ b ∧ b ≤ 16) (hx : x0 < 18446744073709551616) (hx0 : 0 < x0) (_hm0 : 0 ≤ mask) (_hm1 : mask ≤ 18446744073709551615) :
    Calls Try.prog 11 #[.int .u64 (x0 : Int), .int .u64 (b : Int), .int .u64 mask] w fun e w' => ∃ g cs, e = .returned (.slice (some ⟨g, 0, none⟩) cs.length cs.length) ∧ DigAt w' b x0 g cs ∧ w.heap.size ≤ g ∧ Below w.heap.size w w' := by
  obtain ⟨i0, hi, hz0, hz1, hz2⟩ := info_parts info5
  have hnz : ((x0 : Int) == 0) = false := by simp; omega
  obtain ⟨hb1, hb2⟩ := hb
  have hlen64 := Pl.rd_len b 64 x0
  go_enter Try.func11, Try.ntmps11
  go_wp2_with fail
  go_loopw [0, 7] (fun vn v wr => ∃ (f x : Nat) (ds : List Int), vn = .int .u64 (x : Int) ∧ x < 2 ^ f ∧ f ≤ 64 ∧ x ≤ x0 ∧ ds ++ Pl.rd b f x = Pl.rd b 64 x0 ∧ wr.ownsRow w.heap.size 5 1 v ds.length (ds.map (Value.int .u8)) ∧ Below w.heap.size w wr) (fun vn _ _ => (intOf vn).toNat)
  case atStart => exact ⟨64, x0, [], rfl, by omega, by omega, by omega, rfl, World.ownsRow_nil _ _ _ _, Below.refl _ _⟩
  case round =>
    obtain ⟨f, x, ds, rfl, hf, hf64, hxx, hds, hown, hbel⟩ := hrel
    have HDS : Hid (ds ++ Pl.rd b f x = Pl.rd b 64 x0) := hds
    have HF : Hid (x < 2 ^ f) := hf
    clear hds hf
    by_cases hxp : 0 < x
    · have hfp : ∃ f', f = f' + 1 := by
        cases f with
        | zero => have := HF.out; simp at this; omega
        | succ f => exact ⟨f, rfl⟩
      obtain ⟨f', rfl⟩ := hfp
      have hr : Pl.rd b (f' + 1) x = ((x % b : Nat) : Int) :: Pl.rd b f' (x / b) := by
        rw [Pl.rd, if_neg (by omega)]
      have hdl : ds.length + 1 ≤ 64 := by
        have h := congrArg List.length HDS.out
        rw [hr, List.length_append, List.length_cons] at h
        omega
      have HDS2 : Hid ((ds ++ [((x % b : Nat) : Int)]) ++ Pl.rd b f' (x / b) = Pl.rd b 64 x0) := by
        show _ = _
        rw [← HDS.out, hr, List.append_assoc]; rfl
      have HF2 : Hid (x / b < 2 ^ f') := by
        have h := HF.out
        rw [Nat.pow_succ] at h
        apply Nat.div_lt_of_lt_mul
        calc x < 2 ^ f' * 2 := h
          _ ≤ 2 ^ f' * b := Nat.mul_le_mul_left _ (by omega)
          _ = b * 2 ^ f' := Nat.mul_comm _ _
      have HMO : Hid ((x : Int) % (b : Int) % 256 = ((x % b : Nat) : Int)) := by
        show _ = _
        have h1 := Nat.mod_lt x (show 0 < b by omega)
        rw [← Int.natCast_emod]
        omega
      have HDV : Hid ((x / b : Nat) < x) := Nat.div_lt_self hxp (by omega)
      have hsz := hbel.size
      have hwq : IntKind.u64.wrap ((x : Int) / (b : Int)) = (x : Int) / (b : Int) := by
        refine IntWalk.u64_in _ ?_
        rw [← Int.natCast_ediv]
        have h := HDV.out
        generalize x / b = y at h ⊢
        omega
      clear hr HDS HF
      go_wp2_with (first | (at_builtin; refine wpList_append_own_at _ rfl _ _ 32 rfl w.heap.size 5 i0 (.int .u8 0) 1 1 Try.underlying32 hi hz0 hz1 hz2 rfl (by decide) _ _ _ rfl (hown.alloc _) ⟨wr.heap.size, 0, none⟩ 1 1 [.int .u8 ((x : Int) % (b : Int) % 256)] rfl rfl ?c1 ?c2 ?c3 ?c4 ?c5 ?_))
      case c1 => exact cell_one_new _ _ _
      case c2 => intro u hu; simp at hu; subst hu; rfl
      case c3 => unfold maxLen; omega
      case c4 => omega
      case c5 => simp; omega
      · intro v' w1 hown' hgrow _ hat
        have hb1' : Below w.heap.size w w1 := (hbel.alloc (by omega) _).grown hgrow (by simp; omega) (fun k hk => (hown.lt k hk).1)
        have hown2 : w1.ownsRow w.heap.size 5 1 v' (ds ++ [((x % b : Nat) : Int)]).length ((ds ++ [((x % b : Nat) : Int)]).map (Value.int .u8)) := by
          rw [HMO.out] at hown'
          simpa using hown'
        clear hown' hgrow hat hown
        go_wp2_with fail
        go_roundw
        case rel => exact ⟨f', x / b, ds ++ [((x % b : Nat) : Int)], by rw [Int.natCast_ediv], HF2.out, by omega, by have := HDV.out; omega, HDS2.out, hown2, hb1'⟩
        case measure =>
          have := HDV.out
          simp only [intOf]
          rw [← Int.natCast_ediv, Int.toNat_natCast, Int.toNat_natCast]
          exact this
    · obtain rfl : x = 0 := by omega
      have HDE : Hid (ds = Pl.rd b 64 x0) := by
        show _ = _
        have h := HDS.out
        have hz : Pl.rd b f 0 = [] := by cases f <;> simp [Pl.rd]
        rw [hz, List.append_nil] at h
        exact h
      have hne : ds ≠ [] := by
        intro e
        have h := HDE.out
        obtain ⟨d, l, h1, _⟩ := Pl.rd_last b (by omega) 64 x0 (lt64 x0 hx) (by omega)
        rw [← h, e] at h1
        simp at h1
      have HSM : Hid (∀ d ∈ ds, 0 ≤ d ∧ d < (b : Int)) := by
        intro d hd
        rw [HDE.out] at hd
        exact Pl.rd_small b (by omega) 64 x0 d hd
      have hdl : ds.length ≤ 64 := by rw [HDE.out]; exact hlen64
      have hdp : 0 < ds.length := List.length_pos_iff.2 hne
      rcases own_shape hown with ⟨_, h⟩ | ⟨g, cap, rfl, hg1, hg2, hgc, hgcell⟩
      · exact absurd h hne
      have HGC : Hid (∀ j, j < ds.length → wr.cell? ⟨g, j, none⟩ = some (.int .u8 (ds.getD j 0))) := hgcell
      have hsz := hbel.size
      clear hgcell hown HDS HF hne hlen64 hi hz0 hz1 hz2 hxx
      obtain ⟨w1, hw1⟩ : ∃ w1, w1 = wr := ⟨_, rfl⟩
      subst hw1
      obtain ⟨n, hn⟩ : ∃ n, n = ds.length := ⟨_, rfl⟩
      have HNL : Hid (n = ds.length) := hn
      rw [← hn] at hdl hdp hgc ⊢
      clear hn
      have hmk := fun w => run_make_row' (P := Try.prog) 32 5 (.int .u8 0) 1 Try.underlying32 info5 rfl .i64 .i64 n (by omega) (by omega) w
      go_wp2_with fail
      go_loopw [9] (fun vi wr => ∃ (k : Nat) (cs : List Int), k ≤ n ∧ vi = .int .i64 (k : Int) ∧ cs.length = k ∧ (∀ c ∈ cs, Pl.ok c) ∧ cs.map Pl.dgv = ds.reverse.take k ∧ wr.rowIs w1.heap.size 5 n (fun j => .int .u8 (cs.getD j 0)) ∧ Below w1.heap.size w1 wr) (fun vi _ => n - (intOf vi).toNat)
      case atStart =>
        refine ⟨0, [], by omega, rfl, rfl, by simp, by simp, (World.rowIs_made w1 _ _ _).congr (fun i _ => by simp), (Below.refl _ _).alloc (Nat.le_refl _) _⟩
      case round =>
        obtain ⟨k, cs, hk, rfl, hck, hco, hcm, hrow, hbq⟩ := hrel
        have HCK : Hid (cs.length = k) := hck
        have HCO : Hid (∀ c ∈ cs, Pl.ok c) := hco
        have HCM : Hid (cs.map Pl.dgv = ds.reverse.take k) := hcm
        have HRW : Hid (wr.rowIs w1.heap.size 5 n (fun j => .int .u8 (cs.getD j 0))) := hrow
        clear hck hco hcm
        by_cases hlt : k < n
        · have hcd : wr.cell? ⟨g, n - 1 - k, none⟩ = some (.int .u8 (ds.getD (n - 1 - k) 0)) := (hbq.cell (p := ⟨g, n - 1 - k, none⟩) hg2).trans (HGC.out _ (by have := HNL.out; omega))
          have hco0 := hrow.cell hlt
          have hfo := hrow.frozen k
          have hdr : 0 ≤ ds.getD (n - 1 - k) 0 ∧ ds.getD (n - 1 - k) 0 < (b : Int) := by
            refine HSM.out _ ?_
            have h1 : n - 1 - k < ds.length := by have := HNL.out; omega
            simp [h1]
          have HTK : Hid (ds.reverse.take (k + 1) = ds.reverse.take k ++ [ds.getD (n - 1 - k) 0]) := rev_take ds n k HNL.out hlt
          -- what one round leaves
          have HST : ∀ c : Int, Pl.ok c → Pl.dgv c = ds.getD (n - 1 - k) 0 → Hid (∃ cs' : List Int, cs'.length = k + 1 ∧ (∀ c ∈ cs', Pl.ok c) ∧ cs'.map Pl.dgv = ds.reverse.take (k + 1) ∧ (wr.setCell ⟨w1.heap.size, k, none⟩ (.int .u8 c)).rowIs w1.heap.size 5 n (fun j => .int .u8 (cs'.getD j 0))) := by
            intro c h1 h2
            refine ⟨cs ++ [c], by simp [HCK.out], ?_, ?_, ?_⟩
            · intro y hy
              rcases List.mem_append.1 hy with h | h
              · exact HCO.out y h
              · simp at h; rw [h]; exact h1
            · rw [List.map_append, HCM.out, HTK.out, ← h2]; rfl
            · refine World.rowIs.congr (HRW.out.set k _) (fun j hj => ?_)
              show (if j = k then Value.int .u8 c else Value.int .u8 (cs.getD j 0)) = Value.int .u8 ((cs ++ [c]).getD j 0)
              rw [snoc_getD cs c j k HCK.out]
              split <;> rfl
          clear hrow HRW HCM HCO HTK HCK HSM HGC
          generalize ds.getD (n - 1 - k) 0 = D at *
          generalize cs.getD k 0 = old at *
          obtain ⟨hD0, hD1⟩ := hdr
          by_cases hD : D < 10
          · obtain ⟨cs', p1, p2, p3, p4⟩ := (HST (48 + D) (.inl (by omega)) (by unfold Pl.dgv; rw [if_pos (by omega)]; omega)).out
            have P1 : Hid (cs'.length = k + 1) := p1
            have P2 : Hid (∀ c ∈ cs', Pl.ok c) := p2
            have P3 : Hid (cs'.map Pl.dgv = ds.reverse.take (k + 1)) := p3
            have P4 : Hid ((wr.setCell ⟨w1.heap.size, k, none⟩ (.int .u8 (48 + D))).rowIs w1.heap.size 5 n (fun j => .int .u8 (cs'.getD j 0))) := p4
            clear HST p1 p2 p3 p4
            go_wp2
            go_roundw
            case rel => exact ⟨k + 1, cs', by omega, by go_num, P1.out, P2.out, P3.out, P4.out, hbq.setCell (by simp) _⟩
            case measure => simp [intOf]; omega
          · have h65 := HST (55 + D) (by unfold Pl.ok; omega) (by unfold Pl.dgv; rw [if_neg (by omega), if_pos (by omega)]; omega)
            have h97 := HST (87 + D) (by unfold Pl.ok; omega) (by unfold Pl.dgv; rw [if_neg (by omega), if_neg (by omega)]; omega)
            clear HST
            have H65 : Hid (∃ cs' : List Int, cs'.length = k + 1 ∧ (∀ c ∈ cs', Pl.ok c) ∧ cs'.map Pl.dgv = ds.reverse.take (k + 1) ∧ (wr.setCell ⟨w1.heap.size, k, none⟩ (.int .u8 (65 + D - 10))).rowIs w1.heap.size 5 n (fun j => .int .u8 (cs'.getD j 0))) := by
              have := h65.out
              rw [show 55 + D = 65 + D - 10 by omega] at this
              exact this
            have H97 : Hid (∃ cs' : List Int, cs'.length = k + 1 ∧ (∀ c ∈ cs', Pl.ok c) ∧ cs'.map Pl.dgv = ds.reverse.take (k + 1) ∧ (wr.setCell ⟨w1.heap.size, k, none⟩ (.int .u8 (97 + D - 10))).rowIs w1.heap.size 5 n (fun j => .int .u8 (cs'.getD j 0))) := by
              have := h97.out
              rw [show 87 + D = 97 + D - 10 by omega] at this
              exact this
            clear h65 h97
            cases hmb : (bits BinOp.and IntKind.u64 (mask / 2 ^ (k % 64)) 1 == 1)
            · obtain ⟨cs', p1, p2, p3, p4⟩ := H97.out
              have P1 : Hid (cs'.length = k + 1) := p1
              have P2 : Hid (∀ c ∈ cs', Pl.ok c) := p2
              have P3 : Hid (cs'.map Pl.dgv = ds.reverse.take (k + 1)) := p3
              have P4 : Hid ((wr.setCell ⟨w1.heap.size, k, none⟩ (.int .u8 (97 + D - 10))).rowIs w1.heap.size 5 n (fun j => .int .u8 (cs'.getD j 0))) := p4
              clear H65 H97 p1 p2 p3 p4
              go_wp2
              go_roundw
              case rel => exact ⟨k + 1, cs', by omega, by go_num, P1.out, P2.out, P3.out, P4.out, hbq.setCell (by simp) _⟩
              case measure => simp [intOf]; omega
            · obtain ⟨cs', p1, p2, p3, p4⟩ := H65.out
              have P1 : Hid (cs'.length = k + 1) := p1
              have P2 : Hid (∀ c ∈ cs', Pl.ok c) := p2
              have P3 : Hid (cs'.map Pl.dgv = ds.reverse.take (k + 1)) := p3
              have P4 : Hid ((wr.setCell ⟨w1.heap.size, k, none⟩ (.int .u8 (65 + D - 10))).rowIs w1.heap.size 5 n (fun j => .int .u8 (cs'.getD j 0))) := p4
              clear H65 H97 p1 p2 p3 p4
              go_wp2
              go_roundw
              case rel => exact ⟨k + 1, cs', by omega, by go_num, P1.out, P2.out, P3.out, P4.out, hbq.setCell (by simp) _⟩
              case measure => simp [intOf]; omega
        · have HFI : Hid (DigAt wr b x0 w1.heap.size cs ∧ cs.length = n) := by
            have hkn : k = n := by omega
            refine ⟨⟨HCO.out, ?_, ?_⟩, by rw [HCK.out]; exact hkn⟩
            · rw [HCM.out, Pl.digs, if_neg (by omega), List.take_of_length_le (by rw [List.length_reverse]; have := HNL.out; omega), HDE.out]
            · intro j hj
              rw [HRW.out.cell (by rw [HCK.out] at hj; omega)]
          obtain ⟨hfi, hfn⟩ := HFI.out
          have HF1 : Hid (DigAt wr b x0 w1.heap.size cs) := hfi
          have HF2 : Hid (cs.length = n) := hfn
          clear hfi hfn HFI hrow
          go_wp2
          go_ret
          exact ⟨w1.heap.size, cs, by rw [HF2.out]; rfl, HF1.out, hsz, hbel.trans (hbq.mono hsz)⟩

set_option maxHeartbeats 400000 in
theorem digits_zero (b mask : Int) (w : World) :
    Calls Try.prog 11 #[.int .u64 0, .int .u64 b, .int .u64 mask] w fun e w' => e = .returned (.slice (some ⟨w.heap.size, 0, none⟩) 1 1) ∧ w' = w.alloc (.cells #[.int .u8 48] 5) := by
  go_enter Try.func11, Try.ntmps11
  go_wp2
  go_ret
  exact ⟨rfl, rfl⟩

/-- zzDigits, whole -/
theorem digits_any (x b : Nat) (mask : Int) (w : World) (hb : 8 ≤ b ∧ b ≤ 16) (hx : x < 18446744073709551616) (hm0 : 0 ≤ mask) (hm1 : mask ≤ 18446744073709551615) :
    Calls Try.prog 11 #[.int .u64 (x : Int), .int .u64 (b : Int), .int .u64 mask] w fun e w' => ∃ g cs, e = .returned (.slice (some ⟨g, 0, none⟩) cs.length cs.length) ∧ DigAt w' b x g cs ∧ w.heap.size ≤ g ∧ Below w.heap.size w w' := by
  by_cases h0 : x = 0
  · subst h0
    refine (digits_zero _ _ w).mono ?_
    rintro e w' ⟨rfl, rfl⟩
    refine ⟨w.heap.size, [48], rfl, ⟨?_, ?_, ?_⟩, Nat.le_refl _, (Below.refl _ _).alloc (Nat.le_refl _) _⟩
    · intro c hc
      simp at hc
      rw [hc]; left; omega
    · simp [Pl.digs, Pl.dgv]
    · intro j hj
      simp at hj
      subst hj
      simp
  · exact digits_pos x b mask w hb hx (by omega) hm0 hm1
end Go.Proofs.Qxb6000718a
