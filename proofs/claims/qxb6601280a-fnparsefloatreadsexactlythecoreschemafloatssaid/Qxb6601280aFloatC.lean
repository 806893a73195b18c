import Derived.Test.Qxb6601280aFloatB
import Derived.WalkKit
import Derived.WalkSpells
import Derived.WalkLawsBesides
import Derived.Deep.QuietTactic
import Derived.BigQuiet
namespace Go.Proofs.Qxb6601280a
open Go.RowKit

theorem results_tmp5 {fn : Func} {t u v x y : Tmp} (h : fn.results = #[.tmp t, .tmp u, .tmp v, .tmp x, .tmp y]) (tmps : Array Value) (P : Program) (w : World) :
    (results fn tmps).run P w = .ok (.tuple #[tmps.getD t undef, tmps.getD u undef, tmps.getD v undef, tmps.getD x undef, tmps.getD y undef]) w := by
  simp [results, h]

set_option maxHeartbeats 400000 in
theorem pf_empty (s r : ByteArray) (w : World) (hs : s.size = 0) (hr : r.size = 0)
    (H33 : Hid (∀ w, Calls Try.prog 33 #[.string s] w fun e w' => e = .returned (.string r) ∧ w' = w))
    (H34 : Hid (∀ w, Calls Try.prog 34 #[.string r, .int .i64 0] w fun e w' => e = .returned (.int .i64 0) ∧ w' = w)) :
    Calls Try.prog 26 #[.string s] w fun e w' => e = .returned (pval Tx.zero) ∧ Below w.heap.size w w' := by
  have he := empty_yes hs
  have he2 : (r.extract 0 0).toList.isEmpty = true := empty_yes (by simp)
  clear hs
  go_enter Try.func26, Try.ntmps26
  go_wp2_with (first | (go_at_call 33; refine (H33.out _).mono ?_; rintro e w' ⟨rfl, rfl⟩) | (go_at_call 34; refine (H34.out _).mono ?_; rintro e w' ⟨rfl, rfl⟩))
  refine bodyPost_ret (v := pval Tx.zero) (by simp [results, Try.results26, go_sem, Tx.zero, Tx.S]) rfl ⟨rfl, ?_⟩
  exact (Below.refl _ _).alloc (Nat.le_refl _) _

theorem parse_any (s : ByteArray) (w : World) (hs : s.size ≤ 1048576) :
    Calls Try.prog 26 #[.string s] w fun e w' => e = .returned (pval (Tx.parse (Tx.L s))) ∧ Below w.heap.size w w' := by
  have hus : (Tx.S (Tx.uns (Tx.L s))).size ≤ s.size := by
    rw [Tx.size_S, Tx.uns_eq, List.length_drop, ← Tx.size_L]; omega
  have H33 : Hid (∀ w, Calls Try.prog 33 #[.string s] w fun e w' => e = .returned (.string (Tx.S (Tx.uns (Tx.L s)))) ∧ w' = w) := fun w => unsigned_any s w hs
  have H34 : Hid (∀ w, Calls Try.prog 34 #[.string (Tx.S (Tx.uns (Tx.L s))), .int .i64 0] w fun e w' => e = .returned (.int .i64 ((Tx.cnt (Tx.uns (Tx.L s)) : Nat) : Int)) ∧ w' = w) := fun w => by
    have := digitsEnd_any (Tx.S (Tx.uns (Tx.L s))) 0 w (by omega) (by omega)
    simpa [Tx.L_S] using this
  by_cases h0 : s.size = 0
  · have hl := nil_L h0
    have hz : Tx.parse (Tx.L s) = Tx.zero := by rw [hl]; rfl
    rw [hz]
    rw [hl] at H34 hus H33
    exact pf_empty s _ w h0 (by omega) H33 H34
  · have hp : 0 < s.size := by omega
    have hn : (((s[0]'hp).toNat : Int) == 45) = Tx.neg (Tx.L s) := by rw [head_L hp]; rfl
    have hcl := Tx.cnt_le (Tx.uns (Tx.L s))
    have := pf_core s (Tx.S (Tx.uns (Tx.L s))) (Tx.cnt (Tx.uns (Tx.L s))) w (by omega) hp (by rw [Tx.size_S]; exact hcl) _ hn H33 H34
      ((Tx.uns (Tx.L s)).take (Tx.cnt (Tx.uns (Tx.L s)))) _ _ (by show _ = _; rw [Tx.extract_S, Tx.L_S]; simp) rfl
    exact this

set_option maxHeartbeats 400000 in
theorem zzparse_any (s : ByteArray) (w : World) (hs : s.size ≤ 1048576) :
    Calls Try.prog 17 #[.string s] w fun e w' => e = .returned (.tuple #[.bool (Tx.parse (Tx.L s)).neg, .string (Tx.S (Tx.parse (Tx.L s)).w), .string (Tx.S (Tx.parse (Tx.L s)).f), .string (Tx.S (Tx.parse (Tx.L s)).x), .bool (Tx.parse (Tx.L s)).ok]) ∧ Below w.heap.size w w' := by
  have Hc : Hid (∀ w, Calls Try.prog 26 #[.string s] w fun e w' => e = .returned (pval (Tx.parse (Tx.L s))) ∧ Below w.heap.size w w') := fun w => parse_any s w hs
  generalize Tx.parse (Tx.L s) = p at *
  go_enter Try.func17, Try.ntmps17
  go_wp2_with (first | (go_at_call 26; refine (Hc.out _).mono ?_; rintro e w1 ⟨rfl, hb1⟩))
  go_quiet (fail)
  go_wp2
  refine bodyPost_ret (results_tmp5 rfl _ _ _) rfl ?_
  exact ⟨rfl, below_drewN (hb1.alloc hb1.size _) _⟩
end Go.Proofs.Qxb6601280a
