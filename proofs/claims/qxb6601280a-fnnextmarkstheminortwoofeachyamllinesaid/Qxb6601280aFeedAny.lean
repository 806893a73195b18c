/-
  zzFeed FOR EVERY SLICE OF RUNES THAT THE CALL ITSELF MADE.
-/
import Derived.Test.Qxb6601280aFeed
namespace Go.Proofs.Qxb6601280a
open Go.RowKit

theorem feed_any (d : Bool) (st m : Int) (ao : Option Addr) (n cap : Nat) (zs : List Int) (via : Bool) (w : World) (hst : st = 0 ∨ st = 1) (hlo : -9223372036854775808 ≤ m) (hnm : n ≤ 262145) (h : RunesAt w ao n cap zs) :
    Calls Try.prog 11 #[.bool d, .int .i64 st, .int .i64 m, .slice ao n cap, .bool via] w fun e w' => e = .returned (.bool true) ∧ Below w.heap.size w w' := by
  by_cases h0 : n = 0
  · subst h0
    refine (feed_empty d st m ao cap via w).mono ?_
    rintro e w' ⟨rfl, rfl⟩
    exact ⟨rfl, Below.refl _ _⟩
  · rcases h with ⟨_, h, _⟩ | ⟨g, rfl, hcap, hc⟩
    · exact absurd h h0
    · refine feed_go d st m g n cap ((List.range n).map (fun i => zs.getD i 0)) via w (by simp) hnm hcap hst hlo ?_ (by omega)
      intro j hj
      rw [hc j hj]
      simp [hj]
end Go.Proofs.Qxb6601280a
