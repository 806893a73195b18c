/-
  THE WALKS OF ZZNext, ZZStartLine (the finder handed over as its three fields) AND OF zzCopyRunes (a fresh copy of a slice of runes).
-/
import Derived.Test.Qxb6601280aNext
import Derived.WalkKit
import Derived.WalkSpells
import Derived.WalkLawsBesides
import Derived.Deep.QuietTactic
import Derived.BigQuiet
import Derived.Deep.OwnRows
namespace Go.Proofs.Qxb6601280a
open Go.RowKit

set_option maxHeartbeats 400000 in
theorem zznext_any (d : Bool) (st m c : Int) (w : World) (h3 : st = 3 → 0 ≤ m) (hlo : -9223372036854775808 ≤ m) :
    Calls Try.prog 13 #[.bool d, .int .i64 st, .int .i64 m, .int .i32 c] w fun e w' =>
      e = .returned (.tuple #[.bool (Pl.ngot st c), .bool (Pl.ndoc d st m c), .int .i64 (Pl.nst d st m c), .int .i64 (Pl.nmat d st m c)]) ∧ Below w.heap.size w w' := by
  go_enter Try.func13, Try.ntmps13
  go_wp2_with (go_at_call 25; refine (next_any _ _ _ _ _ h3 hlo).mono ?_; rintro e w' ⟨rfl, rfl⟩)
  go_quiet (fail)
  go_wp2
  refine bodyPost_ret (results_tmp4 rfl _ _ _) rfl ?_
  exact ⟨rfl, below_drewN ((Below.refl _ _).alloc (Nat.le_refl _) _) _⟩

set_option maxHeartbeats 400000 in
theorem zzstart_any (d : Bool) (st m c : Int) (w : World) :
    Calls Try.prog 23 #[.bool d, .int .i64 st, .int .i64 m, .int .i32 c] w fun e w' =>
      e = .returned (.tuple #[.bool d, .int .i64 (Pl.slS d st c), .int .i64 (Pl.slM d st m c)]) ∧ Below w.heap.size w w' := by
  go_enter Try.func23, Try.ntmps23
  go_wp2_with (go_at_call 30; refine (startLine_any _ _ _ _ _).mono ?_; rintro e w' ⟨rfl, rfl⟩)
  go_quiet (fail)
  go_wp2
  go_ret3
  exact ⟨rfl, below_drewN ((Below.refl _ _).alloc (Nat.le_refl _) _) _⟩

theorem info21 : (Try.prog.info? 21).map (fun i => (i.zero, i.size, i.bytes)) = some (some (.int .i32 0), 1, 4) := by kernel_rfl

theorem cell_lt {w : World} {a : Addr} {v : Value} (h : w.cell? a = some v) : a.block < w.heap.size := World.block_lt_of_cell? w a h

set_option maxHeartbeats 400000 in
theorem copy_some (b off len cap : Nat) (zs : List Int) (w : World) (hp : 0 < len) (hl : len ≤ cap) (hlen : len ≤ 262144) (hz : zs.length = cap)
    (hc : ∀ j, j < zs.length → w.cell? ⟨b, off + j, none⟩ = some (.int .i32 (zs.getD j 0))) :
    Calls Try.prog 10 #[.slice (some ⟨b, off, none⟩) len cap] w fun e w' => e = .returned (.slice (some ⟨w.heap.size, 0, none⟩) len len) ∧
      w'.rowIs w.heap.size 21 len (fun i => .int .i32 (zs.getD i 0)) ∧ Below w.heap.size w w' := by
  have hbb : b < w.heap.size := cell_lt (hc 0 (by omega))
  have hnil := fun w => Lib.run_eql_slice_nil (P := Try.prog) w 22 21 (some ⟨b, off, none⟩) len cap 0 0 Try.underlying22
  have hmk := fun w => run_make_row' (P := Try.prog) 22 21 (.int .i32 0) 4 Try.underlying22 info21 rfl .i64 .i64 len (by omega) (by omega) w
  go_enter Try.func10, Try.ntmps10
  go_wp2
  go_loopw [4] (fun i wr => ∃ k : Nat, k ≤ len ∧ i = .int .i64 k ∧ wr.rowIs w.heap.size 21 len (fun j => if j < k then .int .i32 (zs.getD j 0) else .int .i32 0) ∧ Below w.heap.size w wr)
    (fun i _ => len - (intOf i).toNat)
  case atStart => exact ⟨0, Nat.zero_le _, rfl, (World.rowIs_made w _ _ _).congr (fun i _ => by simp), (Below.refl _ _).alloc (Nat.le_refl _) _⟩
  case round =>
    obtain ⟨k, hk, rfl, hrow, hbel⟩ := hrel
    by_cases hlt : k < len
    · have hcx : wr.cell? ⟨b, off + k, none⟩ = some (.int .i32 (zs.getD k 0)) := (hbel.cell (p := ⟨b, off + k, none⟩) hbb).trans (hc k (by omega))
      have hco := hrow.cell hlt
      have hfo := hrow.frozen k
      have hset := hrow.set k (.int .i32 (zs.getD k 0))
      go_wp2
      go_roundw
      case rel =>
        refine ⟨k + 1, by omega, by go_num, ?_, hbel.setCell (by simp) _⟩
        refine World.rowIs.congr hset (fun j hj => ?_)
        by_cases e : j = k
        · subst e; simp
        · have : (j < k + 1) ↔ j < k := by omega
          simp [e, this]
      case measure => simp [intOf]; omega
    · go_wp2
      go_ret
      refine ⟨rfl, hrow.congr (fun j hj => ?_), hbel⟩
      rw [if_pos (by omega)]

set_option maxHeartbeats 400000 in
/-- an empty slice that is not nil -/
theorem copy_none (x : Addr) (cap : Nat) (w : World) :
    Calls Try.prog 10 #[.slice (some x) 0 cap] w fun e w' => e = .returned (.slice (some ⟨w.heap.size, 0, none⟩) 0 0) ∧ Below w.heap.size w w' := by
  have hnil := fun w => Lib.run_eql_slice_nil (P := Try.prog) w 22 21 (some x) 0 cap 0 0 Try.underlying22
  have hmk : ∀ w, (Instr.makeSlice 22 (.int .i64 0) (.int .i64 0)).run Try.prog w = .ok (.slice (some ⟨w.heap.size, 0, none⟩) 0 0) (w.alloc (.cells (madeCells #[.int .i32 0] 0) 21)) :=
    fun w => run_make_row' (P := Try.prog) 22 21 (.int .i32 0) 4 Try.underlying22 info21 rfl .i64 .i64 0 (by omega) (by omega) w
  go_enter Try.func10, Try.ntmps10
  go_wp2
  refine wp_loop_rounds 1 ?_
  rw [rounds_succ]
  go_wp2
  go_ret
  exact ⟨rfl, (Below.refl _ _).alloc (Nat.le_refl _) _⟩

set_option maxHeartbeats 400000 in
theorem copy_nil (w : World) :
    Calls Try.prog 10 #[.slice none 0 0] w fun e w' => e = .returned (.slice none 0 0) ∧ w' = w := by
  have hnil := fun w => Lib.run_eql_slice_nil (P := Try.prog) w 22 21 none 0 0 0 0 Try.underlying22
  go_enter Try.func10, Try.ntmps10
  go_wp2
  go_ret
  exact ⟨rfl, rfl⟩

/-- WHAT A SLICE OF RUNES THAT THE CALL ITSELF MADE HOLDS: nil and nothing; or the n numbers xs, at the head of a block. -/
def RunesAt (w : World) (ao : Option Addr) (n cap : Nat) (xs : List Int) : Prop :=
  (ao = none ∧ n = 0 ∧ cap = 0) ∨ ∃ g, ao = some ⟨g, 0, none⟩ ∧ n ≤ cap ∧ ∀ i, i < n → w.cell? ⟨g, i, none⟩ = some (.int .i32 (xs.getD i 0))

/-- WHAT THE WALK IS TOLD OF A SLICE OF INTEGERS THAT CAME IN. -/
def IsRow (k : IntKind) (w : World) (a : Option Addr) (len cap : Nat) (zs : List Int) : Prop :=
  (a = none ∧ len = 0 ∧ cap = 0 ∧ zs = []) ∨
  ∃ x, a = some x ∧ len ≤ cap ∧ cap ≤ maxLen ∧ zs.length = cap ∧ (∀ i, i < zs.length → w.cell? (x.add i) = some (.int k (zs.getD i 0))) ∧ ∀ n ∈ zs, (Lit.int k n).wf = true

theorem row_at {w : World} {a : Addr} {k : IntKind} {zs : List Int} (h : ∀ i, i < zs.length → w.cell? (a.add i) = some (.int k (zs.getD i 0))) (hp : 0 < zs.length) :
    ∃ b off, a = ⟨b, off, none⟩ ∧ ∀ j, j < zs.length → w.cell? ⟨b, off + j, none⟩ = some (.int k (zs.getD j 0)) := by
  obtain ⟨b, off, spot⟩ := a
  have hspot : spot = none := by simpa [Addr.add] using World.cell?_spot (h 0 hp)
  subst hspot
  exact ⟨b, off, rfl, fun j hj => by rw [← Go.WideShapes.add_plain]; exact h j hj⟩

theorem copy_any (a : Option Addr) (len cap : Nat) (zs : List Int) (w : World) (h : IsRow .i32 w a len cap zs) (hlen : len ≤ 262144) :
    Calls Try.prog 10 #[.slice a len cap] w fun e w' => ∃ ao cp, e = .returned (.slice ao len cp) ∧ RunesAt w' ao len cp zs ∧ Below w.heap.size w w' := by
  rcases h with ⟨rfl, rfl, rfl, rfl⟩ | ⟨x, rfl, hlc, hm, hz, hc, hw⟩
  · refine (copy_nil w).mono ?_
    rintro e w' ⟨rfl, rfl⟩
    exact ⟨_, _, rfl, .inl ⟨rfl, rfl, rfl⟩, Below.refl _ _⟩
  · by_cases hp : 0 < len
    · obtain ⟨b, off, rfl, hc'⟩ := row_at hc (by omega)
      refine (copy_some b off len cap zs w hp hlc hlen hz hc').mono ?_
      rintro e w' ⟨rfl, hr, hb⟩
      exact ⟨_, _, rfl, .inr ⟨_, rfl, Nat.le_refl _, fun i hi => hr.cell hi⟩, hb⟩
    · obtain rfl : len = 0 := by omega
      refine (copy_none x cap w).mono ?_
      rintro e w' ⟨rfl, hb⟩
      exact ⟨_, _, rfl, .inr ⟨_, rfl, Nat.le_refl _, fun i hi => by simp at hi⟩, hb⟩

end Go.Proofs.Qxb6601280a
