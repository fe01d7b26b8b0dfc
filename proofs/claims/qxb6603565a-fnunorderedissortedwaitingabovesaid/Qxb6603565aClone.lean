import Derived.Test.Qxb6603565aRows
import Derived.WalkKit
import Derived.WalkSpells
import Derived.WalkLawsBesides
import Derived.ProofKit
import Derived.Deep.OwnRows
import Derived.Deep.QuietTactic
import Derived.BigQuiet
namespace Go.Proofs.Qxb6603565a
open Go.ChangeShapes Go.WideShapes Go.ChangeAt Go.RowKit
set_option linter.unusedVariables false

theorem info22 : (Try.prog.info? 22).map (fun i => (i.zero, i.size, i.bytes)) = some (some (.int .u64 0), 1, 8) := by kernel_rfl

theorem clone_nil (w : World) : Calls Try.prog 20 #[.slice none 0 0] w fun e w' => e = .returned (.slice none 0 0) ∧ w' = w := by
  have q : ∀ (w : World) (a : Option Addr) (n c : Nat), (binOp .eql 39 (.slice a n c) (.slice none 0 0)).run Try.prog w = .ok (.bool a.isNone) w := fun w a n c => Lib.run_eql_slice_nil w _ _ _ _ _ _ _ Try.underlying39
  go_enter Try.func20, Try.ntmps20
  go_wp2
  go_ret
  exact ⟨rfl, rfl⟩

set_option maxHeartbeats 800000 in
theorem clone_row (x : Addr) (len cap : Nat) (f : Nat → Int) (w : World) (hl : len ≤ 1048576) (hc : ∀ i, i < len → w.cell? (x.add i) = some (.int .u64 (f i))) :
    Calls Try.prog 20 #[.slice (some x) len cap] w fun e w' => e = .returned (.slice (some ⟨w.heap.size, 0, none⟩) len len) ∧ Below w.heap.size w w' ∧ w'.heap.size = w.heap.size + 1 ∧ w'.rowIs w.heap.size 22 len (fun i => .int .u64 (f i)) := by
  have q : ∀ (w : World) (a : Option Addr) (n c : Nat), (binOp .eql 39 (.slice a n c) (.slice none 0 0)).run Try.prog w = .ok (.bool a.isNone) w := fun w a n c => Lib.run_eql_slice_nil w _ _ _ _ _ _ _ Try.underlying39
  have hmk := run_make_row' (P := Try.prog) 39 22 (.int .u64 0) 8 Try.underlying39 info22 rfl .i64 .i64 len (by omega) (by omega)
  obtain ⟨xb, xo, xs⟩ := x
  go_enter Try.func20, Try.ntmps20
  go_wp2
  clear hmk q
  go_loopw [4] (fun i wr => ∃ k : Nat, k ≤ len ∧ i = .int .i64 k ∧ Below w.heap.size w wr ∧ wr.heap.size = w.heap.size + 1 ∧ wr.rowIs w.heap.size 22 len (fun j => .int .u64 (if j < k then f j else 0)))
    (fun i _ => len - (intOf i).toNat)
  case atStart => exact ⟨0, Nat.zero_le _, rfl, (Below.refl _ _).alloc (Nat.le_refl _) _, by simp, by simpa using World.rowIs_made w (.int .u64 0) len 22⟩
  case round =>
    obtain ⟨k, hk, rfl, hb, hs, hr⟩ := hrel
    by_cases hlt : k < len
    · obtain rfl : xs = none := by simpa [Addr.add] using World.cell?_spot (hc 0 (by omega))
      simp only [add_plain] at hc
      have hxb : xb < w.heap.size := World.block_lt_of_cell? _ _ (hc k hlt)
      have g : wr.cell? ⟨xb, xo + k, none⟩ = some (.int .u64 (f k)) := by
        rw [hb.cell (p := ⟨xb, xo + k, none⟩) hxb]; exact hc k hlt
      have g2 : wr.cell? ⟨w.heap.size, k, none⟩ = some (.int .u64 0) := by simpa using hr.cell hlt
      have g3 : wr.frozen? ⟨w.heap.size, k, none⟩ = false := hr.frozen k
      have hltz : (k : Int) < (len : Int) := by omega
      go_wp2
      go_roundw
      case rel =>
        refine ⟨k + 1, by omega, by go_num, hb.setCell (Nat.le_refl _) _, by simpa using hs, (hr.set k _).congr ?_⟩
        intro j hj
        by_cases e : j = k
        · subst e; simp
        · simp only [if_neg e]
          by_cases e2 : j < k
          · rw [if_pos e2, if_pos (by omega)]
          · rw [if_neg e2, if_neg (by omega)]
      case measure => simp [intOf]; omega
    · have hge : (len : Int) ≤ (k : Int) := by omega
      go_wp2
      go_ret
      exact ⟨rfl, hb, hs, hr.congr (fun i hi => by rw [if_pos (by omega)])⟩
end Go.Proofs.Qxb6603565a
