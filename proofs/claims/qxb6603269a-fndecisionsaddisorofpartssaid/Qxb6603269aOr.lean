import Derived.Test.Qxb6603269aClone
namespace Go.Proofs.Qxb6603269a
open Go.ChangeShapes Go.WideShapes Go.ChangeAt Go.RowKit
set_option linter.unusedVariables false

/-- 'x | y' of two words, as the walk writes it -/
def orW (x y : Int) : Int := bits BinOp.or IntKind.u64 x y

theorem or_srcnil (a : Option Addr) (n c : Nat) (w : World) : Calls Try.prog 27 #[.slice a n c, .slice none 0 0] w fun e w' => e = .returned (.slice a n c) ∧ w' = w := by
  have q : ∀ (w : World) (a : Option Addr) (n c : Nat), (binOp .eql 22 (.slice a n c) (.slice none 0 0)).run Try.prog w = .ok (.bool a.isNone) w := fun w a n c => Lib.run_eql_slice_nil w _ _ _ _ _ _ _ Try.underlying22
  go_enter Try.func27, Try.ntmps27
  go_wp2
  go_ret
  exact ⟨rfl, rfl⟩

theorem grown_set {w wr : World} {b : Nat} (h : w.grownBy wr (some b)) (i : Nat) (v : Value) : w.grownBy (wr.setCell ⟨b, i, none⟩ v) (some b) :=
  ⟨h.os, h.tape, h.output, by simpa using h.size, fun k hk hne => by rw [Below.heap_setCell _ _ _ _ (fun e => hne (by rw [e]))]; exact h.block k hk hne⟩

theorem step_or {w : World} {b n k : Nat} {f g : Nat → Int} (hk : k < n) (h : w.rowIs b 26 n (fun j => .int .u64 (if j < k then orW (f j) (g j) else f j))) :
    (w.setCell ⟨b, k, none⟩ (.int .u64 (bits BinOp.or IntKind.u64 (f k) (g k)))).rowIs b 26 n (fun j => .int .u64 (if j < k + 1 then orW (f j) (g j) else f j)) := by
  refine (h.set k _).congr ?_
  intro j hj
  by_cases e : j = k
  · subst e; simp [orW]
  · simp only [if_neg e]
    by_cases e2 : j < k
    · rw [if_pos e2, if_pos (by omega)]
    · rw [if_neg e2, if_neg (by omega)]

set_option maxHeartbeats 800000 in
theorem or_into (bd bs n m : Nat) (f g : Nat → Int) (w : World) (hn : n ≤ 1048576) (hmn : m ≤ n) (hne : bd ≠ bs) (hd : w.rowIs bd 26 n (fun i => .int .u64 (f i))) (hs : w.rowIs bs 26 m (fun i => .int .u64 (g i))) :
    Calls Try.prog 27 #[.slice (some ⟨bd, 0, none⟩) n n, .slice (some ⟨bs, 0, none⟩) m m] w fun e w' => e = .returned (.slice (some ⟨bd, 0, none⟩) n n) ∧ w.grownBy w' (some bd) ∧ w'.rowIs bd 26 n (fun i => .int .u64 (if i < m then orW (f i) (g i) else f i)) := by
  have q : ∀ (w : World) (a : Option Addr) (n c : Nat), (binOp .eql 22 (.slice a n c) (.slice none 0 0)).run Try.prog w = .ok (.bool a.isNone) w := fun w a n c => Lib.run_eql_slice_nil w _ _ _ _ _ _ _ Try.underlying22
  go_enter Try.func27, Try.ntmps27
  go_wp2
  clear q
  go_loopw [17] (fun i wr => ∃ k : Nat, k ≤ m ∧ i = .int .i64 k ∧ w.grownBy wr (some bd) ∧ wr.rowIs bs 26 m (fun i => .int .u64 (g i)) ∧ wr.rowIs bd 26 n (fun j => .int .u64 (if j < k then orW (f j) (g j) else f j)))
    (fun i _ => m - (intOf i).toNat)
  case atStart => exact ⟨0, Nat.zero_le _, rfl, ⟨rfl, rfl, rfl, Nat.le_refl _, fun _ _ _ => rfl⟩, hs, by simpa using hd⟩
  case round =>
    obtain ⟨k, hk, rfl, hb, hs, hr⟩ := hrel
    by_cases hlt : k < m
    · have g1 : wr.cell? ⟨bs, k, none⟩ = some (.int .u64 (g k)) := hs.cell hlt
      have g2 : wr.cell? ⟨bd, k, none⟩ = some (.int .u64 (f k)) := by simpa using hr.cell (i := k) (by omega)
      have g3 : wr.frozen? ⟨bd, k, none⟩ = false := hr.frozen k
      have hltz : (k : Int) < (m : Int) := by omega
      have hltn : (k : Int) < (n : Int) := by omega
      go_wp2
      go_roundw
      case rel => exact ⟨k + 1, by omega, by go_num, grown_set hb k _, hs.setOther (a := ⟨bd, k, none⟩) (fun e => hne e.symm) _, step_or (by omega) hr⟩
      case measure => simp [intOf]; omega
    · have hge : (m : Int) ≤ (k : Int) := by omega
      go_wp2
      go_ret
      obtain rfl : k = m := by omega
      exact ⟨rfl, hb, hr⟩

set_option maxHeartbeats 800000 in
theorem or_make (bs m : Nat) (g : Nat → Int) (w : World) (hm : m ≤ 1048576) (hs : w.rowIs bs 26 m (fun i => .int .u64 (g i))) :
    Calls Try.prog 27 #[.slice none 0 0, .slice (some ⟨bs, 0, none⟩) m m] w fun e w' => e = .returned (.slice (some ⟨w.heap.size, 0, none⟩) m m) ∧ Below w.heap.size w w' ∧ w'.rowIs w.heap.size 26 m (fun i => .int .u64 (orW 0 (g i))) := by
  have q : ∀ (w : World) (a : Option Addr) (n c : Nat), (binOp .eql 22 (.slice a n c) (.slice none 0 0)).run Try.prog w = .ok (.bool a.isNone) w := fun w a n c => Lib.run_eql_slice_nil w _ _ _ _ _ _ _ Try.underlying22
  have hmk := run_make_row' (P := Try.prog) 22 26 (.int .u64 0) 8 Try.underlying22 info26 rfl .i64 .i64 m (by omega) (by omega)
  have hlt0 := hs.lt
  go_enter Try.func27, Try.ntmps27
  go_wp2
  clear q hmk
  go_loopw [17] (fun i wr => ∃ k : Nat, k ≤ m ∧ i = .int .i64 k ∧ Below w.heap.size w wr ∧ wr.rowIs w.heap.size 26 m (fun j => .int .u64 (if j < k then orW 0 (g j) else 0)))
    (fun i _ => m - (intOf i).toNat)
  case atStart => exact ⟨0, Nat.zero_le _, rfl, (Below.refl _ _).alloc (Nat.le_refl _) _, by simpa using World.rowIs_made w (.int .u64 0) m 26⟩
  case round =>
    obtain ⟨k, hk, rfl, hb, hr⟩ := hrel
    by_cases hlt : k < m
    · have g1 : wr.cell? ⟨bs, k, none⟩ = some (.int .u64 (g k)) := by rw [hb.cell (p := ⟨bs, k, none⟩) hlt0]; exact hs.cell hlt
      have g2 : wr.cell? ⟨w.heap.size, k, none⟩ = some (.int .u64 0) := by simpa using hr.cell hlt
      have g3 : wr.frozen? ⟨w.heap.size, k, none⟩ = false := hr.frozen k
      have hltz : (k : Int) < (m : Int) := by omega
      go_wp2
      go_roundw
      case rel => exact ⟨k + 1, by omega, by go_num, hb.setCell (Nat.le_refl _) _, step_or (f := fun _ => 0) (by omega) hr⟩
      case measure => simp [intOf]; omega
    · have hge : (m : Int) ≤ (k : Int) := by omega
      go_wp2
      go_ret
      obtain rfl : k = m := by omega
      exact ⟨rfl, hb, hr.congr (fun i hi => by rw [if_pos hi])⟩
end Go.Proofs.Qxb6603269a
