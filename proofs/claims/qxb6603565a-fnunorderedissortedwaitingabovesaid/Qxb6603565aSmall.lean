import Derived.Test.Qxb6603565aClone
namespace Go.Proofs.Qxb6603565a
open Go.ChangeShapes Go.WideShapes Go.ChangeAt Go.RowKit
set_option linter.unusedVariables false

/-- A slice of the call's own: nil, or a whole block of words. -/
def Own (w : World) (a : Option Addr) (n : Nat) (f : Nat → Int) : Prop := (a = none ∧ n = 0) ∨ ∃ b, a = some ⟨b, 0, none⟩ ∧ w.rowIs b 22 n (fun i => .int .u64 (f i))

theorem Own.cell {w : World} {a : Option Addr} {n : Nat} {f : Nat → Int} (h : Own w a n f) {i : Nat} (hi : i < n) : ∃ b, a = some ⟨b, 0, none⟩ ∧ w.cell? ⟨b, i, none⟩ = some (.int .u64 (f i)) := by
  rcases h with ⟨_, rfl⟩ | ⟨b, rfl, hr⟩
  · omega
  · exact ⟨b, rfl, hr.cell hi⟩

theorem Own.below {w w' : World} {a : Option Addr} {n : Nat} {f : Nat → Int} (h : Own w a n f) (hb : Below w.heap.size w w') : Own w' a n f := by
  rcases h with h | ⟨b, rfl, hr⟩
  · exact .inl h
  · exact .inr ⟨b, rfl, hr.of_block (hb.block b hr.lt)⟩

/-- what came in: nil, or a row of words -/
def Came (w : World) (a : Option Addr) (n c : Nat) (f : Nat → Int) : Prop := (a = none ∧ n = 0 ∧ c = 0) ∨ ∃ x, a = some x ∧ ∀ i, i < n → w.cell? (x.add i) = some (.int .u64 (f i))

theorem Came.below {w w' : World} {a : Option Addr} {n c : Nat} {f : Nat → Int} (h : Came w a n c f) (hb : Below w.heap.size w w') : Came w' a n c f := by
  rcases h with h' | ⟨x, hx, hc⟩
  · exact .inl h'
  · refine .inr ⟨x, hx, fun i hi => ?_⟩
    rw [hb.cell (World.block_lt_of_cell? _ _ (hc i hi))]
    exact hc i hi

theorem clone_any (a : Option Addr) (n c : Nat) (f : Nat → Int) (w : World) (hl : n ≤ 1048576) (h : Came w a n c f) :
    Calls Try.prog 20 #[.slice a n c] w fun e w' => ∃ a', e = .returned (.slice a' n n) ∧ Below w.heap.size w w' ∧ Own w' a' n f := by
  rcases h with ⟨rfl, rfl, rfl⟩ | ⟨x, rfl, hc⟩
  · refine (clone_nil w).mono ?_
    rintro e w' ⟨rfl, rfl⟩
    exact ⟨none, rfl, Below.refl _ _, .inl ⟨rfl, rfl⟩⟩
  · refine (clone_row x n c f w hl hc).mono ?_
    rintro e w' ⟨rfl, hb, _, hr⟩
    exact ⟨_, rfl, hb, .inr ⟨_, rfl, hr⟩⟩

theorem bytes_any (a0 : Option Addr) (len0 cap0 : Nat) (a1 : Option Addr) (len1 cap1 : Nat) (a2 : ByteArray) (a3 a4 : Int) (w : World) (h0 : len0 ≤ maxLen) (h1 : len1 ≤ maxLen) (h2 : a2.size ≤ maxLen) :
    Calls Try.prog 19 #[.slice a0 len0 cap0, .slice a1 len1 cap1, .string a2, .int .u64 a3, .int .u64 a4] w fun e w' => (∃ b, e = .returned (.bool b)) ∧ w' = w := by
  unfold maxLen at h0 h1 h2
  go_enter Try.func19, Try.ntmps19
  go_wp2
  all_goals (go_ret; exact ⟨⟨_, rfl⟩, rfl⟩)

set_option maxHeartbeats 1600000 in
/-- a row that rises strictly is said to -/
theorem asc_any (b n : Nat) (f : Nat → Int) (w : World) (hn : n ≤ 1048576) (h : w.rowIs b 22 n (fun i => .int .u64 (f i))) (hf : ∀ i, i + 1 < n → f i < f (i + 1)) :
    Calls Try.prog 24 #[.slice (some ⟨b, 0, none⟩) n n] w fun e w' => e = .returned (.bool true) ∧ ∃ q, w' = w.drewN q := by
  go_enter Try.func24, Try.ntmps24
  go_wp2
  go_loopw [3] (fun i wr => ∃ k q : Nat, k ≤ n ∧ i = .int .i64 ((k : Int) + 1) ∧ wr = w.drewN q) (fun i _ => n + 1 - (intOf i).toNat)
  case atStart => exact ⟨0, 0, Nat.zero_le _, rfl, rfl⟩
  case round =>
    obtain ⟨k, q, hk, rfl, rfl⟩ := hrel
    by_cases hlt : k + 1 < n
    · have hc0 : w.cell? ⟨b, k, none⟩ = some (.int .u64 (f k)) := h.cell (by omega)
      have hc1 : w.cell? ⟨b, k + 1, none⟩ = some (.int .u64 (f (k + 1))) := h.cell hlt
      have hz0 : (k : Int) < (n : Int) := by omega
      have hz : (k : Int) + 1 < (n : Int) := by omega
      have ht : f k < f (k + 1) := hf k hlt
      have ht2 : decide (f (k + 1) ≤ f k) = false := by simpa using ht
      go_wp2
      go_quiet (fail)
      go_wp2
      go_roundw
      case rel => exact ⟨k + 1, _, by omega, by go_num, rfl⟩
      case measure => simp [intOf]; omega
    · have hge : (n : Int) ≤ (k : Int) + 1 := by omega
      go_wp2
      go_ret
      exact ⟨rfl, _, rfl⟩

set_option maxHeartbeats 1600000 in
/-- the search finds what stands in a row that rises strictly -/
theorem search_any (b n : Nat) (f : Nat → Int) (j : Nat) (w : World) (hn : n ≤ 1048576) (hj : j < n) (h : w.rowIs b 22 n (fun i => .int .u64 (f i))) (hf : ∀ i k, i < k → k < n → f i < f k) :
    Calls Try.prog 25 #[.slice (some ⟨b, 0, none⟩) n n, .int .u64 (f j)] w fun e w' => e = .returned (.int .i64 (j : Nat)) ∧ w' = w := by
  go_enter Try.func25, Try.ntmps25
  go_wp2
  go_loop [5, 6] (fun lo hi => ∃ l r : Nat, l ≤ j ∧ j ≤ r ∧ r ≤ n ∧ lo = .int .i64 l ∧ hi = .int .i64 r) (fun lo hi => (intOf hi - intOf lo).toNat)
  case atStart => exact ⟨0, n, Nat.zero_le _, by omega, Nat.le_refl _, rfl, rfl⟩
  case round =>
    obtain ⟨l, r, hl, hr, hrn, rfl, rfl⟩ := hrel
    by_cases hlt : l < r
    · have hc : w.cell? ⟨b, l + (r - l) / 2, none⟩ = some (.int .u64 (f (l + (r - l) / 2))) := h.cell (by omega)
      have hz : (l : Int) < (r : Int) := by omega
      by_cases hm : l + (r - l) / 2 < j
      · have ht : f (l + (r - l) / 2) < f j := hf _ _ hm hj
        go_wp2
        go_round
        case rel => exact ⟨l + (r - l) / 2 + 1, r, by omega, hr, hrn, by go_num, rfl⟩
        case measure => simp [intOf]; omega
      · have ht : f j ≤ f (l + (r - l) / 2) := by
          by_cases e : j = l + (r - l) / 2
          · rw [← e]; omega
          · exact Int.le_of_lt (hf _ _ (by omega) (by omega))
        go_wp2
        go_round
        case rel => exact ⟨l, l + (r - l) / 2, hl, by omega, by omega, rfl, by go_num⟩
        case measure => simp [intOf]; omega
    · obtain rfl : l = j := by omega
      have hc : w.cell? ⟨b, l, none⟩ = some (.int .u64 (f l)) := h.cell hj
      have hz : (l : Int) < (n : Int) := by omega
      have hge : (r : Int) ≤ (l : Int) := by omega
      go_wp2
      go_ret
      exact ⟨rfl, rfl⟩
end Go.Proofs.Qxb6603565a
