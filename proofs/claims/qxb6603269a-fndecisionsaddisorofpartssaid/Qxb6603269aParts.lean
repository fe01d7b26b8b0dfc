import Derived.Test.Qxb6603269aOr
import Derived.Test.Qxb6603269aFeed
namespace Go.Proofs.Qxb6603269a
open Go.ChangeShapes Go.WideShapes Go.ChangeAt Go.RowKit
set_option linter.unusedVariables false

/-- a list of words read with zero words behind its end -/
def pad (n : Nat) (f : Nat → Int) (i : Nat) : Int := if i < n then f i else 0

theorem pad_in {n : Nat} {f : Nat → Int} {i : Nat} (h : i < n) : pad n f i = f i := if_pos h
theorem pad_out {n : Nat} {f : Nat → Int} {i : Nat} (h : n ≤ i) : pad n f i = 0 := if_neg (by omega)

theorem orW_zero (x : Int) (h0 : 0 ≤ x) (h1 : x < 18446744073709551616) : orW x 0 = x := by
  unfold orW
  rw [u64_or x 0 h0 h1 (by omega) (by omega)]
  simp
  omega

theorem orW_range (x y : Int) (h0 : 0 ≤ x) (h1 : x < 18446744073709551616) (h2 : 0 ≤ y) (h3 : y < 18446744073709551616) : 0 ≤ orW x y ∧ orW x y < 18446744073709551616 := by
  unfold orW
  rw [u64_or x y h0 h1 h2 h3]
  have : x.toNat ||| y.toNat < 2 ^ 64 := Nat.or_lt_two_pow (by omega) (by omega)
  omega

/-- A slice of the call's own: nil, or a whole block of words. -/
structure Own (w : World) (a : Option Addr) (n : Nat) (f : Nat → Int) : Prop where
  row : (a = none ∧ n = 0) ∨ ∃ b, a = some ⟨b, 0, none⟩ ∧ w.rowIs b 26 n (fun i => .int .u64 (f i))
  wf : ∀ i, i < n → 0 ≤ f i ∧ f i < 18446744073709551616

theorem Own.pad_wf {w : World} {a : Option Addr} {n : Nat} {f : Nat → Int} (h : Own w a n f) (i : Nat) : 0 ≤ pad n f i ∧ pad n f i < 18446744073709551616 := by
  unfold pad
  split
  · exact h.wf i ‹_›
  · omega

theorem Own.cell {w : World} {a : Option Addr} {n : Nat} {f : Nat → Int} (h : Own w a n f) {i : Nat} (hi : i < n) : ∃ b, a = some ⟨b, 0, none⟩ ∧ w.cell? ⟨b, i, none⟩ = some (.int .u64 (f i)) := by
  rcases h.row with ⟨_, rfl⟩ | ⟨b, rfl, hr⟩
  · omega
  · exact ⟨b, rfl, hr.cell hi⟩

/-- the block, if any -/
def blk (a : Option Addr) : Option Nat := a.map (·.block)

theorem Own.lt {w : World} {a : Option Addr} {n : Nat} {f : Nat → Int} (h : Own w a n f) {k : Nat} (hk : blk a = some k) : k < w.heap.size := by
  rcases h.row with ⟨rfl, _⟩ | ⟨b, rfl, hr⟩
  · cases hk
  · simp [blk] at hk; subst hk; exact hr.lt

theorem Own.kept {w w' : World} {a : Option Addr} {n : Nat} {f : Nat → Int} (h : Own w a n f) (e : ∀ k, blk a = some k → w'.heap[k]? = w.heap[k]?) : Own w' a n f := by
  refine ⟨?_, h.wf⟩
  rcases h.row with h' | ⟨b, rfl, hr⟩
  · exact .inl h'
  · exact .inr ⟨b, rfl, hr.of_block (e b rfl)⟩

theorem Own.grown {w w' : World} {a : Option Addr} {n : Nat} {f : Nat → Int} {row : Option Nat} (h : Own w a n f) (hg : w.grownBy w' row) (hne : ∀ k, blk a = some k → some k ≠ row) : Own w' a n f :=
  h.kept fun k hk => hg.block k (h.lt hk) (hne k hk)

theorem Own.below {w w' : World} {a : Option Addr} {n : Nat} {f : Nat → Int} (h : Own w a n f) (hb : Below w.heap.size w w') : Own w' a n f :=
  h.kept fun k hk => hb.block k (h.lt hk)

theorem grown_of_below {w w' : World} (h : Below w.heap.size w w') (row : Option Nat) : w.grownBy w' row := ⟨h.os, h.tape, h.output, h.size, fun k hk _ => h.block k hk⟩
theorem grown_refl (w : World) (row : Option Nat) : w.grownBy w row := ⟨rfl, rfl, rfl, Nat.le_refl _, fun _ _ _ => rfl⟩

/-- what came in: nil, or a row of words -/
structure Came (w : World) (a : Option Addr) (n c : Nat) (f : Nat → Int) : Prop where
  row : (a = none ∧ n = 0 ∧ c = 0) ∨ ∃ x, a = some x ∧ ∀ i, i < n → w.cell? (x.add i) = some (.int .u64 (f i))
  wf : ∀ i, i < n → 0 ≤ f i ∧ f i < 18446744073709551616
  lt : ∀ i x, i < n → a = some x → x.block < w.heap.size

theorem Came.below {w w' : World} {a : Option Addr} {n c : Nat} {f : Nat → Int} (h : Came w a n c f) (hb : Below w.heap.size w w') : Came w' a n c f := by
  refine ⟨?_, h.wf, fun i x hi hx => Nat.lt_of_lt_of_le (h.lt i x hi hx) hb.size⟩
  rcases h.row with h' | ⟨x, hx, hc⟩
  · exact .inl h'
  · refine .inr ⟨x, hx, fun i hi => ?_⟩
    have hl : (x.add i).block < w.heap.size := World.block_lt_of_cell? _ _ (hc i hi)
    rw [hb.cell hl]
    exact hc i hi

theorem clone_any (a : Option Addr) (n c : Nat) (f : Nat → Int) (w : World) (hl : n ≤ 1048576) (h : Came w a n c f) :
    Calls Try.prog 9 #[.slice a n c] w fun e w' => ∃ a', e = .returned (.slice a' n n) ∧ a'.isNone = a.isNone ∧ Below w.heap.size w w' ∧ Own w' a' n f ∧ ∀ k, blk a' = some k → w.heap.size ≤ k := by
  rcases h.row with ⟨rfl, rfl, rfl⟩ | ⟨x, rfl, hc⟩
  · refine (clone_nil w).mono ?_
    rintro e w' ⟨rfl, rfl⟩
    exact ⟨none, rfl, rfl, Below.refl _ _, ⟨.inl ⟨rfl, rfl⟩, h.wf⟩, fun k hk => by cases hk⟩
  · refine (clone_row x n c f w hl hc).mono ?_
    rintro e w' ⟨rfl, hb, _, hr⟩
    exact ⟨_, rfl, rfl, hb, ⟨.inr ⟨_, rfl, hr⟩, h.wf⟩, fun k hk => by simp [blk] at hk; omega⟩

/-- orInto, whatever is nil. -/
theorem or_any (da sa : Option Addr) (n m : Nat) (f g : Nat → Int) (w : World) (hn : n ≤ 1048576) (hm : m ≤ 1048576) (hd : Own w da n f) (hs : Own w sa m g)
    (hmn : da.isNone = false → m ≤ n) (hne : ∀ k, blk da = some k → blk sa ≠ some k) :
    Calls Try.prog 27 #[.slice da n n, .slice sa m m] w fun e w' => ∃ ra rn r, e = .returned (.slice ra rn rn) ∧ Own w' ra rn r ∧ w.grownBy w' (blk da) ∧
      (da.isNone = false → ra = da ∧ rn = n) ∧ (da.isNone = true → rn = m ∧ ra.isNone = sa.isNone ∧ ∀ k, blk ra = some k → w.heap.size ≤ k) ∧ ∀ i, i < rn → r i = orW (pad n f i) (pad m g i) := by
  rcases hs.row with ⟨rfl, rfl⟩ | ⟨bs, rfl, hrs⟩
  · refine (or_srcnil da n n w).mono ?_
    rintro e w' ⟨rfl, rfl⟩
    refine ⟨da, n, f, rfl, hd, grown_refl _ _, fun _ => ⟨rfl, rfl⟩, fun hN => ?_, fun i hi => ?_⟩
    · rcases hd.row with ⟨rfl, rfl⟩ | ⟨b, rfl, _⟩
      · exact ⟨rfl, rfl, fun k hk => by cases hk⟩
      · cases hN
    · rw [pad_in hi, pad_out (Nat.zero_le _), orW_zero _ (hd.wf i hi).1 (hd.wf i hi).2]
  · rcases hd.row with ⟨rfl, rfl⟩ | ⟨bd, rfl, hrd⟩
    · refine (or_make bs m g w hm hrs).mono ?_
      rintro e w' ⟨rfl, hb, hr⟩
      refine ⟨_, m, fun i => orW 0 (g i), rfl, ⟨.inr ⟨_, rfl, hr⟩, fun i hi => orW_range _ _ (by omega) (by omega) (hs.wf i hi).1 (hs.wf i hi).2⟩, grown_of_below hb _, (fun h => by cases h), fun _ => ⟨rfl, rfl, fun k hk => by simp [blk] at hk; omega⟩, fun i hi => ?_⟩
      rw [pad_out (Nat.zero_le _), pad_in hi]
    · have hmn' := hmn rfl
      refine (or_into bd bs n m f g w hn hmn' (fun e => hne bd rfl (by rw [e]; rfl)) hrd hrs).mono ?_
      rintro e w' ⟨rfl, hb, hr⟩
      refine ⟨_, n, fun i => if i < m then orW (f i) (g i) else f i, rfl, ⟨.inr ⟨_, rfl, hr⟩, fun i hi => ?_⟩, hb, fun _ => ⟨rfl, rfl⟩, (fun h => by cases h), fun i hi => ?_⟩
      · show 0 ≤ (if i < m then orW (f i) (g i) else f i) ∧ (if i < m then orW (f i) (g i) else f i) < _
        split
        · exact orW_range _ _ (hd.wf i hi).1 (hd.wf i hi).2 (hs.wf i ‹_›).1 (hs.wf i ‹_›).2
        · exact hd.wf i hi
      · show (if i < m then orW (f i) (g i) else f i) = _
        rw [pad_in hi]
        split
        · rw [pad_in ‹_›]
        · rw [pad_out (by omega), orW_zero _ (hd.wf i hi).1 (hd.wf i hi).2]

theorem word_any (a : Option Addr) (n : Nat) (f : Nat → Int) (i : Nat) (w : World) (hn : n ≤ 1048576) (hi : i ≤ 1048576) (h : Own w a n f) :
    Calls Try.prog 11 #[.slice a n n, .int .i64 i] w fun e w' => e = .returned (.int .u64 (pad n f i)) ∧ w' = w := by
  by_cases hlt : i < n
  · obtain ⟨b, rfl, hc⟩ := h.cell hlt
    rw [pad_in hlt]
    have hz : (i : Int) < (n : Int) := by omega
    go_enter Try.func11, Try.ntmps11
    go_wp2
    go_ret
    exact ⟨rfl, rfl⟩
  · rw [pad_out (by omega)]
    have hz : (n : Int) ≤ (i : Int) := by omega
    go_enter Try.func11, Try.ntmps11
    go_wp2
    go_ret
    exact ⟨rfl, rfl⟩

theorem bytes_any (a0 : ByteArray) (a1 : Int) (a2 : Option Addr) (len2 cap2 : Nat) (a3 : Bool) (a4 : Option Addr) (len4 cap4 : Nat) (a5 : Option Addr) (len5 cap5 : Nat) (a6 : Int) (w : World) (h0 : a0.size ≤ maxLen) (h2 : len2 ≤ maxLen) (h4 : len4 ≤ maxLen) (h5 : len5 ≤ maxLen) :
    Calls Try.prog 14 #[.string a0, .int .i64 a1, .slice a2 len2 cap2, .bool a3, .slice a4 len4 cap4, .slice a5 len5 cap5, .int .i64 a6] w fun e w' => (∃ b, e = .returned (.bool b)) ∧ w' = w := by
  unfold maxLen at h0 h2 h4 h5
  go_enter Try.func14, Try.ntmps14
  go_wp2
  all_goals (go_ret; exact ⟨⟨_, rfl⟩, rfl⟩)
end Go.Proofs.Qxb6603269a
