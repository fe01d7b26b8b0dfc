import Derived.Test.Qxb6603799aSays
namespace Go.Proofs.Qxb6603799a
open Go.ChangeShapes Go.WideShapes Go.ChangeAt Go.RowKit
set_option linter.unusedVariables false

/-- what came in: nil, or a row of bytes -/
def Came (w : World) (a : Option Addr) (n c : Nat) (f : Nat → Int) : Prop := (a = none ∧ n = 0 ∧ c = 0) ∨ ∃ x, a = some x ∧ ∀ i, i < n → w.cell? (x.add i) = some (.int .u8 (f i))

theorem Came.below {w w' : World} {a : Option Addr} {n c : Nat} {f : Nat → Int} (h : Came w a n c f) (hb : Below w.heap.size w w') : Came w' a n c f := by
  rcases h with h' | ⟨x, hx, hc⟩
  · exact .inl h'
  · refine .inr ⟨x, hx, fun i hi => ?_⟩
    rw [hb.cell (World.block_lt_of_cell? _ _ (hc i hi))]
    exact hc i hi

theorem clone_any (a : Option Addr) (n c : Nat) (f : Nat → Int) (w : World) (hl : n ≤ 1048576) (h : Came w a n c f) :
    Calls Try.prog 8 #[.slice a n c] w fun e w' => ∃ a', e = .returned (.slice a' n n) ∧ Below w.heap.size w w' ∧ Own w' a' n f := by
  rcases h with ⟨rfl, rfl, rfl⟩ | ⟨x, rfl, hc⟩
  · refine (clone_nil w).mono ?_
    rintro e w' ⟨rfl, rfl⟩
    exact ⟨none, rfl, Below.refl _ _, .inl ⟨rfl, rfl⟩⟩
  · refine (clone_row x n c f w hl hc).mono ?_
    rintro e w' ⟨rfl, hb, _, hr⟩
    exact ⟨_, rfl, hb, .inr ⟨_, rfl, hr⟩⟩

theorem bytes_any (a0 : ByteArray) (a1 : Bool) (a2 : Int) (a3 : Option Addr) (len3 cap3 : Nat) (a4 : Option Addr) (len4 cap4 : Nat) (a5 a6 : Int) (a7 : Bool) (w : World) (h0 : a0.size ≤ maxLen) (h3 : len3 ≤ maxLen) (h4 : len4 ≤ maxLen) :
    Calls Try.prog 7 #[.string a0, .bool a1, .int .u64 a2, .slice a3 len3 cap3, .slice a4 len4 cap4, .int .u64 a5, .int .u64 a6, .bool a7] w fun e w' => (∃ b, e = .returned (.bool b)) ∧ w' = w := by
  unfold maxLen at h0 h3 h4
  go_enter Try.func7, Try.ntmps7
  go_wp2
  all_goals (go_ret; exact ⟨⟨_, rfl⟩, rfl⟩)

/-- of Less, Equal, Greater just one holds, or a value compare meets no value -/
theorem says_cases (bv ok : Bool) (o : Int) :
    (bv = true ∧ ok = false ∧ says 0 bv ok o = false ∧ says 1 bv ok o = true ∧ says 2 bv ok o = false ∧ says 3 bv ok o = false) ∨
    ((bv && !ok) = false ∧ ((says 0 bv ok o = true ∧ says 1 bv ok o = false ∧ says 2 bv ok o = false ∧ says 3 bv ok o = false) ∨
      (says 0 bv ok o = false ∧ says 1 bv ok o = true ∧ says 2 bv ok o = true ∧ says 3 bv ok o = false) ∨
      (says 0 bv ok o = false ∧ says 1 bv ok o = true ∧ says 2 bv ok o = false ∧ says 3 bv ok o = true))) := by
  by_cases h : bv = true ∧ ok = false
  · obtain ⟨rfl, rfl⟩ := h
    exact .inl ⟨rfl, rfl, by simp [says]⟩
  · refine .inr ⟨by cases bv <;> cases ok <;> simp_all, ?_⟩
    rcases Int.lt_trichotomy o 0 with h1 | h1 | h1
    · refine .inr (.inl ?_)
      simp [says, h]; omega
    · refine .inl ?_
      subst h1
      simp [says, h]
    · refine .inr (.inr ?_)
      simp [says, h]; omega

set_option maxRecDepth 100000 in
set_option maxHeartbeats 1600000 in
theorem law_any (a0 : ByteArray) (a1 : Bool) (a2 : Int) (a3 : Option Addr) (len3 cap3 : Nat) (a4 : Option Addr) (len4 cap4 : Nat) (a5 a6 : Int) (a7 : Bool) (f g : Nat → Int) (w : World) (h0 : a0.size ≤ maxLen) (h3 : len3 ≤ maxLen) (h4 : len4 ≤ maxLen)
    (c3 : Came w a3 len3 cap3 f) (c4 : Came w a4 len4 cap4 g) :
    Calls Try.prog 3 #[.string a0, .bool a1, .int .u64 a2, .slice a3 len3 cap3, .slice a4 len4 cap4, .int .u64 a5, .int .u64 a6, .bool a7] w fun e w' => e = .returned (.bool true) ∧ Below w.heap.size w w' := by
  have hB := bytes_any a0 a1 a2 a3 len3 cap3 a4 len4 cap4 a5 a6 a7 w h0 h3 h4
  unfold maxLen at h0 h3 h4
  have HC := says_cases a1 a7 (ord a1 (Extern.BytealgCompare.cmp (bsOf g len4 ByteArray.empty) (bsOf f len3 ByteArray.empty)) a5 a2)
  have HH := fun cm hcm W ca ia hc hi => holdsOf_any a0 cm a1 a2 ca ia len3 len4 f g a5 a6 a7 W hcm hc hi
  generalize ord a1 (Extern.BytealgCompare.cmp (bsOf g len4 ByteArray.empty) (bsOf f len3 ByteArray.empty)) a5 a2 = o at HC HH
  have HHC : Hid _ := HC
  have HHH : Hid (∀ (cm : Int), _) := HH
  clear HC HH
  go_enter Try.func3, Try.ntmps3
  go_wp2_with (go_at_call 7; refine hB.mono ?_; rintro e w' ⟨⟨b, rfl⟩, hw⟩; obtain rfl := hw.symm; clear hw)
  all_goals first | (go_ret; exact ⟨rfl, Below.refl _ _⟩) | skip
  clear hB
  refine (clone_any a3 len3 cap3 f w (by omega) c3).mono ?_
  rintro e w1 ⟨ca, rfl, b1, o1⟩
  go_wp2_with fail
  refine (clone_any a4 len4 cap4 g w1 (by omega) (c4.below b1)).mono ?_
  rintro e w2 ⟨ia, rfl, b2, o2⟩
  have s1 := b1.size
  have o1' := o1.below b2
  have bb := b1.trans (b2.mono s1)
  clear b1 b2 o1 s1 c3 c4
  go_wp2_with fail
  refine (HHH.out 0 (.inl rfl) w2 ca ia o1' o2).mono ?_
  rintro e w3 ⟨rfl, b3⟩
  replace o1' := o1'.below b3
  replace o2 := o2.below b3
  replace bb := bb.trans (b3.mono bb.size)
  clear b3
  go_wp2_with fail
  refine (HHH.out 1 (.inr (.inl rfl)) w3 ca ia o1' o2).mono ?_
  rintro e w4 ⟨rfl, b3⟩
  replace o1' := o1'.below b3
  replace o2 := o2.below b3
  replace bb := bb.trans (b3.mono bb.size)
  clear b3
  go_wp2_with fail
  refine (HHH.out 2 (.inr (.inr (.inl rfl))) w4 ca ia o1' o2).mono ?_
  rintro e w5 ⟨rfl, b3⟩
  replace o1' := o1'.below b3
  replace o2 := o2.below b3
  replace bb := bb.trans (b3.mono bb.size)
  clear b3
  go_wp2_with fail
  refine (HHH.out 3 (.inr (.inr (.inr rfl))) w5 ca ia o1' o2).mono ?_
  rintro e w6 ⟨rfl, b3⟩
  replace o1' := o1'.below b3
  replace o2 := o2.below b3
  replace bb := bb.trans (b3.mono bb.size)
  clear b3
  have HC := HHC.out
  clear HHC HHH o1' o2
  generalize says 0 a1 a7 o = e0 at HC ⊢
  generalize says 1 a1 a7 o = e1 at HC ⊢
  generalize says 2 a1 a7 o = e2 at HC ⊢
  generalize says 3 a1 a7 o = e3 at HC ⊢
  rcases HC with ⟨rfl, rfl, rfl, rfl, rfl, rfl⟩ | ⟨hb, ⟨rfl, rfl, rfl, rfl⟩ | ⟨rfl, rfl, rfl, rfl⟩ | ⟨rfl, rfl, rfl, rfl⟩⟩
  · go_wp2
    go_ret
    exact ⟨rfl, bb⟩
  all_goals
    cases a1 <;> cases a7
    all_goals first | (exact absurd hb (by decide)) | skip
    all_goals
      go_wp2
      go_ret
      exact ⟨rfl, bb⟩
end Go.Proofs.Qxb6603799a
