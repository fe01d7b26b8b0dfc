import Derived.Test.Qxb6603464aDoorRows
import Derived.Test.Qxb6603464aDoorShelf
import Derived.Test.Qxb6603464aDoorPlain
import Derived.WalkKit
import Derived.WalkSpells
import Derived.WalkLawsBesides
import Derived.ProofKit
namespace Go.Proofs.Qxb6603464aDoor
open Go.ChangeShapes Go.WideShapes Go.ChangeAt Go.RowKit
set_option linter.unusedVariables false

theorem below_grow (w : World) (q : Nat) (os : Array Obj) : Below w.heap.size w (Sort.grow (w.drewN q) os) :=
  ⟨rfl, rfl, rfl, by simp [Sort.grow, World.drewN], fun k hk => by simp [Sort.grow, World.drewN, Array.getElem?_append, hk]⟩

/-- the name of a kind, as Go's string -/
def nameOf (k : Int) : ByteArray := ⟨(nameL k).toArray⟩

theorem ret_bool {a b : Bool} (h : a = b) : Ending.returned (.bool a) = .returned (.bool b) := by rw [h]
theorem ret_string {a b : ByteArray} (h : a = b) : Ending.returned (.string a) = .returned (.string b) := by rw [h]

set_option maxHeartbeats 1600000 in
theorem string_other (k : Int) (hk : ¬ (1 ≤ k ∧ k ≤ 11)) (h0 : -9223372036854775808 ≤ k) (h1 : k ≤ 9223372036854775807) (w : World)
    (HI : Calls Tryd.prog 5 #[.int .i64 k] w fun e w' => e = .returned (.string ⟨(Lib.itoa k).toArray⟩) ∧ ∃ q os, w' = Sort.grow (w.drewN q) os) :
    Calls Tryd.prog 4 #[.int .i64 k] w fun e w' => e = .returned (.string (nameOf k)) ∧ Below w.heap.size w w' := by
  have hl := itoa_len k h0 h1
  have HN : Hid (nameOf k = ({ data := #[65, 103, 101, 110, 116, 69, 118, 101, 110, 116, 75, 105, 110, 100, 40] } : ByteArray) ++ { data := (Lib.itoa k).toArray } ++ { data := #[41] }) := by
    show nameOf k = _
    unfold nameOf nameL
    rw [if_neg hk]
    apply ByteArray.ext
    simp [pre]
  generalize Lib.itoa k = s at *
  go_enter Tryd.func4, Tryd.ntmps4
  go_wp2_with (go_at_call 5; refine HI.mono ?_; rintro e w' ⟨rfl, q, os, rfl⟩)
  go_ret
  exact ⟨ret_string HN.out.symm, below_grow _ _ _⟩

set_option maxHeartbeats 1600000 in
theorem string_named (k : Int) (hk : 1 ≤ k ∧ k ≤ 11) (w : World) :
    Calls Tryd.prog 4 #[.int .i64 k] w fun e w' => e = .returned (.string (nameOf k)) ∧ Below w.heap.size w w' := by
  obtain ⟨h1, h2⟩ := hk
  have hc : k = 1 ∨ k = 2 ∨ k = 3 ∨ k = 4 ∨ k = 5 ∨ k = 6 ∨ k = 7 ∨ k = 8 ∨ k = 9 ∨ k = 10 ∨ k = 11 := by omega
  clear h1 h2
  rcases hc with rfl | rfl | rfl | rfl | rfl | rfl | rfl | rfl | rfl | rfl | rfl
  all_goals
    go_enter Tryd.func4, Tryd.ntmps4
    go_wp2
    go_ret
    exact ⟨ret_string rfl, Below.refl _ _⟩

theorem string_any (k : Int) (h0 : -9223372036854775808 ≤ k) (h1 : k ≤ 9223372036854775807) (w : World)
    (HI : Calls Tryd.prog 5 #[.int .i64 k] w fun e w' => e = .returned (.string ⟨(Lib.itoa k).toArray⟩) ∧ ∃ q os, w' = Sort.grow (w.drewN q) os) :
    Calls Tryd.prog 4 #[.int .i64 k] w fun e w' => e = .returned (.string (nameOf k)) ∧ Below w.heap.size w w' := by
  by_cases hk : 1 ≤ k ∧ k ≤ 11
  · exact string_named k hk w
  · exact string_other k hk h0 h1 w HI

set_option maxHeartbeats 1600000 in
theorem law_any (a b : Int) (w : World)
    (HA : Calls Tryd.prog 4 #[.int .i64 a] w fun e w' => e = .returned (.string (nameOf a)) ∧ Below w.heap.size w w')
    (HB : ∀ w1, Below w.heap.size w w1 → Calls Tryd.prog 4 #[.int .i64 b] w1 fun e w' => e = .returned (.string (nameOf b)) ∧ Below w1.heap.size w1 w') :
    Calls Tryd.prog 3 #[.int .i64 a, .int .i64 b] w fun e w' => e = .returned (.bool true) ∧ Below w.heap.size w w' := by
  have HE : Hid ((((nameOf a).toList == (nameOf b).toList) == (a == b)) = true) := by
    show (((nameOf a).toList == (nameOf b).toList) == (a == b)) = true
    have h1 : (nameOf a).toList = nameL a := ByteArray.toList_mk _
    have h2 : (nameOf b).toList = nameL b := ByteArray.toList_mk _
    rw [h1, h2]
    by_cases h : a = b
    · subst h; simp
    · have h3 : ¬ nameL a = nameL b := fun e => h ((nameL_inj a b).1 e)
      rw [beq_eq_false_iff_ne.2 h3, beq_eq_false_iff_ne.2 h]; rfl
  go_enter Tryd.func3, Tryd.ntmps3
  go_wp2_with fail
  refine HA.mono ?_
  rintro e w1 ⟨rfl, b1⟩
  go_wp2_with fail
  refine (HB w1 b1).mono ?_
  rintro e w2 ⟨rfl, b2⟩
  go_wp2
  go_ret
  exact ⟨ret_bool HE.out, b1.trans (b2.mono b1.size)⟩
end Go.Proofs.Qxb6603464aDoor
