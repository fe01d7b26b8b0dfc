import Derived.Test.Qxb6603269aSmall
namespace Go.Proofs.Qxb6603269a
open Go.ChangeShapes Go.WideShapes Go.ChangeAt Go.RowKit
set_option linter.unusedVariables false

set_option maxRecDepth 100000 in
set_option maxHeartbeats 1600000 in
/-- some length is too great: it says true at once -/
theorem main_big (v : ByteArray) (llf : Int) (fa : Option Addr) (fl fc : Nat) (hasM : Bool) (ga : Option Addr) (gl gc : Nat) (ua : Option Addr) (ul uc : Nat) (p : Int) (w : World)
    (hv : v.size ≤ maxLen) (hf : fl ≤ maxLen) (hg : gl ≤ maxLen) (hu : ul ≤ maxLen) (hbig : ¬ (v.size ≤ 524288 ∧ fl ≤ 16384 ∧ gl ≤ 16384 ∧ ul ≤ 16384)) :
    Calls Try.prog 5 #[.string v, .int .i64 llf, .slice fa fl fc, .bool hasM, .slice ga gl gc, .slice ua ul uc, .int .i64 p] w fun e w' => e = .returned (.bool true) ∧ Below w.heap.size w w' := by
  have hB := bytes_any v llf fa fl fc hasM ga gl gc ua ul uc p w hv hf hg hu
  unfold maxLen at hv hf hg hu
  by_cases h0 : v.size ≤ 524288
  · by_cases h1 : fl ≤ 16384
    · by_cases h2 : gl ≤ 16384
      · have h3 : ¬ ul ≤ 16384 := fun h => hbig ⟨h0, h1, h2, h⟩
        clear hbig
        have t0 : ¬ (524288 : Int) < (v.size : Int) := by omega
        have t1 : ¬ (16384 : Int) < (fl : Int) := by omega
        have t2 : ¬ (16384 : Int) < (gl : Int) := by omega
        have t3 : (16384 : Int) < (ul : Int) := by omega
        go_enter Try.func5, Try.ntmps5
        go_wp2_with (go_at_call 14; refine hB.mono ?_; rintro e w' ⟨⟨b, rfl⟩, rfl⟩)
        all_goals (go_ret; exact ⟨rfl, Below.refl _ _⟩)
      · clear hbig
        have t0 : ¬ (524288 : Int) < (v.size : Int) := by omega
        have t1 : ¬ (16384 : Int) < (fl : Int) := by omega
        have t2 : (16384 : Int) < (gl : Int) := by omega
        go_enter Try.func5, Try.ntmps5
        go_wp2_with (go_at_call 14; refine hB.mono ?_; rintro e w' ⟨⟨b, rfl⟩, rfl⟩)
        all_goals (go_ret; exact ⟨rfl, Below.refl _ _⟩)
    · clear hbig
      have t0 : ¬ (524288 : Int) < (v.size : Int) := by omega
      have t1 : (16384 : Int) < (fl : Int) := by omega
      go_enter Try.func5, Try.ntmps5
      go_wp2_with (go_at_call 14; refine hB.mono ?_; rintro e w' ⟨⟨b, rfl⟩, rfl⟩)
      all_goals (go_ret; exact ⟨rfl, Below.refl _ _⟩)
  · clear hbig
    have t0 : (524288 : Int) < (v.size : Int) := by omega
    go_enter Try.func5, Try.ntmps5
    go_wp2_with (go_at_call 14; refine hB.mono ?_; rintro e w' ⟨⟨b, rfl⟩, rfl⟩)
    all_goals (go_ret; exact ⟨rfl, Below.refl _ _⟩)

end Go.Proofs.Qxb6603269a
