import Derived.Test.Qxb6603799aHolds
namespace Go.Proofs.Qxb6603799a
open Go.ChangeShapes Go.WideShapes Go.ChangeAt Go.RowKit
set_option linter.unusedVariables false

/-- the order that 'holds' reckons -/
def ord (byValue : Bool) (c ii ci : Int) : Int := if byValue = true then c else if ii < ci then -1 else if ci < ii then 1 else 0
/-- what 'holds' says at compare cm -/
def says (cm : Int) (byValue ok : Bool) (o : Int) : Bool :=
  if byValue = true ∧ ok = false then cm == 1 else if cm = 0 then o == 0 else if cm = 1 then o != 0 else if cm = 2 then decide (o < 0) else decide (0 < o)

theorem ret_bool {a b : Bool} (h : a = b) : Ending.returned (.bool a) = .returned (.bool b) := by rw [h]

set_option maxHeartbeats 1600000 in
theorem holds_any (key : ByteArray) (cm : Int) (byValue : Bool) (ci : Int) (ca ia : Option Addr) (cl il : Nat) (f g : Nat → Int) (ii lease : Int) (ok : Bool) (w : World)
    (hcm : cm = 0 ∨ cm = 1 ∨ cm = 2 ∨ cm = 3) (hc : Own w ca cl f) (hi : Own w ia il g) :
    Calls Try.prog 28 #[.agg #[.string key, .int .u8 cm, .bool byValue, .int .u64 ci, .slice ca cl cl], .agg #[.slice ia il il, .int .u64 ii, .int .u64 lease], .bool ok] w fun e w' =>
      e = .returned (.bool (says cm byValue ok (ord byValue (Extern.BytealgCompare.cmp (bsOf g il ByteArray.empty) (bsOf f cl ByteArray.empty)) ii ci))) ∧ Below w.heap.size w w' := by
  obtain ⟨c, hce⟩ : ∃ c, c = Extern.BytealgCompare.cmp (bsOf g il ByteArray.empty) (bsOf f cl ByteArray.empty) := ⟨_, rfl⟩
  have hcmp : ∀ W, Below w.heap.size w W → Calls Try.prog 29 #[.slice ia il il, .slice ca cl cl] W fun e w' => e = .returned (.int .i64 c) ∧ W = w' := fun W hb => by
    rw [hce]
    exact (compare_any ia ca il cl g f W (hi.below hb) (hc.below hb)).mono fun e w' h => ⟨h.1, h.2.symm⟩
  rw [← hce]
  have HC := hcmp
  clear hce hcmp hc hi
  cases byValue
  · rcases hcm with rfl | rfl | rfl | rfl
    all_goals
      go_enter Try.func28, Try.ntmps28
      go_wp2
    all_goals
      go_ret
      refine ⟨ret_bool ?_, ((Below.refl _ _).alloc (Nat.le_refl _) _).alloc (by simp) _⟩
      clear HC
      simp [says, ord, *]
    all_goals ((repeat split) <;> omega)
  · cases ok
    · rcases hcm with rfl | rfl | rfl | rfl
      all_goals
        go_enter Try.func28, Try.ntmps28
        go_wp2
        go_ret
        refine ⟨ret_bool ?_, ((Below.refl _ _).alloc (Nat.le_refl _) _).alloc (by simp) _⟩
        simp [says]
    · rcases hcm with rfl | rfl | rfl | rfl
      all_goals
        go_enter Try.func28, Try.ntmps28
        go_wp2_with (go_at_call 29; refine (HC _ (((Below.refl _ _).alloc (Nat.le_refl _) _).alloc (by simp) _)).mono ?_; rintro e w' ⟨rfl, rfl⟩)
        go_ret
        refine ⟨ret_bool ?_, ((Below.refl _ _).alloc (Nat.le_refl _) _).alloc (by simp) _⟩
        simp [says, ord]

set_option maxHeartbeats 1600000 in
theorem zzHolds_any (key : ByteArray) (cm : Int) (byValue : Bool) (ci : Int) (ca ia : Option Addr) (cl il : Nat) (f g : Nat → Int) (ii lease : Int) (ok : Bool) (w : World)
    (hcm : cm = 0 ∨ cm = 1 ∨ cm = 2 ∨ cm = 3) (hc : Own w ca cl f) (hi : Own w ia il g) :
    Calls Try.prog 25 #[.agg #[.string key, .int .u8 cm, .bool byValue, .int .u64 ci, .slice ca cl cl], .agg #[.slice ia il il, .int .u64 ii, .int .u64 lease], .bool ok] w fun e w' =>
      e = .returned (.bool (says cm byValue ok (ord byValue (Extern.BytealgCompare.cmp (bsOf g il ByteArray.empty) (bsOf f cl ByteArray.empty)) ii ci))) ∧ Below w.heap.size w w' := by
  obtain ⟨c, hce⟩ : ∃ c, c = says cm byValue ok (ord byValue (Extern.BytealgCompare.cmp (bsOf g il ByteArray.empty) (bsOf f cl ByteArray.empty)) ii ci) := ⟨_, rfl⟩
  have HC : ∀ W, Below w.heap.size w W → Calls Try.prog 28 #[.agg #[.string key, .int .u8 cm, .bool byValue, .int .u64 ci, .slice ca cl cl], .agg #[.slice ia il il, .int .u64 ii, .int .u64 lease], .bool ok] W fun e w' => e = .returned (.bool c) ∧ Below W.heap.size W w' := fun W hb => by
    rw [hce]
    exact holds_any key cm byValue ci ca ia cl il f g ii lease ok W hcm (hc.below hb) (hi.below hb)
  rw [← hce]
  clear hce hc hi hcm
  go_enter Try.func25, Try.ntmps25
  go_wp2_with (go_at_call 28; refine (HC _ (((Below.refl _ _).alloc (Nat.le_refl _) _).alloc (by simp) _)).mono ?_; rintro e w' ⟨rfl, hb⟩)
  go_ret
  exact ⟨rfl, (((Below.refl _ _).alloc (Nat.le_refl _) _).alloc (by simp) _).trans (hb.mono (by simp; omega))⟩

set_option maxHeartbeats 1600000 in
theorem holdsOf_any (key : ByteArray) (cm : Int) (byValue : Bool) (ci : Int) (ca ia : Option Addr) (cl il : Nat) (f g : Nat → Int) (ii lease : Int) (ok : Bool) (w : World)
    (hcm : cm = 0 ∨ cm = 1 ∨ cm = 2 ∨ cm = 3) (hc : Own w ca cl f) (hi : Own w ia il g) :
    Calls Try.prog 9 #[.string key, .int .u8 cm, .bool byValue, .int .u64 ci, .slice ca cl cl, .slice ia il il, .int .u64 ii, .int .u64 lease, .bool ok] w fun e w' =>
      e = .returned (.bool (says cm byValue ok (ord byValue (Extern.BytealgCompare.cmp (bsOf g il ByteArray.empty) (bsOf f cl ByteArray.empty)) ii ci))) ∧ Below w.heap.size w w' := by
  have HC := zzHolds_any key cm byValue ci ca ia cl il f g ii lease ok w hcm hc hi
  clear hc hi hcm
  go_enter Try.func9, Try.ntmps9
  go_wp2_with (go_at_call 25; refine HC.mono ?_; rintro e w' ⟨rfl, hb⟩)
  go_ret
  exact ⟨rfl, hb⟩
end Go.Proofs.Qxb6603799a
