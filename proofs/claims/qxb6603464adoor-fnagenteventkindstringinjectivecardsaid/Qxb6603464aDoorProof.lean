import Derived.Test.Qxb6603464aDoorRows
import Derived.Test.Qxb6603464aDoorTie
import Derived.Test.Qxb6603464aDoorCards
import Derived.Test.Qxb6603464aDoorWalk
import Derived.ProofKit
import Derived.LaidMore
import Derived.OpenShut
import Derived.Stop.Joined
import Derived.Stop.LaidErr
import Derived.Lib.LaidTab
import Derived.SevenTiedAt
namespace Go.Proofs.Qxb6603464aDoor
open Go.ChangeShapes Go.WideShapes Go.ChangeAt Go.WideMaps Go.WideElems Go.RowKit

theorem own : ownKnob Tryd.prog.godebug = none := by kernel_rfl

/-- the three listed tables -/
def laid3 : List (String × DataW Unit) := Rows.fnAgentEventKindStringInjectiveRow.laid

/-- The door's own heap meets the condition. -/
theorem door_met (os : Os) (args : Array Value) : laidMetH Tryd.prog laid3 ((World.doorLaid Tryd.prog 24 os).forCall (fun _ _ => 0) ⟨#[], args, []⟩).memory :=
  laidMetH_of_parts3 (fuel := 8) (laidMet_of_run' 8 (by kernel_rfl) (by kernel_rfl)) (by kernel_rfl) (by kernel_rfl)

/-- the name of the table that strconv.Itoa reads -/
def powName : String := (laid3.getD 2 (default, .nil)).1

theorem laid3_eq : laid3 = [laid3.getD 0 (default, .nil), laid3.getD 1 (default, .nil), (powName, Lib.tabData .u64 Lib.pow10Tab)] := by kernel_rfl

theorem pow_named : Tryd.prog.globalNamed powName = some 0 := by kernel_rfl

/-- WHAT THE CONDITION GIVES: strconv's table of powers of ten. -/
theorem tab_of_laid {W : World} (h : laidMetH Tryd.prog laid3 W) : Lib.TabIs Tryd.prog W powName .u64 Lib.pow10Tab := by
  rw [MakeChecks.laidMetH_plain _ _ _ (by kernel_rfl), laid3_eq] at h
  exact Lib.tabIs_of_head (t := 36) (e := 28) (n := 20) pow_named (by kernel_rfl) Tryd.underlying36 Tryd.underlying28 (by kernel_rfl) (by kernel_rfl) h.tail.tail

theorem tab_below {W W' : World} (hb : Below W.heap.size W W') (h : Lib.TabIs Tryd.prog W powName .u64 Lib.pow10Tab) : Lib.TabIs Tryd.prog W' powName .u64 Lib.pow10Tab := by
  have hlt : 0 < W.heap.size := by
    have := World.var?_cell pow_named h 0
    have h2 : (Lib.pow10Tab.map fun z => Value.int .u64 z).toArray[0]? = some (.int .u64 1) := by kernel_rfl
    rw [h2] at this
    exact World.block_lt_of_cell? _ _ this
  unfold Lib.TabIs at h ⊢
  rw [← h]
  simp only [World.var?, pow_named, Option.bind_some, hb.block 0 hlt]

/-- THE WALK, under the table. -/
theorem walk (a b : Int) (w : World) (wa : (Lit.int .i64 a).wf = true) (wb : (Lit.int .i64 b).wf = true) (ht : Lib.TabIs Tryd.prog w powName .u64 Lib.pow10Tab) :
    Calls Tryd.prog 3 #[.int .i64 a, .int .i64 b] w fun e w' => e = .returned (.bool true) ∧ Below w.heap.size w w' := by
  have ba := bounds_i64 wa
  have bb := bounds_i64 wb
  have itoa : ∀ (k : Int) (W : World), -9223372036854775808 ≤ k → k ≤ 9223372036854775807 → Lib.TabIs Tryd.prog W powName .u64 Lib.pow10Tab →
      Calls Tryd.prog 5 #[.int .i64 k] W fun e w' => e = .returned (.string ⟨(Lib.itoa k).toArray⟩) ∧ ∃ q os, w' = Sort.grow (W.drewN q) os :=
    fun k W h0 h1 h => Any.strconv_Itoa Tryd.laysM171 k h0 h1 W h
  exact law_any a b w (string_any a ba.1 ba.2 w (itoa a w ba.1 ba.2 ht)) (fun w1 h1 => string_any b bb.1 bb.2 w1 (itoa b w1 bb.1 bb.2 (tab_below h1 ht)))

set_option maxRecDepth 100000 in
theorem lifted (os : Os) (started : os.Started) (H : Type) (enc : TypeId × Value → H) :
    ReturnsInHanded {} Tryd.checked os 3 .any (fun w args => (Rows.fnAgentEventKindStringInjectiveSpec.pre enc Tryd.prog Tryd.f3 [] false w args ∧ laidMetH Tryd.prog laid3 w) ∧ sizedMet enc Tryd.prog Tryd.f3 (OpenSpec.ofChange Rows.fnAgentEventKindStringInjectiveSpec) false w args)
      (Rows.fnAgentEventKindStringInjectiveSpec.post enc Tryd.prog Tryd.f3 false true false false) := by
  refine returnsInHanded_of_change_and (C := Tryd.checked) (X := fun w _ => laidMetH Tryd.prog laid3 w) (fun _ _ _ hh h => h.of_heap hh) own started (by kernel_rfl) Tryd.func3
    (ChangeSpec.witness_shaped (enc := enc) (C := Tryd.checked) (os := os) (X := fun w _ => laidMetH Tryd.prog laid3 w) false (World.doorLaid Tryd.prog 24 os) #[.int .i64 0, .int .i64 0] 8 rfl (World.shaped_of_RefB (by kernel_rfl) (by kernel_rfl)) (by kernel_rfl) (by kernel_rfl) (by kernel_rfl) (door_met os _)) ?_
  intro W base args ds gs before hval0 hW _ _ hL _
  have hval : ∀ (j : Nat) t v, Tryd.f3.params[j]? = some t → args[j]? = some v → Value.okWide Tryd.prog W .any base t v := hval0
  have hW' := hW
  obtain ⟨p, q, hA0, hV, rfl, hfz, hnd⟩ := hW
  have hA : DataW.TrodAll enc Tryd.prog W 0 (fun _ => true) true Tryd.f3.params.toList args.toList ds p := hA0
  rw [Tryd.params3] at hA hval
  obtain ⟨v0, v1, d0, d1, p0, p1, rfl, rfl, rfl, h0, h1⟩ := trodAll_two hA
  obtain ⟨rfl, rfl⟩ := trodVars_none hV
  obtain ⟨a, rfl, rfl, rfl, wa⟩ := open_int Tryd.underlying3 (hval 0 3 v0 rfl rfl) h0
  obtain ⟨b, rfl, rfl, rfl, wb⟩ := open_int Tryd.underlying3 (hval 1 3 v1 rfl rfl) h1
  clear hA0 hval0
  simp only [List.append_nil] at hW'
  refine (walk a b W wa wb (tab_of_laid hL)).mono fun e W' ⟨he, bel⟩ => ?_
  subst he
  exact ⟨_, rfl, _, _, _, [], [], [], hW', trodAll_mk1 (shut_bool Tryd.underlying4 _), trodAll_mk2 (shut_int Tryd.underlying3 wa) (shut_int Tryd.underlying3 wb), rfl, bel.frame _, fun h => by cases h⟩

theorem row_holds : Rows.FnAgentEventKindStringInjectiveSaid :=
  OpenClaim.holds_of_wide 3 Tryd.f3 rfl rfl rfl rfl rfl rfl rfl ⟨rfl, rfl, rfl, rfl, rfl⟩ rfl rfl rfl rfl rfl (by kernel_rfl) Tryd.func3 (by kernel_rfl)
    (of_decide_eq_true (by kernel_rfl)) (by unfold Func.isWrapper; first | (rw [if_pos (by decide +kernel)]; kernel_rfl) | (rw [if_neg (by decide +kernel)]; exact ⟨rfl, rfl⟩))
    (fun os started H enc _ => lifted os started H enc)

/-- THE CARD -/
theorem proved : Rows.FnAgentEventKindStringInjectiveCardSaid :=
  Claim7.holds_tied_plain_at .later [] [.data, .data, .data] true Rows.fnAgentEventKindStringInjectiveCard.stood.harness false
    row_holds (fun _ h => by cases h) (by kernel_rfl) (fun _ h => by cases h) fnAgentEventKindStringInjective_row_tie rfl ⟨rfl, rfl⟩ (by kernel_rfl) rfl
    (fun f fn hf hfn => by
      obtain rfl : f = 3 := Option.some.inj ((show Tryd.prog.funcNamed Rows.fnAgentEventKindStringInjectiveRow.func = some 3 by kernel_rfl).symm.trans hf) |>.symm
      obtain rfl : fn = Tryd.f3 := (Option.some.inj (Tryd.func3.symm.trans hfn)).symm
      exact ⟨by kernel_rfl, fun j t ht => by
        rw [Tryd.params3] at ht
        have hm : t ∈ [3, 3] := by simpa using Array.mem_of_getElem? ht
        have hall : ([3, 3].all fun u => !Tryd.prog.wantsStandIn u) = true := by kernel_rfl
        exact (show Tryd.prog.wantsStandIn t = false by simpa using List.all_eq_true.1 hall t hm)⟩)
    (by kernel_rfl)
end Go.Proofs.Qxb6603464aDoor
