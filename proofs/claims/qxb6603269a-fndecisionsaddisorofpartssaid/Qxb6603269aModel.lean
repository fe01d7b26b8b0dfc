import Derived.Test.Qxb6603269aParts
namespace Go.Proofs.Qxb6603269a
open Go.ChangeShapes Go.WideShapes Go.ChangeAt Go.RowKit
set_option linter.unusedVariables false

/-- the line-feed cache that add leaves -/
def wantL (v : ByteArray) (llf : Int) (hasM : Bool) (uN : Bool) : Int :=
  if hasM = true ∧ uN = false then (if llf = -2 then lastTo v v.size else llf) else llf
/-- are the unless-line-feed matches taken? -/
def takeB (v : ByteArray) (llf : Int) (hasM : Bool) (uN : Bool) (p : Int) : Bool := hasM && !uN && decide (wantL v llf hasM uN < p)

/-- what addModel says where it says ok: nil-ness, length, and the bounds on the lengths -/
def ModelSays (hasM fN gN T : Bool) (fl gl ul : Nat) (I : Bool) (N : Nat) : Prop :=
  let I1 := fN && !(hasM && !gN)
  let n1 := if fN = false then fl else if hasM = true ∧ gN = false then gl else 0
  (hasM = true → gN = false → fN = false → gl ≤ fl) ∧ (T = true → I1 = false → ul ≤ n1) ∧ I = (I1 && !T) ∧ N = if I1 = false then n1 else if T = true then ul else 0

set_option maxHeartbeats 1600000 in
theorem model_any (v : ByteArray) (llf : Int) (fa : Option Addr) (fl fc : Nat) (hasM : Bool) (ga : Option Addr) (gl gc : Nat) (ua : Option Addr) (ul uc : Nat) (p : Int) (w : World)
    (hv : v.size ≤ 1048576) (hf : fl ≤ 1048576) (hg : gl ≤ 1048576) (hu : ul ≤ 1048576) :
    Calls Try.prog 15 #[.string v, .int .i64 llf, .slice fa fl fc, .bool hasM, .slice ga gl gc, .slice ua ul uc, .int .i64 p] w fun e w' => w' = w ∧ ∃ I N ok,
      e = .returned (.tuple #[.int .i64 (wantL v llf hasM ua.isNone), .bool (takeB v llf hasM ua.isNone p), .bool I, .int .i64 (N : Nat), .bool ok]) ∧ (ok = true → ModelSays hasM fa.isNone ga.isNone (takeB v llf hasM ua.isNone p) fl gl ul I N) := by
  have q : ∀ (w : World) (a : Option Addr) (n c : Nat), (binOp .neq 22 (.slice a n c) (.slice none 0 0)).run Try.prog w = .ok (.bool (!a.isNone)) w := fun w a n c => run_neq_slice_nil_any w _ _ _ _ _ _ _ Try.underlying22
  obtain ⟨fN, hfN⟩ : ∃ b, fa.isNone = b := ⟨_, rfl⟩
  obtain ⟨gN, hgN⟩ : ∃ b, ga.isNone = b := ⟨_, rfl⟩
  obtain ⟨uN, huN⟩ : ∃ b, ua.isNone = b := ⟨_, rfl⟩
  rw [hfN, hgN, huN]
  cases hasM
  · cases fN
    all_goals
      go_enter Try.func15, Try.ntmps15
      go_wp2
      refine bodyPost_ret (by simp [results, Try.results15, go_sem]; try rfl) rfl ?_
    · exact ⟨rfl, false, fl, true, by simp [wantL, takeB], fun _ => by simp [ModelSays, takeB]⟩
    · exact ⟨rfl, true, 0, true, by simp [wantL, takeB], fun _ => by simp [ModelSays, takeB]⟩
  · cases uN
    · by_cases hl : llf = -2
      · subst hl
        have hb : ((-2 : Int) == -2) = true := rfl
        cases fN <;> cases gN
        all_goals
          go_enter Try.func15, Try.ntmps15
          go_wp2_with (go_at_call 28; refine (feed_any _ _ (by omega)).mono ?_; rintro e w' ⟨rfl, rfl⟩)
        all_goals
          refine bodyPost_ret (by simp [results, Try.results15, go_sem]; try rfl) rfl ?_
          clear q hv hf hg hu
          first
            | (refine ⟨rfl, false, fl, false, ?_, fun h => Bool.noConfusion h⟩; simp [wantL, takeB, *]; done)
            | (refine ⟨rfl, false, gl, false, ?_, fun h => Bool.noConfusion h⟩; simp [wantL, takeB, *]; done)
            | (refine ⟨rfl, false, fl, true, ?_, fun _ => ?_⟩; (focus (simp [wantL, takeB, *]; done)); (simp [ModelSays, takeB, wantL, *] <;> omega))
            | (refine ⟨rfl, false, gl, true, ?_, fun _ => ?_⟩; (focus (simp [wantL, takeB, *]; done)); (simp [ModelSays, takeB, wantL, *] <;> omega))
            | (refine ⟨rfl, false, ul, true, ?_, fun _ => ?_⟩; (focus (simp [wantL, takeB, *]; done)); (simp [ModelSays, takeB, wantL, *] <;> omega))
            | (refine ⟨rfl, true, 0, true, ?_, fun _ => ?_⟩; (focus (simp [wantL, takeB, *]; done)); (simp [ModelSays, takeB, wantL, *] <;> omega))
      · have hb : (llf == -2) = false := by simpa using hl
        cases fN <;> cases gN
        all_goals
          go_enter Try.func15, Try.ntmps15
          go_wp2
        all_goals
          refine bodyPost_ret (by simp [results, Try.results15, go_sem]; try rfl) rfl ?_
          clear q hv hf hg hu
          first
            | (refine ⟨rfl, false, fl, false, ?_, fun h => Bool.noConfusion h⟩; simp [wantL, takeB, *]; done)
            | (refine ⟨rfl, false, gl, false, ?_, fun h => Bool.noConfusion h⟩; simp [wantL, takeB, *]; done)
            | (refine ⟨rfl, false, fl, true, ?_, fun _ => ?_⟩; (focus (simp [wantL, takeB, *]; done)); (simp [ModelSays, takeB, wantL, *] <;> omega))
            | (refine ⟨rfl, false, gl, true, ?_, fun _ => ?_⟩; (focus (simp [wantL, takeB, *]; done)); (simp [ModelSays, takeB, wantL, *] <;> omega))
            | (refine ⟨rfl, false, ul, true, ?_, fun _ => ?_⟩; (focus (simp [wantL, takeB, *]; done)); (simp [ModelSays, takeB, wantL, *] <;> omega))
            | (refine ⟨rfl, true, 0, true, ?_, fun _ => ?_⟩; (focus (simp [wantL, takeB, *]; done)); (simp [ModelSays, takeB, wantL, *] <;> omega))
    · cases fN <;> cases gN
      all_goals
        go_enter Try.func15, Try.ntmps15
        go_wp2
      all_goals
        refine bodyPost_ret (by simp [results, Try.results15, go_sem]; try rfl) rfl ?_
        clear q hv hf hg hu
        first
          | (refine ⟨rfl, false, fl, false, ?_, fun h => Bool.noConfusion h⟩; simp [wantL, takeB, *]; done)
          | (refine ⟨rfl, false, gl, false, ?_, fun h => Bool.noConfusion h⟩; simp [wantL, takeB, *]; done)
          | (refine ⟨rfl, false, fl, true, ?_, fun _ => ?_⟩; (focus (simp [wantL, takeB, *]; done)); (simp [ModelSays, takeB, wantL, *] <;> omega))
          | (refine ⟨rfl, false, gl, true, ?_, fun _ => ?_⟩; (focus (simp [wantL, takeB, *]; done)); (simp [ModelSays, takeB, wantL, *] <;> omega))
          | (refine ⟨rfl, false, ul, true, ?_, fun _ => ?_⟩; (focus (simp [wantL, takeB, *]; done)); (simp [ModelSays, takeB, wantL, *] <;> omega))
          | (refine ⟨rfl, true, 0, true, ?_, fun _ => ?_⟩; (focus (simp [wantL, takeB, *]; done)); (simp [ModelSays, takeB, wantL, *] <;> omega))

end Go.Proofs.Qxb6603269a
