import Derived.Test.Qxb6603269aSetup
namespace Go.Proofs.Qxb6603269a
open Go.ChangeShapes Go.WideShapes Go.ChangeAt Go.RowKit
set_option linter.unusedVariables false

set_option maxHeartbeats 1600000 in
set_option maxRecDepth 100000 in
theorem main_true (v : ByteArray) (llf : Int) (a2 : Option Addr) (fl fc : Nat) (a4 : Option Addr) (gl gc : Nat) (a5 : Option Addr) (ul uc : Nat) (p : Int) (f g u : Nat → Int) (w : World)
    (hv : v.size ≤ 524288) (hfl : fl ≤ 16384) (hgl : gl ≤ 16384) (hul : ul ≤ 16384) (c2 : Came w a2 fl fc f) (c4 : Came w a4 gl gc g) (c5 : Came w a5 ul uc u) :
    Calls Try.prog 5 #[.string v, .int .i64 llf, .slice a2 fl fc, .bool true, .slice a4 gl gc, .slice a5 ul uc, .int .i64 p] w fun e w' => e = .returned (.bool true) ∧ Below w.heap.size w w' := by
  have hB := bytes_any v llf a2 fl fc true a4 gl gc a5 ul uc p w (by unfold maxLen; omega) (by unfold maxLen; omega) (by unfold maxLen; omega) (by unfold maxLen; omega)
  have hMo := model_any v llf a2 fl fc true a4 gl gc a5 ul uc p w (by omega) (by omega) (by omega) (by omega)
  have qe : ∀ (w : World) (a : Option Addr) (n c : Nat), (binOp .eql 22 (.slice a n c) (.slice none 0 0)).run Try.prog w = .ok (.bool a.isNone) w := fun w a n c => Lib.run_eql_slice_nil w _ _ _ _ _ _ _ Try.underlying22
  have qn : ∀ (w : World) (a : Option Addr) (n c : Nat), (binOp .neq 22 (.slice a n c) (.slice none 0 0)).run Try.prog w = .ok (.bool (!a.isNone)) w := fun w a n c => run_neq_slice_nil_any w _ _ _ _ _ _ _ Try.underlying22
  have t0 : ¬ (524288 : Int) < (v.size : Int) := by omega
  have t1 : ¬ (16384 : Int) < (fl : Int) := by omega
  have t2 : ¬ (16384 : Int) < (gl : Int) := by omega
  have t3 : ¬ (16384 : Int) < (ul : Int) := by omega
  go_enter Try.func5, Try.ntmps5
  go_wp2_with (first | (go_at_call 14; refine hB.mono ?_; rintro e w' ⟨⟨b, rfl⟩, hw⟩; obtain rfl := hw.symm; clear hw) | (go_at_call 15; refine hMo.mono ?_; rintro e w' ⟨hw, I, N, ok, rfl, hms⟩; obtain rfl := hw.symm; clear hw))
  · go_ret; exact ⟨rfl, Below.refl _ _⟩
  · go_ret; exact ⟨rfl, Below.refl _ _⟩
  · rename (!ok) = false => hok0
    obtain rfl : ok = true := by simpa using hok0
    replace hms := hms rfl
    clear hok0
    rename (!_) = false => hb0
    rename (((_ : Int) ≤ _ ∧ (_ : Int) ≤ _) ∧ (_ : Int) ≤ _) ∧ (_ : Int) ≤ _ => hc0
    clear hb0 hc0 t0 t1 t2 t3
    have HMS : Hid (ModelSays true a2.isNone a4.isNone (takeB v llf true a5.isNone p) fl gl ul I N) := hms
    clear hms hB hMo
    refine (clone_any a2 fl fc f w (by omega) c2).mono ?_
    rintro e w1 ⟨f0, rfl, n0, b0, o0, l0⟩
    have N0 : Hid (f0.isNone = a2.isNone) := n0
    clear n0
    go_wp2_with fail
    refine (clone_any a2 fl fc f w1 (by omega) (c2.below b0)).mono ?_
    rintro e w2 ⟨fa, rfl, n1, b1, o1, l1⟩
    have N1 : Hid (fa.isNone = a2.isNone) := n1
    clear n1
    go_wp2_with fail
    refine (clone_any a4 gl gc g w2 (by omega) ((c4.below b0).below b1)).mono ?_
    rintro e w3 ⟨ga, rfl, n2, b2, o2, l2⟩
    have N2 : Hid (ga.isNone = a4.isNone) := n2
    clear n2
    go_wp2_with fail
    refine (clone_any a5 ul uc u w3 (by omega) (((c5.below b0).below b1).below b2)).mono ?_
    rintro e w4 ⟨ua, rfl, n3, b3, o3, l3⟩
    have N3 : Hid (ua.isNone = a5.isNone) := n3
    clear n3
    have S := fun W hW => setup v llf b0 o0 l0 b1 o1 l1 b2 o2 l2 b3 o3 l3 W hW
    have HS : Hid (∀ W, _) := S
    clear S b0 o0 l0 b1 o1 l1 b2 o2 l2 b3 o3 l3 c2 c4 c5
    go_wp2_with fail
    refine (newDec v llf fa fl w4).mono ?_
    rintro e w5 ⟨rfl, rfl⟩
    go_wp2_with fail
    refine (newMat ga ua gl ul _).mono ?_
    rintro e w6 ⟨rfl, rfl⟩
    go_wp2_with fail
    have S := HS.out _ rfl
    clear HS
    generalize ((w4.alloc (.cells #[.string v, .int .i64 llf, .slice fa fl fl] 51)).alloc (.cells #[.slice ga gl gl, .slice ua ul ul] 53)) = W5 at S ⊢
    obtain ⟨⟨hD, hM, hbel⟩, ⟨p0, p1, p2, p3⟩, ⟨x0, x1, x2⟩, ⟨y1, y2, y3, y4, y5⟩, z1, z2⟩ := S
    refine (zzadd_some w4.heap.size (w4.heap.size + 1) v llf p fa ga ua fl gl ul f g u I N W5 (by omega) (by omega) (by omega) (by omega) hD hM p1 p2 p3 x1 x2 y1 y2 y3 (by omega) (by rw [N1.out, N2.out, N3.out]; exact HMS.out)).mono ?_
    rintro e w6 ⟨rfl, ra, r, hdone⟩
    rw [N3.out] at hdone
    have k0 := p0.keptBy hdone.kept y4 x0
    have k2 := p2.keptBy hdone.kept y5 x1
    have k3 := p3.keptBy hdone.kept y3 x2
    have kb := kept_below hbel hdone.kept z2 z1
    clear hD hM hbel p0 p1 p2 p3 x0 x1 x2 y1 y2 y3 y4 y5 z1 z2
    go_wp2_with fail
    refine (fields_any w4.heap.size v _ ra N w6 hdone.hD).mono ?_
    rintro e w7 ⟨rfl, q, rfl⟩
    have hI := hdone.nil
    have hown := hdone.own.drewN q
    have hsame := hdone.same
    have hval := hdone.val
    replace k0 := k0.drewN q
    replace k2 := k2.drewN q
    replace k3 := k3.drewN q
    replace kb := below_drewN' kb q
    clear hdone
    generalize w6.drewN q = W7 at *
    generalize takeB v llf true a5.isNone p = T at *
    have hNb := model_bd HMS.out hfl hgl hul
    go_wp2_with fail
    clear qe hI
    cases hF : fa.isNone
    · obtain ⟨hra, hNf⟩ := hsame hF
      subst hra
      have HNF : Hid (N = fl) := hNf
      clear hsame hNf
      cases T
      all_goals
        go_loopw [26] (fun i wr => W7 = wr ∧ ∃ k : Nat, k ≤ N ∧ i = .int .i64 k) (fun i _ => N - (intOf i).toNat)
        case atStart => exact ⟨rfl, 0, Nat.zero_le _, rfl⟩
        case round =>
          obtain ⟨rfl, k, hk, rfl⟩ := hrel
          by_cases hlt : k < N
          · obtain ⟨b, hb, hc⟩ := hown.cell hlt
            have hvk := hval k hlt
            simp only [if_true, Bool.false_eq_true, if_false, orW] at hvk
            rw [hvk] at hc
            clear hvk
            subst hb
            have hltz : (k : Int) < (N : Int) := by omega
            go_wp2_with (first | (go_at_call_of 11 (Value.slice f0 fl fl); refine (word_any f0 fl f k _ (by omega) (by omega) k0).mono ?_; rintro e w' ⟨rfl, hw⟩; obtain rfl := hw.symm; clear hw) | (go_at_call_of 11 (Value.slice ga gl gl); refine (word_any ga gl g k _ (by omega) (by omega) k2).mono ?_; rintro e w' ⟨rfl, hw⟩; obtain rfl := hw.symm; clear hw) | (go_at_call_of 11 (Value.slice ua ul ul); refine (word_any ua ul u k _ (by omega) (by omega) k3).mono ?_; rintro e w' ⟨rfl, hw⟩; obtain rfl := hw.symm; clear hw))
            go_roundw
            case rel => exact ⟨trivial, k + 1, by omega, by go_num⟩
            case measure => simp [intOf]; omega
          · have hge : (N : Int) ≤ (k : Int) := by omega
            go_wp2
            go_loopw [28] (fun i wr => ∃ k q : Nat, k ≤ fl ∧ i = .int .i64 k ∧ wr = W7.drewN q) (fun i _ => fl - (intOf i).toNat)
            case atStart => exact ⟨0, 0, Nat.zero_le _, rfl, rfl⟩
            case round =>
              obtain ⟨j, q, hj, rfl, rfl⟩ := hrel
              by_cases hlt : j < fl
              · have hltN : j < N := by have := HNF.out; omega
                obtain ⟨b, hb, hc⟩ := hown.cell hltN
                subst hb
                have hltz : (j : Int) < (fl : Int) := by omega
                have hltz2 : (j : Int) < (N : Int) := by omega
                go_wp2
                go_quiet (fail)
                go_wp2
                go_roundw
                case rel => exact ⟨j + 1, _, by omega, by go_num, rfl⟩
                case measure => simp [intOf]; omega
              · have hge2 : (fl : Int) ≤ (j : Int) := by omega
                go_wp2
                go_ret
                exact ⟨rfl, below_drewN' kb q⟩
    · clear hsame
      cases T
      all_goals
        go_loopw [26] (fun i wr => W7 = wr ∧ ∃ k : Nat, k ≤ N ∧ i = .int .i64 k) (fun i _ => N - (intOf i).toNat)
        case atStart => exact ⟨rfl, 0, Nat.zero_le _, rfl⟩
        case round =>
          obtain ⟨rfl, k, hk, rfl⟩ := hrel
          by_cases hlt : k < N
          · obtain ⟨b, hb, hc⟩ := hown.cell hlt
            have hvk := hval k hlt
            simp only [if_true, Bool.false_eq_true, if_false, orW] at hvk
            rw [hvk] at hc
            clear hvk
            subst hb
            have hltz : (k : Int) < (N : Int) := by omega
            go_wp2_with (first | (go_at_call_of 11 (Value.slice f0 fl fl); refine (word_any f0 fl f k _ (by omega) (by omega) k0).mono ?_; rintro e w' ⟨rfl, hw⟩; obtain rfl := hw.symm; clear hw) | (go_at_call_of 11 (Value.slice ga gl gl); refine (word_any ga gl g k _ (by omega) (by omega) k2).mono ?_; rintro e w' ⟨rfl, hw⟩; obtain rfl := hw.symm; clear hw) | (go_at_call_of 11 (Value.slice ua ul ul); refine (word_any ua ul u k _ (by omega) (by omega) k3).mono ?_; rintro e w' ⟨rfl, hw⟩; obtain rfl := hw.symm; clear hw))
            go_roundw
            case rel => exact ⟨trivial, k + 1, by omega, by go_num⟩
            case measure => simp [intOf]; omega
          · have hge : (N : Int) ≤ (k : Int) := by omega
            go_wp2
            go_ret
            exact ⟨rfl, kb⟩
end Go.Proofs.Qxb6603269a
