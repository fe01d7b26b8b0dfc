import Derived.Test.Qxb6603269aMain
namespace Go.Proofs.Qxb6603269a
open Go.ChangeShapes Go.WideShapes Go.ChangeAt Go.RowKit
set_option linter.unusedVariables false

set_option maxHeartbeats 1600000 in
set_option maxRecDepth 100000 in
theorem main_false (v : ByteArray) (llf : Int) (a2 : Option Addr) (fl fc : Nat) (a4 : Option Addr) (gl gc : Nat) (a5 : Option Addr) (ul uc : Nat) (p : Int) (f g u : Nat → Int) (w : World)
    (hv : v.size ≤ 524288) (hfl : fl ≤ 16384) (hgl : gl ≤ 16384) (hul : ul ≤ 16384) (c2 : Came w a2 fl fc f) (c4 : Came w a4 gl gc g) (c5 : Came w a5 ul uc u) :
    Calls Try.prog 5 #[.string v, .int .i64 llf, .slice a2 fl fc, .bool false, .slice a4 gl gc, .slice a5 ul uc, .int .i64 p] w fun e w' => e = .returned (.bool true) ∧ Below w.heap.size w w' := by
  have hB := bytes_any v llf a2 fl fc false a4 gl gc a5 ul uc p w (by unfold maxLen; omega) (by unfold maxLen; omega) (by unfold maxLen; omega) (by unfold maxLen; omega)
  have hMo := model_any v llf a2 fl fc false a4 gl gc a5 ul uc p w (by omega) (by omega) (by omega) (by omega)
  have qe : ∀ (w : World) (a : Option Addr) (n c : Nat), (binOp .eql 22 (.slice a n c) (.slice none 0 0)).run Try.prog w = .ok (.bool a.isNone) w := fun w a n c => Lib.run_eql_slice_nil w _ _ _ _ _ _ _ Try.underlying22
  have qn : ∀ (w : World) (a : Option Addr) (n c : Nat), (binOp .neq 22 (.slice a n c) (.slice none 0 0)).run Try.prog w = .ok (.bool (!a.isNone)) w := fun w a n c => run_neq_slice_nil_any w _ _ _ _ _ _ _ Try.underlying22
  have t0 : ¬ (524288 : Int) < (v.size : Int) := by omega
  have t1 : ¬ (16384 : Int) < (fl : Int) := by omega
  have t2 : ¬ (16384 : Int) < (gl : Int) := by omega
  have t3 : ¬ (16384 : Int) < (ul : Int) := by omega
  go_enter Try.func5, Try.ntmps5
  go_wp2_with (first | (go_at_call 14; refine hB.mono ?_; rintro e w' ⟨⟨b, rfl⟩, hw⟩; obtain rfl := hw.symm; clear hw) | (go_at_call 15; refine hMo.mono ?_; rintro e w' ⟨hw, I, N, ok, rfl, hms⟩; obtain rfl := hw.symm; clear hw))
  · go_ret; exact ⟨rfl, Below.refl _ _⟩
  · go_ret; exact ⟨rfl, Below.refl _ _⟩
  · rename (!ok) = false => hok0
    obtain rfl : ok = true := by simpa using hok0
    replace hms := hms rfl
    clear hok0
    rename (!_) = false => hb0
    rename (((_ : Int) ≤ _ ∧ (_ : Int) ≤ _) ∧ (_ : Int) ≤ _) ∧ (_ : Int) ≤ _ => hc0
    clear hb0 hc0 t0 t1 t2 t3
    have HMS : Hid (ModelSays false a2.isNone a4.isNone (takeB v llf false a5.isNone p) fl gl ul I N) := hms
    clear hms hB hMo
    refine (clone_any a2 fl fc f w (by omega) c2).mono ?_
    rintro e w1 ⟨f0, rfl, n0, b0, o0, l0⟩
    have N0 : Hid (f0.isNone = a2.isNone) := n0
    clear n0
    go_wp2_with fail
    refine (clone_any a2 fl fc f w1 (by omega) (c2.below b0)).mono ?_
    rintro e w2 ⟨fa, rfl, n1, b1, o1, l1⟩
    have N1 : Hid (fa.isNone = a2.isNone) := n1
    clear n1
    go_wp2_with fail
    refine (clone_any a4 gl gc g w2 (by omega) ((c4.below b0).below b1)).mono ?_
    rintro e w3 ⟨ga, rfl, n2, b2, o2, l2⟩
    have N2 : Hid (ga.isNone = a4.isNone) := n2
    clear n2
    go_wp2_with fail
    refine (clone_any a5 ul uc u w3 (by omega) (((c5.below b0).below b1).below b2)).mono ?_
    rintro e w4 ⟨ua, rfl, n3, b3, o3, l3⟩
    have N3 : Hid (ua.isNone = a5.isNone) := n3
    clear n3
    have hN : N = fl := by
      have h4 := HMS.out.2.2.2
      have hz : a2.isNone = true → fl = 0 := by rw [← N1.out]; rcases o1.row with ⟨_, h⟩ | ⟨b, h, _⟩ <;> simp_all
      rw [h4]
      cases hA : a2.isNone <;> simp [takeB] <;> simp_all
    have hI : I = fa.isNone := by
      rw [HMS.out.2.2.1, N1.out]; simp [takeB]
    have eT : takeB v llf false a5.isNone p = false := by simp [takeB]
    have eL : wantL v llf false a5.isNone = llf := by simp [wantL]
    rw [eT, eL]
    clear eT eL HMS N0 N1 N2 N3
    obtain rfl := hN.symm
    obtain rfl := hI.symm
    clear hN hI
    have s0 := b0.size
    have s1 := b1.size
    have s2 := b2.size
    have s3 := b3.size
    have k0 := ((((o0.below b1).below b2).below b3).alloc (.cells #[.string v, .int .i64 llf, .slice fa fl fl] 51))
    have hown := (((o1.below b2).below b3).alloc (.cells #[.string v, .int .i64 llf, .slice fa fl fl] 51))
    have kb := (((b0.trans (b1.mono s0)).trans (b2.mono (by omega))).trans (b3.mono (by omega))).alloc (by omega) (.cells #[.string v, .int .i64 llf, .slice fa fl fl] 51)
    have hD := Deep.blk_alloc_new w4 (.cells #[.string v, .int .i64 llf, .slice fa fl fl] 51)
    clear b0 o0 l0 b1 o1 l1 b2 o2 l2 b3 o3 l3 c2 c4 c5 s0 s1 s2 s3
    go_wp2_with fail
    refine (newDec v llf fa fl w4).mono ?_
    rintro e w5 ⟨rfl, rfl⟩
    go_wp2_with fail
    generalize (w4.alloc (.cells #[.string v, .int .i64 llf, .slice fa fl fl] 51)) = W5 at *
    refine (add_nil w4.heap.size p W5).mono ?_
    rintro e w6 ⟨rfl, hw⟩
    obtain rfl := hw.symm
    clear hw
    go_wp2_with fail
    refine (fields_any w4.heap.size v llf fa fl W5 hD).mono ?_
    rintro e w7 ⟨rfl, q, rfl⟩
    replace hown := hown.drewN q
    replace k0 := k0.drewN q
    replace kb := below_drewN' kb q
    clear hD
    generalize W5.drewN q = W7 at *
    have hI : ∃ b, fa.isNone = b := ⟨_, rfl⟩
    obtain ⟨I, hI⟩ := hI
    rw [hI]
    cases I
    · go_wp2_with fail
      clear qe
      go_loopw [26] (fun i wr => W7 = wr ∧ ∃ k : Nat, k ≤ fl ∧ i = .int .i64 k) (fun i _ => fl - (intOf i).toNat)
      case atStart => exact ⟨rfl, 0, Nat.zero_le _, rfl⟩
      case round =>
        obtain ⟨rfl, k, hk, rfl⟩ := hrel
        by_cases hlt : k < fl
        · obtain ⟨b, hb, hc⟩ := hown.cell hlt
          rw [← pad_in (f := f) hlt] at hc
          subst hb
          have hltz : (k : Int) < (fl : Int) := by omega
          go_wp2_with (go_at_call 11; refine (word_any f0 fl f k _ (by omega) (by omega) k0).mono ?_; rintro e w' ⟨rfl, hw⟩; obtain rfl := hw.symm; clear hw)
          go_roundw
          case rel => first | exact ⟨trivial, k + 1, by omega, by go_num⟩ | exact ⟨rfl, k + 1, by omega, by go_num⟩
          case measure => simp [intOf]; omega
        · have hge : (fl : Int) ≤ (k : Int) := by omega
          go_wp2
          go_loopw [28] (fun i wr => ∃ k q : Nat, k ≤ fl ∧ i = .int .i64 k ∧ wr = W7.drewN q) (fun i _ => fl - (intOf i).toNat)
          case atStart => exact ⟨0, 0, Nat.zero_le _, rfl, rfl⟩
          case round =>
            obtain ⟨j, q, hj, rfl, rfl⟩ := hrel
            by_cases hlt : j < fl
            · obtain ⟨b, hb, hc⟩ := hown.cell hlt
              subst hb
              have hltz : (j : Int) < (fl : Int) := by omega
              go_wp2
              go_quiet (fail)
              go_wp2
              go_roundw
              case rel => exact ⟨j + 1, _, by omega, by go_num, rfl⟩
              case measure => simp [intOf]; omega
            · have hge2 : (fl : Int) ≤ (j : Int) := by omega
              go_wp2
              go_ret
              exact ⟨rfl, below_drewN' kb q⟩
    · go_wp2_with fail
      clear qe
      go_loopw [26] (fun i wr => W7 = wr ∧ ∃ k : Nat, k ≤ fl ∧ i = .int .i64 k) (fun i _ => fl - (intOf i).toNat)
      case atStart => exact ⟨rfl, 0, Nat.zero_le _, rfl⟩
      case round =>
        obtain ⟨rfl, k, hk, rfl⟩ := hrel
        by_cases hlt : k < fl
        · obtain ⟨b, hb, hc⟩ := hown.cell hlt
          rw [← pad_in (f := f) hlt] at hc
          subst hb
          have hltz : (k : Int) < (fl : Int) := by omega
          go_wp2_with (go_at_call 11; refine (word_any f0 fl f k _ (by omega) (by omega) k0).mono ?_; rintro e w' ⟨rfl, hw⟩; obtain rfl := hw.symm; clear hw)
          go_roundw
          case rel => first | exact ⟨trivial, k + 1, by omega, by go_num⟩ | exact ⟨rfl, k + 1, by omega, by go_num⟩
          case measure => simp [intOf]; omega
        · have hge : (fl : Int) ≤ (k : Int) := by omega
          go_wp2
          go_ret
          exact ⟨rfl, kb⟩
end Go.Proofs.Qxb6603269a
