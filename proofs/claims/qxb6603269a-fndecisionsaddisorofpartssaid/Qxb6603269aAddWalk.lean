import Derived.Test.Qxb6603269aAdd
namespace Go.Proofs.Qxb6603269a
open Go.ChangeShapes Go.WideShapes Go.ChangeAt Go.RowKit
set_option linter.unusedVariables false

set_option maxHeartbeats 1600000 in
theorem add_some (bd bm : Nat) (v : ByteArray) (llf p : Int) (fa ga ua : Option Addr) (fl gl ul : Nat) (f g u : Nat → Int) (I : Bool) (N : Nat) (w : World)
    (hv : v.size ≤ 1048576) (hfl : fl ≤ 1048576) (hgl : gl ≤ 1048576) (hul : ul ≤ 1048576)
    (hD : w.heap[bd]? = some (.cells #[.string v, .int .i64 llf, .slice fa fl fl] 51 (0, 0)))
    (hM : w.heap[bm]? = some (.cells #[.slice ga gl gl, .slice ua ul ul] 53 (0, 0)))
    (hf : Own w fa fl f) (hg : Own w ga gl g) (hu : Own w ua ul u)
    (hne : ∀ k, blk fa = some k → blk ga ≠ some k) (hneu : ∀ k, blk fa = some k → blk ua ≠ some k) (hdf : blk fa ≠ some bd) (hmf : blk fa ≠ some bm) (hdu : blk ua ≠ some bd) (hdm : bd ≠ bm)
    (hms : ModelSays true fa.isNone ga.isNone (takeB v llf true ua.isNone p) fl gl ul I N) :
    Calls Try.prog 29 #[.pointer (some ⟨bd, 0, none⟩), .pointer (some ⟨bm, 0, none⟩), .int .i64 p] w fun e w' => e = .returned (.tuple #[]) ∧ ∃ ra r, Done w w' bd v (wantL v llf true ua.isNone) (takeB v llf true ua.isNone p) fa ga fl gl ul f g u I N ra r := by
  have q : ∀ (w : World) (a : Option Addr) (n c : Nat), (binOp .neq 22 (.slice a n c) (.slice none 0 0)).run Try.prog w = .ok (.bool (!a.isNone)) w := fun w a n c => run_neq_slice_nil_any w _ _ _ _ _ _ _ Try.underlying22
  have hgf : fa.isNone = false → gl ≤ fl := by
    intro hF
    cases hG : ga.isNone
    · exact hms.1 rfl hG hF
    · rcases hg.row with ⟨_, h⟩ | ⟨b, h, _⟩
      · omega
      · simp [h] at hG
  have hlt := lt_of_heap hD
  obtain ⟨d0, d1, d2, dz⟩ := three_cells hD
  obtain ⟨m0, m1⟩ := two_cells hM
  cases huN : ua.isNone
  · obtain ⟨L, hLe⟩ : ∃ L, L = wantL v llf true false := ⟨_, rfl⟩
    rw [← hLe]
    obtain ⟨T, hTe⟩ : ∃ T, T = takeB v llf true false p := ⟨_, rfl⟩
    have hT : T = decide (L < p) := by rw [hTe, hLe]; simp [takeB]
    rw [huN] at hms
    rw [← hTe] at hms ⊢
    clear hTe
    by_cases hl : llf = -2
    · have hL2 : L = lastTo v v.size := by rw [hLe]; simp [wantL, hl]
      have HL : Hid (lastTo v v.size = L) := hL2.symm
      have hb : (llf == -2) = true := by simpa using hl
      clear hLe hL2 hl
      by_cases hp : L < p
      · obtain rfl : T = true := by rw [hT]; simpa using hp
        clear hT
        have HMS : Hid (ModelSays true fa.isNone ga.isNone true fl gl ul I N) := hms
        clear hms
        go_enter Try.func29, Try.ntmps29
        go_wp2
        go_region_with (go_at_call 27; refine (or_any fa ga fl gl f g w.drew hfl hgl hf.drew hg.drew hgf hne).mono ?_; rintro e w1 ⟨ra, rn, r, rfl, hown, hgr, hsome, hnone, hr⟩; have e0 := (hgr.block bd (World.block_lt_of_cell? _ _ d0) (fun h => hdf h.symm)).trans hD; have e1 := (three_cells e0).2.2.1; have e2 := (three_cells e0).2.2.2)
        all_goals
          have mid := mid_mk hD hM hu hneu hdf hmf hdu hdm hown hgr hsome hnone hr
          clear e0 e1 e2 hown hgr hsome hnone hr
          generalize w1.setCell ⟨bd, 2, none⟩ (.slice ra rn rn) = W1 at mid ⊢
          obtain ⟨d0, d1, d2, dz⟩ := three_cells mid.hD
          obtain ⟨m0, m1⟩ := two_cells mid.hM
          go_wp2_with (go_at_call 31; refine (lastByte_any _ _ hv).mono ?_; rintro e w' ⟨rfl, rfl⟩; rw [HL.out])
          replace mid := mid.setL (L' := L) hdm hdu hdf hlt
          clear d0 d1 d2 dz m0 m1
          generalize w'.setCell ⟨bd, 1, none⟩ (.int .i64 L) = W2 at mid ⊢
          obtain ⟨d0, d1, d2, dz⟩ := three_cells mid.hD
          obtain ⟨m0, m1⟩ := two_cells mid.hM
          have sp := second_pre mid HMS.out hu hfl hgl hneu
          go_region_with (go_at_call 27; refine (or_any ra ua rn ul r u W2.drew sp.1 hul mid.own.drew mid.ownu.drew sp.2.1 sp.2.2).mono ?_; rintro e w2 ⟨sa, sn, s, rfl, hown, hgr, hsome, hnone, hr⟩; have e0 := (hgr.block bd (Nat.lt_of_lt_of_le hlt mid.kept.size) (fun h => mid_ne mid hdf hlt h.symm)).trans mid.hD; have e1 := (three_cells e0).2.2.1; have e2 := (three_cells e0).2.2.2)
        all_goals
          go_wp2
          go_end0
          exact ⟨rfl, _, _, done_yes mid HMS.out hf hg huN hdf hlt hown hgr hsome hnone hr⟩
      · obtain rfl : T = false := by rw [hT]; simpa using hp
        clear hT
        have HMS : Hid (ModelSays true fa.isNone ga.isNone false fl gl ul I N) := hms
        clear hms
        go_enter Try.func29, Try.ntmps29
        go_wp2
        go_region_with (go_at_call 27; refine (or_any fa ga fl gl f g w.drew hfl hgl hf.drew hg.drew hgf hne).mono ?_; rintro e w1 ⟨ra, rn, r, rfl, hown, hgr, hsome, hnone, hr⟩; have e0 := (hgr.block bd (World.block_lt_of_cell? _ _ d0) (fun h => hdf h.symm)).trans hD; have e1 := (three_cells e0).2.2.1; have e2 := (three_cells e0).2.2.2)
        all_goals
          have mid := mid_mk hD hM hu hneu hdf hmf hdu hdm hown hgr hsome hnone hr
          clear e0 e1 e2 hown hgr hsome hnone hr
          generalize w1.setCell ⟨bd, 2, none⟩ (.slice ra rn rn) = W1 at mid ⊢
          obtain ⟨d0, d1, d2, dz⟩ := three_cells mid.hD
          obtain ⟨m0, m1⟩ := two_cells mid.hM
          go_wp2_with (go_at_call 31; refine (lastByte_any _ _ hv).mono ?_; rintro e w' ⟨rfl, rfl⟩; rw [HL.out])
          go_end0
          exact ⟨rfl, _, _, done_no (mid.setL (L' := L) hdm hdu hdf hlt) HMS.out hf hg⟩
    · obtain rfl : L = llf := by rw [hLe]; simp [wantL, hl]
      have hb : (L == -2) = false := by simpa using hl
      clear hLe hl
      by_cases hp : L < p
      · obtain rfl : T = true := by rw [hT]; simpa using hp
        clear hT
        have HMS : Hid (ModelSays true fa.isNone ga.isNone true fl gl ul I N) := hms
        clear hms
        go_enter Try.func29, Try.ntmps29
        go_wp2
        go_region_with (go_at_call 27; refine (or_any fa ga fl gl f g w.drew hfl hgl hf.drew hg.drew hgf hne).mono ?_; rintro e w1 ⟨ra, rn, r, rfl, hown, hgr, hsome, hnone, hr⟩; have e0 := (hgr.block bd (World.block_lt_of_cell? _ _ d0) (fun h => hdf h.symm)).trans hD; have e1 := (three_cells e0).2.2.1; have e2 := (three_cells e0).2.2.2)
        all_goals
          have mid := mid_mk hD hM hu hneu hdf hmf hdu hdm hown hgr hsome hnone hr
          clear e0 e1 e2 hown hgr hsome hnone hr
          generalize w1.setCell ⟨bd, 2, none⟩ (.slice ra rn rn) = W2 at mid ⊢
          obtain ⟨d0, d1, d2, dz⟩ := three_cells mid.hD
          obtain ⟨m0, m1⟩ := two_cells mid.hM
          go_wp2
          have sp := second_pre mid HMS.out hu hfl hgl hneu
          go_region_with (go_at_call 27; refine (or_any ra ua rn ul r u W2.drew sp.1 hul mid.own.drew mid.ownu.drew sp.2.1 sp.2.2).mono ?_; rintro e w2 ⟨sa, sn, s, rfl, hown, hgr, hsome, hnone, hr⟩; have e0 := (hgr.block bd (Nat.lt_of_lt_of_le hlt mid.kept.size) (fun h => mid_ne mid hdf hlt h.symm)).trans mid.hD; have e1 := (three_cells e0).2.2.1; have e2 := (three_cells e0).2.2.2)
        all_goals
          go_wp2
          go_end0
          exact ⟨rfl, _, _, done_yes mid HMS.out hf hg huN hdf hlt hown hgr hsome hnone hr⟩
      · obtain rfl : T = false := by rw [hT]; simpa using hp
        clear hT
        have HMS : Hid (ModelSays true fa.isNone ga.isNone false fl gl ul I N) := hms
        clear hms
        go_enter Try.func29, Try.ntmps29
        go_wp2
        go_region_with (go_at_call 27; refine (or_any fa ga fl gl f g w.drew hfl hgl hf.drew hg.drew hgf hne).mono ?_; rintro e w1 ⟨ra, rn, r, rfl, hown, hgr, hsome, hnone, hr⟩; have e0 := (hgr.block bd (World.block_lt_of_cell? _ _ d0) (fun h => hdf h.symm)).trans hD; have e1 := (three_cells e0).2.2.1; have e2 := (three_cells e0).2.2.2)
        all_goals
          have mid := mid_mk hD hM hu hneu hdf hmf hdu hdm hown hgr hsome hnone hr
          clear e0 e1 e2 hown hgr hsome hnone hr
          generalize w1.setCell ⟨bd, 2, none⟩ (.slice ra rn rn) = W1 at mid ⊢
          obtain ⟨d0, d1, d2, dz⟩ := three_cells mid.hD
          obtain ⟨m0, m1⟩ := two_cells mid.hM
          go_wp2
          go_end0
          exact ⟨rfl, _, _, done_no mid HMS.out hf hg⟩
  · have eT : takeB v llf true true p = false := by simp [takeB]
    have eL : wantL v llf true true = llf := by simp [wantL]
    rw [huN, eT] at hms
    rw [eT, eL]
    clear eT eL
    have HMS : Hid (ModelSays true fa.isNone ga.isNone false fl gl ul I N) := hms
    clear hms
    go_enter Try.func29, Try.ntmps29
    go_wp2
    go_region_with (go_at_call 27; refine (or_any fa ga fl gl f g w.drew hfl hgl hf.drew hg.drew hgf hne).mono ?_; rintro e w1 ⟨ra, rn, r, rfl, hown, hgr, hsome, hnone, hr⟩; have e0 : w1.heap[bd]? = some (.cells #[.string v, .int .i64 llf, .slice fa fl fl] 51 (0, 0)) := (hgr.block bd (World.block_lt_of_cell? _ _ d0) (fun h => hdf h.symm)).trans hD; have e1 := (three_cells e0).2.2.1; have e2 := (three_cells e0).2.2.2)
    all_goals
      have mid := mid_mk hD hM hu hneu hdf hmf hdu hdm hown hgr hsome hnone hr
      clear e0 e1 e2 hown hgr hsome hnone hr
      generalize w1.setCell ⟨bd, 2, none⟩ (.slice ra rn rn) = W1 at mid ⊢
      obtain ⟨d0, d1, d2, dz⟩ := three_cells mid.hD
      obtain ⟨m0, m1⟩ := two_cells mid.hM
      go_wp2
      go_end0
      exact ⟨rfl, _, _, done_no mid HMS.out hf hg⟩
end Go.Proofs.Qxb6603269a
