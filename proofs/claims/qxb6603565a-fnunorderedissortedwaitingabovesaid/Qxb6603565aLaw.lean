import Derived.Test.Qxb6603565aFields
namespace Go.Proofs.Qxb6603565a
open Go.RowKit Go.Maps
set_option linter.unusedVariables false

/-- has one of the first k numbers been found at place t? -/
def hitB (f y : Nat → Int) (k t : Nat) : Bool := (List.range k).any fun i => decide (f i = y t)

theorem hitB_zero (f y : Nat → Int) (t : Nat) : hitB f y 0 t = false := rfl
theorem hitB_succ (f y : Nat → Int) (k t : Nat) : hitB f y (k + 1) t = (hitB f y k t || decide (f k = y t)) := by
  simp [hitB, List.range_succ, List.any_append]
theorem hitB_true {f y : Nat → Int} {k t : Nat} (i : Nat) (hi : i < k) (h : f i = y t) : hitB f y k t = true := by
  simp only [hitB, List.any_eq_true, List.mem_range, decide_eq_true_eq]
  exact ⟨i, hi, h⟩

theorem unorderedZ (br bm n : Nat) (D : DataW Unit) (f : Nat → Int) (o : ByteArray) (inc : Int) (pa : Option Addr) (m c : Nat) (after : Int) (w : World) (hn : n ≤ 65536) (hm : m ≤ 32768)
    (hwf : ∀ i, i < n → (Lit.int .u64 (f i)).wf = true) (hW : Waits w bm n D f o inc) (hR : IsRepl w br bm (.slice pa m c)) :
    Calls Try.prog 22 #[.pointer (some ⟨br, 0, none⟩), .int .u64 after] w fun e w' => ∃ ys ea ec base, e = .returned (.slice ea ys.length ec) ∧ Keys D after ys ∧ w'.ownsRow base 105 8 (.slice ea ys.length ec) ys.length (entsC o inc (fun t => ys.getD t 0) ys.length) ∧ Below w.heap.size w w' := by
  have H := unord_any br bm n D f o inc pa m c after w hn hm hwf hW hR
  clear hwf hW hR
  go_enter Try.func22, Try.ntmps22
  go_wp2_with (go_at_call 28; refine H.mono ?_; rintro e w' ⟨ys, ea, ec, base, rfl, h1, h2, h3⟩)
  go_ret
  exact ⟨ys, ea, ec, base, rfl, h1, h2, h3⟩

/-- what the law needs of the sorted numbers -/
structure Good (f : Nat → Int) (n : Nat) (after : Int) (N : Nat) (y : Nat → Int) : Prop where
  asc : ∀ i j, i < j → j < N → y i < y j
  above : ∀ t, t < N → after < y t
  from_ : ∀ t, t < N → ∃ i, i < n ∧ f i = y t
  found : ∀ i, i < n → after < f i → ∃ j, j < N ∧ y j = f i
  len : N ≤ n

theorem good_of {w : World} {bm n : Nat} {D : DataW Unit} {f : Nat → Int} {o : ByteArray} {inc after : Int} {ys : List Int} (hW : Waits w bm n D f o inc) (hK : Keys D after ys) : Good f n after ys.length (fun t => ys.getD t 0) := by
  have at_ : ∀ t, t < ys.length → ys.getD t 0 ∈ ys := fun t ht => by
    rw [List.getD_eq_getElem?_getD, List.getElem?_eq_getElem ht]; exact List.getElem_mem _
  refine ⟨hK.asc, fun t ht => ((hK.mem _).1 (at_ t ht)).2, fun t ht => (hW.keys _).1 ((hK.mem _).1 (at_ t ht)).1, fun i hi ha => ?_, Nat.le_trans hK.len hW.own.size_le⟩
  obtain ⟨j, hj, he⟩ := List.getElem_of_mem ((hK.mem (f i)).2 ⟨(hW.keys _).2 ⟨i, hi, rfl⟩, ha⟩)
  exact ⟨j, hj, by show ys.getD j 0 = f i; rw [List.getD_eq_getElem?_getD, List.getElem?_eq_getElem hj]; simpa using he⟩

theorem hit_miss {f y : Nat → Int} {n N : Nat} {after : Int} (G : Good f n after N y) {k : Nat} (hk : ¬ after < f k) {t : Nat} (ht : t < N) : hitB f y (k + 1) t = hitB f y k t := by
  rw [hitB_succ]
  have : f k ≠ y t := fun e => hk (by rw [e]; exact G.above t ht)
  simp [this]

theorem hit_hit {f y : Nat → Int} {n N : Nat} {after : Int} (G : Good f n after N y) {k j : Nat} (hj : j < N) (hy : y j = f k) {t : Nat} (ht : t < N) : hitB f y (k + 1) t = if t = j then true else hitB f y k t := by
  rw [hitB_succ]
  by_cases e : t = j
  · subst e; simp [hy]
  · rw [if_neg e]
    have : f k ≠ y t := by
      rw [← hy]
      rcases Nat.lt_or_gt_of_ne e with h | h
      · have := G.asc t j h hj; omega
      · have := G.asc j t h ht; omega
    simp [this]

theorem info4 : (Try.prog.info? 4).map (fun i => (i.zero, i.size, i.bytes)) = some (some (.bool false), 1, 1) := by kernel_rfl

set_option maxRecDepth 100000 in
set_option maxHeartbeats 1600000 in
theorem law_any (a0 : Option Addr) (n cap0 : Nat) (a1 : Option Addr) (m cap1 : Nat) (o : ByteArray) (inc after : Int) (f g : Nat → Int) (w : World) (h0 : n ≤ maxLen) (h1 : m ≤ maxLen) (h2 : o.size ≤ maxLen)
    (c0 : Came w a0 n cap0 f) (c1 : Came w a1 m cap1 g) (hwf : ∀ i, i < n → (Lit.int .u64 (f i)).wf = true) :
    Calls Try.prog 7 #[.slice a0 n cap0, .slice a1 m cap1, .string o, .int .u64 inc, .int .u64 after] w fun e w' => e = .returned (.bool true) ∧ Below w.heap.size w w' := by
  have hB := bytes_any a0 n cap0 a1 m cap1 o inc after w h0 h1 h2
  unfold maxLen at h0 h1 h2
  go_enter Try.func7, Try.ntmps7
  go_wp2_with (go_at_call 19; refine hB.mono ?_; rintro e w' ⟨⟨b, rfl⟩, hw⟩; obtain rfl := hw.symm; clear hw)
  all_goals first | (go_ret; exact ⟨rfl, Below.refl _ _⟩) | skip
  clear hB
  have hn : n ≤ 65536 := by omega
  have hm : m ≤ 32768 := by omega
  rename (!_) = false => hb0
  clear hb0
  refine (clone_any a0 n cap0 f w (by omega) c0).mono ?_
  rintro e w1 ⟨ba, rfl, b1, o1⟩
  go_wp2_with fail
  refine (clone_any a1 m cap1 g w1 (by omega) (c1.below b1)).mono ?_
  rintro e w2 ⟨pa, rfl, b2, o2⟩
  replace o1 := o1.below b2
  have bb := b1.trans (b2.mono b1.size)
  clear b1 b2 c0 c1
  go_wp2_with fail
  refine (new_any ba n f pa m g o inc w2 hn hm o1 o2 hwf).mono ?_
  rintro e w3 ⟨rfl, D, pa', pc, hW, hR, b3⟩
  replace o1 := o1.below b3
  replace bb := bb.trans (b3.mono bb.size)
  clear b3 o2
  go_wp2_with fail
  refine (unorderedZ _ _ n D f o inc pa' m pc after w3 hn hm hwf hW hR).mono ?_
  rintro e w4 ⟨ys, ea, ec, base, rfl, hK, hO, b4⟩
  replace o1 := o1.below b4
  replace bb := bb.trans (b4.mono bb.size)
  have G := good_of hW hK
  clear b4 hW hR hK hwf
  go_wp2_with fail
  have hlen := G.len
  refine (fields_any ea ys.length ec base o inc (fun t => ys.getD t 0) w4 (by omega) hO).mono ?_
  rintro e w5 ⟨rfl, T⟩
  replace o1 := o1.below T.bel
  replace bb := bb.trans (T.bel.mono bb.size)
  clear hO
  go_wp2_with fail
  generalize (fun t => ys.getD t 0) = y at G T
  generalize ys.length = N at G T hlen ⊢
  obtain ⟨b1, hb1⟩ : ∃ b1, b1 = w4.heap.size := ⟨_, rfl⟩
  have R1 : w5.rowIs b1 22 N (fun i => .int .u64 (y i)) := by rw [hb1]; exact T.r1.congr fun i hi => by rw [if_pos hi]
  have R2 : w5.rowIs (b1 + 1) 9 N (fun i => .string o) := by rw [hb1]; exact T.r2.congr fun i hi => by rw [if_pos hi]
  have R3 : w5.rowIs (b1 + 2) 22 N (fun i => .int .u64 inc) := by rw [hb1]; exact T.r3.congr fun i hi => by rw [if_pos hi]
  rw [← hb1]
  clear T hb1
  go_loopw [17] (fun i wr => w5 = wr ∧ ∃ k : Nat, k ≤ N ∧ i = .int .i64 k) (fun i _ => N - (intOf i).toNat)
  case atStart => exact ⟨rfl, 0, Nat.zero_le _, rfl⟩
  case round =>
    obtain ⟨rfl, k, hk, rfl⟩ := hrel
    by_cases hlt : k < N
    · have e1 := R1.cell hlt
      have e2 := R2.cell hlt
      have e3 := R3.cell hlt
      have hz : (k : Int) < (N : Int) := by omega
      have ha := G.above k hlt
      have ht1 : decide (y k ≤ after) = false := by simpa using ha
      go_wp2
      go_roundw
      case rel => first | exact ⟨trivial, k + 1, by omega, by go_num⟩ | exact ⟨rfl, k + 1, by omega, by go_num⟩
      case measure => simp [intOf]; omega
    · have hge : (N : Int) ≤ (k : Int) := by omega
      have hasc := asc_any b1 N y w5 (by omega) R1 (fun i hi => G.asc i (i + 1) (by omega) hi)
      have hmk4 := run_make_row' (P := Try.prog) 49 4 (.bool false) 1 Try.underlying49 info4 rfl .i64 .i64 N (by omega) (by omega)
      go_wp2_with fail
      refine hasc.mono ?_
      rintro e w6 ⟨rfl, q, hw6⟩
      have R6 : w6.rowIs b1 22 N (fun i => .int .u64 (y i)) := by rw [hw6]; exact R1
      have o6 : Own w6 ba n f := by rw [hw6]; exact o1.below ⟨rfl, rfl, rfl, Nat.le_refl _, fun _ _ => rfl⟩
      have bb6 : Below w.heap.size w w6 := by rw [hw6]; exact ⟨bb.os, bb.tape, bb.output, bb.size, bb.block⟩
      clear hw6 hasc R1 R2 R3 o1 bb
      go_wp2
      clear hmk4
      obtain ⟨hb, hhb⟩ : ∃ hb, hb = w6.heap.size := ⟨_, rfl⟩
      have H0 : (w6.alloc (.cells (madeCells #[.bool false] N) 4)).rowIs hb 4 N (fun t => .bool (hitB f y 0 t)) := by rw [hhb]; exact World.rowIs_made w6 (.bool false) N 4
      have B0 : Below hb w6 (w6.alloc (.cells (madeCells #[.bool false] N) 4)) := by rw [hhb]; exact (Below.refl _ _).alloc (Nat.le_refl _) _
      rw [← hhb]
      go_loopw [102] (fun i wr => ∃ k : Nat, k ≤ n ∧ i = .int .i64 k ∧ wr.rowIs hb 4 N (fun t => .bool (hitB f y k t)) ∧ Below hb w6 wr) (fun i _ => n - (intOf i).toNat)
      case atStart => exact ⟨0, Nat.zero_le _, rfl, H0, B0⟩
      case round =>
        clear H0 B0
        obtain ⟨k2, hk2, rfl, hrow, hbel⟩ := hrel
        have HB : Hid (hb = w6.heap.size) := hhb
        clear hhb
        by_cases hlt2 : k2 < n
        · have hbw : Below w6.heap.size w6 wr := hbel.mono (Nat.le_of_eq HB.out.symm)
          obtain ⟨b0, hba, hc⟩ := (o6.below hbw).cell hlt2
          subst hba
          have hz : (k2 : Int) < (n : Int) := by omega
          by_cases ha : after < f k2
          · obtain ⟨j, hj, hyj⟩ := G.found k2 hlt2 ha
            have hsr := search_any b1 N y j wr (by omega) hj (R6.of_block (hbw.block b1 R6.lt)) G.asc
            rw [hyj] at hsr
            have e1 := hrow.cell hj
            have e2 := hrow.frozen j
            have hz2 : (j : Int) < (N : Int) := by omega
            have hyj2 : Hid (y j = f k2) := hyj
            clear hyj
            go_wp2_with (go_at_call 25; refine hsr.mono ?_; rintro e w' ⟨rfl, hw⟩; obtain rfl := hw.symm; clear hw)
            go_roundw
            case rel => exact ⟨k2 + 1, by omega, by go_num, (hrow.set j _).congr (fun t ht => by rw [hit_hit G hj hyj2.out ht]; split <;> rfl), hbel.setCell (Nat.le_refl _) _⟩
            case measure => simp [intOf]; omega
          · go_wp2
            go_roundw
            case rel => exact ⟨k2 + 1, by omega, by go_num, hrow.congr (fun t ht => by rw [hit_miss G ha ht]), hbel⟩
            case measure => simp [intOf]; omega
        · have hge2 : (n : Int) ≤ (k2 : Int) := by omega
          have hall : wr.rowIs hb 4 N (fun t => .bool true) := by
            refine hrow.congr fun t ht => ?_
            obtain ⟨i, hi, hfi⟩ := G.from_ t ht
            rw [hitB_true i (by omega) hfi]
          have hfin : Below w.heap.size w wr := bb6.trans (hbel.mono (by rw [HB.out]; exact bb6.size))
          clear hrow hbel HB
          obtain ⟨w7, hw7⟩ : ∃ w7, w7 = wr := ⟨_, rfl⟩
          rw [← hw7] at hall hfin ⊢
          clear hw7
          go_wp2
          go_loopw [120] (fun i wr => w7 = wr ∧ ∃ k : Nat, k ≤ N ∧ i = .int .i64 k) (fun i _ => N - (intOf i).toNat)
          case atStart => exact ⟨rfl, 0, Nat.zero_le _, rfl⟩
          case round =>
            obtain ⟨rfl, k3, hk3, rfl⟩ := hrel
            by_cases hlt3 : k3 < N
            · have e1 := hall.cell hlt3
              have hz : (k3 : Int) < (N : Int) := by omega
              go_wp2
              go_roundw
              case rel => first | exact ⟨trivial, k3 + 1, by omega, by go_num⟩ | exact ⟨rfl, k3 + 1, by omega, by go_num⟩
              case measure => simp [intOf]; omega
            · have hge3 : (N : Int) ≤ (k3 : Int) := by omega
              go_wp2
              go_ret
              exact ⟨rfl, hfin⟩
end Go.Proofs.Qxb6603565a
