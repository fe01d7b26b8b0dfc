import Derived.Test.Qxb6603565aRange
import Derived.Test.Qxb6603565aNew
namespace Go.Proofs.Qxb6603565a
open Go.RowKit Go.Maps
set_option linter.unusedVariables false

/-- the cells of N entries, all zero -/
def entRow (N : Nat) : Array Value := madeCells #[.string ⟨#[]⟩, .int .u64 0, .int .u64 0, .slice none 0 0, .pointer none, .pointer none, .pointer none, .string ⟨#[]⟩] (N * 8)

theorem make_ents (a m : Nat) (h : a + m ≤ 131072) (W : World) : (Instr.makeSlice 44 (.int .i64 0) (.int .i64 ((a : Int) + (m : Int)))).run Try.prog W = .ok (.slice (some ⟨W.heap.size, 0, none⟩) 0 (a + m)) (W.alloc (.cells (entRow (a + m)) 105)) := by
  obtain ⟨i0, hi, hz0, hz1, hz2⟩ := info_parts info105
  have hr := run_make (P := Try.prog) W 44 105 i0 _ Try.underlying44 hi hz0 .i64 .i64 0 ((a : Int) + (m : Int)) (Int.le_refl _) (by omega) (by rw [hz2]; omega) (by omega)
  have e : ((a : Int) + (m : Int)).toNat = a + m := by omega
  rw [e, hz1] at hr
  exact hr

theorem ents_own (W : World) (N base : Nat) (h : N ≤ 131072) (hb : base ≤ W.heap.size) : (W.alloc (.cells (entRow N) 105)).ownsRow base 105 8 (.slice (some ⟨W.heap.size, 0, none⟩) 0 N) 0 [] :=
  World.ownsRow_made W _ N hb (by unfold maxLen; omega) (by simp [entRow, size_madeCells])

set_option maxRecDepth 100000 in
set_option maxHeartbeats 1600000 in
theorem unord_any (br bm n : Nat) (D : DataW Unit) (f : Nat → Int) (o : ByteArray) (inc : Int) (pa : Option Addr) (m c : Nat) (after : Int) (w : World) (hn : n ≤ 65536) (hm : m ≤ 32768)
    (hwf : ∀ i, i < n → (Lit.int .u64 (f i)).wf = true) (hW : Waits w bm n D f o inc) (hR : IsRepl w br bm (.slice pa m c)) :
    Calls Try.prog 28 #[.pointer (some ⟨br, 0, none⟩), .int .u64 after] w fun e w' => ∃ ys ea ec base, e = .returned (.slice ea ys.length ec) ∧ Keys D after ys ∧ w'.ownsRow base 105 8 (.slice ea ys.length ec) ys.length (entsC o inc (fun t => ys.getD t 0) ys.length) ∧ Below w.heap.size w w' := by
  obtain ⟨i0, hi, hz0, hz1, hz2⟩ := info_parts info22
  obtain ⟨j0, hj0, hy0, hy1, hy2⟩ := info_parts info105
  obtain ⟨r30, r31, rz⟩ := hR.cells
  have hbr := hR.lt
  have hbm := hW.own.lt
  have hsz := hW.own.size_le
  go_enter Try.func28, Try.ntmps28
  go_wp2_with (first
    | (at_len; refine wpList_len_own _ rfl _ 63 rfl 22 101 Try.underlying63 ptrElem bm n D rfl hW.own ?_)
    | (at_make; refine wpList_make_own _ rfl _ _ 39 rfl w.heap.size 22 i0 (.int .u64 0) 1 Try.underlying39 hi hz0 hz1 _ _ _ (Maps.size D) rfl rfl rfl (by rw [hz2]; omega) (by unfold maxLen; omega) (Nat.le_refl _) ?_; intro w1 hrow1 hg1; have r30' := hg1.cell r30 (by simp); have hbr1 : br < w1.heap.size := Nat.lt_of_lt_of_le hbr hg1.size)
    | (at_range; refine wpList_range_own _ rfl _ 63 rfl 22 101 law22 Try.underlying63 ptrElem bm n D rfl ((hW.own.kept hg1 (by simp)).alloc _) ?_; intro w2 hrg2 hg2 hs2))
  go_frame
  have e1 : (w1.alloc (.cells #[.slice (some ⟨w.heap.size, 0, none⟩) 0 (Maps.size D)] 39)).heap.size = w1.heap.size + 1 := by simp
  rw [e1] at hrg2 hs2 ⊢
  have hs1 := hg1.size
  have R0 : Rng w w2 bm w1.heap.size (w1.heap.size + 1) n D after (Maps.has D) (Maps.size D) [] (some ⟨w.heap.size, 0, none⟩) (Maps.size D) := by
    refine ⟨hrg2, (hrow1.alloc _).kept hg2 (.inr (by simp [Value.ownBlock])), ?_, coll_start D after, by simp, (((Below.refl _ _).grown hg1 (Nat.le_refl _) (fun j hj => by cases hj)).alloc hs1 _).grown hg2 (by simp; omega) (fun j hj => by cases hj), by simp, hs1, by omega, by omega, hbm⟩
    rw [hg2.block w1.heap.size (by simp) (by simp)]
    exact Deep.blk_alloc_new _ _
  clear hrg2 hs2 hg2 hrow1 e1 r30' hbr1
  obtain ⟨bx, hbx⟩ : ∃ bx, bx = w1.heap.size := ⟨_, rfl⟩
  rw [← hbx] at R0 ⊢
  clear hbx hs1 hg1
  go_loopw [6] (fun _ wr => ∃ left cnt xs va vc, Rng w wr bm bx (bx + 1) n D after left cnt xs va vc) (fun _ wr => wr.rangeLeft bm (bx + 1))
  case atStart => exact ⟨_, _, _, _, _, R0⟩
  case round =>
    obtain ⟨left, cnt, xs, va, vc, R⟩ := hrel
    go_wp2_with (at_next; refine wpList_next_ranges _ rfl _ rfl 22 law22 ptrElem (Value.int .u64) Value.pointer (fun key kl hk => by obtain ⟨x, rfl, _⟩ := Maps.keyOf_int_inv Try.underlying22 hk; exact ⟨x, rfl⟩) (fun v y hv => ptrElem_inv hv) bm (bx + 1) n _ _ _ rfl R.rg ?_ ?_)
    · intro hc0 hl0
      have hmf : ∀ (fn : Fn) (first cap : Array Value) (w : World), (Instr.makeFunc fn first cap).run Try.prog w = .ok (.func fn first cap) w := fun _ _ _ _ => rfl
      have hrow := R.row.2
      have hlen := R.len
      rcases hrow with ⟨hnil, _⟩ | ⟨g, cap, cur, hv, hbase, hb, h1, h2, h3, h4⟩
      · exact absurd (by simpa using hnil : va = none ∧ xs.length = 0 ∧ vc = 0).1 R.nn
      obtain ⟨hva, hvc⟩ : va = some ⟨g, 0, none⟩ ∧ vc = cap := by simpa using hv
      subst hva
      subst hvc
      have hso := sort_any g vc bx xs wr cur hb (by simpa using h4) (by omega) R.box (by omega)
      obtain ⟨bc1, bc2⟩ := box_cell R.box
      clear h1 h2 h3 h4 hv
      have HR : Hid (Rng w wr bm bx (bx + 1) n D after left cnt xs (some ⟨g, 0, none⟩) vc) := R
      have HL0 : Hid (∀ kl, left kl = false) := hl0
      clear R hl0 hc0 R0
      go_wp2_with (go_at_call 29; refine hso.mono ?_; rintro e w3 ⟨rfl, ys, hsd⟩)
      have A := aft_of HR.out hbase hb hsd
      have K := keys_of HR.out HL0.out hsd
      clear hsd HR HL0 hso bc1 bc2 hb hbase
      obtain ⟨bd1, bd2⟩ := box_cell A.box
      have s30 : w3.cell? ⟨br, 30, none⟩ = some (.map (some bm)) := (A.bel.cell (p := ⟨br, 30, none⟩) hbr).trans r30
      have s31 : w3.cell? ⟨br, 31, none⟩ = some (.slice pa m c) := (A.bel.cell (p := ⟨br, 31, none⟩) hbr).trans r31
      have hmk := make_ents ys.length m (by have := K.len; omega)
      have hylen := K.len
      go_region
      clear hmk bd1 bd2 s30 s31
      have hl3 := A.lts
      have hb3 := A.bel.size
      have A4 : Aft w (w3.alloc (.cells (entRow (ys.length + m)) 105)).drew bx g vc ys := A.kept (row := none) (base := w3.heap.size) ⟨rfl, rfl, rfl, by simp, fun k hk _ => Deep.blk_alloc_lt _ _ _ hk⟩ (fun k hk => by cases hk) hl3.1 hl3.2 hb3
      have O4 : (w3.alloc (.cells (entRow (ys.length + m)) 105)).drew.ownsRow w3.heap.size 105 8 (.slice (some ⟨w3.heap.size, 0, none⟩) 0 (ys.length + m)) 0 [] := ents_own w3 (ys.length + m) w3.heap.size (by omega) (Nat.le_refl _)
      have hb4 : w3.heap.size ≤ (w3.alloc (.cells (entRow (ys.length + m)) 105)).drew.heap.size := by simp
      generalize (w3.alloc (.cells (entRow (ys.length + m)) 105)).drew = w4 at A4 O4 hb4 ⊢
      clear A
      obtain ⟨base, hbase⟩ : ∃ base, base = w3.heap.size := ⟨_, rfl⟩
      rw [← hbase] at O4 hb4 hl3 hb3 ⊢
      clear hbase
      obtain ⟨bd1, bd2⟩ := box_cell A4.box
      go_wp2
      clear bd1 bd2
      go_loopw [7, 47] (fun ev i wr => ∃ (j : Nat) (ea : Option Addr) (ec : Nat), j ≤ ys.length ∧ i = .int .i64 j ∧ ev = .slice ea j ec ∧ Aft w wr bx g vc ys ∧ wr.ownsRow base 105 8 (.slice ea j ec) j (entsC o inc (fun t => ys.getD t 0) j) ∧ base ≤ wr.heap.size) (fun _ i _ => ys.length - (intOf i).toNat)
      case atStart => exact ⟨0, _, _, Nat.zero_le _, rfl, rfl, A4, O4, hb4⟩
      case round =>
        clear A4 O4 hb4
        obtain ⟨j, ea, ec, hj, rfl, rfl, A5, O5, hb5⟩ := hrel
        by_cases hlt : j < ys.length
        · obtain ⟨s, hs⟩ : ∃ s, s = ys.getD j 0 := ⟨_, rfl⟩
          have hc := A5.cell hlt
          rw [← hs] at hc
          have hmem : s ∈ ys := by
            rw [hs, List.getD_eq_getElem?_getD, List.getElem?_eq_getElem hlt]
            exact List.getElem_mem _
          have hhas := ((K.mem s).1 hmem).1
          obtain ⟨i1, hi1, hf1⟩ := (hW.keys s).1 hhas
          have hwfs : (Lit.int .u64 s).wf = true := by rw [← hf1]; exact hwf i1 hi1
          obtain ⟨pb, hlook, hpb⟩ := look_at (hW.below A5.bel) hhas hwfs
          obtain ⟨p0, p1, p2, p3, p4, p5, p6, p7⟩ := prop_cells hpb
          have s30 : wr.cell? ⟨br, 30, none⟩ = some (.map (some bm)) := (A5.bel.cell (p := ⟨br, 30, none⟩) hbr).trans r30
          have hz : (j : Int) < (ys.length : Int) := by omega
          have HS : Hid (s = ys.getD j 0) := hs
          clear hs hf1 hmem hhas hwfs
          go_wp2_with (at_builtin; refine wpList_append_own _ rfl _ _ 44 rfl base 105 j0 _ 8 96 Try.underlying44 hj0 hy0 hy1 hy2 rfl (by decide) _ _ _ rfl (O5.alloc _) ⟨wr.heap.size, 0, none⟩ 1 1 (entC o inc s) rfl rfl (cells_new _ _ _) (by simp [entC, Value.oneCell']) (by unfold maxLen; omega) (by omega) (by simp; omega) ?_; intro v' w5 hown' hgrow _; obtain ⟨va', vc', rfl⟩ := own_shape hown')
          have hg6 : wr.grownBy w5 (Value.slice ea j ec).ownBlock := (World.grownBy_alloc wr _ _).trans hgrow
          have hs6 := hg6.size
          go_roundw
          case rel =>
            refine ⟨j + 1, va', vc', by omega, by go_num, rfl, A5.kept hg6 (fun k hk => (own_block O5 hk).1) hl3.1 hl3.2 hb3, ?_, by omega⟩
            show w5.ownsRow base 105 8 _ _ (entsC o inc (fun t => ys.getD t 0) j ++ entC o inc (ys.getD j 0))
            rw [← HS.out]
            exact hown'
          case measure => simp [intOf]; omega
        · obtain rfl : j = ys.length := by omega
          have hge : (ys.length : Int) ≤ (ys.length : Int) := Int.le_refl _
          go_wp2
          go_ret
          exact ⟨ys, ea, ec, base, rfl, K, O5, A5.bel⟩
    · intro x pc kl yd yp w2 cnt2 hkey hlk hv hat hrg2 hlt hg2 hs2 hen
      obtain ⟨x', ex, rfl, hwx⟩ := Maps.keyOf_int_inv Try.underlying22 hkey
      obtain rfl : x = x' := by simpa using ex
      have hD := Maps.has_true_of_atKey hat
      have st := rng_stepped R hg2
      have bc := box_cell st.2.1
      obtain ⟨bc1, bc2⟩ := bc
      have hlen := R.len
      clear hs2 ex
      by_cases hx : after < x
      · go_wp2_with (at_builtin; refine wpList_append_own _ rfl _ _ 39 rfl w.heap.size 22 i0 (.int .u64 0) 1 8 Try.underlying39 hi hz0 hz1 hz2 rfl (by decide) _ _ _ rfl (st.1.alloc _) ⟨w2.heap.size, 0, none⟩ 1 1 [.int .u64 x] rfl rfl (cell_one_new _ _ _) (by simp [Value.oneCell']) (by unfold maxLen; omega) (by omega) (by have := st.2.2.size; simp; omega) ?_; intro v' w3 hown' hg3 _; obtain ⟨va', vc', rfl⟩ := own_shape hown'; have ra := rng_app R hg2 hrg2 hg3; have bd := box_cell ra.1; obtain ⟨bd1, bd2⟩ := bd)
        have rh := rng_hit R ra.1 ra.2.1 ra.2.2 hown' hlt hx hlk hD
        go_roundw
        case rel => exact ⟨_, _, _, _, _, rh⟩
        case measure => rw [rh.rg.left_eq, R.rg.left_eq]; exact hlt
      · go_wp2
        have rh := rng_miss R hg2 hrg2 hlt hx
        go_roundw
        case rel => exact ⟨_, _, _, _, _, rh⟩
        case measure => rw [rh.rg.left_eq, R.rg.left_eq]; exact hlt
end Go.Proofs.Qxb6603565a
