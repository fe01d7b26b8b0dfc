import Derived.Test.Qxb6603565aMap
namespace Go.Proofs.Qxb6603565a
open Go.ChangeShapes Go.WideShapes Go.ChangeAt Go.RowKit Go.Maps
set_option linter.unusedVariables false

theorem info105 : (Try.prog.info? 105).map (fun i => (i.zero, i.size, i.bytes)) = some (some (.agg #[.string ⟨#[]⟩, .int .u64 0, .int .u64 0, .slice none 0 0, .pointer none, .pointer none, .pointer none, .string ⟨#[]⟩]), 8, 96) := by kernel_rfl

/-- the cells of the first k entries -/
def entsC (o : ByteArray) (inc : Int) (g : Nat → Int) : Nat → List Value
  | 0 => []
  | k + 1 => entsC o inc g k ++ entC o inc (g k)

set_option maxRecDepth 100000 in
set_option maxHeartbeats 1600000 in
theorem new_any (ba : Option Addr) (n : Nat) (f : Nat → Int) (pa : Option Addr) (m : Nat) (g : Nat → Int) (o : ByteArray) (inc : Int) (w : World) (hn : n ≤ 65536) (hm : m ≤ 32768)
    (h0 : Own w ba n f) (h1 : Own w pa m g) (hwf : ∀ i, i < n → (Lit.int .u64 (f i)).wf = true) :
    Calls Try.prog 21 #[.slice ba n n, .slice pa m m, .string o, .int .u64 inc] w fun e w' => e = .returned (.pointer (some ⟨w.heap.size + 1, 0, none⟩)) ∧ ∃ D pa' c, Waits w' w.heap.size n D f o inc ∧ IsRepl w' (w.heap.size + 1) w.heap.size (.slice pa' m c) ∧ Below w.heap.size w w' := by
  obtain ⟨i0, hi, hz0, hz1, hz2⟩ := info_parts info105
  have hmm := makeMap_hint
  go_enter Try.func21, Try.ntmps21
  go_wp2_with (refine wpList_build_repl _ rfl _ rfl _ rfl ?_)
  clear hmm
  go_loopw [21] (fun i wr => ∃ (k : Nat) (D : DataW Unit), k ≤ n ∧ i = .int .i64 k ∧ Waits wr w.heap.size k D f o inc ∧ IsRepl wr (w.heap.size + 1) w.heap.size (.slice none 0 0) ∧ Below w.heap.size w wr)
    (fun i _ => n - (intOf i).toNat)
  case atStart => exact ⟨0, .map [], Nat.zero_le _, rfl, (waits_start w f o inc).kept (World.grownBy_alloc _ _ none) (by simp) (fun j hj => by cases hj), by have := Deep.blk_alloc_new (w.alloc (.map #[] 0)) (.cells (repl (.map (some w.heap.size)) (.slice none 0 0)) 100); simpa [IsRepl] using this, ((Below.refl _ _).alloc (Nat.le_refl _) _).alloc (by simp) _⟩
  case round =>
    obtain ⟨k, D, hk, rfl, hW, hR, hb⟩ := hrel
    by_cases hlt : k < n
    · obtain ⟨b0, hba, hc⟩ := (h0.below hb).cell hlt
      subst hba
      have hz : (k : Int) < (n : Int) := by omega
      obtain ⟨r30, r31, rz⟩ := hR.cells
      have hkey := keyOf_int_mk Try.underlying22 (hwf k hlt)
      go_wp2_with (at_mapUpdate; refine wpList_mapUpdate_own _ rfl _ _ _ 63 rfl 22 101 law22 Try.underlying63 ptrElem w.heap.size k _ rfl (hW.own.alloc _) (by unfold maxLen; omega) _ _ _ rfl rfl hkey _ [] (ptrElem_mk _) ?_; intro w1 hown1 hgrow1)
      go_roundw
      case rel =>
        refine ⟨k + 1, _, by omega, by go_num, waits_step hW (hwf k hlt) hown1 hgrow1, hR.kept ?_, ?_⟩
        · rw [hgrow1.block _ (by have := hR.lt; simp; omega) (by simp)]
          exact Deep.blk_alloc_lt _ _ _ hR.lt
        · exact (hb.alloc hb.size _).grown hgrow1 (by have := hb.size; simp; omega) (fun j hj => by cases hj; exact Nat.le_refl _)
      case measure => simp [intOf]; omega
    · obtain rfl : k = n := by omega
      have hge : (k : Int) ≤ (k : Int) := Int.le_refl _
      obtain ⟨base, hbase⟩ : ∃ base, base = wr.heap.size := ⟨_, rfl⟩
      have hBB : w.heap.size + 1 < base := by rw [hbase]; exact hR.lt
      have hb0 : base ≤ wr.heap.size := Nat.le_of_eq hbase
      clear hbase
      go_wp2
      go_loopw [39] (fun i wx => ∃ (j : Nat) (v : Value), j ≤ m ∧ i = .int .i64 j ∧ Waits wx w.heap.size k D f o inc ∧ IsRepl wx (w.heap.size + 1) w.heap.size v ∧ wx.ownsRow base 105 8 v j (entsC o inc g j) ∧ Below w.heap.size w wx ∧ base ≤ wx.heap.size)
        (fun i _ => m - (intOf i).toNat)
      case atStart => exact ⟨0, _, Nat.zero_le _, rfl, hW, hR, World.ownsRow_nil _ _ _ _, hb, hb0⟩
      case round =>
        obtain ⟨j, v, hj, rfl, hW2, hR2, hown, hb2, hbx⟩ := hrel
        by_cases hlt : j < m
        · obtain ⟨b1, hpa, hc⟩ := (h1.below hb2).cell hlt
          subst hpa
          have hz : (j : Int) < (m : Int) := by omega
          obtain ⟨r30, r31, rz⟩ := hR2.cells
          go_wp2_with (at_builtin; refine wpList_append_own _ rfl _ _ 44 rfl base 105 i0 _ 8 96 Try.underlying44 hi hz0 hz1 hz2 rfl (by decide) _ _ _ rfl (hown.alloc _) ⟨wr.heap.size, 0, none⟩ 1 1 (entC o inc (g j)) rfl rfl (cells_new _ _ _) (by simp [entC, Value.oneCell']) (by unfold maxLen; omega) (by omega) (by simp; omega) ?_; intro v' w1 hown' hgrow _; obtain ⟨va, vc, rfl⟩ := own_shape hown'; have pm := pend_mid hW2 hR2 hown hb2 hBB hbx hgrow; obtain ⟨q30, q31, qz⟩ := pm.2.1.cells)
          have ps := pend_set pm.1 pm.2.1 hown' pm.2.2.1 hBB pm.2.2.2
          go_roundw
          case rel => exact ⟨j + 1, _, by omega, by go_num, ps.1, ps.2.1, ps.2.2.1, ps.2.2.2.1, ps.2.2.2.2⟩
          case measure => simp [intOf]; omega
        · obtain rfl : j = m := by omega
          have hge2 : (j : Int) ≤ (j : Int) := Int.le_refl _
          obtain ⟨va, vc, rfl⟩ := own_shape hown
          go_wp2
          go_ret
          exact ⟨rfl, D, va, vc, hW2, hR2, hb2⟩
end Go.Proofs.Qxb6603565a
