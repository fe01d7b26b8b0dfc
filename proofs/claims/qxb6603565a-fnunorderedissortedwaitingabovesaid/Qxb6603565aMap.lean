import Derived.Test.Qxb6603565aSmall
import Derived.Maps.RangeWalk
import Derived.Maps.AppendAt
namespace Go.Proofs.Qxb6603565a
open Go.ChangeShapes Go.WideShapes Go.ChangeAt Go.RowKit Go.Maps
set_option linter.unusedVariables false

/-- how an element of the map, a pointer to a block, reads: by the block's number -/
def ptrElem : Value → Option (DataW Unit × List MemPlace)
  | .pointer none => some (.nil, [])
  | .pointer (some ⟨b, 0, none⟩) => some (.lit (.int .u64 (b : Nat)), [])
  | _ => none

theorem ptrElem_mk (b : Nat) : ptrElem (.pointer (some ⟨b, 0, none⟩)) = some (.lit (.int .u64 (b : Nat)), []) := rfl

theorem ptrElem_inv {v : Value} {y : DataW Unit × List MemPlace} (h : ptrElem v = some y) : ∃ c, v = .pointer c := by
  unfold ptrElem at h
  split at h
  · exact ⟨_, rfl⟩
  · exact ⟨_, rfl⟩
  · cases h

theorem ptrElem_at {v : Value} {b : Nat} {ps : List MemPlace} (h : ptrElem v = some (.lit (.int .u64 (b : Nat)), ps)) : v = .pointer (some ⟨b, 0, none⟩) := by
  unfold ptrElem at h
  split at h
  · simp at h
  · rename_i c
    simp at h
    obtain rfl : c = b := by omega
    rfl
  · cases h

theorem law22 : Keyed Try.prog 22 := int_keyed Try.underlying22

/-- a proposal's cells -/
def prop (o : ByteArray) (inc s : Int) : Array Value := #[.string o, .int .u64 inc, .int .u64 s, .slice none 0 0, .pointer none, .pointer none, .pointer none, .string ⟨#[]⟩, .chan none]
/-- an entry's cells -/
def entC (o : ByteArray) (inc s : Int) : List Value := [.string o, .int .u64 inc, .int .u64 s, .slice none 0 0, .pointer none, .pointer none, .pointer none, .string ⟨#[]⟩]

/-- a replica's cells: all zero but the map and the pending entries -/
def repl (m p : Value) : Array Value :=
  #[.pointer none, .string ⟨#[]⟩, .string ⟨#[]⟩, .string ⟨#[]⟩, .string ⟨#[]⟩, .int .i64 0, .int .u64 0, .pointer none,
    .slice none 0 0, .pointer none, .chan none, .chan none, .chan none, .chan none, .chan none, .int .u32 0, .int .i32 0, .int .u32 0, .chan none,
    .chan none, .pointer none, .int .u64 0, .string ⟨#[]⟩, .map none, .int .u64 0, .int .u64 0, .int .u64 0, .int .u64 0,
    .map none, .int .u64 0, m, p, .int .u64 0, .int .i64 0, .pointer none, .map none, .map none, .map none, .map none,
    .bool false, .bool false, .nilIface, .int .u64 0, .int .i64 0, .pointer none, .pointer none, .pointer none, .pointer none, .int .u64 0,
    .int .u64 0, .map none, .map none, .map none, .int .u64 0, .string ⟨#[]⟩, .int .u64 0, .int .u64 0, .int .i64 0,
    .pointer none, .int .u64 0, .int .i64 0, .pointer none, .int .u64 0, .map none]

theorem build_repl (m : Option Nat) (w : World) : (Instr.build 100 #[(22, .map m)]).run Try.prog w = .ok (.agg (repl (.map m) (.slice none 0 0))) w := by kernel_rfl

theorem makeMap_hint (n : Int) (w : World) : (Instr.makeMap 63 (some (.int .i64 n))).run Try.prog w = .ok (.map (some w.heap.size)) (w.alloc (.map #[] 0)) := by
  have := @run_makeMap Try.prog 63 w
  simp [Instr.makeMap, run_underlying Try.underlying63, asInt, asIntOf] at this ⊢

/-- the replica's literal, at the operation -/
theorem wpList_build_repl (w : World) {ops : Array Oper} {rest : List Oper} {o : Oper} {a : Act} {Q : Exit → Act → World → Prop}
    (hg : o.guard = none) (x : Operand) (hop : o.op = Op.build 100 #[(22, x)]) (m : Option Nat) (hm : a.eval x = .map m)
    (hK : wpList Try.prog ops Q rest (a.put o.dst (.agg (repl (.map m) (.slice none 0 0)))) w) : wpList Try.prog ops Q (o :: rest) a w := by
  refine wpList_plain hg fun K' hK' => ?_
  have hrun := build_repl m w
  unfold Oper.wp
  simp only [execOp, hop, List.map_toArray, List.map_cons, List.map_nil, hm, Sem.run_bind, hrun, Result.andThen_ok, Sem.run_pure]
  exact hK' _ _ hK

/-- the replica's block -/
def IsRepl (w : World) (br bm : Nat) (p : Value) : Prop := w.heap[br]? = some (.cells (repl (.map (some bm)) p) 100 (0, 0))

theorem IsRepl.cells {w : World} {br bm : Nat} {p : Value} (h : IsRepl w br bm p) : w.cell? ⟨br, 30, none⟩ = some (.map (some bm)) ∧ w.cell? ⟨br, 31, none⟩ = some p ∧ ∀ i, w.frozen? ⟨br, i, none⟩ = false := by
  unfold IsRepl at h
  refine ⟨?_, ?_, ?_⟩
  · simp [World.cell?, h, repl]
  · simp [World.cell?, h, repl]
  · simp [World.frozen?, h]

theorem IsRepl.lt {w : World} {br bm : Nat} {p : Value} (h : IsRepl w br bm p) : br < w.heap.size := (Array.getElem?_eq_some_iff.1 h).1

theorem IsRepl.kept {w w' : World} {br bm : Nat} {p : Value} (h : IsRepl w br bm p) (e : w'.heap[br]? = w.heap[br]?) : IsRepl w' br bm p := e.trans h

theorem IsRepl.set {w : World} {br bm : Nat} {p q : Value} (h : IsRepl w br bm p) : IsRepl (w.setCell ⟨br, 31, none⟩ q) br bm q := by
  unfold IsRepl at *
  simp [World.setCell, Array.getElem?_modify, h, repl]

/-- THE WAITING MAP: its keys are the first k numbers; each leads to a proposal of that number -/
structure Waits (w : World) (bm k : Nat) (D : DataW Unit) (f : Nat → Int) (o : ByteArray) (inc : Int) : Prop where
  own : w.ownsMap Try.prog 22 ptrElem bm k D
  keys : ∀ s, Maps.has D (.int .u64 s) = true ↔ ∃ i, i < k ∧ f i = s
  props : ∀ s, Maps.has D (.int .u64 s) = true → ∃ b : Nat, (∀ z, D.atKey (.int .u64 s) z = .lit (.int .u64 (b : Nat))) ∧ w.heap[b]? = some (.cells (prop o inc s) 108 (0, 0))

theorem Waits.kept {w w' : World} {bm k : Nat} {D : DataW Unit} {f : Nat → Int} {o : ByteArray} {inc : Int} (h : Waits w bm k D f o inc) {row : Option Nat} (hg : w.grownBy w' row) (hne : some bm ≠ row) (hr : ∀ j, row = some j → ∀ cs, w.heap[j]? ≠ some (.cells cs 108 (0, 0))) : Waits w' bm k D f o inc :=
  ⟨h.own.kept hg hne, h.keys, fun s hs => by
    obtain ⟨b, h1, h2⟩ := h.props s hs
    exact ⟨b, h1, (hg.block b (Array.getElem?_eq_some_iff.1 h2).1 (fun e => hr b e.symm _ h2)).trans h2⟩⟩

theorem waits_start (w : World) (f : Nat → Int) (o : ByteArray) (inc : Int) : Waits (w.alloc (.map #[] 0)) w.heap.size 0 (.map []) f o inc :=
  ⟨World.ownsMap_made _ _ _ _, fun s => ⟨(fun h => by cases h), fun ⟨i, hi, _⟩ => by omega⟩, fun s h => by cases h⟩

/-- one number more is filed -/
theorem waits_step {wr w1 : World} {bm k : Nat} {D : DataW Unit} {f : Nat → Int} {o : ByteArray} {inc : Int} (h : Waits wr bm k D f o inc) (hw : (Lit.int .u64 (f k)).wf = true)
    (hown : w1.ownsMap Try.prog 22 ptrElem bm (k + 1) (D.put (.int .u64 (f k)) (.lit (.int .u64 (wr.heap.size : Nat))))) (hg : (wr.alloc (.cells (prop o inc (f k)) 108)).grownBy w1 (some bm)) :
    Waits w1 bm (k + 1) (D.put (.int .u64 (f k)) (.lit (.int .u64 (wr.heap.size : Nat)))) f o inc := by
  have hk : WideAt.IsKeyLit (.int .u64 (f k)) := law22.key (keyOf_int_mk Try.underlying22 hw)
  have hbm := h.own.lt
  refine ⟨hown, fun s => ?_, fun s hs => ?_⟩
  · by_cases e : s = f k
    · subst e
      exact ⟨fun _ => ⟨k, by omega, rfl⟩, fun _ => has_put_same h.own.isMap hk _⟩
    · rw [has_put_other (by simpa using e), h.keys s]
      constructor
      · rintro ⟨i, hi, hf⟩; exact ⟨i, by omega, hf⟩
      · rintro ⟨i, hi, hf⟩
        refine ⟨i, ?_, hf⟩
        by_cases e2 : i = k
        · subst e2; exact absurd hf.symm e
        · omega
  · by_cases e : s = f k
    · subst e
      refine ⟨wr.heap.size, fun z => atKey_put_same h.own.isMap hk _ z, ?_⟩
      rw [hg.block wr.heap.size (by simp) (by simp; omega)]
      exact Deep.blk_alloc_new _ _
    · rw [has_put_other (by simpa using e)] at hs
      obtain ⟨b, h1, h2⟩ := h.props s hs
      refine ⟨b, fun z => by rw [atKey_put_other (by simpa using e)]; exact h1 z, ?_⟩
      have hb := (Array.getElem?_eq_some_iff.1 h2).1
      have hne : b ≠ bm := by
        intro e3
        subst e3
        obtain ⟨es, cl, hm, _⟩ := h.own
        rw [hm] at h2; cases h2
      rw [hg.block b (by simp; omega) (by simpa using hne), Deep.blk_alloc_lt _ _ _ hb]
      exact h2

theorem grown_set (w : World) (b i : Nat) (v : Value) : w.grownBy (w.setCell ⟨b, i, none⟩ v) (some b) :=
  ⟨rfl, rfl, rfl, by simp, fun k _ hne => by rw [Below.heap_setCell _ _ _ _ (fun e => hne (by rw [e]))]⟩

theorem below_of_grown {a b : World} {row : Option Nat} {B : Nat} (h : a.grownBy b row) (hB : B ≤ a.heap.size) (hr : ∀ k, row = some k → B ≤ k) : Below B a b := (Below.refl _ _).grown h hB hr

theorem own_block {w : World} {base : Nat} {v : Value} {n : Nat} {t size : Nat} {xs : List Value} (h : w.ownsRow base t size v n xs) {k : Nat} (hk : v.ownBlock = some k) : base ≤ k ∧ k < w.heap.size ∧ ∃ cur, w.heap[k]? = some (.cells cur t (0, 0)) := by
  obtain ⟨_, h2⟩ := h
  rcases h2 with ⟨rfl, _⟩ | ⟨g, cap, cur, rfl, hg, hh, _⟩
  · cases hk
  · simp [Value.ownBlock] at hk
    subst hk
    exact ⟨hg, (Array.getElem?_eq_some_iff.1 hh).1, cur, hh⟩

theorem own_shape {w : World} {base : Nat} {v : Value} {n : Nat} {t size : Nat} {xs : List Value} (h : w.ownsRow base t size v n xs) : ∃ va c, v = .slice va n c := by
  obtain ⟨_, h2⟩ := h
  rcases h2 with ⟨rfl, rfl⟩ | ⟨g, cap, cur, rfl, _⟩
  · exact ⟨none, 0, rfl⟩
  · exact ⟨_, cap, rfl⟩

theorem cells_new (w : World) (l : List Value) (t : TypeId) : ∀ j u, l[j]? = some u → (w.alloc (.cells l.toArray t)).cell? ((⟨w.heap.size, 0, none⟩ : Addr).add j) = some u := by
  intro j u hj
  rw [add_plain, Nat.zero_add, World.cell?_alloc_new]
  simpa using hj

/-- what a step of the pending loop leaves ahead of its store -/
theorem pend_mid {w wx w1 : World} {B n j base : Nat} {D : DataW Unit} {f : Nat → Int} {o : ByteArray} {inc : Int} {v : Value} {xs : List Value} {O : Obj}
    (hW : Waits wx B n D f o inc) (hR : IsRepl wx (B + 1) B v) (hown : wx.ownsRow base 105 8 v j xs) (hb : Below B w wx) (hBB : B + 1 < base) (hbx : base ≤ wx.heap.size)
    (hg : (wx.alloc O).grownBy w1 v.ownBlock) : Waits w1 B n D f o inc ∧ IsRepl w1 (B + 1) B v ∧ Below B w w1 ∧ base ≤ w1.heap.size := by
  have hg2 : wx.grownBy w1 v.ownBlock := (World.grownBy_alloc wx O _).trans hg
  have hs := hg2.size
  refine ⟨hW.kept hg2 (fun e => ?_) (fun k hk cs hcs => ?_), hR.kept (hg2.block _ hR.lt (fun e => ?_)), hb.grown hg2 (by omega) (fun k hk => ?_), by omega⟩
  · have := (own_block hown e.symm).1; omega
  · obtain ⟨_, _, cur, hc⟩ := own_block hown hk
    rw [hc] at hcs; cases hcs
  · have := (own_block hown e.symm).1; omega
  · have := (own_block hown hk).1; omega

theorem pend_set {w w1 : World} {B n j base : Nat} {D : DataW Unit} {f : Nat → Int} {o : ByteArray} {inc : Int} {v v' : Value} {xs : List Value}
    (hW : Waits w1 B n D f o inc) (hR : IsRepl w1 (B + 1) B v) (hown : w1.ownsRow base 105 8 v' j xs) (hb : Below B w w1) (hBB : B + 1 < base) (hbx : base ≤ w1.heap.size) :
    Waits (w1.setCell ⟨B + 1, 31, none⟩ v') B n D f o inc ∧ IsRepl (w1.setCell ⟨B + 1, 31, none⟩ v') (B + 1) B v' ∧ (w1.setCell ⟨B + 1, 31, none⟩ v').ownsRow base 105 8 v' j xs ∧ Below B w (w1.setCell ⟨B + 1, 31, none⟩ v') ∧ base ≤ (w1.setCell ⟨B + 1, 31, none⟩ v').heap.size :=
  ⟨hW.kept (grown_set _ _ _ _) (by simp) (fun k hk cs hcs => by cases hk; rw [hR] at hcs; cases hcs), hR.set, ownsRow_setCell_below hown (by show B + 1 < base; exact hBB) _, hb.setCell (by show B ≤ B + 1; omega) _, by simpa using hbx⟩
end Go.Proofs.Qxb6603565a
