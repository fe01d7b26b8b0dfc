import Derived.Test.Qxb6603565aSort
import Derived.Sort.OwnSorted
namespace Go.Proofs.Qxb6603565a
open Go.RowKit Go.Maps
set_option linter.unusedVariables false

/-- the keys above 'after' that have come so far -/
structure Coll (D : DataW Unit) (after : Int) (left : Lit → Bool) (xs : List Int) : Prop where
  nodup : xs.Nodup
  mem : ∀ s, s ∈ xs → after < s ∧ Maps.has D (.int .u64 s) = true ∧ left (.int .u64 s) = false
  all : ∀ s, Maps.has D (.int .u64 s) = true → left (.int .u64 s) = false → after < s → s ∈ xs

theorem coll_start (D : DataW Unit) (after : Int) : Coll D after (Maps.has D) [] :=
  ⟨List.nodup_nil, fun s h => absurd h (by simp), fun s h1 h2 => by rw [h1] at h2; cases h2⟩

theorem left_off {left : Lit → Bool} {x s : Int} (h : (left (.int .u64 s) && !(Lit.int .u64 s).sameKey (.int .u64 x)) = false) : left (.int .u64 s) = false ∨ s = x := by
  cases hl : left (.int .u64 s)
  · exact .inl rfl
  · rw [hl] at h
    simp at h
    have := WideAt.sameKey_eq h
    right
    simpa using this

theorem coll_miss {D : DataW Unit} {after : Int} {left : Lit → Bool} {xs : List Int} (h : Coll D after left xs) {x : Int} (hx : ¬ after < x) :
    Coll D after (fun z => left z && !z.sameKey (.int .u64 x)) xs :=
  ⟨h.nodup, fun s hs => by obtain ⟨h1, h2, h3⟩ := h.mem s hs; exact ⟨h1, h2, by simp [h3]⟩, fun s h1 h2 h3 => by
    rcases left_off h2 with h4 | rfl
    · exact h.all s h1 h4 h3
    · exact absurd h3 hx⟩

theorem coll_hit {D : DataW Unit} {after : Int} {left : Lit → Bool} {xs : List Int} (h : Coll D after left xs) {x : Int} (hx : after < x) (hl : left (.int .u64 x) = true) (hd : Maps.has D (.int .u64 x) = true) :
    Coll D after (fun z => left z && !z.sameKey (.int .u64 x)) (xs ++ [x]) := by
  refine ⟨?_, fun s hs => ?_, fun s h1 h2 h3 => ?_⟩
  · rw [List.nodup_append]
    refine ⟨h.nodup, by simp, fun a ha b hb => ?_⟩
    simp at hb
    subst hb
    intro e
    subst e
    have := (h.mem a ha).2.2
    rw [hl] at this; cases this
  · rcases List.mem_append.1 hs with hs | hs
    · obtain ⟨h1, h2, h3⟩ := h.mem s hs
      exact ⟨h1, h2, by simp [h3]⟩
    · simp at hs
      subst hs
      exact ⟨hx, hd, by simp [WideAt.sameKey_self (show WideAt.IsKeyLit (.int .u64 s) from trivial)]⟩
  · rcases left_off h2 with h4 | rfl
    · exact List.mem_append.2 (.inl (h.all s h1 h4 h3))
    · simp

/-- the loop over the map, under way -/
structure Rng (w wr : World) (bm bx r n : Nat) (D : DataW Unit) (after : Int) (left : Lit → Bool) (cnt : Nat) (xs : List Int) (va : Option Addr) (vc : Nat) : Prop where
  rg : wr.ranges Try.prog 22 ptrElem bm r n D left cnt
  row : wr.ownsRow w.heap.size 22 1 (.slice va xs.length vc) xs.length (xs.map (Value.int .u64))
  box : wr.heap[bx]? = some (.cells #[.slice va xs.length vc] 39 (0, 0))
  col : Coll D after left xs
  len : xs.length + cnt ≤ Maps.size D
  bel : Below w.heap.size w wr
  nn : va ≠ none
  hbx : w.heap.size ≤ bx
  hr : w.heap.size ≤ r
  ne : bx ≠ r
  hbm : bm < w.heap.size

theorem box_cell {w : World} {bx : Nat} {v : Value} (h : w.heap[bx]? = some (.cells #[v] 39 (0, 0))) : w.cell? ⟨bx, 0, none⟩ = some v ∧ ∀ i, w.frozen? ⟨bx, i, none⟩ = false := by
  simp [World.cell?, World.frozen?, h]
theorem box_set {w : World} {bx : Nat} {v v' : Value} (h : w.heap[bx]? = some (.cells #[v] 39 (0, 0))) : (w.setCell ⟨bx, 0, none⟩ v').heap[bx]? = some (.cells #[v'] 39 (0, 0)) := by
  simp [World.setCell, Array.getElem?_modify, h]
theorem lt_heap {w : World} {b : Nat} {o : Obj} (h : w.heap[b]? = some o) : b < w.heap.size := (Array.getElem?_eq_some_iff.1 h).1

/-- behind the step: the row, the box, the old blocks -/
theorem rng_stepped {w wr w1 : World} {bm bx r n : Nat} {D : DataW Unit} {after : Int} {left : Lit → Bool} {cnt : Nat} {xs : List Int} {va : Option Addr} {vc : Nat} (h : Rng w wr bm bx r n D after left cnt xs va vc) (hg : wr.grownBy w1 (some r)) :
    w1.ownsRow w.heap.size 22 1 (.slice va xs.length vc) xs.length (xs.map (Value.int .u64)) ∧ w1.heap[bx]? = some (.cells #[.slice va xs.length vc] 39 (0, 0)) ∧ Below w.heap.size w w1 :=
  ⟨h.row.kept hg (Or.inr (row_ne_iter h.row h.rg).symm), (hg.block bx (lt_heap h.box) (by simpa using h.ne)).trans h.box, h.bel.grown hg h.bel.size (fun j hj => by cases hj; exact h.hr)⟩

theorem rng_miss {w wr w1 : World} {bm bx r n : Nat} {D : DataW Unit} {after : Int} {left : Lit → Bool} {cnt cnt1 : Nat} {xs : List Int} {va : Option Addr} {vc : Nat} {x : Int} (h : Rng w wr bm bx r n D after left cnt xs va vc) (hg : wr.grownBy w1 (some r))
    (hrg : w1.ranges Try.prog 22 ptrElem bm r n D (fun z => left z && !z.sameKey (.int .u64 x)) cnt1) (hlt : cnt1 < cnt) (hx : ¬ after < x) : Rng w w1 bm bx r n D after (fun z => left z && !z.sameKey (.int .u64 x)) cnt1 xs va vc := by
  obtain ⟨a1, a2, a3⟩ := rng_stepped h hg
  exact ⟨hrg, a1, a2, coll_miss h.col hx, by have := h.len; omega, a3, h.nn, h.hbx, h.hr, h.ne, h.hbm⟩

/-- behind the append, ahead of its store -/
theorem rng_app {w wr w1 w2 : World} {bm bx r n : Nat} {D : DataW Unit} {after : Int} {left : Lit → Bool} {cnt cnt1 : Nat} {xs : List Int} {va : Option Addr} {vc : Nat} {x : Int} {O : Obj} (h : Rng w wr bm bx r n D after left cnt xs va vc) (hg : wr.grownBy w1 (some r))
    (hrg : w1.ranges Try.prog 22 ptrElem bm r n D (fun z => left z && !z.sameKey (.int .u64 x)) cnt1) (hg2 : (w1.alloc O).grownBy w2 (Value.slice va xs.length vc).ownBlock) :
    w2.heap[bx]? = some (.cells #[.slice va xs.length vc] 39 (0, 0)) ∧ w2.ranges Try.prog 22 ptrElem bm r n D (fun z => left z && !z.sameKey (.int .u64 x)) cnt1 ∧ Below w.heap.size w w2 := by
  obtain ⟨a1, a2, a3⟩ := rng_stepped h hg
  have hg3 : w1.grownBy w2 (Value.slice va xs.length vc).ownBlock := (World.grownBy_alloc w1 O _).trans hg2
  refine ⟨(hg3.block bx (lt_heap a2) (fun e => ?_)).trans a2, hrg.kept hg3 (row_ne_low a1 h.hbm) (row_ne_iter a1 hrg), a3.grown hg3 a3.size (fun j hj => (own_block a1 hj).1)⟩
  obtain ⟨_, _, cur, hc⟩ := own_block a1 e.symm
  rw [a2] at hc; cases hc

theorem rng_hit {w wr w2 : World} {bm bx r n : Nat} {D : DataW Unit} {after : Int} {left : Lit → Bool} {cnt cnt1 : Nat} {xs : List Int} {va va' : Option Addr} {vc vc' : Nat} {x : Int} (h : Rng w wr bm bx r n D after left cnt xs va vc)
    (hbox : w2.heap[bx]? = some (.cells #[.slice va xs.length vc] 39 (0, 0))) (hrg : w2.ranges Try.prog 22 ptrElem bm r n D (fun z => left z && !z.sameKey (.int .u64 x)) cnt1) (hb : Below w.heap.size w w2)
    (hrow : w2.ownsRow w.heap.size 22 1 (.slice va' (xs.length + 1) vc') (xs.length + 1) (xs.map (Value.int .u64) ++ [.int .u64 x])) (hlt : cnt1 < cnt) (hx : after < x) (hl : left (.int .u64 x) = true) (hd : Maps.has D (.int .u64 x) = true) :
    Rng w (w2.setCell ⟨bx, 0, none⟩ (.slice va' (xs.length + 1) vc')) bm bx r n D after (fun z => left z && !z.sameKey (.int .u64 x)) cnt1 (xs ++ [x]) va' vc' := by
  have hl1 : (xs ++ [x]).length = xs.length + 1 := by simp
  have hk := grown_set w2 bx 0 (.slice va' (xs.length + 1) vc')
  refine ⟨hrg.kept hk (by have := h.hbm; have := h.hbx; simp; omega) (by simpa using h.ne.symm), ?_, ?_, coll_hit h.col hx hl hd, by have := h.len; rw [hl1]; omega, hb.setCell h.hbx _, ?_, h.hbx, h.hr, h.ne, h.hbm⟩
  · rw [hl1, List.map_append]
    refine hrow.kept hk (.inr fun e => ?_)
    obtain ⟨_, _, cur, hc⟩ := own_block hrow e
    rw [hbox] at hc; cases hc
  · rw [hl1]; exact box_set hbox
  · intro e
    subst e
    rcases hrow.2 with ⟨hv, _⟩ | ⟨g, cap, cur, hv, _⟩
    · simp at hv
    · cases hv

/-- behind the sort: the boxed slice, its row, the old blocks -/
structure Aft (w wr : World) (bx g vc : Nat) (ys : List Int) : Prop where
  box : wr.heap[bx]? = some (.cells #[.slice (some ⟨g, 0, none⟩) ys.length vc] 39 (0, 0))
  row : ∃ cur, wr.heap[g]? = some (.cells cur 22 (0, 0)) ∧ cur.toList.take ys.length = ys.map (Value.int .u64)
  bel : Below w.heap.size w wr
  hbx : w.heap.size ≤ bx
  hg : w.heap.size ≤ g

theorem Aft.cell {w wr : World} {bx g vc : Nat} {ys : List Int} (h : Aft w wr bx g vc ys) {i : Nat} (hi : i < ys.length) : wr.cell? ⟨g, i, none⟩ = some (.int .u64 (ys.getD i 0)) := by
  obtain ⟨cur, hb, ht⟩ := h.row
  have h1 : (cur.toList.take ys.length)[i]? = (ys.map (Value.int .u64))[i]? := by rw [ht]
  rw [List.getElem?_take_of_lt hi] at h1
  simp only [World.cell?, hb]
  simp only [Option.isSome_none, Bool.false_eq_true, if_false]
  rw [← Array.getElem?_toList, h1]
  simp [hi]

theorem Aft.kept {w wr w' : World} {bx g vc : Nat} {ys : List Int} (h : Aft w wr bx g vc ys) {row : Option Nat} {base : Nat} (hg : wr.grownBy w' row) (hr : ∀ k, row = some k → base ≤ k) (h1 : bx < base) (h2 : g < base) (h3 : w.heap.size ≤ base) : Aft w w' bx g vc ys := by
  obtain ⟨cur, hb, ht⟩ := h.row
  exact ⟨(hg.block bx (lt_heap h.box) (fun e => by have := hr bx e.symm; omega)).trans h.box, ⟨cur, (hg.block g (lt_heap hb) (fun e => by have := hr g e.symm; omega)).trans hb, ht⟩, h.bel.grown hg h.bel.size (fun k hk => by have := hr k hk; omega), h.hbx, h.hg⟩

theorem Aft.lts {w wr : World} {bx g vc : Nat} {ys : List Int} (h : Aft w wr bx g vc ys) : bx < wr.heap.size ∧ g < wr.heap.size := by
  obtain ⟨cur, hb, _⟩ := h.row
  exact ⟨lt_heap h.box, lt_heap hb⟩

theorem aft_of {w wr w' : World} {bm bx r n : Nat} {D : DataW Unit} {after : Int} {left : Lit → Bool} {cnt : Nat} {xs ys : List Int} {g vc : Nat} {cur : Array Value} (h : Rng w wr bm bx r n D after left cnt xs (some ⟨g, 0, none⟩) vc) (hg : w.heap.size ≤ g) (hb : wr.heap[g]? = some (.cells cur 22 (0, 0)))
    (hs : Sorted wr w' g cur xs ys) : Aft w w' bx g vc ys := by
  have hl : ys.length = xs.length := hs.perm.length_eq
  obtain ⟨cur', h1, h2, h3⟩ := hs.row
  refine ⟨?_, ⟨cur', h1, h3⟩, h.bel.grown hs.grown h.bel.size (fun k hk => by cases hk; exact hg), h.hbx, hg⟩
  rw [hl, hs.grown.block bx (lt_heap h.box) (fun e => ?_)]
  · exact h.box
  · have : bx = g := by simpa using e
    subst this
    have := h.box
    rw [hb] at this; cases this

/-- what stands in the sorted slice -/
structure Keys (D : DataW Unit) (after : Int) (ys : List Int) : Prop where
  asc : ∀ i j, i < j → j < ys.length → ys.getD i 0 < ys.getD j 0
  mem : ∀ s, s ∈ ys ↔ Maps.has D (.int .u64 s) = true ∧ after < s
  len : ys.length ≤ Maps.size D

theorem keys_of {w wr w' : World} {bm bx r n : Nat} {D : DataW Unit} {after : Int} {left : Lit → Bool} {cnt : Nat} {xs ys : List Int} {va : Option Addr} {g vc : Nat} {cur : Array Value} (h : Rng w wr bm bx r n D after left cnt xs va vc) (hl0 : ∀ kl, left kl = false)
    (hs : Sorted wr w' g cur xs ys) : Keys D after ys := by
  have hnd : ys.Nodup := hs.perm.nodup_iff.2 h.col.nodup
  refine ⟨fun i j hij hj => ?_, fun s => ?_, ?_⟩
  · have h1 := List.pairwise_iff_getElem.1 hs.asc i j (by omega) hj hij
    have h2 := List.pairwise_iff_getElem.1 hnd i j (by omega) hj hij
    rw [List.getD_eq_getElem?_getD, List.getD_eq_getElem?_getD, List.getElem?_eq_getElem (by omega), List.getElem?_eq_getElem hj]
    simp only [Option.getD_some]
    omega
  · rw [hs.perm.mem_iff]
    exact ⟨fun hm => ⟨(h.col.mem s hm).2.1, (h.col.mem s hm).1⟩, fun ⟨h1, h2⟩ => h.col.all s h1 (hl0 _) h2⟩
  · rw [hs.perm.length_eq]; have := h.len; omega

theorem prop_cells {w : World} {b : Nat} {o : ByteArray} {inc s : Int} (h : w.heap[b]? = some (.cells (prop o inc s) 108 (0, 0))) :
    w.cell? ⟨b, 0, none⟩ = some (.string o) ∧ w.cell? ⟨b, 1, none⟩ = some (.int .u64 inc) ∧ w.cell? ⟨b, 2, none⟩ = some (.int .u64 s) ∧ w.cell? ⟨b, 3, none⟩ = some (.slice none 0 0) ∧
    w.cell? ⟨b, 4, none⟩ = some (.pointer none) ∧ w.cell? ⟨b, 5, none⟩ = some (.pointer none) ∧ w.cell? ⟨b, 6, none⟩ = some (.pointer none) ∧ w.cell? ⟨b, 7, none⟩ = some (.string ⟨#[]⟩) := by
  simp [World.cell?, h, prop]

theorem Waits.below {w w' : World} {bm k : Nat} {D : DataW Unit} {f : Nat → Int} {o : ByteArray} {inc : Int} (h : Waits w bm k D f o inc) (hb : Below w.heap.size w w') : Waits w' bm k D f o inc :=
  h.kept (row := none) ⟨hb.os, hb.tape, hb.output, hb.size, fun k hk _ => hb.block k hk⟩ (by simp) (fun j hj => by cases hj)

theorem zero101 (w : World) : (zeroValue 101).run Try.prog w = .ok (.pointer none) w := by kernel_rfl

/-- the proposal at a key -/
theorem look_at {w : World} {bm k : Nat} {D : DataW Unit} {f : Nat → Int} {o : ByteArray} {inc s : Int} (h : Waits w bm k D f o inc) (hs : Maps.has D (.int .u64 s) = true) (hwf : (Lit.int .u64 s).wf = true) :
    ∃ b, (Instr.lookup 63 (.map (some bm)) (.int .u64 s) false).run Try.prog w = .ok (.pointer (some ⟨b, 0, none⟩)) w ∧ w.heap[b]? = some (.cells (prop o inc s) 108 (0, 0)) := by
  obtain ⟨b, h1, h2⟩ := h.props s hs
  obtain ⟨v, ps, hrun, hv⟩ := h.own.lookup law22 Try.underlying63 (zero101 w) (zd := .nil) (zp := []) rfl (keyOf_int_mk Try.underlying22 hwf)
  rw [h1] at hv
  rw [ptrElem_at hv] at hrun
  exact ⟨b, hrun, h2⟩
end Go.Proofs.Qxb6603565a
