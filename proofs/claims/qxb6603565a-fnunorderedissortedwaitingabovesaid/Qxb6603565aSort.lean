import Derived.Test.Qxb6603565aMap
import Derived.Test.Qxb6603565aShelf
import Derived.Shelf.GgSortFunc.Whole
import Derived.Shelf.GgSortFunc.Tiny
import Derived.Lib.RowBridge
import Derived.Lib.SortBridge
import Derived.Sort.LotA
namespace Go.Proofs.Qxb6603565a
open Go.Shelf Go.RowKit Go.Lib Go.Sort
set_option linter.unusedVariables false

theorem info39 : (Try.prog.info? 39).map (fun i => i.desc) = some (.slice 22) := by kernel_rfl
theorem info22s : (Try.prog.info? 22).map (fun i => (i.size, i.hasPointers, i.bytes)) = some (1, false, 8) := by kernel_rfl

theorem swK (n : Nat) (ie : TypeInfo) (h2 : 2 ≤ n) (a : ie.hasPointers = false) (b : ie.bytes = 8) : Lib.swapperK n ie 11 = 5 := by
  have c : (n == 0) = false := by simp; omega
  have d : (n == 1) = false := by simp; omega
  simp [Lib.swapperK, a, b, c, d]

set_option maxHeartbeats 2000000 in
/-- the closure: 'func(i, j int) bool { return seqs[i] < seqs[j] }' -/
theorem less_any (g c bx size : Nat) (W : World) (G : Nat → Int) (hs : W.cell? ⟨bx, 0, none⟩ = some (.slice (some ⟨g, 0, none⟩) size c))
    (hc : ∀ t, t < size → W.cell? ⟨g, t, none⟩ = some (.int .u64 (G t))) (i j : Nat) (hi : i < size) (hj : j < size) :
    Calls Try.prog 30 #[.int .i64 i, .int .i64 j, .pointer (some ⟨bx, 0, none⟩)] W fun e w' => e = .returned (.bool (decide (G i < G j))) ∧ ∃ q, w' = W.drewN q := by
  have ci := hc i hi
  have cj := hc j hj
  have zi : (i : Int) < (size : Int) := by omega
  have zj : (j : Int) < (size : Int) := by omega
  go_enter Try.func30, Try.ntmps30
  go_wp2
  go_quiet (fail)
  go_wp2
  go_ret
  exact ⟨rfl, nq, rfl⟩

theorem holds_of_blk {w : World} {g : Nat} {cur : Array Value} {xs : List Int} (hb : w.heap[g]? = some (.cells cur 22 (0, 0))) (ht : cur.toList.take xs.length = xs.map (Value.int .u64)) : Holds (Value.int .u64) w g 0 xs.toArray := by
  intro j hj
  have hj' : j < xs.length := by simpa using hj
  refine ⟨?_, by simp [World.frozen?, hb]⟩
  have h1 : (cur.toList.take xs.length)[j]? = (xs.map (Value.int .u64))[j]? := by rw [ht]
  rw [List.getElem?_take_of_lt hj'] at h1
  simp only [World.cell?, hb, Nat.zero_add]
  simp only [Option.isSome_none, Bool.false_eq_true, if_false]
  rw [← Array.getElem?_toList, h1]
  simp [hj']

theorem heap_sortedU {w : World} {g n : Nat} {os : Array Obj} {cur : Array Value} {e : TypeId} {fr : Nat × Nat} (d : Array Int) (hb : w.heap[g]? = some (.cells cur e fr)) :
    (grow (putRow (Value.int .u64) (Sort.ahead w n) g 0 d) os).heap[g]? = some (.cells (putCells (Value.int .u64) 0 d cur) e fr) := by
  have hg : g < w.heap.size := (Array.getElem?_eq_some_iff.1 hb).1
  rw [heap_grow_old _ _ (by simpa using hg)]
  simp [putRow, mapBlock, Sort.ahead, Array.getElem?_modify, hb, onCells]

theorem grown_sortedU {w : World} {g n : Nat} {os : Array Obj} (d : Array Int) : w.grownBy (grow (putRow (Value.int .u64) (Sort.ahead w n) g 0 d) os) (some g) := by
  refine ⟨rfl, rfl, rfl, by simp, fun k hk hne => ?_⟩
  rw [heap_grow_old _ _ (by simpa using hk)]
  have : g ≠ k := fun e => hne (by rw [e])
  simp [putRow, mapBlock, Sort.ahead, Array.getElem?_modify, this]

theorem take_putCellsU (cur : Array Value) (ts : List Int) (h : ts.length ≤ cur.size) : (putCells (Value.int .u64) 0 ts.toArray cur).toList.take ts.length = ts.map (Value.int .u64) := by
  apply List.ext_getElem?
  intro j
  by_cases hj : j < ts.length
  · rw [List.getElem?_take_of_lt hj, Array.getElem?_toList]
    simp [putCells, hj, show j < cur.size by omega]
  · rw [List.getElem?_take_eq_none (by omega), List.getElem?_eq_none (by simp; omega)]

/-- what the sort leaves -/
structure Sorted (w w' : World) (g : Nat) (cur : Array Value) (xs ys : List Int) : Prop where
  perm : ys.Perm xs
  asc : ys.Pairwise (· ≤ ·)
  grown : w.grownBy w' (some g)
  row : ∃ cur', w'.heap[g]? = some (.cells cur' 22 (0, 0)) ∧ cur'.size = cur.size ∧ cur'.toList.take ys.length = ys.map (Value.int .u64)

theorem sorted_of {d d' : Array Int} (hp : PermIn 0 d.size d d') (hs : SortedIn ltInt 0 d.size d') : d'.toList.Perm d.toList ∧ d'.toList.Pairwise (· ≤ ·) := by
  obtain ⟨h1, _, h3⟩ := hp
  have e1 : (d'.extract 0 d.size).toList = d'.toList := by rw [← h1]; simp
  have e2 : (d.extract 0 d.size).toList = d.toList := by simp
  rw [e1, e2] at h3
  refine ⟨h3, List.pairwise_iff_getElem.2 fun i j hi hj hij => ?_⟩
  have hi' : i < d'.size := by simpa using hi
  have hj' : j < d'.size := by simpa using hj
  have := hs i j (Nat.zero_le _) hij (by omega)
  rw [getElem!_pos d' j hj', getElem!_pos d' i hi'] at this
  simp [ltInt] at this
  simpa using this

theorem asc_short (xs : List Int) (h : xs.length ≤ 1) : xs.Pairwise (· ≤ ·) := by
  match xs, h with
  | [], _ => exact List.Pairwise.nil
  | [x], _ => simp
  | x :: y :: r, h => simp at h

theorem sort_tiny (p : Option Addr) (n c : Nat) (h1 : n ≤ 1) (bx : Nat) (w : World) :
    Calls Try.prog 29 #[.iface 39 (.slice p n c), .func (.func 30) #[] #[.pointer (some ⟨bx, 0, none⟩)]] w fun e w' => e = .returned (.tuple #[]) ∧ ∃ os, w' = grow w os := by
  obtain ⟨i, hi, hd⟩ := Option.map_eq_some_iff.1 info39
  obtain ⟨ie, hie, hz⟩ := Option.map_eq_some_iff.1 info22s
  have hK : Lib.swapperK n ie 11 = n + 1 := by
    rcases Nat.eq_zero_or_pos n with h | h
    · subst h; simp [Lib.swapperK]
    · obtain rfl : n = 1 := by omega
      simp [Lib.swapperK]
  exact Any.sort_Slice_tiny Try.laysGg6 39 22 i ie hi hd (by kernel_rfl) hie 11 (fun _ => by kernel_rfl) p n c h1 (36 + n) (by
    rw [hK]
    rcases Nat.eq_zero_or_pos n with h | h
    · subst h; kernel_rfl
    · obtain rfl : n = 1 := by omega
      kernel_rfl) (.func 30) #[] #[.pointer (some ⟨bx, 0, none⟩)] w

set_option maxHeartbeats 2000000 in
theorem sort_any (g c bx : Nat) (xs : List Int) (w : World) (cur : Array Value) (hb : w.heap[g]? = some (.cells cur 22 (0, 0))) (ht : cur.toList.take xs.length = xs.map (Value.int .u64)) (hcs : xs.length ≤ cur.size)
    (hbox : w.heap[bx]? = some (.cells #[.slice (some ⟨g, 0, none⟩) xs.length c] 39 (0, 0))) (hlen : xs.length < 4611686018427387904) :
    Calls Try.prog 29 #[.iface 39 (.slice (some ⟨g, 0, none⟩) xs.length c), .func (.func 30) #[] #[.pointer (some ⟨bx, 0, none⟩)]] w fun e w' => e = .returned (.tuple #[]) ∧ ∃ ys, Sorted w w' g cur xs ys := by
  obtain ⟨i, hi, hd⟩ := Option.map_eq_some_iff.1 info39
  obtain ⟨ie, hie, hz⟩ := Option.map_eq_some_iff.1 info22s
  simp only [Prod.mk.injEq] at hz
  obtain ⟨hz1, hz2, hz3⟩ := hz
  have hg : g < w.heap.size := (Array.getElem?_eq_some_iff.1 hb).1
  have hbx : bx < w.heap.size := (Array.getElem?_eq_some_iff.1 hbox).1
  have hne : bx ≠ g := by
    intro e; subst e; rw [hb] at hbox; cases hbox
  by_cases h2 : 2 ≤ xs.length
  · have hH := holds_of_blk hb ht
    have hsz : xs.toArray.size = xs.length := by simp
    have hless : LessReads Try.prog 30 #[.pointer (some ⟨bx, 0, none⟩)] (Value.int .u64) ltInt g 0 xs.toArray.size w := by
      intro m os dk hs i j hi hj
      have e : sortWorld (Value.int .u64) w g 0 m dk os = putRow (Value.int .u64) (grow (Sort.ahead w m) os) g 0 dk := by
        unfold sortWorld; rw [putRow_grow _ (Sort.ahead w m) _ g 0 _ hg]
      have hHg : Holds (Value.int .u64) (grow (Sort.ahead w m) os) g 0 xs.toArray := holds_grow _ _ _ g 0 _ hg (holds_ahead _ _ _ _ _ _ hH)
      refine less_any g c bx xs.toArray.size _ (fun t => dk[t]!) ?_ (fun t ht => ?_) i j hi hj
      · rw [e, cell?_putRow_other _ _ g 0 dk _ (Or.inl hne), cell?_grow _ _ _ (by show bx < w.heap.size; exact hbx)]
        show w.cell? _ = _
        simp [World.cell?, hbox]
      · rw [e]
        have := cell?_putRow (Value.int .u64) _ g 0 xs.toArray dk hHg hs t (by omega)
        simpa using this
    have hS := Any.sort_Slice_sorted Try.laysGg6 39 22 i ie hi hd (by kernel_rfl) hie 11 (fun _ => by kernel_rfl) hz1 (fun _ => by kernel_rfl) (Value.int .u64) (fun _ => rfl) ltInt swo_ltInt 30 _
      (enters_of Try.func30 (by kernel_rfl) rfl) g 0 c xs.toArray (by simpa using h2) (by simpa using hlen) 40 (by rw [swK _ ie (by simpa using h2) hz2 hz3]; kernel_rfl) true
      (fun args W => run_callFunc_extern Try.func40 (by kernel_rfl) (by kernel_rfl) (by kernel_rfl) (e := Extern.ReflectliteSwapper.swap true) (by kernel_rfl) args W) _ hless hH hg
    change Calls Try.prog 29 _ _ _ at hS
    rw [hsz] at hS
    refine hS.mono ?_
    rintro e w' ⟨rfl, d', n, os, hp, hso, rfl⟩
    rw [← hsz] at hp hso
    obtain ⟨p1, p2⟩ := sorted_of hp hso
    have hl : d'.toList.length = xs.length := by simpa using p1.length_eq
    refine ⟨rfl, d'.toList, by simpa using p1, p2, grown_sortedU _, _, heap_sortedU _ hb, by simp [putCells], ?_⟩
    have := take_putCellsU cur d'.toList (by omega)
    simpa using this
  · refine (sort_tiny (some ⟨g, 0, none⟩) xs.length c (by omega) bx w).mono ?_
    rintro e w' ⟨rfl, os, rfl⟩
    exact ⟨rfl, xs, List.Perm.refl _, asc_short xs (by omega), ⟨rfl, rfl, rfl, by simp [grow], fun k hk _ => heap_grow_old _ _ hk⟩, cur, by rw [heap_grow_old _ _ hg]; exact hb, rfl, ht⟩
end Go.Proofs.Qxb6603565a
