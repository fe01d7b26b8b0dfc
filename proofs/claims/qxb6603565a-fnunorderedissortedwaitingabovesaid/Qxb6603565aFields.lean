import Derived.Test.Qxb6603565aUnord
namespace Go.Proofs.Qxb6603565a
open Go.RowKit Go.Maps
set_option linter.unusedVariables false

theorem entC_len (o : ByteArray) (inc s : Int) : (entC o inc s).length = 8 := rfl

theorem entsC_len (o : ByteArray) (inc : Int) (g : Nat → Int) : ∀ N, (entsC o inc g N).length = N * 8
  | 0 => rfl
  | N + 1 => by
    show (entsC o inc g N ++ entC o inc (g N)).length = _
    rw [List.length_append, entsC_len o inc g N, entC_len]; omega

theorem entsC_get (o : ByteArray) (inc : Int) (g : Nat → Int) (q : Nat) (hq : q < 8) : ∀ N t, t < N → (entsC o inc g N)[t * 8 + q]? = (entC o inc (g t))[q]?
  | 0, t, h => by omega
  | N + 1, t, h => by
    show (entsC o inc g N ++ entC o inc (g N))[t * 8 + q]? = _
    by_cases e : t < N
    · rw [List.getElem?_append_left (by rw [entsC_len]; omega)]
      exact entsC_get o inc g q hq N t e
    · obtain rfl : t = N := by omega
      rw [List.getElem?_append_right (by rw [entsC_len]; omega), entsC_len]
      congr 1
      omega

/-- a slice of entries: each of this member's, numbered by g -/
theorem ents_cells {w : World} {base N ec : Nat} {ea : Option Addr} {o : ByteArray} {inc : Int} {g : Nat → Int} (h : w.ownsRow base 105 8 (.slice ea N ec) N (entsC o inc g N)) {t : Nat} (ht : t < N) :
    ∃ eb, ea = some ⟨eb, 0, none⟩ ∧ eb < w.heap.size ∧ w.cell? ⟨eb, t * 8, none⟩ = some (.string o) ∧ w.cell? ⟨eb, t * 8 + 1, none⟩ = some (.int .u64 inc) ∧ w.cell? ⟨eb, t * 8 + 2, none⟩ = some (.int .u64 (g t)) := by
  rcases h.2 with ⟨_, h0⟩ | ⟨eb, cap, cur, hv, hb, hh, hn, hc, hs, htk⟩
  · omega
  · have hva : ea = some ⟨eb, 0, none⟩ := by simpa using (by simpa using hv : ea = some ⟨eb, 0, none⟩ ∧ ec = cap).1
    have key : ∀ q, q < 8 → w.cell? ⟨eb, t * 8 + q, none⟩ = (entC o inc (g t))[q]? := by
      intro q hq
      have h1 : (cur.toList.take (N * 8))[t * 8 + q]? = (entsC o inc g N)[t * 8 + q]? := by rw [htk]
      rw [List.getElem?_take_of_lt (by omega), entsC_get o inc g q hq N t ht] at h1
      simp only [World.cell?, hh]
      simp only [Option.isSome_none, Bool.false_eq_true, if_false]
      rw [← Array.getElem?_toList]
      exact h1
    exact ⟨eb, hva, (Array.getElem?_eq_some_iff.1 hh).1, by have h0 := key 0 (by omega); rw [Nat.add_zero] at h0; exact h0, key 1 (by omega), key 2 (by omega)⟩

theorem info9 : (Try.prog.info? 9).map (fun i => (i.zero, i.size, i.bytes)) = some (some (.string ⟨#[]⟩), 1, 16) := by kernel_rfl

/-- the three rows, the first k filled -/
structure Three (w wr : World) (N k : Nat) (o : ByteArray) (inc : Int) (g : Nat → Int) : Prop where
  r1 : wr.rowIs w.heap.size 22 N (fun i => .int .u64 (if i < k then g i else 0))
  r2 : wr.rowIs (w.heap.size + 1) 9 N (fun i => .string (if i < k then o else ⟨#[]⟩))
  r3 : wr.rowIs (w.heap.size + 2) 22 N (fun i => .int .u64 (if i < k then inc else 0))
  bel : Below w.heap.size w wr

theorem three_start (w : World) (N : Nat) (o : ByteArray) (inc : Int) (g : Nat → Int) :
    Three w (((w.alloc (.cells (madeCells #[.int .u64 0] N) 22)).alloc (.cells (madeCells #[.string ⟨#[]⟩] N) 9)).alloc (.cells (madeCells #[.int .u64 0] N) 22)) N 0 o inc g := by
  refine ⟨?_, ?_, ?_, (((Below.refl _ _).alloc (Nat.le_refl _) _).alloc (by simp) _).alloc (by simp; omega) _⟩
  · have := ((World.rowIs_made w (.int .u64 0) N 22).alloc (.cells (madeCells #[.string ⟨#[]⟩] N) 9)).alloc (.cells (madeCells #[.int .u64 0] N) 22)
    simpa using this
  · have := (World.rowIs_made (w.alloc (.cells (madeCells #[.int .u64 0] N) 22)) (.string ⟨#[]⟩) N 9).alloc (.cells (madeCells #[.int .u64 0] N) 22)
    simpa using this
  · have := World.rowIs_made ((w.alloc (.cells (madeCells #[.int .u64 0] N) 22)).alloc (.cells (madeCells #[.string ⟨#[]⟩] N) 9)) (.int .u64 0) N 22
    simpa using this

theorem three_step {w wr : World} {N k : Nat} {o : ByteArray} {inc : Int} {g : Nat → Int} (h : Three w wr N k o inc g) (hk : k < N) :
    Three w (((wr.setCell ⟨w.heap.size, k, none⟩ (.int .u64 (g k))).setCell ⟨w.heap.size + 1, k, none⟩ (.string o)).setCell ⟨w.heap.size + 2, k, none⟩ (.int .u64 inc)) N (k + 1) o inc g := by
  refine ⟨?_, ?_, ?_, ((h.bel.setCell (Nat.le_refl _) _).setCell (by show w.heap.size ≤ w.heap.size + 1; omega) _).setCell (by show w.heap.size ≤ w.heap.size + 2; omega) _⟩
  · refine ((((h.r1.set k _).setOther (a := ⟨w.heap.size + 1, k, none⟩) (by show w.heap.size ≠ w.heap.size + 1; omega) _).setOther (a := ⟨w.heap.size + 2, k, none⟩) (by show w.heap.size ≠ w.heap.size + 2; omega) _)).congr fun j hj => ?_
    by_cases e : j = k
    · subst e; simp
    · simp only [if_neg e]
      by_cases e2 : j < k
      · rw [if_pos e2, if_pos (by omega)]
      · rw [if_neg e2, if_neg (by omega)]
  · refine ((((h.r2.setOther (a := ⟨w.heap.size, k, none⟩) (by show w.heap.size + 1 ≠ w.heap.size; omega) _).set k _).setOther (a := ⟨w.heap.size + 2, k, none⟩) (by show w.heap.size + 1 ≠ w.heap.size + 2; omega) _)).congr fun j hj => ?_
    by_cases e : j = k
    · subst e; simp
    · simp only [if_neg e]
      by_cases e2 : j < k
      · rw [if_pos e2, if_pos (by omega)]
      · rw [if_neg e2, if_neg (by omega)]
  · refine ((((h.r3.setOther (a := ⟨w.heap.size, k, none⟩) (by show w.heap.size + 2 ≠ w.heap.size; omega) _).setOther (a := ⟨w.heap.size + 1, k, none⟩) (by show w.heap.size + 2 ≠ w.heap.size + 1; omega) _).set k _)).congr fun j hj => ?_
    by_cases e : j = k
    · subst e; simp
    · simp only [if_neg e]
      by_cases e2 : j < k
      · rw [if_pos e2, if_pos (by omega)]
      · rw [if_neg e2, if_neg (by omega)]

set_option maxRecDepth 100000 in
set_option maxHeartbeats 1600000 in
theorem fields_any (ea : Option Addr) (N ec base : Nat) (o : ByteArray) (inc : Int) (g : Nat → Int) (w : World) (hN : N ≤ 65536) (h : w.ownsRow base 105 8 (.slice ea N ec) N (entsC o inc g N)) :
    Calls Try.prog 23 #[.slice ea N ec] w fun e w' => e = .returned (.tuple #[.slice (some ⟨w.heap.size, 0, none⟩) N N, .slice (some ⟨w.heap.size + 1, 0, none⟩) N N, .slice (some ⟨w.heap.size + 2, 0, none⟩) N N]) ∧ Three w w' N N o inc g := by
  have hmk1 := run_make_row' (P := Try.prog) 39 22 (.int .u64 0) 8 Try.underlying39 info22 rfl .i64 .i64 N (by omega) (by omega)
  have hmk2 := run_make_row' (P := Try.prog) 32 9 (.string ⟨#[]⟩) 16 Try.underlying32 info9 rfl .i64 .i64 N (by omega) (by omega)
  go_enter Try.func23, Try.ntmps23
  go_wp2
  clear hmk1 hmk2
  go_loopw [20] (fun i wr => ∃ k : Nat, k ≤ N ∧ i = .int .i64 k ∧ Three w wr N k o inc g) (fun i _ => N - (intOf i).toNat)
  case atStart => exact ⟨0, Nat.zero_le _, rfl, three_start w N o inc g⟩
  case round =>
    obtain ⟨k, hk, rfl, hT⟩ := hrel
    by_cases hlt : k < N
    · obtain ⟨eb, hea, hlt1, c0, c1, c2⟩ := ents_cells h hlt
      subst hea
      have hz : (k : Int) < (N : Int) := by omega
      have d0 : wr.cell? ⟨eb, k * 8, none⟩ = some (.string o) := (hT.bel.cell (p := ⟨eb, k * 8, none⟩) hlt1).trans c0
      have d1 : wr.cell? ⟨eb, k * 8 + 1, none⟩ = some (.int .u64 inc) := (hT.bel.cell (p := ⟨eb, k * 8 + 1, none⟩) hlt1).trans c1
      have d2 : wr.cell? ⟨eb, k * 8 + 2, none⟩ = some (.int .u64 (g k)) := (hT.bel.cell (p := ⟨eb, k * 8 + 2, none⟩) hlt1).trans c2
      have e1 : wr.cell? ⟨w.heap.size, k, none⟩ = some (.int .u64 0) := by simpa using hT.r1.cell hlt
      have e2 : wr.cell? ⟨w.heap.size + 1, k, none⟩ = some (.string ⟨#[]⟩) := by simpa using hT.r2.cell hlt
      have e3 : wr.cell? ⟨w.heap.size + 2, k, none⟩ = some (.int .u64 0) := by simpa using hT.r3.cell hlt
      have f1 := hT.r1.frozen k
      have f2 := hT.r2.frozen k
      have f3 := hT.r3.frozen k
      clear c0 c1 c2
      go_wp2
      go_roundw
      case rel => exact ⟨k + 1, by omega, by go_num, three_step hT hlt⟩
      case measure => simp [intOf]; omega
    · obtain rfl : k = N := by omega
      have hge : (k : Int) ≤ (k : Int) := Int.le_refl _
      go_wp2
      go_ret3
      exact ⟨rfl, hT⟩
end Go.Proofs.Qxb6603565a
