import Derived.Test.Qxb6603269aBig
namespace Go.Proofs.Qxb6603269a
open Go.ChangeShapes Go.WideShapes Go.ChangeAt Go.RowKit
set_option linter.unusedVariables false

theorem Own.alloc {w : World} {a : Option Addr} {n : Nat} {f : Nat → Int} (h : Own w a n f) (o : Obj) : Own (w.alloc o) a n f := h.kept fun k hk => Deep.blk_alloc_lt _ _ _ (h.lt hk)
theorem Own.drewN {w : World} {a : Option Addr} {n : Nat} {f : Nat → Int} (h : Own w a n f) (q : Nat) : Own (w.drewN q) a n f := h.kept fun _ _ => rfl

/-- the four clones, the two structs: what lies where -/
theorem setup {w w1 w2 w3 w4 : World} {f0 fa ga ua : Option Addr} {fl gl ul : Nat} {f g u : Nat → Int} (v : ByteArray) (llf : Int)
    (b0 : Below w.heap.size w w1) (o0 : Own w1 f0 fl f) (l0 : ∀ k, blk f0 = some k → w.heap.size ≤ k)
    (b1 : Below w1.heap.size w1 w2) (o1 : Own w2 fa fl f) (l1 : ∀ k, blk fa = some k → w1.heap.size ≤ k)
    (b2 : Below w2.heap.size w2 w3) (o2 : Own w3 ga gl g) (l2 : ∀ k, blk ga = some k → w2.heap.size ≤ k)
    (b3 : Below w3.heap.size w3 w4) (o3 : Own w4 ua ul u) (l3 : ∀ k, blk ua = some k → w3.heap.size ≤ k) (W : World)
    (hW : W = (w4.alloc (.cells #[.string v, .int .i64 llf, .slice fa fl fl] 51)).alloc (.cells #[.slice ga gl gl, .slice ua ul ul] 53)) :
    (W.heap[w4.heap.size]? = some (.cells #[.string v, .int .i64 llf, .slice fa fl fl] 51 (0, 0)) ∧ W.heap[w4.heap.size + 1]? = some (.cells #[.slice ga gl gl, .slice ua ul ul] 53 (0, 0)) ∧ Below w.heap.size w W) ∧
    (Own W f0 fl f ∧ Own W fa fl f ∧ Own W ga gl g ∧ Own W ua ul u) ∧
    ((∀ k, blk fa = some k → blk f0 ≠ some k) ∧ (∀ k, blk fa = some k → blk ga ≠ some k) ∧ (∀ k, blk fa = some k → blk ua ≠ some k)) ∧
    (blk fa ≠ some w4.heap.size ∧ blk fa ≠ some (w4.heap.size + 1) ∧ blk ua ≠ some w4.heap.size ∧ blk f0 ≠ some w4.heap.size ∧ blk ga ≠ some w4.heap.size) ∧ (∀ k, blk fa = some k → w.heap.size ≤ k) ∧ w.heap.size ≤ w4.heap.size := by
  subst hW
  have s0 := b0.size
  have s1 := b1.size
  have s2 := b2.size
  have s3 := b3.size
  have p0 := ((o0.below b1).below b2).below b3
  have p1 := (o1.below b2).below b3
  have p2 := o2.below b3
  refine ⟨⟨?_, ?_, ?_⟩, ⟨(p0.alloc _).alloc _, (p1.alloc _).alloc _, (p2.alloc _).alloc _, (o3.alloc _).alloc _⟩, ⟨?_, ?_, ?_⟩, ⟨?_, ?_, ?_, ?_, ?_⟩, ?_, by omega⟩
  · rw [Deep.blk_alloc_lt _ _ _ (by simp)]; exact Deep.blk_alloc_new _ _
  · have := Deep.blk_alloc_new (w4.alloc (.cells #[.string v, .int .i64 llf, .slice fa fl fl] 51)) (.cells #[.slice ga gl gl, .slice ua ul ul] 53)
    simpa using this
  · exact (((b0.trans (b1.mono s0)).trans (b2.mono (by omega))).trans (b3.mono (by omega))).alloc (by omega) _ |>.alloc (by simp; omega) _
  · intro k hk h; have := l1 k hk; have := o0.lt h; omega
  · intro k hk h; have := l2 k h; have := o1.lt hk; omega
  · intro k hk h; have := l3 k h; have := o1.lt hk; omega
  · intro h; have := o1.lt h; omega
  · intro h; have := o1.lt h; omega
  · intro h; have := o3.lt h; omega
  · intro h; have := o0.lt h; omega
  · intro h; have := o2.lt h; omega
  · intro k hk; have := l1 k hk; omega

theorem kept_below {w W W' : World} {bd : Nat} {fb : Option Nat} (hb : Below w.heap.size w W) (hk : Kept bd fb W W') (h1 : w.heap.size ≤ bd) (h2 : ∀ k, fb = some k → w.heap.size ≤ k) : Below w.heap.size w W' :=
  ⟨hk.os.trans hb.os, hk.tape.trans hb.tape, hk.output.trans hb.output, Nat.le_trans hb.size hk.size, fun k hkk => (hk.block k (by have := hb.size; omega) (by omega) (fun e => by have := h2 k e; omega)).trans (hb.block k hkk)⟩

theorem Own.keptBy {W W' : World} {bd : Nat} {fb : Option Nat} {a : Option Addr} {n : Nat} {f : Nat → Int} (h : Own W a n f) (hk : Kept bd fb W W') (h1 : blk a ≠ some bd) (h2 : ∀ k, fb = some k → blk a ≠ some k) : Own W' a n f :=
  h.kept fun k hkk => hk.block k (h.lt hkk) (fun e => h1 (by rw [hkk, e])) (fun e => h2 k e hkk)

theorem below_drewN' {B : Nat} {a w : World} (h : Below B a w) (n : Nat) : Below B a (w.drewN n) := ⟨h.os, h.tape, h.output, h.size, h.block⟩

theorem model_bd {hasM fN gN T : Bool} {fl gl ul : Nat} {I : Bool} {N : Nat} (h : ModelSays hasM fN gN T fl gl ul I N) (h1 : fl ≤ 16384) (h2 : gl ≤ 16384) (h3 : ul ≤ 16384) : N ≤ 16384 := by
  obtain ⟨_, _, _, h4⟩ := h
  rw [h4]
  split
  · split
    · exact h1
    · split
      · exact h2
      · omega
  · split
    · exact h3
    · omega
end Go.Proofs.Qxb6603269a
