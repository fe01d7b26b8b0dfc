import Derived.Test.Qxb6603269aModel
import Derived.Deep.RegionWith
namespace Go.Proofs.Qxb6603269a
open Go.ChangeShapes Go.WideShapes Go.ChangeAt Go.RowKit
set_option linter.unusedVariables false

theorem three_cells {w : World} {b : Nat} {t : TypeId} {x y z : Value} (h : w.heap[b]? = some (.cells #[x, y, z] t (0, 0))) :
    w.cell? ⟨b, 0, none⟩ = some x ∧ w.cell? ⟨b, 1, none⟩ = some y ∧ w.cell? ⟨b, 2, none⟩ = some z ∧ ∀ i, w.frozen? ⟨b, i, none⟩ = false := by
  simp [World.cell?, World.frozen?, h]
theorem two_cells {w : World} {b : Nat} {t : TypeId} {x y : Value} (h : w.heap[b]? = some (.cells #[x, y] t (0, 0))) :
    w.cell? ⟨b, 0, none⟩ = some x ∧ w.cell? ⟨b, 1, none⟩ = some y := by
  simp [World.cell?, h]
theorem three_set2 {w : World} {b : Nat} {t : TypeId} {x y z z' : Value} (h : w.heap[b]? = some (.cells #[x, y, z] t (0, 0))) :
    (w.setCell ⟨b, 2, none⟩ z').heap[b]? = some (.cells #[x, y, z'] t (0, 0)) := by
  simp [World.setCell, Array.getElem?_modify, h]
theorem three_set1 {w : World} {b : Nat} {t : TypeId} {x y z y' : Value} (h : w.heap[b]? = some (.cells #[x, y, z] t (0, 0))) :
    (w.setCell ⟨b, 1, none⟩ y').heap[b]? = some (.cells #[x, y', z] t (0, 0)) := by
  simp [World.setCell, Array.getElem?_modify, h]

theorem Own.drew {w : World} {a : Option Addr} {n : Nat} {f : Nat → Int} (h : Own w a n f) : Own w.drew a n f := h.kept fun _ _ => rfl

/-- old blocks but two are as they were -/
structure Kept (bd : Nat) (fb : Option Nat) (w w' : World) : Prop where
  os : w'.os = w.os
  tape : w'.tape = w.tape
  output : w'.output = w.output
  size : w.heap.size ≤ w'.heap.size
  block : ∀ k, k < w.heap.size → k ≠ bd → fb ≠ some k → w'.heap[k]? = w.heap[k]?

/-- behind the first orInto (and, perhaps, the look for the line feed) -/
structure Mid (w w' : World) (bd bm : Nat) (v : ByteArray) (L : Int) (fa ga ua : Option Addr) (fl gl ul : Nat) (f g u : Nat → Int) (ra : Option Addr) (rn : Nat) (r : Nat → Int) : Prop where
  hD : w'.heap[bd]? = some (.cells #[.string v, .int .i64 L, .slice ra rn rn] 51 (0, 0))
  hM : w'.heap[bm]? = some (.cells #[.slice ga gl gl, .slice ua ul ul] 53 (0, 0))
  own : Own w' ra rn r
  ownu : Own w' ua ul u
  kept : Kept bd (blk fa) w w'
  same : fa.isNone = false → ra = fa ∧ rn = fl
  new : fa.isNone = true → rn = gl ∧ ra.isNone = ga.isNone ∧ ∀ k, blk ra = some k → w.heap.size ≤ k
  val : ∀ i, i < rn → r i = orW (pad fl f i) (pad gl g i)

theorem blk_none {a : Option Addr} (h : a.isNone = true) : blk a = none := by cases a <;> simp_all [blk]
theorem lt_of_heap {w : World} {b : Nat} {o : Obj} (h : w.heap[b]? = some o) : b < w.heap.size := (Array.getElem?_eq_some_iff.1 h).1

theorem mid_mk {w w1 : World} {bd bm : Nat} {v : ByteArray} {L : Int} {fa ga ua : Option Addr} {fl gl ul : Nat} {f g u : Nat → Int} {ra : Option Addr} {rn : Nat} {r : Nat → Int}
    (hD : w.heap[bd]? = some (.cells #[.string v, .int .i64 L, .slice fa fl fl] 51 (0, 0)))
    (hM : w.heap[bm]? = some (.cells #[.slice ga gl gl, .slice ua ul ul] 53 (0, 0)))
    (hu : Own w ua ul u) (hneu : ∀ k, blk fa = some k → blk ua ≠ some k) (hdf : blk fa ≠ some bd) (hmf : blk fa ≠ some bm) (hdu : blk ua ≠ some bd) (hdm : bd ≠ bm)
    (hown : Own w1 ra rn r) (hgr : w.drew.grownBy w1 (blk fa)) (same : fa.isNone = false → ra = fa ∧ rn = fl) (new : fa.isNone = true → rn = gl ∧ ra.isNone = ga.isNone ∧ ∀ k, blk ra = some k → w.drew.heap.size ≤ k)
    (val : ∀ i, i < rn → r i = orW (pad fl f i) (pad gl g i)) : Mid w (w1.setCell ⟨bd, 2, none⟩ (.slice ra rn rn)) bd bm v L fa ga ua fl gl ul f g u ra rn r := by
  have hlt := lt_of_heap hD
  have e0 : w1.heap[bd]? = some (.cells #[.string v, .int .i64 L, .slice fa fl fl] 51 (0, 0)) := (hgr.block bd hlt (fun h => hdf h.symm)).trans hD
  have e1 : w1.heap[bm]? = some (.cells #[.slice ga gl gl, .slice ua ul ul] 53 (0, 0)) := (hgr.block bm (lt_of_heap hM) (fun h => hmf h.symm)).trans hM
  have hra : ∀ k, blk ra = some k → k ≠ bd := by
    intro k hk e
    subst e
    cases hN : fa.isNone
    · rw [(same hN).1] at hk; exact hdf hk
    · have := (new hN).2.2 k hk; have h2 : w.drew.heap.size = w.heap.size := rfl; omega
  refine ⟨three_set2 e0, ?_, ?_, ?_, ⟨hgr.os, hgr.tape, hgr.output, by have h1 : w.heap.size ≤ w1.heap.size := hgr.size; simpa using h1, ?_⟩, same, new, val⟩
  · rw [Deep.blk_setCell_other _ _ _ _ (fun e => hdm e.symm)]; exact e1
  · exact hown.kept fun k hk => Deep.blk_setCell_other _ _ _ _ (hra k hk)
  · refine hu.kept fun k hk => ?_
    rw [Deep.blk_setCell_other _ _ _ _ (fun e => hdu (by rw [hk, e]))]
    exact hgr.block k (hu.lt hk) (fun e => hneu k e.symm hk)
  · intro k hk h1 h2
    rw [Deep.blk_setCell_other _ _ _ _ h1]
    exact hgr.block k hk (fun e => h2 e.symm)

theorem Mid.setL {w w' : World} {bd bm : Nat} {v : ByteArray} {L L' : Int} {fa ga ua : Option Addr} {fl gl ul : Nat} {f g u : Nat → Int} {ra : Option Addr} {rn : Nat} {r : Nat → Int}
    (h : Mid w w' bd bm v L fa ga ua fl gl ul f g u ra rn r) (hdm : bd ≠ bm) (hdu : blk ua ≠ some bd) (hdf : blk fa ≠ some bd) (hlt : bd < w.heap.size) : Mid w (w'.setCell ⟨bd, 1, none⟩ (.int .i64 L')) bd bm v L' fa ga ua fl gl ul f g u ra rn r := by
  have hra : ∀ k, blk ra = some k → k ≠ bd := by
    intro k hk e
    subst e
    cases hN : fa.isNone
    · rw [(h.same hN).1] at hk; exact hdf hk
    · have := (h.new hN).2.2 k hk; omega
  refine ⟨three_set1 h.hD, ?_, ?_, ?_, ⟨h.kept.os, h.kept.tape, h.kept.output, by simpa using h.kept.size, ?_⟩, h.same, h.new, h.val⟩
  · rw [Deep.blk_setCell_other _ _ _ _ (fun e => hdm e.symm)]; exact h.hM
  · exact h.own.kept fun k hk => Deep.blk_setCell_other _ _ _ _ (hra k hk)
  · exact h.ownu.kept fun k hk => Deep.blk_setCell_other _ _ _ _ (fun e => hdu (by rw [hk, e]))
  · intro k hk h1 h2
    rw [Deep.blk_setCell_other _ _ _ _ h1]
    exact h.kept.block k hk h1 h2

/-- what add leaves -/
structure Done (w w' : World) (bd : Nat) (v : ByteArray) (L : Int) (T : Bool) (fa ga : Option Addr) (fl gl ul : Nat) (f g u : Nat → Int) (I : Bool) (N : Nat) (ra : Option Addr) (r : Nat → Int) : Prop where
  hD : w'.heap[bd]? = some (.cells #[.string v, .int .i64 L, .slice ra N N] 51 (0, 0))
  own : Own w' ra N r
  kept : Kept bd (blk fa) w w'
  same : fa.isNone = false → ra = fa ∧ N = fl
  nil : ra.isNone = I
  val : ∀ i, i < N → r i = if T = true then orW (orW (pad fl f i) (pad gl g i)) (pad ul u i) else orW (pad fl f i) (pad gl g i)

theorem done_no {w w' : World} {bd bm : Nat} {v : ByteArray} {L : Int} {fa ga ua : Option Addr} {fl gl ul : Nat} {f g u : Nat → Int} {ra : Option Addr} {rn : Nat} {r : Nat → Int} {I : Bool} {N : Nat}
    (h : Mid w w' bd bm v L fa ga ua fl gl ul f g u ra rn r) (hms : ModelSays true fa.isNone ga.isNone false fl gl ul I N) (hf : Own w fa fl f) (hg : Own w ga gl g) : Done w w' bd v L false fa ga fl gl ul f g u I N ra r := by
  obtain ⟨h1, h2, h3, h4⟩ := hms
  have hfz : fa.isNone = true → fl = 0 := by rcases hf.row with ⟨_, h⟩ | ⟨b, h, _⟩ <;> simp_all
  have hgz : ga.isNone = true → gl = 0 := by rcases hg.row with ⟨_, h⟩ | ⟨b, h, _⟩ <;> simp_all
  have hN : rn = N := by
    cases hN : fa.isNone
    · rw [(h.same hN).2]; simp [hN] at h4; exact h4.symm
    · rw [(h.new hN).1]; cases hG : ga.isNone <;> simp [hN, hG] at h4 <;> simp_all
  subst hN
  refine ⟨h.hD, h.own, h.kept, h.same, ?_, fun i hi => by rw [if_neg (by simp)]; exact h.val i hi⟩
  cases hN : fa.isNone
  · rw [(h.same hN).1, hN]; simp [hN] at h3; exact h3.symm
  · rw [(h.new hN).2.1]; simp [hN] at h3; exact h3.symm

theorem done_yes {w w' w1 : World} {bd bm : Nat} {v : ByteArray} {L : Int} {fa ga ua : Option Addr} {fl gl ul : Nat} {f g u : Nat → Int} {ra : Option Addr} {rn : Nat} {r : Nat → Int} {I : Bool} {N : Nat} {sa : Option Addr} {sn : Nat} {s : Nat → Int}
    (h : Mid w w' bd bm v L fa ga ua fl gl ul f g u ra rn r) (hms : ModelSays true fa.isNone ga.isNone true fl gl ul I N) (hf : Own w fa fl f) (hg : Own w ga gl g) (huN : ua.isNone = false) (hdf : blk fa ≠ some bd) (hlt : bd < w.heap.size)
    (hown : Own w1 sa sn s) (hgr : w'.drew.grownBy w1 (blk ra)) (same : ra.isNone = false → sa = ra ∧ sn = rn) (new : ra.isNone = true → sn = ul ∧ sa.isNone = ua.isNone ∧ ∀ k, blk sa = some k → w'.drew.heap.size ≤ k)
    (val : ∀ i, i < sn → s i = orW (pad rn r i) (pad ul u i)) : Done w (w1.setCell ⟨bd, 2, none⟩ (.slice sa sn sn)) bd v L true fa ga fl gl ul f g u I N sa s := by
  obtain ⟨h1, h2, h3, h4⟩ := hms
  have hfz : fa.isNone = true → fl = 0 := by rcases hf.row with ⟨_, h⟩ | ⟨b, h, _⟩ <;> simp_all
  have hgz : ga.isNone = true → gl = 0 := by rcases hg.row with ⟨_, h⟩ | ⟨b, h, _⟩ <;> simp_all
  have hra : ∀ k, blk ra = some k → k ≠ bd := by
    intro k hk e
    subst e
    cases hN : fa.isNone
    · rw [(h.same hN).1] at hk; exact hdf hk
    · have := (h.new hN).2.2 k hk; omega
  have hsz : w.heap.size ≤ w'.heap.size := h.kept.size
  have hsz1 : w'.heap.size ≤ w1.heap.size := hgr.size
  have hsa : ∀ k, blk sa = some k → k ≠ bd := by
    intro k hk e
    cases hN : ra.isNone
    · rw [(same hN).1] at hk; exact hra k hk e
    · have h5 : w'.heap.size ≤ k := (new hN).2.2 k hk
      omega
  have e0 : w1.heap[bd]? = some (.cells #[.string v, .int .i64 L, .slice ra rn rn] 51 (0, 0)) := (hgr.block bd (by show bd < w'.heap.size; omega) (fun e => hra bd e.symm rfl)).trans h.hD
  have hrN : ra.isNone = (fa.isNone && ga.isNone) := by
    cases hN : fa.isNone
    · rw [(h.same hN).1, hN]; rfl
    · rw [(h.new hN).2.1]; rfl
  have hN : sn = N := by
    cases hN : fa.isNone
    · simp [hN] at hrN h4
      rw [(same (by simpa using hrN)).2, (h.same hN).2, h4]
    · cases hG : ga.isNone
      · simp [hN, hG] at hrN h4
        rw [(same (by simpa using hrN)).2, (h.new hN).1, h4]
      · simp [hN, hG] at hrN h4
        rw [(new (by simpa using hrN)).1, h4]
  subst hN
  refine ⟨three_set2 e0, hown.kept fun k hk => Deep.blk_setCell_other _ _ _ _ (hsa k hk), ⟨hgr.os.trans h.kept.os, hgr.tape.trans h.kept.tape, hgr.output.trans h.kept.output, by simpa using Nat.le_trans hsz hsz1, ?_⟩, ?_, ?_, ?_⟩
  · intro k hk a1 a2
    rw [Deep.blk_setCell_other _ _ _ _ a1]
    refine (hgr.block k (by show k < w'.heap.size; omega) ?_).trans (h.kept.block k hk a1 a2)
    intro e
    cases hN : fa.isNone
    · rw [(h.same hN).1] at e; exact a2 e.symm
    · have := (h.new hN).2.2 k e.symm; omega
  · intro hN
    have hR : ra.isNone = false := by rw [hrN, hN]; rfl
    exact ⟨(same hR).1.trans (h.same hN).1, (same hR).2.trans (h.same hN).2⟩
  · cases hR : ra.isNone
    · rw [(same hR).1, hR]; rw [hrN] at hR; simp at h3; rw [h3]
    · rw [(new hR).2.1, huN]; simp at h3; rw [h3]
  · intro i hi
    rw [if_pos rfl, val i hi]
    by_cases hlt : i < rn
    · rw [pad_in hlt, h.val i hlt]
    · have hR : ra.isNone = true := by
        cases hR : ra.isNone
        · have := (same hR).2; omega
        · rfl
      rw [hrN] at hR
      simp at hR
      have a1 : fl = 0 := hfz (by simpa using hR.1)
      have a2 : gl = 0 := hgz (by simpa using hR.2)
      subst a1 a2
      rw [pad_out (by omega), pad_out (Nat.zero_le i), pad_out (Nat.zero_le i), orW_zero 0 (by omega) (by omega)]

theorem mid_ne {w w' : World} {bd bm : Nat} {v : ByteArray} {L : Int} {fa ga ua : Option Addr} {fl gl ul : Nat} {f g u : Nat → Int} {ra : Option Addr} {rn : Nat} {r : Nat → Int}
    (h : Mid w w' bd bm v L fa ga ua fl gl ul f g u ra rn r) (hdf : blk fa ≠ some bd) (hlt : bd < w.heap.size) : blk ra ≠ some bd := by
  intro hk
  cases hN : fa.isNone
  · rw [(h.same hN).1] at hk; exact hdf hk
  · have := (h.new hN).2.2 _ hk; omega

theorem second_pre {w w' : World} {bd bm : Nat} {v : ByteArray} {L : Int} {fa ga ua : Option Addr} {fl gl ul : Nat} {f g u : Nat → Int} {ra : Option Addr} {rn : Nat} {r : Nat → Int} {I : Bool} {N : Nat}
    (h : Mid w w' bd bm v L fa ga ua fl gl ul f g u ra rn r) (hms : ModelSays true fa.isNone ga.isNone true fl gl ul I N) (hu : Own w ua ul u) (hfl : fl ≤ 1048576) (hgl : gl ≤ 1048576) (hneu : ∀ k, blk fa = some k → blk ua ≠ some k) :
    rn ≤ 1048576 ∧ (ra.isNone = false → ul ≤ rn) ∧ ∀ k, blk ra = some k → blk ua ≠ some k := by
  obtain ⟨h1, h2, h3, h4⟩ := hms
  cases hN : fa.isNone
  · obtain ⟨rfl, rfl⟩ := h.same hN
    exact ⟨hfl, fun _ => by have := h2 rfl (by simp [hN]); simpa [hN] using this, hneu⟩
  · obtain ⟨rfl, hG, hk⟩ := h.new hN
    refine ⟨hgl, fun hr => ?_, fun k hk' e => ?_⟩
    · rw [hG] at hr
      have := h2 rfl (by simp [hN, hr])
      simpa [hN, hr] using this
    · have := hk k hk'; have := hu.lt e; omega
end Go.Proofs.Qxb6603269a
