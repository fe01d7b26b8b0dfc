import Derived.Test.Qxb6603269aAddWalk
namespace Go.Proofs.Qxb6603269a
open Go.ChangeShapes Go.WideShapes Go.ChangeAt Go.RowKit
set_option linter.unusedVariables false

theorem newDec (v : ByteArray) (l : Int) (a : Option Addr) (n : Nat) (w : World) :
    Calls Try.prog 16 #[.string v, .int .i64 l, .slice a n n] w fun e w' => e = .returned (.pointer (some ⟨w.heap.size, 0, none⟩)) ∧ w' = w.alloc (.cells #[.string v, .int .i64 l, .slice a n n] 51) := by
  go_enter Try.func16, Try.ntmps16
  go_wp2
  go_ret
  exact ⟨rfl, rfl⟩

theorem newMat (a b : Option Addr) (n m : Nat) (w : World) :
    Calls Try.prog 17 #[.slice a n n, .slice b m m] w fun e w' => e = .returned (.pointer (some ⟨w.heap.size, 0, none⟩)) ∧ w' = w.alloc (.cells #[.slice a n n, .slice b m m] 53) := by
  go_enter Try.func17, Try.ntmps17
  go_wp2
  go_ret
  exact ⟨rfl, rfl⟩

theorem add_nil (bd : Nat) (p : Int) (w : World) :
    Calls Try.prog 18 #[.pointer (some ⟨bd, 0, none⟩), .pointer none, .int .i64 p] w fun e w' => e = .returned (.tuple #[]) ∧ w' = w := by
  have h29 : ∀ w, Calls Try.prog 29 #[.pointer (some ⟨bd, 0, none⟩), .pointer none, .int .i64 p] w fun e w' => e = .returned (.tuple #[]) ∧ w' = w := by
    intro w
    go_enter Try.func29, Try.ntmps29
    go_wp2
    refine bodyPost_ret (results_none rfl _ _ _) rfl ?_
    exact ⟨rfl, rfl⟩
  go_enter Try.func18, Try.ntmps18
  go_wp2_with (go_at_call 29; refine (h29 _).mono ?_; rintro e w' ⟨rfl, rfl⟩)
  go_end0
  exact ⟨rfl, rfl⟩

theorem zzadd_some (bd bm : Nat) (v : ByteArray) (llf p : Int) (fa ga ua : Option Addr) (fl gl ul : Nat) (f g u : Nat → Int) (I : Bool) (N : Nat) (w : World)
    (hv : v.size ≤ 1048576) (hfl : fl ≤ 1048576) (hgl : gl ≤ 1048576) (hul : ul ≤ 1048576)
    (hD : w.heap[bd]? = some (.cells #[.string v, .int .i64 llf, .slice fa fl fl] 51 (0, 0)))
    (hM : w.heap[bm]? = some (.cells #[.slice ga gl gl, .slice ua ul ul] 53 (0, 0)))
    (hf : Own w fa fl f) (hg : Own w ga gl g) (hu : Own w ua ul u)
    (hne : ∀ k, blk fa = some k → blk ga ≠ some k) (hneu : ∀ k, blk fa = some k → blk ua ≠ some k) (hdf : blk fa ≠ some bd) (hmf : blk fa ≠ some bm) (hdu : blk ua ≠ some bd) (hdm : bd ≠ bm)
    (hms : ModelSays true fa.isNone ga.isNone (takeB v llf true ua.isNone p) fl gl ul I N) :
    Calls Try.prog 18 #[.pointer (some ⟨bd, 0, none⟩), .pointer (some ⟨bm, 0, none⟩), .int .i64 p] w fun e w' => e = .returned (.tuple #[]) ∧ ∃ ra r, Done w w' bd v (wantL v llf true ua.isNone) (takeB v llf true ua.isNone p) fa ga fl gl ul f g u I N ra r := by
  have H := add_some bd bm v llf p fa ga ua fl gl ul f g u I N w hv hfl hgl hul hD hM hf hg hu hne hneu hdf hmf hdu hdm hms
  clear hms hv hfl hgl hul hD hM hf hg hu hne hneu hdf hmf hdu hdm
  go_enter Try.func18, Try.ntmps18
  go_wp2_with (go_at_call 29; refine H.mono ?_; rintro e w' ⟨rfl, hd⟩)
  go_end0
  exact ⟨rfl, hd⟩

theorem fields_any (bd : Nat) (v : ByteArray) (l : Int) (a : Option Addr) (n : Nat) (w : World) (h : w.heap[bd]? = some (.cells #[.string v, .int .i64 l, .slice a n n] 51 (0, 0))) :
    Calls Try.prog 19 #[.pointer (some ⟨bd, 0, none⟩)] w fun e w' => e = .returned (.tuple #[.string v, .int .i64 l, .slice a n n]) ∧ ∃ q, w' = w.drewN q := by
  obtain ⟨d0, d1, d2, dz⟩ := three_cells h
  go_enter Try.func19, Try.ntmps19
  go_wp2
  go_quiet (fail)
  go_wp2
  go_ret3
  exact ⟨rfl, _, rfl⟩
end Go.Proofs.Qxb6603269a
