import Derived.Test.Qxb6603799aClone
import Derived.Laws.Externs
namespace Go.Proofs.Qxb6603799a
open Go.ChangeShapes Go.WideShapes Go.ChangeAt Go.RowKit
set_option linter.unusedVariables false

/-- the bytes that the model's own compare reads: n cells -/
def bsOf (f : Nat → Int) : Nat → ByteArray → ByteArray
  | 0, acc => acc
  | n + 1, acc => bsOf (fun i => f (i + 1)) n (acc.push (f 0).toNat.toUInt8)

theorem run_loadBytes {P : Program} (w : World) (b : Nat) : ∀ (n off : Nat) (f : Nat → Int) (acc : ByteArray), (∀ i, i < n → w.cell? ⟨b, off + i, none⟩ = some (.int .u8 (f i))) →
    (Extern.Bytes.loadBytes ⟨b, off, none⟩ n acc).run P w = .ok (bsOf f n acc) w
  | 0, off, f, acc, h => rfl
  | n + 1, off, f, acc, h => by
    have h0 : w.cell? ⟨b, off, none⟩ = some (.int .u8 (f 0)) := by simpa using h 0 (by omega)
    have ih := run_loadBytes (P := P) w b n (off + 1) (fun i => f (i + 1)) (acc.push (f 0).toNat.toUInt8) (fun i hi => by have := h (i + 1) (by omega); rw [show off + 1 + i = off + (i + 1) by omega]; exact this)
    have ha : (⟨b, off, none⟩ : Addr).add 1 = ⟨b, off + 1, none⟩ := by rw [add_plain]
    simp only [Extern.Bytes.loadBytes, bsOf]
    simp [h0, ha, ih]

/-- A slice of bytes of the call's own: nil, or a whole block. -/
def Own (w : World) (a : Option Addr) (n : Nat) (f : Nat → Int) : Prop := (a = none ∧ n = 0) ∨ ∃ b, a = some ⟨b, 0, none⟩ ∧ w.rowIs b 5 n (fun i => .int .u8 (f i))

theorem Own.below {w w' : World} {a : Option Addr} {n : Nat} {f : Nat → Int} (h : Own w a n f) (hb : Below w.heap.size w w') : Own w' a n f := by
  rcases h with h | ⟨b, rfl, hr⟩
  · exact .inl h
  · exact .inr ⟨b, rfl, hr.of_block (hb.block b hr.lt)⟩

theorem Own.run {w : World} {a : Option Addr} {n : Nat} {f : Nat → Int} (h : Own w a n f) : (Extern.Bytes.bytesOf (.slice a n n)).run Try.prog w = .ok (bsOf f n ByteArray.empty) w := by
  rcases h with ⟨rfl, rfl⟩ | ⟨b, rfl, hr⟩
  · rfl
  · show (Extern.Bytes.loadBytes ⟨b, 0, none⟩ n .empty).run Try.prog w = _
    exact run_loadBytes w b n 0 f _ (fun i hi => by simpa using hr.cell hi)

theorem compare_any (a b : Option Addr) (n m : Nat) (f g : Nat → Int) (w : World) (ha : Own w a n f) (hb : Own w b m g) :
    Calls Try.prog 29 #[.slice a n n, .slice b m m] w fun e w' => e = .returned (.int .i64 (Extern.BytealgCompare.cmp (bsOf f n ByteArray.empty) (bsOf g m ByteArray.empty))) ∧ w' = w := by
  have ra := ha.run
  have rb := hb.run
  have hc : (Extern.BytealgCompare.compare #[.slice a n n, .slice b m m]).run Try.prog w = .ok (.int .i64 (Extern.BytealgCompare.cmp (bsOf f n ByteArray.empty) (bsOf g m ByteArray.empty))) w := by
    change Sem.run Try.prog (do pure (goInt (Extern.BytealgCompare.cmp (← Extern.Bytes.bytesOf (.slice a n n)) (← Extern.Bytes.bytesOf (.slice b m m))))) w = _
    simp [ra, rb, goInt]
  go_enter Try.func29, Try.ntmps29
  go_wp2
  rw [run_callFunc_extern Try.func30 (by kernel_rfl) (by kernel_rfl) (by kernel_rfl) (e := Extern.BytealgCompare.compare) (by kernel_rfl), hc]
  simp only [Result.andThen]
  rw [Oper.upon_value]
  go_wp2
  go_ret
  exact ⟨rfl, rfl⟩
end Go.Proofs.Qxb6603799a
