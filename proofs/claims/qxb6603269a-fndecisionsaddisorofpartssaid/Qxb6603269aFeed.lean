import Derived.Test.Qxb6603269aClone
namespace Go.Proofs.Qxb6603269a
open Go.ChangeShapes Go.WideShapes Go.ChangeAt Go.RowKit
set_option linter.unusedVariables false

/-- where the last line feed stands among the first k bytes; -1 for none -/
def lastTo (v : ByteArray) : Nat → Int
  | 0 => -1
  | k + 1 => if h : k < v.size then (if ((v[k]'h).toNat : Int) = 10 then (k : Int) else lastTo v k) else lastTo v k

theorem lastTo_hit (v : ByteArray) (k : Nat) (h : k < v.size) (e : (((v[k]'h).toNat : Int) == 10) = true) : lastTo v (k + 1) = k := by
  rw [lastTo, dif_pos h, if_pos (by simpa using e)]
theorem lastTo_miss (v : ByteArray) (k : Nat) (h : k < v.size) (e : (((v[k]'h).toNat : Int) == 10) = false) : lastTo v (k + 1) = lastTo v k := by
  rw [lastTo, dif_pos h, if_neg (by simpa using e)]
theorem lastTo_bd (v : ByteArray) (k : Nat) : -1 ≤ lastTo v k ∧ lastTo v k < (k : Int) + 1 := by
  induction k with
  | zero => simp [lastTo]
  | succ k ih =>
    rw [lastTo]
    split
    · split <;> omega
    · omega

theorem ret_int {k : IntKind} {a b : Int} (h : a = b) : Ending.returned (.int k a) = .returned (.int k b) := by rw [h]

set_option maxHeartbeats 800000 in
theorem feed_any (v : ByteArray) (w : World) (hs : v.size ≤ 1048576) :
    Calls Try.prog 28 #[.string v] w fun e w' => e = .returned (.int .i64 (lastTo v v.size)) ∧ w' = w := by
  go_enter Try.func28, Try.ntmps28
  go_wp2
  go_loop [3, 4] (fun n i => ∃ k : Nat, k ≤ v.size ∧ i = .int .i64 k ∧ n = .int .i64 (lastTo v k)) (fun _ i => v.size - (intOf i).toNat)
  case atStart => exact ⟨0, Nat.zero_le _, rfl, rfl⟩
  case round =>
    obtain ⟨k, hk, rfl, rfl⟩ := hrel
    by_cases hlt : k < v.size
    · go_wp2
      · go_round
        case rel => exact ⟨k + 1, by omega, by go_num, by rw [lastTo_hit v k hlt (by assumption)]⟩
        case measure => simp [intOf]; omega
      · go_round
        case rel => exact ⟨k + 1, by omega, by go_num, by rw [lastTo_miss v k hlt (by assumption)]⟩
        case measure => simp [intOf]; omega
    · go_wp2
      go_ret
      obtain rfl : k = v.size := by omega
      exact ⟨rfl, rfl⟩

set_option maxHeartbeats 800000 in
theorem lastIdx_any (v : ByteArray) (w : World) (hs : v.size ≤ 1048576) :
    Calls Try.prog 32 #[.string v, .int .u8 10] w fun e w' => e = .returned (.int .i64 (lastTo v v.size)) ∧ w' = w := by
  go_enter Try.func32, Try.ntmps32
  go_wp2
  go_loop [5] (fun i => ∃ k : Nat, k ≤ v.size ∧ i = .int .i64 ((k : Int) - 1) ∧ Hid (lastTo v v.size = lastTo v k)) (fun i => (intOf i + 1).toNat)
  case atStart => exact ⟨v.size, Nat.le_refl _, rfl, rfl⟩
  case round =>
    obtain ⟨k, hk, rfl, H⟩ := hrel
    cases k with
    | zero =>
      go_wp2
      go_ret
      exact ⟨ret_int (by rw [H.out]; rfl), rfl⟩
    | succ k =>
      have e0 : ((k + 1 : Nat) : Int) - 1 = (k : Int) := by omega
      rw [e0]
      have hlt : k < v.size := by omega
      go_wp2
      · go_ret
        exact ⟨ret_int (by rw [H.out, lastTo_hit v k hlt (by assumption)]), rfl⟩
      · go_round
        case rel => exact ⟨k, by omega, by go_num, by rw [H.out, lastTo_miss v k hlt (by assumption)]; rfl⟩
        case measure => simp [intOf]

set_option maxHeartbeats 800000 in
theorem lastByte_any (v : ByteArray) (w : World) (hs : v.size ≤ 1048576) :
    Calls Try.prog 31 #[.string v, .int .u8 10] w fun e w' => e = .returned (.int .i64 (lastTo v v.size)) ∧ w' = w := by
  go_enter Try.func31, Try.ntmps31
  go_wp2_with (go_at_call 32; refine (lastIdx_any _ _ (by omega)).mono ?_; rintro e w' ⟨rfl, rfl⟩)
  go_ret
  exact ⟨rfl, rfl⟩
end Go.Proofs.Qxb6603269a
