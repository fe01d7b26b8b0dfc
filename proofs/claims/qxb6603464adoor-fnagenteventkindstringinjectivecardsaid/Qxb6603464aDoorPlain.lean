import Derived.Lib.ItoaNum
namespace Go.Proofs.Qxb6603464aDoor

/-- the value of a decimal numeral -/
def valOf (l : List UInt8) : Nat := l.foldl (fun a c => a * 10 + (c.toNat - 48)) 0

theorem valOf_snoc (l : List UInt8) (c : UInt8) : valOf (l ++ [c]) = valOf l * 10 + (c.toNat - 48) := by simp [valOf]

theorem digit_toNat (d : Nat) (h : d < 10) : (UInt8.ofNat (48 + d)).toNat = 48 + d := by
  rw [UInt8.toNat_ofNat']; omega

theorem valOf_dec (n : Nat) : ∀ u, u < n → valOf (Lib.decDigits u) = u := by
  induction n with
  | zero => intro u h; omega
  | succ n ih =>
    intro u hu
    rw [Lib.decDigits]
    split
    · simp [valOf]; omega
    · rw [valOf_snoc, ih (u / 10) (by omega), digit_toNat (u % 10) (by omega)]
      omega

theorem dec_inj {u v : Nat} (h : Lib.decDigits u = Lib.decDigits v) : u = v := by
  rw [← valOf_dec (u + 1) u (by omega), ← valOf_dec (v + 1) v (by omega), h]

/-- a numeral begins with a digit -/
theorem dec_head (n : Nat) : ∀ u, u < n → ∃ c r, Lib.decDigits u = c :: r ∧ 48 ≤ c.toNat := by
  induction n with
  | zero => intro u h; omega
  | succ n ih =>
    intro u hu
    rw [Lib.decDigits]
    split
    · exact ⟨_, _, rfl, by rw [digit_toNat u ‹_›]; omega⟩
    · obtain ⟨c, r, e, hc⟩ := ih (u / 10) (by omega)
      exact ⟨c, r ++ [UInt8.ofNat (48 + u % 10)], by rw [e]; rfl, hc⟩

theorem neg_ne (u v : Nat) : (45 : UInt8) :: Lib.decDigits u ≠ Lib.decDigits v := by
  intro h
  obtain ⟨c, r, e, hc⟩ := dec_head (v + 1) v (by omega)
  rw [e] at h
  have h2 : (45 : UInt8) = c := by injection h
  rw [← h2] at hc
  exact absurd hc (by decide)

theorem itoa_inj {a b : Int} (h : Lib.itoa a = Lib.itoa b) : a = b := by
  unfold Lib.itoa at h
  split at h <;> split at h
  · have h2 : Lib.decDigits a.natAbs = Lib.decDigits b.natAbs := by injection h
    have := dec_inj h2
    omega
  · exact absurd h (neg_ne _ _)
  · exact absurd h.symm (neg_ne _ _)
  · have := dec_inj h
    omega

theorem nd_le : ∀ (k u : Nat), u < 10 ^ (k + 1) → Lib.nDigits u ≤ k + 1
  | 0, u, h => by rw [Lib.nDigits_small (by simpa using h)]; omega
  | k + 1, u, h => by
    by_cases hu : u < 10
    · rw [Lib.nDigits_small hu]; omega
    · rw [Lib.nDigits_big hu]
      have := nd_le k (u / 10) (by rw [Nat.pow_succ] at h; omega)
      omega

theorem itoa_len (k : Int) (h0 : -9223372036854775808 ≤ k) (h1 : k ≤ 9223372036854775807) : (Lib.itoa k).length ≤ 21 := by
  unfold Lib.itoa
  split
  · have := nd_le 19 k.natAbs (by omega)
    simp [Lib.decDigits_length]; omega
  · have := nd_le 19 k.toNat (by omega)
    simp [Lib.decDigits_length]; omega

def pre : List UInt8 := [65, 103, 101, 110, 116, 69, 118, 101, 110, 116, 75, 105, 110, 100, 40]

def names : List (List UInt8) := [[],
  [117, 110, 114, 101, 97, 99, 104, 97, 98, 108, 101], [114, 101, 97, 99, 104, 97, 98, 108, 101], [114, 101, 102, 117, 115, 101, 100], [114, 101, 109, 111, 118, 101, 100],
  [114, 101, 109, 111, 118, 97, 108, 45, 102, 97, 105, 108, 101, 100], [117, 110, 102, 105, 110, 105, 115, 104, 101, 100], [102, 105, 110, 105, 115, 104, 101, 100],
  [117, 110, 97, 118, 97, 105, 108, 97, 98, 108, 101], [97, 99, 116, 105, 118, 101], [115, 116, 97, 110, 100, 98, 121], [108, 111, 115, 116]]

/-- the name of a kind -/
def nameL (k : Int) : List UInt8 := if 1 ≤ k ∧ k ≤ 11 then names.getD k.toNat [] else pre ++ Lib.itoa k ++ [41]

theorem names_inj : ∀ i j : Fin 12, names.getD i.val [] = names.getD j.val [] → i = j := by decide
theorem names_head : ∀ i : Fin 12, (names.getD i.val []).head? ≠ some 65 := by decide

theorem nameL_inj (a b : Int) : nameL a = nameL b ↔ a = b := by
  constructor
  · intro h
    unfold nameL at h
    by_cases ha : 1 ≤ a ∧ a ≤ 11 <;> by_cases hb : 1 ≤ b ∧ b ≤ 11
    · rw [if_pos ha, if_pos hb] at h
      have := names_inj ⟨a.toNat, by omega⟩ ⟨b.toNat, by omega⟩ h
      have := congrArg Fin.val this
      simp at this
      omega
    · rw [if_pos ha, if_neg hb] at h
      exact absurd (by rw [h]; rfl) (names_head ⟨a.toNat, by omega⟩)
    · rw [if_neg ha, if_pos hb] at h
      exact absurd (by rw [← h]; rfl) (names_head ⟨b.toNat, by omega⟩)
    · rw [if_neg ha, if_neg hb] at h
      have h2 := List.append_cancel_right h
      exact itoa_inj (List.append_cancel_left h2)
  · rintro rfl; rfl
end Go.Proofs.Qxb6603464aDoor
