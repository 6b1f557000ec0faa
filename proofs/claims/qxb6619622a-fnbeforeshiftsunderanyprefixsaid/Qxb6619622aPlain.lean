/-
  The plain law of 'before': digits, separators, the forward automaton of a stretch, and how a step back goes through it. No Go in sight.
-/
import Derived.Laws.Entries
namespace Go.Proofs.Qxb6619622a

def dg (c : Int) : Bool := decide (48 ≤ c) && decide (c ≤ 57)
def sp (c : Int) : Bool := (c == 32) || (c == 45)

/-- Is the byte at j a digit? (Past the end: no.) -/
def D (s : ByteArray) (j : Nat) : Bool := if h : j < s.size then dg (s[j].toNat : Int) else false
/-- Is the byte at j a separator? (Past the end: no.) -/
def S (s : ByteArray) (j : Nat) : Bool := if h : j < s.size then sp (s[j].toNat : Int) else false
theorem D_at {s : ByteArray} {j : Nat} (h : j < s.size) : D s j = dg (s[j].toNat : Int) := by unfold D; rw [dif_pos h]
theorem S_at {s : ByteArray} {j : Nat} (h : j < s.size) : S s j = sp (s[j].toNat : Int) := by unfold S; rw [dif_pos h]

/-- The place of the digit before the one at k in its stretch, or -1. -/
def bf (s : ByteArray) (k : Nat) : Int :=
  if 1 ≤ k ∧ D s (k - 1) = true then (k : Int) - 1 else if 2 ≤ k ∧ S s (k - 1) = true ∧ D s (k - 2) = true then (k : Int) - 2 else -1

/-- The automaton's state ahead of byte j: 0 outside a stretch, 1 just behind a digit, 2 behind a digit and one separator. -/
def Q (s : ByteArray) : Nat → Int
  | 0 => 0
  | j + 1 => if D s j = true then 1 else if S s j = true ∧ Q s j = 1 then 2 else 0
/-- Where the latest stretch began, ahead of byte j. -/
def B (s : ByteArray) : Nat → Int
  | 0 => -1
  | j + 1 => if D s j = true ∧ Q s j = 0 then (j : Int) else B s j

theorem Q_digit {s : ByteArray} {j : Nat} (h : D s j = true) : Q s (j + 1) = 1 := by unfold Q; rw [if_pos h]
theorem Q_sep {s : ByteArray} {j : Nat} (h : D s j = false) (h1 : S s j = true) (h2 : Q s j = 1) : Q s (j + 1) = 2 := by
  unfold Q; rw [if_neg (by simp [h]), if_pos ⟨h1, h2⟩]
theorem Q_none {s : ByteArray} {j : Nat} (h : D s j = false) (h1 : S s j = false ∨ Q s j ≠ 1) : Q s (j + 1) = 0 := by
  unfold Q; rw [if_neg (by simp [h]), if_neg]; rintro ⟨a, b⟩; rcases h1 with h1 | h1
  · simp [a] at h1
  · exact h1 b
theorem B_new {s : ByteArray} {j : Nat} (h : D s j = true) (h1 : Q s j = 0) : B s (j + 1) = (j : Int) := by
  show (if D s j = true ∧ Q s j = 0 then (j : Int) else B s j) = _
  rw [if_pos ⟨h, h1⟩]
theorem B_keep {s : ByteArray} {j : Nat} (h1 : Q s j ≠ 0) : B s (j + 1) = B s j := by
  show (if D s j = true ∧ Q s j = 0 then (j : Int) else B s j) = _
  rw [if_neg (fun h => h1 h.2)]
theorem B_skip {s : ByteArray} {j : Nat} (h : D s j = false) : B s (j + 1) = B s j := by
  show (if D s j = true ∧ Q s j = 0 then (j : Int) else B s j) = _
  rw [if_neg (by simp [h])]

theorem Q_three (s : ByteArray) (j : Nat) : Q s j = 0 ∨ Q s j = 1 ∨ Q s j = 2 := by
  cases j with
  | zero => exact Or.inl rfl
  | succ j =>
    unfold Q
    split
    · exact Or.inr (Or.inl rfl)
    · split
      · exact Or.inr (Or.inr rfl)
      · exact Or.inl rfl
/-- State 1: just behind a digit. -/
theorem Q_one {s : ByteArray} {j : Nat} (h : Q s j = 1) : 1 ≤ j ∧ D s (j - 1) = true := by
  cases j with
  | zero => simp [Q] at h
  | succ j =>
    refine ⟨by omega, ?_⟩
    simp only [Nat.add_sub_cancel]
    unfold Q at h
    split at h
    · assumption
    · split at h <;> omega
/-- State 2: behind a digit and one separator. -/
theorem Q_two {s : ByteArray} {j : Nat} (h : Q s j = 2) : 2 ≤ j ∧ D s (j - 1) = false ∧ S s (j - 1) = true ∧ D s (j - 2) = true := by
  cases j with
  | zero => simp [Q] at h
  | succ j =>
    unfold Q at h
    split at h
    · omega
    · next hd =>
      split at h
      · next hs =>
        obtain ⟨a, b⟩ := Q_one hs.2
        refine ⟨by omega, ?_, ?_, ?_⟩
        · simpa using hd
        · simpa using hs.1
        · rw [show j + 1 - 2 = j - 1 from by omega]; exact b
      · omega
/-- State 0: neither. -/
theorem Q_zero {s : ByteArray} {j : Nat} (h : Q s j = 0) : ¬ (1 ≤ j ∧ D s (j - 1) = true) ∧ ¬ (2 ≤ j ∧ S s (j - 1) = true ∧ D s (j - 2) = true) := by
  cases j with
  | zero => exact ⟨by omega, by omega⟩
  | succ j =>
    unfold Q at h
    split at h
    · omega
    · next hd =>
      split at h
      · omega
      · next hs =>
        refine ⟨fun x => hd (by simpa using x.2), fun x => hs ⟨by simpa using x.2.1, ?_⟩⟩
        obtain ⟨m, rfl⟩ : ∃ m, j = m + 1 := ⟨j - 1, by omega⟩
        exact Q_digit (by simpa using x.2.2)

theorem B_lt (s : ByteArray) : ∀ j : Nat, B s j < (j : Int)
  | 0 => by simp [B]
  | j + 1 => by
    have ih := B_lt s j
    show (if D s j = true ∧ Q s j = 0 then (j : Int) else B s j) < _
    split <;> omega
theorem B_nonneg (s : ByteArray) : ∀ j : Nat, Q s j ≠ 0 → 0 ≤ B s j
  | 0 => fun h => absurd rfl h
  | j + 1 => fun h => by
    have ih := B_nonneg s j
    show 0 ≤ (if D s j = true ∧ Q s j = 0 then (j : Int) else B s j)
    split
    · omega
    · next hn =>
      refine ih fun hq => h ?_
      have hd : D s j = false := by
        cases e : D s j
        · rfl
        · exact absurd ⟨e, hq⟩ hn
      exact Q_none hd (Or.inr (by omega))

/-! ### One step back from a digit at c, by the state ahead of it -/
theorem back_zero {s : ByteArray} {c : Nat} (hd : D s c = true) (h : Q s c = 0) : bf s c = -1 ∧ B s (c + 1) = (c : Int) := by
  obtain ⟨a, b⟩ := Q_zero h
  exact ⟨by unfold bf; rw [if_neg a, if_neg b], B_new hd h⟩
theorem back_one {s : ByteArray} {c : Nat} (h : Q s c = 1) : bf s c = (c : Int) - 1 ∧ 1 ≤ c ∧ D s (c - 1) = true ∧ B s (c + 1) = B s (c - 1 + 1) := by
  obtain ⟨a, b⟩ := Q_one h
  refine ⟨by unfold bf; rw [if_pos ⟨a, b⟩], a, b, ?_⟩
  rw [B_keep (by omega), show c - 1 + 1 = c from by omega]
theorem back_two {s : ByteArray} {c : Nat} (h : Q s c = 2) :
    bf s c = (c : Int) - 2 ∧ 2 ≤ c ∧ D s (c - 1) = false ∧ D s (c - 2) = true ∧ B s (c + 1) = B s (c - 2 + 1) := by
  obtain ⟨a, b, d, e⟩ := Q_two h
  refine ⟨by unfold bf; rw [if_neg (by simp [b]), if_pos ⟨a, d, e⟩], a, b, e, ?_⟩
  rw [B_keep (by omega)]
  have x : B s (c - 1 + 1) = B s (c - 1) := B_skip b
  rw [show c - 1 + 1 = c from by omega] at x
  rw [x, show c - 2 + 1 = c - 1 from by omega]

end Go.Proofs.Qxb6619622a
