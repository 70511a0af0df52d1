/-
  The first place at which a test says yes; sums of lengths: plain mathematics, no Go in sight.
-/
namespace Go.Proofs.Qxb6626291a

/-- The sum of the first n lengths. -/
def S (L : Nat → Nat) : Nat → Nat
  | 0 => 0
  | n + 1 => S L n + L n

theorem S_succ (L : Nat → Nat) (n : Nat) : S L (n + 1) = S L n + L n := rfl

theorem S_le (L : Nat → Nat) {i n : Nat} (h : i ≤ n) : S L i ≤ S L n := by
  induction n with
  | zero => have : i = 0 := by omega
            subst this; exact Nat.le_refl _
  | succ n ih =>
    by_cases e : i = n + 1
    · subst e; exact Nat.le_refl _
    · have := ih (by omega)
      rw [S_succ]; omega

theorem S_step (L : Nat → Nat) {i n : Nat} (h : i < n) : S L i + L i ≤ S L n := by
  have := S_le L (show i + 1 ≤ n from h)
  rwa [S_succ] at this

/-- r is the first of the places 0 .. n - 1 at which the test says yes; none if it says so nowhere. -/
def First (hit : Nat → Bool) (n : Nat) : Option Nat → Prop
  | none => ∀ i, i < n → hit i = false
  | some i => i < n ∧ hit i = true ∧ ∀ j, j < i → hit j = false

/-- The place as the Go text tells it. -/
def idx : Option Nat → Int
  | none => -1
  | some i => i

theorem first_unique {hit : Nat → Bool} {n : Nat} {r s : Option Nat} (h : First hit n r) (k : First hit n s) : r = s := by
  cases r with
  | none =>
    cases s with
    | none => rfl
    | some i => obtain ⟨h1, h2, _⟩ := k; have := h i h1; rw [this] at h2; cases h2
  | some i =>
    obtain ⟨h1, h2, h3⟩ := h
    cases s with
    | none => have := k i h1; rw [this] at h2; cases h2
    | some j =>
      obtain ⟨k1, k2, k3⟩ := k
      rcases Nat.lt_trichotomy i j with l | l | l
      · have := k3 i l; rw [this] at h2; cases h2
      · rw [l]
      · have := h3 j l; rw [this] at k2; cases k2

/-- A cut at k: the front part's first place is the whole's; else the back part's is, moved by k. -/
theorem first_cut {hit : Nat → Bool} {n k : Nat} {r ra rb : Option Nat} (hk : k ≤ n) (h : First hit n r) (ha : First hit k ra) (hb : First (fun i => hit (k + i)) (n - k) rb) :
    (∃ i, r = some i ∧ ra = some i) ∨ (∃ i, ra = none ∧ rb = some i ∧ r = some (k + i)) ∨ (r = none ∧ ra = none ∧ rb = none) := by
  cases ra with
  | some i =>
    left
    obtain ⟨h1, h2, h3⟩ := ha
    exact ⟨i, first_unique h (s := some i) ⟨by omega, h2, h3⟩, rfl⟩
  | none =>
    right
    cases rb with
    | some i =>
      left
      obtain ⟨h1, h2, h3⟩ := hb
      refine ⟨i, rfl, rfl, first_unique h (s := some (k + i)) ⟨by omega, h2, fun j hj => ?_⟩⟩
      by_cases e : j < k
      · exact ha j e
      · have := h3 (j - k) (by omega)
        simp only at this
        rwa [show k + (j - k) = j by omega] at this
    | none =>
      right
      refine ⟨first_unique h (s := none) (fun j hj => ?_), rfl, rfl⟩
      by_cases e : j < k
      · exact ha j e
      · have := hb (j - k) (by omega)
        simp only at this
        rwa [show k + (j - k) = j by omega] at this
end Go.Proofs.Qxb6626291a
