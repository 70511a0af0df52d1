/-
  Sums of lengths: plain mathematics, no Go in sight.
-/
namespace Go.Proofs.Qxb6626229a

/-- The sum of the first n lengths. -/
def S (L : Nat → Nat) : Nat → Nat
  | 0 => 0
  | n + 1 => S L n + L n

theorem S_zero (L : Nat → Nat) : S L 0 = 0 := rfl
theorem S_succ (L : Nat → Nat) (n : Nat) : S L (n + 1) = S L n + L n := rfl

theorem S_le (L : Nat → Nat) {i n : Nat} (h : i ≤ n) : S L i ≤ S L n := by
  induction n with
  | zero => have : i = 0 := by omega
            subst this; exact Nat.le_refl _
  | succ n ih =>
    by_cases e : i = n + 1
    · subst e; exact Nat.le_refl _
    · have := ih (by omega)
      rw [S_succ]; omega

theorem S_step (L : Nat → Nat) {i n : Nat} (h : i < n) : S L i + L i ≤ S L n := by
  have := S_le L (show i + 1 ≤ n from h)
  rwa [S_succ] at this

theorem S_add (L : Nat → Nat) (k m : Nat) : S L (k + m) = S L k + S (fun i => L (k + i)) m := by
  induction m with
  | zero => rfl
  | succ m ih => rw [← Nat.add_assoc, S_succ, S_succ, ih]; omega

theorem S_cut (L : Nat → Nat) {k n : Nat} (h : k ≤ n) : S L k + S (fun i => L (k + i)) (n - k) = S L n := by
  have := S_add L k (n - k)
  rw [show k + (n - k) = n by omega] at this
  omega

theorem S_congr {L M : Nat → Nat} {n : Nat} (h : ∀ i, i < n → L i = M i) : S L n = S M n := by
  induction n with
  | zero => rfl
  | succ n ih => rw [S_succ, S_succ, ih (fun i hi => h i (by omega)), h n (by omega)]

/-- A list of m further lengths put in at place i. -/
theorem S_ins (L M : Nat → Nat) (i n m p : Nat) (hi : i ≤ n) (h1 : ∀ j, j < i → M j = L j) (h2 : S (fun j => M (i + j)) m = p) (h3 : ∀ j, i ≤ j → j < n → M (j + m) = L j) :
    S M (n + m) = S L n + p := by
  have e1 := S_cut M (show i ≤ n + m by omega)
  have e2 := S_cut (fun j => M (i + j)) (show m ≤ n + m - i by omega)
  have e3 := S_cut L hi
  have e4 : S (fun j => M (i + (m + j))) (n + m - i - m) = S (fun j => L (i + j)) (n - i) := by
    rw [show n + m - i - m = n - i by omega]
    refine S_congr fun j hj => ?_
    have := h3 (i + j) (by omega) (by omega)
    rw [← this, show i + (m + j) = i + j + m by omega]
  have e5 := S_congr (L := M) (M := L) (n := i) h1
  rw [h2, e4] at e2
  omega
end Go.Proofs.Qxb6626229a
