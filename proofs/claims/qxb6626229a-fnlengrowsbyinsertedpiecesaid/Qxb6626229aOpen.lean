/-
  A '[][]byte' that came in, opened for the walks.
-/
import Derived.Test.Qxb6626229aJoined
import Derived.ProofKit
import Derived.Deep.Matrix
namespace Go.Proofs.Qxb6626229a
open Go.RowKit Go.ChangeShapes Go.WideShapes Go.Deep

/-- Of a '[][]byte' that came in: it has no element; or its cells are known. -/
def IsRows (w : World) (ao : Option Addr) (n cap : Nat) : Prop :=
  n = 0 ∨ ∃ (b off : Nat) (A : Nat → Option Addr) (L C : Nat → Nat), ao = some ⟨b, off, none⟩ ∧ 0 < n ∧ n ≤ cap ∧ cap ≤ 9223372036854775807 ∧ b < w.heap.size ∧ (∀ i, i < n → L i ≤ 9223372036854775807) ∧
    (∀ i, i < n → w.cell? ⟨b, off + i, none⟩ = some (.slice (A i) (L i) (C i))) ∧ BytesAt w n A L

theorem add_none (b off j : Nat) : (⟨b, off, none⟩ : Addr).add j = ⟨b, off + j, none⟩ := by
  unfold Addr.add
  by_cases h : j = 0 <;> simp [h]

theorem plain_of {w : World} {a : Addr} {v : Value} (h : w.cell? (a.add 0) = some v) : ∃ b off, a = ⟨b, off, none⟩ := by
  obtain ⟨b, off, spot⟩ := a
  refine ⟨b, off, ?_⟩
  have : spot = none := by simpa [Addr.add] using World.cell?_spot h
  rw [this]

theorem rows_of {H : Type} {enc : TypeId × Value → H} {w : World} {base fuel : Nat} {held : Bool} {ao : Option Addr} {n cap : Nat} {x : DataW H × List MemPlace}
    (h : DataW.trod enc Try.prog w base (fun _ => true) held fuel 22 [.slice ao n cap] = some x) : IsRows w ao n cap := by
  rcases open_int_rows Try.underlying22 Try.underlying24 Try.underlying5 (by kernel_rfl) (by kernel_rfl) h with ⟨hcs, _⟩ | ⟨a, len, c, A, L, C, Z, hcs, _, hl, hm, _, hr⟩
  · simp at hcs
    exact Or.inl hcs.2.1
  · simp at hcs
    obtain ⟨rfl, rfl, rfl⟩ := hcs
    unfold maxLen at hm
    by_cases hn : n = 0
    · exact Or.inl hn
    · obtain ⟨b, off, rfl⟩ := plain_of (hr 0 (by omega)).1
      have hlt := World.block_lt_of_cell? _ _ (hr 0 (by omega)).1
      rw [add_none] at hlt
      refine Or.inr ⟨b, off, A, L, C, rfl, by omega, hl, hm, hlt, fun i hi => ?_, fun i hi => ?_, fun i hi hL => ?_⟩
      · obtain ⟨_, h1, h2, _⟩ := hr i (by omega)
        unfold maxLen at h2
        omega
      · have := (hr i (by omega)).1
        rwa [add_none] at this
      · obtain ⟨_, h1, _, _, _, h5, h6⟩ := hr i (by omega)
        cases hA : A i with
        | none => have := h5 hA; omega
        | some a' =>
          obtain ⟨pb, po, rfl⟩ := plain_of ((h6 a' hA).2 0 (by omega))
          have hlt := World.block_lt_of_cell? _ _ ((h6 _ hA).2 0 (by omega))
          rw [add_none] at hlt
          exact ⟨pb, po, rfl, hlt, fun j hj => ⟨_, by have := (h6 _ hA).2 j (by omega); rwa [add_none] at this⟩⟩
end Go.Proofs.Qxb6626229a
