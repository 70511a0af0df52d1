/-
  A '[]string' that came in, opened for the walks.
-/
import Derived.Test.Qxb6626291aZz
import Derived.ProofKit
import Derived.Deep.Strs
namespace Go.Proofs.Qxb6626291a
open Go.RowKit Go.ChangeShapes Go.WideShapes Go.Deep

theorem add_none (b off j : Nat) : (⟨b, off, none⟩ : Addr).add j = ⟨b, off + j, none⟩ := by
  unfold Addr.add
  by_cases h : j = 0 <;> simp [h]

theorem plain_of {w : World} {a : Addr} {v : Value} (h : w.cell? (a.add 0) = some v) : ∃ b off, a = ⟨b, off, none⟩ := by
  obtain ⟨b, off, spot⟩ := a
  refine ⟨b, off, ?_⟩
  have : spot = none := by simpa [Addr.add] using World.cell?_spot h
  rw [this]

theorem strs_of {H : Type} {enc : TypeId × Value → H} {w : World} {base fuel : Nat} {held : Bool} {ao : Option Addr} {n cap : Nat} {x : DataW H × List MemPlace}
    (h : DataW.trod enc Try.prog w base (fun _ => true) held fuel 22 [.slice ao n cap] = some x) :
    ∃ Sx, StrsAt w ao n Sx ∧ n ≤ cap ∧ cap ≤ 9223372036854775807 ∧ ∀ i, i < n → Lx Sx i ≤ 9223372036854775807 := by
  rcases open_strs Try.underlying22 Try.underlying9 (by kernel_rfl) h with ⟨hcs, _⟩ | ⟨a, len, c, m, Sx, hcs, _, hl, hm, hmm, _, hr⟩
  · simp at hcs
    obtain ⟨rfl, rfl, rfl⟩ := hcs
    exact ⟨fun _ => ByteArray.empty, fun i hi => by omega, by omega, by omega, fun i hi => by omega⟩
  · simp at hcs
    obtain ⟨rfl, rfl, rfl⟩ := hcs
    simp only [if_true] at hmm
    subst hmm
    unfold maxLen at hm
    refine ⟨Sx, fun i hi => ?_, hl, hm, fun i hi => ?_⟩
    · obtain ⟨b, off, rfl⟩ := plain_of (hr 0 (by omega)).1
      have := (hr i (by omega)).1
      rw [add_none] at this
      exact ⟨b, off, rfl, this⟩
    · have := (hr i (by omega)).2
      unfold maxLen at this
      exact this
end Go.Proofs.Qxb6626291a
