/-
  (Value).Len, function 6, and the two bounds that the laws lay first, functions 5 and 7, by their contracts.
-/
import Derived.Test.Qxb6626229aRows
import Derived.Test.Qxb6626229aPlain
import Derived.WalkKit
namespace Go.Proofs.Qxb6626229a
open Go.RowKit

/-- The n cells behind 'ao' hold slices: the i-th of L i elements. -/
def RowsAt (w : World) (ao : Option Addr) (n : Nat) (A : Nat → Option Addr) (L C : Nat → Nat) : Prop :=
  ∀ i, i < n → ∃ b off, ao = some ⟨b, off, none⟩ ∧ w.cell? ⟨b, off + i, none⟩ = some (.slice (A i) (L i) (C i))

theorem RowsAt.open {w : World} {ao : Option Addr} {n : Nat} {A : Nat → Option Addr} {L C : Nat → Nat} (h : RowsAt w ao n A L C) (hn : 0 < n) :
    ∃ b off, ao = some ⟨b, off, none⟩ ∧ ∀ i, i < n → w.cell? ⟨b, off + i, none⟩ = some (.slice (A i) (L i) (C i)) := by
  obtain ⟨b, off, e, _⟩ := h 0 hn
  refine ⟨b, off, e, fun i hi => ?_⟩
  obtain ⟨b', off', e', hc⟩ := h i hi
  rw [e] at e'
  simp only [Option.some.injEq, Addr.mk.injEq] at e'
  obtain ⟨rfl, rfl, _⟩ := e'
  exact hc

theorem len_any (ao : Option Addr) (n cap : Nat) (A : Nat → Option Addr) (L C : Nat → Nat) (w : World) (h : RowsAt w ao n A L C) (hn : n ≤ 4194304) (hs : S L n ≤ 4194304) :
    Calls Try.prog 6 #[.slice ao n cap] w fun e w' => e = .returned (.int .i64 (S L n : Nat)) ∧ w' = w := by
  by_cases h0 : n = 0
  · subst h0
    go_enter Try.func6, Try.ntmps6
    go_wp2
    go_loop [3, 8] (fun t i => i = .int .i64 0 ∧ t = .int .i64 0) (fun _ _ => 0)
    case atStart => exact ⟨rfl, rfl⟩
    case round =>
      obtain ⟨rfl, rfl⟩ := hrel
      go_wp2
      go_ret
      exact ⟨rfl, rfl⟩
  · obtain ⟨b, off, rfl, hc⟩ := h.open (by omega)
    clear h
    go_enter Try.func6, Try.ntmps6
    go_wp2
    go_loop [3, 8] (fun t i => ∃ k : Nat, k ≤ n ∧ i = .int .i64 k ∧ t = .int .i64 (S L k : Nat)) (fun _ i => n - (intOf i).toNat)
    case atStart => exact ⟨0, Nat.zero_le _, rfl, rfl⟩
    case round =>
      obtain ⟨k, hk, rfl, rfl⟩ := hrel
      by_cases hlt : k < n
      · have hck := hc k hlt
        have hb := S_step L hlt
        go_wp2
        go_round
        case rel => exact ⟨k + 1, by omega, by go_num, by rw [S_succ]; go_num⟩
        case measure => simp [intOf]; omega
      · go_wp2
        go_ret
        have e : k = n := by omega
        subst e
        exact ⟨rfl, rfl⟩

/-- The bound's answer: a bool, which says true only if the lengths sum to at most 2^20. -/
def Zz (e : Ending) (m : Nat) : Prop := ∃ t : Bool, e = .returned (.bool t) ∧ (t = true → m ≤ 1048576)
theorem Zz.no {m : Nat} : Zz (.returned (.bool false)) m := ⟨false, rfl, by simp⟩
theorem Zz.yes {m : Nat} (h : m ≤ 1048576) : Zz (.returned (.bool true)) m := ⟨true, rfl, fun _ => h⟩

theorem zz5 (ao : Option Addr) (n cap : Nat) (A : Nat → Option Addr) (L C : Nat → Nat) (x : Int) (w : World) (h : RowsAt w ao n A L C) (hn : n ≤ 9223372036854775807) (hl : ∀ i, i < n → L i ≤ 9223372036854775807) :
    Calls Try.prog 5 #[.slice ao n cap, .int .i64 x] w fun e w' => Zz e (n + S L n) ∧ w' = w := by
  by_cases h1 : (n : Int) ≤ 1048576
  · by_cases h0 : n = 0
    · subst h0
      go_enter Try.func5, Try.ntmps5
      go_wp2
      go_loop [5, 6] (fun t i => i = .int .i64 0 ∧ t = .int .i64 0) (fun _ _ => 0)
      case atStart => exact ⟨rfl, rfl⟩
      case round =>
        obtain ⟨rfl, rfl⟩ := hrel
        go_wp2
        go_ret
        exact ⟨Zz.yes (by simp [S]), rfl⟩
    · obtain ⟨b, off, rfl, hc⟩ := h.open (by omega)
      clear h
      go_enter Try.func5, Try.ntmps5
      go_wp2
      go_loop [5, 6] (fun t i => ∃ k : Nat, k ≤ n ∧ i = .int .i64 k ∧ t = .int .i64 (n + S L k : Nat) ∧ n + S L k ≤ 1048576) (fun _ i => n - (intOf i).toNat)
      case atStart => exact ⟨0, Nat.zero_le _, rfl, by simp [S], by simp [S]; omega⟩
      case round =>
        obtain ⟨k, hk, rfl, rfl, hs⟩ := hrel
        by_cases hlt : k < n
        · have hck := hc k hlt
          have hlk := hl k hlt
          by_cases g1 : (L k : Int) ≤ 1048576
          · by_cases g2 : n + S L k + L k ≤ 1048576
            · go_wp2
              go_round
              case rel => exact ⟨k + 1, by omega, by go_num, by rw [S_succ]; go_num, by rw [S_succ]; omega⟩
              case measure => simp [intOf]; omega
            · go_wp2
              go_ret
              exact ⟨Zz.no, rfl⟩
          · go_wp2
            go_ret
            exact ⟨Zz.no, rfl⟩
        · go_wp2
          go_ret
          have e : k = n := by omega
          subst e
          exact ⟨Zz.yes hs, rfl⟩
  · go_enter Try.func5, Try.ntmps5
    go_wp2
    go_ret
    exact ⟨Zz.no, rfl⟩

theorem zz7 (ao po : Option Addr) (n cap lp cp : Nat) (A : Nat → Option Addr) (L C : Nat → Nat) (x y : Int) (w : World) (h : RowsAt w ao n A L C) (hn : n ≤ 9223372036854775807) (hp : lp ≤ 9223372036854775807) (hl : ∀ i, i < n → L i ≤ 9223372036854775807) :
    Calls Try.prog 7 #[.slice ao n cap, .slice po lp cp, .int .i64 x, .int .i64 y] w fun e w' => Zz e (n + S L n + lp) ∧ w' = w := by
  by_cases h1 : (n : Int) ≤ 1048576
  · by_cases h0 : n = 0
    · subst h0
      by_cases h2 : (lp : Int) ≤ 1048576
      · go_enter Try.func7, Try.ntmps7
        go_wp2
        go_loop [9, 10] (fun t i => i = .int .i64 0 ∧ t = .int .i64 0) (fun _ _ => 0)
        case atStart => exact ⟨rfl, rfl⟩
        case round =>
          obtain ⟨rfl, rfl⟩ := hrel
          go_wp2
          go_ret
          exact ⟨Zz.yes (by simp [S]; omega), rfl⟩
      · go_enter Try.func7, Try.ntmps7
        go_wp2
        go_loop [9, 10] (fun t i => i = .int .i64 0 ∧ t = .int .i64 0) (fun _ _ => 0)
        case atStart => exact ⟨rfl, rfl⟩
        case round =>
          obtain ⟨rfl, rfl⟩ := hrel
          go_wp2
          go_ret
          exact ⟨Zz.no, rfl⟩
    · obtain ⟨b, off, rfl, hc⟩ := h.open (by omega)
      clear h
      go_enter Try.func7, Try.ntmps7
      go_wp2
      go_loop [9, 10] (fun t i => ∃ k : Nat, k ≤ n ∧ i = .int .i64 k ∧ t = .int .i64 (n + S L k : Nat) ∧ n + S L k ≤ 1048576) (fun _ i => n - (intOf i).toNat)
      case atStart => exact ⟨0, Nat.zero_le _, rfl, by simp [S], by simp [S]; omega⟩
      case round =>
        obtain ⟨k, hk, rfl, rfl, hs⟩ := hrel
        by_cases hlt : k < n
        · have hck := hc k hlt
          have hlk := hl k hlt
          by_cases g1 : (L k : Int) ≤ 1048576
          · by_cases g2 : n + S L k + L k ≤ 1048576
            · go_wp2
              go_round
              case rel => exact ⟨k + 1, by omega, by go_num, by rw [S_succ]; go_num, by rw [S_succ]; omega⟩
              case measure => simp [intOf]; omega
            · go_wp2
              go_ret
              exact ⟨Zz.no, rfl⟩
          · go_wp2
            go_ret
            exact ⟨Zz.no, rfl⟩
        · have e : k = n := by omega
          subst e
          by_cases g1 : (lp : Int) ≤ 1048576
          · by_cases g2 : k + S L k + lp ≤ 1048576
            · go_wp2
              go_ret
              exact ⟨Zz.yes g2, rfl⟩
            · go_wp2
              go_ret
              exact ⟨Zz.no, rfl⟩
          · go_wp2
            go_ret
            exact ⟨Zz.no, rfl⟩
  · go_enter Try.func7, Try.ntmps7
    go_wp2
    go_ret
    exact ⟨Zz.no, rfl⟩

/-! ### What stays while the call lays memory of its own -/

theorem RowsAt.below {w w' : World} {ao : Option Addr} {n : Nat} {A : Nat → Option Addr} {L C : Nat → Nat} (h : RowsAt w ao n A L C) (hb : Below w.heap.size w w') : RowsAt w' ao n A L C := by
  intro i hi
  obtain ⟨b, off, e, hc⟩ := h i hi
  exact ⟨b, off, e, (hb.cell (World.block_lt_of_cell? _ _ hc)).trans hc⟩

/-- A slice value that owns its cells shows what it is. -/
theorem own_shape {w : World} {base : Nat} {e : TypeId} {size : Nat} {v : Value} {n : Nat} {xs : List Value} (h : w.ownsRow base e size v n xs) : ∃ ao cap, v = .slice ao n cap := by
  rcases h.2 with ⟨rfl, rfl⟩ | ⟨g, cap, cur, rfl, _⟩
  · exact ⟨_, _, rfl⟩
  · exact ⟨_, _, rfl⟩
end Go.Proofs.Qxb6626229a
