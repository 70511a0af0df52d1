/-
  eqBytes (function 16), eqNames (function 17) by their contracts.
-/
import Derived.Test.Qxb6626323aFmtTree
import Derived.WalkLawsBesides
import Derived.Deep.QuietTactic
import Derived.BigQuiet
namespace Go.Proofs.Qxb6626323aFmt
open Go.RowKit

/-- A comparison's answer: a bool that says true wherever the two are one. -/
def EqPost (e : Ending) (p : Prop) : Prop := ∃ t : Bool, e = .returned (.bool t) ∧ (p → t = true)
theorem EqPost.no {p : Prop} (h : ¬ p) : EqPost (.returned (.bool false)) p := ⟨false, rfl, fun k => absurd k h⟩
theorem EqPost.yes {p : Prop} : EqPost (.returned (.bool true)) p := ⟨true, rfl, fun _ => rfl⟩

theorem SlAt.none_iff {α : Type} {w : World} {ao : Option Addr} {n : Nat} {mk : α → Value} {d : Option (List α)} (h : SlAt w ao n mk d) : d.isNone = ao.isNone := by
  cases d with
  | none => rw [h.1]; rfl
  | some l => cases ao with
    | none => exact absurd rfl h.1
    | some a => rfl
theorem SlAt.length {α : Type} {w : World} {ao : Option Addr} {n : Nat} {mk : α → Value} {d : Option (List α)} (h : SlAt w ao n mk d) : (d.getD []).length = n := by
  cases d with
  | none => rw [h.2]; rfl
  | some l => exact h.2.1
theorem SlAt.cell {α : Type} {w : World} {ao : Option Addr} {n : Nat} {mk : α → Value} {d : Option (List α)} (h : SlAt w ao n mk d) (hn : 0 < n) :
    ∃ b off, ao = some ⟨b, off, none⟩ ∧ ∀ i x, (d.getD [])[i]? = some x → w.cell? ⟨b, off + i, none⟩ = some (mk x) := by
  cases d with
  | none => exact absurd h.2 (by omega)
  | some l =>
    obtain ⟨_, h2, h3⟩ := h
    obtain ⟨b, off, e, _⟩ := h3 0 l[0] (by simp)
    refine ⟨b, off, e, fun i x hx => ?_⟩
    obtain ⟨b', off', e', hc⟩ := h3 i x hx
    rw [e] at e'
    simp only [Option.some.injEq, Addr.mk.injEq] at e'
    obtain ⟨rfl, rfl, _⟩ := e'
    exact hc


theorem below_draws (w : World) (n : Nat) : Below w.heap.size w (w.drewN n) := ⟨rfl, rfl, rfl, Nat.le_refl _, fun _ _ => rfl⟩

theorem eqBytes_any (a b : Option Addr) (la ca lb cb : Nat) (d d' : Option (List Int)) (w : World) (ha : SlAt w a la (Value.int .u8) d) (hb : SlAt w b lb (Value.int .u8) d') (hla : la ≤ 140737488351232) (hlb : lb ≤ 140737488351232) :
    Calls Tryf.prog 16 #[.slice a la ca, .slice b lb cb] w fun e w' => EqPost e (d = d') ∧ Below w.heap.size w w' := by
  have q : ∀ (w : World) (x : Option Addr) (n c : Nat), (binOp .eql 22 (.slice x n c) (.slice none 0 0)).run Tryf.prog w = .ok (.bool x.isNone) w := fun w x n c => Lib.run_eql_slice_nil w 22 5 x n c 0 0 Tryf.underlying22
  have na := ha.none_iff
  have nb := hb.none_iff
  have lena := ha.length
  have lenb := hb.length
  cases a with
  | none =>
    cases b with
    | some y =>
      have hne : ¬ d = d' := fun e => by rw [e, nb] at na; cases na
      clear na nb
      go_enter Tryf.func16, Tryf.ntmps16
      go_wp2_with fail
      go_ret
      exact ⟨EqPost.no hne, Below.refl _ _⟩
    | none =>
      have h1 : la = 0 := by cases d with | none => exact ha.2 | some l => cases na
      have h2 : lb = 0 := by cases d' with | none => exact hb.2 | some l => cases nb
      subst h1 h2
      clear na nb lena lenb
      go_enter Tryf.func16, Tryf.ntmps16
      go_wp2_with fail
      go_loop [5] (fun i => i = .int .i64 0) (fun _ => 0)
      case atStart => rfl
      case round =>
        subst hrel
        go_wp2_with fail
        go_ret
        exact ⟨EqPost.yes, Below.refl _ _⟩
  | some x =>
    cases b with
    | none =>
      have hne : ¬ d = d' := fun e => by rw [e, nb] at na; cases na
      clear na nb
      go_enter Tryf.func16, Tryf.ntmps16
      go_wp2_with fail
      go_ret
      exact ⟨EqPost.no hne, Below.refl _ _⟩
    | some y =>
      clear na nb
      by_cases hl : la = lb
      rotate_left
      · have hne : ¬ d = d' := fun e => hl (by rw [← lena, ← lenb, e])
        have hl' : ((la : Int) != (lb : Int)) = true := by simp; omega
        clear lena lenb
        go_enter Tryf.func16, Tryf.ntmps16
        go_wp2_with fail
        go_ret
        exact ⟨EqPost.no hne, Below.refl _ _⟩
      subst hl
      go_enter Tryf.func16, Tryf.ntmps16
      go_wp2_with fail
      go_loopw [5] (fun i wr => ∃ k m : Nat, k ≤ la ∧ i = .int .i64 k ∧ wr = w.drewN m) (fun i _ => la - (intOf i).toNat)
      case atStart => exact ⟨0, 0, Nat.zero_le _, rfl, rfl⟩
      case round =>
        obtain ⟨k, m, hk, rfl, hw⟩ := hrel
        subst hw
        by_cases hlt : k < la
        · obtain ⟨b1, o1, e1, c1⟩ := ha.cell (by omega)
          obtain ⟨b2, o2, e2, c2⟩ := hb.cell (by omega)
          simp only [Option.some.injEq] at e1 e2
          subst e1 e2
          obtain ⟨u, hu⟩ : ∃ u, (d.getD [])[k]? = some u := ⟨_, List.getElem?_eq_getElem (by omega)⟩
          obtain ⟨v, hv⟩ : ∃ v, (d'.getD [])[k]? = some v := ⟨_, List.getElem?_eq_getElem (by omega)⟩
          have x1 := c1 k u hu
          have x2 := c2 k v hv
          have hi : (k : Int) < (la : Int) := by omega
          clear c1 c2 ha hb
          have HE : Hid ((u != v) = true → ¬ d = d') := fun hne e => by
            rw [e, hv] at hu
            simp only [Option.some.injEq] at hu
            rw [hu] at hne
            simp at hne
          clear hu hv lena lenb
          by_cases huv : (u != v) = true
          · go_wp2_with fail
            go_quiet (fail)
            go_wp2_with fail
            go_ret
            exact ⟨EqPost.no (HE.out huv), by rw [World.drewN_drewN]; exact below_draws w _⟩
          · have huv' : (u != v) = false := by simpa using huv
            clear huv
            go_wp2_with fail
            go_quiet (fail)
            go_wp2_with fail
            go_roundw
            case rel => exact ⟨k + 1, m + nq, by omega, by go_num, rfl⟩
            case measure => simp [intOf]; omega
        · go_wp2_with fail
          go_ret
          exact ⟨EqPost.yes, below_draws w _⟩

theorem eqNames_any (a b : Option Addr) (la ca lb cb : Nat) (d d' : Option (List ByteArray)) (w : World) (ha : SlAt w a la Value.string d) (hb : SlAt w b lb Value.string d') (hla : la ≤ 140737488351232) (hlb : lb ≤ 140737488351232) :
    Calls Tryf.prog 17 #[.slice a la ca, .slice b lb cb] w fun e w' => EqPost e (d = d') ∧ Below w.heap.size w w' := by
  have q : ∀ (w : World) (x : Option Addr) (n c : Nat), (binOp .eql 24 (.slice x n c) (.slice none 0 0)).run Tryf.prog w = .ok (.bool x.isNone) w := fun w x n c => Lib.run_eql_slice_nil w 24 9 x n c 0 0 Tryf.underlying24
  have na := ha.none_iff
  have nb := hb.none_iff
  have lena := ha.length
  have lenb := hb.length
  cases a with
  | none =>
    cases b with
    | some y =>
      have hne : ¬ d = d' := fun e => by rw [e, nb] at na; cases na
      clear na nb
      go_enter Tryf.func17, Tryf.ntmps17
      go_wp2_with fail
      go_ret
      exact ⟨EqPost.no hne, Below.refl _ _⟩
    | none =>
      have h1 : la = 0 := by cases d with | none => exact ha.2 | some l => cases na
      have h2 : lb = 0 := by cases d' with | none => exact hb.2 | some l => cases nb
      subst h1 h2
      clear na nb lena lenb
      go_enter Tryf.func17, Tryf.ntmps17
      go_wp2_with fail
      go_loop [5] (fun i => i = .int .i64 0) (fun _ => 0)
      case atStart => rfl
      case round =>
        subst hrel
        go_wp2_with fail
        go_ret
        exact ⟨EqPost.yes, Below.refl _ _⟩
  | some x =>
    cases b with
    | none =>
      have hne : ¬ d = d' := fun e => by rw [e, nb] at na; cases na
      clear na nb
      go_enter Tryf.func17, Tryf.ntmps17
      go_wp2_with fail
      go_ret
      exact ⟨EqPost.no hne, Below.refl _ _⟩
    | some y =>
      clear na nb
      by_cases hl : la = lb
      rotate_left
      · have hne : ¬ d = d' := fun e => hl (by rw [← lena, ← lenb, e])
        have hl' : ((la : Int) != (lb : Int)) = true := by simp; omega
        clear lena lenb
        go_enter Tryf.func17, Tryf.ntmps17
        go_wp2_with fail
        go_ret
        exact ⟨EqPost.no hne, Below.refl _ _⟩
      subst hl
      go_enter Tryf.func17, Tryf.ntmps17
      go_wp2_with fail
      go_loopw [5] (fun i wr => ∃ k m : Nat, k ≤ la ∧ i = .int .i64 k ∧ wr = w.drewN m) (fun i _ => la - (intOf i).toNat)
      case atStart => exact ⟨0, 0, Nat.zero_le _, rfl, rfl⟩
      case round =>
        obtain ⟨k, m, hk, rfl, hw⟩ := hrel
        subst hw
        by_cases hlt : k < la
        · obtain ⟨b1, o1, e1, c1⟩ := ha.cell (by omega)
          obtain ⟨b2, o2, e2, c2⟩ := hb.cell (by omega)
          simp only [Option.some.injEq] at e1 e2
          subst e1 e2
          obtain ⟨u, hu⟩ : ∃ u, (d.getD [])[k]? = some u := ⟨_, List.getElem?_eq_getElem (by omega)⟩
          obtain ⟨v, hv⟩ : ∃ v, (d'.getD [])[k]? = some v := ⟨_, List.getElem?_eq_getElem (by omega)⟩
          have x1 := c1 k u hu
          have x2 := c2 k v hv
          have hi : (k : Int) < (la : Int) := by omega
          clear c1 c2 ha hb
          have HE : Hid ((u.toList == v.toList) = false → ¬ d = d') := fun hne e => by
            rw [e, hv] at hu
            simp only [Option.some.injEq] at hu
            rw [hu] at hne
            simp at hne
          clear hu hv lena lenb
          by_cases huv : (u.toList == v.toList) = false
          · go_wp2_with fail
            go_quiet (fail)
            go_wp2_with fail
            go_ret
            exact ⟨EqPost.no (HE.out huv), by rw [World.drewN_drewN]; exact below_draws w _⟩
          · have huv' : (u.toList == v.toList) = true := by simpa using huv
            clear huv
            go_wp2_with fail
            go_quiet (fail)
            go_wp2_with fail
            go_roundw
            case rel => exact ⟨k + 1, m + nq, by omega, by go_num, rfl⟩
            case measure => simp [intOf]; omega
        · go_wp2_with fail
          go_ret
          exact ⟨EqPost.yes, below_draws w _⟩
end Go.Proofs.Qxb6626323aFmt
