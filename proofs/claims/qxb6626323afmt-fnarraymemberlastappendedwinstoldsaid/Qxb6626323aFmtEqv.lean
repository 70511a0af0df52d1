/-
  eqJV (function 11), eqJVs (function 8), eqVal (function 13), eqVals (function 9) by their contracts: each pair by one induction.
-/
import Derived.Test.Qxb6626323aFmtEq
import Derived.Deep.RegionWith
import Derived.BigRegion
namespace Go.Proofs.Qxb6626323aFmt
open Go.RowKit

theorem ItAt.none_iff {α : Type} {w : World} {ao : Option Addr} {n : Nat} {R : Hd → α → Prop} {d : Option (List α)} (h : ItAt w ao n R d) : d.isNone = ao.isNone := by
  cases d with
  | none => rw [h.1]; rfl
  | some l => cases ao with
    | none => exact absurd rfl h.1
    | some a => rfl
theorem ItAt.length {α : Type} {w : World} {ao : Option Addr} {n : Nat} {R : Hd → α → Prop} {d : Option (List α)} (h : ItAt w ao n R d) : (d.getD []).length = n := by
  cases d with
  | none => rw [h.2]; rfl
  | some l => exact h.2.1
theorem ItAt.cell {α : Type} {w : World} {ao : Option Addr} {n : Nat} {R : Hd → α → Prop} {d : Option (List α)} (h : ItAt w ao n R d) (hn : 0 < n) :
    ∃ b off, ao = some ⟨b, off, none⟩ ∧ ∀ i x, (d.getD [])[i]? = some x → ∃ g, HdAt w b (off + i * 4) g ∧ R g x := by
  cases d with
  | none => exact absurd h.2 (by omega)
  | some l =>
    obtain ⟨_, h2, h3⟩ := h
    obtain ⟨b, off, _, e, _⟩ := h3 0 l[0] (by simp)
    refine ⟨b, off, e, fun i x hx => ?_⟩
    obtain ⟨b', off', g, e', hc, hr⟩ := h3 i x hx
    rw [e] at e'
    simp only [Option.some.injEq, Addr.mk.injEq] at e'
    obtain ⟨rfl, rfl, _⟩ := e'
    exact ⟨g, hc, hr⟩

/-- The comparison of two values of depth below n, function f. -/
def EqSaid (f : Nat) (n : Nat) : Prop := ∀ (h g : Hd) (D D' : T n) (w : World), Rd w n h D → Rd w n g D' → Calls Tryf.prog f #[h.val, g.val] w fun e w' => EqPost e (D = D') ∧ Below w.heap.size w w'
/-- The comparison of two slices of such values, function f. -/
def EqsSaid (f : Nat) (n : Nat) : Prop := ∀ (a b : Option Addr) (la ca lb cb : Nat) (d d' : Option (List (T n))) (w : World), ItAt w a la (Rd w n) d → ItAt w b lb (Rd w n) d' → la ≤ 140737488351232 → lb ≤ 140737488351232 →
  Calls Tryf.prog f #[.slice a la ca, .slice b lb cb] w fun e w' => EqPost e (d = d') ∧ Below w.heap.size w w'

set_option maxHeartbeats 400000 in
theorem eqJVs_of (n : Nat) (ih : EqSaid 11 n) : EqsSaid 8 n := by
  intro a b la ca lb cb d d' w ha hb hla hlb
  have q1 : ∀ (w : World) (x : Option Addr) (n c : Nat), (binOp .eql 23 (.slice x n c) (.slice none 0 0)).run Tryf.prog w = .ok (.bool x.isNone) w := fun w x n c => Lib.run_eql_slice_nil w 23 26 x n c 0 0 Tryf.underlying23
  have q2 : ∀ (w : World) (x : Option Addr) (n c : Nat), (binOp .eql 28 (.slice x n c) (.slice none 0 0)).run Tryf.prog w = .ok (.bool x.isNone) w := fun w x n c => Lib.run_eql_slice_nil w 28 30 x n c 0 0 Tryf.underlying28
  have na := ha.none_iff
  have nb := hb.none_iff
  have lena := ha.length
  have lenb := hb.length
  cases a with
  | none =>
    cases b with
    | some y =>
      have hne : ¬ d = d' := fun e => by rw [e, nb] at na; cases na
      clear na nb
      go_enter Tryf.func8, Tryf.ntmps8
      go_wp2_with fail
      go_ret
      exact ⟨EqPost.no hne, Below.refl _ _⟩
    | none =>
      have h1 : la = 0 := by cases d with | none => exact ha.2 | some l => cases na
      have h2 : lb = 0 := by cases d' with | none => exact hb.2 | some l => cases nb
      subst h1 h2
      clear na nb lena lenb
      go_enter Tryf.func8, Tryf.ntmps8
      go_wp2_with fail
      go_loop [5] (fun i => i = .int .i64 0) (fun _ => 0)
      case atStart => rfl
      case round =>
        subst hrel
        go_wp2_with fail
        go_ret
        exact ⟨EqPost.yes, Below.refl _ _⟩
  | some x =>
    cases b with
    | none =>
      have hne : ¬ d = d' := fun e => by rw [e, nb] at na; cases na
      clear na nb
      go_enter Tryf.func8, Tryf.ntmps8
      go_wp2_with fail
      go_ret
      exact ⟨EqPost.no hne, Below.refl _ _⟩
    | some y =>
      clear na nb
      by_cases hl : la = lb
      rotate_left
      · have hne : ¬ d = d' := fun e => hl (by rw [← lena, ← lenb, e])
        have hl' : ((la : Int) != (lb : Int)) = true := by simp; omega
        clear lena lenb
        go_enter Tryf.func8, Tryf.ntmps8
        go_wp2_with fail
        go_ret
        exact ⟨EqPost.no hne, Below.refl _ _⟩
      subst hl
      go_enter Tryf.func8, Tryf.ntmps8
      go_wp2_with fail
      go_loopw [5] (fun i wr => ∃ k : Nat, k ≤ la ∧ i = .int .i64 k ∧ Below w.heap.size w wr) (fun i _ => la - (intOf i).toNat)
      case atStart => exact ⟨0, Nat.zero_le _, rfl, Below.refl _ _⟩
      case round =>
        obtain ⟨k, hk, rfl, hbel⟩ := hrel
        by_cases hlt : k < la
        · obtain ⟨b1, o1, e1, c1⟩ := ha.cell (by omega)
          obtain ⟨b2, o2, e2, c2⟩ := hb.cell (by omega)
          simp only [Option.some.injEq] at e1 e2
          subst e1 e2
          obtain ⟨u, hu⟩ : ∃ u, (d.getD [])[k]? = some u := ⟨_, List.getElem?_eq_getElem (by omega)⟩
          obtain ⟨v, hv⟩ : ∃ v, (d'.getD [])[k]? = some v := ⟨_, List.getElem?_eq_getElem (by omega)⟩
          obtain ⟨g1, x1, r1⟩ := c1 k u hu
          obtain ⟨g2, x2, r2⟩ := c2 k v hv
          obtain ⟨x10, x11, x12, x13⟩ := x1.below hbel
          obtain ⟨x20, x21, x22, x23⟩ := x2.below hbel
          have r1' := Rd.below hbel.drew r1
          have r2' := Rd.below hbel.drew r2
          have hi : (k : Int) < (la : Int) := by omega
          clear c1 c2 ha hb r1 r2 x1 x2
          have HE : Hid (¬ u = v → ¬ d = d') := fun hne e => by
            rw [e, hv] at hu
            simp only [Option.some.injEq] at hu
            exact hne hu.symm
          clear hu hv lena lenb
          go_wp2_with fail
          go_region_with (go_at_call 11; refine (ih g1 g2 u v _ r1' r2').mono ?_; rintro e w2 ⟨⟨t, rfl, ht⟩, hb2⟩)
          all_goals
            have hb3 : Below w.heap.size w w2 := hbel.drew.trans (hb2.mono hbel.drew.size)
            cases t with
            | true =>
              go_wp2_with fail
              go_roundw
              case rel => exact ⟨k + 1, by omega, by go_num, hb3⟩
              case measure => simp [intOf]; omega
            | false =>
              have hne : ¬ u = v := fun e => by have := ht e; cases this
              go_wp2_with fail
              go_ret
              exact ⟨EqPost.no (HE.out hne), hb3⟩
        · go_wp2_with fail
          go_ret
          exact ⟨EqPost.yes, hbel⟩

set_option maxHeartbeats 400000 in
theorem eqVals_of (n : Nat) (ih : EqSaid 13 n) : EqsSaid 9 n := by
  intro a b la ca lb cb d d' w ha hb hla hlb
  have q2 : ∀ (w : World) (x : Option Addr) (n c : Nat), (binOp .eql 28 (.slice x n c) (.slice none 0 0)).run Tryf.prog w = .ok (.bool x.isNone) w := fun w x n c => Lib.run_eql_slice_nil w 28 30 x n c 0 0 Tryf.underlying28
  have na := ha.none_iff
  have nb := hb.none_iff
  have lena := ha.length
  have lenb := hb.length
  cases a with
  | none =>
    cases b with
    | some y =>
      have hne : ¬ d = d' := fun e => by rw [e, nb] at na; cases na
      clear na nb
      go_enter Tryf.func9, Tryf.ntmps9
      go_wp2_with fail
      go_ret
      exact ⟨EqPost.no hne, Below.refl _ _⟩
    | none =>
      have h1 : la = 0 := by cases d with | none => exact ha.2 | some l => cases na
      have h2 : lb = 0 := by cases d' with | none => exact hb.2 | some l => cases nb
      subst h1 h2
      clear na nb lena lenb
      go_enter Tryf.func9, Tryf.ntmps9
      go_wp2_with fail
      go_loop [5] (fun i => i = .int .i64 0) (fun _ => 0)
      case atStart => rfl
      case round =>
        subst hrel
        go_wp2_with fail
        go_ret
        exact ⟨EqPost.yes, Below.refl _ _⟩
  | some x =>
    cases b with
    | none =>
      have hne : ¬ d = d' := fun e => by rw [e, nb] at na; cases na
      clear na nb
      go_enter Tryf.func9, Tryf.ntmps9
      go_wp2_with fail
      go_ret
      exact ⟨EqPost.no hne, Below.refl _ _⟩
    | some y =>
      clear na nb
      by_cases hl : la = lb
      rotate_left
      · have hne : ¬ d = d' := fun e => hl (by rw [← lena, ← lenb, e])
        have hl' : ((la : Int) != (lb : Int)) = true := by simp; omega
        clear lena lenb
        go_enter Tryf.func9, Tryf.ntmps9
        go_wp2_with fail
        go_ret
        exact ⟨EqPost.no hne, Below.refl _ _⟩
      subst hl
      go_enter Tryf.func9, Tryf.ntmps9
      go_wp2_with fail
      go_loopw [5] (fun i wr => ∃ k : Nat, k ≤ la ∧ i = .int .i64 k ∧ Below w.heap.size w wr) (fun i _ => la - (intOf i).toNat)
      case atStart => exact ⟨0, Nat.zero_le _, rfl, Below.refl _ _⟩
      case round =>
        obtain ⟨k, hk, rfl, hbel⟩ := hrel
        by_cases hlt : k < la
        · obtain ⟨b1, o1, e1, c1⟩ := ha.cell (by omega)
          obtain ⟨b2, o2, e2, c2⟩ := hb.cell (by omega)
          simp only [Option.some.injEq] at e1 e2
          subst e1 e2
          obtain ⟨u, hu⟩ : ∃ u, (d.getD [])[k]? = some u := ⟨_, List.getElem?_eq_getElem (by omega)⟩
          obtain ⟨v, hv⟩ : ∃ v, (d'.getD [])[k]? = some v := ⟨_, List.getElem?_eq_getElem (by omega)⟩
          obtain ⟨g1, x1, r1⟩ := c1 k u hu
          obtain ⟨g2, x2, r2⟩ := c2 k v hv
          obtain ⟨x10, x11, x12, x13⟩ := x1.below hbel
          obtain ⟨x20, x21, x22, x23⟩ := x2.below hbel
          have r1' := Rd.below hbel.drew r1
          have r2' := Rd.below hbel.drew r2
          have hi : (k : Int) < (la : Int) := by omega
          clear c1 c2 ha hb r1 r2 x1 x2
          have HE : Hid (¬ u = v → ¬ d = d') := fun hne e => by
            rw [e, hv] at hu
            simp only [Option.some.injEq] at hu
            exact hne hu.symm
          clear hu hv lena lenb
          go_wp2_with fail
          go_region_with (go_at_call 13; refine (ih g1 g2 u v _ r1' r2').mono ?_; rintro e w2 ⟨⟨t, rfl, ht⟩, hb2⟩)
          all_goals
            have hb3 : Below w.heap.size w w2 := hbel.drew.trans (hb2.mono hbel.drew.size)
            cases t with
            | true =>
              go_wp2_with fail
              go_roundw
              case rel => exact ⟨k + 1, by omega, by go_num, hb3⟩
              case measure => simp [intOf]; omega
            | false =>
              have hne : ¬ u = v := fun e => by have := ht e; cases this
              go_wp2_with fail
              go_ret
              exact ⟨EqPost.no (HE.out hne), hb3⟩
        · go_wp2_with fail
          go_ret
          exact ⟨EqPost.yes, hbel⟩

theorem bcell {W w1 : World} (hb : Below W.heap.size W w1) : ∀ b o, b < W.heap.size → w1.cell? ⟨b, o, none⟩ = W.cell? ⟨b, o, none⟩ := fun b o h => hb.cell (p := ⟨b, o, none⟩) h

theorem T.kind_ne {n : Nat} {D D' : T (n + 1)} (h : ¬ T.kind D = T.kind D') : ¬ D = D' := fun e => h (by rw [e])
theorem T.raw_ne {n : Nat} {D D' : T (n + 1)} (h : ¬ T.raw D = T.raw D') : ¬ D = D' := fun e => h (by rw [e])
theorem T.items_ne {n : Nat} {D D' : T (n + 1)} (h : ¬ T.items D = T.items D') : ¬ D = D' := fun e => h (by rw [e])
theorem T.names_ne {n : Nat} {D D' : T (n + 1)} (h : ¬ T.names D = T.names D') : ¬ D = D' := fun e => h (by rw [e])

theorem below_two (w : World) (o1 o2 : Obj) : Below w.heap.size w ((w.alloc o1).alloc o2) := ((Below.refl _ _).alloc (Nat.le_refl _) _).alloc (by simp) _

set_option maxHeartbeats 400000 in
theorem eqJV_of (n : Nat) (ih : EqsSaid 8 n) : EqSaid 11 (n + 1) := by
  intro h g D D' w hr gr
  obtain ⟨hk, hf, h1, h2, h3⟩ := hr
  obtain ⟨gk, gf, g1, g2, g3⟩ := gr
  by_cases hkk : (h.k == g.k) = true
  rotate_left
  · have hne : ¬ D = D' := T.kind_ne (by rw [← hk, ← gk]; simpa using hkk)
    have hkk' : (h.k == g.k) = false := by simpa using hkk
    clear hkk hk gk
    go_enter Tryf.func11, Tryf.ntmps11
    go_wp2_with fail
    go_ret
    exact ⟨EqPost.no hne, below_two _ _ _⟩
  clear hk gk
  have b0 := below_two w (.cells #[.int .u8 h.k, .slice h.ra h.rl h.rc, .slice h.ia h.il h.ic, .slice h.na h.nl h.nc] 26) (.cells #[.int .u8 g.k, .slice g.ra g.rl g.rc, .slice g.ia g.il g.ic, .slice g.na g.nl g.nc] 30)
  go_enter Tryf.func11, Tryf.ntmps11
  go_wp2_with fail
  refine (eqBytes_any _ _ _ _ _ _ _ _ _ (h1.below b0) (g1.below b0) hf.r gf.r).mono ?_
  rintro e w3 ⟨⟨t, rfl, ht⟩, hb3⟩
  have b3 : Below w.heap.size w w3 := b0.trans (hb3.mono b0.size)
  have c3 := bcell hb3
  cases t with
  | false =>
    have hne : ¬ D = D' := T.raw_ne (fun e => by have := ht e; cases this)
    clear h1 g1 h2 g2 h3 g3 b0 hb3 ht
    go_wp2_with fail
    go_ret
    exact ⟨EqPost.no hne, b3⟩
  | true =>
    clear h1 g1 ht
    go_wp2_with fail
    refine (eqNames_any _ _ _ _ _ _ _ _ _ (h2.below b3) (g2.below b3) (by have := hf.n; omega) (by have := gf.n; omega)).mono ?_
    rintro e w4 ⟨⟨t, rfl, ht⟩, hb4⟩
    have b4 : Below w.heap.size w w4 := b3.trans (hb4.mono b3.size)
    have c4 := bcell (hb3.trans (hb4.mono hb3.size))
    cases t with
    | false =>
      have hne : ¬ D = D' := T.names_ne (fun e => by have := ht e; cases this)
      clear h2 g2 h3 g3 b0 hb3 ht hb4 c3
      go_wp2_with fail
      go_ret
      exact ⟨EqPost.no hne, b4⟩
    | true =>
      clear h2 g2 ht c3
      go_wp2_with fail
      refine (ih _ _ _ _ _ _ _ _ _ (h3.below b4 (fun _ _ => Rd.below b4)) (g3.below b4 (fun _ _ => Rd.below b4)) (by have := hf.i; omega) (by have := gf.i; omega)).mono ?_
      rintro e w5 ⟨⟨t, rfl, ht⟩, hb5⟩
      have b5 : Below w.heap.size w w5 := b4.trans (hb5.mono b4.size)
      cases t with
      | false =>
        have hne : ¬ D = D' := T.items_ne (fun e => by have := ht e; cases this)
        clear h3 g3 b0 hb3 ht hb4 c4 hb5
        go_wp2_with fail
        go_ret
        exact ⟨EqPost.no hne, b5⟩
      | true =>
        clear h3 g3 b0 hb3 ht hb4 c4 hb5
        go_wp2_with fail
        go_ret
        exact ⟨EqPost.yes, b5⟩

set_option maxHeartbeats 400000 in
theorem eqVal_of (n : Nat) (ih : EqsSaid 9 n) : EqSaid 13 (n + 1) := by
  intro h g D D' w hr gr
  obtain ⟨hk, hf, h1, h2, h3⟩ := hr
  obtain ⟨gk, gf, g1, g2, g3⟩ := gr
  by_cases hkk : (h.k == g.k) = true
  rotate_left
  · have hne : ¬ D = D' := T.kind_ne (by rw [← hk, ← gk]; simpa using hkk)
    have hkk' : (h.k == g.k) = false := by simpa using hkk
    clear hkk hk gk
    go_enter Tryf.func13, Tryf.ntmps13
    go_wp2_with fail
    go_ret
    exact ⟨EqPost.no hne, below_two _ _ _⟩
  clear hk gk
  have b0 := below_two w (.cells #[.int .u8 h.k, .slice h.ra h.rl h.rc, .slice h.ia h.il h.ic, .slice h.na h.nl h.nc] 30) (.cells #[.int .u8 g.k, .slice g.ra g.rl g.rc, .slice g.ia g.il g.ic, .slice g.na g.nl g.nc] 30)
  go_enter Tryf.func13, Tryf.ntmps13
  go_wp2_with fail
  refine (eqBytes_any _ _ _ _ _ _ _ _ _ (h1.below b0) (g1.below b0) hf.r gf.r).mono ?_
  rintro e w3 ⟨⟨t, rfl, ht⟩, hb3⟩
  have b3 : Below w.heap.size w w3 := b0.trans (hb3.mono b0.size)
  have c3 := bcell hb3
  cases t with
  | false =>
    have hne : ¬ D = D' := T.raw_ne (fun e => by have := ht e; cases this)
    clear h1 g1 h2 g2 h3 g3 b0 hb3 ht
    go_wp2_with fail
    go_ret
    exact ⟨EqPost.no hne, b3⟩
  | true =>
    clear h1 g1 ht
    go_wp2_with fail
    refine (eqNames_any _ _ _ _ _ _ _ _ _ (h2.below b3) (g2.below b3) (by have := hf.n; omega) (by have := gf.n; omega)).mono ?_
    rintro e w4 ⟨⟨t, rfl, ht⟩, hb4⟩
    have b4 : Below w.heap.size w w4 := b3.trans (hb4.mono b3.size)
    have c4 := bcell (hb3.trans (hb4.mono hb3.size))
    cases t with
    | false =>
      have hne : ¬ D = D' := T.names_ne (fun e => by have := ht e; cases this)
      clear h2 g2 h3 g3 b0 hb3 ht hb4 c3
      go_wp2_with fail
      go_ret
      exact ⟨EqPost.no hne, b4⟩
    | true =>
      clear h2 g2 ht c3
      go_wp2_with fail
      refine (ih _ _ _ _ _ _ _ _ _ (h3.below b4 (fun _ _ => Rd.below b4)) (g3.below b4 (fun _ _ => Rd.below b4)) (by have := hf.i; omega) (by have := gf.i; omega)).mono ?_
      rintro e w5 ⟨⟨t, rfl, ht⟩, hb5⟩
      have b5 : Below w.heap.size w w5 := b4.trans (hb5.mono b4.size)
      cases t with
      | false =>
        have hne : ¬ D = D' := T.items_ne (fun e => by have := ht e; cases this)
        clear h3 g3 b0 hb3 ht hb4 c4 hb5
        go_wp2_with fail
        go_ret
        exact ⟨EqPost.no hne, b5⟩
      | true =>
        clear h3 g3 b0 hb3 ht hb4 c4 hb5
        go_wp2_with fail
        go_ret
        exact ⟨EqPost.yes, b5⟩


theorem eqJV_any : ∀ n, EqSaid 11 n
  | 0 => fun _ _ _ _ _ h => False.elim h
  | n + 1 => eqJV_of n (eqJVs_of n (eqJV_any n))
theorem eqVal_any : ∀ n, EqSaid 13 n
  | 0 => fun _ _ _ _ _ h => False.elim h
  | n + 1 => eqVal_of n (eqVals_of n (eqVal_any n))
theorem eqJVs_any (n : Nat) : EqsSaid 8 n := eqJVs_of n (eqJV_any n)
theorem eqVals_any (n : Nat) : EqsSaid 9 n := eqVals_of n (eqVal_any n)
end Go.Proofs.Qxb6626323aFmt
