/-
  A JSON value as plain data, and how it lies in memory: what the walks are told of a JV that came in, and of a jsonframe.Value that the call made.
-/
import Derived.Test.Qxb6626323aFmtCards
import Derived.ProofKit
import Derived.WalkKit
import Derived.SizedLaws
namespace Go.Proofs.Qxb6626323aFmt
open Go.RowKit Go.ChangeShapes Go.WideShapes

/-- A value of depth below n: its kind; its raw bytes; its items; its names. -/
def T : Nat → Type
  | 0 => Unit
  | n + 1 => Int × Option (List Int) × Option (List (T n)) × Option (List ByteArray)

def T.kind {n : Nat} (D : T (n + 1)) : Int := Prod.fst (α := Int) (β := Option (List Int) × Option (List (T n)) × Option (List ByteArray)) D
def T.raw {n : Nat} (D : T (n + 1)) : Option (List Int) := (Prod.snd (α := Int) (β := Option (List Int) × Option (List (T n)) × Option (List ByteArray)) D).1
def T.items {n : Nat} (D : T (n + 1)) : Option (List (T n)) := (Prod.snd (α := Int) (β := Option (List Int) × Option (List (T n)) × Option (List ByteArray)) D).2.1
def T.names {n : Nat} (D : T (n + 1)) : Option (List ByteArray) := (Prod.snd (α := Int) (β := Option (List Int) × Option (List (T n)) × Option (List ByteArray)) D).2.2
def T.mk {n : Nat} (k : Int) (r : Option (List Int)) (it : Option (List (T n))) (nm : Option (List ByteArray)) : T (n + 1) := (k, r, it, nm)

/-- The four cells of a value: kind; raw; items; names. -/
structure Hd where
  k : Int
  ra : Option Addr
  rl : Nat
  rc : Nat
  ia : Option Addr
  il : Nat
  ic : Nat
  na : Option Addr
  nl : Nat
  nc : Nat

/-- The value as it is handed on. -/
abbrev Hd.val (h : Hd) : Value := .agg #[.int .u8 h.k, .slice h.ra h.rl h.rc, .slice h.ia h.il h.ic, .slice h.na h.nl h.nc]

/-- The four cells lie at place o of block b. -/
def HdAt (w : World) (b o : Nat) (h : Hd) : Prop :=
  w.cell? ⟨b, o, none⟩ = some (.int .u8 h.k) ∧ w.cell? ⟨b, o + 1, none⟩ = some (.slice h.ra h.rl h.rc) ∧ w.cell? ⟨b, o + 2, none⟩ = some (.slice h.ia h.il h.ic) ∧ w.cell? ⟨b, o + 3, none⟩ = some (.slice h.na h.nl h.nc)

/-- A slice of one-cell elements that reads as d. -/
def SlAt {α : Type} (w : World) (ao : Option Addr) (n : Nat) (mk : α → Value) : Option (List α) → Prop
  | none => ao = none ∧ n = 0
  | some l => ao ≠ none ∧ l.length = n ∧ ∀ i x, l[i]? = some x → ∃ b off, ao = some ⟨b, off, none⟩ ∧ w.cell? ⟨b, off + i, none⟩ = some (mk x)

/-- A slice of four-cell elements, each of which reads by R. -/
def ItAt {α : Type} (w : World) (ao : Option Addr) (n : Nat) (R : Hd → α → Prop) : Option (List α) → Prop
  | none => ao = none ∧ n = 0
  | some l => ao ≠ none ∧ l.length = n ∧ ∀ i x, l[i]? = some x → ∃ b off g, ao = some ⟨b, off, none⟩ ∧ HdAt w b (off + i * 4) g ∧ R g x

/-- What the form's own reach says of the lengths. -/
structure Fits (h : Hd) (nm : Option (List ByteArray)) : Prop where
  k0 : 0 ≤ h.k
  k1 : h.k ≤ 255
  r : h.rl ≤ 140737488351232
  i : h.il * 80 ≤ 140737488351232
  n : h.nl * 16 ≤ 140737488351232
  s : ∀ l, nm = some l → ∀ x ∈ l, x.size ≤ 140737488351232

/-- The header h, in the world w, reads as D. -/
def Rd (w : World) : (n : Nat) → Hd → T n → Prop
  | 0, _, _ => False
  | n + 1, h, D => h.k = T.kind D ∧ Fits h (T.names D) ∧ SlAt w h.ra h.rl (Value.int .u8) (T.raw D) ∧ SlAt w h.na h.nl Value.string (T.names D) ∧ ItAt w h.ia h.il (Rd w n) (T.items D)

theorem HdAt.below {w w' : World} {b o : Nat} {h : Hd} (k : HdAt w b o h) (hb : Below w.heap.size w w') : HdAt w' b o h :=
  ⟨(hb.cell (World.block_lt_of_cell? _ _ k.1)).trans k.1, (hb.cell (World.block_lt_of_cell? _ _ k.2.1)).trans k.2.1, (hb.cell (World.block_lt_of_cell? _ _ k.2.2.1)).trans k.2.2.1, (hb.cell (World.block_lt_of_cell? _ _ k.2.2.2)).trans k.2.2.2⟩

theorem SlAt.below {α : Type} {w w' : World} {ao : Option Addr} {n : Nat} {mk : α → Value} {d : Option (List α)} (h : SlAt w ao n mk d) (hb : Below w.heap.size w w') : SlAt w' ao n mk d := by
  cases d with
  | none => exact h
  | some l =>
    obtain ⟨h1, h2, h3⟩ := h
    refine ⟨h1, h2, fun i x hx => ?_⟩
    obtain ⟨b, off, e, hc⟩ := h3 i x hx
    exact ⟨b, off, e, (hb.cell (World.block_lt_of_cell? _ _ hc)).trans hc⟩

theorem ItAt.below {α : Type} {w w' : World} {ao : Option Addr} {n : Nat} {R R' : Hd → α → Prop} {d : Option (List α)} (h : ItAt w ao n R d) (hb : Below w.heap.size w w') (hR : ∀ g x, R g x → R' g x) : ItAt w' ao n R' d := by
  cases d with
  | none => exact h
  | some l =>
    obtain ⟨h1, h2, h3⟩ := h
    refine ⟨h1, h2, fun i x hx => ?_⟩
    obtain ⟨b, off, g, e, hc, hr⟩ := h3 i x hx
    exact ⟨b, off, g, e, hc.below hb, hR g x hr⟩

theorem Rd.below {w w' : World} (hb : Below w.heap.size w w') : ∀ {n : Nat} {h : Hd} {D : T n}, Rd w n h D → Rd w' n h D := by
  intro n
  induction n with
  | zero => intro h D hr; exact hr
  | succ n ih =>
    intro h D hr
    obtain ⟨h1, h2, h3, h4, h5⟩ := hr
    exact ⟨h1, h2, h3.below hb, h4.below hb, h5.below hb (fun g x => ih)⟩
end Go.Proofs.Qxb6626323aFmt
