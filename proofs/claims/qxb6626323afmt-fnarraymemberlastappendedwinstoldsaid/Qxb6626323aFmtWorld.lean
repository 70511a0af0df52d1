/-
  Worlds that agree on the call's own blocks; the three blocks that toV lays first; rows that are filled cell by cell.
-/
import Derived.Test.Qxb6626323aFmtBud
import Derived.Deep.OwnRows
namespace Go.Proofs.Qxb6626323aFmt
open Go.RowKit

/-- w'' holds what w holds in each block from lo on. -/
def Agree (lo : Nat) (w w'' : World) : Prop := ∀ b, lo ≤ b → b < w.heap.size → w''.heap[b]? = w.heap[b]?
theorem Agree.refl (lo : Nat) (w : World) : Agree lo w w := fun _ _ _ => rfl
theorem Agree.mono {lo lo' : Nat} {w w'' : World} (h : Agree lo w w'') (hl : lo ≤ lo') : Agree lo' w w'' := fun b h1 h2 => h b (Nat.le_trans hl h1) h2
/-- The world has grown, and below lo it may have turned. -/
theorem Agree.back {lo : Nat} {w w1 w'' : World} (h : Agree lo w1 w'') (hs : w.heap.size ≤ w1.heap.size) (hb : ∀ b, lo ≤ b → b < w.heap.size → w1.heap[b]? = w.heap[b]?) : Agree lo w w'' :=
  fun b h1 h2 => (h b h1 (by omega)).trans (hb b h1 h2)
theorem Agree.below {lo : Nat} {w w1 w'' : World} (h : Agree lo w1 w'') (hb : Below w.heap.size w w1) : Agree lo w w'' := h.back hb.size (fun b _ h2 => hb.block b h2)
theorem Agree.set {lo : Nat} {w w'' : World} {a : Addr} {v : Value} (h : Agree lo (w.setCell a v) w'') (ha : a.block < lo) : Agree lo w w'' :=
  h.back (by simp [World.setCell]) (fun b h1 _ => Below.heap_setCell _ _ _ _ (by omega))

/-- The three blocks that toV lays first: the argument's box; the result; the value that is built. -/
structure Box (w wc : World) (h g : Hd) : Prop where
  below : Below w.heap.size w wc
  size : w.heap.size + 3 ≤ wc.heap.size
  box : wc.heap[w.heap.size]? = some (.cells #[.int .u8 h.k, .slice h.ra h.rl h.rc, .slice h.ia h.il h.ic, .slice h.na h.nl h.nc] 26 (0, 0))
  res : wc.heap[w.heap.size + 1]? = some (.cells #[.int .u8 0, .slice none 0 0, .slice none 0 0, .slice none 0 0] 30 (0, 0))
  out : wc.heap[w.heap.size + 1 + 1]? = some (.cells #[.int .u8 g.k, .slice g.ra g.rl g.rc, .slice g.ia g.il g.ic, .slice g.na g.nl g.nc] 30 (0, 0))

theorem Box.next {w wc wd : World} {h g : Hd} (k : Box w wc h g) (hb : Below (w.heap.size + 3) wc wd) : Box w wd h g :=
  ⟨k.below.trans (hb.mono (by omega)), Nat.le_trans k.size hb.size, (hb.block _ (by omega)).trans k.box, (hb.block _ (by omega)).trans k.res, (hb.block _ (by omega)).trans k.out⟩

theorem Box.cells {w wc : World} {h g : Hd} (k : Box w wc h g) :
    (wc.cell? ⟨w.heap.size, 0, none⟩ = some (.int .u8 h.k) ∧ wc.cell? ⟨w.heap.size, 1, none⟩ = some (.slice h.ra h.rl h.rc) ∧ wc.cell? ⟨w.heap.size, 2, none⟩ = some (.slice h.ia h.il h.ic) ∧ wc.cell? ⟨w.heap.size, 3, none⟩ = some (.slice h.na h.nl h.nc)) ∧
    (wc.cell? ⟨w.heap.size + 1 + 1, 0, none⟩ = some (.int .u8 g.k) ∧ wc.cell? ⟨w.heap.size + 1 + 1, 1, none⟩ = some (.slice g.ra g.rl g.rc) ∧ wc.cell? ⟨w.heap.size + 1 + 1, 2, none⟩ = some (.slice g.ia g.il g.ic) ∧ wc.cell? ⟨w.heap.size + 1 + 1, 3, none⟩ = some (.slice g.na g.nl g.nc)) ∧
    (∀ o, wc.frozen? ⟨w.heap.size + 1 + 1, o, none⟩ = false) ∧ (∀ o, wc.frozen? ⟨w.heap.size + 1, o, none⟩ = false) ∧
    (wc.cell? ⟨w.heap.size + 1, 0, none⟩ = some (.int .u8 0) ∧ wc.cell? ⟨w.heap.size + 1, 1, none⟩ = some (.slice none 0 0) ∧ wc.cell? ⟨w.heap.size + 1, 2, none⟩ = some (.slice none 0 0) ∧ wc.cell? ⟨w.heap.size + 1, 3, none⟩ = some (.slice none 0 0)) := by
  refine ⟨⟨?_, ?_, ?_, ?_⟩, ⟨?_, ?_, ?_, ?_⟩, fun o => ?_, fun o => ?_, ⟨?_, ?_, ?_, ?_⟩⟩ <;> simp [World.cell?, World.frozen?, k.box, k.out, k.res]

theorem Box.setRaw {w wc : World} {h g : Hd} (k : Box w wc h g) (a : Option Addr) (l c : Nat) : Box w (wc.setCell ⟨w.heap.size + 1 + 1, 1, none⟩ (.slice a l c)) h ⟨g.k, a, l, c, g.ia, g.il, g.ic, g.na, g.nl, g.nc⟩ :=
  ⟨k.below.setCell (by simp only; omega) _, by simpa [World.setCell] using k.size, (Below.heap_setCell _ _ _ _ (by simp only; omega)).trans k.box, (Below.heap_setCell _ _ _ _ (by simp only; omega)).trans k.res, by simp [World.setCell, Array.getElem?_modify, k.out]⟩
theorem Box.setItems {w wc : World} {h g : Hd} (k : Box w wc h g) (a : Option Addr) (l c : Nat) : Box w (wc.setCell ⟨w.heap.size + 1 + 1, 2, none⟩ (.slice a l c)) h ⟨g.k, g.ra, g.rl, g.rc, a, l, c, g.na, g.nl, g.nc⟩ :=
  ⟨k.below.setCell (by simp only; omega) _, by simpa [World.setCell] using k.size, (Below.heap_setCell _ _ _ _ (by simp only; omega)).trans k.box, (Below.heap_setCell _ _ _ _ (by simp only; omega)).trans k.res, by simp [World.setCell, Array.getElem?_modify, k.out]⟩
theorem Box.setNames {w wc : World} {h g : Hd} (k : Box w wc h g) (a : Option Addr) (l c : Nat) : Box w (wc.setCell ⟨w.heap.size + 1 + 1, 3, none⟩ (.slice a l c)) h ⟨g.k, g.ra, g.rl, g.rc, g.ia, g.il, g.ic, a, l, c⟩ :=
  ⟨k.below.setCell (by simp only; omega) _, by simpa [World.setCell] using k.size, (Below.heap_setCell _ _ _ _ (by simp only; omega)).trans k.box, (Below.heap_setCell _ _ _ _ (by simp only; omega)).trans k.res, by simp [World.setCell, Array.getElem?_modify, k.out]⟩

theorem box_start (w : World) (k : Int) (ra : Option Addr) (rl rc : Nat) (ia : Option Addr) (il ic : Nat) (na : Option Addr) (nl nc : Nat) :
    Box w (((w.alloc (.cells #[.int .u8 k, .slice ra rl rc, .slice ia il ic, .slice na nl nc] 26)).alloc (.cells #[.int .u8 0, .slice none 0 0, .slice none 0 0, .slice none 0 0] 30)).alloc (.cells #[.int .u8 k, .slice none 0 0, .slice none 0 0, .slice none 0 0] 30))
      ⟨k, ra, rl, rc, ia, il, ic, na, nl, nc⟩ ⟨k, none, 0, 0, none, 0, 0, none, 0, 0⟩ := by
  have s1 : ∀ (u : World) (o : Obj), (u.alloc o).heap.size = u.heap.size + 1 := fun u o => by simp
  refine ⟨(((Below.refl _ _).alloc (Nat.le_refl _) _).alloc (by simp) _).alloc (by simp; omega) _, by simp, ?_, ?_, ?_⟩
  · rw [Below.heap_alloc _ _ _ (by simp; omega), Below.heap_alloc _ _ _ (by simp)]
    exact heap_alloc_new w _
  · rw [Below.heap_alloc _ _ _ (by simp)]
    rw [← s1 w (.cells #[.int .u8 k, .slice ra rl rc, .slice ia il ic, .slice na nl nc] 26)]
    exact heap_alloc_new _ _
  · rw [← s1 w (.cells #[.int .u8 k, .slice ra rl rc, .slice ia il ic, .slice na nl nc] 26), ← s1 (w.alloc _) (.cells #[.int .u8 0, .slice none 0 0, .slice none 0 0, .slice none 0 0] 30)]
    exact heap_alloc_new _ _

theorem SlAt.nil {α : Type} {w : World} {n : Nat} {mk : α → Value} {d : Option (List α)} (h : SlAt w none n mk d) : n = 0 ∧ d = none := by
  cases d with
  | none => exact ⟨h.2, rfl⟩
  | some l => exact absurd rfl h.1
theorem SlAt.full {α : Type} {w : World} {a : Addr} {n : Nat} {mk : α → Value} {d : Option (List α)} (h : SlAt w (some a) n mk d) : ∃ l, d = some l ∧ l.length = n := by
  cases d with
  | none => cases h.1
  | some l => exact ⟨l, rfl, h.2.1⟩
theorem ItAt.nil {α : Type} {w : World} {n : Nat} {R : Hd → α → Prop} {d : Option (List α)} (h : ItAt w none n R d) : n = 0 ∧ d = none := by
  cases d with
  | none => exact ⟨h.2, rfl⟩
  | some l => exact absurd rfl h.1
theorem ItAt.full {α : Type} {w : World} {a : Addr} {n : Nat} {R : Hd → α → Prop} {d : Option (List α)} (h : ItAt w (some a) n R d) : ∃ l, d = some l ∧ l.length = n := by
  cases d with
  | none => cases h.1
  | some l => exact ⟨l, rfl, h.2.1⟩

/-- A row of n one-cell elements in block G, the first j of which are those of l. -/
def Row {α : Type} (w : World) (G : Nat) (e : TypeId) (n j : Nat) (l : List α) (mk : α → Value) : Prop := ∃ f, w.rowIs G e n f ∧ ∀ i x, i < j → l[i]? = some x → f i = mk x

theorem Row.set {α : Type} {w : World} {G : Nat} {e : TypeId} {n j : Nat} {l : List α} {mk : α → Value} (h : Row w G e n j l mk) {x : α} (hx : l[j]? = some x) : Row (w.setCell ⟨G, j, none⟩ (mk x)) G e n (j + 1) l mk := by
  obtain ⟨f, hf, hc⟩ := h
  refine ⟨_, hf.set j (mk x), fun i y hi hy => ?_⟩
  by_cases e : i = j
  · subst e
    rw [if_pos rfl]
    rw [hx] at hy
    cases hy
    rfl
  · rw [if_neg e]; exact hc i y (by omega) hy
theorem Row.cell {α : Type} {w : World} {G : Nat} {e : TypeId} {n j : Nat} {l : List α} {mk : α → Value} (h : Row w G e n j l mk) {i : Nat} (hi : i < n) : ∃ v, w.cell? ⟨G, i, none⟩ = some v := by
  obtain ⟨f, hf, _⟩ := h
  exact ⟨_, hf.cell hi⟩
theorem Row.frozen {α : Type} {w : World} {G : Nat} {e : TypeId} {n j : Nat} {l : List α} {mk : α → Value} (h : Row w G e n j l mk) (i : Nat) : w.frozen? ⟨G, i, none⟩ = false := by
  obtain ⟨f, hf, _⟩ := h
  exact hf.frozen i
theorem Row.lt {α : Type} {w : World} {G : Nat} {e : TypeId} {n j : Nat} {l : List α} {mk : α → Value} (h : Row w G e n j l mk) : G < w.heap.size := by
  obtain ⟨f, hf, _⟩ := h
  exact hf.lt
theorem Row.slAt {α : Type} {w w'' : World} {G lo : Nat} {e : TypeId} {n : Nat} {l : List α} {mk : α → Value} (h : Row w G e n n l mk) (hl : l.length = n) (hlo : lo ≤ G) (ha : Agree lo w w'') : SlAt w'' (some ⟨G, 0, none⟩) n mk (some l) := by
  have hlt := h.lt
  obtain ⟨f, hf, hc⟩ := h
  refine ⟨by simp, hl, fun i x hx => ⟨G, 0, rfl, ?_⟩⟩
  have hi : i < n := by
    rcases Nat.lt_or_ge i n with h | h
    · exact h
    · rw [List.getElem?_eq_none (by omega)] at hx; cases hx
  rw [Nat.zero_add, (hf.of_block (ha G hlo hlt)).cell hi, hc i x hi hx]
theorem Row.made {α : Type} (w : World) (z : Value) (n : Nat) (e : TypeId) (l : List α) (mk : α → Value) : Row (w.alloc (.cells (madeCells #[z] n) e)) w.heap.size e n 0 l mk :=
  ⟨_, World.rowIs_made w z n e, fun i x hi => by omega⟩

theorem Agree.trans {lo : Nat} {w w1 w'' : World} (h : Agree lo w w1) (k : Agree lo w1 w'') (hs : w.heap.size ≤ w1.heap.size) : Agree lo w w'' := fun b h1 h2 => (k b h1 (by omega)).trans (h b h1 h2)
theorem Agree.on {lo : Nat} {w w1 w2 : World} (h : Agree lo w w1) (hs : w.heap.size ≤ w1.heap.size) (hb : Below w1.heap.size w1 w2) : Agree lo w w2 := fun b h1 h2 => (hb.block b (by omega)).trans (h b h1 h2)
theorem Agree.store {lo : Nat} {w w1 : World} {a : Addr} {v : Value} (h : Agree lo w w1) (ha : a.block < lo ∨ w.heap.size ≤ a.block) : Agree lo w (w1.setCell a v) := fun b h1 h2 => (Below.heap_setCell _ _ _ _ (by omega)).trans (h b h1 h2)

/-- A row of n four-cell elements in block G, the first j of which read, by R, as those of l. -/
def RowIt {α : Type} (w : World) (G n j : Nat) (l : List α) (R : World → Hd → α → Prop) : Prop :=
  ∃ cur : Array Value, w.heap[G]? = some (.cells cur 30 (0, 0)) ∧ cur.size = n * 4 ∧ ∀ i x, i < j → l[i]? = some x →
    ∃ g : Hd, (cur[i * 4]? = some (.int .u8 g.k) ∧ cur[i * 4 + 1]? = some (.slice g.ra g.rl g.rc) ∧ cur[i * 4 + 2]? = some (.slice g.ia g.il g.ic) ∧ cur[i * 4 + 3]? = some (.slice g.na g.nl g.nc)) ∧ ∀ w'', Agree (G + 1) w w'' → R w'' g x

theorem RowIt.lt {α : Type} {w : World} {G n j : Nat} {l : List α} {R : World → Hd → α → Prop} (h : RowIt w G n j l R) : G < w.heap.size := by
  obtain ⟨cur, hb, _⟩ := h
  obtain ⟨hlt, _⟩ := Array.getElem?_eq_some_iff.1 hb
  exact hlt
theorem RowIt.below {α : Type} {w w2 : World} {G n j : Nat} {l : List α} {R : World → Hd → α → Prop} (h : RowIt w G n j l R) (hb : Below w.heap.size w w2) : RowIt w2 G n j l R := by
  have hlt := h.lt
  obtain ⟨cur, hh, hs, hc⟩ := h
  refine ⟨cur, (hb.block G hlt).trans hh, hs, fun i x hi hx => ?_⟩
  obtain ⟨g, hg, hr⟩ := hc i x hi hx
  exact ⟨g, hg, fun w'' ha => hr w'' (ha.below hb)⟩
theorem RowIt.cell {α : Type} {w : World} {G n j : Nat} {l : List α} {R : World → Hd → α → Prop} (h : RowIt w G n j l R) {i : Nat} (hi : i < n * 4) : ∃ v, w.cell? ⟨G, i, none⟩ = some v := by
  obtain ⟨cur, hb, hs, _⟩ := h
  exact ⟨cur[i], by simp [World.cell?, hb]⟩
theorem RowIt.frozen {α : Type} {w : World} {G n j : Nat} {l : List α} {R : World → Hd → α → Prop} (h : RowIt w G n j l R) (i : Nat) : w.frozen? ⟨G, i, none⟩ = false := by
  obtain ⟨cur, hb, _⟩ := h
  simp [World.frozen?, hb]
theorem RowIt.made {α : Type} (w : World) (z : Array Value) (n : Nat) (l : List α) (R : World → Hd → α → Prop) : RowIt (w.alloc (.cells (madeCells z (n * 4)) 30)) w.heap.size n 0 l R :=
  ⟨_, heap_alloc_new _ _, size_madeCells _ _, fun i x hi => by omega⟩
/-- Four cells stored at place o of block G. -/
abbrev put4 (w : World) (G o : Nat) (r : Hd) : World :=
  (((w.setCell ⟨G, o, none⟩ (.int .u8 r.k)).setCell ⟨G, o + 1, none⟩ (.slice r.ra r.rl r.rc)).setCell ⟨G, o + 2, none⟩ (.slice r.ia r.il r.ic)).setCell ⟨G, o + 3, none⟩ (.slice r.na r.nl r.nc)

theorem set_block {w : World} {G : Nat} {cur : Array Value} {t : TypeId} {fr : Nat × Nat} (h : w.heap[G]? = some (.cells cur t fr)) (i : Nat) (v : Value) : (w.setCell ⟨G, i, none⟩ v).heap[G]? = some (.cells (cur.setIfInBounds i v) t fr) := by
  simp [World.setCell, Array.getElem?_modify, h]

theorem RowIt.store {α : Type} {w : World} {G n j : Nat} {l : List α} {R : World → Hd → α → Prop} (h : RowIt w G n j l R) (hj : j < n) {x : α} (hx : l[j]? = some x) (r : Hd) (hr : ∀ w'', Agree (G + 1) w w'' → R w'' r x) : RowIt (put4 w G (j * 4) r) G n (j + 1) l R := by
  obtain ⟨cur, hh, hs, hc⟩ := h
  have b0 := set_block hh (j * 4) (.int .u8 r.k)
  have b1 := set_block b0 (j * 4 + 1) (.slice r.ra r.rl r.rc)
  have b2 := set_block b1 (j * 4 + 2) (.slice r.ia r.il r.ic)
  have b3 := set_block b2 (j * 4 + 3) (.slice r.na r.nl r.nc)
  have back : ∀ w'', Agree (G + 1) (put4 w G (j * 4) r) w'' → Agree (G + 1) w w'' := fun w'' ha =>
    (((ha.set (by simp only; omega)).set (by simp only; omega)).set (by simp only; omega)).set (by simp only; omega)
  refine ⟨_, b3, by simpa using hs, fun i y hi hy => ?_⟩
  by_cases e : i = j
  · subst e
    rw [hx] at hy
    cases hy
    refine ⟨r, ⟨?_, ?_, ?_, ?_⟩, fun w'' ha => hr w'' (back w'' ha)⟩
    · rw [Array.getElem?_setIfInBounds_ne (by omega), Array.getElem?_setIfInBounds_ne (by omega), Array.getElem?_setIfInBounds_ne (by omega), Array.getElem?_setIfInBounds_self_of_lt (by omega)]
    · rw [Array.getElem?_setIfInBounds_ne (by omega), Array.getElem?_setIfInBounds_ne (by omega), Array.getElem?_setIfInBounds_self_of_lt (by simp; omega)]
    · rw [Array.getElem?_setIfInBounds_ne (by omega), Array.getElem?_setIfInBounds_self_of_lt (by simp; omega)]
    · rw [Array.getElem?_setIfInBounds_self_of_lt (by simp; omega)]
  · obtain ⟨g, ⟨g0, g1, g2, g3⟩, hg⟩ := hc i y (by omega) hy
    refine ⟨g, ⟨?_, ?_, ?_, ?_⟩, fun w'' ha => hg w'' (back w'' ha)⟩
    · rw [Array.getElem?_setIfInBounds_ne (by omega), Array.getElem?_setIfInBounds_ne (by omega), Array.getElem?_setIfInBounds_ne (by omega), Array.getElem?_setIfInBounds_ne (by omega), g0]
    · rw [Array.getElem?_setIfInBounds_ne (by omega), Array.getElem?_setIfInBounds_ne (by omega), Array.getElem?_setIfInBounds_ne (by omega), Array.getElem?_setIfInBounds_ne (by omega), g1]
    · rw [Array.getElem?_setIfInBounds_ne (by omega), Array.getElem?_setIfInBounds_ne (by omega), Array.getElem?_setIfInBounds_ne (by omega), Array.getElem?_setIfInBounds_ne (by omega), g2]
    · rw [Array.getElem?_setIfInBounds_ne (by omega), Array.getElem?_setIfInBounds_ne (by omega), Array.getElem?_setIfInBounds_ne (by omega), Array.getElem?_setIfInBounds_ne (by omega), g3]

theorem below_put4 {B G o : Nat} {w : World} (r : Hd) (h : B ≤ G) : Below B w (put4 w G o r) :=
  ((((Below.refl _ _).setCell h _).setCell h _).setCell h _).setCell h _
theorem agree_put4 {lo G o : Nat} {w w1 : World} (r : Hd) (h : Agree lo w w1) (hg : w.heap.size ≤ G) : Agree lo w (put4 w1 G o r) :=
  (((h.store (Or.inr hg)).store (Or.inr hg)).store (Or.inr hg)).store (Or.inr hg)
theorem size_put4 (w : World) (G o : Nat) (r : Hd) : (put4 w G o r).heap.size = w.heap.size := by simp [put4, World.setCell]

theorem RowIt.itAt {α : Type} {w w'' : World} {G lo n : Nat} {l : List α} {R : World → Hd → α → Prop} (h : RowIt w G n n l R) (hl : l.length = n) (hlo : lo ≤ G) (ha : Agree lo w w'') : ItAt w'' (some ⟨G, 0, none⟩) n (R w'') (some l) := by
  have hlt := h.lt
  obtain ⟨cur, hh, hs, hc⟩ := h
  refine ⟨by simp, hl, fun i x hx => ?_⟩
  have hi : i < n := by
    rcases Nat.lt_or_ge i n with h | h
    · exact h
    · rw [List.getElem?_eq_none (by omega)] at hx; cases hx
  obtain ⟨g, ⟨g0, g1, g2, g3⟩, hr⟩ := hc i x hi hx
  have hb := (ha G hlo hlt).trans hh
  refine ⟨G, 0, g, rfl, ?_, hr w'' (ha.mono (by omega))⟩
  refine ⟨?_, ?_, ?_, ?_⟩ <;> rw [Nat.zero_add] <;> simp [World.cell?, hb, g0, g1, g2, g3]
end Go.Proofs.Qxb6626323aFmt
