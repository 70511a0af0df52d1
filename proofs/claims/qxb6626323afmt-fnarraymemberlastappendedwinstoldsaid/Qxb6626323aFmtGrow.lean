/-
  What 'append' makes of a slice of names and of a slice of items; the last place behind it: no walk here.
-/
import Derived.Test.Qxb6626323aFmtAgrees
import Derived.Test.Qxb6626323aFmtOpen
namespace Go.Proofs.Qxb6626323aFmt
open Go.RowKit

/-! ### The last place behind an append -/

theorem hit_old {n : Nat} {N : List ByteArray} {I : List (T (n + 1))} {nm : ByteArray} {E : T (n + 1)} {i : Nat} (h1 : i < N.length) (h2 : i < I.length) : hitB (N ++ [nm]) (I ++ [E]) nm i = hitB N I nm i := by
  unfold hitB
  rw [List.getElem?_append_left h1, List.getElem?_append_left h2]
theorem hit_new {n : Nat} {N : List ByteArray} {I : List (T (n + 1))} {nm : ByteArray} {E : T (n + 1)} (h : N.length = I.length) : hitB (N ++ [nm]) (I ++ [E]) nm I.length = (T.kind E != 0) := by
  unfold hitB
  rw [List.getElem?_append_right (by omega), List.getElem?_append_right (Nat.le_refl _), h, Nat.sub_self]
  simp

theorem last_hit {n nl : Nat} {N : List ByteArray} {I : List (T (n + 1))} {nm : ByteArray} {E : T (n + 1)} {r : Option Nat} (hN : N.length = nl) (hI : I.length = nl) (hk : T.kind E ≠ 0) (h : Last (hitB (N ++ [nm]) (I ++ [E]) nm) (nl + 1) r) : r = some nl := by
  refine last_unique h (s := some nl) ⟨by omega, ?_, fun j h1 h2 => by omega⟩
  have := hit_new (E := E) (nm := nm) (hN.trans hI.symm)
  rw [hI] at this
  rw [this]
  simpa using hk
theorem last_miss {n nl : Nat} {N : List ByteArray} {I : List (T (n + 1))} {nm : ByteArray} {E : T (n + 1)} {r : Option Nat} (hN : N.length = nl) (hI : I.length = nl) (hk : T.kind E = 0) (h : Last (hitB (N ++ [nm]) (I ++ [E]) nm) (nl + 1) r) : Last (hitB N I nm) nl r := by
  have hn : hitB (N ++ [nm]) (I ++ [E]) nm nl = false := by
    have := hit_new (E := E) (nm := nm) (hN.trans hI.symm)
    rw [hI] at this
    rw [this, hk]; rfl
  have ho : ∀ i, i < nl → hitB (N ++ [nm]) (I ++ [E]) nm i = hitB N I nm i := fun i hi => hit_old (by omega) (by omega)
  cases r with
  | none => exact fun i hi => by rw [← ho i hi]; exact h i (by omega)
  | some i =>
    obtain ⟨h1, h2, h3⟩ := h
    have hi : i < nl := by
      rcases Nat.lt_or_ge i nl with e | e
      · exact e
      · have : i = nl := by omega
        subst this; rw [hn] at h2; cases h2
    exact ⟨hi, by rw [← ho i hi]; exact h2, fun j h4 h5 => by rw [← ho j h5]; exact h3 j h4 (by omega)⟩

/-! ### Rows that append has made -/

theorem own_cells {w : World} {B : Nat} {e : TypeId} {size n : Nat} {v : Value} {xs : List Value} (h : w.ownsRow B e size v n xs) (hn : 0 < n) :
    ∃ G cap, v = .slice (some ⟨G, 0, none⟩) n cap ∧ B ≤ G ∧ G < w.heap.size ∧ ∀ w'' : World, w''.heap[G]? = w.heap[G]? → ∀ j u, xs[j]? = some u → w''.cell? ⟨G, j, none⟩ = some u := by
  have h2 := h.2
  rcases h2 with ⟨_, h0⟩ | ⟨g, cap, cur, hv, hg, hh, _, _, _, ht⟩
  · omega
  · refine ⟨g, cap, hv, hg, ?_, fun w'' hw j u hu => ?_⟩
    · obtain ⟨hlt, _⟩ := Array.getElem?_eq_some_iff.1 hh
      exact hlt
    · rw [← ht] at hu
      have hj : cur[j]? = some u := by
        rw [List.getElem?_take] at hu
        split at hu
        · simpa using hu
        · cases hu
      have hb := hw.trans hh
      simp [World.cell?, hb, hj]

/-- The names' cells as append reads them. -/
theorem names_olds {w : World} {ao : Option Addr} {n : Nat} {d : Option (List ByteArray)} (h : SlAt w ao n Value.string d) :
    (ao = none → n = 0) ∧ (((d.getD []).map Value.string).length = n * 1) ∧ ∀ b, ao = some b → ∀ j u, ((d.getD []).map Value.string)[j]? = some u → w.cell? (b.add j) = some u := by
  refine ⟨fun e => by subst e; exact h.nil.1, by rw [List.length_map, h.length, Nat.mul_one], fun b e j u hu => ?_⟩
  rw [List.getElem?_map] at hu
  obtain ⟨s, hs, rfl⟩ := Option.map_eq_some_iff.1 hu
  have hn : 0 < n := by
    rw [← h.length]
    rcases Nat.lt_or_ge j (d.getD []).length with h | h
    · omega
    · rw [List.getElem?_eq_none h] at hs; cases hs
  obtain ⟨b', o', e', hc⟩ := h.cell hn
  rw [e] at e'
  simp only [Option.some.injEq] at e'
  subst e'
  rw [add_none]
  exact hc j s hs

theorem names_grown {w'' : World} {G n : Nat} {N : List ByteArray} {nm : ByteArray} (hN : N.length = n) (hc : ∀ j u, (N.map Value.string ++ [Value.string nm])[j]? = some u → w''.cell? ⟨G, j, none⟩ = some u) :
    SlAt w'' (some ⟨G, 0, none⟩) (n + 1) Value.string (some (N ++ [nm])) := by
  refine ⟨by simp, by simp [hN], fun i x hx => ⟨G, 0, rfl, ?_⟩⟩
  rw [Nat.zero_add]
  refine hc i _ ?_
  rw [← List.map_singleton (f := Value.string), ← List.map_append, List.getElem?_map, hx]
  rfl

/-- The items' cells as append reads them. -/
theorem items_olds {α : Type} {w : World} {ao : Option Addr} {n : Nat} {R : Hd → α → Prop} {d : Option (List α)} (h : ItAt w ao n R d) :
    (ao = none → n = 0) ∧ ∃ olds : List Value, olds.length = n * 4 ∧ (∀ b, ao = some b → ∀ j u, olds[j]? = some u → w.cell? (b.add j) = some u) ∧
      ∀ i x, (d.getD [])[i]? = some x → ∃ g, R g x ∧ olds[i * 4]? = some (.int .u8 g.k) ∧ olds[i * 4 + 1]? = some (.slice g.ra g.rl g.rc) ∧ olds[i * 4 + 2]? = some (.slice g.ia g.il g.ic) ∧ olds[i * 4 + 3]? = some (.slice g.na g.nl g.nc) := by
  refine ⟨fun e => by subst e; exact h.nil.1, ?_⟩
  by_cases hn : n = 0
  · subst hn
    refine ⟨[], rfl, fun b _ j u hu => by simp at hu, fun i x hx => ?_⟩
    have := h.length
    rw [List.getElem?_eq_none (by omega)] at hx
    cases hx
  · obtain ⟨b, off, e, hc⟩ := h.cell (by omega)
    have hlen := h.length
    have each : ∀ j, j < n * 4 → ∃ u, w.cell? ⟨b, off + j, none⟩ = some u := fun j hj => by
      obtain ⟨g, ⟨c0, c1, c2, c3⟩, _⟩ := hc (j / 4) _ (List.getElem?_eq_getElem (by omega))
      have hr : j % 4 = 0 ∨ j % 4 = 1 ∨ j % 4 = 2 ∨ j % 4 = 3 := by omega
      rcases hr with hr | hr | hr | hr
      · exact ⟨_, by rw [show off + j = off + j / 4 * 4 by omega]; exact c0⟩
      · exact ⟨_, by rw [show off + j = off + j / 4 * 4 + 1 by omega]; exact c1⟩
      · exact ⟨_, by rw [show off + j = off + j / 4 * 4 + 2 by omega]; exact c2⟩
      · exact ⟨_, by rw [show off + j = off + j / 4 * 4 + 3 by omega]; exact c3⟩
    obtain ⟨olds, hl, hp⟩ := list_of each
    have key : ∀ j v, j < n * 4 → w.cell? ⟨b, off + j, none⟩ = some v → olds[j]? = some v := fun j v hj hv => by
      have h1 := List.getElem?_eq_getElem (l := olds) (i := j) (by omega)
      have h2 := hp j _ h1
      rw [hv] at h2
      rw [h1, ← h2]
    refine ⟨olds, hl, fun b' e' j u hu => ?_, fun i x hx => ?_⟩
    · rw [e] at e'
      simp only [Option.some.injEq] at e'
      subst e'
      rw [add_none]
      exact hp j u hu
    · have hi : i < n := by
        rcases Nat.lt_or_ge i n with h | h
        · exact h
        · rw [List.getElem?_eq_none (by omega)] at hx; cases hx
      obtain ⟨g, ⟨c0, c1, c2, c3⟩, hr⟩ := hc i x hx
      exact ⟨g, hr, key _ _ (by omega) c0, key _ _ (by omega) (by rw [← Nat.add_assoc]; exact c1), key _ _ (by omega) (by rw [← Nat.add_assoc]; exact c2), key _ _ (by omega) (by rw [← Nat.add_assoc]; exact c3)⟩

theorem items_grown {α : Type} {w'' : World} {G n : Nat} {R R' : Hd → α → Prop} {I : List α} {E : α} {ve : Hd} {olds : List Value} (hI : I.length = n) (hl : olds.length = n * 4)
    (ho : ∀ i x, I[i]? = some x → ∃ g, R g x ∧ olds[i * 4]? = some (.int .u8 g.k) ∧ olds[i * 4 + 1]? = some (.slice g.ra g.rl g.rc) ∧ olds[i * 4 + 2]? = some (.slice g.ia g.il g.ic) ∧ olds[i * 4 + 3]? = some (.slice g.na g.nl g.nc))
    (hc : ∀ j u, (olds ++ [Value.int .u8 ve.k, .slice ve.ra ve.rl ve.rc, .slice ve.ia ve.il ve.ic, .slice ve.na ve.nl ve.nc])[j]? = some u → w''.cell? ⟨G, j, none⟩ = some u)
    (hR : ∀ g x, R g x → R' g x) (hE : R' ve E) : ItAt w'' (some ⟨G, 0, none⟩) (n + 1) R' (some (I ++ [E])) := by
  refine ⟨by simp, by simp [hI], fun i x hx => ?_⟩
  by_cases hi : i < n
  · rw [List.getElem?_append_left (by omega)] at hx
    obtain ⟨g, hg, g0, g1, g2, g3⟩ := ho i x hx
    refine ⟨G, 0, g, rfl, ⟨?_, ?_, ?_, ?_⟩, hR g x hg⟩ <;> rw [Nat.zero_add]
    · exact hc _ _ (by rw [List.getElem?_append_left (by omega)]; exact g0)
    · exact hc _ _ (by rw [List.getElem?_append_left (by omega)]; exact g1)
    · exact hc _ _ (by rw [List.getElem?_append_left (by omega)]; exact g2)
    · exact hc _ _ (by rw [List.getElem?_append_left (by omega)]; exact g3)
  · have e : i = n := by
      rcases Nat.lt_or_ge n i with h | h
      · rw [List.getElem?_eq_none (by simp; omega)] at hx; cases hx
      · omega
    subst e
    rw [List.getElem?_append_right (by omega), hI, Nat.sub_self] at hx
    simp at hx
    subst hx
    refine ⟨G, 0, ve, rfl, ⟨?_, ?_, ?_, ?_⟩, hE⟩ <;> rw [Nat.zero_add]
    · exact hc _ _ (by rw [List.getElem?_append_right (by omega), hl, Nat.sub_self]; rfl)
    · exact hc _ _ (by rw [List.getElem?_append_right (by omega), hl, show i * 4 + 1 - i * 4 = 1 by omega]; rfl)
    · exact hc _ _ (by rw [List.getElem?_append_right (by omega), hl, show i * 4 + 2 - i * 4 = 2 by omega]; rfl)
    · exact hc _ _ (by rw [List.getElem?_append_right (by omega), hl, show i * 4 + 3 - i * 4 = 3 by omega]; rfl)

/-! ### ArrayMember's answer, by the value that it has found -/

/-- The elements of an array; an error where there is none. -/
def Ans {n : Nat} (W : World) (v : Value) (o : Option (T (n + 1))) : Prop :=
  (∃ (x : T (n + 1)) (c : Hd), o = some x ∧ T.kind x = 91 ∧ Rd W (n + 1) c x ∧ v = .tuple #[.slice c.ia c.il c.ic, .nilIface]) ∨
  ((∀ x, o = some x → T.kind x ≠ 91) ∧ ∃ a : Addr, v = .tuple #[.slice none 0 0, .iface 52 (.pointer (some a))])

theorem ans_of {n m k : Nat} {W : World} {ia : Option Addr} {v : Value} {r : Option Nat} {d : Option (List (T (n + 1)))} {N : List ByteArray} {nm : ByteArray} (h : ItAt W ia m (Rd W (n + 1)) d) (hl : Last (hitB N (d.getD []) nm) k r) (ha : Arr W ia v r) : Ans W v (r.bind fun i => (d.getD [])[i]?) := by
  cases r with
  | none => exact Or.inr ⟨fun x e => (by cases e), ha⟩
  | some i =>
    obtain ⟨c, b, off, hia, hc, hv⟩ := ha
    obtain ⟨x, hx, _⟩ := hl.item
    have hR := (h.down (Below.refl _ _) hx hia hc).2
    have hk : c.k = T.kind x := hR.1
    rw [hk] at hv
    show Ans W v ((d.getD [])[i]?)
    rw [hx]
    rcases hv with ⟨e, hv⟩ | ⟨e, hv⟩
    · exact Or.inl ⟨x, c, rfl, e, hR, hv⟩
    · exact Or.inr ⟨fun y hy => by cases hy; exact e, hv⟩

/-- A member that is there: the answer is of it. -/
theorem ans_hit {n nl : Nat} {W : World} {ia : Option Addr} {v : Value} {r : Option Nat} {N : List ByteArray} {I : List (T (n + 1))} {nm : ByteArray} {E : T (n + 1)} (hN : N.length = nl) (hI : I.length = nl) (hk : T.kind E ≠ 0)
    (h : ItAt W ia (nl + 1) (Rd W (n + 1)) (some (I ++ [E]))) (hl : Last (hitB (N ++ [nm]) (I ++ [E]) nm) (nl + 1) r) (ha : Arr W ia v r) : Ans W v (some E) := by
  have hr := last_hit hN hI hk hl
  have := ans_of (d := some (I ++ [E])) h hl ha
  subst hr
  simp only [Option.getD_some, Option.bind_some] at this
  rwa [List.getElem?_append_right (by omega), hI, Nat.sub_self] at this
/-- A member that is missing: the answer is the one without it. -/
theorem ans_miss {n nl : Nat} {W : World} {ia : Option Addr} {v : Value} {r : Option Nat} {N : List ByteArray} {I : List (T (n + 1))} {nm : ByteArray} {E : T (n + 1)} (hN : N.length = nl) (hI : I.length = nl) (hk : T.kind E = 0)
    (h : ItAt W ia (nl + 1) (Rd W (n + 1)) (some (I ++ [E]))) (hl : Last (hitB (N ++ [nm]) (I ++ [E]) nm) (nl + 1) r) (ha : Arr W ia v r) : Ans W v (r.bind fun i => I[i]?) := by
  have hr := last_miss hN hI hk hl
  have := ans_of (d := some (I ++ [E])) h hl ha
  cases r with
  | none => exact this
  | some i =>
    simp only [Option.getD_some, Option.bind_some] at this
    have hi : i < nl := hr.1
    rw [List.getElem?_append_left (by omega)] at this
    exact this

/-! ### The worlds of the walk -/

theorem grown_below {w w' : World} (h : w.grownBy w' none) : Below w.heap.size w w' := ⟨h.os, h.tape, h.output, h.size, fun k hk => h.block k hk (by simp)⟩
theorem undrew {B : Nat} {w w' : World} (h : Below B w.drew w') : Below B w w' := ⟨h.os, h.tape, h.output, h.size, h.block⟩
theorem set_size (w : World) (a : Addr) (v : Value) : (w.setCell a v).heap.size = w.heap.size := by simp [World.setCell]
theorem set_far {w : World} {a : Addr} {v : Value} {k : Nat} (h : k ≠ a.block) : (w.setCell a v).heap[k]? = w.heap[k]? := by
  simp [World.setCell, Array.getElem?_modify, Ne.symm h]

theorem blk4 {w : World} {G : Nat} {a b c d : Value} {t : TypeId} (h : w.heap[G]? = some (.cells #[a, b, c, d] t (0, 0))) :
    (w.cell? ⟨G, 0, none⟩ = some a ∧ w.cell? ⟨G, 1, none⟩ = some b ∧ w.cell? ⟨G, 2, none⟩ = some c ∧ w.cell? ⟨G, 3, none⟩ = some d) ∧ ∀ o, w.frozen? ⟨G, o, none⟩ = false := by
  refine ⟨⟨?_, ?_, ?_, ?_⟩, fun o => ?_⟩
  · simp [World.cell?, h]
  · simp [World.cell?, h]
  · simp [World.cell?, h]
  · simp [World.cell?, h]
  · simp [World.frozen?, h]

theorem news_of {w : World} {G : Nat} {cs : List Value} {t : TypeId} {fr : Nat × Nat} (h : w.heap[G]? = some (.cells cs.toArray t fr)) : ∀ j u, cs[j]? = some u → w.cell? (Addr.add ⟨G, 0, none⟩ j) = some u := fun j u hu => by
  rw [add_none]
  simp [World.cell?, h, hu]

/-- The block of g behind the first append. -/
theorem built5 {gk : Int} {ar : Option Addr} {rl rc : Nat} {v2 v3 : Value} {nm : ByteArray} {w4 w5 : World}
    (h5 : Below (w4.heap.size + 2) ((w4.alloc (.cells #[.int .u8 gk, .slice ar rl rc, v2, v3] 30)).alloc (.cells #[.string nm] 9)) w5) :
    w5.heap[w4.heap.size]? = some (.cells #[.int .u8 gk, .slice ar rl rc, v2, v3] 30 (0, 0)) ∧ Below w4.heap.size w4 w5 := by
  refine ⟨?_, (((Below.refl _ _).alloc (Nat.le_refl _) _).alloc (by simp) _).trans (h5.mono (by omega))⟩
  rw [h5.block _ (by omega), Below.heap_alloc _ _ _ (by simp)]
  exact heap_alloc_new _ _
/-- The block of g behind the call that copies e. -/
theorem built7 {gk : Int} {ar : Option Addr} {rl rc : Nat} {v2 v3 u3 : Value} {w4 w5 w7 : World} (h : w5.heap[w4.heap.size]? = some (.cells #[.int .u8 gk, .slice ar rl rc, v2, v3] 30 (0, 0))) (hb : Below w4.heap.size w4 w5) (hs : w4.heap.size < w5.heap.size)
    (h7 : Below w5.heap.size (w5.setCell ⟨w4.heap.size, 3, none⟩ u3) w7) :
    w7.heap[w4.heap.size]? = some (.cells #[.int .u8 gk, .slice ar rl rc, v2, u3] 30 (0, 0)) ∧ Below w4.heap.size w4 w7 := by
  refine ⟨?_, (hb.setCell (p := ⟨w4.heap.size, 3, none⟩) (Nat.le_refl _) _).trans (h7.mono (by omega))⟩
  rw [h7.block _ hs, set_block h]
  rfl
theorem built8 {gk : Int} {ar : Option Addr} {rl rc : Nat} {v2 v3 : Value} {w4 w7 w8 : World} {o : Obj} (h : w7.heap[w4.heap.size]? = some (.cells #[.int .u8 gk, .slice ar rl rc, v2, v3] 30 (0, 0))) (hb : Below w4.heap.size w4 w7) (hs : w4.heap.size < w7.heap.size)
    (h8 : Below (w7.heap.size + 1) (w7.alloc o) w8) :
    w8.heap[w4.heap.size]? = some (.cells #[.int .u8 gk, .slice ar rl rc, v2, v3] 30 (0, 0)) ∧ Below w4.heap.size w4 w8 := by
  refine ⟨?_, (hb.alloc (by omega) _).trans (h8.mono (by omega))⟩
  rw [h8.block _ (by omega), Below.heap_alloc _ _ _ hs, h]

/-- The world behind the second append, and what g reads as from there on. -/
theorem built {n nl G1 G2 cap1 cap2 : Nat} {gk : Int} {ar : Option Addr} {rl rc : Nat} {v2 v3 : Value} {nm : ByteArray} {N : List ByteArray} {I : List (T (n + 1))} {E : T (n + 1)} {ve : Hd} {olds : List Value} {w4 w5 w7 w8 : World} {vB : Obj}
    (h5 : Below (w4.heap.size + 2) ((w4.alloc (.cells #[.int .u8 gk, .slice ar rl rc, v2, v3] 30)).alloc (.cells #[.string nm] 9)) w5)
    (g1 : w4.heap.size + 2 ≤ G1) (l1 : G1 < w5.heap.size)
    (hc1 : ∀ w'' : World, w''.heap[G1]? = w5.heap[G1]? → ∀ j u, (N.map Value.string ++ [Value.string nm])[j]? = some u → w''.cell? ⟨G1, j, none⟩ = some u)
    (h7 : Below w5.heap.size (w5.setCell ⟨w4.heap.size, 3, none⟩ (.slice (some ⟨G1, 0, none⟩) (nl + 1) cap1)) w7)
    (hE : ∀ w'', Agree w5.heap.size w7 w'' → Rd w'' (n + 1) ve E)
    (h8 : Below (w7.heap.size + 1) (w7.alloc vB) w8)
    (g2 : w7.heap.size + 1 ≤ G2) (l2 : G2 < w8.heap.size)
    (hc2 : ∀ w'' : World, w''.heap[G2]? = w8.heap[G2]? → ∀ j u, (olds ++ [Value.int .u8 ve.k, .slice ve.ra ve.rl ve.rc, .slice ve.ia ve.il ve.ic, .slice ve.na ve.nl ve.nc])[j]? = some u → w''.cell? ⟨G2, j, none⟩ = some u)
    (hN : N.length = nl) (hI : I.length = nl) (hl : olds.length = nl * 4)
    (ho : ∀ i x, I[i]? = some x → ∃ g, Rd w4 (n + 1) g x ∧ olds[i * 4]? = some (.int .u8 g.k) ∧ olds[i * 4 + 1]? = some (.slice g.ra g.rl g.rc) ∧ olds[i * 4 + 2]? = some (.slice g.ia g.il g.ic) ∧ olds[i * 4 + 3]? = some (.slice g.na g.nl g.nc)) :
    (w8.setCell ⟨w4.heap.size, 2, none⟩ (.slice (some ⟨G2, 0, none⟩) (nl + 1) cap2)).heap[w4.heap.size]? = some (.cells #[.int .u8 gk, .slice ar rl rc, .slice (some ⟨G2, 0, none⟩) (nl + 1) cap2, .slice (some ⟨G1, 0, none⟩) (nl + 1) cap1] 30 (0, 0)) ∧
    Below w4.heap.size w4 (w8.setCell ⟨w4.heap.size, 2, none⟩ (.slice (some ⟨G2, 0, none⟩) (nl + 1) cap2)) ∧
    ∀ W, Below w8.heap.size (w8.setCell ⟨w4.heap.size, 2, none⟩ (.slice (some ⟨G2, 0, none⟩) (nl + 1) cap2)) W →
      SlAt W (some ⟨G1, 0, none⟩) (nl + 1) Value.string (some (N ++ [nm])) ∧ ItAt W (some ⟨G2, 0, none⟩) (nl + 1) (Rd W (n + 1)) (some (I ++ [E])) := by
  have s5 : w4.heap.size < w5.heap.size := by omega
  have s7 : w5.heap.size ≤ w7.heap.size := by have := h7.size; rw [set_size] at this; exact this
  have s8 : w7.heap.size + 1 ≤ w8.heap.size := by have := h8.size; simpa using this
  obtain ⟨k5, b5⟩ := built5 h5
  obtain ⟨k7, b7⟩ := built7 k5 b5 s5 h7
  obtain ⟨k8, b8⟩ := built8 k7 b7 (by omega) h8
  have b9 : Below w4.heap.size w4 (w8.setCell ⟨w4.heap.size, 2, none⟩ (.slice (some ⟨G2, 0, none⟩) (nl + 1) cap2)) := b8.setCell (p := ⟨w4.heap.size, 2, none⟩) (Nat.le_refl _) _
  refine ⟨by rw [set_block k8]; rfl, b9, fun W hW => ⟨?_, ?_⟩⟩
  · refine names_grown hN (hc1 W ?_)
    rw [hW.block _ (by omega), set_far (by simp only; omega), h8.block _ (by omega), Below.heap_alloc _ _ _ (by omega), h7.block _ l1, set_far (by simp only; omega)]
  · have bW : Below w4.heap.size w4 W := b9.trans (hW.mono (by omega))
    refine items_grown hI hl ho (hc2 W ?_) (fun g x => Rd.below bW) (hE W (fun b hb1 hb2 => ?_))
    · rw [hW.block _ l2, set_far (by simp only; omega)]
    · rw [hW.block _ (by omega), set_far (by simp only; omega), h8.block _ (by omega), Below.heap_alloc _ _ _ hb2]
end Go.Proofs.Qxb6626323aFmt
