/-
  A JV that came in, opened for the walks: from the form's reading to 'Rd'.
-/
import Derived.Test.Qxb6626323aFmtTree
import Derived.Deep.Strs
namespace Go.Proofs.Qxb6626323aFmt
open Go.RowKit Go.ChangeShapes Go.WideShapes Go.Deep

theorem add_none (b off j : Nat) : (⟨b, off, none⟩ : Addr).add j = ⟨b, off + j, none⟩ := by
  unfold Addr.add
  by_cases h : j = 0 <;> simp [h]

theorem plain_of {w : World} {a : Addr} {v : Value} (h : w.cell? (a.add 0) = some v) : ∃ b off, a = ⟨b, off, none⟩ := by
  obtain ⟨b, off, spot⟩ := a
  refine ⟨b, off, ?_⟩
  have : spot = none := by simpa [Addr.add] using World.cell?_spot h
  rw [this]

theorem list_of {α : Type} {p : Nat → α → Prop} : ∀ {n : Nat}, (∀ i, i < n → ∃ x, p i x) → ∃ l : List α, l.length = n ∧ ∀ i x, l[i]? = some x → p i x := by
  intro n
  induction n with
  | zero => exact fun _ => ⟨[], rfl, fun i x hx => by simp at hx⟩
  | succ n ih =>
    intro h
    obtain ⟨l, hl, hp⟩ := ih (fun i hi => h i (by omega))
    obtain ⟨y, hy⟩ := h n (by omega)
    refine ⟨l ++ [y], by simp [hl], fun i x hx => ?_⟩
    by_cases e : i < n
    · rw [List.getElem?_append_left (by omega)] at hx
      exact hp i x hx
    · by_cases e2 : i = n
      · subst e2
        rw [List.getElem?_append_right (by omega), hl, Nat.sub_self] at hx
        simp at hx
        rw [← hx]; exact hy
      · rw [List.getElem?_eq_none (by simp; omega)] at hx
        cases hx

theorem weights_all {H : Type} {P : Program} {e : TypeId} {d : DataW H} : ∀ {l : List (DataW H)}, d ∈ l → ∀ n ∈ d.weights P e, n ∈ DataW.weightsAll P e l := by
  intro l
  induction l with
  | nil => intro h; cases h
  | cons a r ih =>
    intro h n hn
    simp only [DataW.weightsAll, List.mem_append]
    rcases List.mem_cons.1 h with h | h
    · subst h; exact Or.inl hn
    · exact Or.inr (ih h n hn)

section
variable {H : Type} {enc : TypeId × Value → H} {w : World}

/-- A '[]byte'. -/
theorem bytes_of {fuel : Nat} {v : Value} {x : DataW H × List MemPlace} (h : DataW.trod enc Tryf.prog w 0 (fun _ => true) true fuel 22 [v] = some x) (hz : ∀ n ∈ x.1.weights Tryf.prog 22, n ≤ reachBytes) :
    ∃ (a : Option Addr) (l c : Nat) (d : Option (List Int)), v = .slice a l c ∧ SlAt w a l (Value.int .u8) d ∧ l ≤ 140737488351232 := by
  rcases open_ints Tryf.underlying22 Tryf.underlying5 (by kernel_rfl) h with ⟨hcs, _⟩ | ⟨a, len, cap, zs, hcs, _, hl, _, hzl, hx, hcell, _⟩
  · simp at hcs
    exact ⟨_, _, _, none, hcs, ⟨rfl, rfl⟩, by omega⟩
  · simp at hcs
    simp only [if_true] at hzl
    refine ⟨_, _, _, some (zs.take len), hcs, ⟨by simp, by simp; omega, fun i y hy => ?_⟩, ?_⟩
    · have hi : i < len := by
        rcases Nat.lt_or_ge i len with h | h
        · exact h
        · rw [List.getElem?_eq_none (by simp; omega)] at hy; cases hy
      obtain ⟨b, off, rfl⟩ := plain_of (hcell 0 (by omega))
      refine ⟨b, off, rfl, ?_⟩
      have := hcell i (by omega)
      rw [add_none] at this
      rw [this]
      rw [List.getElem?_take, if_pos hi] at hy
      rw [List.getD_eq_getElem?_getD, hy]
      rfl
    · have hb : Tryf.prog.bytesOf 5 = 1 := by kernel_rfl
      have := hz ((lits (H := H) .u8 (zs.take len)).length + (lits (H := H) .u8 (zs.drop len)).length) (by rw [hx]; simp [DataW.weights, Tryf.underlying22, hb])
      simp only [lits, List.length_map, List.length_take, List.length_drop, reachBytes] at this
      omega

/-- A '[]string'. -/
theorem names_of {fuel : Nat} {v : Value} {x : DataW H × List MemPlace} (h : DataW.trod enc Tryf.prog w 0 (fun _ => true) true fuel 24 [v] = some x) (hz : ∀ n ∈ x.1.weights Tryf.prog 24, n ≤ reachBytes) :
    ∃ (a : Option Addr) (l c : Nat) (d : Option (List ByteArray)), v = .slice a l c ∧ SlAt w a l Value.string d ∧ l * 16 ≤ 140737488351232 ∧ ∀ ls, d = some ls → ∀ s ∈ ls, s.size ≤ 140737488351232 := by
  rcases open_strs Tryf.underlying24 Tryf.underlying9 (by kernel_rfl) h with ⟨hcs, _⟩ | ⟨a, len, cap, m, Sx, hcs, _, hl, _, hmm, hx, hr⟩
  · simp at hcs
    exact ⟨_, _, _, none, hcs, ⟨rfl, rfl⟩, by omega, fun ls e => by cases e⟩
  · simp at hcs
    simp only [if_true] at hmm
    subst hmm
    have hb : Tryf.prog.bytesOf 9 = 16 := by kernel_rfl
    refine ⟨_, _, _, some ((List.range len).map Sx), hcs, ⟨by simp, by simp, fun i y hy => ?_⟩, ?_, fun ls e s hs => ?_⟩
    · have hi : i < len := by
        rcases Nat.lt_or_ge i len with h | h
        · exact h
        · rw [List.getElem?_eq_none (by simp; omega)] at hy; cases hy
      obtain ⟨b, off, rfl⟩ := plain_of (hr 0 (by omega)).1
      refine ⟨b, off, rfl, ?_⟩
      have := (hr i (by omega)).1
      rw [add_none] at this
      rw [this]
      simp [hi] at hy
      rw [hy]
    · have := hz ((len + (m - len)) * 16) (by rw [hx]; simp [DataW.weights, Tryf.underlying24, hb])
      simp only [reachBytes] at this
      omega
    · simp only [Option.some.injEq] at e
      subst e
      obtain ⟨i, hi, rfl⟩ := List.mem_map.1 hs
      have hi' := List.mem_range.1 hi
      have := hz (Sx i).data.toList.length (by
        rw [hx]
        simp only [DataW.weights, Tryf.underlying24, List.mem_cons, List.mem_append]
        refine Or.inr (Or.inl (weights_all (d := .lit (.string (Sx i).data.toList)) (List.mem_map.2 ⟨i, hi, rfl⟩) _ (by simp [DataW.weights])))
        )
      simp only [reachBytes] at this
      have e : (Sx i).data.toList.length = (Sx i).size := by rw [Array.length_toList]; rfl
      omega

theorem rd_of : ∀ (f : Nat) (cs : List Value) (x : DataW H × List MemPlace), DataW.trod enc Tryf.prog w 0 (fun _ => true) true f 26 cs = some x → (∀ n ∈ x.1.weights Tryf.prog 26, n ≤ reachBytes) →
    ∃ (h : Hd) (D : T f), cs = [.int .u8 h.k, .slice h.ra h.rl h.rc, .slice h.ia h.il h.ic, .slice h.na h.nl h.nc] ∧ Rd w f h D := by
  intro f
  induction f with
  | zero =>
    intro cs x h
    obtain ⟨_, n, hn, _⟩ := DataW.trod_struct Tryf.underlying26 h
    cases hn
  | succ f ih =>
    intro cs x h hz
    obtain ⟨xs, n, hn, hx, hlen, hxs, hf⟩ := DataW.trod_struct Tryf.underlying26 h
    have hn' : n = f := by omega
    subst hn'
    have c26 : Tryf.prog.cellsOf 26 = 4 := by kernel_rfl
    have c5 : Tryf.prog.cellsOf 5 = 1 := by kernel_rfl
    have c22 : Tryf.prog.cellsOf 22 = 1 := by kernel_rfl
    have c23 : Tryf.prog.cellsOf 23 = 1 := by kernel_rfl
    have c24 : Tryf.prog.cellsOf 24 = 1 := by kernel_rfl
    rw [c26] at hlen
    match cs, hlen, xs, hxs with
    | [v0, v1, v2, v3], _, [y0, y1, y2, y3], _ =>
      have t0 : DataW.trod enc Tryf.prog w 0 (fun _ => true) true n 5 [v0] = some y0 := by have t : DataW.trod enc Tryf.prog w 0 (fun _ => true) true n 5 (List.take (Tryf.prog.cellsOf 5) (List.drop 0 [v0, v1, v2, v3])) = some y0 := hf 0 _ rfl; rw [c5] at t; exact t
      have t1 : DataW.trod enc Tryf.prog w 0 (fun _ => true) true n 22 [v1] = some y1 := by have t : DataW.trod enc Tryf.prog w 0 (fun _ => true) true n 22 (List.take (Tryf.prog.cellsOf 22) (List.drop 1 [v0, v1, v2, v3])) = some y1 := hf 1 _ rfl; rw [c22] at t; exact t
      have t2 : DataW.trod enc Tryf.prog w 0 (fun _ => true) true n 23 [v2] = some y2 := by have t : DataW.trod enc Tryf.prog w 0 (fun _ => true) true n 23 (List.take (Tryf.prog.cellsOf 23) (List.drop 2 [v0, v1, v2, v3])) = some y2 := hf 2 _ rfl; rw [c23] at t; exact t
      have t3 : DataW.trod enc Tryf.prog w 0 (fun _ => true) true n 24 [v3] = some y3 := by have t : DataW.trod enc Tryf.prog w 0 (fun _ => true) true n 24 (List.take (Tryf.prog.cellsOf 24) (List.drop 3 [v0, v1, v2, v3])) = some y3 := hf 3 _ rfl; rw [c24] at t; exact t
      have hw : ∀ n, n ∈ y1.1.weights Tryf.prog 22 ∨ n ∈ y2.1.weights Tryf.prog 23 ∨ n ∈ y3.1.weights Tryf.prog 24 → n ≤ reachBytes := fun n hn => hz n (by
        rw [hx]
        simp only [DataW.weights, Tryf.underlying26, List.map_cons, List.map_nil, DataW.weightsEach, List.mem_append]
        rcases hn with hn | hn | hn
        · exact Or.inr (Or.inl hn)
        · exact Or.inr (Or.inr (Or.inl hn))
        · exact Or.inr (Or.inr (Or.inr (Or.inl hn))))
      obtain ⟨k, e0, _, wk⟩ := DataW.trod_int Tryf.underlying5 t0
      simp at e0
      obtain ⟨ra, rl, rc, rd, rfl, hr, hrl⟩ := bytes_of t1 (fun n hn => hw n (Or.inl hn))
      obtain ⟨na, nl, nc, nd, rfl, hnn, hnl, hns⟩ := names_of t3 (fun n hn => hw n (Or.inr (Or.inr hn)))
      have hk : 0 ≤ k ∧ k ≤ 255 := by
        simp [Lit.wf, IntKind.min, IntKind.max, IntKind.signed, IntKind.bits] at wk
        omega
      have items : ∃ (ia : Option Addr) (il ic : Nat) (d : Option (List (T n))), v2 = .slice ia il ic ∧ ItAt w ia il (Rd w n) d ∧ il * 80 ≤ 140737488351232 := by
        rcases DataW.trod_slice Tryf.underlying23 t2 with ⟨hcs, _⟩ | ⟨a, len, cap, elems, rest, m, hm, hcs, hx2, _, hl, _, hel, hread, hsp, _⟩
        · simp at hcs
          exact ⟨_, _, _, none, hcs, ⟨rfl, rfl⟩, by omega⟩
        · simp at hcs
          have hb : Tryf.prog.bytesOf 26 = 80 := by kernel_rfl
          have each : ∀ i, i < len → ∃ y : Hd × T n, ∃ b off, some a = some (⟨b, off, none⟩ : Addr) ∧ HdAt w b (off + i * 4) y.1 ∧ Rd w n y.1 y.2 := fun i hi => by
            have hi' := hread i hi
            rw [c26] at hi'
            rw [List.getElem?_eq_getElem (by omega)] at hi'
            obtain ⟨cs', h1, h2⟩ := Option.bind_eq_some_iff.1 hi'
            have h3 := DataW.trod_le (show m ≤ n by omega) h2
            obtain ⟨g, D, hg, hR⟩ := ih cs' _ h3 (fun q hq => hw q (Or.inr (Or.inl (by
              rw [hx2]
              simp only [DataW.weights, Tryf.underlying23, List.mem_cons, List.mem_append]
              exact Or.inr (Or.inl (weights_all (List.mem_map.2 ⟨elems[i], List.getElem_mem _, rfl⟩) q hq))))))
            obtain ⟨_, _, hcell⟩ := World.cells?_some h1
            subst hg
            have z0 : w.cells? 0 (a.add (0 * 4)) 4 ≠ none := by
              have h0' := hread 0 (by omega)
              rw [c26, List.getElem?_eq_getElem (by omega)] at h0'
              obtain ⟨cs0, h01, _⟩ := Option.bind_eq_some_iff.1 h0'
              rw [h01]; simp
            obtain ⟨cs0, h01⟩ := Option.ne_none_iff_exists'.1 z0
            obtain ⟨_, hl0, hc0⟩ := World.cells?_some h01
            obtain ⟨b, off, rfl⟩ : ∃ b off, a = ⟨b, off, none⟩ := by
              have := hc0 0 (by omega)
              rw [List.getElem?_eq_getElem (by omega)] at this
              simp only [Nat.zero_mul, Addr.add] at this
              exact plain_of (by simpa [Addr.add] using this)
            refine ⟨(g, D), b, off, rfl, ?_, hR⟩
            have e0 := hcell 0 (by omega)
            have e1 := hcell 1 (by omega)
            have e2 := hcell 2 (by omega)
            have e3 := hcell 3 (by omega)
            simp only [add_none, List.getElem?_cons_zero, List.getElem?_cons_succ, Nat.add_zero] at e0 e1 e2 e3
            exact ⟨e0, e1, e2, e3⟩
          obtain ⟨l, hll, hlp⟩ := list_of each
          refine ⟨_, _, _, some (l.map (·.2)), hcs, ⟨by simp, by simp [hll], fun i x hxi => ?_⟩, ?_⟩
          · rw [List.getElem?_map] at hxi
            obtain ⟨y, hy, rfl⟩ := Option.map_eq_some_iff.1 hxi
            obtain ⟨b, off, e, h1, h2⟩ := hlp i y hy
            exact ⟨b, off, y.1, e, h1, h2⟩
          · have := hw ((len + (cap - len)) * 80) (Or.inr (Or.inl (by rw [hx2]; simp [DataW.weights, Tryf.underlying23, hb, hel, (hsp rfl).1])))
            simp only [reachBytes] at this
            omega
      obtain ⟨ia, il, ic, d, rfl, hit, hil⟩ := items
      exact ⟨⟨k, ra, rl, rc, ia, il, ic, na, nl, nc⟩, T.mk k rd d nd, by rw [e0], rfl, ⟨hk.1, hk.2, hrl, hil, hnl, hns⟩, hr, hnn, hit⟩
end
end Go.Proofs.Qxb6626323aFmt
