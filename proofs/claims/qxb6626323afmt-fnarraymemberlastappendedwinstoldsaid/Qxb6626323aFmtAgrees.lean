/-
  FnArrayMemberAgreesWithMember (function 4): the walk.
-/
import Derived.Test.Qxb6626323aFmtLook
namespace Go.Proofs.Qxb6626323aFmt
open Go.RowKit Go.Extern.Stop Go.Stop Go.Extern

/-- A block of four cells that was laid holds what it held. -/
theorem cells4 {W W' : World} {a b c d : Value} {t : TypeId} (hb : Below (W.heap.size + 1) (W.alloc (.cells #[a, b, c, d] t)) W') :
    W'.cell? ⟨W.heap.size, 0, none⟩ = some a ∧ W'.cell? ⟨W.heap.size, 1, none⟩ = some b ∧ W'.cell? ⟨W.heap.size, 2, none⟩ = some c ∧ W'.cell? ⟨W.heap.size, 3, none⟩ = some d := by
  have h := fun o => hb.cell (p := ⟨W.heap.size, o, none⟩) (Nat.lt_succ_self _)
  refine ⟨(h 0).trans ?_, (h 1).trans ?_, (h 2).trans ?_, (h 3).trans ?_⟩ <;> rw [World.cell?_alloc_new] <;> rfl

theorem last_unique {hit : Nat → Bool} {n : Nat} {r s : Option Nat} (h : Last hit n r) (k : Last hit n s) : r = s := by
  cases r with
  | none =>
    cases s with
    | none => rfl
    | some i => obtain ⟨h1, h2, _⟩ := k; have := h i h1; rw [this] at h2; cases h2
  | some i =>
    obtain ⟨h1, h2, h3⟩ := h
    cases s with
    | none => have := k i h1; rw [this] at h2; cases h2
    | some j =>
      obtain ⟨k1, k2, k3⟩ := k
      rcases Nat.lt_trichotomy i j with l | l | l
      · have := h3 j l k1; rw [this] at k2; cases k2
      · rw [l]
      · have := k3 i l h1; rw [this] at h2; cases h2

theorem below_draws_of {B : Nat} {w w' : World} (_ : Below B w w') (n : Nat) : Below B w' (w'.drewN n) := ⟨rfl, rfl, rfl, Nat.le_refl _, fun _ _ => rfl⟩

theorem eql28 (w : World) (x : Option Addr) (n c : Nat) : (binOp .eql 28 (.slice x n c) (.slice none 0 0)).run Tryf.prog w = .ok (.bool x.isNone) w := Lib.run_eql_slice_nil w 28 30 x n c 0 0 Tryf.underlying28

/-- Is there a hit below k? -/
def Seen (hit : Nat → Bool) (k : Nat) (p : Bool) : Prop := p = true ↔ ∃ j, j < k ∧ hit j = true
theorem Seen.zero (hit : Nat → Bool) : Seen hit 0 false := ⟨fun h => (Bool.noConfusion h), fun ⟨j, hj, _⟩ => by omega⟩
theorem Seen.yes {hit : Nat → Bool} {k : Nat} (h : hit k = true) : Seen hit (k + 1) true := ⟨fun _ => ⟨k, by omega, h⟩, fun _ => rfl⟩
theorem Seen.no {hit : Nat → Bool} {k : Nat} {p : Bool} (s : Seen hit k p) (h : hit k = false) : Seen hit (k + 1) p := by
  constructor
  · intro hp
    obtain ⟨j, hj, hh⟩ := s.1 hp
    exact ⟨j, by omega, hh⟩
  · rintro ⟨j, hj, hh⟩
    refine s.2 ⟨j, ?_, hh⟩
    by_cases e : j = k
    · subst e; rw [h] at hh; cases hh
    · omega
theorem Seen.last {hit : Nat → Bool} {n : Nat} {p : Bool} {r : Option Nat} (s : Seen hit n p) (h : Last hit n r) : p = r.isSome := by
  cases r with
  | none =>
    cases p with
    | false => rfl
    | true => obtain ⟨j, hj, hh⟩ := s.1 rfl; have := h j hj; rw [this] at hh; cases hh
  | some i => exact s.2 ⟨i, h.1, h.2.1⟩

set_option maxRecDepth 100000 in
set_option maxHeartbeats 1600000 in
theorem agrees_walk (F : Interp) (n : Nat) (h : Hd) (D : T (n + 2)) (nm : ByteArray) (w : World) (hF : F.answers w.tape) (hr : Rd w (n + 2) h D) (hnm : nm.size ≤ 9223372036854775807) :
    Calls Tryf.prog 4 #[h.val, .string nm] w fun e w' => e = .returned (.bool true) ∧ Below w.heap.size w w' := by
  have hR0 := hr
  obtain ⟨hk0, hf, h1, h2, h3⟩ := hr
  obtain ⟨k, ra, rl, rc, ia, il, ic, na, nl, nc⟩ := h
  simp only at h1 h2 h3
  clear hk0
  have hfi : il * 80 ≤ 140737488351232 := hf.i
  have hfn : nl * 16 ≤ 140737488351232 := hf.n
  show Calls Tryf.prog 4 #[.agg #[.int .u8 k, .slice ra rl rc, .slice ia il ic, .slice na nl nc], .string nm] w _
  have b0 : Below w.heap.size w (w.alloc (.cells #[.int .u8 k, .slice ra rl rc, .slice ia il ic, .slice na nl nc] 26)) := (Below.refl _ _).alloc (Nat.le_refl _) _
  by_cases gnm : (nm.size : Int) ≤ 1048576
  rotate_left
  · clear hR0 hf h1 h2 h3 hF
    go_enter Tryf.func4, Tryf.ntmps4
    go_wp2_with fail
    go_ret
    exact ⟨rfl, b0⟩
  go_enter Tryf.func4, Tryf.ntmps4
  go_wp2_with fail
  refine (bud_any (n + 2) ⟨k, ra, rl, rc, ia, il, ic, na, nl, nc⟩ D _ _ (Rd.below b0 hR0) (by omega) (by omega)).mono ?_
  rintro e w1 ⟨⟨r, rfl, hr1⟩, hb1⟩
  have B1 : Below w.heap.size w w1 := b0.trans (hb1.mono b0.size)
  have X1 : Below (w.heap.size + 1) (w.alloc (.cells #[.int .u8 k, .slice ra rl rc, .slice ia il ic, .slice na nl nc] 26)) w1 := hb1.mono (by simp)
  clear hb1
  obtain ⟨p0, p1, p2, p3⟩ := cells4 X1
  by_cases gr : 0 ≤ r
  rotate_left
  · clear hR0 hf h1 h2 h3 hF p0 p1 p2 p3
    go_wp2_with fail
    go_ret
    exact ⟨rfl, B1⟩
  by_cases gl : nl ≤ il
  rotate_left
  · clear hR0 hf h1 h2 h3 hF
    go_wp2_with fail
    go_ret
    exact ⟨rfl, B1⟩
  have lenN := h2.length
  have lenI := h3.length
  have h2' := h2.below B1
  have h3' := h3.below B1 (fun _ _ => Rd.below B1)
  go_wp2_with fail
  go_loop [6, 7] (fun p i => ∃ (j : Nat) (q : Bool), j ≤ nl ∧ i = .int .i64 j ∧ p = .bool q ∧ Seen (hitB ((T.names D).getD []) ((T.items D).getD []) nm) j q) (fun _ i => nl - (intOf i).toNat)
  case atStart => exact ⟨0, false, Nat.zero_le _, rfl, rfl, Seen.zero _⟩
  case round =>
    obtain ⟨j, q, hj, rfl, rfl, hs⟩ := hrel
    by_cases hlt : j < nl
    · obtain ⟨bN, oN, eN, cN⟩ := h2'.cell (by omega)
      obtain ⟨bI, oI, eI, cI⟩ := h3'.cell (by omega)
      subst eN eI
      obtain ⟨s, hs'⟩ : ∃ s, ((T.names D).getD [])[j]? = some s := ⟨_, List.getElem?_eq_getElem (by omega)⟩
      obtain ⟨x, hx⟩ : ∃ x, ((T.items D).getD [])[j]? = some x := ⟨_, List.getElem?_eq_getElem (by omega)⟩
      have xs := cN j s hs'
      obtain ⟨g, ⟨x0, x1, x2, x3⟩, rg⟩ := cI j x hx
      have hk : g.k = T.kind x := rg.1
      have HH : Hid (hitB ((T.names D).getD []) ((T.items D).getD []) nm j = ((s.toList == nm.toList) && (g.k != 0))) := by
        show _ = _
        unfold hitB; rw [hs', hx, hk]
      have HS : Hid (Seen (hitB ((T.names D).getD []) ((T.items D).getD []) nm) j q) := hs
      have hji : (j : Int) < (il : Int) := by omega
      clear h1 h2 h3 h2' h3' cN cI hs' hx rg hk hs lenN lenI hF hR0 hf p0 p1
      by_cases e1 : (s.toList == nm.toList) = true
      · by_cases e2 : (g.k != 0) = true
        · go_wp2_with fail
          go_round
          case rel => exact ⟨j + 1, true, by omega, by go_num, rfl, Seen.yes (by rw [HH.out, e1, e2]; rfl)⟩
          case measure => simp [intOf]; omega
        · have e2' : (g.k != 0) = false := by simpa using e2
          clear e2
          go_wp2_with fail
          go_round
          case rel => exact ⟨j + 1, q, by omega, by go_num, rfl, HS.out.no (by rw [HH.out, e2']; simp)⟩
          case measure => simp [intOf]; omega
      · have e1' : (s.toList == nm.toList) = false := by simpa using e1
        clear e1
        go_wp2_with fail
        go_round
        case rel => exact ⟨j + 1, q, by omega, by go_num, rfl, HS.out.no (by rw [HH.out, e1']; simp)⟩
        case measure => simp [intOf]; omega
    · have e : j = nl := by omega
      subst e
      have HS : Hid (Seen (hitB ((T.names D).getD []) ((T.items D).getD []) nm) j q) := hs
      have HF : Hid (F.answers w.tape) := hF
      clear hs h2' h3' hF
      go_wp2_with fail
      refine (toV_any (n + 2) ⟨k, ra, rl, rc, ia, il, ic, na, j, nc⟩ D w1 (Rd.below B1 hR0)).mono ?_
      rintro e w2 ⟨⟨gk, gra, grl, grc, gia, gil, gic, gna, gnl, gnc⟩, rfl, hb2, er1, er2, er3, hrd⟩
      clear er1 er2 er3
      have B2 : Below w.heap.size w w2 := B1.trans (hb2.mono B1.size)
      have X2 := X1.trans (hb2.mono (by have := X1.size; simpa using this))
      clear p0 p1 p2 p3
      obtain ⟨p0, p1, p2, p3⟩ := cells4 X2
      have ag : Agree w1.heap.size w2 (w2.alloc (.cells #[.int .u8 gk, .slice gra grl grc, .slice gia gil gic, .slice gna gnl gnc] 30)) := fun b _ hb => Below.heap_alloc _ _ _ hb
      obtain ⟨hgk, gf, g1, g2, g3⟩ := hrd _ ag
      clear hgk g1
      simp only at g2 g3
      have eln : gnl = j := g2.length.symm.trans lenN
      have eli : gil = il := g3.length.symm.trans lenI
      subst eln eli
      have zx : w.heap.size < w2.heap.size := by have := X2.size; simp at this; omega
      go_wp2_with fail
      refine (member_any F n gk gra grl grc gia gil gic gna gnl gnc (T.names D) (T.items D) nm _ (by show F.answers w2.tape; rw [B2.tape]; exact HF.out) g2 g3 gl (by omega)).mono ?_
      rintro e w4 ⟨r4, v4, rfl, hl4, hgot, hb4⟩
      have F4 := hb4.mono (show w2.heap.size + 1 ≤ _ by simp)
      have X4 := (X2.alloc (by omega) _).trans (F4.mono (by omega))
      have B4 := (B2.alloc (by omega) _).trans (F4.mono (by omega))
      clear p0 p1 p2 p3
      obtain ⟨p0, p1, p2, p3⟩ := cells4 X4
      obtain ⟨f0, f1, f2, f3⟩ := cells4 F4
      have z4 : w2.heap.size < w4.heap.size := by have := F4.size; simp at this; omega
      have HL : Hid (Last (hitB ((T.names D).getD []) ((T.items D).getD []) nm) gnl r4) := hl4
      have hq := HS.out.last hl4
      clear hl4
      cases r4 with
      | none =>
        obtain ⟨a4, rfl⟩ := hgot
        simp only [Option.isSome_none] at hq
        subst hq
        clear hR0 hrd h1 h2 h3
        go_wp2_with fail
        refine (array_any F n gk gra grl grc gia gil gic gna gnl gnc (T.names D) (T.items D) nm _ (by show F.answers w4.tape; rw [B4.tape]; exact HF.out) (g2.below (hb4.alloc hb4.size _)) (g3.below (hb4.alloc hb4.size _) (fun _ _ => Rd.below (hb4.alloc hb4.size _))) gl (by omega)).mono ?_
        rintro e w6 ⟨r6, v6, rfl, hl6, harr, hb6⟩
        have e6 := last_unique hl6 HL.out
        subst e6
        obtain ⟨a6, rfl⟩ := harr
        have B6 := (B4.alloc (by omega) _).trans (hb6.mono (by simp; omega))
        clear hb6 hl6 hb4 g2 g3 F4 X4 p0 p1 p2 p3 f0 f1 f2 f3
        have q28 := eql28
        go_wp2_with fail
        go_ret
        exact ⟨rfl, B6⟩
      | some i =>
        obtain ⟨c, bc, oc, rfl, hia, hc⟩ := hgot
        obtain ⟨x, hx, hxk⟩ := HL.out.item
        have hRc := (g3.down (Below.refl _ _) hx hia hc).2
        have hck : c.k = T.kind x := hRc.1
        have hck0 : (c.k == 0) = false := by rw [beq_eq_false_iff_ne, hck]; exact hxk
        have hck1 : (c.k != 0) = true := by rw [bne_iff_ne, hck]; exact hxk
        clear hck hxk
        simp only [Option.isSome_some] at hq
        subst hq
        have HX : Hid (((T.items D).getD [])[i]? = some x) := hx
        have HA : Hid (gia = some ⟨bc, oc, none⟩) := hia
        have b45 := hb4.alloc hb4.size (.cells #[.int .u8 c.k, .slice c.ra c.rl c.rc, .slice c.ia c.il c.ic, .slice c.na c.nl c.nc] 30)
        have HC : Hid (HdAt (w4.alloc (.cells #[.int .u8 c.k, .slice c.ra c.rl c.rc, .slice c.ia c.il c.ic, .slice c.na c.nl c.nc] 30)) bc (oc + i * 4) c) := hc.below b45
        have HRc : Hid (Rd (w4.alloc (.cells #[.int .u8 c.k, .slice c.ra c.rl c.rc, .slice c.ia c.il c.ic, .slice c.na c.nl c.nc] 30)) (n + 1) c x) := Rd.below b45 hRc
        clear hc hRc hx hia hrd
        go_wp2_with fail
        refine (array_any F n gk gra grl grc gia gil gic gna gnl gnc (T.names D) (T.items D) nm _ (by show F.answers w4.tape; rw [B4.tape]; exact HF.out) (g2.below b45) (g3.below b45 (fun _ _ => Rd.below b45)) gl (by omega)).mono ?_
        rintro e w6 ⟨r6, v6, rfl, hl6, harr, hb6⟩
        have e6 := last_unique hl6 HL.out
        subst e6
        obtain ⟨c', bc', oc', hia', hc', hv⟩ := harr
        have e7 : c' = c := by
          rw [HA.out] at hia'
          simp only [Option.some.injEq, Addr.mk.injEq] at hia'
          obtain ⟨rfl, rfl, _⟩ := hia'
          exact hc'.unique HC.out
        subst e7
        clear hc' hia' hl6 g2 g3
        have M6 := hb6.mono (show w4.heap.size + 1 ≤ _ by simp)
        have z46 : w4.heap.size < w6.heap.size := by have := M6.size; simp at this; omega
        have X6 := (X4.alloc (by omega) _).trans (M6.mono (by omega))
        have B6 := (B4.alloc (by omega) _).trans (M6.mono (by omega))
        have HR6 : Hid (Rd w6 (n + 1) c' x) := Rd.below hb6 HRc.out
        clear p0 p1 p2 p3 f0 f1 f2 f3 HC HRc hb6 hb4 b45
        obtain ⟨p0, p1, p2, p3⟩ := cells4 X6
        obtain ⟨m0, m1, m2, m3⟩ := cells4 M6
        obtain ⟨sa, sl, sc, er, rfl, HV⟩ : ∃ sa sl sc er, v6 = .tuple #[.slice sa sl sc, er] ∧ Hid ((c'.k = 91 ∧ sa = c'.ia ∧ sl = c'.il ∧ sc = c'.ic ∧ er = .nilIface) ∨ (c'.k ≠ 91 ∧ sa = none ∧ sl = 0 ∧ sc = 0 ∧ ∃ a : Addr, er = .iface 52 (.pointer (some a)))) := by
          rcases hv with ⟨e, rfl⟩ | ⟨e, a, rfl⟩
          · exact ⟨_, _, _, _, rfl, Or.inl ⟨e, rfl, rfl, rfl, rfl⟩⟩
          · exact ⟨_, _, _, _, rfl, Or.inr ⟨e, rfl, rfl, rfl, a, rfl⟩⟩
        clear hv
        go_wp2_with fail
        go_loopw [13, 14] (fun fd ix wr => ∃ (j : Nat) (t : Bool), j ≤ gnl ∧ ix = .int .i64 j ∧ fd = .bool t ∧ (i < j → t = true) ∧ Below w6.heap.size w6 wr) (fun _ ix _ => gnl - (intOf ix).toNat)
        case atStart => exact ⟨0, false, Nat.zero_le _, rfl, rfl, fun h => by omega, Below.refl _ _⟩
        case round =>
          obtain ⟨j, t, hj, rfl, rfl, ht, hbel⟩ := hrel
          have HT : Hid (i < j → t = true) := ht
          have X7 := X6.trans (hbel.mono (by omega))
          have M7 := M6.trans (hbel.mono (by omega))
          have B7 := B6.trans (hbel.mono B6.size)
          clear p0 p1 p2 p3 m0 m1 m2 m3 ht
          obtain ⟨p0, p1, p2, p3⟩ := cells4 X7
          obtain ⟨m0, m1, m2, m3⟩ := cells4 M7
          by_cases hlt : j < gnl
          · obtain ⟨bN, oN, eN, cN⟩ := (h2.below B7).cell (by omega)
            obtain ⟨bI, oI, eI, cI⟩ := (h3.below B7 (fun _ _ => Rd.below B7)).cell (by omega)
            subst eN eI
            obtain ⟨s, hs'⟩ : ∃ s, ((T.names D).getD [])[j]? = some s := ⟨_, List.getElem?_eq_getElem (by omega)⟩
            obtain ⟨y, hy⟩ : ∃ y, ((T.items D).getD [])[j]? = some y := ⟨_, List.getElem?_eq_getElem (by omega)⟩
            have xs := cN j s hs'
            obtain ⟨g, ⟨x0, x1, x2, x3⟩, rg⟩ := cI j y hy
            have hji : (j : Int) < (gil : Int) := by omega
            have HS2 : Hid (i = j → (s.toList == nm.toList) = true) := fun e => by
              subst e
              have := HL.out.2.1
              unfold hitB at this
              rw [hs', hy] at this
              simp at this
              simpa using this.1
            have HY : Hid (i = j → y = x) := fun e => by
              subst e
              have := HX.out
              rw [hy] at this
              exact Option.some.inj this
            have rg' := Rd.below ((Below.refl _ _).drew) rg
            have rc' := Rd.below hbel.drew HR6.out
            clear cN cI hs' hy rg
            by_cases e1 : (s.toList == nm.toList) = true
            · go_wp2_with fail
              go_region_with (go_at_call 11; refine (eqJV_any (n + 1) g c' y x _ rg' rc').mono ?_; rintro e w8 ⟨⟨t8, rfl, ht8⟩, hb8⟩)
              all_goals
                have b8 : Below w6.heap.size w6 w8 := hbel.drew.trans (hb8.mono hbel.drew.size)
                cases t8 with
                | true =>
                  go_wp2_with fail
                  go_roundw
                  case rel => exact ⟨j + 1, true, by omega, by go_num, rfl, fun _ => rfl, b8⟩
                  case measure => simp [intOf]; omega
                | false =>
                  have hij : ¬ i = j := fun e => by have := ht8 (HY.out e); cases this
                  go_wp2_with fail
                  go_roundw
                  case rel => exact ⟨j + 1, t, by omega, by go_num, rfl, fun h => HT.out (by omega), b8⟩
                  case measure => simp [intOf]; omega
            · have e1' : (s.toList == nm.toList) = false := by simpa using e1
              have hij : ¬ i = j := fun e => e1 (HS2.out e)
              clear e1
              go_wp2_with fail
              go_quiet (fail)
              go_wp2_with fail
              go_roundw
              case rel => exact ⟨j + 1, t, by omega, by go_num, rfl, fun h => HT.out (by omega), hbel.trans (below_draws_of hbel _)⟩
              case measure => simp [intOf]; omega
          · have hin : i < gnl := HL.out.1
            have et : t = true := HT.out (by omega)
            subst et
            have rc7 := Rd.below hbel HR6.out
            obtain ⟨hck7, cf, _, _, c3⟩ := rc7
            have cfi : c'.il * 80 ≤ 140737488351232 := cf.i
            clear hck7 h2 h3 hR0 hf
            rcases HV.out with ⟨hk91, rfl, rfl, rfl, rfl⟩ | ⟨hk91, rfl, rfl, rfl, a, rfl⟩
            · have hk91' : (c'.k == 91) = true := by simpa using hk91
              clear hk91 hck0 hck1 HV
              go_wp2_with fail
              refine (eqVals_any n _ _ _ _ _ _ _ _ _ c3 c3 (by omega) (by omega)).mono ?_
              rintro e w9 ⟨⟨t9, rfl, ht9⟩, hb9⟩
              have et := ht9 rfl
              subst et
              have B9 := B7.trans (hb9.mono B7.size)
              clear hb9 ht9 c3
              go_wp2_with fail
              go_ret
              exact ⟨rfl, B9⟩
            · have hk91' : (c'.k == 91) = false := by simpa using hk91
              have q28 := eql28
              clear hk91 hck0 hck1 HV c3
              go_wp2_with fail
              go_ret
              exact ⟨rfl, B7⟩
end Go.Proofs.Qxb6626323aFmt
