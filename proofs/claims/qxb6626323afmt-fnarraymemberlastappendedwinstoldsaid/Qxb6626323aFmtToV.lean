/-
  toV (function 6) by its contract: what it answers reads as its argument does, in blocks of the call's own.
-/
import Derived.Test.Qxb6626323aFmtWorld
import Derived.Deep.DeepCutAuto
namespace Go.Proofs.Qxb6626323aFmt
open Go.RowKit

theorem Tryf.info5 : (Tryf.prog.info? 5).map (fun i => (i.zero, i.size, i.bytes)) = some (some (.int .u8 0), 1, 1) := by kernel_rfl
theorem Tryf.info9 : (Tryf.prog.info? 9).map (fun i => (i.zero, i.size, i.bytes)) = some (some (.string ⟨#[]⟩), 1, 16) := by kernel_rfl
theorem Tryf.info30 : (Tryf.prog.info? 30).map (fun i => (i.zero, i.size, i.bytes)) = some (some (.agg #[.int .u8 0, .slice none 0 0, .slice none 0 0, .slice none 0 0]), 4, 80) := by kernel_rfl

def ToVPost (n : Nat) (w w' : World) (e : Ending) (D : T n) : Prop :=
  ∃ g : Hd, e = .returned g.val ∧ Below w.heap.size w w' ∧ g.rc = g.rl ∧ g.ic = g.il ∧ g.nc = g.nl ∧ ∀ w'', Agree w.heap.size w' w'' → Rd w'' n g D

def ToVSaid (n : Nat) : Prop := ∀ (h : Hd) (D : T n) (w : World), Rd w n h D → Calls Tryf.prog 6 #[h.val] w fun e w' => ToVPost n w w' e D

/-- A value's zero cells. -/
def zV : Array Value := #[.int .u8 0, .slice none 0 0, .slice none 0 0, .slice none 0 0]

/-- 'make([]Value, n)'. -/
theorem make_vals (n : Nat) (hn : n * 80 ≤ 140737488351232) (wz : World) :
    (Instr.makeSlice 28 (.int .i64 (n : Int)) (.int .i64 (n : Int))).run Tryf.prog wz = .ok (.slice (some ⟨wz.heap.size, 0, none⟩) n n) (wz.alloc (.cells (madeCells zV (n * 4)) 30)) := by
  obtain ⟨i, hi, hz0, hz1, hz2⟩ := info_parts Tryf.info30
  have hr := run_make (P := Tryf.prog) wz 28 30 i _ Tryf.underlying28 hi hz0 .i64 .i64 n n (by omega) (Int.le_refl _) (by rw [hz2]; omega) (by omega)
  rw [hz1] at hr
  simp only [Int.toNat_natCast] at hr
  exact hr

set_option maxRecDepth 100000 in
set_option maxHeartbeats 800000 in
theorem toV_of (n : Nat) (ih : ToVSaid n) : ToVSaid (n + 1) := by
  intro h D w hr
  obtain ⟨hk, hf, h1, h2, h3⟩ := hr
  obtain ⟨k, ra, rl, rc, ia, il, ic, na, nl, nc⟩ := h
  simp only at hk h1 h2 h3
  have HK : Hid (k = T.kind D) := hk
  clear hk
  have hmk1 := fun (wz : World) => run_make_row' (P := Tryf.prog) 22 5 (.int .u8 0) 1 Tryf.underlying22 Tryf.info5 rfl .i64 .i64 rl (by have := hf.r; simp at this; omega) (by have := hf.r; simp at this; omega) wz
  show Calls Tryf.prog 6 #[.agg #[.int .u8 k, .slice ra rl rc, .slice ia il ic, .slice na nl nc]] w _
  go_enter Tryf.func6, Tryf.ntmps6
  go_upto_if 15 with (fail)
  have hbox : Box w (((w.alloc (.cells #[.int .u8 k, .slice ra rl rc, .slice ia il ic, .slice na nl nc] 26)).alloc (.cells #[.int .u8 0, .slice none 0 0, .slice none 0 0, .slice none 0 0] 30)).alloc (.cells #[.int .u8 k, .slice none 0 0, .slice none 0 0, .slice none 0 0] 30)) ⟨k, ra, rl, rc, ia, il, ic, na, nl, nc⟩ ⟨k, none, 0, 0, none, 0, 0, none, 0, 0⟩ := box_start _ _ _ _ _ _ _ _ _ _ _
  go_cut [4] (fun _ wx => ∃ a1, Box w wx ⟨k, ra, rl, rc, ia, il, ic, na, nl, nc⟩ ⟨k, a1, rl, rl, none, 0, 0, none, 0, 0⟩ ∧ ∀ w'', Agree (w.heap.size + 3) wx w'' → SlAt w'' a1 rl (Value.int .u8) (T.raw D))
  case first =>
    cases ra with
    | none =>
      have HB : Hid (Box w _ _ _) := hbox
      have HE : Hid (rl = 0 ∧ T.raw D = none) := h1.nil
      clear hmk1 h1 h2 h3 hf hbox
      go_wp2_with fail
      go_meet
      case rel => exact ⟨none, by have hb := HB.out; rw [HE.out.1] at hb ⊢; exact hb, fun w'' _ => by rw [HE.out.1, HE.out.2]; exact ⟨rfl, rfl⟩⟩
    | some xa =>
      obtain ⟨l, hl, hll⟩ := h1.full
      have HL : Hid (T.raw D = some l) := hl
      rw [hl] at h1
      clear hl h2 h3
      have hbox1 := hbox.next ((Below.refl _ _).alloc (by simp) (.cells (madeCells #[.int .u8 0] rl) 5))
      have hrow1 := Row.made (((w.alloc (.cells #[.int .u8 k, .slice (some xa) rl rc, .slice ia il ic, .slice na nl nc] 26)).alloc (.cells #[.int .u8 0, .slice none 0 0, .slice none 0 0, .slice none 0 0] 30)).alloc (.cells #[.int .u8 k, .slice none 0 0, .slice none 0 0, .slice none 0 0] 30)) (.int .u8 0) rl 5 l (Value.int .u8)
      have hr : rl ≤ 140737488351232 := hf.r
      have HB1 : Hid (Box w _ _ _) := hbox1
      have HR1 : Hid (Row _ _ _ _ _ _ _) := hrow1
      clear hbox hbox1 hrow1 hf
      go_wp2_with fail
      clear hmk1
      go_loopw [5] (fun i wr => ∃ j : Nat, j ≤ rl ∧ i = .int .i64 j ∧ Row wr (w.heap.size + 1 + 1 + 1) 5 rl j l (Value.int .u8) ∧ Box w wr ⟨k, some xa, rl, rc, ia, il, ic, na, nl, nc⟩ ⟨k, none, 0, 0, none, 0, 0, none, 0, 0⟩) (fun i _ => rl - (intOf i).toNat)
      case atStart => exact ⟨0, Nat.zero_le _, rfl, by have := HR1.out; simpa using this, HB1.out⟩
      case round =>
        clear HB1 HR1
        obtain ⟨j, hj, rfl, hrow, hbx⟩ := hrel
        obtain ⟨⟨_, cb1, _, _⟩, ⟨_, co1, _, _⟩, fo, _⟩ := hbx.cells
        by_cases hlt : j < rl
        · obtain ⟨b1, o1, e1, c1⟩ := (h1.below hbx.below).cell (by omega)
          simp only [Option.some.injEq] at e1
          subst e1
          obtain ⟨u, hu⟩ : ∃ u, l[j]? = some u := ⟨_, List.getElem?_eq_getElem (by omega)⟩
          have x1 := c1 j u hu
          obtain ⟨v, hv⟩ := hrow.cell hlt
          have hfz := hrow.frozen j
          have hrow' := hrow.set hu
          have hbx' := hbx.next ((Below.refl _ _).setCell (p := ⟨w.heap.size + 1 + 1 + 1, j, none⟩) (by simp) (.int .u8 u))
          clear c1 h1 hu hrow hbx co1 fo
          have HR : Hid (Row _ _ _ _ _ _ _) := hrow'
          have HB : Hid (Box w _ _ _) := hbx'
          clear hrow' hbx'
          go_wp2_with fail
          go_roundw
          case rel => exact ⟨j + 1, by omega, by go_num, HR.out, HB.out⟩
          case measure => simp [intOf]; omega
        · have e : j = rl := by omega
          have HR : Hid (Row _ _ _ _ _ _ _) := hrow
          have HB : Hid (Box w _ _ _) := hbx
          have fo1 := fo 1
          clear hrow hbx h1 fo
          go_wp2_with fail
          go_meet
          case rel => exact ⟨some ⟨w.heap.size + 1 + 1 + 1, 0, none⟩, HB.out.setRaw _ _ _, fun w'' ha => by rw [HL.out]; have hr := HR.out; rw [e] at hr; exact hr.slAt hll (by omega) (ha.set (by simp only; omega))⟩
  case rest =>
    obtain ⟨a1, hbx, hA1⟩ := hcut
    have HB : Hid (Box w wc _ _) := hbx
    have HA1 : Hid (∀ w'', Agree (w.heap.size + 3) wc w'' → SlAt w'' a1 rl (Value.int .u8) (T.raw D)) := hA1
    obtain ⟨⟨_, _, cb2, _⟩, _⟩ := hbx.cells
    have hmk2 := make_vals il hf.i
    clear hmk1 hbox hbx hA1 h1
    go_upto_if 39 with (fail)
    go_cut [6] (fun _ wx => ∃ a2, Box w wx ⟨k, ra, rl, rc, ia, il, ic, na, nl, nc⟩ ⟨k, a1, rl, rl, a2, il, il, none, 0, 0⟩ ∧ (∀ w'', Agree (w.heap.size + 3) wx w'' → SlAt w'' a1 rl (Value.int .u8) (T.raw D)) ∧ ∀ w'', Agree (w.heap.size + 3) wx w'' → ItAt w'' a2 il (Rd w'' n) (T.items D))
    case first =>
      cases ia with
      | none =>
        have HE : Hid (il = 0 ∧ T.items D = none) := h3.nil
        clear hmk2 h2 h3 hf
        go_wp2_with fail
        go_meet
        case rel => exact ⟨none, by have hb := HB.out; rw [HE.out.1] at hb ⊢; exact hb, HA1.out, fun w'' _ => by rw [HE.out.1, HE.out.2]; exact ⟨rfl, rfl⟩⟩
      | some xa =>
        obtain ⟨l, hl, hll⟩ := h3.full
        have HL : Hid (T.items D = some l) := hl
        rw [hl] at h3
        have hi80 : il * 80 ≤ 140737488351232 := hf.i
        clear hl h2 hf
        go_wp2_with fail
        clear hmk2
        have hbs : w.heap.size + 3 ≤ wc.heap.size := HB.out.size
        go_loopw [7] (fun i wr => ∃ j : Nat, j ≤ il ∧ i = .int .i64 j ∧ RowIt wr wc.heap.size il j l (fun w'' g x => Rd w'' n g x) ∧ Box w wr ⟨k, ra, rl, rc, some xa, il, ic, na, nl, nc⟩ ⟨k, a1, rl, rl, none, 0, 0, none, 0, 0⟩ ∧ Agree (w.heap.size + 3) wc wr ∧ wc.heap.size ≤ wr.heap.size) (fun i _ => il - (intOf i).toNat)
        case atStart => exact ⟨0, Nat.zero_le _, rfl, RowIt.made _ _ _ _ _, HB.out.next ((Below.refl _ _).alloc hbs _), fun b _ h2 => Below.heap_alloc _ _ _ h2, by simp⟩
        case round =>
          obtain ⟨j, hj, rfl, hrow, hbx, hag, hsz⟩ := hrel
          obtain ⟨⟨_, _, cb2', _⟩, ⟨_, _, co2, _⟩, fo, _⟩ := hbx.cells
          clear cb2
          by_cases hlt : j < il
          · have h3' := h3.below hbx.below (fun _ _ => Rd.below hbx.below)
            obtain ⟨b1, o1, e1, c1⟩ := ItAt.cell h3' (by omega)
            simp only [Option.some.injEq] at e1
            subst e1
            obtain ⟨u, hu⟩ : ∃ u, l[j]? = some u := ⟨_, List.getElem?_eq_getElem (by omega)⟩
            obtain ⟨g, ⟨x0, x1, x2, x3⟩, rg⟩ := c1 j u hu
            have HU : Hid (l[j]? = some u) := hu
            have HR : Hid (RowIt _ _ _ _ _ _) := hrow
            have HX : Hid (Box w _ _ _) := hbx
            have HG : Hid (Agree _ _ _) := hag
            clear c1 h3 h3' hu hrow hbx hag co2 fo
            go_wp2_with fail
            refine (ih g u _ rg).mono ?_
            rintro e w2 ⟨r, rfl, hb2, er1, er2, er3, hrd⟩
            clear er1 er2 er3
            have hrow2 := HR.out.below hb2
            obtain ⟨v0, y0⟩ := hrow2.cell (i := j * 4) (by omega)
            obtain ⟨v1, y1⟩ := hrow2.cell (i := j * 4 + 1) (by omega)
            obtain ⟨v2, y2⟩ := hrow2.cell (i := j * 4 + 2) (by omega)
            obtain ⟨v3, y3⟩ := hrow2.cell (i := j * 4 + 3) (by omega)
            have z0 := hrow2.frozen (j * 4)
            have z1 := hrow2.frozen (j * 4 + 1)
            have z2 := hrow2.frozen (j * 4 + 2)
            have z3 := hrow2.frozen (j * 4 + 3)
            have HR2 : Hid (RowIt _ _ _ _ _ _) := hrow2
            have HD : Hid (∀ w'', Agree wr.heap.size w2 w'' → Rd w'' n r u) := hrd
            clear x0 x1 x2 x3 rg hrow2 hrd
            go_wp2_with fail
            go_roundw
            case rel =>
              have hwl := HR.out.lt
              refine ⟨j + 1, by omega, by go_num, HR2.out.store hlt HU.out r (fun w'' ha => HD.out w'' (ha.mono (by omega))), (HX.out.next (hb2.mono HX.out.size)).next (below_put4 r hbs), agree_put4 r (HG.out.on hsz hb2) (Nat.le_refl _), ?_⟩
              rw [size_put4]
              exact Nat.le_trans hsz hb2.size
            case measure => simp [intOf]; omega
          · have e : j = il := by omega
            have fo2 := fo 2
            have HR : Hid (RowIt _ _ _ _ _ _) := hrow
            have HX : Hid (Box w _ _ _) := hbx
            have HG : Hid (Agree _ _ _) := hag
            clear hrow hbx hag h3 fo
            go_wp2_with fail
            go_meet
            case rel =>
              refine ⟨some ⟨wc.heap.size, 0, none⟩, HX.out.setItems _ _ _, fun w'' ha => HA1.out w'' (HG.out.trans (ha.set (by simp only; omega)) hsz), fun w'' ha => ?_⟩
              have hr := HR.out
              rw [e] at hr
              rw [HL.out]
              exact RowIt.itAt hr hll hbs (ha.set (by simp only; omega))
    case rest =>
      obtain ⟨a2, hbx, hA1, hA2⟩ := hcut
      clear HB HA1
      rename_i wc0 _ wc
      have HB : Hid (Box w wc _ _) := hbx
      have HA1 : Hid (∀ w'', Agree (w.heap.size + 3) wc w'' → SlAt w'' a1 rl (Value.int .u8) (T.raw D)) := hA1
      have HA2 : Hid (∀ w'', Agree (w.heap.size + 3) wc w'' → ItAt w'' a2 il (Rd w'' n) (T.items D)) := hA2
      obtain ⟨⟨_, _, _, cb3⟩, _⟩ := hbx.cells
      have hmk3 := fun (wz : World) => run_make_row' (P := Tryf.prog) 24 9 (.string ⟨#[]⟩) 16 Tryf.underlying24 Tryf.info9 rfl .i64 .i64 nl (by have := hf.n; simp at this; omega) (by have := hf.n; simp at this; omega) wz
      clear hmk2 hbx hA1 hA2 h3 cb2
      go_upto_if 64 with (fail)
      go_cut [8] (fun _ wx => ∃ a3, Box w wx ⟨k, ra, rl, rc, ia, il, ic, na, nl, nc⟩ ⟨k, a1, rl, rl, a2, il, il, a3, nl, nl⟩ ∧ (∀ w'', Agree (w.heap.size + 3) wx w'' → SlAt w'' a1 rl (Value.int .u8) (T.raw D)) ∧ (∀ w'', Agree (w.heap.size + 3) wx w'' → ItAt w'' a2 il (Rd w'' n) (T.items D)) ∧ ∀ w'', Agree (w.heap.size + 3) wx w'' → SlAt w'' a3 nl Value.string (T.names D))
      case first =>
        cases na with
        | none =>
          have HE : Hid (nl = 0 ∧ T.names D = none) := h2.nil
          clear hmk3 h2 hf
          go_wp2_with fail
          go_meet
          case rel => exact ⟨none, by have hb := HB.out; rw [HE.out.1] at hb ⊢; exact hb, HA1.out, HA2.out, fun w'' _ => by rw [HE.out.1, HE.out.2]; exact ⟨rfl, rfl⟩⟩
        | some xa =>
          obtain ⟨l, hl, hll⟩ := h2.full
          have HL : Hid (T.names D = some l) := hl
          rw [hl] at h2
          have hn16 : nl * 16 ≤ 140737488351232 := hf.n
          clear hl hf
          go_wp2_with fail
          clear hmk3
          have hbs : w.heap.size + 3 ≤ wc.heap.size := HB.out.size
          go_loopw [9] (fun i wr => ∃ j : Nat, j ≤ nl ∧ i = .int .i64 j ∧ Row wr wc.heap.size 9 nl j l Value.string ∧ Box w wr ⟨k, ra, rl, rc, ia, il, ic, some xa, nl, nc⟩ ⟨k, a1, rl, rl, a2, il, il, none, 0, 0⟩ ∧ Agree (w.heap.size + 3) wc wr ∧ wc.heap.size ≤ wr.heap.size) (fun i _ => nl - (intOf i).toNat)
          case atStart => exact ⟨0, Nat.zero_le _, rfl, Row.made _ _ _ _ _ _, HB.out.next ((Below.refl _ _).alloc hbs _), fun b _ h2 => Below.heap_alloc _ _ _ h2, by simp⟩
          case round =>
            obtain ⟨j, hj, rfl, hrow, hbx, hag, hsz⟩ := hrel
            obtain ⟨⟨_, _, _, cb3'⟩, ⟨_, _, _, co3⟩, fo, _⟩ := hbx.cells
            clear cb3
            by_cases hlt : j < nl
            · obtain ⟨b1, o1, e1, c1⟩ := (h2.below hbx.below).cell (by omega)
              simp only [Option.some.injEq] at e1
              subst e1
              obtain ⟨u, hu⟩ : ∃ u, l[j]? = some u := ⟨_, List.getElem?_eq_getElem (by omega)⟩
              have x1 := c1 j u hu
              obtain ⟨v, hv⟩ := hrow.cell hlt
              have hfz := hrow.frozen j
              have hrow' := hrow.set hu
              have hbx' := hbx.next ((Below.refl _ _).setCell (p := ⟨wc.heap.size, j, none⟩) hbs (.string u))
              have hag' := hag.store (a := ⟨wc.heap.size, j, none⟩) (v := .string u) (Or.inr (Nat.le_refl _))
              have hsz' : wc.heap.size ≤ (wr.setCell ⟨wc.heap.size, j, none⟩ (.string u)).heap.size := by simpa [World.setCell] using hsz
              have HR : Hid (Row _ _ _ _ _ _ _) := hrow'
              have HX : Hid (Box w _ _ _) := hbx'
              have HG : Hid (Agree _ _ _) := hag'
              have HZ : Hid (wc.heap.size ≤ _) := hsz'
              clear c1 h2 hu hrow hbx co3 fo hag hrow' hbx' hag' hsz'
              go_wp2_with fail
              go_roundw
              case rel => exact ⟨j + 1, by omega, by go_num, HR.out, HX.out, HG.out, HZ.out⟩
              case measure => simp [intOf]; omega
            · have e : j = nl := by omega
              have fo3 := fo 3
              have HR : Hid (Row _ _ _ _ _ _ _) := hrow
              have HX : Hid (Box w _ _ _) := hbx
              have HG : Hid (Agree _ _ _) := hag
              clear hrow hbx hag h2 fo
              go_wp2_with fail
              go_meet
              case rel =>
                refine ⟨some ⟨wc.heap.size, 0, none⟩, HX.out.setNames _ _ _, fun w'' ha => HA1.out w'' (HG.out.trans (ha.set (by simp only; omega)) hsz), fun w'' ha => HA2.out w'' (HG.out.trans (ha.set (by simp only; omega)) hsz), fun w'' ha => ?_⟩
                have hr := HR.out
                rw [e] at hr
                rw [HL.out]
                exact Row.slAt hr hll hbs (ha.set (by simp only; omega))
      case rest =>
        obtain ⟨a3, hbx, hA1, hA2, hA3⟩ := hcut
        clear HA1 HA2 HB
        obtain ⟨_, ⟨o0, o1, o2, o3⟩, _, fr, ⟨r0, r1, r2, r3⟩⟩ := hbx.cells
        have f0 := fr 0
        have f1 := fr 1
        have f2 := fr 2
        have f3 := fr 3
        simp only at o0 o1 o2 o3
        have HX : Hid (Box w wc _ _) := hbx
        have H1 : Hid (∀ w'', Agree (w.heap.size + 3) wc w'' → SlAt w'' a1 rl (Value.int .u8) (T.raw D)) := hA1
        have H2 : Hid (∀ w'', Agree (w.heap.size + 3) wc w'' → ItAt w'' a2 il (Rd w'' n) (T.items D)) := hA2
        have H3 : Hid (∀ w'', Agree (w.heap.size + 3) wc w'' → SlAt w'' a3 nl Value.string (T.names D)) := hA3
        clear hbx hA1 hA2 hA3 fr h2 hmk3
        go_wp2_with fail
        refine bodyPost_ret (v := .agg #[.int .u8 k, .slice a1 rl rl, .slice a2 il il, .slice a3 nl nl]) (by simp [results, Tryf.results6, go_sem, r0, r1, r2, r3]) rfl ?_
        have hbl : Below w.heap.size w (put4 wc (w.heap.size + 1) 0 ⟨k, a1, rl, rl, a2, il, il, a3, nl, nl⟩) := HX.out.below.trans (below_put4 _ (by omega))
        refine ⟨⟨k, a1, rl, rl, a2, il, il, a3, nl, nl⟩, rfl, hbl, rfl, rfl, rfl, fun w'' ha => ?_⟩
        have ha' : Agree (w.heap.size + 3) wc w'' := ((((ha.mono (by omega)).set (by simp only; omega)).set (by simp only; omega)).set (by simp only; omega)).set (by simp only; omega)
        exact ⟨HK.out, ⟨hf.k0, hf.k1, hf.r, hf.i, hf.n, hf.s⟩, H1.out w'' ha', H3.out w'' ha', H2.out w'' ha'⟩

theorem toV_any : ∀ n, ToVSaid n
  | 0 => fun _ _ _ h => False.elim h
  | n + 1 => toV_of n (toV_any n)
end Go.Proofs.Qxb6626323aFmt
