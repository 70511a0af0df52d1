/-
  (Value).Lookup (function 14), Member (function 10), ArrayMember (function 7) by their contracts.
-/
import Derived.Test.Qxb6626323aFmtErr
namespace Go.Proofs.Qxb6626323aFmt
open Go.RowKit Go.Extern.Stop Go.Stop Go.Extern

/-- Does place i hold a member of that name that is not missing? -/
def hitB {n : Nat} (N : List ByteArray) (I : List (T (n + 1))) (nm : ByteArray) (i : Nat) : Bool :=
  match N[i]?, I[i]? with
  | some s, some x => (s.toList == nm.toList) && (T.kind x != 0)
  | _, _ => false

/-- r is the last of the places 0 .. n - 1 at which the test says yes; none if it says so nowhere. -/
def Last (hit : Nat → Bool) (n : Nat) : Option Nat → Prop
  | none => ∀ i, i < n → hit i = false
  | some i => i < n ∧ hit i = true ∧ ∀ j, i < j → j < n → hit j = false

/-- What Lookup answers in the world w: nothing; or the header that lies at the last place. -/
def Looked (w : World) (ia : Option Addr) (v : Value) : Option Nat → Prop
  | none => v = .tuple #[.agg #[.int .u8 0, .slice none 0 0, .slice none 0 0, .slice none 0 0], .bool false]
  | some i => ∃ c b off, v = .tuple #[Hd.val c, .bool true] ∧ ia = some ⟨b, off, none⟩ ∧ HdAt w b (off + i * 4) c

def LookPost {n : Nat} (w w' : World) (e : Ending) (N : List ByteArray) (I : List (T (n + 1))) (nm : ByteArray) (nl : Nat) (ia : Option Addr) : Prop :=
  ∃ r v, e = .returned v ∧ Last (hitB N I nm) nl r ∧ Looked w ia v r ∧ Below w.heap.size w w'

theorem HdAt.unique {w : World} {b o : Nat} {g c : Hd} (h : HdAt w b o g) (k : HdAt w b o c) : g = c := by
  obtain ⟨x0, x1, x2, x3⟩ := h
  obtain ⟨z0, z1, z2, z3⟩ := k
  rw [x0] at z0
  rw [x1] at z1
  rw [x2] at z2
  rw [x3] at z3
  simp only [Option.some.injEq, Value.int.injEq, Value.slice.injEq, true_and] at z0 z1 z2 z3
  cases g; cases c
  simp_all

/-- A header that is found at a place in a later world lay there before, and reads as the item there does. -/
theorem ItAt.down {α : Type} {w w' : World} {ia : Option Addr} {n i b off : Nat} {R : Hd → α → Prop} {d : Option (List α)} {x : α} {c : Hd} (h : ItAt w ia n R d) (hb : Below w.heap.size w w') (hx : (d.getD [])[i]? = some x) (e : ia = some ⟨b, off, none⟩) (hc : HdAt w' b (off + i * 4) c) :
    HdAt w b (off + i * 4) c ∧ R c x := by
  have hi : i < n := by
    rw [← h.length]
    rcases Nat.lt_or_ge i (d.getD []).length with h | h
    · exact h
    · rw [List.getElem?_eq_none h] at hx; cases hx
  obtain ⟨b', off', e', hh⟩ := h.cell (by omega)
  rw [e] at e'
  simp only [Option.some.injEq, Addr.mk.injEq] at e'
  obtain ⟨rfl, rfl, _⟩ := e'
  obtain ⟨g, hg, hr⟩ := hh i x hx
  have := (hg.below hb).unique hc
  subst this
  exact ⟨hg, hr⟩

set_option maxRecDepth 100000 in
set_option maxHeartbeats 800000 in
theorem look_any (n : Nat) (k : Int) (ra : Option Addr) (rl rc : Nat) (ia : Option Addr) (il ic : Nat) (na : Option Addr) (nl nc : Nat) (dN : Option (List ByteArray)) (dI : Option (List (T (n + 1)))) (nm : ByteArray) (w : World)
    (h2 : SlAt w na nl Value.string dN) (h3 : ItAt w ia il (Rd w (n + 1)) dI) (hle : nl ≤ il) (hil : il ≤ 140737488351232) :
    Calls Tryf.prog 14 #[.agg #[.int .u8 k, .slice ra rl rc, .slice ia il ic, .slice na nl nc], .string nm] w fun e w' => LookPost w w' e (dN.getD []) (dI.getD []) nm nl ia := by
  have lenN := h2.length
  have lenI := h3.length
  have b0 := below_two w (.cells #[.int .u8 k, .slice ra rl rc, .slice ia il ic, .slice na nl nc] 30) (.cells #[.int .u8 0, .slice none 0 0, .slice none 0 0, .slice none 0 0] 30)
  go_enter Tryf.func14, Tryf.ntmps14
  go_wp2_with fail
  go_loop [6] (fun i => ∃ m : Nat, m ≤ nl ∧ i = .int .i64 ((m : Int) - 1) ∧ ∀ j, m ≤ j → j < nl → hitB (dN.getD []) (dI.getD []) nm j = false) (fun i => (intOf i + 1).toNat)
  case atStart => exact ⟨nl, Nat.le_refl _, rfl, fun j h1 h2 => by omega⟩
  case round =>
    obtain ⟨m, hm, rfl, hno⟩ := hrel
    have HN : Hid (∀ j, m ≤ j → j < nl → hitB (dN.getD []) (dI.getD []) nm j = false) := hno
    clear hno
    by_cases hm0 : m = 0
    · subst hm0
      clear h2 h3
      go_wp2_with fail
      refine bodyPost_ret (v := .tuple #[.agg #[.int .u8 0, .slice none 0 0, .slice none 0 0, .slice none 0 0], .bool false]) (by simp [results, Tryf.results14, go_sem]) rfl ?_
      exact ⟨none, _, rfl, fun i hi => HN.out i (by omega) hi, rfl, b0⟩
    · obtain ⟨q, rfl⟩ : ∃ q, m = q + 1 := ⟨m - 1, by omega⟩
      rw [show ((q + 1 : Nat) : Int) - 1 = (q : Int) by omega]
      obtain ⟨bN, oN, eN, cN⟩ := (h2.below b0).cell (by omega)
      obtain ⟨bI, oI, eI, cI⟩ := (h3.below b0 (fun _ _ => Rd.below b0)).cell (by omega)
      subst eN eI
      obtain ⟨s, hs⟩ : ∃ s, (dN.getD [])[q]? = some s := ⟨_, List.getElem?_eq_getElem (by omega)⟩
      obtain ⟨x, hx⟩ : ∃ x, (dI.getD [])[q]? = some x := ⟨_, List.getElem?_eq_getElem (by omega)⟩
      have xs := cN q s hs
      obtain ⟨g, ⟨x0, x1, x2, x3⟩, rg⟩ := cI q x hx
      obtain ⟨b', o', eb', cI'⟩ := h3.cell (by omega)
      simp only [Option.some.injEq, Addr.mk.injEq] at eb'
      obtain ⟨rfl, rfl, _⟩ := eb'
      obtain ⟨g', yy, rg'⟩ := cI' q x hx
      have eg : g' = g := (yy.below b0).unique ⟨x0, x1, x2, x3⟩
      subst eg
      have hk : g'.k = T.kind x := rg'.1
      have hit : hitB (dN.getD []) (dI.getD []) nm q = ((s.toList == nm.toList) && (g'.k != 0)) := by
        unfold hitB; rw [hs, hx, hk]
      have HY : Hid (HdAt w bI (oI + q * 4) g') := yy
      have HH : Hid (hitB (dN.getD []) (dI.getD []) nm q = ((s.toList == nm.toList) && (g'.k != 0))) := hit
      have hqi : (q : Int) < (il : Int) := by omega
      clear h2 h3 cN cI cI' hs hx rg rg' hk hit yy lenN lenI
      by_cases e1 : (s.toList == nm.toList) = true
      · by_cases e2 : (g'.k != 0) = true
        · go_wp2_with fail
          refine bodyPost_ret (v := .tuple #[g'.val, .bool true]) (by simp [results, Tryf.results14, go_sem]) rfl ?_
          exact ⟨some q, _, rfl, ⟨by omega, by rw [HH.out, e1, e2]; rfl, fun j h1 h2 => HN.out j (by omega) h2⟩, ⟨g', bI, oI, rfl, rfl, HY.out⟩, below_two _ _ _⟩
        · have e2' : (g'.k != 0) = false := by simpa using e2
          clear e2
          go_wp2_with fail
          go_round
          case rel =>
            refine ⟨q, by omega, by go_num, fun j h1 h2 => ?_⟩
            by_cases e : j = q
            · rw [e, HH.out, e2']; simp
            · exact HN.out j (by omega) h2
          case measure => simp [intOf]
      · have e1' : (s.toList == nm.toList) = false := by simpa using e1
        clear e1
        go_wp2_with fail
        go_round
        case rel =>
          refine ⟨q, by omega, by go_num, fun j h1 h2 => ?_⟩
          by_cases e : j = q
          · rw [e, HH.out, e1']; simp
          · exact HN.out j (by omega) h2
        case measure => simp [intOf]

theorem bfroz {W w1 : World} (hb : Below W.heap.size W w1) : ∀ b o, b < W.heap.size → w1.frozen? ⟨b, o, none⟩ = W.frozen? ⟨b, o, none⟩ := fun b o h => hb.frozen (p := ⟨b, o, none⟩) h

/-- What Member answers: an error; or the header that lies at the last place, and no error. -/
def Got (w : World) (ia : Option Addr) (v : Value) : Option Nat → Prop
  | none => ∃ a : Addr, v = .tuple #[.agg #[.int .u8 0, .slice none 0 0, .slice none 0 0, .slice none 0 0], .iface 52 (.pointer (some a))]
  | some i => ∃ c b off, v = .tuple #[Hd.val c, .nilIface] ∧ ia = some ⟨b, off, none⟩ ∧ HdAt w b (off + i * 4) c

def MemPost {n : Nat} (w w' : World) (e : Ending) (N : List ByteArray) (I : List (T (n + 1))) (nm : ByteArray) (nl : Nat) (ia : Option Addr) : Prop :=
  ∃ r v, e = .returned v ∧ Last (hitB N I nm) nl r ∧ Got w ia v r ∧ Below w.heap.size w w'

theorem Last.item {n : Nat} {N : List ByteArray} {I : List (T (n + 1))} {nm : ByteArray} {nl i : Nat} (h : Last (hitB N I nm) nl (some i)) : ∃ x, I[i]? = some x ∧ T.kind x ≠ 0 := by
  obtain ⟨_, h2, _⟩ := h
  unfold hitB at h2
  cases hs : N[i]? with
  | none => rw [hs] at h2; cases h2
  | some s =>
    cases hx : I[i]? with
    | none => rw [hs, hx] at h2; cases h2
    | some x =>
      rw [hs, hx] at h2
      simp at h2
      exact ⟨x, rfl, h2.2⟩

set_option maxRecDepth 100000 in
set_option maxHeartbeats 800000 in
theorem member_any (F : Interp) (n : Nat) (k : Int) (ra : Option Addr) (rl rc : Nat) (ia : Option Addr) (il ic : Nat) (na : Option Addr) (nl nc : Nat) (dN : Option (List ByteArray)) (dI : Option (List (T (n + 1)))) (nm : ByteArray) (w : World)
    (hF : F.answers w.tape) (h2 : SlAt w na nl Value.string dN) (h3 : ItAt w ia il (Rd w (n + 1)) dI) (hle : nl ≤ il) (hil : il ≤ 140737488351232) :
    Calls Tryf.prog 10 #[.agg #[.int .u8 k, .slice ra rl rc, .slice ia il ic, .slice na nl nc], .string nm] w fun e w' => MemPost w w' e (dN.getD []) (dI.getD []) nm nl ia := by
  have b0 := below_two w (.cells #[.int .u8 k, .slice ra rl rc, .slice ia il ic, .slice na nl nc] 30) (.cells #[.int .u8 0, .slice none 0 0, .slice none 0 0, .slice none 0 0] 30)
  go_enter Tryf.func10, Tryf.ntmps10
  go_wp2_with fail
  refine (look_any n k ra rl rc ia il ic na nl nc dN dI nm _ (h2.below b0) (h3.below b0 (fun _ _ => Rd.below b0)) hle hil).mono ?_
  rintro e w3 ⟨r, v, rfl, hl, hk, hb3⟩
  have b3 : Below w.heap.size w w3 := b0.trans (hb3.mono b0.size)
  have c3 := bcell hb3
  have f3 := bfroz hb3
  have hz3 : w.heap.size + 1 < w3.heap.size := by have := hb3.size; simp at this; omega
  have hF3 : F.answers w3.tape := by rw [b3.tape]; exact hF
  have HL : Hid (Last (hitB (dN.getD []) (dI.getD []) nm) nl r) := hl
  clear hl h2 hF
  cases r with
  | some i =>
    obtain ⟨c, b, off, rfl, hia, hc⟩ := hk
    obtain ⟨x, hx, _⟩ := HL.out.item
    have HD : Hid (HdAt w b (off + i * 4) c) := (h3.down b0 hx hia hc).1
    have HA : Hid (ia = some ⟨b, off, none⟩) := hia
    clear hc hx hia h3 hF3
    go_wp2_with fail
    refine bodyPost_ret (v := .tuple #[c.val, .nilIface]) (by simp [results, Tryf.results10, go_sem, c3, hz3]) rfl ?_
    exact ⟨some i, _, rfl, HL.out, ⟨c, b, off, rfl, HA.out, HD.out⟩, (b3.trans (below_put4 c (Nat.le_succ _))).alloc (by simp [World.setCell]; omega) _⟩
  | none =>
    have hv : v = _ := hk
    subst hv
    clear hk h3
    go_wp2_with fail
    refine (missing_any F nm _ (by exact hF3)).mono ?_
    rintro e w5 ⟨a, rfl, hb5⟩
    have hb35 := (hb3.alloc hb3.size (.cells #[.int .u8 0, .slice none 0 0, .slice none 0 0, .slice none 0 0] 30)).trans (hb5.mono (by have := hb3.size; simp at this ⊢; omega))
    have c5 := bcell hb35
    have f5 := bfroz hb35
    have b5 : Below w.heap.size w w5 := (b3.alloc (by omega) _).trans (hb5.mono (by simp; omega))
    clear hb5 hb3 hF3 hb35 c3 f3
    go_wp2_with fail
    refine bodyPost_ret (v := .tuple #[.agg #[.int .u8 0, .slice none 0 0, .slice none 0 0, .slice none 0 0], .iface 52 (.pointer (some a))]) (by simp [results, Tryf.results10, go_sem, c5]) rfl ?_
    exact ⟨none, _, rfl, HL.out, ⟨a, rfl⟩, b5.trans (below_put4 ⟨0, none, 0, 0, none, 0, 0, none, 0, 0⟩ (Nat.le_succ _))⟩

/-- What ArrayMember answers: an error and no elements; or the elements of the array that lies at the last place. -/
def Arr (w : World) (ia : Option Addr) (v : Value) : Option Nat → Prop
  | none => ∃ a : Addr, v = .tuple #[.slice none 0 0, .iface 52 (.pointer (some a))]
  | some i => ∃ (c : Hd) (b off : Nat), ia = some ⟨b, off, none⟩ ∧ HdAt w b (off + i * 4) c ∧ ((c.k = 91 ∧ v = .tuple #[.slice c.ia c.il c.ic, .nilIface]) ∨ (c.k ≠ 91 ∧ ∃ a : Addr, v = .tuple #[.slice none 0 0, .iface 52 (.pointer (some a))]))

def ArrPost {n : Nat} (w w' : World) (e : Ending) (N : List ByteArray) (I : List (T (n + 1))) (nm : ByteArray) (nl : Nat) (ia : Option Addr) : Prop :=
  ∃ r v, e = .returned v ∧ Last (hitB N I nm) nl r ∧ Arr w ia v r ∧ Below w.heap.size w w'

attribute [local go_sem] Tryf.call18 Tryf.guard Tryf.fmt0 Tryf.fmt0r Tryf.fmt1 Tryf.fmt1r Tryf.op9_115w Tryf.op9_115 Tryf.ptr52 Tryf.elem52

set_option maxRecDepth 100000 in
set_option maxHeartbeats 800000 in
theorem array_any (F : Interp) (n : Nat) (k : Int) (ra : Option Addr) (rl rc : Nat) (ia : Option Addr) (il ic : Nat) (na : Option Addr) (nl nc : Nat) (dN : Option (List ByteArray)) (dI : Option (List (T (n + 1)))) (nm : ByteArray) (w : World)
    (hF : F.answers w.tape) (h2 : SlAt w na nl Value.string dN) (h3 : ItAt w ia il (Rd w (n + 1)) dI) (hle : nl ≤ il) (hil : il ≤ 140737488351232) :
    Calls Tryf.prog 7 #[.agg #[.int .u8 k, .slice ra rl rc, .slice ia il ic, .slice na nl nc], .string nm] w fun e w' => ArrPost w w' e (dN.getD []) (dI.getD []) nm nl ia := by
  have b0 : Below w.heap.size w (w.alloc (.cells #[.int .u8 k, .slice ra rl rc, .slice ia il ic, .slice na nl nc] 30)) := (Below.refl _ _).alloc (Nat.le_refl _) _
  go_enter Tryf.func7, Tryf.ntmps7
  go_wp2_with fail
  refine (member_any F n k ra rl rc ia il ic na nl nc dN dI nm _ (by exact hF) (h2.below b0) (h3.below b0 (fun _ _ => Rd.below b0)) hle hil).mono ?_
  rintro e w3 ⟨r, v, rfl, hl, hk, hb3⟩
  have b3 : Below w.heap.size w w3 := b0.trans (hb3.mono b0.size)
  have hz3 : w.heap.size < w3.heap.size := by have := hb3.size; simp at this; omega
  have hF3 : F.answers w3.tape := by rw [b3.tape]; exact hF
  have hF3' := answers_open hF3
  have HL : Hid (Last (hitB (dN.getD []) (dI.getD []) nm) nl r) := hl
  clear hl h2 hF hF3
  cases r with
  | some i =>
    obtain ⟨c, b, off, rfl, hia, hc⟩ := hk
    obtain ⟨x, hx, _⟩ := HL.out.item
    have HD : Hid (HdAt w b (off + i * 4) c) := (h3.down b0 hx hia hc).1
    have HA : Hid (ia = some ⟨b, off, none⟩) := hia
    clear hc hx hia h3 hb3
    by_cases hk91 : (c.k != 91) = true
    · have e91 : Hid (c.k ≠ 91) := by show c.k ≠ 91; simpa using hk91
      go_wp2
      go_ret2
      exact ⟨some i, _, rfl, HL.out, ⟨c, b, off, HA.out, HD.out, Or.inr ⟨e91.out, ⟨w3.heap.size + 1 + 1, 0, none⟩, rfl⟩⟩, (((b3.alloc (by omega) _).alloc (by simp; omega) _).alloc (by simp; omega) _).drew⟩
    · have hk91' : (c.k != 91) = false := by simpa using hk91
      have e91 : Hid (c.k = 91) := by show c.k = 91; simpa using hk91
      clear hk91 hF3'
      go_wp2_with fail
      go_ret2
      exact ⟨some i, _, rfl, HL.out, ⟨c, b, off, HA.out, HD.out, Or.inl ⟨e91.out, rfl⟩⟩, b3.alloc (by omega) _⟩
  | none =>
    obtain ⟨a, rfl⟩ := hk
    clear h3 hF3' hb3
    go_wp2_with fail
    go_ret2
    exact ⟨none, _, rfl, HL.out, ⟨a, rfl⟩, b3.alloc (by omega) _⟩
end Go.Proofs.Qxb6626323aFmt
