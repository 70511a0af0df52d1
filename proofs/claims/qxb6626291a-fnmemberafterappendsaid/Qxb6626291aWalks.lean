/-
  zzObj (function 6), Member (function 8), zzAt (function 7) by their contracts.
-/
import Derived.Test.Qxb6626291aRows
import Derived.Test.Qxb6626291aPlain
import Derived.WalkKit
import Derived.WalkLawsBesides
import Derived.LaidEqlPtr
namespace Go.Proofs.Qxb6626291a
open Go.RowKit

/-- The n cells behind 'ao' hold the strings. -/
def StrsAt (w : World) (ao : Option Addr) (n : Nat) (Sx : Nat → ByteArray) : Prop :=
  ∀ i, i < n → ∃ b off, ao = some ⟨b, off, none⟩ ∧ w.cell? ⟨b, off + i, none⟩ = some (.string (Sx i))

theorem StrsAt.open {w : World} {ao : Option Addr} {n : Nat} {Sx : Nat → ByteArray} (h : StrsAt w ao n Sx) (hn : 0 < n) :
    ∃ b off, ao = some ⟨b, off, none⟩ ∧ ∀ i, i < n → w.cell? ⟨b, off + i, none⟩ = some (.string (Sx i)) := by
  obtain ⟨b, off, e, _⟩ := h 0 hn
  refine ⟨b, off, e, fun i hi => ?_⟩
  obtain ⟨b', off', e', hc⟩ := h i hi
  rw [e] at e'
  simp only [Option.some.injEq, Addr.mk.injEq] at e'
  obtain ⟨rfl, rfl, _⟩ := e'
  exact hc

theorem StrsAt.below {w w' : World} {ao : Option Addr} {n : Nat} {Sx : Nat → ByteArray} (h : StrsAt w ao n Sx) (hb : Below w.heap.size w w') : StrsAt w' ao n Sx := by
  intro i hi
  obtain ⟨b, off, e, hc⟩ := h i hi
  exact ⟨b, off, e, (hb.cell (World.block_lt_of_cell? _ _ hc)).trans hc⟩

/-- A member's zero value, cell by cell. -/
def zMember : Value := .agg #[.string ⟨#[]⟩, .int .i64 0, .string ⟨#[]⟩, .int .i64 0, .string ⟨#[]⟩, .bool false, .slice none 0 0, .slice none 0 0]
theorem Try.info35 : (Try.prog.info? 35).map (fun i => (i.zero, i.size, i.bytes)) = some (some zMember, 8, 120) := by kernel_rfl

/-- The members' row: block g, n members of eight cells; the first k names are laid. -/
def Ms (w : World) (g n k : Nat) (Sx : Nat → ByteArray) : Prop :=
  ∃ cur : Array Value, w.heap[g]? = some (.cells cur 35 (0, 0)) ∧ cur.size = n * 8 ∧ ∀ j, j < k → cur[j * 8]? = some (.string (Sx j))

theorem Ms.cell {w : World} {g n k : Nat} {Sx : Nat → ByteArray} (h : Ms w g n k Sx) {i : Nat} (hi : i < n * 8) : ∃ v, w.cell? ⟨g, i, none⟩ = some v := by
  obtain ⟨cur, hb, hs, _⟩ := h
  exact ⟨cur[i], by simp [World.cell?, hb]⟩

theorem Ms.name {w : World} {g n k : Nat} {Sx : Nat → ByteArray} (h : Ms w g n k Sx) {j : Nat} (hj : j < k) : w.cell? ⟨g, j * 8, none⟩ = some (.string (Sx j)) := by
  obtain ⟨cur, hb, _, hc⟩ := h
  simp [World.cell?, hb, hc j hj]

theorem Ms.frozen {w : World} {g n k : Nat} {Sx : Nat → ByteArray} (h : Ms w g n k Sx) (i : Nat) : w.frozen? ⟨g, i, none⟩ = false := by
  obtain ⟨cur, hb, _, _⟩ := h
  simp [World.frozen?, hb]

theorem Ms.lt {w : World} {g n k : Nat} {Sx : Nat → ByteArray} (h : Ms w g n k Sx) : g < w.heap.size := by
  obtain ⟨cur, hb, _, _⟩ := h
  obtain ⟨hlt, _⟩ := Array.getElem?_eq_some_iff.1 hb
  exact hlt

theorem Ms.set {w : World} {g n k : Nat} {Sx : Nat → ByteArray} (h : Ms w g n k Sx) (hk : k < n) : Ms (w.setCell ⟨g, k * 8, none⟩ (.string (Sx k))) g n (k + 1) Sx := by
  obtain ⟨cur, hb, hs, hc⟩ := h
  refine ⟨cur.setIfInBounds (k * 8) (.string (Sx k)), ?_, by simpa using hs, fun j hj => ?_⟩
  · simp [World.setCell, Array.getElem?_modify, hb]
  · rw [Array.getElem?_setIfInBounds]
    by_cases e : j = k
    · subst e
      rw [if_pos rfl, if_pos (by omega)]
    · rw [if_neg (by omega)]
      exact hc j (by omega)

theorem Ms.below {w w' : World} {g n k : Nat} {Sx : Nat → ByteArray} (h : Ms w g n k Sx) (hb : Below w.heap.size w w') : Ms w' g n k Sx := by
  have hlt := h.lt
  obtain ⟨cur, hh, hs, hc⟩ := h
  exact ⟨cur, (hb.block g hlt).trans hh, hs, hc⟩

theorem Ms.alloc {w : World} {g n k : Nat} {Sx : Nat → ByteArray} (h : Ms w g n k Sx) (o : Obj) : Ms (w.alloc o) g n k Sx := h.below ((Below.refl _ _).alloc (Nat.le_refl _) o)

/-- An object behind the pointer q: its members lie in block g, n of them, with their names. -/
def IsObj (w : World) (q g n : Nat) (Sx : Nat → ByteArray) : Prop := w.cell? ⟨q, 5, none⟩ = some (.slice (some ⟨g, 0, none⟩) n n) ∧ Ms w g n n Sx
theorem IsObj.below {w w' : World} {q g n : Nat} {Sx : Nat → ByteArray} (h : IsObj w q g n Sx) (hb : Below w.heap.size w w') : IsObj w' q g n Sx :=
  ⟨(hb.cell (World.block_lt_of_cell? _ _ h.1)).trans h.1, h.2.below hb⟩

theorem obj_any (ao : Option Addr) (n cap : Nat) (Sx : Nat → ByteArray) (w : World) (h : StrsAt w ao n Sx) (hn : n ≤ 1048576) :
    Calls Try.prog 6 #[.slice ao n cap] w fun e w' => ∃ q g, e = .returned (.pointer (some ⟨q, 0, none⟩)) ∧ IsObj w' q g n Sx ∧ Below w.heap.size w w' := by
  obtain ⟨i0, hi, hz0, hz1, hz2⟩ := info_parts Try.info35
  go_enter Try.func6, Try.ntmps6
  go_wp2_with (at_make; refine wpList_make_full _ rfl _ _ 29 rfl w.heap.size 35 i0 _ 8 Try.underlying29 hi hz0 hz1 _ _ _ _ n rfl rfl rfl rfl ?b1 ?b2 ?b3 ?_)
  case b1 => rw [hz2]; omega
  case b2 => unfold maxLen; omega
  case b3 => exact Nat.le_refl _
  intro w1 hown hgrow
  have hm : Ms w1 w.heap.size n 0 Sx := by
    rcases hown.2 with ⟨hv, _⟩ | ⟨g, c, cur, hv, _, hh, _, _, hs, _⟩
    · cases hv
    · simp only [Value.slice.injEq, Option.some.injEq, Addr.mk.injEq] at hv
      obtain ⟨⟨rfl, _⟩, _, rfl⟩ := hv
      exact ⟨cur, hh, hs, fun j hj => by omega⟩
  have hb1 : Below w.heap.size w w1 := (Below.refl _ _).grown hgrow (Nat.le_refl _) (fun k hk => by cases hk)
  clear hown hgrow
  go_wp2_with fail
  go_loopw [10] (fun i wr => ∃ k : Nat, k ≤ n ∧ i = .int .i64 k ∧ Ms wr w.heap.size n k Sx ∧ Below w.heap.size w wr) (fun i _ => n - (intOf i).toNat)
  case atStart => exact ⟨0, Nat.zero_le _, rfl, hm, hb1⟩
  case round =>
    clear hm hb1
    obtain ⟨k, hk, rfl, hm, hbel⟩ := hrel
    by_cases hlt : k < n
    · obtain ⟨b, off, rfl, hc⟩ := (h.below hbel).open (by omega)
      have hck := hc k hlt
      clear hc h
      obtain ⟨v, hv⟩ := hm.cell (i := k * 8) (by omega)
      have hf := hm.frozen (k * 8)
      go_wp2_with fail
      go_roundw
      case rel => exact ⟨k + 1, by omega, by go_num, hm.set hlt, hbel.setCell (Nat.le_refl _) _⟩
      case measure => simp [intOf]; omega
    · have e : k = n := by omega
      subst e
      go_wp2_with fail
      go_ret
      exact ⟨wr.heap.size, w.heap.size, rfl, ⟨by rw [World.cell?_alloc_new]; rfl, hm.alloc _⟩, hbel.alloc hbel.size _⟩

/-- Is the i-th name the one that is looked for? -/
def hit (Sx : Nat → ByteArray) (nm : ByteArray) (i : Nat) : Bool := (Sx i).toList == nm.toList

theorem member_any (q g n : Nat) (Sx : Nat → ByteArray) (nm : ByteArray) (w : World) (h : IsObj w q g n Sx) (hn : n ≤ 1048577) :
    Calls Try.prog 8 #[.pointer (some ⟨q, 0, none⟩), .string nm] w fun e w' => ∃ r, e = .returned (.pointer (r.map fun i => ⟨g, i * 8 + 2, none⟩)) ∧ First (hit Sx nm) n r ∧ w' = w := by
  have h5 := h.1
  go_enter Try.func8, Try.ntmps8
  go_wp2_with fail
  go_loop [11] (fun i => ∃ k : Nat, k ≤ n ∧ i = .int .i64 k ∧ ∀ j, j < k → hit Sx nm j = false) (fun i => n - (intOf i).toNat)
  case atStart => exact ⟨0, Nat.zero_le _, rfl, fun j hj => by omega⟩
  case round =>
    obtain ⟨k, hk, rfl, hno⟩ := hrel
    by_cases hlt : k < n
    · have hck := h.2.name hlt
      have HN : Hid (∀ j, j < k → hit Sx nm j = false) := hno
      clear hno
      by_cases hh : ((Sx k).toList == nm.toList) = true
      · go_wp2_with fail
        go_ret
        exact ⟨some k, rfl, ⟨hlt, hh, HN.out⟩, rfl⟩
      · have hh' : ((Sx k).toList == nm.toList) = false := by simpa using hh
        clear hh
        go_wp2_with fail
        go_round
        case rel =>
          refine ⟨k + 1, by omega, by go_num, fun j hj => ?_⟩
          by_cases e : j = k
          · rw [e]; exact hh'
          · exact HN.out j (by omega)
        case measure => simp [intOf]; omega
    · have e : k = n := by omega
      subst e
      go_wp2_with fail
      go_ret
      exact ⟨none, rfl, hno, rfl⟩

theorem at_none (q : Option Addr) (w : World) :
    Calls Try.prog 7 #[.pointer q, .pointer none] w fun e w' => e = .returned (.int .i64 (-1)) ∧ w' = w := by
  go_enter Try.func7, Try.ntmps7
  go_wp2_with fail
  go_ret
  exact ⟨rfl, rfl⟩

theorem Try.info33 : (Try.prog.info? 33).map (fun i => i.size) = some 6 := by kernel_rfl

theorem at_some (q g n : Nat) (Sx : Nat → ByteArray) (m : Nat) (w : World) (h : IsObj w q g n Sx) (hm : m < n) (hn : n ≤ 1048577) :
    Calls Try.prog 7 #[.pointer (some ⟨q, 0, none⟩), .pointer (some ⟨g, m * 8 + 2, none⟩)] w fun e w' => e = .returned (.int .i64 m) ∧ w' = w := by
  have h5 := h.1
  obtain ⟨j, hj, hj6⟩ := Option.map_eq_some_iff.1 Try.info33
  obtain ⟨cur, hblk, _, _⟩ := h.2
  have hsame := run_eql_ptr_same (P := Try.prog) w ⟨g, m * 8 + 2, none⟩ Try.underlying24 hj
  have hother : ∀ k, k < m → (binOp .eql 24 (.pointer (some ⟨g, k * 8 + 2, none⟩)) (.pointer (some ⟨g, m * 8 + 2, none⟩))).run Try.prog w = .ok (.bool false) w := fun k hk =>
    run_eql_ptr_other (P := Try.prog) w Try.underlying24 hj (by omega) (by intro hh; simp only [Addr.mk.injEq] at hh; omega) hblk hblk
  clear hblk hj hj6
  go_enter Try.func7, Try.ntmps7
  go_wp2_with fail
  go_loop [13] (fun i => ∃ k : Nat, k ≤ m ∧ i = .int .i64 k) (fun i => n - (intOf i).toNat)
  case atStart => exact ⟨0, Nat.zero_le _, rfl⟩
  case round =>
    obtain ⟨k, hk, rfl⟩ := hrel
    have hlt : k < n := by omega
    by_cases e : k = m
    · subst e
      go_wp2_with fail
      go_ret
      exact ⟨rfl, rfl⟩
    · have ho := hother k (by omega)
      clear hsame hother
      go_wp2_with fail
      go_round
      case rel => exact ⟨k + 1, by omega, by go_num⟩
      case measure => simp [intOf]; omega

theorem at_any (q g n : Nat) (Sx : Nat → ByteArray) (hit : Nat → Bool) (r : Option Nat) (w : World) (h : IsObj w q g n Sx) (hr : First hit n r) (hn : n ≤ 1048577) :
    Calls Try.prog 7 #[.pointer (some ⟨q, 0, none⟩), .pointer (r.map fun i => ⟨g, i * 8 + 2, none⟩)] w fun e w' => e = .returned (.int .i64 (idx r)) ∧ w' = w := by
  cases r with
  | none => exact at_none _ _
  | some i => exact at_some q g n Sx i w h hr.1 hn
end Go.Proofs.Qxb6626291a
