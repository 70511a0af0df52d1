/-
  FnMemberAfterAppend, function 4: the walk.
-/
import Derived.Test.Qxb6626291aSplits
import Derived.Deep.OwnRows
namespace Go.Proofs.Qxb6626291a
open Go.RowKit

theorem Try.info9 : (Try.prog.info? 9).map (fun i => (i.zero, i.size, i.bytes)) = some (some (.string ⟨#[]⟩), 1, 16) := by kernel_rfl

/-- The new list: the names, then one more. -/
def Ex (Sx : Nat → ByteArray) (n : Nat) (ex : ByteArray) (i : Nat) : ByteArray := if i = n then ex else Sx i

/-- What is known of the two first places: before and behind the append. -/
theorem first_append {Sx : Nat → ByteArray} {n : Nat} {nm ex : ByteArray} {r s : Option Nat} (h : First (hit Sx nm) n r) (k : First (hit (Ex Sx n ex) nm) (n + 1) s) :
    (∃ i, r = some i ∧ s = some i) ∨ (r = none ∧ s = some n ∧ (ex.toList == nm.toList) = true) ∨ (r = none ∧ s = none ∧ (ex.toList == nm.toList) = false) := by
  have e : ∀ i, i < n → hit (Ex Sx n ex) nm i = hit Sx nm i := fun i hi => by unfold hit Ex; rw [if_neg (by omega)]
  have en : hit (Ex Sx n ex) nm n = (ex.toList == nm.toList) := by unfold hit Ex; rw [if_pos rfl]
  cases r with
  | some i =>
    left
    obtain ⟨h1, h2, h3⟩ := h
    exact ⟨i, rfl, first_unique k (s := some i) ⟨by omega, by rw [e i h1]; exact h2, fun j hj => by rw [e j (by omega)]; exact h3 j hj⟩⟩
  | none =>
    right
    by_cases hx : (ex.toList == nm.toList) = true
    · left
      exact ⟨rfl, first_unique k (s := some n) ⟨by omega, by rw [en]; exact hx, fun j hj => by rw [e j hj]; exact h j hj⟩, hx⟩
    · right
      have hx' : (ex.toList == nm.toList) = false := by simpa using hx
      refine ⟨rfl, first_unique k (s := none) (fun j hj => ?_), hx'⟩
      by_cases ej : j = n
      · rw [ej, en]; exact hx'
      · rw [e j (by omega)]; exact h j (by omega)

/-- The new list's row: block g, m + 1 strings; the first k are laid. -/
def Es (w : World) (g m k : Nat) (Sx : Nat → ByteArray) : Prop := ∃ f, w.rowIs g 9 m f ∧ ∀ j, j < k → f j = .string (Sx j)
theorem Es.set {w : World} {g m k : Nat} {Sx : Nat → ByteArray} (h : Es w g m k Sx) : Es (w.setCell ⟨g, k, none⟩ (.string (Sx k))) g m (k + 1) Sx := by
  obtain ⟨f, hf, hc⟩ := h
  refine ⟨_, hf.set k (.string (Sx k)), fun j hj => ?_⟩
  by_cases e : j = k
  · rw [if_pos e, e]
  · rw [if_neg e]; exact hc j (by omega)
theorem Es.cell {w : World} {g m k : Nat} {Sx : Nat → ByteArray} (h : Es w g m k Sx) {i : Nat} (hi : i < m) : ∃ v, w.cell? ⟨g, i, none⟩ = some v := by
  obtain ⟨f, hf, _⟩ := h
  exact ⟨_, hf.cell hi⟩
theorem Es.frozen {w : World} {g m k : Nat} {Sx : Nat → ByteArray} (h : Es w g m k Sx) (i : Nat) : w.frozen? ⟨g, i, none⟩ = false := by
  obtain ⟨f, hf, _⟩ := h
  exact hf.frozen i
theorem Es.strs {w : World} {g m : Nat} {Sx : Nat → ByteArray} (h : Es w g m m Sx) : StrsAt w (some ⟨g, 0, none⟩) m Sx := by
  obtain ⟨f, hf, hc⟩ := h
  intro i hi
  exact ⟨g, 0, rfl, by rw [Nat.zero_add, hf.cell hi, hc i hi]⟩
theorem Es.congr {w : World} {g m k : Nat} {Sx Tx : Nat → ByteArray} (h : Es w g m k Sx) (e : ∀ j, j < k → Sx j = Tx j) : Es w g m k Tx := by
  obtain ⟨f, hf, hc⟩ := h
  exact ⟨f, hf, fun j hj => by rw [hc j hj, e j hj]⟩

set_option maxRecDepth 100000 in
set_option maxHeartbeats 1000000 in
theorem after_walk (ao : Option Addr) (n cap : Nat) (Sx : Nat → ByteArray) (nm ex : ByteArray) (w : World) (h : StrsAt w ao n Sx) (hnc : n ≤ cap) (hn : cap ≤ 9223372036854775807) (hl : ∀ i, i < n → Lx Sx i ≤ 9223372036854775807) (hnm : nm.size ≤ 9223372036854775807) (hex : ex.size ≤ 9223372036854775807) :
    Calls Try.prog 4 #[.slice ao n cap, .string nm, .string ex] w fun e w' => e = .returned (.bool true) ∧ Below w.heap.size w w' := by
  by_cases hn16 : (n : Int) ≤ 65536
  rotate_left
  · go_enter Try.func4, Try.ntmps4
    go_wp2_with fail
    refine (zz9 _ n cap Sx nm ex w h (by omega) hl hnm hex).mono ?_
    rintro e w' ⟨⟨t, rfl, ht⟩, rfl⟩
    cases t with
    | false =>
      go_wp2_with fail
      go_ret
      exact ⟨rfl, Below.refl _ _⟩
    | true =>
      have hs := ht rfl
      clear ht hl hnm hex
      go_wp2_with fail
      go_ret
      exact ⟨rfl, Below.refl _ _⟩
  have hmk : ∀ wz, _ := fun wz => run_make_row' (P := Try.prog) 22 9 (.string ⟨#[]⟩) 16 Try.underlying22 Try.info9 rfl .i64 .i64 (n + 1) (by omega) (by omega) wz
  rw [show ((n + 1 : Nat) : Int) = (n : Int) + 1 by omega] at hmk
  go_enter Try.func4, Try.ntmps4
  go_wp2_with fail
  refine (zz9 _ n cap Sx nm ex w h (by omega) hl hnm hex).mono ?_
  rintro e w' ⟨⟨t, rfl, ht⟩, rfl⟩
  cases t with
  | false =>
    clear hmk
    go_wp2_with fail
    go_ret
    exact ⟨rfl, Below.refl _ _⟩
  | true =>
    have hs := ht rfl
    clear ht hl hnm hex
    by_cases htot : (nm.size : Int) + ex.size + 16 * (n : Int) ≤ 1048576
    rotate_left
    · go_wp2_with fail
      go_ret
      exact ⟨rfl, Below.refl _ _⟩
    go_wp2_with fail
    go_loop [7, 45] (fun t i => ∃ k : Nat, k ≤ n ∧ i = .int .i64 k ∧ t = .int .i64 (nm.size + ex.size + 16 * n + S (Lx Sx) k : Nat)) (fun _ i => n - (intOf i).toNat)
    case atStart => exact ⟨0, Nat.zero_le _, rfl, by simp [S]⟩
    case round =>
      obtain ⟨k, hk, rfl, rfl⟩ := hrel
      by_cases hlt : k < n
      · obtain ⟨b, off, rfl, hc⟩ := h.open (by omega)
        have hck := hc k hlt
        have hb := S_step (Lx Sx) hlt
        clear hc h hmk
        obtain ⟨l, hle⟩ : ∃ l, l = Lx Sx k := ⟨_, rfl⟩
        have hsz : (Sx k).size = l := hle.symm
        have HS : Hid (S (Lx Sx) (k + 1) = S (Lx Sx) k + l) := by rw [hle]; exact S_succ _ _
        rw [← hle] at hb
        clear hle
        by_cases g : nm.size + ex.size + 16 * n + S (Lx Sx) k + l ≤ 1048576
        · go_wp2_with fail
          go_round
          case rel => exact ⟨k + 1, by omega, by go_num, by rw [HS.out]; go_num⟩
          case measure => simp [intOf]; omega
        · go_wp2_with fail
          go_ret
          exact ⟨rfl, Below.refl _ _⟩
      · go_wp2_with fail
        clear hmk
        go_loopw [11] (fun j wr => ∃ q : Nat, q ≤ n ∧ j = .int .i64 q ∧ Es wr w'.heap.size (n + 1) q Sx ∧ Below w'.heap.size w' wr) (fun j _ => n - (intOf j).toNat)
        case atStart => exact ⟨0, Nat.zero_le _, rfl, ⟨_, World.rowIs_made _ _ _ _, fun j hj => by omega⟩, (Below.refl _ _).alloc (Nat.le_refl _) _⟩
        case round =>
          obtain ⟨q, hq, rfl, he, hbel⟩ := hrel
          by_cases hqn : q < n
          · obtain ⟨b, off, rfl, hc⟩ := (h.below hbel).open (by omega)
            have hck := hc q hqn
            obtain ⟨v, hv⟩ := he.cell (i := q) (by omega)
            have hf := he.frozen q
            clear hc h
            go_wp2_with fail
            go_roundw
            case rel => exact ⟨q + 1, by omega, by go_num, he.set, hbel.setCell (Nat.le_refl _) _⟩
            case measure => simp [intOf]; omega
          · have e : q = n := by omega
            subst e
            obtain ⟨v, hv⟩ := he.cell (i := q) (by omega)
            have hf := he.frozen q
            have he2 := (he.congr (Tx := Ex Sx q ex) (fun j hj => by unfold Ex; rw [if_neg (by omega)])).set
            have exq : Ex Sx q ex q = ex := by unfold Ex; rw [if_pos rfl]
            rw [exq] at he2
            have hb2 := hbel.setCell (p := ⟨w'.heap.size, q, none⟩) (Nat.le_refl _) (.string ex)
            have hS2 := he2.strs
            have hS1 := h.below hb2
            clear he he2 exq hbel h
            obtain ⟨wq, hwq⟩ : ∃ wq, wq = wr.setCell ⟨w'.heap.size, q, none⟩ (.string ex) := ⟨_, rfl⟩
            rw [← hwq] at hb2 hS1 hS2
            go_wp2_with fail
            rw [← hwq]
            clear hv hf hwq
            refine (obj_any ao q cap Sx wq hS1 (by omega)).mono ?_
            rintro e w1 ⟨q0, g0, rfl, ho0, hb3⟩
            have hb3' : Below w'.heap.size w' w1 := hb2.trans (hb3.mono hb2.size)
            have hS3 := hS2.below hb3
            clear hS1 hS2
            go_wp2_with fail
            refine (obj_any _ (q + 1) (q + 1) (Ex Sx q ex) w1 hS3 (by omega)).mono ?_
            rintro e w2 ⟨q1, g1, rfl, ho1, hb4⟩
            have hb4' : Below w'.heap.size w' w2 := hb3'.trans (hb4.mono hb3'.size)
            have ho0' := ho0.below hb4
            clear ho0 hS3 hb2 hb3 hb4 hb3'
            go_wp2_with fail
            refine (member_any q0 g0 q Sx nm w2 ho0' (by omega)).mono ?_
            rintro e wx ⟨r0, rfl, hr0, hwx⟩
            subst hwx
            go_wp2_with fail
            refine (at_z q0 g0 q Sx _ r0 _ ho0' hr0 (by omega)).mono ?_
            rintro e wx ⟨z0, rfl, hz0, hwx⟩
            subst hwx
            go_wp2_with fail
            refine (member_any q1 g1 (q + 1) _ nm _ ho1 (by omega)).mono ?_
            rintro e wx ⟨r1, rfl, hr1, hwx⟩
            subst hwx
            go_wp2_with fail
            refine (at_z q1 g1 (q + 1) _ _ r1 _ ho1 hr1 (by omega)).mono ?_
            rintro e wx ⟨z1, rfl, hz1, hwx⟩
            subst hwx
            have hcut := first_append hr0 hr1
            clear ho0' ho1 hr0 hr1
            rcases hcut with ⟨i, rfl, rfl⟩ | ⟨rfl, rfl, hx⟩ | ⟨rfl, rfl, hx⟩
            · have e0 : z0 = (i : Int) := hz0
              have e1 : z1 = (i : Int) := hz1
              subst e0 e1
              clear hz0 hz1
              by_cases hx : (ex.toList == nm.toList) = true
              · go_wp2_with fail
                go_ret
                exact ⟨rfl, hb4'⟩
              · have hx' : (ex.toList == nm.toList) = false := by simpa using hx
                clear hx
                go_wp2_with fail
                go_ret
                exact ⟨rfl, hb4'⟩
            · have e0 : z0 = -1 := hz0
              have e1 : z1 = (q : Int) := hz1
              subst e0 e1
              clear hz0 hz1
              go_wp2_with fail
              go_ret
              exact ⟨rfl, hb4'⟩
            · have e0 : z0 = -1 := hz0
              have e1 : z1 = -1 := hz1
              subst e0 e1
              clear hz0 hz1
              go_wp2_with fail
              go_ret
              exact ⟨rfl, hb4'⟩
end Go.Proofs.Qxb6626291a
