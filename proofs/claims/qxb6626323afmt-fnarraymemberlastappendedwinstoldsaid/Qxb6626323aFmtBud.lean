/-
  jvBudget (function 5) by its contract: it answers some number that is no greater than what it was given.
-/
import Derived.Test.Qxb6626323aFmtEqv
namespace Go.Proofs.Qxb6626323aFmt
open Go.RowKit

def BudPost (e : Ending) (b : Int) : Prop := ∃ r : Int, e = .returned (.int .i64 r) ∧ r ≤ b
theorem BudPost.mk {b r : Int} (h : r ≤ b) : BudPost (.returned (.int .i64 r)) b := ⟨r, rfl, h⟩

def BudSaid (n : Nat) : Prop := ∀ (h : Hd) (D : T n) (b : Int) (w : World), Rd w n h D → 0 ≤ b → b ≤ 1048576 → Calls Tryf.prog 5 #[h.val, .int .i64 b] w fun e w' => BudPost e b ∧ Below w.heap.size w w'

set_option maxHeartbeats 400000 in
theorem bud_of (n : Nat) (ih : BudSaid n) : BudSaid (n + 1) := by
  intro h D b w hr hb0 hb1
  obtain ⟨hk, hf, _, h2, h3⟩ := hr
  clear hk
  obtain ⟨k, ra, rl, rc, ia, il, ic, na, nl, nc⟩ := h
  obtain ⟨_, _, fr, fi, fn, fs⟩ := hf
  simp only at h2 h3 fr fi fn
  have len2 := h2.length
  have len3 := h3.length
  show Calls Tryf.prog 5 #[.agg #[.int .u8 k, .slice ra rl rc, .slice ia il ic, .slice na nl nc], .int .i64 b] w _
  have b0 : Below w.heap.size w (w.alloc (.cells #[.int .u8 k, .slice ra rl rc, .slice ia il ic, .slice na nl nc] 26)) := (Below.refl _ _).alloc (Nat.le_refl _) _
  have h2' := h2.below b0
  by_cases g1 : (rl : Int) ≤ b
  rotate_left
  · go_enter Tryf.func5, Tryf.ntmps5
    go_wp2_with fail
    go_ret
    exact ⟨BudPost.mk (by omega), b0⟩
  go_enter Tryf.func5, Tryf.ntmps5
  go_wp2_with fail
  go_loop [1, 5] (fun t i => ∃ (j : Nat) (r : Int), j ≤ nl ∧ i = .int .i64 j ∧ t = .int .i64 r ∧ 0 ≤ r ∧ r ≤ b) (fun _ i => nl - (intOf i).toNat)
  case atStart => exact ⟨0, _, Nat.zero_le _, rfl, rfl, by omega, by omega⟩
  case round =>
    obtain ⟨j, r, hj, rfl, rfl, hr0, hr1⟩ := hrel
    by_cases hlt : j < nl
    · obtain ⟨b1, o1, e1, c1⟩ := h2'.cell (by omega)
      subst e1
      obtain ⟨s, hs⟩ : ∃ s, ((T.names D).getD [])[j]? = some s := ⟨_, List.getElem?_eq_getElem (by omega)⟩
      have x1 := c1 j s hs
      have hsz : s.size ≤ 140737488351232 := by
        cases hd : T.names D with
        | none => rw [hd] at hs; simp at hs
        | some l => rw [hd] at hs; exact fs l hd s (List.mem_of_getElem? hs)
      clear c1 h2 h2' h3 hs len2 len3 fs
      by_cases g2 : 16 + (s.size : Int) ≤ r
      · go_wp2_with fail
        go_round
        case rel => exact ⟨j + 1, _, by omega, by go_num, rfl, by omega, by omega⟩
        case measure => simp [intOf]; omega
      · go_wp2_with fail
        go_ret
        exact ⟨BudPost.mk (by omega), b0⟩
    · clear h2 h2' len2 fs
      go_wp2_with fail
      go_loopw [1, 6] (fun t i wr => ∃ (j : Nat) (r : Int), j ≤ il ∧ i = .int .i64 j ∧ t = .int .i64 r ∧ 0 ≤ r ∧ r ≤ b ∧ Below (w.heap.size + 1) (w.alloc (.cells #[.int .u8 k, .slice ra rl rc, .slice ia il ic, .slice na nl nc] 26)) wr) (fun _ i _ => il - (intOf i).toNat)
      case atStart => exact ⟨0, r, Nat.zero_le _, rfl, rfl, hr0, hr1, Below.refl _ _⟩
      case round =>
        clear hr0 hr1
        obtain ⟨j, r, hj, rfl, rfl, hr0, hr1, hbel⟩ := hrel
        have hsz := hbel.size
        have bw : Below w.heap.size w wr := b0.trans (hbel.mono (by omega))
        have hc : ∀ o, wr.cell? ⟨w.heap.size, o, none⟩ = (w.alloc (.cells #[.int .u8 k, .slice ra rl rc, .slice ia il ic, .slice na nl nc] 26)).cell? ⟨w.heap.size, o, none⟩ := fun o => hbel.cell (p := ⟨w.heap.size, o, none⟩) (by simp)
        by_cases hlt : j < il
        rotate_left
        · go_wp2_with fail
          go_ret
          exact ⟨BudPost.mk hr1, bw⟩
        by_cases g2 : 80 ≤ r
        rotate_left
        · clear h3
          go_wp2_with fail
          go_ret
          exact ⟨BudPost.mk (by omega), bw⟩
        have h3' : ItAt wr ia il (Rd wr n) (T.items D) := h3.below bw (fun _ _ => Rd.below bw)
        obtain ⟨b1, o1, e1, c1⟩ := h3'.cell (by omega)
        subst e1
        obtain ⟨u, hu⟩ : ∃ u, ((T.items D).getD [])[j]? = some u := ⟨_, List.getElem?_eq_getElem (by omega)⟩
        obtain ⟨g, ⟨x0, x1, x2, x3⟩, rg⟩ := c1 j u hu
        clear c1 h3 h3' hu len3
        go_wp2_with fail
        refine (ih g u (r - 80) _ rg (by omega) (by omega)).mono ?_
        rintro e w2 ⟨⟨r2, rfl, hr2⟩, hb2⟩
        have hbel2 : Below (w.heap.size + 1) (w.alloc (.cells #[.int .u8 k, .slice ra rl rc, .slice (some ⟨b1, o1, none⟩) il ic, .slice na nl nc] 26)) w2 := hbel.trans (hb2.mono (by simp at hsz; omega))
        have bw2 := bw.trans (hb2.mono bw.size)
        clear hc x0 x1 x2 x3 rg hb2 hbel
        by_cases g3 : 0 ≤ r2
        · go_wp2_with fail
          go_roundw
          case rel => exact ⟨j + 1, r2, by omega, by go_num, rfl, g3, by omega, hbel2⟩
          case measure => simp [intOf]; omega
        · go_wp2_with fail
          go_ret
          exact ⟨BudPost.mk (by omega), bw2⟩

theorem bud_any : ∀ n, BudSaid n
  | 0 => fun _ _ _ _ h => False.elim h
  | n + 1 => bud_of n (bud_any n)
end Go.Proofs.Qxb6626323aFmt
