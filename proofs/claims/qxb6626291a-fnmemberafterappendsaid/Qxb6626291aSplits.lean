/-
  FnMemberSplitsAtAnyCut, function 3: the walk.
-/
import Derived.Test.Qxb6626291aZz
namespace Go.Proofs.Qxb6626291a
open Go.RowKit

/-- 'names[k:]': where it begins is nobody's business. -/
theorem cut_from (ao : Option Addr) (n cap k : Nat) (Sx : Nat → ByteArray) (hk : k ≤ n) (hc : n ≤ cap) :
    ∃ X, (∀ wz, (Instr.slice 22 (.slice ao n cap) (some (.int .i64 (k : Int))) none none).run Try.prog wz = .ok (.slice X (n - k) (cap - k)) wz) ∧ ∀ w, StrsAt w ao n Sx → StrsAt w X (n - k) (fun i => Sx (k + i)) := by
  refine ⟨(if cap = k then ao else ao.map (·.add (k * 1))), fun wz => ?_, fun w h i hi => ?_⟩
  · rw [run_slice_l (P := Try.prog) wz 22 ao n cap (by exact Try.underlying22) .i64 (k : Int) (by omega) (by omega)]
    have hsz : (sizeOf (Try.prog.elem 22)).run Try.prog wz = .ok 1 wz := by kernel_rfl
    rw [hsz]
    simp [sliced, Result.andThen]
  · obtain ⟨b, off, rfl, hx⟩ := h (k + i) (by omega)
    refine ⟨b, off + k, ?_, by rw [Nat.add_assoc]; exact hx⟩
    rw [if_neg (by omega)]
    unfold Addr.add
    by_cases e : k = 0 <;> simp [e]
theorem cut_to (ao : Option Addr) (n cap k : Nat) (Sx : Nat → ByteArray) (hk : k ≤ n) (hc : n ≤ cap) :
    ∃ X, (∀ wz, (Instr.slice 22 (.slice ao n cap) none (some (.int .i64 (k : Int))) none).run Try.prog wz = .ok (.slice X k cap) wz) ∧ ∀ w, StrsAt w ao n Sx → StrsAt w X k Sx := by
  refine ⟨(if cap = 0 then ao else ao.map (·.add (0 * 1))), fun wz => ?_, fun w h i hi => ?_⟩
  · rw [run_slice_h (P := Try.prog) wz 22 ao n cap (by exact Try.underlying22) .i64 (k : Int) (by omega) (by omega)]
    have hsz : (sizeOf (Try.prog.elem 22)).run Try.prog wz = .ok 1 wz := by kernel_rfl
    rw [hsz]
    simp [sliced, Result.andThen]
  · obtain ⟨b, off, rfl, hx⟩ := h i (by omega)
    refine ⟨b, off, ?_, hx⟩
    rw [if_neg (by omega)]
    simp [Addr.add]

theorem at_z (q g n : Nat) (Sx : Nat → ByteArray) (hit : Nat → Bool) (r : Option Nat) (w : World) (h : IsObj w q g n Sx) (hr : First hit n r) (hn : n ≤ 1048577) :
    Calls Try.prog 7 #[.pointer (some ⟨q, 0, none⟩), .pointer (r.map fun i => ⟨g, i * 8 + 2, none⟩)] w fun e w' => ∃ z, e = .returned (.int .i64 z) ∧ Hid (z = idx r) ∧ w' = w :=
  (at_any q g n Sx hit r w h hr hn).mono fun _ _ ⟨he, hw⟩ => ⟨_, he, rfl, hw⟩

set_option maxRecDepth 100000 in
set_option maxHeartbeats 1000000 in
theorem splits_walk (ao : Option Addr) (n cap : Nat) (Sx : Nat → ByteArray) (x : Int) (nm : ByteArray) (w : World) (h : StrsAt w ao n Sx) (hnc : n ≤ cap) (hn : cap ≤ 9223372036854775807) (hl : ∀ i, i < n → Lx Sx i ≤ 9223372036854775807) (hnm : nm.size ≤ 9223372036854775807) :
    Calls Try.prog 3 #[.slice ao n cap, .int .i64 x, .string nm] w fun e w' => e = .returned (.bool true) ∧ Below w.heap.size w w' := by
  go_enter Try.func3, Try.ntmps3
  go_wp2_with fail
  refine (zz5 _ n cap Sx x nm w h (by omega) hl hnm).mono ?_
  rintro e w' ⟨⟨t, rfl, ht⟩, rfl⟩
  cases t with
  | false =>
    go_wp2_with fail
    go_ret
    exact ⟨rfl, Below.refl _ _⟩
  | true =>
    have hs := ht rfl
    clear ht hl hnm
    by_cases hn16 : (n : Int) ≤ 65536
    rotate_left
    · go_wp2_with fail
      go_ret
      exact ⟨rfl, Below.refl _ _⟩
    by_cases htot : (nm.size : Int) + 16 * (n : Int) ≤ 1048576
    rotate_left
    · go_wp2_with fail
      go_ret
      exact ⟨rfl, Below.refl _ _⟩
    go_wp2_with fail
    go_loop [7, 38] (fun t i => ∃ k : Nat, k ≤ n ∧ i = .int .i64 k ∧ t = .int .i64 (nm.size + 16 * n + S (Lx Sx) k : Nat)) (fun _ i => n - (intOf i).toNat)
    case atStart => exact ⟨0, Nat.zero_le _, rfl, by simp [S]⟩
    case round =>
      obtain ⟨k, hk, rfl, rfl⟩ := hrel
      by_cases hlt : k < n
      · obtain ⟨b, off, rfl, hc⟩ := h.open (by omega)
        have hck := hc k hlt
        have hb := S_step (Lx Sx) hlt
        clear hc h
        obtain ⟨l, hle⟩ : ∃ l, l = Lx Sx k := ⟨_, rfl⟩
        have hsz : (Sx k).size = l := hle.symm
        have HS : Hid (S (Lx Sx) (k + 1) = S (Lx Sx) k + l) := by rw [hle]; exact S_succ _ _
        rw [← hle] at hb
        clear hle
        by_cases g : nm.size + 16 * n + S (Lx Sx) k + l ≤ 1048576
        · go_wp2_with fail
          go_round
          case rel => exact ⟨k + 1, by omega, by go_num, by rw [HS.out]; go_num⟩
          case measure => simp [intOf]; omega
        · go_wp2_with fail
          go_ret
          exact ⟨rfl, Below.refl _ _⟩
      · by_cases hx : 0 ≤ x ∧ x ≤ n
        rotate_left
        · by_cases hx0 : 0 ≤ x
          · have hx1 : (n : Int) < x := by omega
            go_wp2_with fail
            go_ret
            exact ⟨rfl, Below.refl _ _⟩
          · go_wp2_with fail
            go_ret
            exact ⟨rfl, Below.refl _ _⟩
        obtain ⟨hx0, hx1⟩ := hx
        obtain ⟨xk, rfl⟩ := Int.eq_ofNat_of_zero_le hx0
        clear hx0
        go_wp2_with fail
        refine (obj_any ao n cap Sx w' h (by omega)).mono ?_
        rintro e w1 ⟨q0, g0, rfl, ho0, hb1⟩
        obtain ⟨X1, hX1, hY1⟩ := cut_to ao n cap xk Sx (by omega) hnc
        obtain ⟨X2, hX2, hY2⟩ := cut_from ao n cap xk Sx (by omega) hnc
        have h1 := hY1 _ (h.below hb1)
        have HY2 : Hid (∀ w, StrsAt w ao n Sx → StrsAt w X2 (n - xk) (fun i => Sx (xk + i))) := hY2
        clear hY1 hY2
        go_wp2_with fail
        refine (obj_any X1 xk cap Sx w1 h1 (by omega)).mono ?_
        rintro e w2 ⟨q1, g1, rfl, ho1, hb2⟩
        have ho0' := ho0.below hb2
        have hb2' : Below w'.heap.size w' w2 := hb1.trans (hb2.mono hb1.size)
        have h2 := HY2.out _ (h.below hb2')
        clear ho0 h1 hX1 HY2
        go_wp2_with fail
        refine (obj_any X2 (n - xk) (cap - xk) (fun i => Sx (xk + i)) w2 h2 (by omega)).mono ?_
        rintro e w3 ⟨q2, g2, rfl, ho2, hb3⟩
        have ho0 := ho0'.below hb3
        have ho1' := ho1.below hb3
        have hb3' : Below w'.heap.size w' w3 := hb2'.trans (hb3.mono hb2'.size)
        have h3 := h.below hb3'
        clear ho0' ho1 h2 hX2 hb1 hb2 hb3 hb2' h
        go_wp2_with fail
        refine (member_any q0 g0 n Sx nm w3 ho0 (by omega)).mono ?_
        rintro e wx ⟨r0, rfl, hr0, hwx⟩
        subst hwx
        go_wp2_with fail
        refine (at_z q0 g0 n Sx _ r0 _ ho0 hr0 (by omega)).mono ?_
        rintro e wx ⟨z0, rfl, hz0, hwx⟩
        subst hwx
        go_wp2_with fail
        refine (member_any q1 g1 xk Sx nm _ ho1' (by omega)).mono ?_
        rintro e wx ⟨r1, rfl, hr1, hwx⟩
        subst hwx
        go_wp2_with fail
        refine (at_z q1 g1 xk Sx _ r1 _ ho1' hr1 (by omega)).mono ?_
        rintro e wx ⟨z1, rfl, hz1, hwx⟩
        subst hwx
        go_wp2_with fail
        refine (member_any q2 g2 (n - xk) _ nm _ ho2 (by omega)).mono ?_
        rintro e wx ⟨r2, rfl, hr2, hwx⟩
        subst hwx
        go_wp2_with fail
        refine (at_z q2 g2 (n - xk) _ _ r2 _ ho2 hr2 (by omega)).mono ?_
        rintro e wx ⟨z2, rfl, hz2, hwx⟩
        subst hwx
        clear ho0 ho1' ho2
        have hcut := first_cut (show xk ≤ n by omega) hr0 hr1 hr2
        clear hr1 hr2
        have hz2' : -1 ≤ z2 := by rw [hz2.out]; unfold idx; split <;> omega
        rcases hcut with ⟨i, rfl, rfl⟩ | ⟨i, rfl, rfl, rfl⟩ | ⟨rfl, rfl, rfl⟩
        · have e0 : z0 = (i : Int) := hz0
          have e1 : z1 = (i : Int) := hz1
          subst e0 e1
          clear hz0 hz1 hz2
          obtain ⟨hi, hhit, hno⟩ := hr0
          obtain ⟨b, off, rfl, hc⟩ := h3.open (by omega)
          have hh : ((Sx (i)).toList == nm.toList) = true := hhit
          have hci := hc (i) hi
          have HN : Hid (∀ j, j < i → hit Sx nm j = false) := hno
          have HC : Hid (∀ i, i < n → wx.cell? ⟨b, off + i, none⟩ = some (.string (Sx i))) := hc
          clear hno hc h3 hhit
          go_wp2_with fail
          go_loop [15, 96] (fun hs ix => ∃ k : Nat, k ≤ i ∧ ix = .int .i64 k ∧ hs = .bool false) (fun _ i => n - (intOf i).toNat)
          case atStart => exact ⟨0, Nat.zero_le _, rfl, rfl⟩
          case round =>
            obtain ⟨k, hki, rfl, rfl⟩ := hrel
            by_cases e : k = i
            · subst e
              go_wp2_with fail
              go_ret
              exact ⟨rfl, hb3'⟩
            · have hck := HC.out k (by omega)
              have hh' : ((Sx k).toList == nm.toList) = false := HN.out k (by omega)
              clear hh hci
              go_wp2_with fail
              go_round
              case rel => exact ⟨k + 1, by omega, by go_num, rfl⟩
              case measure => simp [intOf]; omega
        · have e0 : z0 = ((xk + i : Nat) : Int) := hz0
          have e1 : z1 = -1 := hz1
          have e2 : z2 = (i : Int) := hz2
          subst e0 e1 e2
          clear hz0 hz1 hz2 hz2'
          obtain ⟨hi, hhit, hno⟩ := hr0
          obtain ⟨b, off, rfl, hc⟩ := h3.open (by omega)
          have hh : ((Sx (xk + i)).toList == nm.toList) = true := hhit
          have hci := hc (xk + i) hi
          have HN : Hid (∀ j, j < xk + i → hit Sx nm j = false) := hno
          have HC : Hid (∀ i, i < n → wx.cell? ⟨b, off + i, none⟩ = some (.string (Sx i))) := hc
          clear hno hc h3 hhit
          go_wp2_with fail
          go_loop [15, 96] (fun hs ix => ∃ k : Nat, k ≤ xk + i ∧ ix = .int .i64 k ∧ hs = .bool false) (fun _ i => n - (intOf i).toNat)
          case atStart => exact ⟨0, Nat.zero_le _, rfl, rfl⟩
          case round =>
            obtain ⟨k, hki, rfl, rfl⟩ := hrel
            by_cases e : k = xk + i
            · subst e
              go_wp2_with fail
              go_ret
              exact ⟨rfl, hb3'⟩
            · have hck := HC.out k (by omega)
              have hh' : ((Sx k).toList == nm.toList) = false := HN.out k (by omega)
              clear hh hci
              go_wp2_with fail
              go_round
              case rel => exact ⟨k + 1, by omega, by go_num, rfl⟩
              case measure => simp [intOf]; omega
        · have e0 : z0 = -1 := hz0
          have e1 : z1 = -1 := hz1
          have e2 : z2 = -1 := hz2
          subst e0 e1 e2
          clear hz0 hz1 hz2 hz2'
          have HN : Hid (∀ j, j < n → hit Sx nm j = false) := hr0
          clear hr0
          go_wp2_with fail
          go_loop [15, 96] (fun hs i => ∃ k : Nat, k ≤ n ∧ i = .int .i64 k ∧ hs = .bool false) (fun _ i => n - (intOf i).toNat)
          case atStart => exact ⟨0, Nat.zero_le _, rfl, rfl⟩
          case round =>
            obtain ⟨k, hki, rfl, rfl⟩ := hrel
            by_cases e : k < n
            · obtain ⟨b, off, rfl, hc⟩ := h3.open (by omega)
              have hck := hc k e
              have hh' : ((Sx k).toList == nm.toList) = false := HN.out k e
              clear hc h3
              go_wp2_with fail
              go_round
              case rel => exact ⟨k + 1, by omega, by go_num, rfl⟩
              case measure => simp [intOf]; omega
            · go_wp2_with fail
              go_ret
              exact ⟨rfl, hb3'⟩
end Go.Proofs.Qxb6626291a
