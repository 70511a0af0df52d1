/-
  FnLenIsJoinedLengthAtAnyCut, function 3: the walk.
-/
import Derived.Test.Qxb6626229aLen
import Derived.WalkLawsBesides
namespace Go.Proofs.Qxb6626229a
open Go.RowKit

theorem Try.info5 : (Try.prog.info? 5).map (fun i => (i.zero, i.size, i.bytes)) = some (some (.int .u8 0), 1, 1) := by kernel_rfl

/-- The bytes behind each piece. -/
def BytesAt (w : World) (n : Nat) (A : Nat → Option Addr) (L : Nat → Nat) : Prop :=
  ∀ i, i < n → 0 < L i → ∃ b off, A i = some ⟨b, off, none⟩ ∧ b < w.heap.size ∧ ∀ j, j < L i → ∃ z, w.cell? ⟨b, off + j, none⟩ = some (.int .u8 z)

def Flat (B : Nat) (wr : World) (v : Value) (m : Nat) : Prop := ∃ xs, wr.ownsRow B 5 1 v m xs
theorem Flat.shape {B : Nat} {wr : World} {v : Value} {m : Nat} (h : Flat B wr v m) : ∃ ao cap, v = .slice ao m cap := by
  obtain ⟨xs, h⟩ := h; exact own_shape h

set_option maxHeartbeats 1000000 in
theorem joined_some (b off n cap : Nat) (A : Nat → Option Addr) (L C : Nat → Nat) (k : Int) (w : World) (hn : 0 < n) (hnm : n ≤ cap) (hcm : cap ≤ 9223372036854775807) (hl : ∀ i, i < n → L i ≤ 9223372036854775807)
    (hbl : b < w.heap.size) (hc : ∀ i, i < n → w.cell? ⟨b, off + i, none⟩ = some (.slice (A i) (L i) (C i))) (hin : BytesAt w n A L) :
    Calls Try.prog 3 #[.slice (some ⟨b, off, none⟩) n cap, .int .i64 k] w fun e w' => e = .returned (.bool true) ∧ Below w.heap.size w w' := by
  have hR : RowsAt w (some ⟨b, off, none⟩) n A L C := fun i hi => ⟨b, off, rfl, hc i hi⟩
  obtain ⟨i0, hi, hz0, hz1, hz2⟩ := info_parts Try.info5
  go_enter Try.func3, Try.ntmps3
  go_wp2_with fail
  refine (zz5 _ n cap A L C k w hR (by omega) hl).mono ?_
  rintro e w' ⟨⟨t, rfl, ht⟩, rfl⟩
  cases t with
  | false =>
    go_wp2_with fail
    go_ret
    exact ⟨rfl, Below.refl _ _⟩
  | true =>
    have hs := ht rfl
    clear ht
    go_wp2_with fail
    go_loop [5, 6] (fun t i => ∃ k : Nat, k ≤ n ∧ i = .int .i64 k ∧ t = .int .i64 (n + S L k : Nat)) (fun _ i => n - (intOf i).toNat)
    case atStart => exact ⟨0, Nat.zero_le _, rfl, by simp [S]⟩
    case round =>
      obtain ⟨m, hm, rfl, rfl⟩ := hrel
      by_cases hlt : m < n
      · have hck := hc m hlt
        have hb := S_step L hlt
        go_wp2_with fail
        go_round
        case rel => exact ⟨m + 1, by omega, by go_num, by rw [S_succ]; go_num⟩
        case measure => simp [intOf]; omega
      · have e : m = n := by omega
        subst e
        by_cases hk : 0 ≤ k ∧ k ≤ m
        · obtain ⟨hk0, hk1⟩ := hk
          obtain ⟨kn, rfl⟩ := Int.eq_ofNat_of_zero_le hk0
          clear hk0
          go_wp2_with fail
          go_loopw [7, 8] (fun v i wr => ∃ (q : Nat) (fo : Option Addr) (fc : Nat), q ≤ m ∧ i = .int .i64 q ∧ v = .slice fo (S L q) fc ∧ Flat w'.heap.size wr v (S L q) ∧ Below w'.heap.size w' wr) (fun _ i _ => m - (intOf i).toNat)
          case atStart => exact ⟨0, none, 0, Nat.zero_le _, rfl, rfl, ⟨[], World.ownsRow_nil _ _ _ _⟩, Below.refl _ _⟩
          case round =>
            obtain ⟨q, fo, fc, hq, rfl, rfl, hf, hbel⟩ := hrel
            by_cases hlt : q < m
            · have hsq := S_step L hlt
              by_cases hL : L q = 0
              · have hck : wr.cell? ⟨b, off + q, none⟩ = some (.slice (A q) 0 (C q)) := by rw [hbel.cell (p := ⟨b, off + q, none⟩) hbl, hc q hlt, hL]
                have HL : Hid (L q = 0) := hL
                clear hL
                go_wp2_with fail
                go_loopw [7, 10] (fun v j wx => j = .int .i64 0 ∧ v = .slice fo (S L q) fc ∧ wx = wr) (fun _ _ _ => 0)
                case atStart => exact ⟨rfl, rfl, rfl⟩
                case round =>
                  rename_i wx
                  obtain ⟨rfl, rfl, hwx⟩ := hrel
                  subst hwx
                  go_wp2_with fail
                  go_roundw
                  case rel => exact ⟨q + 1, fo, fc, by omega, by go_num, by rw [S_succ, HL.out]; rfl, by rw [S_succ, HL.out]; exact hf, hbel⟩
                  case measure => simp [intOf]; omega
              · obtain ⟨pb, po, hA, hpb, hz⟩ := hin q hlt (by omega)
                have hck : wr.cell? ⟨b, off + q, none⟩ = some (.slice (some ⟨pb, po, none⟩) (L q) (C q)) := by rw [hbel.cell (p := ⟨b, off + q, none⟩) hbl, hc q hlt, hA]
                clear hA
                go_wp2_with fail
                clear hck
                go_loopw [7, 10] (fun v j wx => ∃ (t : Nat) (fo : Option Addr) (fc : Nat), t ≤ L q ∧ j = .int .i64 t ∧ v = .slice fo (S L q + t) fc ∧ Flat w'.heap.size wx v (S L q + t) ∧ Below w'.heap.size w' wx) (fun _ j _ => L q - (intOf j).toNat)
                case atStart => exact ⟨0, fo, fc, Nat.zero_le _, rfl, rfl, hf, hbel⟩
                case round =>
                  clear hf hbel
                  obtain ⟨t, fo, fc, ht, rfl, rfl, hf, hbel⟩ := hrel
                  by_cases hlt2 : t < L q
                  · obtain ⟨z, hzt⟩ := hz t hlt2
                    rename_i wr0 wr
                    have hcz : wr.cell? ⟨pb, po + t, none⟩ = some (.int .u8 z) := (hbel.cell (p := ⟨pb, po + t, none⟩) hpb).trans hzt
                    obtain ⟨xs, hown⟩ := hf
                    have hsz := hbel.size
                    go_wp2_with (at_builtin; refine wpList_append_own _ rfl _ _ 24 rfl w'.heap.size 5 i0 (.int .u8 0) 1 1 Try.underlying24 hi hz0 hz1 hz2 rfl (by decide) _ _ _ rfl (hown.alloc _) ⟨wr.heap.size, 0, none⟩ 1 1 [.int .u8 z] rfl rfl ?c1 ?c2 ?c3 ?c4 ?c5 ?_)
                    case c1 =>
                      intro j u hj
                      match j, hj with
                      | 0, hj => simp at hj; subst hj; simp [Addr.add]
                    case c2 => intro u hu; simp at hu; subst hu; rfl
                    case c3 => unfold maxLen; omega
                    case c4 => omega
                    case c5 => simp; omega
                    intro v' w1 hown' hgrow _
                    have hlo := hown.lt
                    have hb1 : Below w'.heap.size w' w1 := (hbel.alloc hsz _).grown hgrow (by simp; omega) (fun k hk => (hlo k hk).1)
                    obtain ⟨fo', fc', hv⟩ := own_shape hown'
                    have HF : Flat w'.heap.size w1 v' (S L q + t + 1) := ⟨_, hown'⟩
                    have HV : Hid (v' = .slice fo' (S L q + t + 1) fc') := hv
                    clear hown' hgrow hown hcz hv hbel hlo
                    go_wp2_with fail
                    go_roundw
                    case rel => exact ⟨t + 1, fo', fc', by omega, by go_num, HV.out, HF, hb1⟩
                    case measure => simp [intOf]; omega
                  · have e : t = L q := by omega
                    go_wp2_with fail
                    go_roundw
                    case rel => exact ⟨q + 1, fo, fc, by omega, by go_num, by rw [S_succ, e], by rw [S_succ, ← e]; exact hf, hbel⟩
                    case measure => simp [intOf]; omega
            · have e : q = m := by omega
              subst e
              go_wp2_with fail
              have hR1 := hR.below hbel
              refine (len_any _ _ _ A L C _ hR1 (by omega) (by omega)).mono ?_
              rintro e wx ⟨rfl, rfl⟩
              go_wp2_with fail
              refine (len_any _ _ _ A L C _ (fun i hi => hR1 i (by omega)) (by omega) (by have := S_le L (show kn ≤ q by omega); omega)).mono ?_
              rintro e wx ⟨rfl, rfl⟩
              have hcut := S_cut L (show kn ≤ q by omega)
              have hR2 : RowsAt wx (some ⟨b, off + kn, none⟩) (q - kn) (fun i => A (kn + i)) (fun i => L (kn + i)) (fun i => C (kn + i)) := fun i hi => by
                obtain ⟨b', off', e, hx⟩ := hR1 (kn + i) (by omega)
                simp only [Option.some.injEq, Addr.mk.injEq] at e
                obtain ⟨rfl, rfl, _⟩ := e
                exact ⟨b, off + kn, rfl, by rw [Nat.add_assoc]; exact hx⟩
              have htrue : ((S L kn : Int) + (S (fun i => L (kn + i)) (q - kn) : Nat) == (S L q : Nat)) = true := by rw [beq_iff_eq]; omega
              have hend : Below w'.heap.size w' wx := hbel
              clear hin hf hc hR
              by_cases hz : cap - kn = 0
              · go_wp2_with fail
                refine (len_any _ _ _ (fun i => A (kn + i)) (fun i => L (kn + i)) (fun i => C (kn + i)) _ (fun i hi => by omega) (by omega) (by omega)).mono ?_
                rintro e wy ⟨rfl, hwy⟩
                subst hwy
                go_wp2_with fail
                go_ret
                exact ⟨rfl, hend⟩
              · go_wp2_with fail
                refine (len_any _ _ _ (fun i => A (kn + i)) (fun i => L (kn + i)) (fun i => C (kn + i)) _ hR2 (by omega) (by omega)).mono ?_
                rintro e wy ⟨rfl, hwy⟩
                subst hwy
                go_wp2_with fail
                go_ret
                exact ⟨rfl, hend⟩
        · by_cases hk0 : 0 ≤ k
          · have hk1 : (m : Int) < k := by omega
            go_wp2_with fail
            go_ret
            exact ⟨rfl, Below.refl _ _⟩
          · go_wp2_with fail
            go_ret
            exact ⟨rfl, Below.refl _ _⟩

theorem joined_none (ao : Option Addr) (cap : Nat) (k : Int) (w : World) :
    Calls Try.prog 3 #[.slice ao 0 cap, .int .i64 k] w fun e w' => e = .returned (.bool true) ∧ Below w.heap.size w w' := by
  have hR : ∀ (x : Option Addr) (w : World), RowsAt w x 0 (fun _ => none) (fun _ => 0) (fun _ => 0) := fun x w i hi => by omega
  have hz : S (fun _ => 0) 0 = 0 := rfl
  go_enter Try.func3, Try.ntmps3
  go_wp2_with fail
  refine (zz5 _ 0 cap (fun _ => none) (fun _ => 0) (fun _ => 0) k w (hR _ _) (by omega) (fun i hi => by omega)).mono ?_
  rintro e w' ⟨⟨t, rfl, ht⟩, rfl⟩
  cases t with
  | false =>
    go_wp2_with fail
    go_ret
    exact ⟨rfl, Below.refl _ _⟩
  | true =>
    clear ht
    go_wp2_with fail
    go_loop [5, 6] (fun t i => i = .int .i64 0 ∧ t = .int .i64 0) (fun _ i => 0)
    case atStart => exact ⟨rfl, rfl⟩
    case round =>
      obtain ⟨rfl, rfl⟩ := hrel
      by_cases hk : k = 0
      · subst hk
        go_wp2_with fail
        go_loop [7, 8] (fun v i => i = .int .i64 0 ∧ v = .slice none 0 0) (fun _ i => 0)
        case atStart => exact ⟨rfl, rfl⟩
        case round =>
          obtain ⟨rfl, rfl⟩ := hrel
          go_wp2_with (go_at_call 6; refine (len_any _ _ _ (fun _ => none) (fun _ => 0) (fun _ => 0) _ (hR _ _) (by omega) (by rw [hz]; omega)).mono ?_; rintro e wy ⟨rfl, hwy⟩; subst hwy)
          go_ret
          exact ⟨rfl, Below.refl _ _⟩
      · by_cases hk0 : 0 ≤ k
        · have hk1 : (0 : Int) < k := by omega
          go_wp2_with fail
          go_ret
          exact ⟨rfl, Below.refl _ _⟩
        · go_wp2_with fail
          go_ret
          exact ⟨rfl, Below.refl _ _⟩
end Go.Proofs.Qxb6626229a
