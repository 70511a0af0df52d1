/-
  FnLenGrowsByInsertedPiece, function 4: the walk.
-/
import Derived.Test.Qxb6626229aLen
import Derived.WalkLawsBesides
namespace Go.Proofs.Qxb6626229a
open Go.RowKit

theorem Try.info24 : (Try.prog.info? 24).map (fun i => (i.zero, i.size, i.bytes)) = some (some (.slice none 0 0), 1, 24) := by kernel_rfl

/-- One value put in at place i; two values put in there. -/
def ins {α : Type} (i : Nat) (f : Nat → α) (p : α) (j : Nat) : α := if j < i then f j else if j = i then p else f (j - 1)
def ins2 {α : Type} (i : Nat) (f : Nat → α) (p q : α) (j : Nat) : α := if j < i then f j else if j = i then p else if j = i + 1 then q else f (j - 2)

theorem S_ins1 (L : Nat → Nat) (i n p : Nat) (h : i ≤ n) : S (ins i L p) (n + 1) = S L n + p := by
  refine S_ins L (ins i L p) i n 1 p h (fun j hj => ?_) ?_ (fun j h1 h2 => ?_)
  · unfold ins; rw [if_pos hj]
  · simp [S, ins]
  · unfold ins; rw [if_neg (by omega), if_neg (by omega)]; rfl

theorem S_ins2 (L : Nat → Nat) (i n p q : Nat) (h : i ≤ n) : S (ins2 i L p q) (n + 2) = S L n + (p + q) := by
  refine S_ins L (ins2 i L p q) i n 2 (p + q) h (fun j hj => ?_) ?_ (fun j h1 h2 => ?_)
  · unfold ins2; rw [if_pos hj]
  · simp [S, ins2]; intro h; omega
  · unfold ins2; rw [if_neg (by omega), if_neg (by omega), if_neg (by omega)]; rfl

/-- The first m slices of a family. -/
def Fs (A : Nat → Option Addr) (L C : Nat → Nat) (m : Nat) : List Value := (List.range m).map fun j => .slice (A j) (L j) (C j)
theorem Fs_succ (A : Nat → Option Addr) (L C : Nat → Nat) (m : Nat) : Fs A L C (m + 1) = Fs A L C m ++ [.slice (A m) (L m) (C m)] := by simp [Fs, List.range_succ]

theorem rowsAt_own {w : World} {B g n cap : Nat} {A : Nat → Option Addr} {L C : Nat → Nat} (h : w.ownsRow B 24 1 (.slice (some ⟨g, 0, none⟩) n cap) n (Fs A L C n)) : RowsAt w (some ⟨g, 0, none⟩) n A L C := by
  intro i hi
  refine ⟨g, 0, rfl, ?_⟩
  have := h.cells (g := g) rfl i (.slice (A i) (L i) (C i)) (by simp [Fs, hi])
  rwa [show (⟨g, 0, none⟩ : Addr).add i = ⟨g, 0 + i, none⟩ by unfold Addr.add; by_cases h : i = 0 <;> simp [h]] at this

theorem ins_lt {α : Type} {i j : Nat} (f : Nat → α) (p : α) (h : j < i) : ins i f p j = f j := by unfold ins; rw [if_pos h]
theorem ins_at {α : Type} (i : Nat) (f : Nat → α) (p : α) : ins i f p i = p := by unfold ins; rw [if_neg (by omega), if_pos rfl]
theorem ins_gt {α : Type} {i j : Nat} (f : Nat → α) (p : α) (h : i ≤ j) : ins i f p (j + 1) = f j := by unfold ins; rw [if_neg (by omega), if_neg (by omega)]; rfl
theorem ins2_lt {α : Type} {i j : Nat} (f : Nat → α) (p q : α) (h : j < i) : ins2 i f p q j = f j := by unfold ins2; rw [if_pos h]
theorem ins2_at {α : Type} (i : Nat) (f : Nat → α) (p q : α) : ins2 i f p q i = p := by unfold ins2; rw [if_neg (by omega), if_pos rfl]
theorem ins2_at' {α : Type} (i : Nat) (f : Nat → α) (p q : α) : ins2 i f p q (i + 1) = q := by unfold ins2; rw [if_neg (by omega), if_neg (by omega), if_pos rfl]
theorem ins2_gt {α : Type} {i j : Nat} (f : Nat → α) (p q : α) (h : i ≤ j) : ins2 i f p q (j + 2) = f j := by unfold ins2; rw [if_neg (by omega), if_neg (by omega), if_neg (by omega)]; rfl

/-- The row that is built: m slices of the family lie in block g, which has room for c. -/
def Built (B : Nat) (wr : World) (g m c : Nat) (A : Nat → Option Addr) (L C : Nat → Nat) : Prop := wr.ownsRow B 24 1 (.slice (some ⟨g, 0, none⟩) m c) m (Fs A L C m)

theorem Built.more {B : Nat} {w1 : World} {g m c : Nat} {A : Nat → Option Addr} {L C : Nat → Nat} {a : Option Addr} {l k : Nat}
    (h : w1.ownsRow B 24 1 (.slice (some ⟨g, 0, none⟩) (m + 1) c) (m + 1) (Fs A L C m ++ [.slice a l k])) (e1 : A m = a) (e2 : L m = l) (e3 : C m = k) : Built B w1 g (m + 1) c A L C := by
  unfold Built
  rw [Fs_succ, e1, e2, e3]
  exact h

theorem Fs_congr {A A' : Nat → Option Addr} {L L' C C' : Nat → Nat} {m : Nat} (h : ∀ j, j < m → A j = A' j ∧ L j = L' j ∧ C j = C' j) : Fs A L C m = Fs A' L' C' m := by
  unfold Fs
  refine List.map_congr_left fun j hj => ?_
  obtain ⟨h1, h2, h3⟩ := h j (List.mem_range.1 hj)
  rw [h1, h2, h3]

theorem Built.congr {B : Nat} {w : World} {g m c : Nat} {A A' : Nat → Option Addr} {L L' C C' : Nat → Nat} (h : Built B w g m c A L C) (e : ∀ j, j < m → A j = A' j ∧ L j = L' j ∧ C j = C' j) : Built B w g m c A' L' C' := by
  unfold Built at h ⊢
  rw [← Fs_congr e]
  exact h

/-- A row stays while another one grows. -/
theorem Built.other {B : Nat} {w w1 : World} {g m c g2 : Nat} {A : Nat → Option Addr} {L C : Nat → Nat} (h : Built B w g m c A L C) (hg : w.grownBy w1 (some g2)) (hne : g ≠ g2) : Built B w1 g m c A L C :=
  World.ownsRow.kept h hg (Or.inr (by simpa [Value.ownBlock] using hne))
theorem Built.new {B : Nat} {w w1 : World} {g m c : Nat} {A : Nat → Option Addr} {L C : Nat → Nat} (h : Built B w g m c A L C) (hg : w.grownBy w1 none) : Built B w1 g m c A L C :=
  World.ownsRow.kept h hg (Or.inr (by simp [Value.ownBlock]))
theorem Built.alloc {B : Nat} {w : World} {g m c : Nat} {A : Nat → Option Addr} {L C : Nat → Nat} (h : Built B w g m c A L C) (o : Obj) : Built B (w.alloc o) g m c A L C := World.ownsRow.alloc h o
theorem Built.lt {B : Nat} {w : World} {g m c : Nat} {A : Nat → Option Addr} {L C : Nat → Nat} (h : Built B w g m c A L C) : g < w.heap.size := (World.ownsRow.lt h g rfl).2

/-- 'p[c:]' and 'p[:c]': where they begin is nobody's business. -/
theorem cut_from (po : Option Addr) (lp cp yc : Nat) (h : yc ≤ lp) : ∃ X, ∀ wz, (Instr.slice 24 (.slice po lp cp) (some (.int .i64 (yc : Int))) none none).run Try.prog wz = .ok (.slice X (lp - yc) (cp - yc)) wz := by
  refine ⟨(if cp = yc then po else po.map (·.add (yc * 1))), fun wz => ?_⟩
  rw [run_slice_l (P := Try.prog) wz 24 po lp cp (by exact Try.underlying24) .i64 (yc : Int) (by omega) (by omega)]
  have hsz : (sizeOf (Try.prog.elem 24)).run Try.prog wz = .ok 1 wz := by kernel_rfl
  rw [hsz]
  simp [sliced, Result.andThen]
theorem cut_to (po : Option Addr) (lp cp yc : Nat) (h : yc ≤ cp) : ∃ X, ∀ wz, (Instr.slice 24 (.slice po lp cp) none (some (.int .i64 (yc : Int))) none).run Try.prog wz = .ok (.slice X yc cp) wz := by
  refine ⟨(if cp = 0 then po else po.map (·.add (0 * 1))), fun wz => ?_⟩
  rw [run_slice_h (P := Try.prog) wz 24 po lp cp (by exact Try.underlying24) .i64 (yc : Int) (by omega) (by omega)]
  have hsz : (sizeOf (Try.prog.elem 24)).run Try.prog wz = .ok 1 wz := by kernel_rfl
  rw [hsz]
  simp [sliced, Result.andThen]

set_option maxRecDepth 100000 in
set_option maxHeartbeats 1000000 in
theorem grows_walk (ao po : Option Addr) (n cap lp cp : Nat) (A : Nat → Option Addr) (L C : Nat → Nat) (x y : Int) (w : World) (hR : RowsAt w ao n A L C) (hn : n ≤ 9223372036854775807) (hp : lp ≤ cp) (hcp : cp ≤ 9223372036854775807) (hl : ∀ i, i < n → L i ≤ 9223372036854775807) :
    Calls Try.prog 4 #[.slice ao n cap, .slice po lp cp, .int .i64 x, .int .i64 y] w fun e w' => e = .returned (.bool true) ∧ Below w.heap.size w w' := by
  obtain ⟨i0, hi, hz0, hz1, hz2⟩ := info_parts Try.info24
  go_enter Try.func4, Try.ntmps4
  go_wp2_with fail
  refine (zz7 _ _ n cap lp cp A L C x y w hR hn (by omega) hl).mono ?_
  rintro e w' ⟨⟨t, rfl, ht⟩, rfl⟩
  cases t with
  | false =>
    go_wp2_with fail
    go_ret
    exact ⟨rfl, Below.refl _ _⟩
  | true =>
    have hs := ht rfl
    clear ht
    go_wp2_with fail
    go_loop [9, 10] (fun t i => ∃ k : Nat, k ≤ n ∧ i = .int .i64 k ∧ t = .int .i64 (n + lp + S L k : Nat)) (fun _ i => n - (intOf i).toNat)
    case atStart => exact ⟨0, Nat.zero_le _, rfl, by simp [S]⟩
    case round =>
      obtain ⟨m, hm, rfl, rfl⟩ := hrel
      by_cases hlt : m < n
      · obtain ⟨b, off, rfl, hc⟩ := hR.open (by omega)
        have hck := hc m hlt
        have hb := S_step L hlt
        clear hc hR
        go_wp2_with fail
        go_round
        case rel => exact ⟨m + 1, by omega, by go_num, by rw [S_succ]; go_num⟩
        case measure => simp [intOf]; omega
      · have e : m = n := by omega
        subst e
        by_cases hx : 0 ≤ x ∧ x ≤ m
        · obtain ⟨hx0, hx1⟩ := hx
          obtain ⟨xi, rfl⟩ := Int.eq_ofNat_of_zero_le hx0
          clear hx0
          by_cases hy : 0 ≤ y ∧ y ≤ lp
          · obtain ⟨hy0, hy1⟩ := hy
            obtain ⟨yc, rfl⟩ := Int.eq_ofNat_of_zero_le hy0
            clear hy0
            go_wp2_with (at_make; refine wpList_make_own _ rfl _ _ 22 rfl w'.heap.size 24 i0 _ 1 Try.underlying22 hi hz0 hz1 _ _ _ (m + 1) rfl rfl (by omega) ?b1 ?b2 ?b3 ?_)
            case b1 => omega
            case b2 => unfold maxLen; omega
            intro w1 hown1 hgrow1
            have hb1 : Below w'.heap.size w' w1 := (Below.refl _ _).grown hgrow1 (Nat.le_refl _) (fun k hk => by cases hk)
            clear hgrow1
            go_wp2_with fail
            go_loopw [11, 12] (fun v j wr => ∃ q : Nat, q ≤ xi ∧ j = .int .i64 q ∧ v = .slice (some ⟨w'.heap.size, 0, none⟩) q (m + 1) ∧ Built w'.heap.size wr w'.heap.size q (m + 1) (ins xi A po) (ins xi L lp) (ins xi C cp) ∧ Below w'.heap.size w' wr) (fun _ j _ => xi - (intOf j).toNat)
            case atStart => exact ⟨0, Nat.zero_le _, rfl, rfl, hown1, hb1⟩
            case round =>
              clear hown1 hb1
              obtain ⟨q, hq, rfl, rfl, hbu, hbel⟩ := hrel
              by_cases hqx : q < xi
              · obtain ⟨b, off, rfl, hc⟩ := (hR.below hbel).open (by omega)
                have hck := hc q (by omega)
                have hsz := hbel.size
                clear hc hR
                go_wp2_with (at_builtin; refine wpList_append_fits _ rfl _ _ 22 rfl w'.heap.size 24 i0 1 Try.underlying22 hi hz1 w'.heap.size q (m + 1) _ rfl (hbu.alloc _) ⟨wr.heap.size, 0, none⟩ 1 1 [.slice (A q) (L q) (C q)] rfl rfl ?c1 ?c2 ?c3 ?_)
                case c1 =>
                  intro j u hj
                  match j, hj with
                  | 0, hj => simp at hj; subst hj; simp [Addr.add]
                case c2 => intro u hu; simp at hu; subst hu; rfl
                case c3 => omega
                intro w2 hown' hgrow
                have hb2 : Below w'.heap.size w' w2 := (hbel.alloc hsz _).grown hgrow (by simp; omega) (fun k hk => by cases hk; exact Nat.le_refl _)
                have hbu2 := Built.more hown' (ins_lt A po hqx) (ins_lt L lp hqx) (ins_lt C cp hqx)
                clear hown' hgrow hbu hbel hck
                go_wp2_with fail
                go_roundw
                case rel => exact ⟨q + 1, by omega, by go_num, rfl, hbu2, hb2⟩
                case measure => simp [intOf]; omega
              · have e : q = xi := by omega
                subst e
                have hsz := hbel.size
                go_wp2_with (at_builtin; refine wpList_append_fits _ rfl _ _ 22 rfl w'.heap.size 24 i0 1 Try.underlying22 hi hz1 w'.heap.size q (m + 1) _ rfl (hbu.alloc _) ⟨wr.heap.size, 0, none⟩ 1 1 [.slice po lp cp] rfl rfl ?c1 ?c2 ?c3 ?_)
                case c1 =>
                  intro j u hj
                  match j, hj with
                  | 0, hj => simp at hj; subst hj; simp [Addr.add]
                case c2 => intro u hu; simp at hu; subst hu; rfl
                case c3 => omega
                intro w2 hown' hgrow
                have hb2 : Below w'.heap.size w' w2 := (hbel.alloc hsz _).grown hgrow (by simp; omega) (fun k hk => by cases hk; exact Nat.le_refl _)
                have hbu2 := Built.more hown' (ins_at q A po) (ins_at q L lp) (ins_at q C cp)
                clear hown' hgrow hbu hbel
                go_wp2_with fail
                go_loopw [11, 13] (fun v j wr => ∃ r : Nat, q ≤ r ∧ r ≤ m ∧ j = .int .i64 r ∧ v = .slice (some ⟨w'.heap.size, 0, none⟩) (r + 1) (m + 1) ∧ Built w'.heap.size wr w'.heap.size (r + 1) (m + 1) (ins q A po) (ins q L lp) (ins q C cp) ∧ Below w'.heap.size w' wr) (fun _ j _ => m - (intOf j).toNat)
                case atStart => exact ⟨q, Nat.le_refl _, by omega, rfl, rfl, hbu2, hb2⟩
                case round =>
                  clear hbu2 hb2
                  obtain ⟨r, hr0, hr, rfl, rfl, hbu, hbel⟩ := hrel
                  by_cases hrm : r < m
                  · obtain ⟨b, off, rfl, hc⟩ := (hR.below hbel).open (by omega)
                    have hck := hc r (by omega)
                    have hsz := hbel.size
                    clear hc hR
                    go_wp2_with (at_builtin; refine wpList_append_fits _ rfl _ _ 22 rfl w'.heap.size 24 i0 1 Try.underlying22 hi hz1 w'.heap.size (r + 1) (m + 1) _ rfl (hbu.alloc _) ⟨wr.heap.size, 0, none⟩ 1 1 [.slice (A r) (L r) (C r)] rfl rfl ?d1 ?d2 ?d3 ?_)
                    case d1 =>
                      intro j u hj
                      match j, hj with
                      | 0, hj => simp at hj; subst hj; simp [Addr.add]
                    case d2 => intro u hu; simp at hu; subst hu; rfl
                    case d3 => omega
                    intro w3 hown' hgrow
                    have hb2 : Below w'.heap.size w' w3 := (hbel.alloc hsz _).grown hgrow (by simp; omega) (fun k hk => by cases hk; exact Nat.le_refl _)
                    have hbu2 := Built.more hown' (ins_gt A po hr0) (ins_gt L lp hr0) (ins_gt C cp hr0)
                    clear hown' hgrow hbu hbel hck
                    go_wp2_with fail
                    go_roundw
                    case rel => exact ⟨r + 1, by omega, by omega, by go_num, rfl, hbu2, hb2⟩
                    case measure => simp [intOf]; omega
                  · have e : r = m := by omega
                    subst e
                    obtain ⟨wq, hwq⟩ : ∃ wq, wq = wr := ⟨_, rfl⟩
                    subst hwq
                    have hsz := hbel.size
                    go_wp2_with (at_make; refine wpList_make_own _ rfl _ _ 22 rfl w'.heap.size 24 i0 _ 1 Try.underlying22 hi hz0 hz1 _ _ _ (r + 2) rfl rfl (by omega) ?e1 ?e2 ?e3 ?_)
                    case e1 => rw [hz2]; omega
                    case e2 => unfold maxLen; omega
                    case e3 => omega
                    intro w4 hown4 hgrow4
                    have hb4 : Below w'.heap.size w' w4 := hbel.grown hgrow4 hsz (fun k hk => by cases hk)
                    have hbu4 := hbu.new hgrow4
                    have hglt := hbu.lt
                    clear hgrow4 hbu hbel
                    go_wp2_with fail
                    go_loopw [14, 15] (fun v j wr => ∃ s : Nat, s ≤ q ∧ j = .int .i64 s ∧ v = .slice (some ⟨wq.heap.size, 0, none⟩) s (r + 2) ∧ Built w'.heap.size wr wq.heap.size s (r + 2) A L C ∧ Built w'.heap.size wr w'.heap.size (r + 1) (r + 1) (ins q A po) (ins q L lp) (ins q C cp) ∧ Below w'.heap.size w' wr) (fun _ j _ => q - (intOf j).toNat)
                    case atStart => exact ⟨0, Nat.zero_le _, rfl, rfl, hown4, hbu4, hb4⟩
                    case round =>
                      clear hown4 hbu4 hb4
                      obtain ⟨s, hsq, rfl, rfl, hub, hbu, hbel⟩ := hrel
                      have hsz := hbel.size
                      by_cases hrm : s < q
                      · obtain ⟨b, off, rfl, hc⟩ := (hR.below hbel).open (by omega)
                        have hck := hc s (by omega)
                        clear hc hR
                        go_wp2_with (at_builtin; refine wpList_append_fits _ rfl _ _ 22 rfl w'.heap.size 24 i0 1 Try.underlying22 hi hz1 wq.heap.size s (r + 2) _ rfl (hub.alloc _) ⟨wr.heap.size, 0, none⟩ 1 1 [.slice (A s) (L s) (C s)] rfl rfl ?f1 ?f2 ?f3 ?_)
                        case f1 =>
                          intro j u hj
                          match j, hj with
                          | 0, hj => simp at hj; subst hj; simp [Addr.add]
                        case f2 => intro u hu; simp at hu; subst hu; rfl
                        case f3 => omega
                        intro w3 hown' hgrow
                        have hb2 : Below w'.heap.size w' w3 := (hbel.alloc hsz _).grown hgrow (by simp; omega) (fun k hk => by cases hk; omega)
                        have hub2 := Built.more hown' rfl rfl rfl
                        have hbu2 := (hbu.alloc _).other hgrow (by omega)
                        clear hown' hgrow hbu hbel hck hub
                        go_wp2_with fail
                        go_roundw
                        case rel => exact ⟨s + 1, by omega, by go_num, rfl, hub2, hbu2, hb2⟩
                        case measure => simp [intOf]; omega
                      · have e : s = q := by omega
                        subst e
                        obtain ⟨X1, hX1⟩ := cut_to po lp cp yc (by omega)
                        obtain ⟨X2, hX2⟩ := cut_from po lp cp yc (by omega)
                        have hub1 := hub.congr (A' := ins2 s A X1 X2) (L' := ins2 s L yc (lp - yc)) (C' := ins2 s C cp (cp - yc)) (fun j hj => ⟨(ins2_lt A X1 X2 hj).symm, (ins2_lt L yc (lp - yc) hj).symm, (ins2_lt C cp (cp - yc) hj).symm⟩)
                        clear hub
                        go_wp2_with (at_builtin; refine wpList_append_fits _ rfl (.tmp 117) (.tmp 121) 22 rfl w'.heap.size 24 i0 1 Try.underlying22 hi hz1 wq.heap.size s (r + 2) _ rfl (hub1.alloc _) ⟨wr.heap.size, 0, none⟩ 1 1 [.slice X1 yc cp] rfl rfl ?f1 ?f2 ?f3 ?_)
                        case f1 =>
                          intro j u hj
                          match j, hj with
                          | 0, hj => simp at hj; subst hj; simp [Addr.add]
                        case f2 => intro u hu; simp at hu; subst hu; rfl
                        case f3 => omega
                        intro w3 hown' hgrow
                        have hb5 : Below w'.heap.size w' w3 := (hbel.alloc hsz _).grown hgrow (by simp; omega) (fun k hk => by cases hk; omega)
                        have hub5 := Built.more hown' (ins2_at s A X1 X2) (ins2_at s L yc (lp - yc)) (ins2_at s C cp (cp - yc))
                        have hbu5 := (hbu.alloc _).other hgrow (by omega)
                        have hsz5 := hb5.size
                        clear hown' hgrow hbu hbel hub1 hX1
                        go_wp2_with (at_builtin; refine wpList_append_fits _ rfl (.tmp 123) (.tmp 127) 22 rfl w'.heap.size 24 i0 1 Try.underlying22 hi hz1 wq.heap.size (s + 1) (r + 2) _ rfl (hub5.alloc _) ⟨w3.heap.size, 0, none⟩ 1 1 [.slice X2 (lp - yc) (cp - yc)] rfl rfl ?k1 ?k2 ?k3 ?_)
                        case k1 =>
                          intro j u hj
                          match j, hj with
                          | 0, hj => simp at hj; subst hj; simp [Addr.add]
                        case k2 => intro u hu; simp at hu; subst hu; rfl
                        case k3 => omega
                        intro w6 hown' hgrow
                        have hb6 : Below w'.heap.size w' w6 := (hb5.alloc hsz5 _).grown hgrow (by simp; omega) (fun k hk => by cases hk; omega)
                        have hub6 := Built.more hown' (ins2_at' s A X1 X2) (ins2_at' s L yc (lp - yc)) (ins2_at' s C cp (cp - yc))
                        have hbu6 := (hbu5.alloc _).other hgrow (by omega)
                        clear hown' hgrow hbu5 hb5 hub5 hX2 hsz5 hsz
                        go_wp2_with fail
                        go_loopw [14, 16] (fun v j wr => ∃ t : Nat, s ≤ t ∧ t ≤ r ∧ j = .int .i64 t ∧ v = .slice (some ⟨wq.heap.size, 0, none⟩) (t + 2) (r + 2) ∧ Built w'.heap.size wr wq.heap.size (t + 2) (r + 2) (ins2 s A X1 X2) (ins2 s L yc (lp - yc)) (ins2 s C cp (cp - yc)) ∧ Built w'.heap.size wr w'.heap.size (r + 1) (r + 1) (ins s A po) (ins s L lp) (ins s C cp) ∧ Below w'.heap.size w' wr) (fun _ j _ => r - (intOf j).toNat)
                        case atStart => exact ⟨s, Nat.le_refl _, by omega, rfl, rfl, hub6, hbu6, hb6⟩
                        case round =>
                          clear hub6 hbu6 hb6
                          obtain ⟨t, ht0, ht1, rfl, rfl, hub, hbu, hbel⟩ := hrel
                          have hsz := hbel.size
                          by_cases htr : t < r
                          · obtain ⟨b, off, rfl, hc⟩ := (hR.below hbel).open (by omega)
                            have hck := hc t (by omega)
                            clear hc hR
                            go_wp2_with (at_builtin; refine wpList_append_fits _ rfl _ _ 22 rfl w'.heap.size 24 i0 1 Try.underlying22 hi hz1 wq.heap.size (t + 2) (r + 2) _ rfl (hub.alloc _) ⟨wr.heap.size, 0, none⟩ 1 1 [.slice (A t) (L t) (C t)] rfl rfl ?g1 ?g2 ?g3 ?_)
                            case g1 =>
                              intro j u hj
                              match j, hj with
                              | 0, hj => simp at hj; subst hj; simp [Addr.add]
                            case g2 => intro u hu; simp at hu; subst hu; rfl
                            case g3 => omega
                            intro w7 hown' hgrow
                            have hb2 : Below w'.heap.size w' w7 := (hbel.alloc hsz _).grown hgrow (by simp; omega) (fun k hk => by cases hk; omega)
                            have hub2 := Built.more hown' (ins2_gt A X1 X2 ht0) (ins2_gt L yc (lp - yc) ht0) (ins2_gt C cp (cp - yc) ht0)
                            have hbu2 := (hbu.alloc _).other hgrow (by omega)
                            clear hown' hgrow hbu hbel hck hub
                            go_wp2_with fail
                            go_roundw
                            case rel => exact ⟨t + 1, by omega, by omega, by go_num, rfl, hub2, hbu2, hb2⟩
                            case measure => simp [intOf]; omega
                          · have e : t = r := by omega
                            subst e
                            have hS1 := S_ins1 L s t lp (by omega)
                            have hS2 := S_ins2 L s t yc (lp - yc) (by omega)
                            have hA1 := rowsAt_own hub
                            have hA2 := rowsAt_own hbu
                            have hA0 := hR.below hbel
                            clear hR hub hbu
                            have HS1 : Hid (S (ins s L lp) (t + 1) = S L t + lp) := hS1
                            have HS2 : Hid (S (ins2 s L yc (lp - yc)) (t + 2) = S L t + (yc + (lp - yc))) := hS2
                            have ht1' : S (ins s L lp) (t + 1) ≤ 1048576 := by omega
                            have ht2' : S (ins2 s L yc (lp - yc)) (t + 2) ≤ 1048576 := by omega
                            clear hS1 hS2
                            go_wp2_with fail
                            refine (len_any _ _ _ A L C _ hA0 (by omega) (by omega)).mono ?_
                            rintro e wx ⟨rfl, hwx⟩
                            subst hwx
                            go_wp2_with fail
                            refine (len_any _ _ _ _ _ _ _ hA2 (by omega) (by omega)).mono ?_
                            rintro e wy ⟨rfl, hwy⟩
                            subst hwy
                            go_wp2_with fail
                            refine (len_any _ _ _ _ _ _ _ hA1 (by omega) (by omega)).mono ?_
                            rintro e wz ⟨rfl, hwz⟩
                            subst hwz
                            have e1 : ((S (ins s L lp) (t + 1) : Nat) == (S L t : Int) + lp) = true := by rw [HS1.out, beq_iff_eq]; omega
                            have e2 : ((S (ins2 s L yc (lp - yc)) (t + 2) : Int) == (S (ins s L lp) (t + 1) : Nat)) = true := by rw [HS1.out, HS2.out, beq_iff_eq]; omega
                            have hend := hbel
                            clear hA0 hA1 hA2 hbel
                            go_wp2_with fail
                            go_ret
                            exact ⟨rfl, hend⟩
          · by_cases hy0 : 0 ≤ y
            · have hy1 : (lp : Int) < y := by omega
              go_wp2_with fail
              go_ret
              exact ⟨rfl, Below.refl _ _⟩
            · go_wp2_with fail
              go_ret
              exact ⟨rfl, Below.refl _ _⟩
        · by_cases hx0 : 0 ≤ x
          · have hx1 : (m : Int) < x := by omega
            go_wp2_with fail
            go_ret
            exact ⟨rfl, Below.refl _ _⟩
          · go_wp2_with fail
            go_ret
            exact ⟨rfl, Below.refl _ _⟩
end Go.Proofs.Qxb6626229a
