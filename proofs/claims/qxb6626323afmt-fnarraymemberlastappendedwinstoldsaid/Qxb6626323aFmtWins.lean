/-
  FnArrayMemberLastAppendedWins (function 3): the walk.
-/
import Derived.Test.Qxb6626323aFmtGrow
import Derived.Deep.RegionHeld3
import Derived.Deep.RegionLawGrows
import Derived.ArgAppend
namespace Go.Proofs.Qxb6626323aFmt
open Go.RowKit Go.Extern.Stop Go.Stop Go.Extern

/-- Two blocks of four cells that were laid hold what they held. -/
theorem cells8 {W W' : World} {a b c d a' b' c' d' : Value} {t t' : TypeId} (hb : Below (W.heap.size + 1 + 1) ((W.alloc (.cells #[a, b, c, d] t)).alloc (.cells #[a', b', c', d'] t')) W') :
    (W'.cell? ⟨W.heap.size, 0, none⟩ = some a ∧ W'.cell? ⟨W.heap.size, 1, none⟩ = some b ∧ W'.cell? ⟨W.heap.size, 2, none⟩ = some c ∧ W'.cell? ⟨W.heap.size, 3, none⟩ = some d) ∧
    (W'.cell? ⟨W.heap.size + 1, 0, none⟩ = some a' ∧ W'.cell? ⟨W.heap.size + 1, 1, none⟩ = some b' ∧ W'.cell? ⟨W.heap.size + 1, 2, none⟩ = some c' ∧ W'.cell? ⟨W.heap.size + 1, 3, none⟩ = some d') := by
  refine ⟨?_, ?_⟩
  · refine cells4 (t := t) ⟨hb.os, hb.tape, hb.output, Nat.le_trans (by simp) hb.size, fun k hk => ?_⟩
    rw [hb.block k (by omega)]
    exact Below.heap_alloc _ _ _ (by simp; omega)
  · have h := cells4 (W := W.alloc (.cells #[a, b, c, d] t)) (t := t') (hb.mono (by simp))
    simpa using h

theorem frozen4 {W W' : World} {cs : Array Value} {t : TypeId} (hb : Below (W.heap.size + 1) (W.alloc (.cells cs t)) W') (o : Nat) : W'.frozen? ⟨W.heap.size, o, none⟩ = false := by
  rw [hb.frozen (p := ⟨W.heap.size, o, none⟩) (Nat.lt_succ_self _)]
  simp only [World.frozen?, heap_alloc_new]
  simp

set_option maxRecDepth 100000 in
set_option maxHeartbeats 1600000 in
theorem wins_walk (F : Interp) (n : Nat) (h e : Hd) (D : T (n + 2)) (E : T (n + 1)) (nm : ByteArray) (w : World) (hF : F.answers w.tape) (hr : Rd w (n + 2) h D) (he : Rd w (n + 1) e E) (hnm : nm.size ≤ 9223372036854775807) :
    Calls Tryf.prog 3 #[h.val, .string nm, e.val] w fun e w' => e = .returned (.bool true) ∧ Below w.heap.size w w' := by
  have hR0 := hr
  have hE0 := he
  obtain ⟨hk0, hf, h1, h2, h3⟩ := hr
  obtain ⟨hk1, ef, e1, e2, e3⟩ := he
  clear h1 e1 e2
  obtain ⟨k, ra, rl, rc, ia, il, ic, na, nl, nc⟩ := h
  obtain ⟨ek, era, erl, erc, eia, eil, eic, ena, enl, enc⟩ := e
  simp only at h2 h3 e3 hk1
  have HK : Hid (ek = T.kind E) := hk1
  clear hk0 hk1
  have hfi : il * 80 ≤ 140737488351232 := hf.i
  have hfn : nl * 16 ≤ 140737488351232 := hf.n
  have efi : eil * 80 ≤ 140737488351232 := ef.i
  have lenN := h2.length
  have lenI := h3.length
  show Calls Tryf.prog 3 #[.agg #[.int .u8 k, .slice ra rl rc, .slice ia il ic, .slice na nl nc], .string nm, .agg #[.int .u8 ek, .slice era erl erc, .slice eia eil eic, .slice ena enl enc]] w _
  have b0 := below_two w (.cells #[.int .u8 k, .slice ra rl rc, .slice ia il ic, .slice na nl nc] 26) (.cells #[.int .u8 ek, .slice era erl erc, .slice eia eil eic, .slice ena enl enc] 26)
  by_cases gnm : (nm.size : Int) ≤ 1048576
  rotate_left
  · clear hR0 hE0 hf ef h2 h3 e3 hF
    go_enter Tryf.func3, Tryf.ntmps3
    go_wp2_with fail
    go_ret
    exact ⟨rfl, b0⟩
  go_enter Tryf.func3, Tryf.ntmps3
  go_wp2_with fail
  refine (bud_any (n + 2) ⟨k, ra, rl, rc, ia, il, ic, na, nl, nc⟩ D _ _ (Rd.below b0 hR0) (by omega) (by omega)).mono ?_
  rintro e w1 ⟨⟨r1, rfl, hr1⟩, hb1⟩
  have B1 : Below w.heap.size w w1 := b0.trans (hb1.mono b0.size)
  have X1 : Below (w.heap.size + 1 + 1) ((w.alloc (.cells #[.int .u8 k, .slice ra rl rc, .slice ia il ic, .slice na nl nc] 26)).alloc (.cells #[.int .u8 ek, .slice era erl erc, .slice eia eil eic, .slice ena enl enc] 26)) w1 := hb1.mono (by simp)
  clear hb1
  obtain ⟨⟨p0, p1, p2, p3⟩, ⟨p4, p5, p6, p7⟩⟩ := cells8 X1
  by_cases gr1 : 0 ≤ r1
  rotate_left
  · clear hR0 hE0 hf ef h2 h3 e3 hF p0 p1 p2 p3 p4 p5 p6 p7
    go_wp2_with fail
    go_ret
    exact ⟨rfl, B1⟩
  go_wp2_with fail
  refine (bud_any (n + 1) ⟨ek, era, erl, erc, eia, eil, eic, ena, enl, enc⟩ E r1 _ (Rd.below B1 hE0) (by omega) (by omega)).mono ?_
  rintro e w2 ⟨⟨r2, rfl, hr2⟩, hb2⟩
  have z1 : w.heap.size + 1 < w1.heap.size := by have := X1.size; simp at this; omega
  have B2 : Below w.heap.size w w2 := B1.trans (hb2.mono B1.size)
  have X2 := X1.trans (hb2.mono z1)
  clear hb2 p0 p1 p2 p3 p4 p5 p6 p7
  obtain ⟨⟨p0, p1, p2, p3⟩, ⟨p4, p5, p6, p7⟩⟩ := cells8 X2
  have z2 : w.heap.size + 1 < w2.heap.size := by have := X2.size; simp at this; omega
  by_cases gr2 : 0 ≤ r2
  rotate_left
  · clear hR0 hE0 hf ef h2 h3 e3 hF p0 p1 p2 p3 p4 p5 p6 p7
    go_wp2_with fail
    go_ret
    exact ⟨rfl, B2⟩
  by_cases gl : nl = il
  rotate_left
  · have gl' : ((nl : Int) != (il : Int)) = true := by simp; omega
    clear hR0 hE0 hf ef h2 h3 e3 hF
    go_wp2_with fail
    go_ret
    exact ⟨rfl, B2⟩
  subst gl
  have HF : Hid (F.answers w.tape) := hF
  clear hF h2 h3
  go_wp2_with fail
  refine (toV_any (n + 2) ⟨k, ra, rl, rc, ia, nl, ic, na, nl, nc⟩ D w2 (Rd.below B2 hR0)).mono ?_
  rintro e w3 ⟨⟨fk, fra, frl, frc, fia, fil, fic, fna, fnl, fnc⟩, rfl, hb3, er1, er2, er3, hPF⟩
  clear er1 er2 er3
  have B3 : Below w.heap.size w w3 := B2.trans (hb3.mono B2.size)
  have X3 := X2.trans (hb3.mono z2)
  have z3 : w.heap.size + 1 < w3.heap.size := by have := X3.size; simp at this; omega
  clear p0 p1 p2 p3 p4 p5 p6 p7
  have B3f := B3.alloc (by omega) (.cells #[.int .u8 fk, .slice fra frl frc, .slice fia fil fic, .slice fna fnl fnc] 30)
  have X3f := X3.alloc (by omega) (.cells #[.int .u8 fk, .slice fra frl frc, .slice fia fil fic, .slice fna fnl fnc] 30)
  obtain ⟨⟨p0, p1, p2, p3⟩, ⟨p4, p5, p6, p7⟩⟩ := cells8 X3f
  go_wp2_with fail
  refine (toV_any (n + 2) ⟨k, ra, rl, rc, ia, nl, ic, na, nl, nc⟩ D _ (Rd.below B3f hR0)).mono ?_
  rintro e w4 ⟨⟨gk, gra, grl, grc, gia, gil, gic, gna, gnl, gnc⟩, rfl, hb4, er1, er2, er3, hPG⟩
  simp only at er1 er2 er3
  subst er1 er2 er3
  have z34 : w3.heap.size < w4.heap.size := by have := hb4.size; simp at this; omega
  have F4 := hb4.mono (show w3.heap.size + 1 ≤ _ by simp)
  have B4 := B3f.trans (F4.mono (by omega))
  have X4 := X3f.trans (F4.mono (by omega))
  clear p0 p1 p2 p3 p4 p5 p6 p7
  obtain ⟨⟨p0, p1, p2, p3⟩, ⟨p4, p5, p6, p7⟩⟩ := cells8 X4
  obtain ⟨f0, f1, f2, f3⟩ := cells4 F4
  -- what f and g read as, in whatever world keeps the blocks that are there now
  have HPF : Hid (∀ W, Below w4.heap.size w4 W → Rd W (n + 2) ⟨fk, fra, frl, frc, fia, fil, fic, fna, fnl, fnc⟩ D) := fun W hW => hPF W (fun b h1 h2 => by
    rw [hW.block b (by omega), F4.block b (by omega)]
    exact Below.heap_alloc _ _ _ h2)
  have HPG : Hid (∀ W, Below w4.heap.size w4 W → Rd W (n + 2) ⟨gk, gra, grc, grc, gia, gic, gic, gna, gnc, gnc⟩ D) := fun W hW => hPG W (fun b h1 h2 => hW.block b h2)
  clear hPF hPG hb4 hb3
  have y2 := (HPF.out w4 (Below.refl _ _)).2.2.2.1
  have y3 := (HPF.out w4 (Below.refl _ _)).2.2.2.2
  have g2 := (HPG.out w4 (Below.refl _ _)).2.2.2.1
  have g3 := (HPG.out w4 (Below.refl _ _)).2.2.2.2
  simp only at g2 g3 y2 y3
  have en : nl = gnc := lenN.symm.trans g2.length
  have ei : nl = gic := lenI.symm.trans g3.length
  have en' : nl = fnl := lenN.symm.trans y2.length
  have ei' : nl = fil := lenI.symm.trans y3.length
  clear y2 y3
  subst en ei en' ei'
  obtain ⟨nN, lN, cN⟩ := names_olds g2
  obtain ⟨nI, olds, lI, cI, dI⟩ := items_olds g3
  have HcI : Hid (∀ b, gia = some b → ∀ j u, olds[j]? = some u → w4.cell? (b.add j) = some u) := cI
  have HdI : Hid (∀ i x, ((T.items D).getD [])[i]? = some x → ∃ g, Rd w4 (n + 1) g x ∧ olds[i * 4]? = some (.int .u8 g.k) ∧ olds[i * 4 + 1]? = some (.slice g.ra g.rl g.rc) ∧ olds[i * 4 + 2]? = some (.slice g.ia g.il g.ic) ∧ olds[i * 4 + 3]? = some (.slice g.na g.nl g.nc)) := dI
  have HcN : Hid (∀ b, gna = some b → ∀ j u, (((T.names D).getD []).map Value.string)[j]? = some u → ((w4.alloc (.cells #[.int .u8 gk, .slice gra grc grc, .slice gia nl nl, .slice gna nl nl] 30)).alloc (.cells #[.string nm] 9)).cell? (b.add j) = some u) := fun b e j u hu => by
    have h1 := cN b e j u hu
    have h2 := World.block_lt_of_cell? _ _ h1
    rw [Below.cell (((Below.refl w4.heap.size w4).alloc (Nat.le_refl _) _).alloc (by simp) _) h2]
    exact h1
  have HnN : Hid (gna = none → nl = 0 ∧ nl = 0) := fun e => ⟨nN e, nN e⟩
  have HnI : Hid (gia = none → nl = 0 ∧ nl = 0) := fun e => ⟨nI e, nI e⟩
  have Hnew : Hid (∀ j u, [Value.string nm][j]? = some u → ((w4.alloc (.cells #[.int .u8 gk, .slice gra grc grc, .slice gia nl nl, .slice gna nl nl] 30)).alloc (.cells #[.string nm] 9)).cell? (Addr.add ⟨w4.heap.size + 1, 0, none⟩ j) = some u) := fun j u hu => by
    have h := news_of (w := (w4.alloc (.cells #[.int .u8 gk, .slice gra grc grc, .slice gia nl nl, .slice gna nl nl] 30)).alloc (.cells #[.string nm] 9)) (cs := [.string nm]) (t := 9) (fr := (0, 0)) (heap_alloc_new _ _) j u hu
    simpa using h
  clear cI dI cN nN nI g2 g3
  obtain ⟨i9, hi9, h90, h91, h92⟩ := info_parts Tryf.info9
  obtain ⟨i30, hi30, h300, h301, h302⟩ := info_parts Tryf.info30
  have HI9 : Hid (Tryf.prog.info? 9 = some i9) := hi9
  have HI30 : Hid (Tryf.prog.info? 30 = some i30) := hi30
  clear hi9 hi30
  go_wp2_with (first
    | (at_builtin
       refine wpList_append_grows _ rfl (.tmp 41) (.tmp 43) 24 rfl 9 i9 _ 1 16 Tryf.underlying24 HI9.out h90 h91 h92 rfl (by decide) gna nl nl (((T.names D).getD []).map Value.string) rfl HnN.out lN HcN.out ⟨w4.heap.size + 1, 0, none⟩ 1 1 [.string nm] rfl rfl Hnew.out (by simp [Value.oneCell']) (by omega) (by simp [maxLen]; omega) (by omega) ?_
       intro v5 w5 hown5 hgrow5
       obtain ⟨G1, cap1, rfl, hG1, lG1, hc1⟩ := own_cells hown5 (by omega)
       have h5 : Below (w4.heap.size + 2) ((w4.alloc (.cells #[.int .u8 gk, .slice gra grc grc, .slice gia nl nl, .slice gna nl nl] 30)).alloc (.cells #[.string nm] 9)) w5 := (grown_below hgrow5).mono (by simp)
       obtain ⟨k5, b5⟩ := built5 h5
       obtain ⟨⟨q0, q1, q2, q3⟩, fr5⟩ := blk4 k5
       have hG1' : w4.heap.size + 2 ≤ G1 := by simpa using hG1
       have Hc1 : Hid (∀ w'' : World, w''.heap[G1]? = w5.heap[G1]? → ∀ j u, (((T.names D).getD []).map Value.string ++ [Value.string nm])[j]? = some u → w''.cell? ⟨G1, j, none⟩ = some u) := hc1
       clear hown5 hgrow5 hc1 hG1))
  have z4 : w.heap.size + 1 < w4.heap.size := by omega
  have z45 : w4.heap.size < w5.heap.size := by omega
  have B6 : Below w.heap.size w (w5.setCell ⟨w4.heap.size, 3, none⟩ (.slice (some ⟨G1, 0, none⟩) (nl + 1) cap1)) := (B4.trans (b5.mono (by omega))).setCell (p := ⟨w4.heap.size, 3, none⟩) (by simp only; omega) _
  have X6 := (X4.trans (b5.mono (by omega))).setCell (p := ⟨w4.heap.size, 3, none⟩) (by simp only; omega) (.slice (some ⟨G1, 0, none⟩) (nl + 1) cap1)
  clear p0 p1 p2 p3 p4 p5 p6 p7
  obtain ⟨⟨p0, p1, p2, p3⟩, ⟨p4, p5, p6, p7⟩⟩ := cells8 X6
  have ne4 : ¬ (w.heap.size + 1 = w4.heap.size) := by omega
  have ne4' : ¬ (w4.heap.size = w.heap.size + 1) := by omega
  clear p0 p1 p2 p3
  go_region_law (first
      | (refine step_append_grows (by rfl) (.tmp 47) (.tmp 50) 28 (by rfl) 30 i30 _ 4 80 Tryf.underlying28 HI30.out h300 h301 h302 rfl (by decide) gia nl nl olds (by rfl) HnI.out lI
           (fun b e j u hu => by
             have h1 := HcI.out b e j u hu
             rw [Below.cell (b7.alloc (by omega) _) (World.block_lt_of_cell? _ _ h1)]
             exact h1)
           ⟨w7.heap.size, 0, none⟩ 1 1 [.int .u8 vk, .slice vra vrl vrc, .slice via vil vic, .slice vna vnl vnc] (by rfl) (by rfl) (news_of (t := 30) (fr := (0, 0)) (heap_alloc_new _ _)) (by simp [Value.oneCell']) (by omega) (by simp [maxLen]; omega) (by omega) ?_
         intro v8 w8 hown8 hgrow8
         obtain ⟨G2, cap2, rfl, hG2, lG2, hc2⟩ := own_cells hown8 (by omega)
         have h8 : Below (w7.heap.size + 1) (w7.alloc (.cells #[.int .u8 vk, .slice vra vrl vrc, .slice via vil vic, .slice vna vnl vnc] 30)) w8 := (grown_below hgrow8).mono (by simp)
         have hG2' : w7.heap.size + 1 ≤ G2 := by simpa using hG2
         have Hc2 : Hid (∀ w'' : World, w''.heap[G2]? = w8.heap[G2]? → ∀ j u, (olds ++ [Value.int .u8 vk, .slice vra vrl vrc, .slice via vil vic, .slice vna vnl vnc])[j]? = some u → w''.cell? ⟨G2, j, none⟩ = some u) := hc2
         clear hown8 hgrow8 hc2 hG2
         obtain ⟨k8, b8⟩ := built8 k7 b7 (by omega) h8
         obtain ⟨⟨l0, l1, l2, l3⟩, fr8⟩ := blk4 k8
         obtain ⟨_, ⟨t4, t5, t6, t7⟩⟩ := cells8 (X4.trans (b8.mono (by omega))))
      | (go_simp
         go_at_call 6
         refine (toV_any (n + 1) ⟨ek, era, erl, erc, eia, eil, eic, ena, enl, enc⟩ E _ (Rd.below B6.drew hE0)).mono ?_
         rintro e w7 ⟨⟨vk, vra, vrl, vrc, via, vil, vic, vna, vnl, vnc⟩, rfl, hb7, er1, er2, er3, hPE⟩
         clear er1 er2 er3
         have h7 : Below w5.heap.size (w5.setCell ⟨w4.heap.size, 3, none⟩ (.slice (some ⟨G1, 0, none⟩) (nl + 1) cap1)) w7 := undrew (hb7.mono (Nat.le_of_eq (set_size _ _ _).symm))
         have HPE : Hid (∀ w'', Agree w5.heap.size w7 w'' → Rd w'' (n + 1) ⟨vk, vra, vrl, vrc, via, vil, vic, vna, vnl, vnc⟩ E) := fun w'' ha => hPE w'' (ha.mono (Nat.le_of_eq (set_size _ _ _).symm))
         clear hPE hb7
         obtain ⟨k7, b7⟩ := built7 k5 b5 z45 h7
         obtain ⟨⟨m0, m1, m2, m3⟩, fr7⟩ := blk4 k7
         have s7 : w5.heap.size ≤ w7.heap.size := by have := h7.size; rw [set_size] at this; exact this
         obtain ⟨_, ⟨u4, u5, u6, u7⟩⟩ := cells8 (X4.trans (b7.mono (by omega)))
         have n2 := World.new_ne w7 _ m2
         have n3 : ¬ (w4.heap.size = w7.heap.size) := by omega
         have n4 : (w7.alloc (.cells #[.int .u8 vk, .slice vra vrl vrc, .slice via vil vic, .slice vna vnl vnc] 30)).cell? ⟨w4.heap.size, 2, none⟩ = some (.slice gia nl nl) := (blk4 (built8 k7 b7 (by omega) (Below.refl _ _)).1).1.2.2.1
         go_wp2_with fail))
  all_goals
    obtain ⟨k9, b9, R9⟩ := built (cap2 := cap2) h5 hG1' lG1 Hc1.out h7 HPE.out h8 hG2' lG2 Hc2.out lenN lenI lI HdI.out
    have HR9 : Hid (∀ W, Below w8.heap.size (w8.setCell ⟨w4.heap.size, 2, none⟩ (.slice (some ⟨G2, 0, none⟩) (nl + 1) cap2)) W → SlAt W (some ⟨G1, 0, none⟩) (nl + 1) Value.string (some ((T.names D).getD [] ++ [nm])) ∧ ItAt W (some ⟨G2, 0, none⟩) (nl + 1) (Rd W (n + 1)) (some ((T.items D).getD [] ++ [E]))) := R9
    have s8 : w7.heap.size + 1 ≤ w8.heap.size := by have := h8.size; simpa using this
    obtain ⟨⟨c0, c1, c2, c3⟩, fr9⟩ := blk4 k9
    have X9 := X4.trans (b9.mono (by omega))
    have B9 := B4.trans (b9.mono (by omega))
    have F9 := F4.trans (b9.mono (by omega))
    clear R9 k9 k5 k7 k8 h5 h7 h8 HPE Hc1 Hc2 HcI HdI HcN Hnew HI9 HI30 HnN HnI b5 b7 b8 q0 q1 q2 q3 m0 m1 m2 m3 u4 u5 u6 u7 n2 n3 n4 fr5 fr7 p4 p5 p6 p7 f0 f1 f2 f3 B6 X6 b0 X1 X2 X3 X3f B1 B2 B3 B3f F4
    go_wp2_with fail
    refine (array_any F n gk gra grc grc (some ⟨G2, 0, none⟩) (nl + 1) cap2 (some ⟨G1, 0, none⟩) (nl + 1) cap1 (some ((T.names D).getD [] ++ [nm])) (some ((T.items D).getD [] ++ [E])) nm _ (by show F.answers _; rw [B9.tape]; exact HF.out) (HR9.out _ (Below.refl _ _)).1 (HR9.out _ (Below.refl _ _)).2 (Nat.le_refl _) (by omega)).mono ?_
    rintro e w10 ⟨r10, v10, rfl, hl10, harr, hb10⟩
    have h3g := (HR9.out _ (Below.refl _ _)).2
    have s10 : w8.heap.size ≤ w10.heap.size := by have := hb10.size; rw [set_size] at this; exact this
    have M10 := hb10.mono (Nat.le_of_eq (set_size w8 ⟨w4.heap.size, 2, none⟩ (.slice (some ⟨G2, 0, none⟩) (nl + 1) cap2)).symm)
    have X10 := X9.trans (M10.mono (by omega))
    have B10 := B9.trans (M10.mono (by omega))
    have F10 := F9.trans (M10.mono (by omega))
    clear l0 l1 l2 l3 fr8 t4 t5 t6 t7 c0 c1 c2 c3 fr9
    obtain ⟨⟨p0, p1, p2, p3⟩, ⟨p4, p5, p6, p7⟩⟩ := cells8 X10
    obtain ⟨f0, f1, f2, f3⟩ := cells4 F10
    clear p0 p1 p2 p3
    have q28 := eql28
    by_cases e91 : ek = 91
    · have hk : T.kind E = 91 := HK.out.symm.trans e91
      rcases ans_hit lenN lenI (by rw [hk]; decide) h3g hl10 harr with ⟨x, c, ex, _, hRc, rfl⟩ | ⟨e, _⟩
      rotate_left
      · exact absurd hk (e E rfl)
      cases ex
      have hR10 := Rd.below hb10 hRc
      have I10 := hR10.2.2.2.2
      have L10 : c.il * 80 ≤ 140737488351232 := hR10.2.1.i
      have E10 := e3.below B10 (fun _ _ => Rd.below B10)
      have H1 : Hid (ItAt w10 c.ia c.il (Rd w10 n) (T.items E)) := I10
      have H2 : Hid (ItAt w10 eia eil (Rd w10 n) (T.items E)) := E10
      clear hRc hR10 I10 E10 h3g hl10 harr hk HR9 hE0 hR0 e3 ef hf
      subst e91
      go_wp2_with fail
      refine (eqJVs_any n eia c.ia eil eic c.il c.ic (T.items E) (T.items E) _ H2.out H1.out (by omega) (by omega)).mono ?_
      rintro e w11 ⟨⟨t, rfl, ht⟩, hb11⟩
      obtain rfl : t = true := ht rfl
      have B11 := B10.trans (hb11.mono B10.size)
      clear ht hb11 H1 H2
      go_wp2_with fail
      go_ret
      exact ⟨rfl, B11⟩
    by_cases e0 : ek = 0
    rotate_left
    · have hk : T.kind E ≠ 91 := by rw [← HK.out]; exact e91
      rcases ans_hit lenN lenI (by rw [← HK.out]; exact e0) h3g hl10 harr with ⟨x, c, ex, ek', hRc, rfl⟩ | ⟨_, a10, rfl⟩
      · cases ex
        exact absurd ek' hk
      clear h3g hl10 harr hk HR9 hE0 hR0 e3 ef hf
      go_wp2_with fail
      go_ret
      exact ⟨rfl, B10⟩
    · have hk : T.kind E = 0 := HK.out.symm.trans e0
      have AG := ans_miss lenN lenI hk h3g hl10 harr
      have hlG := last_miss lenN lenI hk hl10
      have HL : Hid (Last (hitB ((T.names D).getD []) ((T.items D).getD []) nm) nl r10) := hlG
      have HB10 : Hid (Below w4.heap.size w4 w10) := b9.trans (M10.mono (by omega))
      obtain ⟨sa, sl, sc, er, rfl, HAG⟩ : ∃ sa sl sc er, v10 = .tuple #[.slice sa sl sc, er] ∧ Hid (Ans (n := n) (w8.setCell ⟨w4.heap.size, 2, none⟩ (.slice (some ⟨G2, 0, none⟩) (nl + 1) cap2)) (.tuple #[.slice sa sl sc, er]) (r10.bind fun i => ((T.items D).getD [])[i]?)) := by
        rcases id AG with ⟨x, c, _, _, _, rfl⟩ | ⟨_, a, rfl⟩
        · exact ⟨_, _, _, _, rfl, AG⟩
        · exact ⟨_, _, _, _, rfl, AG⟩
      clear AG hlG h3g hl10 harr hk HR9 hE0 hR0 e3 ef hf
      subst e0
      go_wp2_with fail
      refine (array_any F n fk fra frl frc fia nl fic fna nl fnc (T.names D) (T.items D) nm _ (by show F.answers _; rw [B10.tape]; exact HF.out) (HPF.out _ HB10.out).2.2.2.1 (HPF.out _ HB10.out).2.2.2.2 (Nat.le_refl _) (by omega)).mono ?_
      rintro e w12 ⟨r12, v12, rfl, hl12, harr, hb12⟩
      have e12 := last_unique hl12 HL.out
      subst e12
      have AF := ans_of (HPF.out _ HB10.out).2.2.2.2 hl12 harr
      have B12 := B10.trans (hb12.mono B10.size)
      have X12 := X10.trans (hb12.mono (by omega))
      clear hl12 harr HL HB10 HPF HPG p4 p5 p6 p7 f0 f1 f2 f3
      rcases HAG.out with ⟨x, c, ex, kx, hRc, ev⟩ | ⟨nx, a, ev⟩
      · rcases AF with ⟨x', c', ex', kx', hRc', rfl⟩ | ⟨nx', a', rfl⟩
        · rw [ex] at ex'
          cases ex'
          simp only [Value.tuple.injEq, Array.mk.injEq, List.cons.injEq, Value.slice.injEq, and_true] at ev
          obtain ⟨⟨rfl, rfl, rfl⟩, rfl⟩ := ev
          have R1 := Rd.below hb12 (Rd.below hb10 hRc)
          have R2 := Rd.below hb12 hRc'
          have L1 : c.il * 80 ≤ 140737488351232 := R1.2.1.i
          have L2 : c'.il * 80 ≤ 140737488351232 := R2.2.1.i
          have H1 : Hid (ItAt w12 c.ia c.il (Rd w12 n) (T.items x)) := R1.2.2.2.2
          have H2 : Hid (ItAt w12 c'.ia c'.il (Rd w12 n) (T.items x)) := R2.2.2.2.2
          have BD : Below w12.heap.size w12 w12.drew := (Below.refl _ _).drew
          clear hRc hRc' R1 R2 ex kx kx' HAG hb10 hb12
          go_wp2_with fail
          go_region
          go_wp2_with fail
          refine (eqVals_any n c'.ia c.ia c'.il c'.ic c.il c.ic (T.items x) (T.items x) _ (H2.out.below BD (fun _ _ => Rd.below BD)) (H1.out.below BD (fun _ _ => Rd.below BD)) (by omega) (by omega)).mono ?_
          rintro e w13 ⟨⟨t, rfl, ht⟩, hb13⟩
          obtain rfl : t = true := ht rfl
          have B13 := B12.trans ((undrew hb13).mono B12.size)
          clear ht hb13 H1 H2
          go_wp2_with fail
          go_ret
          exact ⟨rfl, B13⟩
        · exact absurd kx (nx' x ex)
      · rcases AF with ⟨x', c', ex', kx', hRc', rfl⟩ | ⟨nx', a', rfl⟩
        · exact absurd kx' (nx x' ex')
        · simp only [Value.tuple.injEq, Array.mk.injEq, List.cons.injEq, Value.slice.injEq, and_true] at ev
          obtain ⟨⟨rfl, rfl, rfl⟩, rfl⟩ := ev
          clear nx nx' HAG hb10 hb12
          go_wp2_with fail
          go_region
          go_wp2_with fail
          refine (eqVals_any n none none 0 0 0 0 none none _ ⟨rfl, rfl⟩ ⟨rfl, rfl⟩ (by omega) (by omega)).mono ?_
          rintro e w13 ⟨⟨t, rfl, ht⟩, hb13⟩
          obtain rfl : t = true := ht rfl
          have B13 := B12.trans ((undrew hb13).mono B12.size)
          clear ht hb13
          go_wp2_with fail
          go_ret
          exact ⟨rfl, B13⟩
end Go.Proofs.Qxb6626323aFmt
