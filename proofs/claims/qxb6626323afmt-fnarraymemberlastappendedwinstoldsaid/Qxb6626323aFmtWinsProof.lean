/-
  FnArrayMemberLastAppendedWins: from the walk to the given card.
-/
import Derived.Test.Qxb6626323aFmtWins
import Derived.Test.Qxb6626323aFmtOpen
import Derived.WalkKit
import Derived.ProofKit
import Derived.OpenShut
import Derived.ShutString
import Derived.ChangeOld
import Derived.Stop.JoinedAt
import Derived.Stop.JoinedTold
import Derived.SevenToldRow
namespace Go.Proofs.Qxb6626323aFmt.fnArrayMemberLastAppendedWins
open Go.ChangeShapes Go.WideShapes Go.ChangeAt Go.RowKit
open Go.ChangeMaps (open_string shut_string)
open Go.Extern.Stop Go.Stop Go.Extern
set_option linter.unusedVariables false

theorem own : ownKnob Tryf.prog.godebug = none := by kernel_rfl
theorem laidOut : laidOutB Tryf.pinned.checked.prog = true := by kernel_rfl
theorem laidOut' : laidOutB Tryf.prog = true := by kernel_rfl
theorem stops : Tryf.pinned.checked.prog.stops = ["fmt.errorf"] := by kernel_rfl
theorem stopKnobs : Tryf.pinned.checked.prog.stopKnobs = [] := by kernel_rfl
theorem quiet (os : Os) : Stop.quiet Tryf.pinned.checked.prog os := by
  intro k hk
  rw [stopKnobs] at hk
  cases hk

/-- A JV that came in, by its value, read at a fuel that suffices. -/
theorem jv_at {H : Type} {enc : TypeId × Value → H} {W : World} {v : Value} {d : DataW H} {p : List MemPlace} {b fuel m : Nat} (hv : Value.okWide Tryf.prog W .any b 26 v) (h : DataW.trod enc Tryf.prog W 0 (fun _ => true) true fuel 26 v.cells.toList = some (d, p)) (hm : fuel ≤ m)
    (hz : ∀ n ∈ d.weights Tryf.prog 26, n ≤ reachBytes) : ∃ (g : Hd) (D : T m), v = g.val ∧ Rd W m g D := by
  obtain ⟨cs, rfl, _⟩ := okWide_struct Tryf.underlying26 hv
  have hf2 := DataW.trod_le hm h
  obtain ⟨g, D, hg, hR⟩ := rd_of m _ _ hf2 hz
  refine ⟨g, D, ?_, hR⟩
  have : cs.toList = [.int .u8 g.k, .slice g.ra g.rl g.rc, .slice g.ia g.il g.ic, .slice g.na g.nl g.nc] := by simpa [Value.cells] using hg
  show Value.agg cs = .agg #[.int .u8 g.k, .slice g.ra g.rl g.rc, .slice g.ia g.il g.ic, .slice g.na g.nl g.nc]
  congr 1
  apply Array.ext'
  exact this

set_option maxRecDepth 100000 in
theorem lifted (os : Os) (started : os.Started) (H : Type) (enc : TypeId × Value → H) :
    ReturnsInTold none {} Tryf.checked os 3 .any Input.okWide ((OpenSpec.ofChange Rows.fnArrayMemberLastAppendedWinsSpec).preRow enc Tryf.prog Tryf.f3 [] false []) (fun F => ((OpenSpec.ofChange Rows.fnArrayMemberLastAppendedWinsSpec).at F).post enc Tryf.prog Tryf.f3 false true false false) (aloneAtReturn Tryf.prog) nothingAlways := by
  refine returnsInTold_of_row (C := Tryf.checked) (s := OpenSpec.ofChange Rows.fnArrayMemberLastAppendedWinsSpec) (by kernel_rfl) own started (by kernel_rfl) Tryf.func3
    (OpenSpec.witness_stopped (enc := enc) (C := Tryf.checked) false ⟨#[], #[.agg #[.int .u8 0, .slice none 0 0, .slice none 0 0, .slice none 0 0], .string ByteArray.empty, .agg #[.int .u8 0, .slice none 0 0, .slice none 0 0, .slice none 0 0]], []⟩ 8 (by kernel_rfl) (by kernel_rfl) (by kernel_rfl) (by kernel_rfl)) ?_
  intro F W base args ds gs before _ hF hval0 hW _ _ hsz0 _ _
  have hval : ∀ (j : Nat) t v, Tryf.f3.params[j]? = some t → args[j]? = some v → Value.okWide Tryf.prog W .any base t v := hval0
  have hW' := hW
  obtain ⟨p, q, hA0, hV, rfl, hfz, hnd⟩ := hW
  have hA : DataW.TrodAll enc Tryf.prog W 0 (fun _ => true) true Tryf.f3.params.toList args.toList ds p := hA0
  have hsz : (DataW.weightsEach Tryf.prog (Tryf.f3.params.toList ++ (OpenSpec.ofChange Rows.fnArrayMemberLastAppendedWinsSpec).bare.plain.varTypes Tryf.prog) (ds ++ gs)).all (· ≤ reachBytes) = true := hsz0
  rw [Tryf.params3] at hA hval hsz
  obtain ⟨v0, vs0, d0, ds0, p0, q0, hargs, rfl, rfl, h0, r0⟩ := trodAll_cons hA
  obtain ⟨v1, vs1, d1, ds1, p1, q1, rfl, rfl, rfl, h1, r1⟩ := trodAll_cons r0
  obtain ⟨v2, vs2, d2, ds2, p2, q2, rfl, rfl, rfl, h2, r2⟩ := trodAll_cons r1
  obtain ⟨rfl, rfl, rfl⟩ := trodAll_nil r2
  obtain rfl : args = #[v0, v1, v2] := by cases args; simp_all
  obtain ⟨rfl, rfl⟩ := trodVars_none hV
  have k0 := h0
  have k2 := h2
  have lt0 : ∀ x ∈ p0, x.block < W.heap.size := by obtain ⟨m, hm⟩ := k0; exact DataW.trod_lt m _ _ _ hm
  have lt2 : ∀ x ∈ p2, x.block < W.heap.size := by obtain ⟨m, hm⟩ := k2; exact DataW.trod_lt m _ _ _ hm
  obtain ⟨n0, t0⟩ := h0
  obtain ⟨n2, t2⟩ := h2
  obtain ⟨g, D, rfl, hR⟩ := jv_at (m := n0 + n2 + 2) (hval 0 26 v0 rfl rfl) t0 (by omega) (fun m hm => by simpa using List.all_eq_true.1 hsz m (DataW.weights_mem_each (j := 0) (t := 26) rfl rfl m hm))
  obtain ⟨e, E, rfl, hE⟩ := jv_at (m := n0 + n2 + 1) (hval 2 26 v2 rfl rfl) t2 (by omega) (fun m hm => by simpa using List.all_eq_true.1 hsz m (DataW.weights_mem_each (j := 2) (t := 26) rfl rfl m hm))
  obtain ⟨a1, rfl, rfl, rfl, w1⟩ := open_string Tryf.underlying9 (hval 1 9 v1 rfl rfl) h1
  have w1' := w1
  unfold maxLen at w1'
  clear hA0 hval0
  refine (wins_walk F.told (n0 + n2) g e D E a1 W hF hR hE w1').mono fun e W' ⟨he, bel⟩ => ?_
  subst he
  exact ⟨_, rfl, _, _, _, [], _, [], hW', trodAll_mk1 (shut_bool Tryf.underlying4 _), (trodAll_cons_mk (Below.trod laidOut' (by kernel_rfl) (of_decide_eq_true (by kernel_rfl)) k0 bel lt0) (trodAll_cons_mk (shut_string Tryf.underlying9 w1) (trodAll_cons_mk (Below.trod laidOut' (by kernel_rfl) (of_decide_eq_true (by kernel_rfl)) k2 bel lt2) trodAll_mk0))), rfl, bel.frame _, fun h => by cases h⟩

theorem proved : Rows.FnArrayMemberLastAppendedWinsToldSaid :=
  Claim7.holds_of_told_any 3 Tryf.f3 "fmt.errorf" [] [] _ _ _ (by kernel_rfl) rfl rfl rfl laidOut (by kernel_rfl) rfl ⟨rfl, rfl, rfl, rfl, rfl, rfl, rfl⟩ rfl rfl (by kernel_rfl) (by kernel_rfl) Tryf.func3 (by kernel_rfl)
    (of_decide_eq_true (by kernel_rfl)) (of_decide_eq_true (by kernel_rfl)) stops.symm rfl stopKnobs.symm (by kernel_rfl)
    (by kernel_rfl) (by kernel_rfl) (by kernel_rfl) (by kernel_rfl) (by kernel_rfl) (by kernel_rfl) (by kernel_rfl) (by kernel_rfl) (by kernel_rfl) rfl (by kernel_rfl) rfl rfl
    rfl rfl
    rfl (by kernel_rfl) (by kernel_rfl) (by kernel_rfl) (by decide) (by kernel_rfl)
    (OpenClaim.moreEntering_of (by kernel_rfl) (by kernel_rfl) (by kernel_rfl) (by kernel_rfl) (by kernel_rfl) (by kernel_rfl) (by kernel_rfl) (by kernel_rfl) (by kernel_rfl) (by kernel_rfl))
    ⟨_, WideRow.started_initial, quiet _⟩
    (fun os started _ H enc _ => lifted os started H enc)
end Go.Proofs.Qxb6626323aFmt.fnArrayMemberLastAppendedWins
