/-
  LawS2266ARoundTrip: the told and tied card.
-/
import Derived.Test.YbulkatxeFmtTold
import Derived.Test.YbulkatxeFmtRound
namespace Go.Proofs.YbulkatxeFmt
open Go.ChangeShapes Go.WideShapes Go.ChangeAt Go.RowKit Go.Extern.Stop Go.Stop Go.Extern
set_option linter.unusedVariables false
set_option linter.unusedSimpArgs false
set_option maxRecDepth 100000

theorem witness_row_round (os : Os) {H : Type} (enc : TypeId × Value → H) : (OpenSpec.ofChange Rows.lawS2266ARoundTripSpec).preRow enc Ybaf.prog Ybaf.f4 Rows.lawS2266ARoundTripRow.domain false Rows.lawS2266ARoundTripRow.laid
    ((((World.holding Ybaf.prog os ⟨#[], #[], []⟩).setCell ⟨0, 0, none⟩ (.iface 101 (.agg #[.pointer (some ⟨16, 31, none⟩)]))).forCall (fun _ _ => 0) ⟨#[], #[.int .i64 0, .int .i64 0], []⟩).memory) #[.int .i64 0, .int .i64 0] :=
  OpenSpec.preRow_of_B rfl 8 (by kernel_rfl) (by kernel_rfl) (laidMetH_of_parts (laidMet_nil _ _) (by kernel_rfl))

theorem round_lifted (os : Os) (started : os.Started) (H : Type) (enc : TypeId × Value → H) :
    ReturnsInTold none {} Ybaf.checked os 4 .any Input.okWide ((OpenSpec.ofChange Rows.lawS2266ARoundTripSpec).preRow enc Ybaf.prog Ybaf.f4 Rows.lawS2266ARoundTripRow.domain false Rows.lawS2266ARoundTripRow.laid)
      (fun F => ((OpenSpec.ofChange Rows.lawS2266ARoundTripSpec).at F).post enc Ybaf.prog Ybaf.f4 false true false false) (aloneAtReturn Ybaf.prog) nothingAlways := by
  refine returnsInTold_of_row (C := Ybaf.checked) (s := OpenSpec.ofChange Rows.lawS2266ARoundTripSpec) (by kernel_rfl) Ybaf.own started (by kernel_rfl) Ybaf.func4
    (OpenSpec.witness_stopped_at (enc := enc) (C := Ybaf.checked) false ((World.holding Ybaf.prog os ⟨#[], #[], []⟩).setCell ⟨0, 0, none⟩ (.iface 101 (.agg #[.pointer (some ⟨16, 31, none⟩)]))) #[.int .i64 0, .int .i64 0] rfl (by kernel_rfl) (by kernel_rfl) (by kernel_rfl) (witness_row_round os enc)) ?_
  intro F W base args ds gs before _ hF hval0 hW _ _ _ hL _
  have hval : ∀ (j : Nat) t v, Ybaf.f4.params[j]? = some t → args[j]? = some v → Value.okWide Ybaf.prog W .any base t v := hval0
  have hW' := hW
  obtain ⟨p, q, hA0, hV0, rfl, hfz, hnd⟩ := hW
  have hA : DataW.TrodAll enc Ybaf.prog W 0 (fun _ => true) true Ybaf.f4.params.toList args.toList ds p := hA0
  rw [Ybaf.params4] at hA hval
  obtain ⟨v0, vs0, d0, ds0, p0, q0, hargs, rfl, rfl, h0, r0⟩ := trodAll_cons hA
  obtain ⟨v1, vs1, d1, ds1, p1, q1, rfl, rfl, rfl, h1, r1⟩ := trodAll_cons r0
  obtain ⟨rfl, rfl, rfl⟩ := trodAll_nil r1
  obtain rfl : args = #[v0, v1] := by cases args; simp_all
  obtain ⟨rfl, rfl⟩ := trodVars_none hV0
  obtain ⟨x0, rfl, rfl, rfl, w0⟩ := open_int Ybaf.underlying2 (hval 0 2 v0 rfl rfl) h0
  obtain ⟨x1, rfl, rfl, rfl, w1⟩ := open_int Ybaf.underlying3 (hval 1 3 v1 rfl rfl) h1
  clear hA0 hval0
  refine (round_walk x0 x1 w0 W (typ_of_laid hL)).mono fun e W' ⟨he, bel⟩ => ?_
  subst he
  exact ⟨_, rfl, _, _, _, [], _, [], hW', trodAll_mk1 (shut_bool Ybaf.underlying4 _), (trodAll_cons_mk (shut_int Ybaf.underlying2 w0) (trodAll_cons_mk (shut_int Ybaf.underlying3 w1) trodAll_mk0)), rfl, bel.frame _, fun h => by cases h⟩

theorem Ybaf.stops4 : Ybaf.pinned.checked.prog.stops = Rows.lawS2266ARoundTripRow.stops := by kernel_rfl

/-- THE STATEMENT -/
theorem round_proved : Rows.LawS2266ARoundTripToldSaid :=
  Claim7.holds_of_told_tied_any_at .later 4 Ybaf.f4 _ _ [] _ _ _ _ _ (by kernel_rfl) rfl rfl rfl Ybaf.laidOut (by kernel_rfl) rfl ⟨rfl, rfl, rfl, rfl, rfl, rfl, rfl⟩ rfl rfl (by kernel_rfl) (by kernel_rfl) Ybaf.func4 (by kernel_rfl)
    (of_decide_eq_true (by kernel_rfl)) (of_decide_eq_true (by kernel_rfl)) Ybaf.stops4.symm rfl Ybaf.stopKnobs.symm (by kernel_rfl)
    (by kernel_rfl) (by kernel_rfl) (by kernel_rfl) (by kernel_rfl) (by kernel_rfl) (by kernel_rfl) (by kernel_rfl) (by kernel_rfl) (by kernel_rfl) rfl (by kernel_rfl) rfl rfl
    rfl rfl
    rfl (by kernel_rfl) (by kernel_rfl) (by kernel_rfl) (by decide) (by kernel_rfl) lawS2266ARoundTrip_row_tie
    (OpenClaim.moreEntering_of (by kernel_rfl) (by kernel_rfl) (by kernel_rfl) (by kernel_rfl) (by kernel_rfl) (by kernel_rfl) (by kernel_rfl) (by kernel_rfl) (by kernel_rfl) (by kernel_rfl))
    ⟨_, WideRow.started_initial, Ybaf.quiet _⟩
    (fun os started _ H enc _ => round_lifted os started H enc)
end Go.Proofs.YbulkatxeFmt
