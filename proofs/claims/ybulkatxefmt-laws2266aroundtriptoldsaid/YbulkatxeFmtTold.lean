/-
  LawS2266AExact: the told and tied card.
-/
import Derived.Test.YbulkatxeFmtRows
import Derived.Test.YbulkatxeFmtTie
import Derived.Test.YbulkatxeFmtCards
import Derived.Test.YbulkatxeFmtExact
import Derived.ProofKit
import Derived.OpenShut
import Derived.ShutString
import Derived.ChangeOld
import Derived.LaidHandle
import Derived.LaidLaws
import Derived.Stop.Joined
import Derived.Stop.JoinedTold
import Derived.SevenTiedAt
namespace Go.Proofs.YbulkatxeFmt
open Go.ChangeShapes Go.WideShapes Go.ChangeAt Go.RowKit Go.Extern.Stop Go.Stop Go.Extern
set_option linter.unusedVariables false
set_option linter.unusedSimpArgs false
set_option maxRecDepth 100000

theorem Ybaf.own : ownKnob Ybaf.prog.godebug = none := by kernel_rfl
theorem Ybaf.laidOut : laidOutB Ybaf.prog = true := by kernel_rfl
theorem Ybaf.et : Ybaf.prog.globalNamed "errors.errorType" = some 0 := by kernel_rfl
theorem Ybaf.rt (n : String) (hn : n = (match (Rows.laid_errors_errorType : DataW Unit) with | .iface s _ => s | _ => "")) : (Ybaf.prog.cutTypes.find? (·.1 == n)).map (·.2) = some 101 := by subst hn; kernel_rfl
theorem Ybaf.oneRow : ((List.range 204).filter fun t => Ybaf.prog.rowNamed t [101, 114, 114, 111, 114]) = [31] := by kernel_rfl
theorem Ybaf.size : Ybaf.prog.types.size = 204 := by kernel_rfl

/-- WHAT THE CONDITION GIVES A WALK: the variable's one cell. -/
theorem typ_of_laid {W : World} (h : laidMetH Ybaf.prog [("errors.errorType", Rows.laid_errors_errorType)] W) : Typ W := by
  have h' : laidMet Ybaf.prog [] W ∧ handlesMet Ybaf.prog [("errors.errorType", Rows.laid_errors_errorType)] W := h
  obtain ⟨name, u, ty, e1, e2, e3, e4, e5⟩ := h'.2 _ (List.mem_singleton.2 rfl)
  have en : name = [101, 114, 114, 111, 114] := (Option.some.inj e1).symm
  subst en
  obtain rfl := Option.some.inj ((Ybaf.rt _ rfl).symm.trans e2)
  have hm : ty ∈ (List.range 204).filter fun t => Ybaf.prog.rowNamed t [101, 114, 114, 111, 114] := List.mem_filter.2 ⟨List.mem_range.2 (by rw [← Ybaf.size]; exact e3), e4⟩
  rw [Ybaf.oneRow] at hm
  obtain rfl := List.mem_singleton.1 hm
  have hh : typeHandle Ybaf.prog 31 = .pointer (some ⟨16, 31, none⟩) := by kernel_rfl
  rw [hh] at e5
  simpa [Typ] using World.var?_cell Ybaf.et e5 0

theorem witness_row_exact (os : Os) {H : Type} (enc : TypeId × Value → H) : (OpenSpec.ofChange Rows.lawS2266AExactSpec).preRow enc Ybaf.prog Ybaf.f3 Rows.lawS2266AExactRow.domain false Rows.lawS2266AExactRow.laid
    ((((World.holding Ybaf.prog os ⟨#[], #[], []⟩).setCell ⟨0, 0, none⟩ (.iface 101 (.agg #[.pointer (some ⟨16, 31, none⟩)]))).forCall (fun _ _ => 0) ⟨#[], #[.bool false, .int .u8 0, .int .u32 0, .slice none 0 0, .int .i64 0], []⟩).memory) #[.bool false, .int .u8 0, .int .u32 0, .slice none 0 0, .int .i64 0] :=
  OpenSpec.preRow_of_B rfl 8 (by kernel_rfl) (by kernel_rfl) (laidMetH_of_parts (laidMet_nil _ _) (by kernel_rfl))

theorem u8_nat {x : Int} (h : (Lit.int .u8 x).wf = true) : ∃ m : Nat, m < 256 ∧ x = (m : Int) := by
  have := bounds_u8 h
  exact ⟨x.toNat, by omega, by omega⟩

theorem getD_wf {zs : List Int} (h : ∀ n ∈ zs, (Lit.int .u8 n).wf = true) (i : Nat) : (Lit.int .u8 (zs.getD i 0)).wf = true := by
  rw [List.getD]
  cases e : zs[i]? with
  | none => rfl
  | some v => exact h v (List.mem_of_getElem? e)

/-- A slice of octets that came in, as the walk wants it. -/
theorem octs_of {H : Type} {enc : TypeId × Value → H} {W : World} {fuel : Nat} {a : Option Addr} {n c : Nat} {x : DataW H × List MemPlace}
    (hf : DataW.trod enc Ybaf.prog W 0 (fun _ => true) true fuel 23 (Value.slice a n c).cells.toList = some x) : n ≤ maxLen ∧ ∃ z, IsOcts W a n c z := by
  rcases open_ints Ybaf.underlying23 Ybaf.underlying5 (by kernel_rfl) hf with ⟨hcs, _⟩ | ⟨y, l, cc, zs, hcs, _, hl, hm, hz, _, hcell, hwz⟩
  · simp [Value.cells] at hcs
    obtain ⟨rfl, rfl, rfl⟩ := hcs
    exact ⟨by decide, fun _ => 0, fun _ => (show 0 < 256 by decide), .inl rfl⟩
  · simp [Value.cells] at hcs
    obtain ⟨rfl, rfl, rfl⟩ := hcs
    refine ⟨by omega, fun i => (zs.getD i 0).toNat, fun i => ?_, ?_⟩
    · have := bounds_u8 (getD_wf hwz i)
      show (zs.getD i 0).toNat < 256
      omega
    · by_cases hn : n = 0
      · exact .inl hn
      · right
        simp only [if_true] at hz
        obtain ⟨b, o, spot⟩ := y
        have hspot : spot = none := by simpa [Addr.add] using World.cell?_spot (hcell 0 (by omega))
        subst hspot
        refine ⟨b, o, rfl, hl, fun i hi => ?_⟩
        have h1 := hcell i (by omega)
        obtain ⟨m, hm1, hm2⟩ := u8_nat (getD_wf hwz i)
        rw [add_plain] at h1
        show _ = some (Value.int .u8 (((zs.getD i 0).toNat : Nat) : Int))
        rw [h1, hm2, Int.toNat_natCast]

theorem exact_lifted (os : Os) (started : os.Started) (H : Type) (enc : TypeId × Value → H) :
    ReturnsInTold none {} Ybaf.checked os 3 .any Input.okWide ((OpenSpec.ofChange Rows.lawS2266AExactSpec).preRow enc Ybaf.prog Ybaf.f3 Rows.lawS2266AExactRow.domain false Rows.lawS2266AExactRow.laid)
      (fun F => ((OpenSpec.ofChange Rows.lawS2266AExactSpec).at F).post enc Ybaf.prog Ybaf.f3 false true false false) (aloneAtReturn Ybaf.prog) nothingAlways := by
  refine returnsInTold_of_row (C := Ybaf.checked) (s := OpenSpec.ofChange Rows.lawS2266AExactSpec) (by kernel_rfl) Ybaf.own started (by kernel_rfl) Ybaf.func3
    (OpenSpec.witness_stopped_at (enc := enc) (C := Ybaf.checked) false ((World.holding Ybaf.prog os ⟨#[], #[], []⟩).setCell ⟨0, 0, none⟩ (.iface 101 (.agg #[.pointer (some ⟨16, 31, none⟩)]))) #[.bool false, .int .u8 0, .int .u32 0, .slice none 0 0, .int .i64 0] rfl (by kernel_rfl) (by kernel_rfl) (by kernel_rfl) (witness_row_exact os enc)) ?_
  intro F W base args ds gs before _ hF hval0 hW _ _ _ hL _
  have hval : ∀ (j : Nat) t v, Ybaf.f3.params[j]? = some t → args[j]? = some v → Value.okWide Ybaf.prog W .any base t v := hval0
  have hW' := hW
  obtain ⟨p, q, hA0, hV0, rfl, hfz, hnd⟩ := hW
  have hA : DataW.TrodAll enc Ybaf.prog W 0 (fun _ => true) true Ybaf.f3.params.toList args.toList ds p := hA0
  rw [Ybaf.params3] at hA hval
  obtain ⟨v0, vs0, d0, ds0, p0, q0, hargs, rfl, rfl, h0, r0⟩ := trodAll_cons hA
  obtain ⟨v1, vs1, d1, ds1, p1, q1, rfl, rfl, rfl, h1, r1⟩ := trodAll_cons r0
  obtain ⟨v2, vs2, d2, ds2, p2, q2, rfl, rfl, rfl, h2, r2⟩ := trodAll_cons r1
  obtain ⟨v3, vs3, d3, ds3, p3, q3, rfl, rfl, rfl, h3, r3⟩ := trodAll_cons r2
  obtain ⟨v4, vs4, d4, ds4, p4, q4, rfl, rfl, rfl, h4, r4⟩ := trodAll_cons r3
  obtain ⟨rfl, rfl, rfl⟩ := trodAll_nil r4
  obtain rfl : args = #[v0, v1, v2, v3, v4] := by cases args; simp_all
  obtain ⟨rfl, rfl⟩ := trodVars_none hV0
  obtain ⟨x0, rfl, rfl, rfl⟩ := open_bool Ybaf.underlying4 (hval 0 4 v0 rfl rfl) h0
  obtain ⟨x1, rfl, rfl, rfl, w1⟩ := open_int Ybaf.underlying5 (hval 1 5 v1 rfl rfl) h1
  obtain ⟨x2, rfl, rfl, rfl, w2⟩ := open_int Ybaf.underlying22 (hval 2 22 v2 rfl rfl) h2
  obtain ⟨a3, len3, cap3, rfl⟩ := okWide_slice Ybaf.underlying23 (hval 3 23 v3 rfl rfl)
  have k3 := h3
  have lt3 : ∀ x ∈ p3, x.block < W.heap.size := by obtain ⟨m, hm⟩ := k3; exact DataW.trod_lt m _ _ _ hm
  obtain ⟨x4, rfl, rfl, rfl, w4⟩ := open_int Ybaf.underlying3 (hval 4 3 v4 rfl rfl) h4
  clear hA0 hval0
  obtain ⟨fuel, hf⟩ := h3
  obtain ⟨hlen, z, hoct⟩ := octs_of hf
  refine (exact_walk x0 x1 x2 x4 a3 len3 cap3 z hlen W (typ_of_laid hL) hoct).mono fun e W' ⟨he, bel⟩ => ?_
  subst he
  exact ⟨_, rfl, _, _, _, [], _, [], hW', trodAll_mk1 (shut_bool Ybaf.underlying4 _), (trodAll_cons_mk (shut_bool Ybaf.underlying4 _) (trodAll_cons_mk (shut_int Ybaf.underlying5 w1) (trodAll_cons_mk (shut_int Ybaf.underlying22 w2) (trodAll_cons_mk (Below.trod Ybaf.laidOut (by kernel_rfl) (of_decide_eq_true (by kernel_rfl)) k3 bel lt3) (trodAll_cons_mk (shut_int Ybaf.underlying3 w4) trodAll_mk0))))), rfl, bel.frame _, fun h => by cases h⟩

theorem Ybaf.stops : Ybaf.pinned.checked.prog.stops = Rows.lawS2266AExactRow.stops := by kernel_rfl
theorem Ybaf.stopKnobs : Ybaf.pinned.checked.prog.stopKnobs = [] := by kernel_rfl
theorem Ybaf.quiet (os : Os) : Stop.quiet Ybaf.pinned.checked.prog os := by
  intro k hk
  rw [Ybaf.stopKnobs] at hk
  cases hk

/-- THE STATEMENT -/
theorem exact_proved : Rows.LawS2266AExactToldSaid :=
  Claim7.holds_of_told_tied_any_at .later 3 Ybaf.f3 _ _ [] _ _ _ _ _ (by kernel_rfl) rfl rfl rfl Ybaf.laidOut (by kernel_rfl) rfl ⟨rfl, rfl, rfl, rfl, rfl, rfl, rfl⟩ rfl rfl (by kernel_rfl) (by kernel_rfl) Ybaf.func3 (by kernel_rfl)
    (of_decide_eq_true (by kernel_rfl)) (of_decide_eq_true (by kernel_rfl)) Ybaf.stops.symm rfl Ybaf.stopKnobs.symm (by kernel_rfl)
    (by kernel_rfl) (by kernel_rfl) (by kernel_rfl) (by kernel_rfl) (by kernel_rfl) (by kernel_rfl) (by kernel_rfl) (by kernel_rfl) (by kernel_rfl) rfl (by kernel_rfl) rfl rfl
    rfl rfl
    rfl (by kernel_rfl) (by kernel_rfl) (by kernel_rfl) (by decide) (by kernel_rfl) lawS2266AExact_row_tie
    (OpenClaim.moreEntering_of (by kernel_rfl) (by kernel_rfl) (by kernel_rfl) (by kernel_rfl) (by kernel_rfl) (by kernel_rfl) (by kernel_rfl) (by kernel_rfl) (by kernel_rfl) (by kernel_rfl))
    ⟨_, WideRow.started_initial, Ybaf.quiet _⟩
    (fun os started _ H enc _ => exact_lifted os started H enc)
end Go.Proofs.YbulkatxeFmt
