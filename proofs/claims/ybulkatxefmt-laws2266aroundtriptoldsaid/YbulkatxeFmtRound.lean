/-
  LawS2266ARoundTrip: the walk.
-/
import Derived.Test.YbulkatxeFmtEnc
import Derived.OpenShut
import Derived.ProofKit
namespace Go.Proofs.YbulkatxeFmt
open Go.RowKit Go.Extern.Stop Go.Stop Go.Extern
set_option linter.unusedVariables false
set_option linter.unusedSimpArgs false
set_option maxRecDepth 100000

theorem u64_of (x : Int) (h1 : -9223372036854775808 ≤ x) (h2 : x ≤ 9223372036854775807) : ∃ u : Nat, u < 18446744073709551616 ∧ IntKind.u64.wrap x = (u : Int) ∧ (x = u ∨ x + 18446744073709551616 = u) := by
  refine ⟨(x % 18446744073709551616).toNat, by omega, ?_, by omega⟩
  have : IntKind.u64.wrap x = x % 18446744073709551616 := by simp [IntKind.wrap, IntKind.bits, IntKind.signed]
  rw [this]; omega

theorem sgn_oct {x : Int} {u : Nat} (hu : u < 18446744073709551616) (hxu : x = u ∨ x + 18446744073709551616 = u) (h1 : -9223372036854775808 ≤ x) (h2 : x ≤ 9223372036854775807) (h : ∀ j, j < 7 → Skip u j) : sgn (oct u 7) = x ∧ -128 ≤ x ∧ x ≤ 127 := by
  have := skip_all h hu
  have l := oct_lt u 7
  unfold sgn
  rcases this with ⟨a, b⟩ | ⟨a, b⟩
  · rw [b, if_pos a]; omega
  · rw [if_neg (by omega)]; omega

set_option maxHeartbeats 800000 in
theorem round_in (x off : Int) (h1 : -128 ≤ x) (h2 : x ≤ 127) (w : World) :
    Calls Ybaf.prog 4 #[.int .i64 x, .int .i64 off] w fun e w' => e = .returned (.bool true) ∧ Below w.heap.size w w' := by
  obtain ⟨u, hu, hx, hxu⟩ := u64_of x (by omega) (by omega)
  have hE := encode x u hx w
  clear hx
  have hxx : (x == x) = true := by simp
  go_enter Ybaf.func4, Ybaf.ntmps4
  go_wp2_with fail
  refine hE.mono ?_
  rintro e w1 ⟨k, hk, rfl, hb, hlt, hcell, hsk, hst⟩
  have hall : ∀ j, j < 7 → Skip u j := skip_small (by omega) hu
  obtain rfl : k = 7 := by
    by_cases h : k < 7
    · exact absurd (hall k h) (hst h)
    · omega
  have hs := (sgn_oct hu hxu (by omega) (by omega) hall).1
  have h7 := hcell 7 (by omega)
  clear hcell hsk hst hxu hE
  go_wp2_with fail
  refine (inv_one 0 2 off w.heap.size 7 1 (oct u 7) (oct_lt u 7) (by omega) _ (by rw [World.cell?_alloc_lt _ _ ⟨w.heap.size, 7, none⟩ hlt]; exact h7)).mono ?_
  rintro e w2 ⟨rfl, hb2⟩
  rw [hs]
  go_wp2
  go_ret
  exact ⟨rfl, (hb.alloc hb.size _).trans (hb2.mono (by simp; exact Nat.le_succ_of_le hb.size))⟩

set_option maxHeartbeats 800000 in
theorem round_out (x off : Int) (h1 : -9223372036854775808 ≤ x) (h2 : x ≤ 9223372036854775807) (h : x < -128 ∨ 127 < x) (w : World) (hg : Typ w) :
    Calls Ybaf.prog 4 #[.int .i64 x, .int .i64 off] w fun e w' => e = .returned (.bool true) ∧ Below w.heap.size w w' := by
  obtain ⟨u, hu, hx, hxu⟩ := u64_of x (by omega) (by omega)
  have hE := encode x u hx w
  clear hx
  by_cases hlo : -128 ≤ x
  · have hhi : ¬ x ≤ 127 := by omega
    go_enter Ybaf.func4, Ybaf.ntmps4
    go_wp2_with fail
    refine hE.mono ?_
    rintro e w1 ⟨k, hk, rfl, hb, hlt, hcell, hsk, hst⟩
    have hk7 : k < 7 := by
      by_cases h7 : k < 7
      · exact h7
      · have := (sgn_oct hu hxu h1 h2 (fun j hj => hsk j (by omega))).2
        omega
    have ho : IsOcts w1 (some ⟨w.heap.size, k, none⟩) (8 - k) (8 - k) (fun i => oct u (k + i)) := ⟨fun i => oct_lt _ _, .inr ⟨_, _, rfl, Nat.le_refl _, fun i hi => hcell (k + i) (by omega)⟩⟩
    clear hcell hsk hst hxu hE
    go_wp2_with fail
    refine (inv_bad false 0 2 off _ (8 - k) (8 - k) _ (by unfold maxLen; omega) _ (ho.later ((Below.refl _ _).alloc (Nat.le_refl _) _)) (.inr (by omega))).mono ?_
    rintro e w2 ⟨v, rfl, p, rfl, hp, ⟨s, hs⟩, hb2⟩
    have hb3 : Below w.heap.size w w2 := (hb.alloc hb.size _).trans (hb2.mono (by simp; exact Nat.le_succ_of_le hb.size))
    go_wp2_with fail
    refine (errat_true p off s _ (hg.later hb3) hs).mono ?_
    rintro e w3 ⟨rfl, hb4⟩
    go_wp2
    go_ret
    exact ⟨rfl, hb3.trans (hb4.mono hb3.size)⟩
  · go_enter Ybaf.func4, Ybaf.ntmps4
    go_wp2_with fail
    refine hE.mono ?_
    rintro e w1 ⟨k, hk, rfl, hb, hlt, hcell, hsk, hst⟩
    have hk7 : k < 7 := by
      by_cases h7 : k < 7
      · exact h7
      · have := (sgn_oct hu hxu h1 h2 (fun j hj => hsk j (by omega))).2
        omega
    have ho : IsOcts w1 (some ⟨w.heap.size, k, none⟩) (8 - k) (8 - k) (fun i => oct u (k + i)) := ⟨fun i => oct_lt _ _, .inr ⟨_, _, rfl, Nat.le_refl _, fun i hi => hcell (k + i) (by omega)⟩⟩
    clear hcell hsk hst hxu hE
    go_wp2_with fail
    refine (inv_bad false 0 2 off _ (8 - k) (8 - k) _ (by unfold maxLen; omega) _ (ho.later ((Below.refl _ _).alloc (Nat.le_refl _) _)) (.inr (by omega))).mono ?_
    rintro e w2 ⟨v, rfl, p, rfl, hp, ⟨s, hs⟩, hb2⟩
    have hb3 : Below w.heap.size w w2 := (hb.alloc hb.size _).trans (hb2.mono (by simp; exact Nat.le_succ_of_le hb.size))
    go_wp2_with fail
    refine (errat_true p off s _ (hg.later hb3) hs).mono ?_
    rintro e w3 ⟨rfl, hb4⟩
    go_wp2
    go_ret
    exact ⟨rfl, hb3.trans (hb4.mono hb3.size)⟩

/-- LawS2266ARoundTrip returns true. -/
theorem round_walk (x off : Int) (hw : (Lit.int .i64 x).wf = true) (w : World) (hg : Typ w) :
    Calls Ybaf.prog 4 #[.int .i64 x, .int .i64 off] w fun e w' => e = .returned (.bool true) ∧ Below w.heap.size w w' := by
  have hb := Go.bounds_i64 hw
  by_cases h : -128 ≤ x ∧ x ≤ 127
  · exact round_in x off h.1 h.2 w
  · exact round_out x off (by omega) (by omega) (by omega) w hg
end Go.Proofs.YbulkatxeFmt
