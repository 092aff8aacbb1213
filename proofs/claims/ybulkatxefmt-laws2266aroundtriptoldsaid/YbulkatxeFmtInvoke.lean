/-
  (Element).Int at one octet and beyond eight; checkInvokeID; invokeID.
-/
import Derived.Test.YbulkatxeFmtInt
namespace Go.Proofs.YbulkatxeFmt
open Go.RowKit Go.Extern.Stop Go.Stop Go.Extern
set_option linter.unusedVariables false
set_option linter.unusedSimpArgs false
set_option maxRecDepth 100000

set_option maxHeartbeats 800000 in
theorem int_one (cls num off : Int) (b o c z0 : Nat) (hz : z0 < 256) (hc : 1 ≤ c) (w : World) (h0 : w.cell? ⟨b, o, none⟩ = some (.int .u8 (z0 : Int))) :
    Calls Ybaf.prog 14 #[.agg #[.int .u8 cls, .bool false, .int .u32 num, .slice (some ⟨b, o, none⟩) 1 c, .slice none 0 0, .int .i64 off, .int .i64 0, .int .u8 0, .int .u8 0]] w fun e w' =>
      e = .returned (.tuple #[.int .i64 (sgn z0), .nilIface]) ∧ Below w.heap.size w w' := by
  have hbl := lt_cell h0
  have hse := sgn_eq z0 hz
  go_enter Ybaf.func14, Ybaf.ntmps14
  go_wp2
  all_goals
    refine wp_loop_rounds 1 ?_
    rw [rounds_succ]
    go_wp2
    go_ret2
    exact ⟨rfl, (Below.refl _ _).alloc (Nat.le_refl _) _⟩

set_option maxHeartbeats 1600000 in
theorem int_long (cls num off : Int) (b o n c : Nat) (z : Nat → Nat) (hn : 8 < n) (hnm : n ≤ maxLen) (hz : ∀ i, z i < 256) (hmin : z 0 = 0 ∧ 128 ≤ z 1 ∨ z 0 = 255 ∧ z 1 < 128 ∨ z 0 ≠ 0 ∧ z 0 ≠ 255) (w : World) (hcell : ∀ i, i < n → w.cell? ⟨b, o + i, none⟩ = some (.int .u8 (z i : Int))) :
    Calls Ybaf.prog 14 #[.agg #[.int .u8 cls, .bool false, .int .u32 num, .slice (some ⟨b, o, none⟩) n c, .slice none 0 0, .int .i64 off, .int .i64 0, .int .u8 0, .int .u8 0]] w fun e w' =>
      ∃ v, e = .returned (.tuple #[.int .i64 0, v]) ∧ IsErr w off v w' := by
  unfold maxLen at hnm
  have h0 := hcell 0 (by omega)
  have h1 := hcell 1 (by omega)
  have z0 := hz 0
  have z1 := hz 1
  simp only [Nat.add_zero] at h0
  have hbl := lt_cell h0
  have t0 : ((n : Int) == 0) = false := beq_eq_false_iff_ne.2 (by omega)
  have t1 : (1 : Int) < (n : Int) := by omega
  have t2 : (0 : Int) < (n : Int) := by omega
  have t8 : (8 : Int) < (n : Int) := by omega
  rcases hmin with ⟨e0, e1⟩ | ⟨e0, e1⟩ | ⟨e0, e1⟩
  · rw [e0] at h0
    have ha := and128_ge _ e1 z1
    clear e0 hcell
    go_enter Ybaf.func14, Ybaf.ntmps14
    go_wp2_with fail
    refine (errorf_c cls num off false (.slice (some ⟨b, o, none⟩) n c) rfl _ _ _ (fun W hb hs => gives_plain' _ fL W)).mono ?_
    rintro e w1 ⟨p, rfl, hp, ⟨s, hs⟩, hb⟩
    go_wp2
    go_ret2
    refine ⟨_, rfl, p, rfl, ?_, ⟨s, hs⟩, ((Below.refl _ _).alloc (Nat.le_refl _) _).trans (hb.mono (by simp))⟩
    simp at hp; omega
  · rw [e0] at h0
    have ha := and128_lt _ e1
    clear e0 hcell
    go_enter Ybaf.func14, Ybaf.ntmps14
    go_wp2_with fail
    refine (errorf_c cls num off false (.slice (some ⟨b, o, none⟩) n c) rfl _ _ _ (fun W hb hs => gives_plain' _ fL W)).mono ?_
    rintro e w1 ⟨p, rfl, hp, ⟨s, hs⟩, hb⟩
    go_wp2
    go_ret2
    refine ⟨_, rfl, p, rfl, ?_, ⟨s, hs⟩, ((Below.refl _ _).alloc (Nat.le_refl _) _).trans (hb.mono (by simp))⟩
    simp at hp; omega
  · have k0 : ((z 0 : Int) == 0) = false := beq_eq_false_iff_ne.2 (by omega)
    have k1 : ((z 0 : Int) == 255) = false := beq_eq_false_iff_ne.2 (by omega)
    clear hcell
    go_enter Ybaf.func14, Ybaf.ntmps14
    go_wp2_with fail
    refine (errorf_c cls num off false (.slice (some ⟨b, o, none⟩) n c) rfl _ _ _ (fun W hb hs => gives_plain' _ fL W)).mono ?_
    rintro e w1 ⟨p, rfl, hp, ⟨s, hs⟩, hb⟩
    go_wp2
    go_ret2
    refine ⟨_, rfl, p, rfl, ?_, ⟨s, hs⟩, ((Below.refl _ _).alloc (Nat.le_refl _) _).trans (hb.mono (by simp))⟩
    simp at hp; omega

theorem check_in (v : Int) (h1 : -128 ≤ v) (h2 : v ≤ 127) (w : World) : Calls Ybaf.prog 15 #[.int .i64 v] w fun e w' => e = .returned .nilIface ∧ w' = w := by
  have t1 : decide (v < -128) = false := decide_eq_false (by omega)
  have t2 : decide (127 < v) = false := decide_eq_false (by omega)
  go_enter Ybaf.func15, Ybaf.ntmps15
  go_wp2
  go_ret
  exact ⟨rfl, rfl⟩

theorem fI (w : World) : (FmtDoors.printed ⟨#[105, 110, 118, 111, 107, 101, 32, 105, 100, 32, 37, 100, 32, 111, 117, 116, 115, 105, 100, 101, 32, 45, 49, 50, 56, 46, 46, 49, 50, 55]⟩ 1).run Ybaf.prog w = .ok [(0, 100, false)] w := by kernel_rfl

set_option maxHeartbeats 400000 in
/-- fmt.Errorf with one int64 under '%d': an error of errors.New's make. -/
theorem errorf_new (f : ByteArray) (hp : ∀ w, (FmtDoors.printed f 1).run Ybaf.prog w = .ok [(0, 100, false)] w) (b c : Nat) (x : Int) (w : World) (h0 : w.cell? ⟨b, 0, none⟩ = some (.iface 2 (.int .i64 x))) :
    Calls Ybaf.prog 19 #[.string f, .slice (some ⟨b, 0, none⟩) 1 c] w fun e w' => e = .returned (.iface 128 (.pointer (some ⟨w.heap.size, 0, none⟩))) ∧ ∃ s, w' = (w.alloc (.cells #[.string s] 130)).drew := by
  go_enter Ybaf.func19, Ybaf.ntmps19
  go_wp2
  refine gives_errorf f hp b c x _ h0 _ _ _ _ ?_
  rintro v w' ⟨rfl, s, rfl⟩
  go_wp2
  go_ret
  exact ⟨rfl, s, rfl⟩

set_option maxHeartbeats 400000 in
theorem check_out (v : Int) (h : v < -128 ∨ 127 < v) (w : World) : Calls Ybaf.prog 15 #[.int .i64 v] w fun e w' =>
    e = .returned (.iface 128 (.pointer (some ⟨w.heap.size + 1, 0, none⟩))) ∧ ∃ s, w' = ((w.alloc (.cells #[.iface 2 (.int .i64 v)] 20)).alloc (.cells #[.string s] 130)).drew := by
  rcases h with h | h
  · have t1 : decide (v < -128) = true := decide_eq_true h
    go_enter Ybaf.func15, Ybaf.ntmps15
    go_wp2_with fail
    refine (errorf_new _ fI w.heap.size 1 v _ (by simp)).mono ?_
    rintro e w' ⟨rfl, s, rfl⟩
    go_wp2
    go_ret
    exact ⟨by simp, s, rfl⟩
  · have t1 : decide (v < -128) = false := decide_eq_false (by omega)
    have t2 : decide (127 < v) = true := decide_eq_true h
    go_enter Ybaf.func15, Ybaf.ntmps15
    go_wp2_with fail
    refine (errorf_new _ fI w.heap.size 1 v _ (by simp)).mono ?_
    rintro e w' ⟨rfl, s, rfl⟩
    go_wp2
    go_ret
    exact ⟨by simp, s, rfl⟩
end Go.Proofs.YbulkatxeFmt
