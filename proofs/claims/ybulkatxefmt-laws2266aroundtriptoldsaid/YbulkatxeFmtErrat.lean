/-
  invokeID by its contracts; zzs2266aerrat.
-/
import Derived.Test.YbulkatxeFmtInvoke
import Derived.WideLaws
namespace Go.Proofs.YbulkatxeFmt
open Go.RowKit Go.Extern.Stop Go.Stop Go.Extern
set_option linter.unusedVariables false
set_option linter.unusedSimpArgs false
set_option maxRecDepth 100000

set_option maxHeartbeats 400000 in
theorem inv_one (cls num off : Int) (b o c z0 : Nat) (hz : z0 < 256) (hc : 1 ≤ c) (w : World) (h0 : w.cell? ⟨b, o, none⟩ = some (.int .u8 (z0 : Int))) :
    Calls Ybaf.prog 8 #[.agg #[.int .u8 cls, .bool false, .int .u32 num, .slice (some ⟨b, o, none⟩) 1 c, .slice none 0 0, .int .i64 off, .int .i64 0, .int .u8 0, .int .u8 0]] w fun e w' =>
      e = .returned (.tuple #[.int .i64 (sgn z0), .nilIface]) ∧ Below w.heap.size w w' := by
  have hbl := lt_cell h0
  have hs := sgn_bd z0 hz
  simp only [bd] at hs
  go_enter Ybaf.func8, Ybaf.ntmps8
  go_wp2_with fail
  refine (int_one cls num off b o c z0 hz hc _ (by rw [World.cell?_alloc_lt _ _ ⟨b, o, none⟩ hbl]; exact h0)).mono ?_
  rintro e w1 ⟨rfl, hb⟩
  go_wp2_with fail
  refine (check_in _ (by omega) (by omega) _).mono ?_
  rintro e w2 ⟨rfl, rfl⟩
  go_wp2
  go_ret2
  exact ⟨rfl, ((Below.refl _ _).alloc (Nat.le_refl _) _).trans (hb.mono (by simp))⟩

set_option maxHeartbeats 400000 in
theorem inv_of_err (cls num off : Int) (con : Bool) (content : Value) (ho : content.oneCell' = true) (w : World)
    (hI : ∀ W, Below w.heap.size w W → Calls Ybaf.prog 14 #[.agg #[.int .u8 cls, .bool con, .int .u32 num, content, .slice none 0 0, .int .i64 off, .int .i64 0, .int .u8 0, .int .u8 0]] W fun e w' =>
      ∃ v, e = .returned (.tuple #[.int .i64 0, v]) ∧ IsErr W off v w') :
    Calls Ybaf.prog 8 #[.agg #[.int .u8 cls, .bool con, .int .u32 num, content, .slice none 0 0, .int .i64 off, .int .i64 0, .int .u8 0, .int .u8 0]] w fun e w' =>
      ∃ v, e = .returned (.tuple #[.int .i64 0, v]) ∧ IsErr w off v w' := by
  go_enter Ybaf.func8, Ybaf.ntmps8
  go_wp2_with fail
  refine (hI _ ((Below.refl _ _).alloc (Nat.le_refl _) _)).mono ?_
  rintro e w1 ⟨v, rfl, p, rfl, hp, ⟨s, hs⟩, hb⟩
  go_wp2
  go_ret2
  refine ⟨_, rfl, p, rfl, ?_, ⟨s, hs⟩, ((Below.refl _ _).alloc (Nat.le_refl _) _).trans (hb.mono (by simp))⟩
  simp at hp; omega

theorem gives_err' (f : ByteArray) (hp : FmtStop.printed? f 1 = some [(0, 118, false)]) (b c : Nat) (p : Addr) (t : ByteArray) (w : World)
    (h0 : w.cell? ⟨b, 0, none⟩ = some (.iface 128 (.pointer (some p)))) (hc : w.cell? p = some (.string t)) :
    Gives 20 #[.string f, .slice (some ⟨b, 0, none⟩) 1 c] w (fun v w' => (∃ s, v = .string s) ∧ Below w.heap.size w w') :=
  fun o a next Q h => gives_err f hp b c p t w h0 hc o a next Q (fun v w' ⟨hs, hw⟩ => h v w' ⟨hs, by rw [hw]; exact (Below.refl _ _).drew⟩)

set_option maxHeartbeats 400000 in
theorem inv_of_big (cls num off : Int) (a : Option Addr) (n c : Nat) (w : World)
    (hI : ∀ W, Below w.heap.size w W → Calls Ybaf.prog 14 #[.agg #[.int .u8 cls, .bool false, .int .u32 num, .slice a n c, .slice none 0 0, .int .i64 off, .int .i64 0, .int .u8 0, .int .u8 0]] W fun e w' =>
      ∃ v : Int, e = .returned (.tuple #[.int .i64 v, .nilIface]) ∧ (v < -128 ∨ 127 < v) ∧ Below W.heap.size W w') :
    Calls Ybaf.prog 8 #[.agg #[.int .u8 cls, .bool false, .int .u32 num, .slice a n c, .slice none 0 0, .int .i64 off, .int .i64 0, .int .u8 0, .int .u8 0]] w fun e w' =>
      ∃ v, e = .returned (.tuple #[.int .i64 0, v]) ∧ IsErr w off v w' := by
  go_enter Ybaf.func8, Ybaf.ntmps8
  go_wp2_with fail
  refine (hI _ ((Below.refl _ _).alloc (Nat.le_refl _) _)).mono ?_
  rintro e w1 ⟨v, rfl, hv, hb⟩
  have hcells : ∀ j, w1.cell? ⟨w.heap.size, j, none⟩ = (w.alloc (.cells #[.int .u8 cls, .bool false, .int .u32 num, .slice a n c, .slice none 0 0, .int .i64 off, .int .i64 0, .int .u8 0, .int .u8 0] 29)).cell? ⟨w.heap.size, j, none⟩ := fun j => hb.cell (by simp)
  have hsz : w.heap.size < w1.heap.size := by have := hb.size; simp at this; omega
  have HV : Hid (v < -128 ∨ 127 < v) := hv
  clear hv
  go_wp2_with fail
  refine (check_out v HV.out _).mono ?_
  rintro e w2 ⟨rfl, s0, rfl⟩
  go_wp2_with fail
  refine (errorf_c cls num off false (.slice a n c) rfl _ _ _ (fun W hb2 hs2 => gives_err' _ fV (w1.heap.size + 1 + 1) 1 ⟨w1.heap.size + 1, 0, none⟩ s0 W ?_ ?_)).mono ?_
  · rw [hb2.cell (by simp)]
    show (((w1.alloc _).alloc _).alloc _).cell? _ = _
    rw [World.cell?_alloc_at _ _ _ _ (by simp)]; rfl
  · rw [hb2.cell (by simp)]
    show (((w1.alloc _).alloc _).alloc _).cell? _ = _
    rw [World.cell?_alloc_lt _ _ ⟨w1.heap.size + 1, 0, none⟩ (by simp), World.cell?_alloc_at _ _ _ _ (by simp)]; rfl
  rintro e w3 ⟨p, rfl, hp, ⟨s, hs⟩, hb3⟩
  go_wp2
  go_ret2
  have hb1 : Below w.heap.size w w1 := ((Below.refl _ _).alloc (Nat.le_refl _) _).trans (hb.mono (by simp))
  refine ⟨_, rfl, p, rfl, ?_, ⟨s, hs⟩, ((((hb1.alloc (by omega) _).alloc (by simp; omega) _).alloc (by simp; omega) _).drew).trans (hb3.mono (by simp; omega))⟩
  simp at hp; omega

set_option maxHeartbeats 1600000 in
/-- zzs2266aerrat at an error of Errorf's: true. -/
theorem errat_true (p : Nat) (off : Int) (s : ByteArray) (w : World) (hg : w.cell? ⟨0, 0, none⟩ = some (.iface 101 (.agg #[.pointer (some ⟨16, 31, none⟩)]))) (hp : w.heap[p]? = some (.cells #[.int .i64 off, .string s] 73)) :
    Calls Ybaf.prog 9 #[.iface 69 (.pointer (some ⟨p, 0, none⟩)), .int .i64 off] w fun e w' => e = .returned (.bool true) ∧ Below w.heap.size w w' := by
  have hpl : p < w.heap.size := (Array.getElem?_eq_some_iff.1 hp).1
  have h0l : 0 < w.heap.size := lt_cell hg
  have c0 : w.cell? ⟨p, 0, none⟩ = some (.int .i64 off) := by simp [World.cell?, hp]
  have p1 : p < w.heap.size + 1 := by omega
  have p2 : p < w.heap.size + 1 + 1 := by omega
  have p3 : p < w.heap.size + 1 + 1 + 1 := by omega
  have p4 : p < w.heap.size + 1 + 1 + 1 + 1 := by omega
  have hoo : (off == off) = true := by simp
  go_enter Ybaf.func9, Ybaf.ntmps9
  go_wp2_with fail
  refine (as_hit ⟨p, 0, none⟩ ⟨w.heap.size, 0, none⟩ (.pointer none) _ ?_ (by simp) (by simp)).mono ?_
  · rw [World.cell?_alloc_lt _ _ ⟨0, 0, none⟩ h0l]; exact hg
  rintro e w1 ⟨rfl, rfl⟩
  go_wp2
  go_ret
  exact ⟨rfl, (((((Below.refl _ _).alloc (Nat.le_refl _) _).alloc (by simp) _).alloc (by simp; omega) _).alloc (by simp; omega) _).alloc (by simp; omega) _⟩
end Go.Proofs.YbulkatxeFmt
