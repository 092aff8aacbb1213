/-
  (Element).Errorf by its contract, and the ways of (Element).Int that end in an error.
-/
import Derived.Test.YbulkatxeFmtErrs
import Derived.Deep.DrawnRows
import Derived.Deep.Heap
namespace Go.Proofs.YbulkatxeFmt
open Go.RowKit Go.Extern.Stop Go.Stop Go.Extern
set_option linter.unusedVariables false
set_option linter.unusedSimpArgs false
set_option maxRecDepth 100000
attribute [local go_sem ↓] Go.wp_at_zero Go.wp_at_succ

/-- A stop met inside a region that draws its order. -/
theorem step_gives {f : FuncId} {ops : Array Oper} {o : Oper} {a : Act} {w : World} {K : Act → World → Prop} {Q : Exit → Act → World → Prop} {E : Prop} {Post : Value → World → Prop}
    (hg : o.guard = none) (x y : Operand) (ts : Array TypeId) (hop : o.op = Op.call { callee := Callee.value (Operand.func f), args := #[x, y], argTypes := ts })
    (vx vy : Value) (hx : a.eval x = vx) (hy : a.eval y = vy) (hG : Gives f #[vx, vy] w Post) (hK : ∀ v w', Post v w' → K (a.put o.dst v) w') :
    if Region.wanted o (yielded ops a.tmps) = true then Oper.wp Ybaf.prog o a w K Q else E := by
  have hw : Region.wanted o (yielded ops a.tmps) = true := by simp [Region.wanted, hg]
  rw [if_pos hw]
  have := hG o a K Q hK
  unfold Oper.wp
  have he : a.eval (Operand.func f) = .func (.func f) #[] #[] := rfl
  simp [execOp, hop, resolve, invoke, hx, hy, he, Deferred.ofValue, Result.andThen]
  exact this

/-- An element's cells. -/
def elemC (cls num off : Int) (con : Bool) (content : Value) : Array Value :=
  #[.int .u8 cls, .bool con, .int .u32 num, content, .slice none 0 0, .int .i64 off, .int .i64 0, .int .u8 0, .int .u8 0]

set_option maxHeartbeats 400000 in
theorem errorf_c (cls num off : Int) (con : Bool) (content : Value) (hc : content.oneCell' = true) (f : ByteArray) (sl : Value) (w : World)
    (hG : ∀ W, Below w.heap.size w W → w.heap.size ≤ W.heap.size → Gives 20 #[.string f, sl] W (fun v w' => (∃ s, v = .string s) ∧ Below W.heap.size W w')) :
    Calls Ybaf.prog 16 #[.agg #[.int .u8 cls, .bool con, .int .u32 num, content, .slice none 0 0, .int .i64 off, .int .i64 0, .int .u8 0, .int .u8 0], .string f, sl] w fun e w' =>
      ∃ p, e = .returned (.iface 69 (.pointer (some ⟨p, 0, none⟩))) ∧ w.heap.size ≤ p ∧ (∃ s, w'.heap[p]? = some (.cells #[.int .i64 off, .string s] 73)) ∧ Below w.heap.size w w' := by
  go_enter Ybaf.func16, Ybaf.ntmps16
  go_wp2
  go_region_held3 (fun w' => w'.cell? ⟨w.heap.size, 5, none⟩ = some (.int .i64 off)) (first | go_keep | (rw [hb.cell (by simp)]; simp))
    ((refine step_gives (by rfl) _ _ _ (by rfl) _ _ (by rfl) (by rfl) (hG _ ?_ ?_) ?_; exact ((Below.refl _ _).alloc (Nat.le_refl _) _).drew; (simp); rintro v w1 ⟨⟨s, rfl⟩, hb⟩))
  go_wp2
  go_ret
  have hsz : w.heap.size ≤ w1.heap.size := by have := hb.size; simp at this; omega
  have hb1 : Below w.heap.size w w1 := (((Below.refl _ _).alloc (Nat.le_refl _) _).drew).trans (hb.mono (by simp))
  exact ⟨_, rfl, hsz, ⟨s, Go.Deep.blk_alloc_new _ _⟩, hb1.alloc hsz _⟩

theorem fT : FmtStop.printed? ⟨#[37, 115, 32, 109, 117, 115, 116, 32, 98, 101, 32, 112, 114, 105, 109, 105, 116, 105, 118, 101]⟩ 1 = some [(0, 115, false)] := by kernel_rfl
theorem fV : FmtStop.printed? ⟨#[37, 118]⟩ 1 = some [(0, 118, false)] := by kernel_rfl

/-- What an error of Errorf's is, to whoever reads it: a *ber.Error in new memory, at offset 'off'. -/
def IsErr (w : World) (off : Int) (v : Value) (w' : World) : Prop :=
  ∃ p, v = .iface 69 (.pointer (some ⟨p, 0, none⟩)) ∧ w.heap.size ≤ p ∧ (∃ s, w'.heap[p]? = some (.cells #[.int .i64 off, .string s] 73)) ∧ Below w.heap.size w w'

set_option maxHeartbeats 400000 in
theorem int_con (cls num off : Int) (a : Option Addr) (n c : Nat) (w : World) :
    Calls Ybaf.prog 14 #[.agg #[.int .u8 cls, .bool true, .int .u32 num, .slice a n c, .slice none 0 0, .int .i64 off, .int .i64 0, .int .u8 0, .int .u8 0]] w fun e w' =>
      ∃ v, e = .returned (.tuple #[.int .i64 0, v]) ∧ IsErr w off v w' := by
  go_enter Ybaf.func14, Ybaf.ntmps14
  go_wp2_with fail
  refine (errorf_c cls num off true (.slice a n c) rfl _ _ _ (fun W hb hs => gives_tag _ fT (w.heap.size + 1) 1 cls num true W ?_)).mono ?_
  · rw [hb.cell (by simp)]; simp
  rintro e w1 ⟨p, rfl, hp, ⟨s, hs⟩, hb⟩
  go_wp2
  go_ret2
  refine ⟨_, rfl, p, rfl, ?_, ⟨s, hs⟩, (((Below.refl _ _).alloc (Nat.le_refl _) _).alloc (by simp) _).trans (hb.mono (by simp; omega))⟩
  simp at hp; omega

theorem fE : FmtStop.printed? ⟨#[105, 110, 116, 101, 103, 101, 114, 32, 119, 105, 116, 104, 32, 110, 111, 32, 99, 111, 110, 116, 101, 110, 116, 115, 32, 111, 99, 116, 101, 116, 115]⟩ 0 = some [] := by kernel_rfl
theorem fM : FmtStop.printed? ⟨#[105, 110, 116, 101, 103, 101, 114, 32, 110, 111, 116, 32, 105, 110, 32, 105, 116, 115, 32, 102, 101, 119, 101, 115, 116, 32, 111, 99, 116, 101, 116, 115]⟩ 0 = some [] := by kernel_rfl
theorem fL : FmtStop.printed? ⟨#[105, 110, 116, 101, 103, 101, 114, 32, 100, 111, 101, 115, 32, 110, 111, 116, 32, 102, 105, 116, 32, 105, 110, 32, 54, 52, 32, 98, 105, 116, 115]⟩ 0 = some [] := by kernel_rfl

theorem gives_plain' (f : ByteArray) (hp : FmtStop.printed? f 0 = some []) (w : World) :
    Gives 20 #[.string f, .slice none 0 0] w (fun v w' => (∃ s, v = .string s) ∧ Below w.heap.size w w') :=
  fun o a next Q h => gives_plain f hp w o a next Q (fun v w' ⟨hs, hw⟩ => h v w' ⟨hs, by rw [hw]; exact (Below.refl _ _).drew⟩)

set_option maxHeartbeats 400000 in
theorem int_empty (cls num off : Int) (a : Option Addr) (c : Nat) (w : World) :
    Calls Ybaf.prog 14 #[.agg #[.int .u8 cls, .bool false, .int .u32 num, .slice a 0 c, .slice none 0 0, .int .i64 off, .int .i64 0, .int .u8 0, .int .u8 0]] w fun e w' =>
      ∃ v, e = .returned (.tuple #[.int .i64 0, v]) ∧ IsErr w off v w' := by
  go_enter Ybaf.func14, Ybaf.ntmps14
  go_wp2_with fail
  refine (errorf_c cls num off false (.slice a 0 c) rfl _ _ _ (fun W hb hs => gives_plain' _ fE W)).mono ?_
  rintro e w1 ⟨p, rfl, hp, ⟨s, hs⟩, hb⟩
  go_wp2
  go_ret2
  refine ⟨_, rfl, p, rfl, ?_, ⟨s, hs⟩, ((Below.refl _ _).alloc (Nat.le_refl _) _).trans (hb.mono (by simp))⟩
  simp at hp; omega

theorem nat_and128 : ∀ z : Fin 256, z.val &&& 128 = if z.val < 128 then 0 else 128 := by decide +kernel
theorem and128_lt (z : Nat) (h : z < 128) : bits .and .u8 (z : Int) 128 = 0 := by
  have h1 := u8_and_nat z 128 (by omega) (by omega)
  have h2 := nat_and128 ⟨z, by omega⟩
  simp only [h, if_true] at h2
  rw [h2] at h1
  simpa using h1
theorem and128_ge (z : Nat) (h : 128 ≤ z) (h' : z < 256) : bits .and .u8 (z : Int) 128 = 128 := by
  have h1 := u8_and_nat z 128 (by omega) (by omega)
  have h2 := nat_and128 ⟨z, by omega⟩
  have h3 : ¬ z < 128 := by omega
  simp only [h3, if_false] at h2
  rw [h2] at h1
  simpa using h1

set_option maxHeartbeats 800000 in
theorem int_non0 (cls num off : Int) (b o n c : Nat) (z1 : Nat) (hn : 1 < n) (hnm : n ≤ maxLen) (hz1 : z1 < 128) (w : World) (h0 : w.cell? ⟨b, o, none⟩ = some (.int .u8 0)) (h1 : w.cell? ⟨b, o + 1, none⟩ = some (.int .u8 (z1 : Int))) :
    Calls Ybaf.prog 14 #[.agg #[.int .u8 cls, .bool false, .int .u32 num, .slice (some ⟨b, o, none⟩) n c, .slice none 0 0, .int .i64 off, .int .i64 0, .int .u8 0, .int .u8 0]] w fun e w' =>
      ∃ v, e = .returned (.tuple #[.int .i64 0, v]) ∧ IsErr w off v w' := by
  have hz := and128_lt z1 hz1
  unfold maxLen at hnm
  have hbl : b < w.heap.size := by
    unfold World.cell? at h0
    split at h0
    · rename_i hb; exact (Array.getElem?_eq_some_iff.1 hb).1
    · cases h0
  have t0 : ((n : Int) == 0) = false := beq_eq_false_iff_ne.2 (by omega)
  have t1 : (1 : Int) < (n : Int) := by omega
  have t2 : (0 : Int) < (n : Int) := by omega
  go_enter Ybaf.func14, Ybaf.ntmps14
  go_wp2_with fail
  refine (errorf_c cls num off false (.slice (some ⟨b, o, none⟩) n c) rfl _ _ _ (fun W hb hs => gives_plain' _ fM W)).mono ?_
  rintro e w1 ⟨p, rfl, hp, ⟨s, hs⟩, hb⟩
  go_wp2
  go_ret2
  refine ⟨_, rfl, p, rfl, ?_, ⟨s, hs⟩, ((Below.refl _ _).alloc (Nat.le_refl _) _).trans (hb.mono (by simp))⟩
  simp at hp; omega

theorem lt_cell {w : World} {b o : Nat} {v : Value} (h0 : w.cell? ⟨b, o, none⟩ = some v) : b < w.heap.size := by
  unfold World.cell? at h0
  split at h0
  · rename_i hb; exact (Array.getElem?_eq_some_iff.1 hb).1
  · cases h0

set_option maxHeartbeats 800000 in
theorem int_non255 (cls num off : Int) (b o n c : Nat) (z1 : Nat) (hn : 1 < n) (hnm : n ≤ maxLen) (hz1 : 128 ≤ z1) (hz2 : z1 < 256) (w : World) (h0 : w.cell? ⟨b, o, none⟩ = some (.int .u8 255)) (h1 : w.cell? ⟨b, o + 1, none⟩ = some (.int .u8 (z1 : Int))) :
    Calls Ybaf.prog 14 #[.agg #[.int .u8 cls, .bool false, .int .u32 num, .slice (some ⟨b, o, none⟩) n c, .slice none 0 0, .int .i64 off, .int .i64 0, .int .u8 0, .int .u8 0]] w fun e w' =>
      ∃ v, e = .returned (.tuple #[.int .i64 0, v]) ∧ IsErr w off v w' := by
  have hz := and128_ge z1 hz1 hz2
  unfold maxLen at hnm
  have hbl := lt_cell h0
  have t0 : ((n : Int) == 0) = false := beq_eq_false_iff_ne.2 (by omega)
  have t1 : (1 : Int) < (n : Int) := by omega
  have t2 : (0 : Int) < (n : Int) := by omega
  go_enter Ybaf.func14, Ybaf.ntmps14
  go_wp2_with fail
  refine (errorf_c cls num off false (.slice (some ⟨b, o, none⟩) n c) rfl _ _ _ (fun W hb hs => gives_plain' _ fM W)).mono ?_
  rintro e w1 ⟨p, rfl, hp, ⟨s, hs⟩, hb⟩
  go_wp2
  go_ret2
  refine ⟨_, rfl, p, rfl, ?_, ⟨s, hs⟩, ((Below.refl _ _).alloc (Nat.le_refl _) _).trans (hb.mono (by simp))⟩
  simp at hp; omega

end Go.Proofs.YbulkatxeFmt
