/-
  The project's functions on the road to the error, by contracts: (Tag).String, (Element).Errorf, fmt.Errorf, checkInvokeID, zzs2266aerrat.
-/
import Derived.Test.YbulkatxeFmtStops
import Derived.Test.YbulkatxeFmtAs
import Derived.Deep.RegionHeld3
namespace Go.Proofs.YbulkatxeFmt
open Go.RowKit Go.Extern.Stop Go.Stop Go.Extern
set_option linter.unusedVariables false
set_option linter.unusedSimpArgs false

theorem pU : FmtStop.printed? ⟨#[91, 85, 78, 73, 86, 69, 82, 83, 65, 76, 32, 37, 100, 93, 32, 37, 115]⟩ 2 = some [(0, 100, false), (1, 115, false)] := by kernel_rfl
theorem pA : FmtStop.printed? ⟨#[91, 65, 80, 80, 76, 73, 67, 65, 84, 73, 79, 78, 32, 37, 100, 93, 32, 37, 115]⟩ 2 = some [(0, 100, false), (1, 115, false)] := by kernel_rfl
theorem pP : FmtStop.printed? ⟨#[91, 80, 82, 73, 86, 65, 84, 69, 32, 37, 100, 93, 32, 37, 115]⟩ 2 = some [(0, 100, false), (1, 115, false)] := by kernel_rfl
theorem pC : FmtStop.printed? ⟨#[91, 37, 100, 93, 32, 37, 115]⟩ 2 = some [(0, 100, false), (1, 115, false)] := by kernel_rfl

set_option maxRecDepth 100000 in
set_option maxHeartbeats 400000 in
theorem tag_u_true (cls num : Int) (hc : (cls == 0) = true) (w : World) :
    Calls Ybaf.prog 69 #[.agg #[.int .u8 cls, .bool true, .int .u32 num]] w fun e w' => (∃ s, e = .returned (.string s)) ∧ Below w.heap.size w w' := by
  go_enter Ybaf.func69, Ybaf.ntmps69
  go_wp2
  refine gives_two _ pU (w.heap.size + 1) 2 num ⟨#[99, 111, 110, 115, 116, 114, 117, 99, 116, 101, 100]⟩ _ (by simp) (by simp) _ _ _ _ ?_
  rintro v w' ⟨⟨s, rfl⟩, rfl⟩
  go_wp2
  go_ret
  exact ⟨⟨s, rfl⟩, (((Below.refl _ _).alloc (Nat.le_refl _) _).alloc (by simp) _).drew⟩
set_option maxRecDepth 100000 in
set_option maxHeartbeats 400000 in
theorem tag_a_true (cls num : Int) (hc0 : (cls == 0) = false) (hc : (cls == 64) = true) (w : World) :
    Calls Ybaf.prog 69 #[.agg #[.int .u8 cls, .bool true, .int .u32 num]] w fun e w' => (∃ s, e = .returned (.string s)) ∧ Below w.heap.size w w' := by
  go_enter Ybaf.func69, Ybaf.ntmps69
  go_wp2
  refine gives_two _ pA (w.heap.size + 1) 2 num ⟨#[99, 111, 110, 115, 116, 114, 117, 99, 116, 101, 100]⟩ _ (by simp) (by simp) _ _ _ _ ?_
  rintro v w' ⟨⟨s, rfl⟩, rfl⟩
  go_wp2
  go_ret
  exact ⟨⟨s, rfl⟩, (((Below.refl _ _).alloc (Nat.le_refl _) _).alloc (by simp) _).drew⟩
set_option maxRecDepth 100000 in
set_option maxHeartbeats 400000 in
theorem tag_p_true (cls num : Int) (hc0 : (cls == 0) = false) (hc1 : (cls == 64) = false) (hc : (cls == 192) = true) (w : World) :
    Calls Ybaf.prog 69 #[.agg #[.int .u8 cls, .bool true, .int .u32 num]] w fun e w' => (∃ s, e = .returned (.string s)) ∧ Below w.heap.size w w' := by
  go_enter Ybaf.func69, Ybaf.ntmps69
  go_wp2
  refine gives_two _ pP (w.heap.size + 1) 2 num ⟨#[99, 111, 110, 115, 116, 114, 117, 99, 116, 101, 100]⟩ _ (by simp) (by simp) _ _ _ _ ?_
  rintro v w' ⟨⟨s, rfl⟩, rfl⟩
  go_wp2
  go_ret
  exact ⟨⟨s, rfl⟩, (((Below.refl _ _).alloc (Nat.le_refl _) _).alloc (by simp) _).drew⟩
set_option maxRecDepth 100000 in
set_option maxHeartbeats 400000 in
theorem tag_c_true (cls num : Int) (hc0 : (cls == 0) = false) (hc1 : (cls == 64) = false) (hc : (cls == 192) = false) (w : World) :
    Calls Ybaf.prog 69 #[.agg #[.int .u8 cls, .bool true, .int .u32 num]] w fun e w' => (∃ s, e = .returned (.string s)) ∧ Below w.heap.size w w' := by
  go_enter Ybaf.func69, Ybaf.ntmps69
  go_wp2
  refine gives_two _ pC (w.heap.size + 1) 2 num ⟨#[99, 111, 110, 115, 116, 114, 117, 99, 116, 101, 100]⟩ _ (by simp) (by simp) _ _ _ _ ?_
  rintro v w' ⟨⟨s, rfl⟩, rfl⟩
  go_wp2
  go_ret
  exact ⟨⟨s, rfl⟩, (((Below.refl _ _).alloc (Nat.le_refl _) _).alloc (by simp) _).drew⟩
set_option maxRecDepth 100000 in
set_option maxHeartbeats 400000 in
theorem tag_u_false (cls num : Int) (hc : (cls == 0) = true) (w : World) :
    Calls Ybaf.prog 69 #[.agg #[.int .u8 cls, .bool false, .int .u32 num]] w fun e w' => (∃ s, e = .returned (.string s)) ∧ Below w.heap.size w w' := by
  go_enter Ybaf.func69, Ybaf.ntmps69
  go_wp2
  refine gives_two _ pU (w.heap.size + 1) 2 num ⟨#[112, 114, 105, 109, 105, 116, 105, 118, 101]⟩ _ (by simp) (by simp) _ _ _ _ ?_
  rintro v w' ⟨⟨s, rfl⟩, rfl⟩
  go_wp2
  go_ret
  exact ⟨⟨s, rfl⟩, (((Below.refl _ _).alloc (Nat.le_refl _) _).alloc (by simp) _).drew⟩
set_option maxRecDepth 100000 in
set_option maxHeartbeats 400000 in
theorem tag_a_false (cls num : Int) (hc0 : (cls == 0) = false) (hc : (cls == 64) = true) (w : World) :
    Calls Ybaf.prog 69 #[.agg #[.int .u8 cls, .bool false, .int .u32 num]] w fun e w' => (∃ s, e = .returned (.string s)) ∧ Below w.heap.size w w' := by
  go_enter Ybaf.func69, Ybaf.ntmps69
  go_wp2
  refine gives_two _ pA (w.heap.size + 1) 2 num ⟨#[112, 114, 105, 109, 105, 116, 105, 118, 101]⟩ _ (by simp) (by simp) _ _ _ _ ?_
  rintro v w' ⟨⟨s, rfl⟩, rfl⟩
  go_wp2
  go_ret
  exact ⟨⟨s, rfl⟩, (((Below.refl _ _).alloc (Nat.le_refl _) _).alloc (by simp) _).drew⟩
set_option maxRecDepth 100000 in
set_option maxHeartbeats 400000 in
theorem tag_p_false (cls num : Int) (hc0 : (cls == 0) = false) (hc1 : (cls == 64) = false) (hc : (cls == 192) = true) (w : World) :
    Calls Ybaf.prog 69 #[.agg #[.int .u8 cls, .bool false, .int .u32 num]] w fun e w' => (∃ s, e = .returned (.string s)) ∧ Below w.heap.size w w' := by
  go_enter Ybaf.func69, Ybaf.ntmps69
  go_wp2
  refine gives_two _ pP (w.heap.size + 1) 2 num ⟨#[112, 114, 105, 109, 105, 116, 105, 118, 101]⟩ _ (by simp) (by simp) _ _ _ _ ?_
  rintro v w' ⟨⟨s, rfl⟩, rfl⟩
  go_wp2
  go_ret
  exact ⟨⟨s, rfl⟩, (((Below.refl _ _).alloc (Nat.le_refl _) _).alloc (by simp) _).drew⟩
set_option maxRecDepth 100000 in
set_option maxHeartbeats 400000 in
theorem tag_c_false (cls num : Int) (hc0 : (cls == 0) = false) (hc1 : (cls == 64) = false) (hc : (cls == 192) = false) (w : World) :
    Calls Ybaf.prog 69 #[.agg #[.int .u8 cls, .bool false, .int .u32 num]] w fun e w' => (∃ s, e = .returned (.string s)) ∧ Below w.heap.size w w' := by
  go_enter Ybaf.func69, Ybaf.ntmps69
  go_wp2
  refine gives_two _ pC (w.heap.size + 1) 2 num ⟨#[112, 114, 105, 109, 105, 116, 105, 118, 101]⟩ _ (by simp) (by simp) _ _ _ _ ?_
  rintro v w' ⟨⟨s, rfl⟩, rfl⟩
  go_wp2
  go_ret
  exact ⟨⟨s, rfl⟩, (((Below.refl _ _).alloc (Nat.le_refl _) _).alloc (by simp) _).drew⟩

set_option maxRecDepth 100000 in
/-- (Tag).String: some string; nothing that was there has turned. -/
theorem tag_string (cls num : Int) (con : Bool) (w : World) :
    Calls Ybaf.prog 69 #[.agg #[.int .u8 cls, .bool con, .int .u32 num]] w fun e w' => (∃ s, e = .returned (.string s)) ∧ Below w.heap.size w w' := by
  cases h0 : (cls == 0) with
  | true =>
    cases con with
    | true => exact tag_u_true cls num h0 w
    | false => exact tag_u_false cls num h0 w
  | false =>
    cases h1 : (cls == 64) with
    | true =>
      cases con with
      | true => exact tag_a_true cls num h0 h1 w
      | false => exact tag_a_false cls num h0 h1 w
    | false =>
      cases h2 : (cls == 192) with
      | true =>
        cases con with
        | true => exact tag_p_true cls num h0 h1 h2 w
        | false => exact tag_p_false cls num h0 h1 h2 w
      | false =>
        cases con with
        | true => exact tag_c_true cls num h0 h1 h2 w
        | false => exact tag_c_false cls num h0 h1 h2 w

theorem Ybaf.act26 (name : String) (x : Value) (w : World) : (FmtCalls.act name false 115 false (.iface 26 x)).run Ybaf.prog w = .ok (.call false) w := by kernel_rfl
theorem Ybaf.invoke26 (x : Value) (w : World) : (invoke (.fn (.method "String") #[]) #[.iface 26 x]).run Ybaf.prog w = .ok (.enter 69 #[x]) w := by kernel_rfl
theorem Ybaf.under26 (w : World) : ∃ fs, (underlying 26).run Ybaf.prog w = .ok (.struct fs) w := ⟨_, by simp [underlying, Ybaf.underlying26, Result.andThen]; rfl⟩
theorem Ybaf.str26 (w : World) : (typeStr 26).run Ybaf.prog w = .ok Ybaf.t26.str w := by kernel_rfl

/-- '%s' of a Tag: its String is called. -/
theorem gives_tag (f : ByteArray) (hp : FmtStop.printed? f 1 = some [(0, 115, false)]) (b c : Nat) (cls num : Int) (con : Bool) (w : World)
    (h0 : w.cell? ⟨b, 0, none⟩ = some (.iface 26 (.agg #[.int .u8 cls, .bool con, .int .u32 num]))) :
    Gives 20 #[.string f, .slice (some ⟨b, 0, none⟩) 1 c] w (fun v w' => (∃ s, v = .string s) ∧ Below w.heap.size w w') := by
  intro o a next Q h
  rw [Ybaf.call20]
  have e1 : (FmtCalls.sprintf #[9, 78] #[9] #[.string f, .slice (some ⟨b, 0, none⟩) 1 c]).run Ybaf.prog w = .ok (.row FmtCalls.turnsRow (FmtCalls.save 0 0 (.slice (some ⟨b, 0, none⟩) 1 c) f [] [(0, 115, false)])) w := by
    simp [FmtCalls.sprintf_lit, Ybaf.guard, FmtDoors.count, hp, Result.andThen]
  rw [e1, Oper.upon_row]
  obtain ⟨fs, hu⟩ := Ybaf.under26 w
  have e2 : ∃ ty, (FmtCalls.turns 0 0 (.slice (some ⟨b, 0, none⟩) 1 c) f [] [(0, 115, false)]).run Ybaf.prog w =
      .ok (.callThen { target := .fn (.method "String") #[], args := #[.iface 26 (.agg #[.int .u8 cls, .bool con, .int .u32 num])] } FmtCalls.returnedRow (FmtCalls.save 0 0 (.slice (some ⟨b, 0, none⟩) 1 c) f [ty] []) false) w :=
    ⟨_, by
      rw [FmtCalls.turns]
      have e3 : (FmtDoors.operand (.slice (some ⟨b, 0, none⟩) 1 c) 0).run Ybaf.prog w = .ok (.iface 26 (.agg #[.int .u8 cls, .bool con, .int .u32 num])) w := by simp [FmtDoors.operand, run_load, h0, Addr.add]
      simp only [Sem.run_bind, e3, Result.andThen]
      have e4 : (FmtCalls.act (FmtCalls.frontName 0) (0 == 3) 115 false (.iface 26 (.agg #[.int .u8 cls, .bool con, .int .u32 num]))).run Ybaf.prog w = .ok (.call false) w := Ybaf.act26 _ _ _
      simp only [e4, Sem.run_bind, hu, Ybaf.str26, Result.andThen]
      rfl⟩
  obtain ⟨ty, e2⟩ := e2
  refine rows_call Ybaf.nextTurns ((FmtCalls.run_begun_save ..).trans e2) (Ybaf.invoke26 _ _) ((tag_string cls num con w).mono ?_)
  rintro e w3 ⟨⟨s, rfl⟩, hb⟩
  obtain ⟨y, hx⟩ := fin0 0 (.slice (some ⟨b, 0, none⟩) 1 c) f ([ty] ++ [s.data.toList]) w3
  exact rows_value Ybaf.nextReturned ((FmtCalls.run_returned_save ..).trans hx) (h _ _ ⟨str_string _, hb.drew⟩)
end Go.Proofs.YbulkatxeFmt
