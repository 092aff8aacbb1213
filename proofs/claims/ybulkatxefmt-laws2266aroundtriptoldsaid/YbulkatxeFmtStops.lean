/-
  fmt's stopped fronts at this program: what the law needs of them is only that they hand back a string (or an error of errors.New's make) and write nothing that was there: of the text itself nothing is said.
-/
import Derived.Test.YbulkatxeFmtProg
import Derived.WalkKit
import Derived.WalkSpells
import Derived.WalkLawsBesides
import Derived.Stop.CallBack
import Derived.Stop.IfaceNil
import GoSem.ClaimData
namespace Go.Proofs.YbulkatxeFmt
open Go.RowKit Go.Extern.Stop Go.Stop Go.Extern
set_option linter.unusedVariables false
set_option linter.unusedSimpArgs false

theorem Ybaf.call20 (args : Array Value) (w : World) : (callFunc 20 args).run Ybaf.prog w = (FmtCalls.sprintf #[9, 78] #[9] args).run Ybaf.prog w :=
  run_callFunc_next Ybaf.func20 (by kernel_rfl) (by kernel_rfl) (by kernel_rfl) args w
theorem Ybaf.call32 (args : Array Value) (w : World) : (callFunc 32 args).run Ybaf.prog w = (FmtCalls.errorf #[9, 78] #[31] args).run Ybaf.prog w :=
  run_callFunc_next Ybaf.func32 (by kernel_rfl) (by kernel_rfl) (by kernel_rfl) args w
theorem Ybaf.guard (name : String) (w : World) : (FmtStop.guard name).run Ybaf.prog w = .ok () w := by kernel_rfl
theorem Ybaf.nextTurns : Extern.next FmtCalls.turnsRow = some (FmtCalls.begun #[] #[]) := by kernel_rfl
theorem Ybaf.nextReturned : Extern.next FmtCalls.returnedRow = some (FmtCalls.returned #[] #[]) := by kernel_rfl

/-- The stop f, called so in w, gives a value and a world of which 'Post' holds. -/
def Gives (f : FuncId) (args : Array Value) (w : World) (Post : Value → World → Prop) : Prop :=
  ∀ (o : Oper) (a : Act) (next : Act → World → Prop) (Q : Exit → Act → World → Prop), (∀ v w', Post v w' → next (a.put o.dst v) w') → o.upon Ybaf.prog a next Q ((callFunc f args).run Ybaf.prog w)

theorem fin0 (front : Nat) (a : Value) (f : ByteArray) (acc : List (List UInt8)) (w : World) : ∃ x, (FmtCalls.turns front 0 a f acc []).run Ybaf.prog w = .ok (.value (FmtStop.str x)) w.drew :=
  ⟨_, by simp [FmtCalls.turns, FmtCalls.finish, run_choose_drew, Question.forced, Result.andThen]; rfl⟩

theorem Ybaf.ptr128 (w : World) : (FmtStop.ptrTo "errors.errorString").run Ybaf.prog w = .ok 128 w := by kernel_rfl
theorem Ybaf.elem128 (w : World) : (elemOf 128).run Ybaf.prog w = .ok 130 w := by kernel_rfl
theorem Ybaf.new130 (s : ByteArray) (w : World) : (newVar 130 (.agg #[.string s])).run Ybaf.prog w = .ok ⟨w.heap.size, 0, none⟩ (w.alloc (.cells #[.string s] 130)) := by kernel_rfl

theorem str_string (x : Nat) : ∃ s, FmtStop.str x = .string s := ⟨_, rfl⟩

theorem fin1 (a : Value) (f : ByteArray) (acc : List (List UInt8)) (w : World) : ∃ s, (FmtCalls.turns 3 1 a f acc []).run Ybaf.prog w = .ok (.value (.iface 128 (.pointer (some ⟨w.heap.size, 0, none⟩)))) ((w.alloc (.cells #[.string s] 130)).drew) := by
  obtain ⟨s, hs⟩ := str_string (w.tape w.drawn (.extern (word (FmtCalls.frontName 3) ([f.data.toList] ++ acc) 0) 0))
  refine ⟨s, ?_⟩
  have hn := Ybaf.new130 s w.drew
  simp [FmtCalls.turns, FmtCalls.finish, run_choose_drew, Question.forced, Question.cut, Result.andThen, Ybaf.ptr128, Ybaf.elem128]
  simp at hs
  rw [hs]
  rw [hn]
  simp [Result.andThen]
  rfl

/-- A format without operands. -/
theorem gives_plain (f : ByteArray) (hp : FmtStop.printed? f 0 = some []) (w : World) :
    Gives 20 #[.string f, .slice none 0 0] w (fun v w' => (∃ s, v = .string s) ∧ w' = w.drew) := by
  intro o a next Q h
  rw [Ybaf.call20]
  have e1 : (FmtCalls.sprintf #[9, 78] #[9] #[.string f, .slice none 0 0]).run Ybaf.prog w = .ok (.row FmtCalls.turnsRow (FmtCalls.save 0 0 (.slice none 0 0) f [] [])) w := by
    simp [FmtCalls.sprintf_lit, Ybaf.guard, FmtDoors.count, hp, Result.andThen]
  rw [e1, Oper.upon_row]
  obtain ⟨x, hx⟩ := fin0 0 (.slice none 0 0) f [] w
  exact rows_value Ybaf.nextTurns ((FmtCalls.run_begun_save ..).trans hx) (h _ _ ⟨str_string _, rfl⟩)

theorem Ybaf.act128 (name : String) (x : Value) (w : World) : (FmtCalls.act name false 118 false (.iface 128 x)).run Ybaf.prog w = .ok (.closed false) w := by kernel_rfl
theorem Ybaf.op128 (name : String) (p : Addr) (t : ByteArray) (w : World) (hc : w.cell? p = some (.string t)) :
    ∃ r, (FmtStop.operand name false 118 false (.iface 128 (.pointer (some p)))).run Ybaf.prog w = .ok r w := by
  have h1 : (typeStr 128).run Ybaf.prog w = .ok Ybaf.t128.str w := by kernel_rfl
  have d2 : Ybaf.t128.desc = .pointer 130 := rfl
  have d3 : Ybaf.t130.desc = .named "errors.errorString" 129 := rfl
  exact ⟨_, by simp [FmtStop.operand, h1, d2, d3, run_load, hc]; rfl⟩

/-- '%v' of an error of errors.New's make. -/
theorem gives_err (f : ByteArray) (hp : FmtStop.printed? f 1 = some [(0, 118, false)]) (b c : Nat) (p : Addr) (t : ByteArray) (w : World)
    (h0 : w.cell? ⟨b, 0, none⟩ = some (.iface 128 (.pointer (some p)))) (hc : w.cell? p = some (.string t)) :
    Gives 20 #[.string f, .slice (some ⟨b, 0, none⟩) 1 c] w (fun v w' => (∃ s, v = .string s) ∧ w' = w.drew) := by
  intro o a next Q h
  rw [Ybaf.call20]
  have e1 : (FmtCalls.sprintf #[9, 78] #[9] #[.string f, .slice (some ⟨b, 0, none⟩) 1 c]).run Ybaf.prog w = .ok (.row FmtCalls.turnsRow (FmtCalls.save 0 0 (.slice (some ⟨b, 0, none⟩) 1 c) f [] [(0, 118, false)])) w := by
    simp [FmtCalls.sprintf_lit, Ybaf.guard, FmtDoors.count, hp, Result.andThen]
  rw [e1, Oper.upon_row]
  obtain ⟨r, hr⟩ := Ybaf.op128 (FmtCalls.frontName 0) p t w hc
  have e2 : ∃ acc, (FmtCalls.turns 0 0 (.slice (some ⟨b, 0, none⟩) 1 c) f [] [(0, 118, false)]).run Ybaf.prog w = (FmtCalls.turns 0 0 (.slice (some ⟨b, 0, none⟩) 1 c) f acc []).run Ybaf.prog w :=
    ⟨[r.1, r.2], by
      rw [FmtCalls.turns]
      have e3 : (FmtDoors.operand (.slice (some ⟨b, 0, none⟩) 1 c) 0).run Ybaf.prog w = .ok (.iface 128 (.pointer (some p))) w := by simp [FmtDoors.operand, run_load, h0, Addr.add]
      simp only [Sem.run_bind, e3, Result.andThen]
      have e4 : (FmtCalls.act (FmtCalls.frontName 0) (0 == 3) 118 false (.iface 128 (.pointer (some p)))).run Ybaf.prog w = .ok (.closed false) w := Ybaf.act128 _ _ _
      simp only [e4, Sem.run_bind, hr, Result.andThen]
      rfl⟩
  obtain ⟨acc, e2⟩ := e2
  obtain ⟨x, hx⟩ := fin0 0 (.slice (some ⟨b, 0, none⟩) 1 c) f acc w
  exact rows_value Ybaf.nextTurns (((FmtCalls.run_begun_save ..).trans e2).trans hx) (h _ _ ⟨str_string _, rfl⟩)

theorem Ybaf.act2 (name : String) (x : Value) (w : World) : (FmtCalls.act name true 100 false (.iface 2 x)).run Ybaf.prog w = .ok (.closed true) w := by kernel_rfl
theorem Ybaf.op2 (name : String) (x : Int) (w : World) : ∃ r, (FmtStop.operand name true 100 false (.iface 2 (.int .i64 x))).run Ybaf.prog w = .ok r w := ⟨([5, 5, 0, 0, 0, 0, 0, 0, 0, 105, 110, 116, 54, 52], digits 8 (x % 2 ^ 64).toNat), by kernel_rfl⟩

/-- fmt.errorf with one int64 under '%d'. -/
theorem gives_errorf (f : ByteArray) (hp : ∀ w, (FmtDoors.printed f 1).run Ybaf.prog w = .ok [(0, 100, false)] w) (b c : Nat) (x : Int) (w : World)
    (h0 : w.cell? ⟨b, 0, none⟩ = some (.iface 2 (.int .i64 x))) :
    Gives 32 #[.string f, .slice (some ⟨b, 0, none⟩) 1 c] w (fun v w' => v = .iface 128 (.pointer (some ⟨w.heap.size, 0, none⟩)) ∧ ∃ s, w' = (w.alloc (.cells #[.string s] 130)).drew) := by
  intro o a next Q h
  rw [Ybaf.call32]
  have e1 : (FmtCalls.errorf #[9, 78] #[31] #[.string f, .slice (some ⟨b, 0, none⟩) 1 c]).run Ybaf.prog w = .ok (.row FmtCalls.turnsRow (FmtCalls.save 3 1 (.slice (some ⟨b, 0, none⟩) 1 c) f [] [(0, 100, false)])) w := by
    simp [FmtCalls.errorf_lit, Ybaf.guard, FmtDoors.count, hp, Result.andThen]
  rw [e1, Oper.upon_row]
  obtain ⟨r, hr⟩ := Ybaf.op2 (FmtCalls.frontName 3) x w
  have e2 : ∃ acc, (FmtCalls.turns 3 1 (.slice (some ⟨b, 0, none⟩) 1 c) f [] [(0, 100, false)]).run Ybaf.prog w = (FmtCalls.turns 3 1 (.slice (some ⟨b, 0, none⟩) 1 c) f acc []).run Ybaf.prog w :=
    ⟨[r.1, r.2], by
      rw [FmtCalls.turns]
      have e3 : (FmtDoors.operand (.slice (some ⟨b, 0, none⟩) 1 c) 0).run Ybaf.prog w = .ok (.iface 2 (.int .i64 x)) w := by simp [FmtDoors.operand, run_load, h0, Addr.add]
      simp only [Sem.run_bind, e3, Result.andThen]
      have e4 : (FmtCalls.act (FmtCalls.frontName 3) (3 == 3) 100 false (.iface 2 (.int .i64 x))).run Ybaf.prog w = .ok (.closed true) w := Ybaf.act2 _ _ _
      simp only [e4, Sem.run_bind, hr, Result.andThen]
      rfl⟩
  obtain ⟨acc, e2⟩ := e2
  obtain ⟨s, hx⟩ := fin1 (.slice (some ⟨b, 0, none⟩) 1 c) f acc w
  exact rows_value Ybaf.nextTurns (((FmtCalls.run_begun_save ..).trans e2).trans hx) (h _ _ ⟨rfl, s, rfl⟩)

theorem Ybaf.act22 (name : String) (x : Value) (w : World) : (FmtCalls.act name false 100 false (.iface 22 x)).run Ybaf.prog w = .ok (.closed false) w := by kernel_rfl
theorem Ybaf.op22 (name : String) (x : Int) (w : World) : ∃ r, (FmtStop.operand name false 100 false (.iface 22 (.int .u32 x))).run Ybaf.prog w = .ok r w := ⟨([8, 6, 0, 0, 0, 0, 0, 0, 0, 117, 105, 110, 116, 51, 50], digits 8 (x % 2 ^ 64).toNat), by kernel_rfl⟩
theorem Ybaf.act9 (name : String) (x : Value) (w : World) : (FmtCalls.act name false 115 false (.iface 9 x)).run Ybaf.prog w = .ok (.closed false) w := by kernel_rfl
theorem Ybaf.op9 (name : String) (x : ByteArray) (w : World) : ∃ r, (FmtStop.operand name false 115 false (.iface 9 (.string x))).run Ybaf.prog w = .ok r w := ⟨([12, 6, 0, 0, 0, 0, 0, 0, 0, 115, 116, 114, 105, 110, 103], FmtStop.pack x.data.toList), by kernel_rfl⟩

/-- Sprintf of a uint32 under '%d' and a string under '%s'. -/
theorem gives_two (f : ByteArray) (hp : FmtStop.printed? f 2 = some [(0, 100, false), (1, 115, false)]) (b c : Nat) (x : Int) (t : ByteArray) (w : World)
    (h0 : w.cell? ⟨b, 0, none⟩ = some (.iface 22 (.int .u32 x))) (h1 : w.cell? ⟨b, 1, none⟩ = some (.iface 9 (.string t))) :
    Gives 20 #[.string f, .slice (some ⟨b, 0, none⟩) 2 c] w (fun v w' => (∃ s, v = .string s) ∧ w' = w.drew) := by
  intro o a next Q h
  rw [Ybaf.call20]
  have e1 : (FmtCalls.sprintf #[9, 78] #[9] #[.string f, .slice (some ⟨b, 0, none⟩) 2 c]).run Ybaf.prog w = .ok (.row FmtCalls.turnsRow (FmtCalls.save 0 0 (.slice (some ⟨b, 0, none⟩) 2 c) f [] [(0, 100, false), (1, 115, false)])) w := by
    simp [FmtCalls.sprintf_lit, Ybaf.guard, FmtDoors.count, hp, Result.andThen]
  rw [e1, Oper.upon_row]
  obtain ⟨r, hr⟩ := Ybaf.op22 (FmtCalls.frontName 0) x w
  obtain ⟨q, hq⟩ := Ybaf.op9 (FmtCalls.frontName 0) t w
  have e2 : ∃ acc, (FmtCalls.turns 0 0 (.slice (some ⟨b, 0, none⟩) 2 c) f [] [(0, 100, false), (1, 115, false)]).run Ybaf.prog w = (FmtCalls.turns 0 0 (.slice (some ⟨b, 0, none⟩) 2 c) f acc []).run Ybaf.prog w :=
    ⟨[r.1, r.2] ++ [q.1, q.2], by
      rw [FmtCalls.turns]
      have e3 : (FmtDoors.operand (.slice (some ⟨b, 0, none⟩) 2 c) 0).run Ybaf.prog w = .ok (.iface 22 (.int .u32 x)) w := by simp [FmtDoors.operand, run_load, h0, Addr.add]
      simp only [Sem.run_bind, e3, Result.andThen]
      have e4 : (FmtCalls.act (FmtCalls.frontName 0) (0 == 3) 100 false (.iface 22 (.int .u32 x))).run Ybaf.prog w = .ok (.closed false) w := Ybaf.act22 _ _ _
      simp only [e4, Sem.run_bind, hr, Result.andThen]
      rw [FmtCalls.turns]
      have e5 : (FmtDoors.operand (.slice (some ⟨b, 0, none⟩) 2 c) 1).run Ybaf.prog w = .ok (.iface 9 (.string t)) w := by simp [FmtDoors.operand, run_load, h1, Addr.add]
      simp only [Sem.run_bind, e5, Result.andThen]
      have e6 : (FmtCalls.act (FmtCalls.frontName 0) (0 == 3) 115 false (.iface 9 (.string t))).run Ybaf.prog w = .ok (.closed false) w := Ybaf.act9 _ _ _
      simp only [e6, Sem.run_bind, hq, Result.andThen]
      rfl⟩
  obtain ⟨acc, e2⟩ := e2
  obtain ⟨y, hx⟩ := fin0 0 (.slice (some ⟨b, 0, none⟩) 2 c) f acc w
  exact rows_value Ybaf.nextTurns (((FmtCalls.run_begun_save ..).trans e2).trans hx) (h _ _ ⟨str_string _, rfl⟩)

end Go.Proofs.YbulkatxeFmt
