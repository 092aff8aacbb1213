/-
  The encoder: AppendUint32, AppendUint64, PutUint32 within the capacity.
-/
import Derived.Test.YbulkatziRows
import Derived.WalkKit
import Derived.WalkSpells
import Derived.WalkLawsBesides
import Derived.Lib.AppendStr
import Derived.Deep.RegionHeld3
namespace Go.Proofs.Ybulkatzi
open Go.RowKit Go.Lib
set_option linter.unusedVariables false
set_option linter.unusedSimpArgs false

/-- w' is w with new blocks, and with writes to the blocks of A alone. -/
structure Frm (A : Nat → Prop) (w w' : World) : Prop where
  os : w'.os = w.os
  tape : w'.tape = w.tape
  output : w'.output = w.output
  size : w.heap.size ≤ w'.heap.size
  block : ∀ k, k < w.heap.size → ¬ A k → w'.heap[k]? = w.heap[k]?

theorem Frm.of_grown {w w' : World} {b : Nat} {A : Nat → Prop} (h : w.grownBy w' (some b)) (hA : A b) : Frm A w w' :=
  ⟨h.os, h.tape, h.output, h.size, fun k hk ha => h.block k hk (fun e => ha (by cases e; exact hA))⟩
theorem Frm.refl (A : Nat → Prop) (w : World) : Frm A w w := ⟨rfl, rfl, rfl, Nat.le_refl _, fun _ _ _ => rfl⟩
theorem Frm.trans {A : Nat → Prop} {a b c : World} (h : Frm A a b) (k : Frm A b c) : Frm A a c :=
  ⟨k.os.trans h.os, k.tape.trans h.tape, k.output.trans h.output, Nat.le_trans h.size k.size, fun i hi ha => (k.block i (Nat.lt_of_lt_of_le hi h.size) ha).trans (h.block i hi ha)⟩
theorem Frm.weaken {A B : Nat → Prop} {a b : World} (h : Frm A a b) (hAB : ∀ k, k < a.heap.size → A k → B k) : Frm B a b :=
  ⟨h.os, h.tape, h.output, h.size, fun i hi ha => h.block i hi (fun e => ha (hAB i hi e))⟩
theorem Frm.drew {A : Nat → Prop} {a w : World} (h : Frm A a w) : Frm A a w.drew := ⟨h.os, h.tape, h.output, h.size, h.block⟩
theorem Frm.drewN {A : Nat → Prop} {a w : World} (h : Frm A a w) (n : Nat) : Frm A a (w.drewN n) := ⟨h.os, h.tape, h.output, h.size, h.block⟩
theorem Frm.setCell {A : Nat → Prop} {a w : World} (h : Frm A a w) {p : Addr} (hp : A p.block) (u : Value) : Frm A a (w.setCell p u) :=
  h.trans ⟨rfl, rfl, rfl, by simp [World.setCell], fun k _ ha => Below.heap_setCell _ _ _ _ (fun e => ha (by rw [e]; exact hp))⟩
theorem Frm.alloc {A : Nat → Prop} {a w : World} (h : Frm A a w) (o : Obj) : Frm A a (w.alloc o) :=
  h.trans ⟨rfl, rfl, rfl, by simp, fun k hk _ => Below.heap_alloc _ _ _ hk⟩
theorem Frm.below {A : Nat → Prop} {a w : World} (h : Frm A a w) {B : Nat} (hB : B ≤ a.heap.size) (hA : ∀ k, k < B → ¬ A k) : Below B a w :=
  ⟨h.os, h.tape, h.output, h.size, fun k hk => h.block k (Nat.lt_of_lt_of_le hk hB) (hA k hk)⟩
theorem Frm.cell {A : Nat → Prop} {a w : World} (h : Frm A a w) {p : Addr} (hp : p.block < a.heap.size) (hA : ¬ A p.block) : w.cell? p = a.cell? p :=
  World.cell?_of_block (h.block _ hp hA)
theorem Frm.frozen {A : Nat → Prop} {a w : World} (h : Frm A a w) {p : Addr} (hp : p.block < a.heap.size) (hA : ¬ A p.block) : w.frozen? p = a.frozen? p :=
  World.frozen?_of_block (h.block _ hp hA)

theorem lt_of_cell {w : World} {b o : Nat} {v : Value} (h : w.cell? ⟨b, o, none⟩ = some v) : b < w.heap.size := by
  unfold World.cell? at h
  split at h
  · rename_i hb; exact (Array.getElem?_eq_some_iff.1 hb).1
  · cases h

/-- A byte as a cell. -/
abbrev byt (n : Nat) : Value := .int .u8 (n : Int)
def be4 (v : Nat) : List Value := [byt (v / 16777216 % 256), byt (v / 65536 % 256), byt (v / 256 % 256), byt (v % 256)]
def be8 (v : Nat) : List Value := [byt (v / 72057594037927936 % 256), byt (v / 281474976710656 % 256), byt (v / 1099511627776 % 256), byt (v / 4294967296 % 256),
  byt (v / 16777216 % 256), byt (v / 65536 % 256), byt (v / 256 % 256), byt (v % 256)]

/-- The frame under way: block F of c cells, of which xs are laid. -/
def Has (w : World) (F c : Nat) (xs : List Value) : Prop := w.ownsRow 0 5 1 (.slice (some ⟨F, 0, none⟩) xs.length c) xs.length xs

theorem Has.alloc {w : World} {F c : Nat} {xs : List Value} (h : Has w F c xs) (o : Obj) : Has (w.alloc o) F c xs := World.ownsRow.alloc h o
theorem Has.lt {w : World} {F c : Nat} {xs : List Value} (h : Has w F c xs) : F < w.heap.size := (World.ownsRow.lt h F rfl).2

theorem info5' : (Yba.prog.info? 5).map (fun i => (i.size, i.bytes, i.zero)) = some (1, 1, some (.int .u8 0)) := by kernel_rfl
theorem info5 : ∃ i, Yba.prog.info? 5 = some i ∧ i.size = 1 ∧ i.bytes = 1 ∧ i.zero = some (.int .u8 0) := by
  obtain ⟨i, h1, h2⟩ := Option.map_eq_some_iff.1 info5'
  simp only [Prod.mk.injEq] at h2
  exact ⟨i, h1, h2.1, h2.2.1, h2.2.2⟩

theorem cell_alloc_new (w : World) (cs : Array Value) (t : TypeId) (j : Nat) : (w.alloc (.cells cs t)).cell? ⟨w.heap.size, j, none⟩ = cs[j]? := by
  simp only [World.cell?, heap_alloc_new]
  rfl

theorem be4_eq (v : Nat) (hv : v < 4294967296) : [Value.int .u8 ((v : Int) / 16777216), .int .u8 ((v : Int) / 65536 % 256), .int .u8 ((v : Int) / 256 % 256), .int .u8 ((v : Int) % 256)] = be4 v := by
  have a : (v : Int) / 16777216 = ((v / 16777216 % 256 : Nat) : Int) := by omega
  have b : (v : Int) / 65536 % 256 = ((v / 65536 % 256 : Nat) : Int) := by omega
  have c : (v : Int) / 256 % 256 = ((v / 256 % 256 : Nat) : Int) := by omega
  have d : (v : Int) % 256 = ((v % 256 : Nat) : Int) := by omega
  rw [a, b, c, d]; rfl
theorem be8_eq (v : Nat) (hv : v < 18446744073709551616) : [Value.int .u8 ((v : Int) / 72057594037927936), .int .u8 ((v : Int) / 281474976710656 % 256), .int .u8 ((v : Int) / 1099511627776 % 256), .int .u8 ((v : Int) / 4294967296 % 256),
    .int .u8 ((v : Int) / 16777216 % 256), .int .u8 ((v : Int) / 65536 % 256), .int .u8 ((v : Int) / 256 % 256), .int .u8 ((v : Int) % 256)] = be8 v := by
  have a1 : (v : Int) / 72057594037927936 = ((v / 72057594037927936 % 256 : Nat) : Int) := by omega
  have a2 : (v : Int) / 281474976710656 % 256 = ((v / 281474976710656 % 256 : Nat) : Int) := by omega
  have a3 : (v : Int) / 1099511627776 % 256 = ((v / 1099511627776 % 256 : Nat) : Int) := by omega
  have a4 : (v : Int) / 4294967296 % 256 = ((v / 4294967296 % 256 : Nat) : Int) := by omega
  have a : (v : Int) / 16777216 % 256 = ((v / 16777216 % 256 : Nat) : Int) := by omega
  have b : (v : Int) / 65536 % 256 = ((v / 65536 % 256 : Nat) : Int) := by omega
  have c : (v : Int) / 256 % 256 = ((v / 256 % 256 : Nat) : Int) := by omega
  have d : (v : Int) % 256 = ((v % 256 : Nat) : Int) := by omega
  rw [a1, a2, a3, a4, a, b, c, d]; rfl

theorem be4_one (v : Nat) : ∀ u ∈ be4 v, u.oneCell' = true := by
  intro u hu
  simp only [be4, List.mem_cons, List.mem_nil_iff, or_false] at hu
  rcases hu with rfl | rfl | rfl | rfl <;> rfl
theorem be8_one (v : Nat) : ∀ u ∈ be8 v, u.oneCell' = true := by
  intro u hu
  simp only [be8, List.mem_cons, List.mem_nil_iff, or_false] at hu
  rcases hu with rfl | rfl | rfl | rfl | rfl | rfl | rfl | rfl <;> rfl

theorem new_cells {w : World} {cs : Array Value} {t : TypeId} {l : List Value} (h : cs.toList = l) : ∀ j u, l[j]? = some u → (w.alloc (.cells cs t)).cell? ((⟨w.heap.size, 0, none⟩ : Addr).add j) = some u := by
  intro j u hj
  have e : (⟨w.heap.size, 0, none⟩ : Addr).add j = ⟨w.heap.size, j, none⟩ := by rw [Addr.add_lit, Nat.zero_add]
  rw [e, cell_alloc_new, ← hj, ← h]
  simp

set_option maxHeartbeats 800000 in
theorem app32 (F c v : Nat) (xs : List Value) (hv : v < 4294967296) (hc : xs.length + 4 ≤ c) (w : World) (h : Has w F c xs) :
    Calls Yba.prog 13 #[.agg #[], .slice (some ⟨F, 0, none⟩) xs.length c, .int .u32 (v : Int)] w fun e w' =>
      e = .returned (.slice (some ⟨F, 0, none⟩) (xs.length + 4) c) ∧ Has w' F c (xs ++ be4 v) ∧ Frm (fun k => k = F) w w' := by
  obtain ⟨i, hi, hs, hby, hz⟩ := info5
  have hF := h.lt
  go_enter Yba.func13, Yba.ntmps13
  go_wp2_with (at_builtin; refine wpList_append_fits _ rfl (.tmp 7) (.tmp 19) 26 rfl 0 5 i 1 Yba.underlying26 hi hs F xs.length c xs rfl (World.ownsRow.alloc (World.ownsRow.alloc h _) _) ⟨w.heap.size + 1, 0, none⟩ 4 4 (be4 v) rfl rfl ?_ (be4_one v) hc ?_)
  · have := @new_cells (w.alloc (.cells #[] 39)) #[Value.int .u8 ((v : Int) / 16777216), .int .u8 ((v : Int) / 65536 % 256), .int .u8 ((v : Int) / 256 % 256), .int .u8 ((v : Int) % 256)] 5 (be4 v) (be4_eq v hv)
    simpa using this
  · intro w' hown hgr
    go_wp2
    go_ret
    have hl : (xs ++ be4 v).length = xs.length + 4 := by simp [be4]
    refine ⟨rfl, ?_, (((Frm.refl _ w).alloc _).alloc _).trans (Frm.of_grown hgr rfl)⟩
    unfold Has
    rw [hl]
    exact hown

set_option maxHeartbeats 800000 in
theorem app64 (F c v : Nat) (xs : List Value) (hv : v < 18446744073709551616) (hc : xs.length + 8 ≤ c) (w : World) (h : Has w F c xs) :
    Calls Yba.prog 14 #[.agg #[], .slice (some ⟨F, 0, none⟩) xs.length c, .int .u64 (v : Int)] w fun e w' =>
      e = .returned (.slice (some ⟨F, 0, none⟩) (xs.length + 8) c) ∧ Has w' F c (xs ++ be8 v) ∧ Frm (fun k => k = F) w w' := by
  obtain ⟨i, hi, hs, hby, hz⟩ := info5
  have hF := h.lt
  go_enter Yba.func14, Yba.ntmps14
  go_wp2_with (at_builtin; refine wpList_append_fits _ rfl (.tmp 7) (.tmp 31) 26 rfl 0 5 i 1 Yba.underlying26 hi hs F xs.length c xs rfl (World.ownsRow.alloc (World.ownsRow.alloc h _) _) ⟨w.heap.size + 1, 0, none⟩ 8 8 (be8 v) rfl rfl ?_ (be8_one v) hc ?_)
  · have := @new_cells (w.alloc (.cells #[] 39)) #[Value.int .u8 ((v : Int) / 72057594037927936), .int .u8 ((v : Int) / 281474976710656 % 256), .int .u8 ((v : Int) / 1099511627776 % 256), .int .u8 ((v : Int) / 4294967296 % 256),
      .int .u8 ((v : Int) / 16777216 % 256), .int .u8 ((v : Int) / 65536 % 256), .int .u8 ((v : Int) / 256 % 256), .int .u8 ((v : Int) % 256)] 5 (be8 v) (be8_eq v hv)
    simpa using this
  · intro w' hown hgr
    go_wp2
    go_ret
    have hl : (xs ++ be8 v).length = xs.length + 8 := by simp [be8]
    refine ⟨rfl, ?_, (((Frm.refl _ w).alloc _).alloc _).trans (Frm.of_grown hgr rfl)⟩
    unfold Has
    rw [hl]
    exact hown

set_option maxHeartbeats 800000 in
theorem put32 (F c v n : Nat) (a b d e : Value) (cs : List Value) (hv : v < 4294967296) (hc : 4 ≤ n) (w : World) (h : w.heap[F]? = some (.cells (a :: b :: d :: e :: cs).toArray 5 (0, 0))) :
    Calls Yba.prog 15 #[.agg #[], .slice (some ⟨F, 0, none⟩) n c, .int .u32 (v : Int)] w fun e w' =>
      e = .returned (.tuple #[]) ∧ w'.heap[F]? = some (.cells (be4 v ++ cs).toArray 5 (0, 0)) ∧ Frm (fun k => k = F) w w' := by
  have hF : F < w.heap.size := (Array.getElem?_eq_some_iff.1 h).1
  have c0 : w.cell? ⟨F, 0, none⟩ = some a := by simp [World.cell?, h]
  have c1 : w.cell? ⟨F, 1, none⟩ = some b := by simp [World.cell?, h]
  have c2 : w.cell? ⟨F, 2, none⟩ = some d := by simp [World.cell?, h]
  have c3 : w.cell? ⟨F, 3, none⟩ = some e := by simp [World.cell?, h]
  have fr : ∀ j, w.frozen? ⟨F, j, none⟩ = false := fun j => by simp [World.frozen?, h]
  have t0 : (0 : Int) < (n : Int) := by omega
  have t1 : (1 : Int) < (n : Int) := by omega
  have t2 : (2 : Int) < (n : Int) := by omega
  have t3 : (3 : Int) < (n : Int) := by omega
  go_enter Yba.func15, Yba.ntmps15
  go_wp2
  go_end0
  have s0 : Frm (fun k => k = F) w w := Frm.refl _ w
  have s1 := Frm.setCell s0 (p := ⟨F, 0, none⟩) rfl (Value.int .u8 ((v : Int) / 16777216))
  have s2 := Frm.setCell s1 (p := ⟨F, 1, none⟩) rfl (Value.int .u8 ((v : Int) / 65536 % 256))
  have s3 := Frm.setCell s2 (p := ⟨F, 2, none⟩) rfl (Value.int .u8 ((v : Int) / 256 % 256))
  have s4 := Frm.setCell s3 (p := ⟨F, 3, none⟩) rfl (Value.int .u8 ((v : Int) % 256))
  refine ⟨rfl, ?_, s4.alloc _⟩
  rw [Below.heap_alloc _ _ _ (by simpa [World.setCell] using hF)]
  have e0 := heap_setCell_same w F 0 _ 5 (Value.int .u8 ((v : Int) / 16777216)) h
  have e1 := heap_setCell_same _ F 1 _ 5 (Value.int .u8 ((v : Int) / 65536 % 256)) e0
  have e2 := heap_setCell_same _ F 2 _ 5 (Value.int .u8 ((v : Int) / 256 % 256)) e1
  have e3 := heap_setCell_same _ F 3 _ 5 (Value.int .u8 ((v : Int) % 256)) e2
  rw [e3, ← be4_eq v hv]
  simp
end Go.Proofs.Ybulkatzi
