/-
  LawS2271BKey: the positions; the key at the end.
-/
import Derived.Test.YbulkatzwInv
namespace Go.Proofs.Ybulkatzw
open Go.RowKit Go.Lib
set_option linter.unusedVariables false
set_option linter.unusedSimpArgs false
set_option maxRecDepth 100000

def Little (f : Fd) : Prop := f.S.size ≤ 1024 ∧ f.B.length ≤ 1024
theorem rem5 {s r : Nat} (h : s % 5 = r) : Int.tmod (s : Int) 5 = (r : Int) := by rw [← h]; rfl

theorem info3' : (Yba.prog.info? 3).map (fun i => (i.size, i.bytes, i.zero)) = some (1, 8, some (.int .i64 0)) := by kernel_rfl
theorem info3 : ∃ i, Yba.prog.info? 3 = some i ∧ i.size = 1 ∧ i.bytes = 8 ∧ i.zero = some (.int .i64 0) := by
  obtain ⟨i, h1, h2⟩ := Option.map_eq_some_iff.1 info3'
  simp only [Prod.mk.injEq] at h2
  exact ⟨i, h1, h2.1, h2.2.1, h2.2.2⟩

/-- The first j positions. -/
def posL (p : Nat → Nat) (j : Nat) : List Value := (List.range j).map fun t => Value.int .i64 (p t : Int)
theorem posL_length (p : Nat → Nat) (j : Nat) : (posL p j).length = j := by simp [posL]
theorem posL_succ (p : Nat → Nat) (j : Nat) : posL p (j + 1) = posL p j ++ [.int .i64 (p j : Int)] := by simp [posL, List.range_succ]
theorem posL_get (p : Nat → Nat) {j m : Nat} (h : j < m) : (posL p m)[j]? = some (.int .i64 (p j : Int)) := by simp [posL, h]
/-- A slice of positions that the call owns. -/
def OwnI (w : World) (B : Nat) (v : Value) (p : Nat → Nat) (j : Nat) : Prop := w.ownsRow B 3 1 v j (posL p j)
theorem OwnI.slice {w : World} {B j : Nat} {v : Value} {p : Nat → Nat} (h : OwnI w B v p j) : ∃ a c, v = .slice a j c := by
  rcases h.2 with ⟨rfl, h0⟩ | ⟨g, cap, cur, rfl, _⟩
  · exact ⟨none, 0, by rw [h0]⟩
  · exact ⟨_, _, rfl⟩
theorem OwnI.push {w : World} {B j : Nat} {v : Value} {p : Nat → Nat} {x : Int} (hx : x = (p j : Int)) (h : w.ownsRow B 3 1 v (j + 1) (posL p j ++ [.int .i64 x])) : OwnI w B v p (j + 1) := by
  unfold OwnI
  rw [posL_succ, ← hx]
  exact h
theorem OwnI.cells {w : World} {B j c : Nat} {a : Option Addr} {p : Nat → Nat} (h : OwnI w B (.slice a j c) p j) : j = 0 ∨ ∃ P, a = some ⟨P, 0, none⟩ ∧ j ≤ c ∧ ∀ t, t < j → w.cell? ⟨P, t, none⟩ = some (.int .i64 (p t : Int)) := by
  rcases h.2 with ⟨e, h0⟩ | ⟨g, cap, cur, e, _, hh, hn, hc, hs, ht⟩
  · exact .inl h0
  · injection e with e1 e2 e3
    subst e1 e3
    refine .inr ⟨g, rfl, hn, fun t ht' => ?_⟩
    have e1 : w.cell? ⟨g, t, none⟩ = cur[t]? := by simp only [World.cell?, hh]; rfl
    have e2 : cur.toList[t]? = (cur.toList.take (j * 1))[t]? := by rw [List.getElem?_take, if_pos (by omega)]
    rw [e1, ← Array.getElem?_toList, e2, ht]
    exact posL_get p ht'
theorem one_new3 {w : World} {b : Value} {t : TypeId} : ∀ j u, [b][j]? = some u → (w.alloc (.cells #[b] t)).cell? ((⟨w.heap.size, 0, none⟩ : Addr).add j) = some u := by
  intro j u hj
  have e : (⟨w.heap.size, 0, none⟩ : Addr).add j = ⟨w.heap.size, j, none⟩ := by rw [Addr.add_lit, Nat.zero_add]
  rw [e, cell_alloc_new, ← hj]
  simp

theorem PartOk.later {w W : World} {B : Nat} {v : Value} {l : List UInt8} (h : PartOk w B v l) (hb : Below w.heap.size w W) : PartOk W B v l :=
  Up.part (fun K _ hK => hb.block K hK) hb.size h
theorem ValOk.later {w W : World} {B : Nat} {f : Fd} {v : Value} (h : ValOk w B f v) (hb : Below w.heap.size w W) : ValOk W B f v :=
  Up.val (fun K _ hK => hb.block K hK) hb.size h
theorem ValOk.iface {w : World} {B : Nat} {f : Fd} {v : Value} (h : ValOk w B f v) : ∃ t u, v = .iface t u := by
  unfold ValOk at h
  split at h
  · exact ⟨_, _, h⟩
  · split at h
    · exact ⟨_, _, h⟩
    · split at h
      · exact ⟨_, _, h⟩
      · split at h
        · exact ⟨_, _, h⟩
        · obtain ⟨u, e, _⟩ := h
          exact ⟨_, _, e⟩

/-- keyOf over the three tables. -/
theorem fin_key {w wr W : World} {k N pc X R T D : Nat} {po : Option Addr} {F : Nat → Fd} {p : Nat → Nat} (hI : Inv w wr k k F) (hb : Below wr.heap.size wr W) (hsm : ∀ i, i < k → Small (F i) ∧ Little (F i))
    (hpos : N = 0 ∨ ∃ P, po = some ⟨P, 0, none⟩ ∧ N ≤ pc ∧ ∀ j, j < N → W.cell? ⟨P, j, none⟩ = some (.int .i64 (p j : Int)) ∧ p j < k) (hN : N ≤ 256) (hk : k ≤ 256)
    (x0 : W.cell? ⟨X, 0, none⟩ = some (.pointer (some ⟨T, 0, none⟩))) (x3 : W.cell? ⟨X, 3, none⟩ = some (.slice po N pc)) (t2 : W.cell? ⟨T, 2, none⟩ = some (.pointer (some ⟨D, 0, none⟩)))
    (d0 : W.cell? ⟨D, 0, none⟩ = some (.slice (some ⟨w.heap.size, 0, none⟩) k k)) (r1 : W.cell? ⟨R, 1, none⟩ = some (.slice (some ⟨w.heap.size + 1, 0, none⟩) k k)) :
    Calls Yba.prog 7 #[.pointer (some ⟨X, 0, none⟩), .pointer (some ⟨R, 0, none⟩)] W fun e w' => ∃ v', e = .returned v' ∧ Own w' W.heap.size v' (flat (fun j => partF (F (p j))) N) ∧ Below W.heap.size W w' := by
  obtain ⟨ad, a1, a2, a3⟩ := hI.defs
  obtain ⟨av, b1, b2, b3⟩ := hI.vals
  have go : ∀ {b j : Nat} {v : Value}, wr.cell? ⟨b, j, none⟩ = some v → W.cell? ⟨b, j, none⟩ = some v := fun h => (hb.cell (lt_of_cell h)).trans h
  have ca : ∀ {j : Nat} {v : Value}, ad[j]? = some v → wr.cell? ⟨w.heap.size, j, none⟩ = some v := fun h => by simp only [World.cell?, a2]; exact h
  have cv : ∀ {j : Nat} {v : Value}, av[j]? = some v → wr.cell? ⟨w.heap.size + 1, j, none⟩ = some v := fun h => by simp only [World.cell?, b2]; exact h
  have hIx : IxOk W X po N pc p k (fun i => tyOf (F i)) (fun i => szF (F i)) :=
    ⟨⟨T, D, w.heap.size, x0, x3, t2, d0, fun i hi => ⟨go (ca (a3 i hi).1), go (ca (a3 i hi).2.1), go (ca (a3 i hi).2.2)⟩⟩, hpos, ⟨hN, hk⟩⟩
  have hva : ∀ i, i < k → av[i]? = some ((av[i]?).getD .nilIface) ∧ ValOk wr (w.heap.size + 3) (F i) ((av[i]?).getD .nilIface) := fun i hi => by
    obtain ⟨v, h1, h2⟩ := b3 i hi
    rw [h1]
    exact ⟨rfl, h2⟩
  have hpk : ∀ j, j < N → p j < k := fun j hj => by
    rcases hpos with h | ⟨P, _, _, h⟩
    · omega
    · exact (h j hj).2
  refine keyOf X R (w.heap.size + 1) po N pc p k (fun i => tyOf (F i)) (fun i => szF (F i)) (fun i => (av[i]?).getD .nilIface) _ W hIx r1 (fun i hi => go (cv (hva i hi).1)) (fun i hi => (hva i hi).2.iface) (fun W' V hb' hV => ?_)
  exact keyC X V po N pc p k (fun i => tyOf (F i)) (fun i => szF (F i)) (fun j => (av[p j]?).getD .nilIface) (fun j => partF (F (p j))) W' (hIx.later hb') hV
    (fun j hj => fieldOk (hsm _ (hpk j hj)).1 (((hva _ (hpk j hj)).2.later hb).later hb')) (fun j hj => part_le (hsm _ (hpk j hj)).2.1 (hsm _ (hpk j hj)).2.2)
end Go.Proofs.Ybulkatzw
