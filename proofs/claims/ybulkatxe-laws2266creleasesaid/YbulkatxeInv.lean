/-
  What holds of memory while LawS2266CRelease builds its session: 'Inv', and what each step does to it. The callees' contracts are restated over it.
-/
import Derived.Test.YbulkatxeCallees
import Derived.Deep.OwnRows
namespace Go.Proofs.Ybulkatxe
open Go.RowKit Go.Deep
set_option linter.unusedVariables false
set_option linter.unusedSimpArgs false

/-- The state of one dialogue: its id's block, its reference, bound, open, begun, its components. -/
structure DS where
  l : Nat
  rf : Nat
  bd : Bool
  op : Bool
  bg : Bool
  cs : Value

def DS.begin (d : DS) : DS := { d with bg := true }
def DS.bindTo (d : DS) (r : Nat) : DS := { d with rf := r, bd := true }
def DS.free (d : DS) : DS := { d with bd := false, op := false, cs := .slice none 0 0 }

def dlgC (d : DS) : Array Value :=
  #[.slice (some ⟨d.l, 0, none⟩) 1 1, .slice none 0 0, .int .u8 0, .int .u16 0, .int .u8 0, .int .i64 (d.rf : Int), .bool d.bd, .bool d.op, .bool d.bg, .string ⟨#[]⟩, .string ⟨#[]⟩, .string ⟨#[]⟩, .bool false, .slice none 0 0, d.cs, .slice none 0 0, .int .i8 0, .slice none 0 0]

def sessC (MD MR : Nat) : Array Value :=
  #[.pointer none, .int .u16 0, .int .u8 0, .int .u8 0, .nilFunc, .nilFunc, .int .i64 0, .int .i64 0, .int .i64 0, .int .i64 0, .int .i64 0, .int .i64 0, .int .i64 0, .string ⟨#[]⟩, .string ⟨#[]⟩, .int .i32 0, .int .u32 0, .map (some MD), .map (some MR), .slice none 0 0, .pointer none, .bool false, .int .u8 0, .int .u16 0, .int .u8 0, .pointer none, .int .i64 0]

/-- An owner's number as Go has it: -1 for none. -/
def oI : Option Nat → Int
  | none => -1
  | some j => (j : Int)

structure Inv (w : World) (MD MR S OW RO AL n K N : Nat) (P : Nat → Nat) (D : Nat → DS) (bl : Nat → Nat) (ow ro qd qr : Nat → Option Nat) (W : World) : Prop where
  bel : Below w.heap.size w W
  ord : w.heap.size ≤ MD ∧ MD < MR ∧ MR < S ∧ S < OW ∧ OW < RO ∧ RO < AL ∧ AL < W.heap.size
  sess : W.heap[S]? = some (.cells (sessC MD MR) 50)
  own : W.rowIs OW 51 4 (fun c => .int .i64 (oI (ow c)))
  rown : W.rowIs RO 51 4 (fun c => .int .i64 (oI (ro c)))
  all : W.rowIs AL 45 n (fun j => if j < K then .pointer (some ⟨P j, 0, none⟩) else .pointer none)
  dl : ∀ j, j < K → W.heap[P j]? = some (.cells (dlgC (D j)) 62)
  ll : ∀ j, j < K → W.heap[(D j).l]? = some (.cells #[.int .u8 (bl j : Int)] 5)
  ge : ∀ j, j < K → AL < P j ∧ AL < (D j).l
  inj : ∀ i j, i < K → j < K → P i = P j → i = j
  md : PM 67 kyD W MD N (fun c => (qd c).map P)
  mr : PM 2 kyR W MR N (fun c => (qr c).map P)
  bl4 : ∀ j, j < K → bl j < 4
  rf4 : ∀ j, j < K → (D j).rf < 4
  qdk : ∀ c j, qd c = some j → j < K
  qrk : ∀ c j, qr c = some j → j < K

theorem cell_of_heap {w : World} {b o : Nat} {cs : Array Value} {t : TypeId} {v : Value} (h : w.heap[b]? = some (.cells cs t)) (hv : cs[o]? = some v) : w.cell? ⟨b, o, none⟩ = some v := by
  simp [World.cell?, h, hv]
theorem frozen_of_heap {w : World} {b o : Nat} {cs : Array Value} {t : TypeId} (h : w.heap[b]? = some (.cells cs t)) : w.frozen? ⟨b, o, none⟩ = false := by
  simp [World.frozen?, h]
theorem heap_set {w : World} {b o : Nat} {cs : Array Value} {t : TypeId} (h : w.heap[b]? = some (.cells cs t)) (v : Value) : (w.setCell ⟨b, o, none⟩ v).heap[b]? = some (.cells (cs.setIfInBounds o v) t) := by
  simp [World.setCell, Array.getElem?_modify, h]

section
variable {w W W' : World} {MD MR S OW RO AL n K N : Nat} {P : Nat → Nat} {D : Nat → DS} {bl : Nat → Nat} {ow ro qd qr : Nat → Option Nat}

theorem Inv.s17 (h : Inv w MD MR S OW RO AL n K N P D bl ow ro qd qr W) : W.cell? ⟨S, 17, none⟩ = some (.map (some MD)) := cell_of_heap h.sess rfl
theorem Inv.s18 (h : Inv w MD MR S OW RO AL n K N P D bl ow ro qd qr W) : W.cell? ⟨S, 18, none⟩ = some (.map (some MR)) := cell_of_heap h.sess rfl

theorem Inv.lp (h : Inv w MD MR S OW RO AL n K N P D bl ow ro qd qr W) {i j : Nat} (hi : i < K) (hj : j < K) : (D i).l ≠ P j := by
  intro e
  have h1 := h.ll i hi
  have h2 := h.dl j hj
  rw [e, h2] at h1
  simp at h1

/-- A step that writes to the two maps and to dialogue j's block alone. -/
theorem Inv.step (h : Inv w MD MR S OW RO AL n K N P D bl ow ro qd qr W) {j : Nat} (hj : j < K) (hf : Frm (fun k => k = MD ∨ k = MR ∨ k = P j) W W')
    (d : DS) (hd : W'.heap[P j]? = some (.cells (dlgC d) 62)) (hdl : d.l = (D j).l) (hrf : d.rf < 4) {N' : Nat} {qd' qr' : Nat → Option Nat} (hN : N ≤ N')
    (md : PM 67 kyD W' MD N' (fun c => (qd' c).map P)) (mr : PM 2 kyR W' MR N' (fun c => (qr' c).map P)) (hqd : ∀ c j, qd' c = some j → j < K) (hqr : ∀ c j, qr' c = some j → j < K) :
    Inv w MD MR S OW RO AL n K N' P (fun i => if i = j then d else D i) bl ow ro qd' qr' W' := by
  obtain ⟨o1, o2, o3, o4, o5, o6, o7⟩ := h.ord
  have hge := h.ge j hj
  have blk : ∀ k, k < W.heap.size → k ≠ MD → k ≠ MR → k ≠ P j → W'.heap[k]? = W.heap[k]? := fun k hk a b c => hf.block k hk (by simp [a, b, c])
  refine ⟨h.bel.trans ⟨hf.os, hf.tape, hf.output, hf.size, fun k hk => blk k (by omega) (by omega) (by omega) (by omega)⟩, ⟨o1, o2, o3, o4, o5, o6, Nat.lt_of_lt_of_le o7 hf.size⟩,
    (blk S (by omega) (by omega) (by omega) (by omega)).trans h.sess, h.own.of_block (blk OW (by omega) (by omega) (by omega) (by omega)), h.rown.of_block (blk RO (by omega) (by omega) (by omega) (by omega)),
    h.all.of_block (blk AL (by omega) (by omega) (by omega) (by omega)), fun i hi => ?_, fun i hi => ?_, fun i hi => ?_, h.inj, md, mr, h.bl4, fun i hi => ?_, hqd, hqr⟩
  · by_cases e : i = j
    · subst e; simpa using hd
    · simp only [e, if_false]
      have := h.ge i hi
      exact (blk (P i) ((Array.getElem?_eq_some_iff.1 (h.dl i hi)).1) (by omega) (by omega) (fun e' => e (h.inj _ _ hi hj e'))).trans (h.dl i hi)
  · have hl : (if i = j then d else D i).l = (D i).l := by
      by_cases e : i = j
      · subst e; simpa using hdl
      · simp [e]
    rw [hl]
    have := h.ge i hi
    exact (blk _ ((Array.getElem?_eq_some_iff.1 (h.ll i hi)).1) (by omega) (by omega) (h.lp hi hj)).trans (h.ll i hi)
  · have hl : (if i = j then d else D i).l = (D i).l := by
      by_cases e : i = j
      · subst e; simpa using hdl
      · simp [e]
    rw [hl]
    exact h.ge i hi
  · by_cases e : i = j
    · subst e; simpa using hrf
    · simpa [e] using h.rf4 i hi

theorem map_upd (q : Nat → Option Nat) (c j : Nat) (P : Nat → Nat) : (fun k => (upd q c (some j) k).map P) = upd (fun k => (q k).map P) c (some (P j)) := by
  funext k; simp only [upd]; split <;> rfl
theorem map_upd_none (q : Nat → Option Nat) (c : Nat) (P : Nat → Nat) : (fun k => (upd q c none k).map P) = upd (fun k => (q k).map P) c none := by
  funext k; simp only [upd]; split <;> rfl

theorem upd_lt {q : Nat → Option Nat} {K c j : Nat} (h : ∀ c j, q c = some j → j < K) (hj : j < K) : ∀ c' i, upd q c (some j) c' = some i → i < K := by
  intro c' i hc
  simp only [upd] at hc
  split at hc
  · cases hc; exact hj
  · exact h _ _ hc
theorem upd_none_lt {q : Nat → Option Nat} {K c : Nat} (h : ∀ c j, q c = some j → j < K) : ∀ c' i, upd q c none c' = some i → i < K := by
  intro c' i hc
  simp only [upd] at hc
  split at hc
  · cases hc
  · exact h _ _ hc

/-- startTransaction, over 'Inv'. -/
theorem start_inv (h : Inv w MD MR S OW RO AL n K N P D bl ow ro qd qr W) {j p : Nat} (hj : j < K) (hN : N < maxLen) (hp : P j = p) :
    Calls Yba.prog 4 #[.pointer (some ⟨S, 0, none⟩), .pointer (some ⟨p, 0, none⟩)] W fun e w' => e = .returned (.tuple #[]) ∧
      Inv w MD MR S OW RO AL n K (N + 1) P (fun i => if i = j then (D j).begin else D i) bl ow ro (upd qd (bl j) (some j)) qr w' ∧ Frm (fun k => k = MD ∨ k = MR ∨ k = p) W w' := by
  subst hp
  obtain ⟨o1, o2, o3, o4, o5, o6, o7⟩ := h.ord
  have hge := h.ge j hj
  have hd := h.dl j hj
  refine (start_any S MD (P j) (D j).l (bl j) N _ (h.bl4 j hj) hN W (.bool (D j).bg) h.s17 (by omega) (h.lp hj hj) (cell_of_heap hd rfl) (cell_of_heap (h.ll j hj) rfl) (cell_of_heap hd rfl) (frozen_of_heap hd) h.md).mono ?_
  rintro e w' ⟨rfl, hm, hg⟩
  have hF : Frm (fun k => k = MD ∨ k = MR ∨ k = P j) W w' := (((Frm.refl _ _).setCell (p := ⟨P j, 8, none⟩) (.inr (.inr rfl)) _).trans (Frm.of_grown hg (.inl rfl)))
  refine ⟨rfl, h.step hj hF (D j).begin ?_ rfl (h.rf4 j hj) (Nat.le_succ _) ?_ ?_ (upd_lt h.qdk hj) h.qrk, hF⟩
  · refine (hg.block (P j) ?_ (by simp; omega)).trans ?_
    · simpa [World.setCell] using (Array.getElem?_eq_some_iff.1 hd).1
    · rw [heap_set hd]; rfl
  · rw [map_upd]; exact hm
  · refine (h.mr.mono (Nat.le_succ _)).of_block ((hg.block MR ?_ (by simp; omega)).trans (Below.heap_setCell _ _ _ _ ?_))
    · simpa [World.setCell] using h.mr.lt
    · show MR ≠ P j; omega

/-- bind, over 'Inv'. -/
theorem bind_inv (h : Inv w MD MR S OW RO AL n K N P D bl ow ro qd qr W) {j r p : Nat} (hj : j < K) (hr : r < 4) (hN : N < maxLen) (hp : P j = p) :
    Calls Yba.prog 5 #[.pointer (some ⟨S, 0, none⟩), .int .i64 (r : Int), .pointer (some ⟨p, 0, none⟩)] W fun e w' => e = .returned (.tuple #[]) ∧
      Inv w MD MR S OW RO AL n K (N + 1) P (fun i => if i = j then (D j).bindTo r else D i) bl ow ro qd (upd qr r (some j)) w' ∧ Frm (fun k => k = MD ∨ k = MR ∨ k = p) W w' := by
  subst hp
  obtain ⟨o1, o2, o3, o4, o5, o6, o7⟩ := h.ord
  have hge := h.ge j hj
  have hd := h.dl j hj
  refine (bind_any S MR (P j) r N _ hr hN W _ _ h.s18 (by omega) (cell_of_heap hd rfl) (cell_of_heap hd rfl) (frozen_of_heap hd) (frozen_of_heap hd) h.mr).mono ?_
  rintro e w' ⟨rfl, hm, hg⟩
  have hF : Frm (fun k => k = MD ∨ k = MR ∨ k = P j) W w' := ((((Frm.refl _ _).setCell (p := ⟨P j, 5, none⟩) (.inr (.inr rfl)) _).setCell (p := ⟨P j, 6, none⟩) (.inr (.inr rfl)) _).trans (Frm.of_grown hg (.inr (.inl rfl))))
  refine ⟨rfl, h.step hj hF ((D j).bindTo r) ?_ rfl hr (Nat.le_succ _) ?_ ?_ h.qdk (upd_lt h.qrk hj), hF⟩
  · refine (hg.block (P j) ?_ (by simp; omega)).trans ?_
    · simpa [World.setCell] using (Array.getElem?_eq_some_iff.1 hd).1
    · rw [heap_set (heap_set hd _)]; rfl
  · refine (h.md.mono (Nat.le_succ _)).of_block ((hg.block MD ?_ (by simp; omega)).trans ((Below.heap_setCell _ _ _ _ ?_).trans (Below.heap_setCell _ _ _ _ ?_)))
    · simpa [World.setCell] using h.md.lt
    · show MD ≠ P j; omega
    · show MD ≠ P j; omega
  · rw [map_upd]; exact hm

/-- What release leaves of the references: dialogue j's own entry goes. -/
def relQ (qr : Nat → Option Nat) (bd : Bool) (r j : Nat) : Nat → Option Nat := if bd = true ∧ qr r = some j then upd qr r none else qr

theorem set3 (d : DS) : (((dlgC d).setIfInBounds 6 (.bool false)).setIfInBounds 7 (.bool false)).setIfInBounds 14 (.slice none 0 0) = dlgC d.free := rfl

/-- release, over 'Inv'. -/
theorem release_inv (h : Inv w MD MR S OW RO AL n K N P D bl ow ro qd qr W) {j p : Nat} (hj : j < K) (hp : P j = p) :
    Calls Yba.prog 6 #[.pointer (some ⟨S, 0, none⟩), .pointer (some ⟨p, 0, none⟩)] W fun e w' => e = .returned (.tuple #[]) ∧
      Inv w MD MR S OW RO AL n K N P (fun i => if i = j then (D j).free else D i) bl ow ro (upd qd (bl j) none) (relQ qr (D j).bd (D j).rf j) w' := by
  subst hp
  obtain ⟨o1, o2, o3, o4, o5, o6, o7⟩ := h.ord
  have hge := h.ge j hj
  have hd := h.dl j hj
  have c0 : W.cell? ⟨P j, 0, none⟩ = some (.slice (some ⟨(D j).l, 0, none⟩) 1 1) := cell_of_heap hd rfl
  have c5 : W.cell? ⟨P j, 5, none⟩ = some (.int .i64 ((D j).rf : Int)) := cell_of_heap hd rfl
  have c6 : W.cell? ⟨P j, 6, none⟩ = some (.bool (D j).bd) := cell_of_heap hd rfl
  have c7 : W.cell? ⟨P j, 7, none⟩ = some (.bool (D j).op) := cell_of_heap hd rfl
  have c14 : W.cell? ⟨P j, 14, none⟩ = some (D j).cs := cell_of_heap hd rfl
  have ml : W.cell? ⟨(D j).l, 0, none⟩ = some (.int .u8 (bl j : Int)) := cell_of_heap (h.ll j hj) rfl
  have f6 : W.frozen? ⟨P j, 6, none⟩ = false := frozen_of_heap hd
  have f7 : W.frozen? ⟨P j, 7, none⟩ = false := frozen_of_heap hd
  have f14 : W.frozen? ⟨P j, 14, none⟩ = false := frozen_of_heap hd
  have fin : ∀ {A : Nat → Prop} {w2 : World}, (∀ k, A k → k = MD ∨ k = MR) → Frm A W w2 → PM 67 kyD w2 MD N (upd (fun c => (qd c).map P) (bl j) none) → PM 2 kyR w2 MR N (fun c => (relQ qr (D j).bd (D j).rf j c).map P) →
      Inv w MD MR S OW RO AL n K N P (fun i => if i = j then (D j).free else D i) bl ow ro (upd qd (bl j) none) (relQ qr (D j).bd (D j).rf j)
        (((w2.setCell ⟨P j, 6, none⟩ (.bool false)).setCell ⟨P j, 7, none⟩ (.bool false)).setCell ⟨P j, 14, none⟩ (.slice none 0 0)) := by
    intro A w2 hA hf hm hr
    have hf' : Frm (fun k => k = MD ∨ k = MR ∨ k = P j) W w2 := ⟨hf.os, hf.tape, hf.output, hf.size, fun k hk hn => hf.block k hk (fun ha => hn (by rcases hA k ha with e | e <;> simp [e]))⟩
    have hd2 : w2.heap[P j]? = some (.cells (dlgC (D j)) 62) := (hf.block (P j) ((Array.getElem?_eq_some_iff.1 hd).1) (fun ha => by rcases hA _ ha with e | e <;> omega)).trans hd
    have hMD : ∀ (o : Nat) (v : Value) (x : World), (x.setCell ⟨P j, o, none⟩ v).heap[MD]? = x.heap[MD]? := fun o v x => Below.heap_setCell _ _ _ _ (by show MD ≠ P j; omega)
    have hMR : ∀ (o : Nat) (v : Value) (x : World), (x.setCell ⟨P j, o, none⟩ v).heap[MR]? = x.heap[MR]? := fun o v x => Below.heap_setCell _ _ _ _ (by show MR ≠ P j; omega)
    refine h.step hj (((hf'.setCell (p := ⟨P j, 6, none⟩) (.inr (.inr rfl)) _).setCell (p := ⟨P j, 7, none⟩) (.inr (.inr rfl)) _).setCell (p := ⟨P j, 14, none⟩) (.inr (.inr rfl)) _) (D j).free ?_ rfl (h.rf4 j hj) (Nat.le_refl _) ?_ ?_ (upd_none_lt h.qdk) ?_
    · rw [heap_set (heap_set (heap_set hd2 _) _), set3]
    · rw [map_upd_none]; exact hm.of_block (by rw [hMD, hMD, hMD])
    · exact hr.of_block (by rw [hMR, hMR, hMR])
    · intro c i hc
      unfold relQ at hc
      split at hc
      · simp only [upd] at hc
        split at hc
        · cases hc
        · exact h.qrk _ _ hc
      · exact h.qrk _ _ hc
  have keepR : ∀ {w2 : World}, Frm (fun k => k = MD) W w2 → PM 2 kyR w2 MR N (fun c => (qr c).map P) := fun hf => h.mr.of_block (hf.block MR h.mr.lt (by omega))
  cases hb : (D j).bd with
  | false =>
    rw [hb] at c6 fin
    refine (release_free S MD (P j) (D j).l (bl j) N _ (h.bl4 j hj) W _ _ h.s17 (by omega) c0 ml c6 c7 c14 f6 f7 f14 h.md).mono ?_
    rintro e w' ⟨rfl, w2, hf, hm, rfl⟩
    refine ⟨rfl, fin (fun k hk => .inl hk) hf hm ?_⟩
    have : relQ qr false (D j).rf j = qr := by simp [relQ]
    rw [this]
    exact keepR hf
  | true =>
    rw [hb] at c6 fin
    by_cases hq : qr (D j).rf = some j
    · refine (release_hit S MD MR (P j) (D j).l (bl j) (D j).rf N N _ (fun c => (qr c).map P) (h.bl4 j hj) (h.rf4 j hj) W _ _ h.s17 h.s18 (by omega) (by omega) c0 ml c5 c6 c7 c14 f6 f7 f14 h.md h.mr (by simp [hq])).mono ?_
      rintro e w' ⟨rfl, w2, hf, hm, hr, rfl⟩
      refine ⟨rfl, fin (fun k hk => hk) hf hm ?_⟩
      have : relQ qr true (D j).rf j = upd qr (D j).rf none := by simp [relQ, hq]
      rw [this, map_upd_none]
      exact hr
    · refine (release_miss S MD MR (P j) (D j).l (bl j) (D j).rf N N _ (fun c => (qr c).map P) (h.bl4 j hj) (h.rf4 j hj) W _ _ h.s17 h.s18 (by omega) (by omega) c0 ml c5 c6 c7 c14 f6 f7 f14 h.md h.mr ?_ ?_ ⟨_, _, hd⟩).mono ?_
      · intro e
        obtain ⟨i, hi, hp⟩ := Option.map_eq_some_iff.1 e
        exact hq (by rw [hi, h.inj _ _ (h.qrk _ _ hi) hj hp])
      · intro p hp
        obtain ⟨i, hi, rfl⟩ := Option.map_eq_some_iff.1 hp
        exact ⟨_, _, h.dl i (h.qrk _ _ hi)⟩
      rintro e w' ⟨rfl, w2, hf, hm, rfl⟩
      refine ⟨rfl, fin (fun k hk => .inl hk) hf hm ?_⟩
      have : relQ qr true (D j).rf j = qr := by simp [relQ, hq]
      rw [this]
      exact keepR hf

theorem Inv.monoN (h : Inv w MD MR S OW RO AL n K N P D bl ow ro qd qr W) {N' : Nat} (hN : N ≤ N') : Inv w MD MR S OW RO AL n K N' P D bl ow ro qd qr W :=
  { h with md := h.md.mono hN, mr := h.mr.mono hN }

theorem Inv.congrD (h : Inv w MD MR S OW RO AL n K N P D bl ow ro qd qr W) {D' : Nat → DS} (hD : ∀ j, j < K → D' j = D j) : Inv w MD MR S OW RO AL n K N P D' bl ow ro qd qr W :=
  { h with dl := fun j hj => by rw [hD j hj]; exact h.dl j hj, ll := fun j hj => by rw [hD j hj]; exact h.ll j hj, ge := fun j hj => by rw [hD j hj]; exact h.ge j hj, rf4 := fun j hj => by rw [hD j hj]; exact h.rf4 j hj }

theorem Inv.drewN (h : Inv w MD MR S OW RO AL n K N P D bl ow ro qd qr W) (m : Nat) : Inv w MD MR S OW RO AL n K N P D bl ow ro qd qr (W.drewN m) :=
  { h with bel := ⟨h.bel.os, h.bel.tape, h.bel.output, h.bel.size, h.bel.block⟩, md := h.md.of_block rfl, mr := h.mr.of_block rfl }

/-- One of the four cells of the owners' row is written. -/
theorem Inv.setOwn (h : Inv w MD MR S OW RO AL n K N P D bl ow ro qd qr W) (c : Nat) (o : Option Nat) : Inv w MD MR S OW RO AL n K N P D bl (upd ow c o) ro qd qr (W.setCell ⟨OW, c, none⟩ (.int .i64 (oI o))) := by
  obtain ⟨o1, o2, o3, o4, o5, o6, o7⟩ := h.ord
  have blk : ∀ k, k ≠ OW → (W.setCell ⟨OW, c, none⟩ (.int .i64 (oI o))).heap[k]? = W.heap[k]? := fun k hk => Below.heap_setCell _ _ _ _ hk
  have hge := h.ge
  refine { h with bel := h.bel.setCell (p := ⟨OW, c, none⟩) (show _ ≤ OW by omega) _, ord := ⟨o1, o2, o3, o4, o5, o6, by simpa [World.setCell] using o7⟩, sess := (blk S (by omega)).trans h.sess, own := ?_, rown := h.rown.of_block (blk _ (by omega)), all := h.all.of_block (blk _ (by omega)), dl := fun j hj => (blk _ (by have := hge j hj; omega)).trans (h.dl j hj), ll := fun j hj => (blk _ (by have := hge j hj; omega)).trans (h.ll j hj), md := h.md.of_block (blk _ (by omega)), mr := h.mr.of_block (blk _ (by omega)) }
  refine (h.own.set c _).congr fun i hi => ?_
  by_cases e : i = c <;> simp [upd, e]

theorem Inv.setRef (h : Inv w MD MR S OW RO AL n K N P D bl ow ro qd qr W) (c : Nat) (o : Option Nat) : Inv w MD MR S OW RO AL n K N P D bl ow (upd ro c o) qd qr (W.setCell ⟨RO, c, none⟩ (.int .i64 (oI o))) := by
  obtain ⟨o1, o2, o3, o4, o5, o6, o7⟩ := h.ord
  have blk : ∀ k, k ≠ RO → (W.setCell ⟨RO, c, none⟩ (.int .i64 (oI o))).heap[k]? = W.heap[k]? := fun k hk => Below.heap_setCell _ _ _ _ hk
  have hge := h.ge
  refine { h with bel := h.bel.setCell (p := ⟨RO, c, none⟩) (show _ ≤ RO by omega) _, ord := ⟨o1, o2, o3, o4, o5, o6, by simpa [World.setCell] using o7⟩, sess := (blk S (by omega)).trans h.sess, rown := ?_, own := h.own.of_block (blk _ (by omega)), all := h.all.of_block (blk _ (by omega)), dl := fun j hj => (blk _ (by have := hge j hj; omega)).trans (h.dl j hj), ll := fun j hj => (blk _ (by have := hge j hj; omega)).trans (h.ll j hj), md := h.md.of_block (blk _ (by omega)), mr := h.mr.of_block (blk _ (by omega)) }
  refine (h.rown.set c _).congr fun i hi => ?_
  by_cases e : i = c <;> simp [upd, e]

/-- A dialogue more. -/
theorem Inv.new (h : Inv w MD MR S OW RO AL n K N P D bl ow ro qd qr W) (hf : Frm (fun k => k = AL) W W') (p : Nat) (d : DS) (hp : W.heap.size ≤ p) (hl : W.heap.size ≤ d.l)
    (hd : W'.heap[p]? = some (.cells (dlgC d) 62)) (hll : W'.heap[d.l]? = some (.cells #[.int .u8 (bl K : Int)] 5))
    (ha : W'.rowIs AL 45 n (fun j => if j = K then .pointer (some ⟨p, 0, none⟩) else if j < K then .pointer (some ⟨P j, 0, none⟩) else .pointer none)) (hb : bl K < 4) (hrf : d.rf < 4) :
    Inv w MD MR S OW RO AL n (K + 1) N (fun j => if j = K then p else P j) (fun j => if j = K then d else D j) bl ow ro qd qr W' := by
  obtain ⟨o1, o2, o3, o4, o5, o6, o7⟩ := h.ord
  have blk : ∀ k, k < W.heap.size → k ≠ AL → W'.heap[k]? = W.heap[k]? := fun k hk a => hf.block k hk a
  have hPlt : ∀ j, j < K → P j < W.heap.size := fun j hj => (Array.getElem?_eq_some_iff.1 (h.dl j hj)).1
  have hLlt : ∀ j, j < K → (D j).l < W.heap.size := fun j hj => (Array.getElem?_eq_some_iff.1 (h.ll j hj)).1
  have mapP : ∀ q : Nat → Option Nat, (∀ c j, q c = some j → j < K) → (fun c => (q c).map (fun j => if j = K then p else P j)) = fun c => (q c).map P := by
    intro q hq
    funext c
    cases e : q c with
    | none => rfl
    | some j => have := hq c j e; simp; omega
  refine ⟨h.bel.trans ⟨hf.os, hf.tape, hf.output, hf.size, fun k hk => blk k (by omega) (by omega)⟩, ⟨o1, o2, o3, o4, o5, o6, Nat.lt_of_lt_of_le o7 hf.size⟩,
    (blk S (by omega) (by omega)).trans h.sess, h.own.of_block (blk OW (by omega) (by omega)), h.rown.of_block (blk RO (by omega) (by omega)), ha.congr fun j _ => ?_, fun j hj => ?_, fun j hj => ?_, fun j hj => ?_, fun i j hi hj e => ?_, ?_, ?_, fun j hj => ?_, fun j hj => ?_, fun c j e => Nat.lt_succ_of_lt (h.qdk c j e), fun c j e => Nat.lt_succ_of_lt (h.qrk c j e)⟩
  · by_cases e : j = K
    · simp [e]
    · by_cases e2 : j < K
      · have e3 : j < K + 1 := by omega
        simp [e, e2, e3]
      · have e3 : ¬ j < K + 1 := by omega
        simp [e, e2, e3]
  · by_cases e : j = K
    · simpa [e] using hd
    · have hj' : j < K := by omega
      have := h.ge j hj'
      simp only [e, if_false]
      exact (blk _ (hPlt j hj') (by omega)).trans (h.dl j hj')
  · by_cases e : j = K
    · simpa [e] using hll
    · have hj' : j < K := by omega
      have := h.ge j hj'
      simp only [e, if_false]
      exact (blk _ (hLlt j hj') (by omega)).trans (h.ll j hj')
  · by_cases e : j = K
    · simp [e]; omega
    · have := h.ge j (by omega)
      simpa [e] using this
  · by_cases e1 : i = K <;> by_cases e2 : j = K
    · omega
    · have := hPlt j (by omega)
      simp only [e1, e2, if_true, if_false] at e
      omega
    · have := hPlt i (by omega)
      simp only [e1, e2, if_true, if_false] at e
      omega
    · simp only [e1, e2, if_false] at e
      exact h.inj _ _ (by omega) (by omega) e
  · rw [mapP _ h.qdk]; exact h.md.of_block (blk _ (by omega) (by omega))
  · rw [mapP _ h.qrk]; exact h.mr.of_block (blk _ (by omega) (by omega))
  · by_cases e : j = K
    · rw [e]; exact hb
    · exact h.bl4 j (by omega)
  · by_cases e : j = K
    · simpa [e] using hrf
    · simpa [e] using h.rf4 j (by omega)

theorem Frm.at_alloc {A : Nat → Prop} {a : World} (o : Obj) (h : Frm A W a) : Frm A W (a.alloc o) := h.alloc o

/-- The round's new blocks: the element's copy, the id's octet, the dialogue; 'all[K]' leads to it. -/
theorem Inv.new0 (h : Inv w MD MR S OW RO AL n K N P D bl ow ro qd qr W) (c : Nat) (hc : bl K = c) (hb : c < 4) (o : Obj) (d : DS) (hl : d.l = W.heap.size + 1) (hrf : d.rf < 4) :
    Inv w MD MR S OW RO AL n (K + 1) N (fun j => if j = K then W.heap.size + 1 + 1 else P j) (fun j => if j = K then d else D j) bl ow ro qd qr
      ((((W.setCell ⟨AL, K, none⟩ (.pointer (some ⟨W.heap.size + 1 + 1, 0, none⟩))).alloc o).alloc (.cells #[.int .u8 (c : Int)] 5)).alloc (.cells (dlgC d) 62)) := by
  subst hc
  obtain ⟨o1, o2, o3, o4, o5, o6, o7⟩ := h.ord
  have z0 : (W.setCell ⟨AL, K, none⟩ (.pointer (some ⟨W.heap.size + 1 + 1, 0, none⟩))).heap.size = W.heap.size := by simp [World.setCell]
  generalize hx : W.setCell ⟨AL, K, none⟩ (.pointer (some ⟨W.heap.size + 1 + 1, 0, none⟩)) = X at z0
  have hfX : Frm (fun k => k = AL) W X := hx ▸ (Frm.refl (fun k => k = AL) W).setCell (p := ⟨AL, K, none⟩) rfl _
  have ha : X.rowIs AL 45 n (fun j => if j = K then .pointer (some ⟨W.heap.size + 1 + 1, 0, none⟩) else if j < K then .pointer (some ⟨P j, 0, none⟩) else .pointer none) := hx ▸ h.all.set K _
  refine h.new (((hfX.alloc _).alloc _).alloc _) _ d (by omega) (by omega) ?_ ?_ (((ha.alloc _).alloc _).alloc _) hb hrf
  · have e : W.heap.size + 1 + 1 = ((X.alloc o).alloc (.cells #[.int .u8 (bl K : Int)] 5)).heap.size := by simp [z0]
    rw [e]; exact blk_alloc_new _ _
  · have e : d.l = (X.alloc o).heap.size := by simp [z0, hl]
    rw [e, blk_alloc_lt _ _ _ (by simp)]; exact blk_alloc_new _ _

theorem Inv.alloc (h : Inv w MD MR S OW RO AL n K N P D bl ow ro qd qr W) (o : Obj) : Inv w MD MR S OW RO AL n K N P D bl ow ro qd qr (W.alloc o) := by
  obtain ⟨o1, o2, o3, o4, o5, o6, o7⟩ := h.ord
  have blk : ∀ k, k < W.heap.size → (W.alloc o).heap[k]? = W.heap[k]? := fun k hk => blk_alloc_lt _ _ _ hk
  exact { h with bel := h.bel.alloc (by omega) o, ord := ⟨o1, o2, o3, o4, o5, o6, by simp; omega⟩, sess := (blk S (by omega)).trans h.sess, own := h.own.alloc o, rown := h.rown.alloc o, all := h.all.alloc o, dl := fun j hj => (blk _ ((Array.getElem?_eq_some_iff.1 (h.dl j hj)).1)).trans (h.dl j hj), ll := fun j hj => (blk _ ((Array.getElem?_eq_some_iff.1 (h.ll j hj)).1)).trans (h.ll j hj), md := h.md.of_block (blk _ h.md.lt), mr := h.mr.of_block (blk _ h.mr.lt) }
end

/-- At the start: two empty maps, the session, the owners' rows, an empty 'all'. -/
theorem Inv.start (w : World) (n : Nat) (P : Nat → Nat) (D : Nat → DS) (bl : Nat → Nat) :
    Inv w w.heap.size (w.heap.size + 1) (w.heap.size + 1 + 1) (w.heap.size + 1 + 1 + 1) (w.heap.size + 1 + 1 + 1 + 1) (w.heap.size + 1 + 1 + 1 + 1 + 1) n 0 0 P D bl (fun _ => none) (fun _ => none) (fun _ => none) (fun _ => none)
      ((((((w.alloc (.map #[] 0)).alloc (.map #[] 0)).alloc (.cells (sessC w.heap.size (w.heap.size + 1)) 50)).alloc (.cells #[.int .i64 (-1), .int .i64 (-1), .int .i64 (-1), .int .i64 (-1)] 51)).alloc (.cells #[.int .i64 (-1), .int .i64 (-1), .int .i64 (-1), .int .i64 (-1)] 51)).alloc (.cells (madeCells #[.pointer none] n) 45)) := by
  have r4 : ∀ x : World, (x.alloc (.cells #[.int .i64 (-1), .int .i64 (-1), .int .i64 (-1), .int .i64 (-1)] 51)).rowIs x.heap.size 51 4 (fun c => .int .i64 (oI none)) := fun x =>
    x.rowIs_alloc #[.int .i64 (-1), .int .i64 (-1), .int .i64 (-1), .int .i64 (-1)] 51 _ (fun i hi => by
      match i, hi with
      | 0, _ => rfl
      | 1, _ => rfl
      | 2, _ => rfl
      | 3, _ => rfl)
  generalize h1 : w.alloc (.map #[] 0) = w1
  have s1 : w1.heap.size = w.heap.size + 1 := by subst h1; simp
  generalize h2 : w1.alloc (.map #[] 0) = w2
  have s2 : w2.heap.size = w.heap.size + 1 + 1 := by subst h2; simp [s1]
  generalize h3 : w2.alloc (.cells (sessC w.heap.size (w.heap.size + 1)) 50) = w3
  have s3 : w3.heap.size = w.heap.size + 1 + 1 + 1 := by subst h3; simp [s2]
  generalize h4 : w3.alloc (.cells #[.int .i64 (-1), .int .i64 (-1), .int .i64 (-1), .int .i64 (-1)] 51) = w4
  have s4 : w4.heap.size = w.heap.size + 1 + 1 + 1 + 1 := by subst h4; simp [s3]
  generalize h5 : w4.alloc (.cells #[.int .i64 (-1), .int .i64 (-1), .int .i64 (-1), .int .i64 (-1)] 51) = w5
  have s5 : w5.heap.size = w.heap.size + 1 + 1 + 1 + 1 + 1 := by subst h5; simp [s4]
  have lt : ∀ (x : World) (o : Obj) (k : Nat), k < x.heap.size → (x.alloc o).heap[k]? = x.heap[k]? := fun x o k h => blk_alloc_lt x o k h
  have bel : Below w.heap.size w (w5.alloc (.cells (madeCells #[.pointer none] n) 45)) := by
    subst h5 h4 h3 h2 h1
    exact ((((((Below.refl _ _).alloc (Nat.le_refl _) _).alloc (by omega) _).alloc (by omega) _).alloc (by omega) _).alloc (by omega) _).alloc (by omega) _
  have md : PM 67 kyD w1 w.heap.size 0 (fun _ => none) := h1 ▸ PM.made _ _ _
  have mr : PM 2 kyR w2 (w.heap.size + 1) 0 (fun _ => none) := by rw [← h2, ← s1]; exact PM.made _ _ _
  refine ⟨bel, ⟨Nat.le_refl _, by omega, by omega, by omega, by omega, by omega, by simp; omega⟩, ?_, ?_, ?_, ?_, fun j hj => absurd hj (Nat.not_lt_zero _), fun j hj => absurd hj (Nat.not_lt_zero _), fun j hj => absurd hj (Nat.not_lt_zero _), fun i j hj => absurd hj (Nat.not_lt_zero _), ?_, ?_, fun j hj => absurd hj (Nat.not_lt_zero _), fun j hj => absurd hj (Nat.not_lt_zero _), fun c j e => by simp at e, fun c j e => by simp at e⟩
  · rw [lt _ _ _ (by omega), ← h5, lt _ _ _ (by omega), ← h4, lt _ _ _ (by omega), ← h3, ← s2]
    exact blk_alloc_new _ _
  · refine World.rowIs.alloc ?_ _
    rw [← h5]
    refine World.rowIs.alloc ?_ _
    rw [← h4, ← s3]
    exact r4 w3
  · refine World.rowIs.alloc ?_ _
    rw [← h5, ← s4]
    exact r4 w4
  · rw [← s5]
    exact (World.rowIs_made _ _ _ _).congr fun i _ => by simp
  · refine md.of_block ?_
    rw [lt _ _ _ (by omega), ← h5, lt _ _ _ (by omega), ← h4, lt _ _ _ (by omega), ← h3, lt _ _ _ (by omega), ← h2, lt _ _ _ (by omega)]
  · refine mr.of_block ?_
    rw [lt _ _ _ (by omega), ← h5, lt _ _ _ (by omega), ← h4, lt _ _ _ (by omega), ← h3, lt _ _ _ (by omega)]

/-- Who owns key c after the first k entries: the last of them that began (or bound) at that key. -/
def ownTo (f : Nat → Bool) (g : Nat → Nat) : Nat → Nat → Option Nat
  | 0 => fun _ => none
  | k + 1 => if f k = true then upd (ownTo f g k) (g k) (some k) else ownTo f g k

theorem ownTo_yes {f : Nat → Bool} {g : Nat → Nat} {k : Nat} (h : f k = true) : ownTo f g (k + 1) = upd (ownTo f g k) (g k) (some k) := by simp [ownTo, h]
theorem ownTo_no {f : Nat → Bool} {g : Nat → Nat} {k : Nat} (h : f k = false) : ownTo f g (k + 1) = ownTo f g k := by simp [ownTo, h]

/-- What a dialogue holds when the building is over. -/
structure Built (be bi : Nat → Bool) (rb cm : Nat → Nat) (j : Nat) (d : DS) : Prop where
  rf : d.rf = if bi j = true then rb j else 0
  bd : d.bd = bi j
  op : d.op = true
  bg : d.bg = be j
  cs : ∃ a, d.cs = .slice a (cm j) (cm j)

/-- The element's copy lies where it was laid. -/
theorem copy_lies (W : World) (a : Addr) (v : Value) (o l d : Obj) : ((((W.setCell a v).alloc o).alloc l).alloc d).heap[W.heap.size]? = some o := by
  have z : (W.setCell a v).heap.size = W.heap.size := by simp [World.setCell]
  rw [blk_alloc_lt _ _ _ (by simp [z]; omega), blk_alloc_lt _ _ _ (by simp [z]), ← z]
  exact blk_alloc_new _ _
theorem copy_lies' (W : World) (a : Addr) (v : Value) (o l d x : Obj) : (((((W.setCell a v).alloc o).alloc l).alloc d).alloc x).heap[W.heap.size]? = some o := by
  have z : (W.setCell a v).heap.size = W.heap.size := by simp [World.setCell]
  rw [blk_alloc_lt _ _ _ (by simp [z]; omega)]
  exact copy_lies ..
theorem copy_lt (W : World) (a : Addr) (v : Value) (o l d : Obj) : W.heap.size < ((((W.setCell a v).alloc o).alloc l).alloc d).heap.size := by
  have z : (W.setCell a v).heap.size = W.heap.size := by simp [World.setCell]
  simp [z]; omega
theorem copy_lt' (W : World) (a : Addr) (v : Value) (o l d x : Obj) : W.heap.size < (((((W.setCell a v).alloc o).alloc l).alloc d).alloc x).heap.size := by
  have z : (W.setCell a v).heap.size = W.heap.size := by simp [World.setCell]
  simp [z]; omega

/-- A round's end. -/
theorem Inv.close {w W : World} {MD MR S OW RO AL n k N : Nat} {P' : Nat → Nat} {D D' : Nat → DS} {bl : Nat → Nat} {ow ro qd qr ow' ro' : Nat → Option Nat} {be bi : Nat → Bool} {rb cm : Nat → Nat}
    (hB : ∀ j, j < k → Built be bi rb cm j (D j)) (d : DS) (hd : Built be bi rb cm k d) (hI : Inv w MD MR S OW RO AL n (k + 1) N P' D' bl ow ro qd qr W)
    (hD : ∀ j, j < k + 1 → (if j = k then d else D j) = D' j) (hN : N ≤ 2 * (k + 1)) (h1 : ow = ow') (h2 : ro = ro') (h3 : qd = ow') (h4 : qr = ro') :
    ∃ P D, (∀ j, j < k + 1 → Built be bi rb cm j (D j)) ∧ Inv w MD MR S OW RO AL n (k + 1) (2 * (k + 1)) P D bl ow' ro' ow' ro' W := by
  subst h1 h2 h3 h4
  refine ⟨P', fun j => if j = k then d else D j, fun j hj => ?_, (hI.congrD hD).monoN hN⟩
  by_cases e : j = k
  · subst e; simpa using hd
  · simpa [e] using hB j (by omega)

/-- How many of the first j keys are owned. -/
def cntTo (q : Nat → Option Nat) : Nat → Nat
  | 0 => 0
  | j + 1 => cntTo q j + (if (q j).isSome then 1 else 0)

theorem cntTo_le (q : Nat → Option Nat) : ∀ j, cntTo q j ≤ j
  | 0 => Nat.le_refl _
  | j + 1 => by have := cntTo_le q j; simp only [cntTo]; split <;> omega

theorem cntTo_none {q : Nat → Option Nat} {j : Nat} (h : q j = none) : cntTo q (j + 1) = cntTo q j := by simp [cntTo, h]
theorem cntTo_some {q : Nat → Option Nat} {j i : Nat} (h : q j = some i) : cntTo q (j + 1) = cntTo q j + 1 := by simp [cntTo, h]

theorem cnt_map (q : Nat → Option Nat) (P : Nat → Nat) : cnt (fun c => (q c).map P) = cntTo q 4 := by simp [cnt, cntTo]

theorem ptr_neq_same (w : World) (P : Nat) : (binOp .neq 45 (.pointer (some ⟨P, 0, none⟩)) (.pointer (some ⟨P, 0, none⟩))).run Yba.prog w = .ok (.bool false) w := by
  obtain ⟨j, hj, _⟩ := Option.map_eq_some_iff.1 size62
  have h : ∀ d : Nat, (Op.equalIn (d + 1) 45 (.pointer (some ⟨P, 0, none⟩)) (.pointer (some ⟨P, 0, none⟩))).run Yba.prog w = .ok true w := fun d => by
    simp [Op.equalIn, run_underlying Yba.underlying45, sizeOf, typeInfo, hj, run_sameAddr_same]
  simp only [binOp]
  simp [Op.equal, Op.maxDepth, h 9999]
end Go.Proofs.Ybulkatxe
