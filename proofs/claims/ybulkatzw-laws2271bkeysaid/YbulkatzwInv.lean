/-
  LawS2271BKey: what its second loop lays.
-/
import Derived.Test.YbulkatzwFs
import Derived.Lib.BufferWrite
namespace Go.Proofs.Ybulkatzw
open Go.RowKit Go.Lib
set_option linter.unusedVariables false
set_option linter.unusedSimpArgs false
set_option maxRecDepth 100000

theorem info33' : (Yba.prog.info? 33).map (fun i => (i.size, decide (i.bytes ≤ 64), i.zero.map (fun z => z.cells.size))) = some (3, true, some 3) := by kernel_rfl
theorem info33 : ∃ i z, Yba.prog.info? 33 = some i ∧ i.size = 3 ∧ i.bytes ≤ 64 ∧ i.zero = some z := by
  obtain ⟨i, h1, h2⟩ := Option.map_eq_some_iff.1 info33'
  simp only [Prod.mk.injEq, decide_eq_true_eq] at h2
  obtain ⟨z, h3, _⟩ := Option.map_eq_some_iff.1 h2.2.2
  exact ⟨i, z, h1, h2.1, h2.2.1, h3⟩
theorem info23' : (Yba.prog.info? 23).map (fun i => (i.size, decide (i.bytes ≤ 64), i.zero.map (fun z => z.cells.size))) = some (1, true, some 1) := by kernel_rfl
theorem info23 : ∃ i z, Yba.prog.info? 23 = some i ∧ i.size = 1 ∧ i.bytes ≤ 64 ∧ i.zero = some z := by
  obtain ⟨i, h1, h2⟩ := Option.map_eq_some_iff.1 info23'
  simp only [Prod.mk.injEq, decide_eq_true_eq] at h2
  obtain ⟨z, h3, _⟩ := Option.map_eq_some_iff.1 h2.2.2
  exact ⟨i, z, h1, h2.1, h2.2.1, h3⟩

theorem bytes_le {i : TypeInfo} {n : Nat} (h : i.bytes ≤ 64) (hn : n ≤ 1048576) : (i.bytes : Int) * (n : Int) ≤ 281474976710656 := by
  have := Nat.mul_le_mul h hn
  rw [← Int.natCast_mul]
  omega

theorem make_defs (n : Nat) (hn : n ≤ 1048576) : ∃ arr : Array Value, arr.size = n * 3 ∧ ∀ w : World,
    (Instr.makeSlice 27 (.int .i64 (n : Int)) (.int .i64 (n : Int))).run Yba.prog w = .ok (.slice (some ⟨w.heap.size, 0, none⟩) n n) (w.alloc (.cells arr 33)) := by
  obtain ⟨i, z, hi, hs, hby, hz⟩ := info33
  refine ⟨madeCells z.cells (n * i.size), ?_, fun w => ?_⟩
  rotate_left
  · have h := run_make (P := Yba.prog) w 27 33 i z Yba.underlying27 hi hz .i64 .i64 (n : Int) (n : Int) (by omega) (by omega) (bytes_le hby hn) (by omega)
    simp only [Int.toNat_natCast] at h
    exact h
  · rw [size_madeCells, hs]
theorem make_vals (n : Nat) (hn : n ≤ 1048576) : ∃ arr : Array Value, arr.size = n ∧ ∀ w : World,
    (Instr.makeSlice 28 (.int .i64 (n : Int)) (.int .i64 (n : Int))).run Yba.prog w = .ok (.slice (some ⟨w.heap.size, 0, none⟩) n n) (w.alloc (.cells arr 20)) := by
  obtain ⟨i, hi, hs, hby, hz⟩ := info20
  refine ⟨madeCells Value.nilIface.cells (n * i.size), ?_, fun w => ?_⟩
  rotate_left
  · have h := run_make (P := Yba.prog) w 28 20 i .nilIface Yba.underlying28 hi hz .i64 .i64 (n : Int) (n : Int) (by omega) (by omega) (by rw [hby]; omega) (by omega)
    simp only [Int.toNat_natCast] at h
    exact h
  · rw [size_madeCells, hs, Nat.mul_one]
theorem make_parts (n : Nat) (hn : n ≤ 1048576) : ∃ arr : Array Value, arr.size = n ∧ ∀ w : World,
    (Instr.makeSlice 29 (.int .i64 (n : Int)) (.int .i64 (n : Int))).run Yba.prog w = .ok (.slice (some ⟨w.heap.size, 0, none⟩) n n) (w.alloc (.cells arr 23)) := by
  obtain ⟨i, z, hi, hs, hby, hz⟩ := info23
  refine ⟨madeCells z.cells (n * i.size), ?_, fun w => ?_⟩
  rotate_left
  · have h := run_make (P := Yba.prog) w 29 23 i z Yba.underlying29 hi hz .i64 .i64 (n : Int) (n : Int) (by omega) (by omega) (bytes_le hby hn) (by omega)
    simp only [Int.toNat_natCast] at h
    exact h
  · rw [size_madeCells, hs, Nat.mul_one]

/-- What lies behind the three tables stays. -/
def Up (B : Nat) (w w' : World) : Prop := ∀ K, B ≤ K → K < w.heap.size → w'.heap[K]? = w.heap[K]?
theorem Up.part {w w' : World} {B : Nat} {v : Value} {l : List UInt8} (h : Up B w w') (hs : w.heap.size ≤ w'.heap.size) (ho : PartOk w B v l) : PartOk w' B v l := by
  obtain ⟨a, c, e, h1, h2⟩ := ho
  refine ⟨a, c, e, h1, fun ad e => ?_⟩
  obtain ⟨K, e, hK, hl, hc⟩ := h2 ad e
  refine ⟨K, e, hK, by omega, fun j hj => ?_⟩
  rw [← hc j hj]
  simp only [World.cell?, h K hK hl]
theorem Up.val {w w' : World} {B : Nat} {f : Fd} {v : Value} (h : Up B w w') (hs : w.heap.size ≤ w'.heap.size) (hv : ValOk w B f v) : ValOk w' B f v := by
  unfold ValOk at hv ⊢
  split
  · simpa [*] using hv
  · split
    · simpa [*] using hv
    · split
      · simpa [*] using hv
      · split
        · simpa [*] using hv
        · simp only [*, if_false] at hv
          obtain ⟨u, e, ho⟩ := hv
          exact ⟨u, e, h.part hs ho⟩

structure Inv (w wr : World) (n k : Nat) (F : Nat → Fd) : Prop where
  below : Below w.heap.size w wr
  defs : ∃ ad : Array Value, ad.size = n * 3 ∧ wr.heap[w.heap.size]? = some (.cells ad 33 (0, 0)) ∧ ∀ j, j < k → ad[j * 3]? = some (.string ⟨#[]⟩) ∧ ad[j * 3 + 1]? = some (.int .u8 (tyOf (F j) : Int)) ∧ ad[j * 3 + 2]? = some (.int .i64 (szF (F j) : Int))
  vals : ∃ av : Array Value, av.size = n ∧ wr.heap[w.heap.size + 1]? = some (.cells av 20 (0, 0)) ∧ ∀ j, j < k → ∃ v, av[j]? = some v ∧ ValOk wr (w.heap.size + 3) (F j) v
  parts : ∃ ap : Array Value, ap.size = n ∧ wr.heap[w.heap.size + 2]? = some (.cells ap 23 (0, 0)) ∧ ∀ j, j < k → ∃ v, ap[j]? = some v ∧ PartOk wr (w.heap.size + 3) v (partF (F j))

theorem Inv.start (w : World) (n : Nat) (F : Nat → Fd) (ad av ap : Array Value) (h1 : ad.size = n * 3) (h2 : av.size = n) (h3 : ap.size = n) : Inv w (((w.alloc (.cells ad 33)).alloc (.cells av 20)).alloc (.cells ap 23)) n 0 F := by
  have s1 : (w.alloc (.cells ad 33)).heap.size = w.heap.size + 1 := by simp
  have s2 : ((w.alloc (.cells ad 33)).alloc (.cells av 20)).heap.size = w.heap.size + 2 := by simp
  refine ⟨(((Below.refl _ _).alloc (Nat.le_refl _) _).alloc (by simp) _).alloc (by simp; omega) _, ⟨ad, h1, ?_, fun j hj => absurd hj (Nat.not_lt_zero _)⟩, ⟨av, h2, ?_, fun j hj => absurd hj (Nat.not_lt_zero _)⟩, ⟨ap, h3, ?_, fun j hj => absurd hj (Nat.not_lt_zero _)⟩⟩
  · rw [Below.heap_alloc _ _ _ (by omega), Below.heap_alloc _ _ _ (by omega)]
    exact heap_alloc_new w _
  · rw [Below.heap_alloc _ _ _ (by omega)]
    exact new_at _ s1.symm _
  · exact new_at _ s2.symm _

/-- How far a round has come: the three tables turned by d, v, p; all else that was there as it was. -/
structure St (B : Nat) (wr W : World) (d v p : Array Value → Array Value) : Prop where
  three : B + 3 ≤ wr.heap.size
  below : Below B wr W
  up : Up (B + 3) wr W
  defs : ∀ a : Array Value, wr.heap[B]? = some (.cells a 33 (0, 0)) → W.heap[B]? = some (.cells (d a) 33 (0, 0))
  vals : ∀ a : Array Value, wr.heap[B + 1]? = some (.cells a 20 (0, 0)) → W.heap[B + 1]? = some (.cells (v a) 20 (0, 0))
  parts : ∀ a : Array Value, wr.heap[B + 2]? = some (.cells a 23 (0, 0)) → W.heap[B + 2]? = some (.cells (p a) 23 (0, 0))
theorem St.refl {B : Nat} {wr : World} (h : B + 3 ≤ wr.heap.size) : St B wr wr id id id := ⟨h, Below.refl _ _, fun _ _ _ => rfl, fun _ h => h, fun _ h => h, fun _ h => h⟩
/-- Only new blocks have turned. -/
theorem St.then {B : Nat} {wr W W' : World} {d v p : Array Value → Array Value} (h : St B wr W d v p) (hb : Below wr.heap.size W W') : St B wr W' d v p := by
  have h3 := h.three
  have hs := h.below.size
  have go : ∀ K, K < wr.heap.size → W'.heap[K]? = W.heap[K]? := fun K hK => hb.block K hK
  exact ⟨h3, h.below.trans (hb.mono (by omega)), fun K h1 h2 => (go K h2).trans (h.up K h1 h2), fun a ha => (go _ (by omega)).trans (h.defs a ha), fun a ha => (go _ (by omega)).trans (h.vals a ha), fun a ha => (go _ (by omega)).trans (h.parts a ha)⟩
theorem St.alloc {B : Nat} {wr W : World} {d v p : Array Value → Array Value} (h : St B wr W d v p) (o : Obj) : St B wr (W.alloc o) d v p := h.then ((Below.refl _ _).alloc h.below.size _)
theorem below_setCell {B K k : Nat} {w0 w : World} {u : Value} (hb : Below B w0 w) (h : B ≤ K) : Below B w0 (w.setCell ⟨K, k, none⟩ u) :=
  hb.trans ⟨rfl, rfl, rfl, by simp [World.setCell], fun i hi => Below.heap_setCell _ _ _ _ (show i ≠ K by omega)⟩
theorem St.setNew {B K k : Nat} {wr W : World} {d v p : Array Value → Array Value} {u : Value} (h : St B wr W d v p) (hK : wr.heap.size ≤ K) : St B wr (W.setCell ⟨K, k, none⟩ u) d v p := h.then (below_setCell (Below.refl _ _) hK)
theorem St.setD {B k : Nat} {wr W : World} {d v p : Array Value → Array Value} {u : Value} (h : St B wr W d v p) : St B wr (W.setCell ⟨B, k, none⟩ u) (fun a => (d a).setIfInBounds k u) v p := by
  have h3 := h.three
  refine ⟨h3, below_setCell h.below (Nat.le_refl _), fun K h1 h2 => ?_, fun a ha => heap_setCell_same _ _ _ _ _ _ (h.defs a ha), fun a ha => ?_, fun a ha => ?_⟩
  · rw [Below.heap_setCell _ _ _ _ (show K ≠ B by omega)]; exact h.up K h1 h2
  · rw [Below.heap_setCell _ _ _ _ (show B + 1 ≠ B by omega)]; exact h.vals a ha
  · rw [Below.heap_setCell _ _ _ _ (show B + 2 ≠ B by omega)]; exact h.parts a ha
theorem St.setV {B k V : Nat} {wr W : World} {d v p : Array Value → Array Value} {u : Value} (h : St B wr W d v p) (hV : V = B + 1) : St B wr (W.setCell ⟨V, k, none⟩ u) d (fun a => (v a).setIfInBounds k u) p := by
  subst hV
  have h3 := h.three
  refine ⟨h3, below_setCell h.below (by omega), fun K h1 h2 => ?_, fun a ha => ?_, fun a ha => heap_setCell_same _ _ _ _ _ _ (h.vals a ha), fun a ha => ?_⟩
  · rw [Below.heap_setCell _ _ _ _ (show K ≠ B + 1 by omega)]; exact h.up K h1 h2
  · rw [Below.heap_setCell _ _ _ _ (show B ≠ B + 1 by omega)]; exact h.defs a ha
  · rw [Below.heap_setCell _ _ _ _ (show B + 2 ≠ B + 1 by omega)]; exact h.parts a ha
theorem St.setP {B k V : Nat} {wr W : World} {d v p : Array Value → Array Value} {u : Value} (h : St B wr W d v p) (hV : V = B + 2) : St B wr (W.setCell ⟨V, k, none⟩ u) d v (fun a => (p a).setIfInBounds k u) := by
  subst hV
  have h3 := h.three
  refine ⟨h3, below_setCell h.below (by omega), fun K h1 h2 => ?_, fun a ha => ?_, fun a ha => ?_, fun a ha => heap_setCell_same _ _ _ _ _ _ (h.parts a ha)⟩
  · rw [Below.heap_setCell _ _ _ _ (show K ≠ B + 2 by omega)]; exact h.up K h1 h2
  · rw [Below.heap_setCell _ _ _ _ (show B ≠ B + 2 by omega)]; exact h.defs a ha
  · rw [Below.heap_setCell _ _ _ _ (show B + 1 ≠ B + 2 by omega)]; exact h.vals a ha

/-- A round: the three tables hold one row more. -/
theorem Inv.next {w wr w' : World} {n k : Nat} {F : Nat → Fd} (h : Inv w wr n k F) (hk : k < n) {v p : Value} {t z : Int}
    (st : St w.heap.size wr w' (fun a => ((a.setIfInBounds (k * 3) (.string ⟨#[]⟩)).setIfInBounds (k * 3 + 1) (.int .u8 t)).setIfInBounds (k * 3 + 2) (.int .i64 z)) (fun a => a.setIfInBounds k v) (fun a => a.setIfInBounds k p))
    (ht : t = (tyOf (F k) : Int)) (hz : z = (szF (F k) : Int)) (hV : ValOk w' (w.heap.size + 3) (F k) v) (hO : PartOk w' (w.heap.size + 3) p (partF (F k))) : Inv w w' n (k + 1) F := by
  subst ht hz
  have hb := st.below
  have up := st.up
  have hd := st.defs
  have hv := st.vals
  have hp := st.parts
  obtain ⟨ad, a1, a2, a3⟩ := h.defs
  obtain ⟨av, b1, b2, b3⟩ := h.vals
  obtain ⟨ap, c1, c2, c3⟩ := h.parts
  refine ⟨h.below.trans hb, ⟨_, ?_, hd ad a2, fun j hj => ?_⟩, ⟨_, ?_, hv av b2, fun j hj => ?_⟩, ⟨_, ?_, hp ap c2, fun j hj => ?_⟩⟩
  · simpa using a1
  · by_cases e : j = k
    · subst e
      refine ⟨?_, ?_, ?_⟩
      · rw [Array.getElem?_setIfInBounds_ne (by omega), Array.getElem?_setIfInBounds_ne (by omega), Array.getElem?_setIfInBounds_self_of_lt (by omega)]
      · rw [Array.getElem?_setIfInBounds_ne (by omega), Array.getElem?_setIfInBounds_self_of_lt (by simp; omega)]
      · rw [Array.getElem?_setIfInBounds_self_of_lt (by simp; omega)]
    · obtain ⟨d1, d2, d3⟩ := a3 j (by omega)
      refine ⟨?_, ?_, ?_⟩
      · rw [Array.getElem?_setIfInBounds_ne (by omega), Array.getElem?_setIfInBounds_ne (by omega), Array.getElem?_setIfInBounds_ne (by omega)]; exact d1
      · rw [Array.getElem?_setIfInBounds_ne (by omega), Array.getElem?_setIfInBounds_ne (by omega), Array.getElem?_setIfInBounds_ne (by omega)]; exact d2
      · rw [Array.getElem?_setIfInBounds_ne (by omega), Array.getElem?_setIfInBounds_ne (by omega), Array.getElem?_setIfInBounds_ne (by omega)]; exact d3
  · simpa using b1
  · by_cases e : j = k
    · subst e
      exact ⟨v, Array.getElem?_setIfInBounds_self_of_lt (by omega), hV⟩
    · obtain ⟨v', d1, d2⟩ := b3 j (by omega)
      exact ⟨v', by rw [Array.getElem?_setIfInBounds_ne (by omega)]; exact d1, up.val hb.size d2⟩
  · simpa using c1
  · by_cases e : j = k
    · subst e
      exact ⟨p, Array.getElem?_setIfInBounds_self_of_lt (by omega), hO⟩
    · obtain ⟨v', d1, d2⟩ := c3 j (by omega)
      exact ⟨v', by rw [Array.getElem?_setIfInBounds_ne (by omega)]; exact d1, up.part hb.size d2⟩
theorem St.drew {B : Nat} {wr W : World} {d v p : Array Value → Array Value} (h : St B wr W d v p) : St B wr W.drew d v p := h.then (Below.refl _ _).drew

theorem conv_bytes (s : ByteArray) : ∃ (cf : World → Nat) (row : World → Array Value) (fr : World → Nat × Nat), (∀ W, (convert 9 23 (.string s)).run Yba.prog W = .ok (.slice (some ⟨W.heap.size, 0, none⟩) s.size (cf W)) (W.drew.alloc (.cells (row W) 5 (fr W)))) ∧
    ∀ W j (hj : j < (strOf s).length), (row W)[j]? = some (cellOf (strOf s)[j]) := by
  refine ⟨fun W => grownCap W s.size 0 5, fun W => bytesRow s (grownCap W s.size 0 5), fun W => ((bytesRow s (grownCap W s.size 0 5)).size, (bytesRow s (grownCap W s.size 0 5)).size + 1), fun W => run_bytes_of_string W 9 23 5 s Yba.underlying9 Yba.underlying23 Yba.underlying5, fun W j hj => ?_⟩
  have hj' : j < s.data.size := by simpa [strOf] using hj
  have hj2 : j < s.size := hj'
  simp [bytesRow, strOf, cellOf, Array.getElem?_append, hj', hj2]

theorem part_new {W : World} {B K c n : Nat} {l : List UInt8} {row : Array Value} {t : TypeId} {fr : Nat × Nat} (hK : K = W.heap.size) (hB : B ≤ K) (hn : n = l.length) (hrow : ∀ j (hj : j < l.length), row[j]? = some (cellOf l[j])) :
    PartOk (W.alloc (.cells row t fr)).drew B (.slice (some ⟨K, 0, none⟩) n c) l := by
  subst hn hK
  refine ⟨_, _, rfl, (fun e => by cases e), fun ad e => ?_⟩
  cases e
  refine ⟨_, rfl, hB, by simp [World.drew], fun j hj => ?_⟩
  rw [← hrow j hj]
  show (W.alloc (.cells row t fr)).cell? _ = _
  simp only [World.cell?, heap_alloc_new]
  rfl
theorem part_block {W : World} {B K c n : Nat} {l : List UInt8} (h : W.heap[K]? = some (.cells (l.map cellOf).toArray 5 (0, 0))) (hB : B ≤ K) (hn : n = l.length) : PartOk W B (.slice (some ⟨K, 0, none⟩) n c) l := by
  subst hn
  refine ⟨_, _, rfl, (fun e => by cases e), fun ad e => ?_⟩
  cases e
  refine ⟨_, rfl, hB, (Array.getElem?_eq_some_iff.1 h).1, fun j hj => ?_⟩
  simp only [World.cell?, h]
  show (l.map cellOf).toArray[j]? = _
  simp [hj]
theorem be_cons (u : Nat) {N : Nat} (h : N = 1 ∨ N = 2 ∨ N = 4 ∨ N = 8) : ∃ b r, beN u N = b :: r := by
  rcases h with rfl | rfl | rfl | rfl <;> exact ⟨_, _, rfl⟩
theorem xor8 (b : UInt8) : bits .xor .u8 (b.toNat : Int) 128 = ((b ^^^ 128).toNat : Int) := by
  rw [UInt8.toNat_xor]
  have h := b.toNat_lt
  exact u8_xor_nat b.toNat 128 (by simpa using h) (by decide)

theorem copy_str (T : ByteArray) (K q : Nat) (h : T.size ≤ q + 3) (W : World) (hK : K = W.heap.size) :
    (Builtin.copy_ #[23, 9] 3 #[.slice (some ⟨K, 0, none⟩) (q + 3) (q + 3), .string T]).run Yba.prog (W.alloc (.cells (Array.replicate (q + 3) (Value.int .u8 0)) 5)) = .ok (goInt T.size) (W.alloc (.cells ((strOf T).map cellOf ++ (List.replicate (q + 3) (Value.int .u8 0)).drop T.size).toArray 5)) := by
  subst hK
  have hrun := run_copy_row_string (P := Yba.prog) (W.alloc (.cells (Array.replicate (q + 3) (Value.int .u8 0)) 5)) 23 9 3 5 W.heap.size 0 (q + 3) (q + 3) T _ 5 Yba.underlying23 info5s (heap_alloc_new W _) h (by simpa using h)
  rw [hrun, World.setRow_alloc_new]
  simp [byteCells, strOf]
  rfl
theorem set2 {α : Type} (L : List α) (a b x y : α) (n : Nat) (h : n = L.length) : ((L ++ [a, b]).toArray.setIfInBounds n x).setIfInBounds (n + 1) y = (L ++ [x, y]).toArray := by
  subst h
  apply Array.ext'
  simp [List.set_append]
theorem str_row (T : ByteArray) (q : Nat) (h : T.size ≤ 1 + q) (x y : UInt8) :
    ((((strOf T).map cellOf ++ (List.replicate (q + 3) (Value.int .u8 0)).drop T.size).toArray).setIfInBounds (1 + q) (cellOf x)).setIfInBounds (1 + q + 1) (cellOf y) = ((strOf T ++ List.replicate (1 + q - T.size) 0 ++ [x, y]).map cellOf).toArray := by
  have e : (List.replicate (q + 3) (Value.int .u8 0)).drop T.size = (List.replicate (1 + q - T.size) (0 : UInt8)).map cellOf ++ [.int .u8 0, .int .u8 0] := by
    rw [List.drop_replicate, show q + 3 - T.size = (1 + q - T.size) + 2 by omega, ← List.replicate_append_replicate]
    simp [cellOf]
  rw [e, ← List.append_assoc, set2]
  · simp
  · simp [strOf_length]; omega

theorem cell_some {w : World} {b j : Nat} {arr : Array Value} {t : TypeId} (h : w.heap[b]? = some (.cells arr t (0, 0))) (hj : j < arr.size) : ∃ x, w.cell? ⟨b, j, none⟩ = some x := by
  refine ⟨arr[j], ?_⟩
  simp only [World.cell?, h]
  exact Array.getElem?_eq_getElem hj
theorem not_frozen {w : World} {b : Nat} {arr : Array Value} {t : TypeId} (h : w.heap[b]? = some (.cells arr t (0, 0))) (j : Nat) : w.frozen? ⟨b, j, none⟩ = false := by
  simp [World.frozen?, h]
end Go.Proofs.Ybulkatzw
