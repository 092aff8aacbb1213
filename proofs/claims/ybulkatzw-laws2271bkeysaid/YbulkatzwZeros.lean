/-
  append(b, make([]byte, m)...) onto a slice of bytes that the call owns.
-/
import Derived.Lib.AppendStr
import Derived.WalkKit
namespace Go.Proofs.Ybulkatzw
open Go.Lib
set_option linter.unusedVariables false
set_option linter.unusedSimpArgs false
section
variable {P : Program} (w : World)

def zs (m : Nat) : List Value := List.replicate m (.int .u8 0)
theorem zs_one (m : Nat) : ∀ u ∈ zs m, u.oneCell' = true := by
  intro u hu
  rw [zs, List.mem_replicate] at hu
  rw [hu.2]; rfl
theorem zs_length (m : Nat) : (zs m).length = m := by simp [zs]
theorem zc (m : Nat) : Builtin.zeroCells (Value.int .u8 0).cells m = (zs m).toArray := by
  have h1 : (Value.int .u8 0).cells = #[Value.int .u8 0] := rfl
  rw [h1]
  apply Array.ext'
  apply List.ext_getElem?
  intro j
  by_cases hj : j < m
  · simp [Builtin.zeroCells, zs, hj, Nat.mod_one]
  · simp [Builtin.zeroCells, zs, hj]

theorem run_room (t u ty e : TypeId) (i : TypeInfo) (ht : P.underlying t = some (.slice e)) (hu : P.underlying u = some (.int .i64)) (hi : P.info? e = some i) (hz : i.zero = some (.int .u8 0)) (hs1 : i.size = 1) (hby : i.bytes = 1)
    (g sLen sCap : Nat) (cur : Array Value) (hg : w.heap[g]? = some (.cells cur e (0, 0))) (m : Nat) (hm : m ≤ 1099511627776) (hroom : sLen + m ≤ sCap) (hfit : sLen + m ≤ cur.size) :
    (Builtin.append_ #[t, u] ty #[.slice (some ⟨g, 0, none⟩) sLen sCap, .int .i64 (m : Int)]).run P w =
      .ok (.slice (some ⟨g, 0, none⟩) (sLen + m) sCap) (w.setRow g (cur.toList.take sLen ++ zs m ++ cur.toList.drop (sLen + m)).toArray) := by
  have hst := run_storeCells_at P g sLen e (zs m) 0 cur w hg (by rw [zs_length]; simpa using hfit) (zs_one m)
  simp only [Nat.add_zero, zs_length] at hst
  have hw : IntKind.i64.wrap (m : Int) = (m : Int) := by rw [IntKind.wrap_i64]; omega
  have h0 : ¬ (m : Int) < 0 := by omega
  have h48 : ¬ (281474976710656 < (m : Int)) := by omega
  by_cases hm0 : m = 0
  · subst hm0
    have hw0 : IntKind.i64.wrap 0 = 0 := by decide
    have hr : sLen ≤ sCap := by omega
    have hst' : (storeCells ⟨g, sLen, none⟩ []).run P w = .ok () (w.setRow g (cur.toList.take sLen ++ zs 0 ++ cur.toList.drop (sLen + 0)).toArray) := hst
    simp [Builtin.append_, run_underlying ht, run_underlying hu, sizeOf, typeInfo, zeroValue, hi, hz, hs1, hby, asInt, asIntOf, hw0, hr, Addr.add_lit, hst']
  · simp [Builtin.append_, run_underlying ht, run_underlying hu, sizeOf, typeInfo, zeroValue, hi, hz, hs1, hby, asInt, asIntOf, hw, h0, h48, hroom, Addr.add_lit, hm0, zc, hst]

theorem run_nil (t u ty e : TypeId) (i : TypeInfo) (ht : P.underlying t = some (.slice e)) (hu : P.underlying u = some (.int .i64)) (hi : P.info? e = some i) (hs1 : i.size = 1) :
    (Builtin.append_ #[t, u] ty #[.slice none 0 0, .int .i64 0]).run P w = .ok (.slice none 0 0) w := by
  have hw0 : IntKind.i64.wrap 0 = 0 := by decide
  simp [Builtin.append_, run_underlying ht, run_underlying hu, sizeOf, typeInfo, hi, hs1, asInt, asIntOf, hw0]

theorem run_grow (t u ty e : TypeId) (i : TypeInfo) (ht : P.underlying t = some (.slice e)) (hu : P.underlying u = some (.int .i64)) (hi : P.info? e = some i) (hz : i.zero = some (.int .u8 0)) (hs1 : i.size = 1) (hby : i.bytes = 1)
    (a : Option Addr) (sLen sCap : Nat) (olds : List Value) (hlo : olds.length = sLen) (hold : (Builtin.firstCells 1 sLen (.slice a sLen sCap)).run P w.drew = .ok olds.toArray w.drew) (m : Nat) (hm : m ≤ 1099511627776) (hl : sLen ≤ 1099511627776) (hg : sCap < sLen + m) (hm0 : m ≠ 0)
    (hfit : Builtin.nextslicecap (sLen + m) sCap ≤ 281474976710656) :
    (Builtin.append_ #[t, u] ty #[.slice a sLen sCap, .int .i64 (m : Int)]).run P w =
      .ok (.slice (some ⟨w.heap.size, 0, none⟩) (sLen + m) (grownCap w (sLen + m) sCap e))
        (w.drew.alloc (.cells (olds.toArray ++ (zs m).toArray ++ Builtin.zeroCells (Value.int .u8 0).cells (grownCap w (sLen + m) sCap e - (sLen + m))) e)) := by
  have hw : IntKind.i64.wrap (m : Int) = (m : Int) := by rw [IntKind.wrap_i64]; omega
  have h0 : ¬ (m : Int) < 0 := by omega
  have h48 : ¬ (281474976710656 < (m : Int)) := by omega
  have hn : ¬ (sLen + m ≤ sCap) := by omega
  have h63' : ¬ (9223372036854775807 < ((sLen : Int) + (m : Int))) := by omega
  have h48' : ¬ (281474976710656 < Builtin.nextslicecap (sLen + m) sCap) := by omega
  simp [Builtin.append_, run_underlying ht, run_underlying hu, sizeOf, typeInfo, zeroValue, hi, hz, hs1, hby, asInt, asIntOf, hw, h0, h48, hn, h63', h48', Question.forced, hold, hm0, zc, newRow, grownCap]

/-- THE LAW: appending m zero bytes to a value that owns xs. -/
theorem run_zeros_own (base : Nat) (t u ty e : TypeId) (i : TypeInfo) (ht : P.underlying t = some (.slice e)) (hu : P.underlying u = some (.int .i64)) (hi : P.info? e = some i) (hz : i.zero = some (.int .u8 0)) (hsize : i.size = 1) (hby : i.bytes = 1)
    (v : Value) (n : Nat) (xs : List Value) (hown : w.ownsRow base e 1 v n xs) (m : Nat) (hm : m ≤ 1099511627776) (hn : n ≤ 1099511627776) (hbase : base ≤ w.heap.size) :
    ∃ v' w', (Builtin.append_ #[t, u] ty #[v, .int .i64 (m : Int)]).run P w = .ok v' w' ∧ w'.ownsRow base e 1 v' (n + m) (xs ++ zs m) ∧ w.grownBy w' v.ownBlock := by
  have hxl : xs.length = n := by simpa using hown.1
  have h63 : n + m ≤ maxLen := by unfold maxLen; omega
  have hlen : (xs ++ zs m).length = (n + m) * 1 := by rw [List.length_append, hxl, zs_length, Nat.mul_one]
  have grown : ∀ (old : Nat), old < n + m → ∀ (row : Option Nat),
      (w.drew.alloc (.cells (xs.toArray ++ (zs m).toArray ++ Builtin.zeroCells (Value.int .u8 0).cells (grownCap w (n + m) old e - (n + m))) e)).ownsRow base e 1
        (.slice (some ⟨w.heap.size, 0, none⟩) (n + m) (grownCap w (n + m) old e)) (n + m) (xs ++ zs m) ∧
      w.grownBy (w.drew.alloc (.cells (xs.toArray ++ (zs m).toArray ++ Builtin.zeroCells (Value.int .u8 0).cells (grownCap w (n + m) old e - (n + m))) e)) row := by
    intro old ho row
    have hge := grownCap_ge w (n + m) old e
    have hcm : grownCap w (n + m) old e ≤ maxLen := grownCap_le_maxLen w (n + m) old e h63
    refine ⟨⟨hlen, .inr ⟨w.heap.size, _, _, rfl, hbase, heap_alloc_new w.drew _, hge, hcm, ?_, ?_⟩⟩, ⟨rfl, rfl, rfl, by simp, fun k hk _ => Go.RowKit.Below.heap_alloc w.drew _ k hk⟩⟩
    · have hz1 : (Value.int IntKind.u8 0).cells.size = 1 := rfl
      simp only [Array.size_append, List.size_toArray, size_zeroCells, hz1, hxl, zs_length]
      omega
    · simp only [Array.toList_append, List.append_assoc]
      rw [← List.append_assoc, ← hlen]
      exact List.take_left
  rcases hown.2 with ⟨rfl, rfl⟩ | ⟨g, cap, cur, rfl, hbg, hg, hnc, hcm, hcs, htake⟩
  · have hx : xs = [] := List.eq_nil_of_length_eq_zero hxl
    subst hx
    by_cases hm0 : m = 0
    · subst hm0
      exact ⟨.slice none 0 0, w, run_nil w t u ty e i ht hu hi hsize, by simpa [zs] using World.ownsRow_nil w base e 1, ⟨rfl, rfl, rfl, Nat.le_refl _, fun _ _ _ => rfl⟩⟩
    · have hr := run_grow (P := P) w t u ty e i ht hu hi hz hsize hby none 0 0 [] rfl (by simp [Builtin.firstCells]) m hm (by omega) (by omega) hm0 (by have := growslice_fits (need := 0 + m) (old := 0) (bytes := 1) (by omega) (by omega); omega)
      have hgr := grown 0 (by omega) (Value.ownBlock (.slice none 0 0))
      exact ⟨_, _, hr, hgr.1, hgr.2⟩
  · have hcs' : cur.size = cap := by simpa using hcs
    by_cases hroom : n + m ≤ cap
    · have hr := run_room (P := P) w t u ty e i ht hu hi hz hsize hby g n cap cur hg m hm hroom (by omega)
      refine ⟨_, _, hr, ⟨hlen, .inr ⟨g, cap, _, rfl, hbg, setRow_heap w g cur _ e _ hg, hroom, hcm, ?_, ?_⟩⟩, ⟨rfl, rfl, rfl, by simp, fun k _ hk => setRow_other w g k _ (fun e => hk (by simp [Value.ownBlock, e]))⟩⟩
      · simp only [List.size_toArray, List.length_append, List.length_take, List.length_drop, Array.length_toList, zs_length]
        omega
      · have ht' : cur.toList.take n = xs := by simpa using htake
        rw [ht', ← hlen]
        exact List.take_left
    · have holds : ∀ j u, xs[j]? = some u → w.cell? ((⟨g, 0, none⟩ : Addr).add j) = some u := hown.cells (g := g) rfl
      have hfo := run_firstCells_some (P := P) w.drew 1 n ⟨g, 0, none⟩ n cap xs (by omega) (by simpa using holds)
      have hr := run_grow (P := P) w t u ty e i ht hu hi hz hsize hby (some ⟨g, 0, none⟩) n cap xs hxl hfo m hm hn (by omega) (by omega) (by have := growslice_fits (need := n + m) (old := cap) (bytes := 1) (by omega) (by omega); omega)
      have hgr := grown cap (by omega) (Value.ownBlock (.slice (some ⟨g, 0, none⟩) n cap))
      exact ⟨_, _, hr, hgr.1, hgr.2⟩

theorem wpList_zeros_own {ops : Array Oper} {rest : List Oper} {o : Oper} {a : Act} {Q : Exit → Act → World → Prop} (hgd : o.guard = none) (sl x : Operand) (t u : TypeId)
    (ho : o.op = .call { callee := .builtin .append, args := #[sl, x], argTypes := #[t, u] })
    (base : Nat) (e : TypeId) (i : TypeInfo) (ht : P.underlying t = some (.slice e)) (hu : P.underlying u = some (.int .i64)) (hi : P.info? e = some i) (hz : i.zero = some (.int .u8 0)) (hsize : i.size = 1) (hby : i.bytes = 1)
    (v : Value) (n : Nat) (xs : List Value) (hs : a.eval sl = v) (hown : w.ownsRow base e 1 v n xs) (m : Nat) (hx : a.eval x = .int .i64 (m : Int)) (hm : m ≤ 1099511627776) (hn : n ≤ 1099511627776) (hbase : base ≤ w.heap.size)
    (h : ∀ v' w', w'.ownsRow base e 1 v' (n + m) (xs ++ zs m) → w.grownBy w' v.ownBlock → wpList P ops Q rest (a.put o.dst v') w') : wpList P ops Q (o :: rest) a w := by
  refine wpList_plain hgd fun K hK => ?_
  obtain ⟨v', w', hr, h2, h3⟩ := run_zeros_own (P := P) w base t u o.type e i ht hu hi hz hsize hby v n xs hown m hm hn hbase
  unfold Oper.wp execOp
  simp only [ho, resolve, invoke, builtin, Sem.run_bind, Sem.run_pure, Result.andThen_ok, List.map_toArray, List.map_cons, List.map_nil, hs, hx, hr]
  exact hK _ _ (h v' w' h2 h3)
end
end Go.Proofs.Ybulkatzw
