/-
  Bytes as cells; appendBigEndian.
-/
import Derived.Test.YbulkatzwRows
import Derived.WalkKit
import Derived.WalkSpells
import Derived.WalkLawsBesides
import Derived.Lib.AppendStr
import Derived.Laws.AppendOwnNone
import Derived.Deep.RegionWith
import Derived.Laws.IdiomStrings
namespace Go.Proofs.Ybulkatzw
open Go.RowKit Go.Lib
set_option linter.unusedVariables false
set_option linter.unusedSimpArgs false

theorem lt_of_cell {w : World} {b o : Nat} {v : Value} (h : w.cell? ⟨b, o, none⟩ = some v) : b < w.heap.size := by
  unfold World.cell? at h
  split at h
  · rename_i hb; exact (Array.getElem?_eq_some_iff.1 hb).1
  · cases h
theorem cell_alloc_new (w : World) (cs : Array Value) (t : TypeId) (j : Nat) : (w.alloc (.cells cs t)).cell? ⟨w.heap.size, j, none⟩ = cs[j]? := by
  simp only [World.cell?, heap_alloc_new]
  rfl
theorem grown_below {w w' : World} {row : Option Nat} {B : Nat} (h : w.grownBy w' row) (hr : ∀ k, row = some k → B ≤ k) (hB : B ≤ w.heap.size) : Below B w w' :=
  ⟨h.os, h.tape, h.output, h.size, fun k hk => h.block k (Nat.lt_of_lt_of_le hk hB) (fun e => by have := hr k e.symm; omega)⟩

def cellOf (b : UInt8) : Value := .int .u8 (b.toNat : Int)
def lo (v : Nat) : UInt8 := UInt8.ofNat (v % 256)
theorem lo_nat (v : Nat) : (lo v).toNat = v % 256 := by simp [lo, UInt8.toNat_ofNat']
theorem cell_lo (v : Nat) : cellOf (lo v) = .int .u8 ((v % 256 : Nat) : Int) := by simp only [cellOf, lo_nat]
/-- x's n least bytes, the greatest first. -/
def beN (x : Nat) : Nat → List UInt8
  | 0 => []
  | n + 1 => lo (x / 256 ^ n) :: beN x n
theorem beN_length (x n : Nat) : (beN x n).length = n := by
  induction n with
  | zero => rfl
  | succ n ih => simp [beN, ih]

theorem info5' : (Yba.prog.info? 5).map (fun i => (i.size, i.bytes, i.zero)) = some (1, 1, some (.int .u8 0)) := by kernel_rfl
theorem info5 : ∃ i, Yba.prog.info? 5 = some i ∧ i.size = 1 ∧ i.bytes = 1 ∧ i.zero = some (.int .u8 0) := by
  obtain ⟨i, h1, h2⟩ := Option.map_eq_some_iff.1 info5'
  simp only [Prod.mk.injEq] at h2
  exact ⟨i, h1, h2.1, h2.2.1, h2.2.2⟩

/-- A slice of bytes that the call owns. -/
def Own (w : World) (B : Nat) (v : Value) (l : List UInt8) : Prop := w.ownsRow B 5 1 v l.length (l.map cellOf)

theorem Own.alloc {w : World} {B : Nat} {v : Value} {l : List UInt8} (h : Own w B v l) (o : Obj) : Own (w.alloc o) B v l := World.ownsRow.alloc h o
theorem Own.nil (w : World) (B : Nat) : Own w B (.slice none 0 0) [] := World.ownsRow_nil w B 5 1
theorem Own.ge {w : World} {B : Nat} {v : Value} {l : List UInt8} (h : Own w B v l) : ∀ k, v.ownBlock = some k → B ≤ k := fun k hk => (World.ownsRow.lt h k hk).1
theorem Own.slice {w : World} {B : Nat} {v : Value} {l : List UInt8} (h : Own w B v l) : ∃ a c, v = .slice a l.length c := by
  rcases h.2 with ⟨rfl, h0⟩ | ⟨g, cap, cur, rfl, _⟩
  · exact ⟨none, 0, by rw [h0]⟩
  · exact ⟨_, _, rfl⟩

theorem one_new {w : World} {b : Value} : ∀ j u, [b][j]? = some u → (w.alloc (.cells #[b] 5)).cell? ((⟨w.heap.size, 0, none⟩ : Addr).add j) = some u := by
  intro j u hj
  have e : (⟨w.heap.size, 0, none⟩ : Addr).add j = ⟨w.heap.size, j, none⟩ := by rw [Addr.add_lit, Nat.zero_add]
  rw [e, cell_alloc_new, ← hj]
  simp
theorem map_one (l : List UInt8) : ∀ u ∈ l.map cellOf, u.oneCell' = true := by
  intro u hu
  obtain ⟨_, _, rfl⟩ := List.mem_map.1 hu
  rfl

theorem Own.push {w' : World} {B k x : Nat} {v' z : Value} {done : List UInt8} {r : List UInt8} (hd : done ++ beN x (k + 1) = r) (hz : z = .int .u8 ((x / 256 ^ k % 256 : Nat) : Int))
    (h : w'.ownsRow B 5 1 v' (done.length + 1) (done.map cellOf ++ [z])) : (done ++ [lo (x / 256 ^ k)]) ++ beN x k = r ∧ Own w' B v' (done ++ [lo (x / 256 ^ k)]) := by
  refine ⟨by rw [← hd]; simp [beN], ?_⟩
  unfold Own
  rw [List.length_append, List.map_append]
  rw [hz, ← cell_lo] at h
  exact h

/-- No block but those of bytes has turned. -/
def Keeps (w w' : World) : Prop := ∀ (K : Nat) (cs : Array Value) (ty : TypeId) (fr : Nat × Nat), ty ≠ 5 → w.heap[K]? = some (Obj.cells cs ty fr) → w'.heap[K]? = some (Obj.cells cs ty fr)
theorem Keeps.refl (w : World) : Keeps w w := fun _ _ _ _ _ h => h
theorem Keeps.trans {a b c : World} (h : Keeps a b) (k : Keeps b c) : Keeps a c := fun K cs ty fr h5 hk => k K cs ty fr h5 (h K cs ty fr h5 hk)
theorem Keeps.alloc {a b : World} (h : Keeps a b) (o : Obj) : Keeps a (b.alloc o) := fun K cs ty fr h5 hk => by
  have := h K cs ty fr h5 hk
  rw [Below.heap_alloc _ _ _ (Array.getElem?_eq_some_iff.1 this).1]
  exact this
theorem Keeps.grown {a b c : World} {B : Nat} {v : Value} {l : List UInt8} (h : Keeps a b) (ho : Own b B v l) (hg : b.grownBy c v.ownBlock) : Keeps a c := fun K cs ty fr h5 hk => by
  have h1 := h K cs ty fr h5 hk
  rw [hg.block K (Array.getElem?_eq_some_iff.1 h1).1 ?_]
  · exact h1
  · intro e
    rcases ho.2 with ⟨rfl, _⟩ | ⟨g, cap, cur, rfl, _, hh, _⟩
    · cases e
    · cases e
      rw [h1] at hh
      cases hh
      exact h5 rfl

set_option maxHeartbeats 1600000 in
theorem appBE (B x n : Nat) (v : Value) (l : List UInt8) (hx : x < 18446744073709551616) (hn : n ≤ 8) (hl : l.length ≤ 1099511627776) (w : World) (hB : B ≤ w.heap.size) (ho : Own w B v l) :
    Calls Yba.prog 12 #[v, .int .u64 (x : Int), .int .i64 (n : Int)] w fun e w' => ∃ v', e = .returned v' ∧ Own w' B v' (l ++ beN x n) ∧ Below B w w' ∧ Keeps w w' := by
  obtain ⟨i, hi, hs, hby, hz⟩ := info5
  obtain ⟨a0, c0, rfl⟩ := ho.slice
  have HO : Hid (Own w B (.slice a0 l.length c0) l) := ho
  clear ho
  go_enter Yba.func12, Yba.ntmps12
  go_wp2
  go_loopw [0, 7] (fun v0 v7 wr => ∃ k : Nat, k ≤ n ∧ v7 = .int .i64 ((k : Int) - 1) ∧ ∃ done a c, v0 = .slice a done.length c ∧ done ++ beN x k = l ++ beN x n ∧ Own wr B (.slice a done.length c) done ∧ Below B w wr ∧ Keeps w wr) (fun _ v7 _ => (intOf v7 + 1).toNat)
  case atStart => exact ⟨n, Nat.le_refl _, rfl, l, a0, c0, rfl, rfl, HO.out, Below.refl _ _, Keeps.refl _⟩
  case round =>
    obtain ⟨k, hk, rfl, done, a1, c1, rfl, hd, hO, hb, hK⟩ := hrel
    have HK : Hid (Keeps w wr) := hK
    clear hK
    have hdl : done.length ≤ 1099511627776 + 8 := by
      have := congrArg List.length hd
      simp only [List.length_append, beN_length] at this
      omega
    have HD : Hid (done ++ beN x k = l ++ beN x n) := hd
    have HW : Hid (Own wr B (.slice a1 done.length c1) done) := hO
    have hbs := hb.size
    clear hd hO
    have hk8 : k = 0 ∨ k = 1 ∨ k = 2 ∨ k = 3 ∨ k = 4 ∨ k = 5 ∨ k = 6 ∨ k = 7 ∨ k = 8 := by omega
    rcases hk8 with rfl | rfl | rfl | rfl | rfl | rfl | rfl | rfl | rfl
    · go_wp2
      go_ret
      have := HD.out
      simp only [beN, List.append_nil] at this
      exact ⟨_, rfl, this ▸ HW.out, hb, HK.out⟩
    all_goals
      go_wp2_with (at_builtin; refine wpList_append_own _ rfl (.tmp 14) (.tmp 20) 23 rfl B 5 i (.int .u8 0) 1 1 Yba.underlying23 hi hz hs hby rfl (by decide) (.slice a1 done.length c1) done.length (done.map cellOf) rfl (World.ownsRow.alloc HW.out _) ⟨wr.heap.size, 0, none⟩ 1 1 [?_] rfl rfl ?c1 ?c2 ?c3 ?c4 ?c5 ?_)
      case c1 => exact one_new
      case c2 => intro u hu; simp only [List.mem_singleton] at hu; subst hu; rfl
      case c3 => unfold maxLen; omega
      case c4 => omega
      case c5 => simp; omega
      intro v' w1 hown hgr _
      obtain ⟨e1, e2⟩ := Own.push HD.out (by simp only [Nat.reducePow, Nat.div_one]; exact congrArg (Value.int .u8) (by omega)) hown
      have hb1 : Below B wr w1 := ((Below.refl B wr).alloc (by omega) _).trans (grown_below hgr (fun k hk => HW.out.ge k hk) (by simp; omega))
      obtain ⟨a2, c2, rfl⟩ := e2.slice
      have HK1 : Hid (Keeps w w1) := (HK.out.alloc _).grown (HW.out.alloc _) hgr
      have HE : Hid (Own w1 B (.slice a2 _ c2) _) := e2
      clear hown hgr e2
      go_wp2
      go_roundw
      case rel => exact ⟨_, by omega, by go_num, _, a2, c2, rfl, e1, HE.out, hb.trans hb1, HK1.out⟩
      case measure => simp [intOf]
end Go.Proofs.Ybulkatzw
