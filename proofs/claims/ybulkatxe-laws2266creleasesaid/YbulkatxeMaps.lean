/-
  The two maps of the session: a map from keys 0 .. 3 to dialogue blocks, told by a plain function q : Nat → Option Nat.
-/
import Derived.Test.YbulkatxeProg
import Derived.WalkKit
import Derived.WalkSpells
import Derived.WalkLawsBesides
import Derived.Maps.OwnSet
namespace Go.Proofs.Ybulkatxe
open Go.RowKit

def kOf (c : Nat) : Int := 4294967296 + (c : Int)

theorem or_k (c : Nat) (h : c < 256) : bits .or .u64 (4294967296 : Int) (c : Int) = kOf c := by
  have h1 := bits_or_u64_nat 4294967296 c (by omega) (by omega)
  have h2 : (4294967296 ||| c) = 4294967296 + c := by
    have := Nat.two_pow_add_eq_or_of_lt (i := 32) (b := c) (by omega) 1
    simpa using this.symm
  rw [h2] at h1
  unfold kOf
  simpa using h1

/-- How a pointer to a dialogue is read as a datum: by its block. -/
def ptrR : Value → Option (DataW Unit × List MemPlace)
  | .pointer none => some (.nil, [])
  | .pointer (some a) => if a.off = 0 ∧ a.spot = none then some (.lit (.int .i64 (a.block : Int)), []) else none
  | _ => none

def ptrV : Option Nat → Value
  | none => .pointer none
  | some b => .pointer (some ⟨b, 0, none⟩)

def ptrD : Option Nat → DataW Unit
  | none => .nil
  | some b => .lit (.int .i64 (b : Int))

theorem ptrR_V (o : Option Nat) : ptrR (ptrV o) = some (ptrD o, []) := by
  cases o <;> simp [ptrV, ptrR, ptrD]

theorem ptrR_inv {v : Value} {o : Option Nat} {ps : List MemPlace} (h : ptrR v = some (ptrD o, ps)) : v = ptrV o := by
  unfold ptrR at h
  split at h
  · cases o <;> simp_all [ptrD, ptrV]
  · rename_i a
    split at h
    · rename_i ha
      obtain ⟨b, off, spot⟩ := a
      obtain ⟨h1, h2⟩ := ha
      simp only at h1 h2
      subst h1; subst h2
      cases o <;> simp [ptrD, ptrV] at h ⊢
      omega
    · cases h
  · cases h

def cnt (q : Nat → Option Nat) : Nat := (if (q 0).isSome then 1 else 0) + (if (q 1).isSome then 1 else 0) + (if (q 2).isSome then 1 else 0) + (if (q 3).isSome then 1 else 0)

def upd (q : Nat → Option Nat) (c : Nat) (v : Option Nat) : Nat → Option Nat := fun k => if k = c then v else q k

theorem upd_same (q : Nat → Option Nat) (c : Nat) (v : Option Nat) : upd q c v c = v := by simp [upd]
theorem upd_other (q : Nat → Option Nat) (c k : Nat) (v : Option Nat) (h : k ≠ c) : upd q c v k = q k := by simp [upd, h]

theorem cnt_put (q : Nat → Option Nat) (c p : Nat) (h : c < 4) : cnt (upd q c (some p)) = if (q c).isSome then cnt q else cnt q + 1 := by
  match c, h with
  | 0, _ => simp only [cnt, upd]; cases q 0 <;> simp <;> omega
  | 1, _ => simp only [cnt, upd]; cases q 1 <;> simp <;> omega
  | 2, _ => simp only [cnt, upd]; cases q 2 <;> simp <;> omega
  | 3, _ => simp only [cnt, upd]; cases q 3 <;> simp

theorem cnt_del (q : Nat → Option Nat) (c : Nat) (h : c < 4) : cnt (upd q c none) + (if (q c).isSome then 1 else 0) = cnt q := by
  match c, h with
  | 0, _ => simp only [cnt, upd]; cases q 0 <;> simp <;> omega
  | 1, _ => simp only [cnt, upd]; cases q 1 <;> simp <;> omega
  | 2, _ => simp only [cnt, upd]; cases q 2 <;> simp <;> omega
  | 3, _ => simp only [cnt, upd]; cases q 3 <;> simp

/-- Block B is a map whose key type is K and that holds, of the four keys 'ky 0 .. ky 3', just those with 'q c' not none, each leading to the block named. -/
def PM (K : TypeId) (ky : Nat → Lit) (w : World) (B n : Nat) (q : Nat → Option Nat) : Prop :=
  ∃ D, w.ownsMap Yba.prog K ptrR B n D ∧ (∀ c, c < 4 → D.atKey (ky c) .nil = ptrD (q c)) ∧ (∀ c, c < 4 → Maps.has D (ky c) = (q c).isSome) ∧ Maps.size D = cnt q

theorem PM.of_block {K : TypeId} {ky : Nat → Lit} {w w' : World} {B n : Nat} {q : Nat → Option Nat} (h : PM K ky w B n q) (hb : w'.heap[B]? = w.heap[B]?) : PM K ky w' B n q := by
  obtain ⟨D, ⟨es, cl, h1, h2⟩, h3⟩ := h
  exact ⟨D, ⟨es, cl, hb.trans h1, h2⟩, h3⟩

theorem PM.lt {K : TypeId} {ky : Nat → Lit} {w : World} {B n : Nat} {q : Nat → Option Nat} (h : PM K ky w B n q) : B < w.heap.size := by
  obtain ⟨D, h1, _⟩ := h
  exact h1.lt

theorem PM.mono {K : TypeId} {ky : Nat → Lit} {w : World} {B n n' : Nat} {q : Nat → Option Nat} (h : PM K ky w B n q) (hn : n ≤ n') : PM K ky w B n' q := by
  obtain ⟨D, h1, h2⟩ := h
  exact ⟨D, h1.mono hn, h2⟩

theorem PM.ne_of_cell {K : TypeId} {ky : Nat → Lit} {w : World} {B n : Nat} {q : Nat → Option Nat} (h : PM K ky w B n q) {S o : Nat} {v : Value} (hc : w.cell? ⟨S, o, none⟩ = some v) : S ≠ B := by
  intro e
  subst e
  obtain ⟨D, ⟨es, cl, h1, h2⟩, h3⟩ := h
  simp [World.cell?, h1] at hc

theorem PM.made (K : TypeId) (ky : Nat → Lit) (w : World) : PM K ky (w.alloc (.map #[] 0)) w.heap.size 0 (fun _ => none) :=
  ⟨.map [], World.ownsMap_made _ _ _ _, fun _ _ => rfl, fun _ _ => rfl, rfl⟩

/-- What the laws want of a kind of key. -/
structure KeyKind (K : TypeId) (ky : Nat → Lit) (kv : Nat → Value) : Prop where
  keyed : Maps.Keyed Yba.prog K
  isKey : ∀ c, c < 4 → WideAt.IsKeyLit (ky c)
  inj : ∀ c c', c < 4 → c' < 4 → ky c = ky c' → c = c'
  of : ∀ c, c < 4 → keyOf Yba.prog K (kv c) = some (ky c)

def kyD (c : Nat) : Lit := .int .u64 (kOf c)
def kvD (c : Nat) : Value := .int .u64 (kOf c)
def kyR (c : Nat) : Lit := .int .i64 (c : Int)
def kvR (c : Nat) : Value := .int .i64 (c : Int)

theorem kindD : KeyKind 67 kyD kvD where
  keyed := Maps.int_keyed Yba.underlying67
  isKey := fun _ _ => trivial
  inj := fun c c' _ _ h => by simp [kyD, kOf] at h; omega
  of := fun c h => Maps.keyOf_int_mk Yba.underlying67 (WalkArith.wf_u64 (by unfold kOf; omega))

theorem kindR : KeyKind 2 kyR kvR where
  keyed := Maps.int_keyed Yba.underlying2
  isKey := fun _ _ => trivial
  inj := fun c c' _ _ h => by simp [kyR] at h; omega
  of := fun c h => Maps.keyOf_int_mk Yba.underlying2 (WalkArith.wf_i64 (by omega))

theorem zero45 (w : World) : (zeroValue 45).run Yba.prog w = .ok (.pointer none) w := by kernel_rfl

section
variable {K : TypeId} {ky : Nat → Lit} {kv : Nat → Value} {w : World} {B n : Nat} {q : Nat → Option Nat}

theorem PM.look_ok {t : TypeId} (h : PM K ky w B n q) (kk : KeyKind K ky kv) (ht : Yba.prog.underlying t = some (.map K 45)) {c : Nat} (hc : c < 4) :
    (Instr.lookup t (.map (some B)) (kv c) true).run Yba.prog w = .ok (.tuple #[ptrV (q c), .bool (q c).isSome]) w := by
  obtain ⟨D, h1, h2, h3, _⟩ := h
  obtain ⟨v, ps, hrun, hR⟩ := h1.look_ok kk.keyed ht (zero45 w) (ptrR_V none) (kk.of c hc)
  rw [hrun]
  have e : D.atKey (ky c) (ptrD none) = ptrD (q c) := h2 c hc
  rw [e] at hR
  rw [ptrR_inv hR, h3 c hc]

theorem PM.look {t : TypeId} (h : PM K ky w B n q) (kk : KeyKind K ky kv) (ht : Yba.prog.underlying t = some (.map K 45)) {c : Nat} (hc : c < 4) :
    (Instr.lookup t (.map (some B)) (kv c) false).run Yba.prog w = .ok (ptrV (q c)) w := by
  obtain ⟨D, h1, h2, h3, _⟩ := h
  obtain ⟨v, ps, hrun, hR⟩ := h1.lookup kk.keyed ht (zero45 w) (ptrR_V none) (kk.of c hc)
  rw [hrun]
  have e : D.atKey (ky c) (ptrD none) = ptrD (q c) := h2 c hc
  rw [e] at hR
  rw [ptrR_inv hR]

theorem PM.len {t : TypeId} (h : PM K ky w B n q) (ht : Yba.prog.underlying t = some (.map K 45)) (ty : TypeId) :
    (Builtin.len_ #[t] ty #[.map (some B)]).run Yba.prog w = .ok (.int .i64 (cnt q)) w := by
  obtain ⟨D, h1, h2, h3, h4⟩ := h
  rw [h1.len ht ty, h4]

theorem PM.put {t : TypeId} (h : PM K ky w B n q) (kk : KeyKind K ky kv) (ht : Yba.prog.underlying t = some (.map K 45)) (hn : n < maxLen) {c : Nat} (hc : c < 4) (p : Nat) :
    ∃ w', (Instr.mapUpdate t (.map (some B)) (kv c) (.pointer (some ⟨p, 0, none⟩))).run Yba.prog w = .ok () w' ∧ PM K ky w' B (n + 1) (upd q c (some p)) ∧ w.grownBy w' (some B) := by
  obtain ⟨D, h1, h2, h3, h4⟩ := h
  obtain ⟨w', hrun, ho, hg⟩ := h1.update kk.keyed ht hn (kk.of c hc) (ptrR_V (some p))
  refine ⟨w', hrun, ⟨_, ho, fun c' hc' => ?_, fun c' hc' => ?_, ?_⟩, hg⟩
  · by_cases e : c' = c
    · subst e; rw [Maps.atKey_put_same h1.isMap (kk.isKey _ hc), upd_same]
    · rw [Maps.atKey_put_other (fun e' => e (kk.inj _ _ hc' hc e')), upd_other _ _ _ _ e, h2 c' hc']
  · by_cases e : c' = c
    · subst e; rw [Maps.has_put_same h1.isMap (kk.isKey _ hc), upd_same]; rfl
    · rw [Maps.has_put_other (fun e' => e (kk.inj _ _ hc' hc e')), upd_other _ _ _ _ e, h3 c' hc']
  · rw [Maps.size_put (h1.tidy kk.keyed), h3 c hc, h4, cnt_put _ _ _ hc]

theorem PM.drop {t : TypeId} (h : PM K ky w B n q) (kk : KeyKind K ky kv) (ht : Yba.prog.underlying t = some (.map K 45)) {c : Nat} (hc : c < 4) (ty : TypeId) :
    ∃ w', (Builtin.delete_ #[t, K] ty #[.map (some B), kv c]).run Yba.prog w = .ok (.tuple #[]) w' ∧ PM K ky w' B n (upd q c none) ∧ w.grownBy w' (some B) := by
  obtain ⟨D, h1, h2, h3, h4⟩ := h
  obtain ⟨w', hrun, ho, hg⟩ := h1.drop kk.keyed ht (kk.of c hc) ty
  refine ⟨w', hrun, ⟨_, ho, fun c' hc' => ?_, fun c' hc' => ?_, ?_⟩, hg.grown⟩
  · by_cases e : c' = c
    · subst e; rw [Maps.atKey_del_same, upd_same]; rfl
    · rw [Maps.atKey_del_other (fun e' => e (kk.inj _ _ hc' hc e')), upd_other _ _ _ _ e, h2 c' hc']
  · by_cases e : c' = c
    · subst e; rw [Maps.has_del_same, upd_same]; rfl
    · rw [Maps.has_del_other (fun e' => e (kk.inj _ _ hc' hc e')), upd_other _ _ _ _ e, h3 c' hc']
  · have e1 := Maps.size_del (k := ky c) (h1.tidy kk.keyed)
    have e2 := cnt_del q c hc
    rw [h3 c hc, h4] at e1
    omega
end
end Go.Proofs.Ybulkatxe
