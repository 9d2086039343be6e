/-
  MAPS: an object of entries, read as an association list.
-/
import Derived.Test.Qxb6001364aV3
namespace Go.Fra
open Go.RowKit

/-- The first entry of key k: its place and its value. -/
def findL {κ : Type} (same : κ → κ → Bool) (k : κ) : List (κ × Value) → Nat → Option (Nat × Value)
  | [], _ => none
  | p :: l, i => if same k p.1 then some (i, p.2) else findL same k l (i + 1)
def putL {κ : Type} (same : κ → κ → Bool) (k : κ) (v : Value) (l : List (κ × Value)) : List (κ × Value) :=
  match findL same k l 0 with
  | some (i, _) => l.set i (k, v)
  | none => l ++ [(k, v)]

/-- Block b is a map whose entries read as l. -/
def MapAt (w : World) (b : Nat) {κ : Type} (en : κ → Value) (l : List (κ × Value)) : Prop :=
  ∃ es clock, w.heap[b]? = some (.map es clock) ∧ es.toList.map (fun e => (e.key, e.val)) = l.map (fun p => (en p.1, p.2))

theorem MapAt.of_eq {w w' : World} {b : Nat} {κ : Type} {en : κ → Value} {l : List (κ × Value)} (h : MapAt w b en l) (e : w'.heap[b]? = w.heap[b]?) : MapAt w' b en l := by
  obtain ⟨es, clock, h1, h2⟩ := h
  exact ⟨es, clock, by rw [e]; exact h1, h2⟩
theorem MapAt.lt {w : World} {b : Nat} {κ : Type} {en : κ → Value} {l : List (κ × Value)} (h : MapAt w b en l) : b < w.heap.size := by
  obtain ⟨es, clock, h1, _⟩ := h
  exact (Array.getElem?_eq_some_iff.1 h1).1

section
variable {P : Program} {ρ : Operand → Value} {w : World} {dst : Option Tmp} {ty : TypeId} {pos : String} {aft : Array Edge} {g : Option (Nat × Bool)}

theorem run_getObj {b clock : Nat} {es : Array MapEntry} (h : w.heap[b]? = some (.map es clock)) : (getObj b).run P w = .ok (.map es clock) w := by
  simp [getObj, Sem.run, h]

theorem do_lookup2 {t key elem : TypeId} {x y : Operand} {b clock : Nat} {kv z : Value} {es : Array MapEntry} {r : Option (Nat × Value)} (hu : P.underlying t = some (.map key elem)) (hx : ρ x = .map (some b)) (hy : ρ y = kv)
    (hm : w.heap[b]? = some (.map es clock)) (hck : ∀ e, (Instr.checkKey e 10000 key kv).run P w = .ok () w) (hf : (Instr.findKey key kv es.toList).run P w = .ok r w) (hz : (zeroValue elem).run P w = .ok z w) :
    Does P ⟨dst, .lookup t x y true, ty, pos, aft, g⟩ ρ w (.tuple #[(r.map (·.2)).getD z, .bool r.isSome]) w := by
  refine .inl ?_
  have hg := run_getObj (P := P) hm
  cases r with
  | none => simp [execOp, hx, hy, Instr.lookup, underlying, hu, hg, hck, hf, hz]
  | some p => simp [execOp, hx, hy, Instr.lookup, underlying, hu, hg, hck, hf]
theorem do_lookup1 {t key elem : TypeId} {x y : Operand} {b clock : Nat} {kv z : Value} {es : Array MapEntry} {r : Option (Nat × Value)} (hu : P.underlying t = some (.map key elem)) (hx : ρ x = .map (some b)) (hy : ρ y = kv)
    (hm : w.heap[b]? = some (.map es clock)) (hck : ∀ e, (Instr.checkKey e 10000 key kv).run P w = .ok () w) (hf : (Instr.findKey key kv es.toList).run P w = .ok r w) (hz : (zeroValue elem).run P w = .ok z w) :
    Does P ⟨dst, .lookup t x y false, ty, pos, aft, g⟩ ρ w ((r.map (·.2)).getD z) w := by
  refine .inl ?_
  have hg := run_getObj (P := P) hm
  cases r with
  | none => simp [execOp, hx, hy, Instr.lookup, underlying, hu, hg, hck, hf, hz]
  | some p => simp [execOp, hx, hy, Instr.lookup, underlying, hu, hg, hck, hf]
end

/-! ### integer keys -/
def ik (k : Int) : Value := .int .i64 k
theorem findNow_int (k : Int) : ∀ (es : List MapEntry) (l : List (Int × Value)) (i : Nat), es.map (fun e => (e.key, e.val)) = l.map (fun p => (ik p.1, p.2)) → Instr.findNow (.int .i64) (ik k) es i = some (findL (· == ·) k l i)
  | [], [], i, _ => rfl
  | [], p :: l, i, h => by simp at h
  | e :: es, [], i, h => by simp at h
  | e :: es, p :: l, i, h => by
    simp only [List.map_cons, List.cons.injEq, Prod.mk.injEq] at h
    obtain ⟨⟨h1, h2⟩, h3⟩ := h
    have ih := findNow_int k es l (i + 1) h3
    by_cases hk : k = p.1
    · simp [Instr.findNow, Instr.sameNow, h1, h2, ik, findL, hk]
    · have hk' : (k == p.1) = false := by simpa using hk
      simp only [Instr.findNow, Instr.sameNow, h1, ik, if_true, hk', findL, Bool.false_eq_true, if_false]
      exact ih

theorem run_checkKey_int {P : Program} {w : World} {key : TypeId} (hk : P.underlying key = some (.int .i64)) (k : Int) (e : Bool) : (Instr.checkKey e 10000 key (ik k)).run P w = .ok () w := by
  have h1 : ∀ d, (Instr.checkKey e (d + 1) key (ik k)).run P w = .ok () w := by
    intro d
    simp [Instr.checkKey, underlying, hk, ik]
  exact h1 9999
theorem run_findKey_int {P : Program} {w : World} {key : TypeId} (hk : P.underlying key = some (.int .i64)) (k : Int) (es : List MapEntry) (l : List (Int × Value)) (h : es.map (fun e => (e.key, e.val)) = l.map (fun p => (ik p.1, p.2))) :
    (Instr.findKey key (ik k) es).run P w = .ok (findL (· == ·) k l 0) w := by
  simp [Instr.findKey, underlying, hk, findNow_int k es l 0 h]

theorem findL_some {κ : Type} {same : κ → κ → Bool} {k : κ} : ∀ (l : List (κ × Value)) (i j : Nat) (v : Value), findL same k l i = some (j, v) → ∃ x, j = i + x ∧ ∃ q, l[x]? = some (q, v) ∧ same k q = true
  | [], i, j, v, h => by simp [findL] at h
  | p :: l, i, j, v, h => by
    by_cases hk : same k p.1 = true
    · simp only [findL, hk, if_true, Option.some.injEq, Prod.mk.injEq] at h
      obtain ⟨rfl, rfl⟩ := h
      exact ⟨0, rfl, p.1, rfl, hk⟩
    · have hk' : same k p.1 = false := by simpa using hk
      simp only [findL, hk', Bool.false_eq_true, if_false] at h
      obtain ⟨x, rfl, q, h1, h2⟩ := findL_some l (i + 1) j v h
      exact ⟨x + 1, by omega, q, h1, h2⟩

theorem mapPut_int {P : Program} {w : World} {t key elem : TypeId} {b : Nat} {l : List (Int × Value)} (hu : P.underlying t = some (.map key elem)) (hk : P.underlying key = some (.int .i64)) (hm : MapAt w b ik l) (k : Int) (v : Value) :
    ∃ w', MapAt w' b ik (putL (· == ·) k v l) ∧ (∀ j, j ≠ b → w'.heap[j]? = w.heap[j]?) ∧ w'.heap.size = w.heap.size ∧ (∀ B a, B ≤ b → Below B a w → Below B a w') ∧
      ∀ (ρ : Operand → Value) (x y z : Operand) (dst : Option Tmp) (ty : TypeId) (pos : String) (aft : Array Edge) (g : Option (Nat × Bool)), ρ x = .map (some b) → ρ y = ik k → ρ z = v → Does P ⟨dst, .mapUpdate t x y z, ty, pos, aft, g⟩ ρ w undef w' := by
  have hlt := hm.lt
  obtain ⟨es, clock, hh, he⟩ := hm
  have hg := run_getObj (P := P) hh
  have hf := run_findKey_int (P := P) (w := w) hk k es.toList l he
  have hc := run_checkKey_int (P := P) (w := w) hk k false
  have hlen : es.size = l.length := by simpa using congrArg List.length he
  have hset : ∀ o : Obj, (setObj b o).run P w = .ok () { w with heap := w.heap.setIfInBounds b o } := by
    intro o
    simp [setObj, Sem.run, hh]
  have hkeep : ∀ (o : Obj) (j : Nat), j ≠ b → ({ w with heap := w.heap.setIfInBounds b o } : World).heap[j]? = w.heap[j]? := by
    intro o j hj
    simp only []
    rw [Array.getElem?_setIfInBounds_ne (by omega)]
  have hbel : ∀ (o : Obj) (B : Nat) (a : World), B ≤ b → Below B a w → Below B a { w with heap := w.heap.setIfInBounds b o } := by
    intro o B a hB h
    refine ⟨h.os, h.tape, h.output, by simpa using h.size, fun j hj => ?_⟩
    rw [hkeep o j (by omega)]
    exact h.block j hj
  cases hr : findL (· == ·) k l 0 with
  | none =>
    refine ⟨{ w with heap := w.heap.setIfInBounds b (.map (es.push { key := ik k, val := v, born := clock }) (clock + 1)) }, ⟨es.push { key := ik k, val := v, born := clock }, clock + 1, ?_, ?_⟩, hkeep _, by simp, hbel _, ?_⟩
    · exact Array.getElem?_setIfInBounds_self_of_lt hlt
    · simp [putL, hr, he]
    · intro ρ x y z dst ty pos aft g hx hy hz
      refine .inr (.inl ⟨?_, rfl⟩)
      rw [hr] at hf
      simp [execOp, hx, hy, hz, Instr.mapUpdate, underlying, hu, hg, hc, hf, hset]
  | some r =>
    obtain ⟨i, v0⟩ := r
    obtain ⟨x0, hx0, q, hq, hs⟩ := findL_some l 0 i v0 hr
    rw [Nat.zero_add] at hx0
    subst hx0
    have hil : i < es.size := by have := (List.getElem?_eq_some_iff.1 hq).1; omega
    have hkey : es[i].key = ik k := by
      have h1 : (es.toList.map (fun e => (e.key, e.val)))[i]? = some (ik q, v0) := by rw [he]; simp [hq]
      simp [hil] at h1
      rw [h1.1]
      have : k = q := by simpa using hs
      rw [this]
    have hst : (Instr.keyThatStays (((es[i]?).map (·.key)).getD (ik k)) (ik k)).run P w = .ok (ik k) w := by
      simp [Instr.keyThatStays, hil, hkey, Instr.sameBits, ik]
    refine ⟨{ w with heap := w.heap.setIfInBounds b (.map (es.modify i fun e => { e with key := ik k, val := v }) clock) }, ⟨es.modify i fun e => { e with key := ik k, val := v }, clock, ?_, ?_⟩, hkeep _, by simp, hbel _, ?_⟩
    · exact Array.getElem?_setIfInBounds_self_of_lt hlt
    · simp only [putL, hr]
      apply List.ext_getElem?
      intro j
      have hj := congrArg (fun (z : List (Value × Value)) => z[j]?) he
      simp only [List.getElem?_map] at hj ⊢
      by_cases hji : i = j
      · subst hji
        have hi2 : i < l.length := by omega
        simp [hil, hi2]
      · rw [List.getElem?_set_ne hji, ← hj]
        simp [hji]
    · intro ρ x y z dst ty pos aft g hx hy hz
      refine .inr (.inl ⟨?_, rfl⟩)
      rw [hr] at hf
      simp [execOp, hx, hy, hz, Instr.mapUpdate, underlying, hu, hg, hc, hf, hst, hset]
end Go.Fra
