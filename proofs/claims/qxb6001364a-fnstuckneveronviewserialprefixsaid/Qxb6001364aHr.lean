/-
  MORE OPERATIONS OF THIS PROGRAM: arrays of bytes, literals, maps by any key.
-/
import Derived.Test.Qxb6001364aHt
import Derived.Laws.BytesString
import Derived.MapKept
namespace Go.Proofs.Qxb6001364a
open Go.Fra Go.RowKit
set_option linter.unusedVariables false

theorem eq60 {w : World} (a b c d : Int) : (Op.equal 60 (.agg #[.int .i64 a, .int .i64 b]) (.agg #[.int .i64 c, .int .i64 d])).run Try.prog w = .ok ((a, b) == (c, d)) w := by
  have hp : ∀ (x y : Int), (part 3 #[Value.int .i64 x, Value.int .i64 y] 0).run Try.prog w = .ok (.int .i64 x) w := by intro x y; kernel_rfl
  have hq : ∀ (x y : Int), (part 3 #[Value.int .i64 x, Value.int .i64 y] 1).run Try.prog w = .ok (.int .i64 y) w := by intro x y; kernel_rfl
  have hs := T3.run_size w
  have h1 : ∀ D, (∀ (x y : Int), (Op.equalIn D 3 (.int .i64 x) (.int .i64 y)).run Try.prog w = .ok (x == y) w) → (Op.equalIn (D + 1) 60 (.agg #[.int .i64 a, .int .i64 b]) (.agg #[.int .i64 c, .int .i64 d])).run Try.prog w = .ok ((a, b) == (c, d)) w := by
    intro D he
    by_cases h1 : a = c
    · by_cases h2 : b = d
      · simp [Op.equalIn, underlying, Try.underlying60, hs, hp, hq, he, h1, h2, Std.Legacy.Range.forIn_eq_forIn_range', List.range']
      · simp [Op.equalIn, underlying, Try.underlying60, hs, hp, hq, he, h1, h2, Std.Legacy.Range.forIn_eq_forIn_range', List.range']
    · simp [Op.equalIn, underlying, Try.underlying60, hs, hp, he, h1, Std.Legacy.Range.forIn_eq_forIn_range', List.range']
  refine h1 9999 fun x y => ?_
  have h2 : ∀ dd, (Op.equalIn (dd + 1) 3 (.int .i64 x) (.int .i64 y)).run Try.prog w = .ok (x == y) w := by
    intro dd
    simp [Op.equalIn, underlying, Try.underlying3]
  exact h2 9998
theorem ck60 {w : World} (a b : Int) (e : Bool) : (Instr.checkKey e 10000 60 (.agg #[.int .i64 a, .int .i64 b])).run Try.prog w = .ok () w := by
  have hp : ∀ (x y : Int), (part 3 #[Value.int .i64 x, Value.int .i64 y] 0).run Try.prog w = .ok (.int .i64 x) w := by intro x y; kernel_rfl
  have hq : ∀ (x y : Int), (part 3 #[Value.int .i64 x, Value.int .i64 y] 1).run Try.prog w = .ok (.int .i64 y) w := by intro x y; kernel_rfl
  have hs := T3.run_size w
  have h1 : ∀ dd, (Instr.checkKey e (dd + 2) 60 (.agg #[.int .i64 a, .int .i64 b])).run Try.prog w = .ok () w := by
    intro dd
    simp [Instr.checkKey, underlying, Try.underlying60, hs, hp, hq, Std.Legacy.Range.forIn_eq_forIn_range', List.range']
  exact h1 9998

theorem T73 : TyI Try.prog 73 (.array 24 5) (.agg (Array.replicate 24 (.int .u8 0))) 24 24 := ⟨Try.underlying73, by kernel_rfl⟩
theorem T74 : TyI Try.prog 74 (.slice 5) (.slice none 0 0) 1 24 := ⟨Try.underlying74, by kernel_rfl⟩
end Go.Proofs.Qxb6001364a
namespace Go.Fra
open Go.RowKit
section
variable {P : Program} {ρ : Operand → Value} {w : World} {dst : Option Tmp} {ty : TypeId} {pos : String} {aft : Array Edge} {g : Option (Nat × Bool)}
theorem do_rem {t t2 : TypeId} {x y : Operand} {a b r : Nat} (hx : ρ x = .int .i64 (a : Int)) (hy : ρ y = .int .i64 (b : Int)) (hb : 0 < b) (hr : a % b = r) (ha : a < 9223372036854775808) :
    Does P ⟨dst, .binOp .rem t x y t2, ty, pos, aft, g⟩ ρ w (.int .i64 (r : Int)) w := by
  refine do_bin hx hy ?_
  have h0 : ¬ b = 0 := by omega
  have h1 : (a : Int).tmod (b : Int) = (r : Int) := by rw [Int.tmod_eq_emod_of_nonneg (by omega)]; omega
  have h2 := Nat.mod_le a b
  simp [binOp, Op.intDiv, h0, h1]
theorem do_quo {t t2 : TypeId} {x y : Operand} {a b r : Nat} (hx : ρ x = .int .i64 (a : Int)) (hy : ρ y = .int .i64 (b : Int)) (hb : 0 < b) (hr : a / b = r) (ha : a < 9223372036854775808) :
    Does P ⟨dst, .binOp .quo t x y t2, ty, pos, aft, g⟩ ρ w (.int .i64 (r : Int)) w := by
  refine do_bin hx hy ?_
  have h0 : ¬ b = 0 := by omega
  have h1 : (a : Int).tdiv (b : Int) = (r : Int) := by rw [Int.tdiv_eq_ediv_of_nonneg (by omega), ← hr]; rfl
  have h2 := Nat.div_le_self a b
  rw [hr] at h2
  simp [binOp, Op.intDiv, h0, h1, wrap_small (r : Int) (by omega) (by omega)]
theorem do_sliceA {t e : TypeId} {x y : Operand} {b n l : Nat} {zt : Value} {s1 b1 : Nat} {d : TypeDesc} {z : Value} {by_ : Nat} (T : TyI P t (.array n e) zt s1 b1) (TE : TyI P e d z 1 by_)
    (hx : ρ x = .pointer (some ⟨b, 0, none⟩)) (hy : ρ y = .int .i64 (l : Int)) (hl : l < n) :
    Does P ⟨dst, .slice t x (some y) none none, ty, pos, aft, g⟩ ρ w (.slice (some ⟨b, l, none⟩) (n - l) (n - l)) w := by
  refine .inl ?_
  have hs := TE.run_size w
  have h1 : ¬ n = l := by omega
  have h2 : l ≤ n := by omega
  simp [execOp, hx, hy, Instr.sliceAt, Instr.sliceBounds, Instr.sliceBound, Instr.sureAddr, asIntOf, underlying, T.u, hs, h1, h2, add_plain]
theorem do_convBS {s t e : TypeId} {x : Operand} {a : Addr} {c : Nat} {ns : List Int} (hs : P.underlying s = some (.slice e)) (he : P.underlying e = some (.int .u8)) (ht : P.underlying t = some .string)
    (hx : ρ x = .slice (some a) ns.length c) (hc : ∀ j v, (ns.map (Value.int .u8))[j]? = some v → w.cell? (a.add j) = some v) :
    Does P ⟨dst, .convert s t x, ty, pos, aft, g⟩ ρ w (.string (ns.foldl (fun r n => r.push (UInt8.ofNat n.toNat)) ByteArray.empty)) w := by
  refine .inl ?_
  have h1 := run_loadCells_list (P := P) (w := w) a (ns.map (Value.int .u8)) hc
  rw [List.length_map] at h1
  have h2 := run_bytesToString (P := P) w a ns.length c ns h1
  have h3 := run_convert_bytes_string (P := P) w s t e (some a) ns.length c hs he ht
  simp [execOp, hx, h3, h2]
theorem do_bs1 {t e : TypeId} {x : Operand} {v : Value} {zt : Value} {s1 b1 : Nat} {d : TypeDesc} {z : Value} {by_ : Nat} (T : TyI P t (.slice e) zt s1 b1) (TE : TyI P e d z 1 by_) (hz : z.cells = #[z]) (hx : ρ x = v) (hv : v.cells = #[v]) :
    Does P ⟨dst, .buildSlice t 1 #[(0, x)], ty, pos, aft, g⟩ ρ w (.slice (some ⟨w.heap.size, 0, none⟩) 1 1) (w.alloc (.cells #[v] e)) := by
  refine .inl ?_
  have hs := TE.run_size w
  have hzz := TE.run_zero w
  simp [execOp, Instr.buildSlice, underlying, T.u, hs, hzz, hz, hx, hv, Instr.fill, newRow, newObj, Sem.run, Array.range]
  congr 2
theorem do_bs2 {t e : TypeId} {x : Operand} {v0 v1 : Value} {zt : Value} {s1 b1 : Nat} {d : TypeDesc} {z0 z1 : Value} {by_ : Nat} (T : TyI P t (.slice e) zt s1 b1) (TE : TyI P e d (.agg #[z0, z1]) 2 by_) (hx : ρ x = .agg #[v0, v1]) :
    Does P ⟨dst, .buildSlice t 1 #[(0, x)], ty, pos, aft, g⟩ ρ w (.slice (some ⟨w.heap.size, 0, none⟩) 1 1) (w.alloc (.cells #[v0, v1] e)) := by
  refine .inl ?_
  have hs := TE.run_size w
  have hzz := TE.run_zero w
  simp [execOp, Instr.buildSlice, underlying, T.u, hs, hzz, hx, Value.cells, Instr.fill, newRow, newObj, Sem.run, Array.range]
  congr 2
end

/-! ### maps in a part of the heap -/
def getL {κ : Type} (same : κ → κ → Bool) (k : κ) (l : List (κ × Value)) : Option Value := (findL same k l 0).map (·.2)
theorem findL_map {κ : Type} {same : κ → κ → Bool} {k : κ} : ∀ (l : List (κ × Value)) (i : Nat), (findL same k l i).map (·.2) = getL same k l
  | [], i => rfl
  | p :: l, i => by
    unfold getL
    simp only [findL]
    split
    · rfl
    · rw [findL_map l (i + 1), findL_map l (0 + 1)]
theorem getL_cons {κ : Type} {same : κ → κ → Bool} {k : κ} (p : κ × Value) (l : List (κ × Value)) : getL same k (p :: l) = if same k p.1 then some p.2 else getL same k l := by
  unfold getL
  simp only [findL]
  split
  · rfl
  · rw [findL_map l (0 + 1)]; rfl
theorem getL_nil {κ : Type} {same : κ → κ → Bool} {k : κ} : getL same k [] = none := rfl

theorem getL_put_aux {κ : Type} {same : κ → κ → Bool} (law : ∀ a b, same a b = true ↔ a = b) (k k' : κ) (v : Value) : ∀ (l : List (κ × Value)) (i : Nat),
    (∀ j u, findL same k l i = some (j, u) → ∃ x, j = i + x ∧ getL same k' (l.set x (k, v)) = if same k' k then some v else getL same k' l) ∧
    (findL same k l i = none → getL same k' (l ++ [(k, v)]) = if same k' k then some v else getL same k' l)
  | [], i => by
    refine ⟨fun j u h => by simp [findL] at h, fun _ => ?_⟩
    simp [getL_cons, getL_nil]
  | p :: l, i => by
    obtain ⟨h1, h2⟩ := getL_put_aux law k k' v l (i + 1)
    by_cases hk : same k p.1 = true
    · have hkp := (law _ _).1 hk
      refine ⟨fun j u h => ?_, fun h => by simp [findL, hk] at h⟩
      simp only [findL, hk, if_true, Option.some.injEq, Prod.mk.injEq] at h
      refine ⟨0, by omega, ?_⟩
      simp only [List.set_cons_zero, getL_cons, ← hkp]
      split <;> rfl
    · have hk' : same k p.1 = false := by simpa using hk
      have hne : ∀ (c : Option Value), (if same k' p.1 = true then some p.2 else if same k' k = true then some v else c) = if same k' k = true then some v else if same k' p.1 = true then some p.2 else c := by
        intro c
        by_cases ha : same k' p.1 = true
        · have hb : ¬ same k' k = true := fun hb => hk ((law _ _).2 (((law _ _).1 hb).symm.trans ((law _ _).1 ha)))
          simp [ha, hb]
        · simp [ha]
      refine ⟨fun j u h => ?_, fun h => ?_⟩
      · simp only [findL, hk', Bool.false_eq_true, if_false] at h
        obtain ⟨x, hx, hg⟩ := h1 j u h
        refine ⟨x + 1, by omega, ?_⟩
        rw [List.set_cons_succ, getL_cons, hg, getL_cons, hne]
      · simp only [findL, hk', Bool.false_eq_true, if_false] at h
        rw [List.cons_append, getL_cons, h2 h, getL_cons, hne]
theorem getL_put {κ : Type} {same : κ → κ → Bool} (law : ∀ a b, same a b = true ↔ a = b) (k k' : κ) (v : Value) (l : List (κ × Value)) : getL same k' (putL same k v l) = if same k' k then some v else getL same k' l := by
  obtain ⟨h1, h2⟩ := getL_put_aux law k k' v l 0
  unfold putL
  cases hf : findL same k l 0 with
  | none => exact h2 hf
  | some r =>
    obtain ⟨j, u⟩ := r
    obtain ⟨x, hx, hg⟩ := h1 j u hf
    rw [Nat.zero_add] at hx
    subst hx
    exact hg
theorem putL_length {κ : Type} {same : κ → κ → Bool} (k : κ) (v : Value) (l : List (κ × Value)) : (putL same k v l).length ≤ l.length + 1 := by
  unfold putL
  split <;> simp
theorem getL_mem {κ : Type} {same : κ → κ → Bool} {k : κ} {v : Value} {l : List (κ × Value)} (h : getL same k l = some v) : ∃ q, (q, v) ∈ l ∧ same k q = true := by
  unfold getL at h
  cases hf : findL same k l 0 with
  | none => rw [hf] at h; cases h
  | some r =>
    obtain ⟨j, u⟩ := r
    rw [hf] at h
    cases h
    obtain ⟨x, _, q, hq, hs⟩ := findL_some l 0 j u hf
    exact ⟨q, List.mem_of_getElem? hq, hs⟩

structure KeyOk (P : Program) (key : TypeId) {κ : Type} (en : κ → Value) (same : κ → κ → Bool) : Prop where
  law : ∀ a b, same a b = true ↔ a = b
  ck : ∀ (w : World) (k : κ) (e : Bool), (Instr.checkKey e 10000 key (en k)).run P w = .ok () w
  find : ∀ (w : World) (k : κ) (es : List MapEntry) (l : List (κ × Value)), es.map (fun e => (e.key, e.val)) = l.map (fun p => (en p.1, p.2)) → (Instr.findKey key (en k) es).run P w = .ok (findL same k l 0) w
  bits : ∀ k, Instr.sameBits 10000 (en k) (en k) = true

def MapV (V : Part) (b : Nat) {κ : Type} (en : κ → Value) (l : List (κ × Value)) : Prop :=
  ∃ es clock, V b = some (.map es clock) ∧ es.toList.map (fun e => (e.key, e.val)) = l.map (fun p => (en p.1, p.2))
theorem MapV.new {V : Part} {b : Nat} {κ : Type} {en : κ → Value} : MapV (addV V b (.map #[] 0)) b en [] := ⟨#[], 0, by simp [addV], rfl⟩

section
variable {P : Program} {N : Nat} {w0 w : World} {H : Nat → Part} {t : Nat} {mt key elem : TypeId} {κ : Type} {en : κ → Value} {same : κ → κ → Bool} {b : Nat} {l : List (κ × Value)} {z : Value}
  {ρ : Operand → Value} {dst : Option Tmp} {ty : TypeId} {pos : String} {aft : Array Edge} {g : Option (Nat × Bool)} {x y : Operand} {k : κ}
theorem MapV.look1 (K : KeyOk P key en same) (hu : P.underlying mt = some (.map key elem)) (hz : ∀ w, (zeroValue elem).run P w = .ok z w) (hm : MapV (H t) b en l) (hs : Split N w0 w H) (hx : ρ x = .map (some b)) (hy : ρ y = en k) :
    Does P ⟨dst, .lookup mt x y false, ty, pos, aft, g⟩ ρ w ((getL same k l).getD z) w := by
  obtain ⟨es, clock, h1, h2⟩ := hm
  exact do_lookup1 hu hx hy (hs.heap h1) (K.ck w k) (K.find w k _ l h2) (hz w)
theorem MapV.look2 (K : KeyOk P key en same) (hu : P.underlying mt = some (.map key elem)) (hz : ∀ w, (zeroValue elem).run P w = .ok z w) (hm : MapV (H t) b en l) (hs : Split N w0 w H) (hx : ρ x = .map (some b)) (hy : ρ y = en k) :
    Does P ⟨dst, .lookup mt x y true, ty, pos, aft, g⟩ ρ w (.tuple #[(getL same k l).getD z, .bool (getL same k l).isSome]) w := by
  obtain ⟨es, clock, h1, h2⟩ := hm
  have := do_lookup2 (dst := dst) (ty := ty) (pos := pos) (aft := aft) (g := g) hu hx hy (hs.heap h1) (K.ck w k) (K.find w k _ l h2) (hz w)
  unfold getL
  rwa [Option.isSome_map]
theorem MapV.len (hm : MapV (H t) b en l) (hs : Split N w0 w H) (hu : P.underlying mt = some (.map key elem)) (hx : ρ x = .map (some b)) :
    Does P ⟨dst, .call { callee := .builtin .len, args := #[x], argTypes := #[mt] }, ty, pos, aft, g⟩ ρ w (.int .i64 (l.length : Int)) w := by
  obtain ⟨es, clock, h1, h2⟩ := hm
  have hl : es.size = l.length := by simpa using congrArg List.length h2
  rw [← hl]
  exact do_lenM hu hx (hs.heap h1)
theorem MapV.put (K : KeyOk P key en same) (hu : P.underlying mt = some (.map key elem)) (hm : MapV (H t) b en l) (hs : Split N w0 w H) (k : κ) (v : Value) :
    ∃ w' V', MapV V' b en (putL same k v l) ∧ Split N w0 w' (updH H t V') ∧
      ∀ (ρ : Operand → Value) (x y z : Operand) (dst : Option Tmp) (ty : TypeId) (pos : String) (aft : Array Edge) (g : Option (Nat × Bool)), ρ x = .map (some b) → ρ y = en k → ρ z = v → Does P ⟨dst, .mapUpdate mt x y z, ty, pos, aft, g⟩ ρ w undef w' := by
  obtain ⟨es, clock, h1, he⟩ := hm
  have hh := hs.heap h1
  have hlt := hs.lt h1
  have hge := hs.ge h1
  have hg := run_getObj (P := P) hh
  have hf := K.find w k es.toList l he
  have hc := K.ck w k false
  have hlen : es.size = l.length := by simpa using congrArg List.length he
  have hset : ∀ o : Obj, (setObj b o).run P w = .ok () { w with heap := w.heap.setIfInBounds b o } := by
    intro o
    simp [setObj, Sem.run, hh]
  have hkeep : ∀ (o : Obj) (j : Nat), j ≠ b → ({ w with heap := w.heap.setIfInBounds b o } : World).heap[j]? = w.heap[j]? := by
    intro o j hj
    simp only []
    rw [Array.getElem?_setIfInBounds_ne (by omega)]
  have hbel : ∀ (o : Obj), Below N w { w with heap := w.heap.setIfInBounds b o } := by
    intro o
    refine ⟨rfl, rfl, rfl, by simp, fun j hj => ?_⟩
    rw [hkeep o j (by omega)]
  have hnew : ∀ (o : Obj), ({ w with heap := w.heap.setIfInBounds b o } : World).heap[b]? = some o := fun o => Array.getElem?_setIfInBounds_self_of_lt hlt
  cases hr : findL same k l 0 with
  | none =>
    refine ⟨{ w with heap := w.heap.setIfInBounds b (.map (es.push { key := en k, val := v, born := clock }) (clock + 1)) }, _, ⟨es.push { key := en k, val := v, born := clock }, clock + 1, by simp [addV], ?_⟩, hs.put h1 (hbel _) (hkeep _) (hnew _), ?_⟩
    · simp [putL, hr, he]
    · intro ρ x y z dst ty pos aft g hx hy hz
      refine .inr (.inl ⟨?_, rfl⟩)
      rw [hr] at hf
      simp [execOp, hx, hy, hz, Instr.mapUpdate, underlying, hu, hg, hc, hf, hset]
  | some r =>
    obtain ⟨i, v0⟩ := r
    obtain ⟨x0, hx0, q, hq, hsm⟩ := findL_some l 0 i v0 hr
    rw [Nat.zero_add] at hx0
    subst hx0
    have hil : i < es.size := by have := (List.getElem?_eq_some_iff.1 hq).1; omega
    have hkey : es[i].key = en k := by
      have h1 : (es.toList.map (fun e => (e.key, e.val)))[i]? = some (en q, v0) := by rw [he]; simp [hq]
      simp [hil] at h1
      rw [h1.1, (K.law _ _).1 hsm]
    have hst : (Instr.keyThatStays (((es[i]?).map (·.key)).getD (en k)) (en k)).run P w = .ok (en k) w := by
      simp [Instr.keyThatStays, hil, hkey, K.bits k]
    refine ⟨{ w with heap := w.heap.setIfInBounds b (.map (es.modify i fun e => { e with key := en k, val := v }) clock) }, _, ⟨es.modify i fun e => { e with key := en k, val := v }, clock, by simp [addV], ?_⟩, hs.put h1 (hbel _) (hkeep _) (hnew _), ?_⟩
    · simp only [putL, hr]
      apply List.ext_getElem?
      intro j
      have hj := congrArg (fun (z : List (Value × Value)) => z[j]?) he
      simp only [List.getElem?_map] at hj ⊢
      by_cases hji : i = j
      · subst hji
        have hi2 : i < l.length := by omega
        simp [hil, hi2]
      · rw [List.getElem?_set_ne hji, ← hj]
        simp [hji]
    · intro ρ x y z dst ty pos aft g hx hy hz
      refine .inr (.inl ⟨?_, rfl⟩)
      rw [hr] at hf
      simp [execOp, hx, hy, hz, Instr.mapUpdate, underlying, hu, hg, hc, hf, hst, hset]
end

theorem keyInt {P : Program} {key : TypeId} (hk : P.underlying key = some (.int .i64)) : KeyOk P key ik (fun a b => a == b) where
  law := fun a b => by simp
  ck := fun w k e => run_checkKey_int hk k e
  find := fun w k es l h => run_findKey_int hk k es l h
  bits := fun k => by simp [Instr.sameBits, ik]
end Go.Fra
namespace Go.Proofs.Qxb6001364a
open Go.Fra Go.RowKit
def pk (p : Int × Int) : Value := .agg #[.int .i64 p.1, .int .i64 p.2]
theorem findAsk60 {w : World} (k : Int × Int) : ∀ (es : List MapEntry) (l : List ((Int × Int) × Value)) (i : Nat), es.map (fun e => (e.key, e.val)) = l.map (fun p => (pk p.1, p.2)) → (Instr.findAsking 60 (pk k) es i).run Try.prog w = .ok (findL (fun a b => a == b) k l i) w
  | [], [], i, _ => by simp [Instr.findAsking, findL]
  | [], p :: l, i, h => by simp at h
  | e :: es, [], i, h => by simp at h
  | e :: es, p :: l, i, h => by
    simp only [List.map_cons, List.cons.injEq, Prod.mk.injEq] at h
    obtain ⟨⟨h1, h2⟩, h3⟩ := h
    have ih := findAsk60 (w := w) k es l (i + 1) h3
    have he := eq60 (w := w) k.1 k.2 p.1.1 p.1.2
    have hk : pk k = .agg #[.int .i64 k.1, .int .i64 k.2] := rfl
    have hp : e.key = .agg #[.int .i64 p.1.1, .int .i64 p.1.2] := h1
    by_cases hc : (k == p.1) = true
    · have hc' : ((k.1, k.2) == (p.1.1, p.1.2)) = true := hc
      rw [hc'] at he
      rw [hk]
      simp [Instr.findAsking, hp, he, findL, hc, h2]
    · have hc0 : (k == p.1) = false := by simpa using hc
      have hc' : ((k.1, k.2) == (p.1.1, p.1.2)) = false := hc0
      rw [hc'] at he
      rw [hk] at ih ⊢
      simp [Instr.findAsking, hp, he, findL, hc0, ih]
theorem key60 : KeyOk Try.prog 60 pk (fun a b => a == b) where
  law := fun a b => by simp
  ck := fun w k e => ck60 k.1 k.2 e
  find := by
    intro w k es l h
    cases es with
    | nil =>
      have : l = [] := by simpa using h.symm
      subst this
      simp [Instr.findKey, underlying, Try.underlying60, Instr.findNow, findL]
    | cons e es =>
      have h1 := findAsk60 (w := w) k (e :: es) l 0 h
      have h2 : Instr.findNow (.array 2 3) (pk k) (e :: es) 0 = none := by simp [Instr.findNow, Instr.sameNow]
      simp [Instr.findKey, underlying, Try.underlying60, h2, h1]
  bits := fun k => by simp [Instr.sameBits, pk]
def sk (s : ByteArray) : Value := .string s
theorem findNow_str (k : ByteArray) : ∀ (es : List MapEntry) (l : List (ByteArray × Value)) (i : Nat), es.map (fun e => (e.key, e.val)) = l.map (fun p => (sk p.1, p.2)) → Instr.findNow .string (sk k) es i = some (findL (fun a b => decide (a = b)) k l i)
  | [], [], i, _ => rfl
  | [], p :: l, i, h => by simp at h
  | e :: es, [], i, h => by simp at h
  | e :: es, p :: l, i, h => by
    simp only [List.map_cons, List.cons.injEq, Prod.mk.injEq] at h
    obtain ⟨⟨h1, h2⟩, h3⟩ := h
    have ih := findNow_str k es l (i + 1) h3
    by_cases hk : k = p.1
    · have hs : Instr.sameNow .string (sk k) e.key = some true := by
        rw [h1, ← hk]
        show some (k == k) = some true
        rw [(MapKept.bytes_beq k k).2 rfl]
      subst hk
      simp only [Instr.findNow, hs, h2, findL, decide_true, if_true]
    · have hk' : (k == p.1) = false := by
        cases hb : (k == p.1) with
        | false => rfl
        | true => exact absurd ((MapKept.bytes_beq _ _).1 hb) hk
      have hs : Instr.sameNow .string (sk k) e.key = some false := by rw [h1]; simp [Instr.sameNow, sk, hk']
      simp only [Instr.findNow, hs, findL, hk, decide_false, Bool.false_eq_true, if_false]
      exact ih
theorem keyStr : KeyOk Try.prog 9 sk (fun a b => decide (a = b)) where
  law := fun a b => by simp
  ck := by
    intro w k e
    have h1 : ∀ d, (Instr.checkKey e (d + 1) 9 (sk k)).run Try.prog w = .ok () w := by
      intro d
      simp [Instr.checkKey, underlying, Try.underlying9, sk]
    exact h1 9999
  find := fun w k es l h => by simp [Instr.findKey, underlying, Try.underlying9, findNow_str k es l 0 h]
  bits := fun k => by simp [Instr.sameBits, sk, (MapKept.bytes_beq k k).2 rfl]

section
variable {ρ : Operand → Value} {w : World} {dst : Option Tmp} {ty : TypeId} {pos : String} {aft : Array Edge} {g : Option (Nat × Bool)}
theorem run_build82 (a : Int) (b : Bool) (w : World) : (Instr.build 82 #[(0, .int .i64 a), (1, .bool b)]).run Try.prog w = .ok (.agg #[.int .i64 a, .bool b]) w := by kernel_rfl
theorem do_build82 {x0 x1 : Operand} {a : Int} {b : Bool} (h0 : ρ x0 = .int .i64 a) (h1 : ρ x1 = .bool b) :
    Does Try.prog ⟨dst, .build 82 #[(0, x0), (1, x1)], ty, pos, aft, g⟩ ρ w (.agg #[.int .i64 a, .bool b]) w := .inl (by simp [execOp, h0, h1, run_build82])
theorem run_build63 (a b : Int) (w : World) : (Instr.build 63 #[(0, .int .i64 a), (1, .int .i64 b)]).run Try.prog w = .ok (.agg #[.int .i64 a, .int .i64 b]) w := by kernel_rfl
theorem do_build63 {x0 x1 : Operand} {a b : Int} (h0 : ρ x0 = .int .i64 a) (h1 : ρ x1 = .int .i64 b) :
    Does Try.prog ⟨dst, .build 63 #[(0, x0), (1, x1)], ty, pos, aft, g⟩ ρ w (.agg #[.int .i64 a, .int .i64 b]) w := .inl (by simp [execOp, h0, h1, run_build63])
theorem run_build60 (a b : Int) (w : World) : (Instr.build 60 #[(0, .int .i64 a), (1, .int .i64 b)]).run Try.prog w = .ok (.agg #[.int .i64 a, .int .i64 b]) w := by kernel_rfl
theorem do_build60 {x0 x1 : Operand} {a b : Int} (h0 : ρ x0 = .int .i64 a) (h1 : ρ x1 = .int .i64 b) :
    Does Try.prog ⟨dst, .build 60 #[(0, x0), (1, x1)], ty, pos, aft, g⟩ ρ w (.agg #[.int .i64 a, .int .i64 b]) w := .inl (by simp [execOp, h0, h1, run_build60])
theorem run_build79 (a b : Option Addr) (n c n' c' : Nat) (m : Option Nat) (w : World) : (Instr.build 79 #[(0, .slice a n c), (1, .slice b n' c'), (2, .map m)]).run Try.prog w = .ok (.agg #[.slice a n c, .slice b n' c', .map m, .slice none 0 0, .slice none 0 0]) w := by kernel_rfl
theorem do_build79 {x0 x1 x2 : Operand} {a b : Option Addr} {n c n' c' : Nat} {m : Option Nat} (h0 : ρ x0 = .slice a n c) (h1 : ρ x1 = .slice b n' c') (h2 : ρ x2 = .map m) :
    Does Try.prog ⟨dst, .build 79 #[(0, x0), (1, x1), (2, x2)], ty, pos, aft, g⟩ ρ w (.agg #[.slice a n c, .slice b n' c', .map m, .slice none 0 0, .slice none 0 0]) w := .inl (by simp [execOp, h0, h1, h2, run_build79])
theorem run_build58 (a0 a1 a2 a3 a6 a7 : Option Addr) (n0 n1 n2 n3 n6 n7 c0 c1 c2 c3 c6 c7 : Nat) (w : World) : (Instr.build 58 #[(0, .slice a0 n0 c0), (1, .slice a1 n1 c1), (2, .slice a2 n2 c2), (3, .slice a3 n3 c3), (6, .slice a6 n6 c6), (7, .slice a7 n7 c7)]).run Try.prog w =
    .ok (.agg #[.slice a0 n0 c0, .slice a1 n1 c1, .slice a2 n2 c2, .slice a3 n3 c3, .slice none 0 0, .slice none 0 0, .slice a6 n6 c6, .slice a7 n7 c7]) w := by kernel_rfl
theorem do_build58 {x0 x1 x2 x3 x6 x7 : Operand} {a0 a1 a2 a3 a6 a7 : Option Addr} {n0 n1 n2 n3 n6 n7 c0 c1 c2 c3 c6 c7 : Nat} (h0 : ρ x0 = .slice a0 n0 c0) (h1 : ρ x1 = .slice a1 n1 c1) (h2 : ρ x2 = .slice a2 n2 c2) (h3 : ρ x3 = .slice a3 n3 c3) (h6 : ρ x6 = .slice a6 n6 c6) (h7 : ρ x7 = .slice a7 n7 c7) :
    Does Try.prog ⟨dst, .build 58 #[(0, x0), (1, x1), (2, x2), (3, x3), (6, x6), (7, x7)], ty, pos, aft, g⟩ ρ w (.agg #[.slice a0 n0 c0, .slice a1 n1 c1, .slice a2 n2 c2, .slice a3 n3 c3, .slice none 0 0, .slice none 0 0, .slice a6 n6 c6, .slice a7 n7 c7]) w :=
  .inl (by simp [execOp, h0, h1, h2, h3, h6, h7, run_build58])
end
end Go.Proofs.Qxb6001364a
