/-
  THE HEAP AND MORE OPERATIONS: blocks known whole; structs of three cells; strings; append of strings.
-/
import Derived.Test.Qxb6001364aTy
import Derived.Below
namespace Go.Fra
open Go.RowKit

/-- Block b is a row of the cells cs, not frozen. -/
def Blk (w : World) (b : Nat) (t : TypeId) (cs : List Value) : Prop := w.heap[b]? = some (.cells cs.toArray t (0, 0))

theorem Blk.lt {w : World} {b : Nat} {t : TypeId} {cs : List Value} (h : Blk w b t cs) : b < w.heap.size := by
  unfold Blk at h
  exact (Array.getElem?_eq_some_iff.1 h).1
theorem Blk.cell {w : World} {b : Nat} {t : TypeId} {cs : List Value} (h : Blk w b t cs) {i : Nat} {v : Value} (hv : cs[i]? = some v) : w.cell? ⟨b, i, none⟩ = some v := by
  unfold Blk at h
  simp [World.cell?, h, hv]
theorem Blk.frozen {w : World} {b : Nat} {t : TypeId} {cs : List Value} (h : Blk w b t cs) (i : Nat) : w.frozen? ⟨b, i, none⟩ = false := by
  unfold Blk at h
  simp [World.frozen?, h]
theorem Blk.set {w : World} {b : Nat} {t : TypeId} {cs : List Value} (h : Blk w b t cs) (i : Nat) (v : Value) : Blk (w.setCell ⟨b, i, none⟩ v) b t (cs.set i v) := by
  unfold Blk at *
  simp [World.setCell, Array.getElem?_modify, h]
theorem Blk.of_eq {w w' : World} {b : Nat} {t : TypeId} {cs : List Value} (h : Blk w b t cs) (e : w'.heap[b]? = w.heap[b]?) : Blk w' b t cs := by
  unfold Blk at *
  rw [e, h]
theorem Blk.drew {w : World} {b : Nat} {t : TypeId} {cs : List Value} (h : Blk w b t cs) : Blk w.drew b t cs := h
theorem Blk.new (w : World) (cs : Array Value) (t : TypeId) : Blk (w.alloc (.cells cs t)) w.heap.size t cs.toList := by
  unfold Blk
  rw [heap_alloc_new]
theorem heap_al {w : World} {o : Obj} {k : Nat} (h : k < w.heap.size) : (w.alloc o).heap[k]? = w.heap[k]? := Below.heap_alloc w o k h
theorem heap_set {w : World} {a : Addr} {v : Value} {k : Nat} (h : k ≠ a.block) : (w.setCell a v).heap[k]? = w.heap[k]? := Below.heap_setCell w a v k h
theorem size_set {w : World} {a : Addr} {v : Value} : (w.setCell a v).heap.size = w.heap.size := by simp [World.setCell]
theorem size_alloc {w : World} {o : Obj} : (w.alloc o).heap.size = w.heap.size + 1 := by simp

theorem made_list (z : Value) (n : Nat) : (madeCells #[z] n).toList = List.replicate n z := by
  apply List.ext_getElem
  · simp [madeCells]
  · intro i h1 h2
    simp [madeCells, Nat.mod_one]

def ints (xs : List Int) : List Value := xs.map (Value.int .i64)
theorem ints_length (xs : List Int) : (ints xs).length = xs.length := by simp [ints]
theorem ints_get (xs : List Int) (i : Nat) (h : i < xs.length) : (ints xs)[i]? = some (.int .i64 xs[i]) := by simp [ints, h]
def bools (xs : List Bool) : List Value := xs.map Value.bool
theorem bools_length (xs : List Bool) : (bools xs).length = xs.length := by simp [bools]
theorem bools_get (xs : List Bool) (i : Nat) (h : i < xs.length) : (bools xs)[i]? = some (.bool xs[i]) := by simp [bools, h]

section
variable {P : Program} {ρ : Operand → Value} {w : World} {dst : Option Tmp} {ty : TypeId} {pos : String} {aft : Array Edge} {g : Option (Nat × Bool)}

theorem do_load3 {t : TypeId} {x : Operand} {b o : Nat} {v0 v1 v2 : Value} {d : TypeDesc} {z : Value} {c : Nat} (T : TyI P t d z 3 c) (hf : flat d = false) (hx : ρ x = .pointer (some ⟨b, o, none⟩))
    (h0 : w.cell? ⟨b, o, none⟩ = some v0) (h1 : w.cell? ⟨b, o + 1, none⟩ = some v1) (h2 : w.cell? ⟨b, o + 2, none⟩ = some v2) :
    Does P ⟨dst, .load t x, ty, pos, aft, g⟩ ρ w (.agg #[v0, v1, v2]) w := by
  refine .inl ?_
  have ha : (isAgg t).run P w = .ok true w := by
    cases d <;> simp [flat] at hf <;> simp [isAgg, underlying, T.u]
  have hs := T.run_size w
  simp [execOp, hx, Instr.loadAt, Instr.sureAddr, loadVar, ha, hs, loadCells, loadCellsFrom, load, Sem.run, add_plain, h0, h1, h2]

theorem run_store1 {α : Type} {a : Addr} {u v : Value} {k : Sem α} (hone : v.oneCell' = true) (hc : w.cell? a = some u) (hf : w.frozen? a = false) : (Sem.store .plain a v k).run P w = k.run P (w.setCell a v) := by
  cases v <;> simp [Value.oneCell'] at hone <;> simp [Sem.run, hc, hf]

theorem do_store3 {t : TypeId} {x y : Operand} {b o : Nat} {u0 u1 u2 v0 v1 v2 : Value} {d : TypeDesc} {z : Value} {c : Nat} (T : TyI P t d z 3 c) (hx : ρ x = .pointer (some ⟨b, o, none⟩)) (hy : ρ y = .agg #[v0, v1, v2])
    (hone0 : v0.oneCell' = true) (hone1 : v1.oneCell' = true) (hone2 : v2.oneCell' = true) (hc0 : w.cell? ⟨b, o, none⟩ = some u0) (hc1 : w.cell? ⟨b, o + 1, none⟩ = some u1) (hc2 : w.cell? ⟨b, o + 2, none⟩ = some u2)
    (hf0 : w.frozen? ⟨b, o, none⟩ = false) (hf1 : w.frozen? ⟨b, o + 1, none⟩ = false) (hf2 : w.frozen? ⟨b, o + 2, none⟩ = false) :
    Does P ⟨dst, .store t x y, ty, pos, aft, g⟩ ρ w undef (((w.setCell ⟨b, o, none⟩ v0).setCell ⟨b, o + 1, none⟩ v1).setCell ⟨b, o + 2, none⟩ v2) := by
  refine .inr (.inl ⟨?_, rfl⟩)
  have hs := T.run_size w
  have e1 : (w.setCell ⟨b, o, none⟩ v0).cell? ⟨b, o + 1, none⟩ = some u1 := by
    rw [World.cell?_setCell_other (w := w) (v := v0) (a := ⟨b, o, none⟩) (b := ⟨b, o + 1, none⟩) (by simp)]; exact hc1
  have e2 : (w.setCell ⟨b, o, none⟩ v0).frozen? ⟨b, o + 1, none⟩ = false := by rw [World.frozen?_setCell]; exact hf1
  have e3 : ((w.setCell ⟨b, o, none⟩ v0).setCell ⟨b, o + 1, none⟩ v1).cell? ⟨b, o + 2, none⟩ = some u2 := by
    rw [World.cell?_setCell_other (w := w.setCell ⟨b, o, none⟩ v0) (v := v1) (a := ⟨b, o + 1, none⟩) (b := ⟨b, o + 2, none⟩) (by simp)]
    rw [World.cell?_setCell_other (w := w) (v := v0) (a := ⟨b, o, none⟩) (b := ⟨b, o + 2, none⟩) (by simp)]; exact hc2
  have e4 : ((w.setCell ⟨b, o, none⟩ v0).setCell ⟨b, o + 1, none⟩ v1).frozen? ⟨b, o + 2, none⟩ = false := by rw [World.frozen?_setCell, World.frozen?_setCell]; exact hf2
  have r : (storeCells ⟨b, o, none⟩ [v0, v1, v2]).run P w = .ok () (((w.setCell ⟨b, o, none⟩ v0).setCell ⟨b, o + 1, none⟩ v1).setCell ⟨b, o + 2, none⟩ v2) := by
    simp only [storeCells, store, add_plain, Nat.add_zero]
    show (Sem.store .plain ⟨b, o, none⟩ v0 (Sem.store .plain ⟨b, o + 1, none⟩ v1 (Sem.store .plain ⟨b, o + 2, none⟩ v2 (.pure ())))).run P w = _
    rw [run_store1 hone0 hc0 hf0, run_store1 hone1 e1 e2, run_store1 hone2 e3 e4]
    rfl
  simp [execOp, hx, hy, Instr.storeAt, Instr.sureAddr, storeVar, Value.cells, hs, r]

theorem do_lenStr {t : TypeId} {x : Operand} {s : ByteArray} (hu : P.underlying t = some .string) (hx : ρ x = .string s) :
    Does P ⟨dst, .call { callee := .builtin .len, args := #[x], argTypes := #[t] }, ty, pos, aft, g⟩ ρ w (.int .i64 (s.size : Int)) w := by
  refine .inl ?_
  simp [execOp, resolve, invoke, builtin, Builtin.len_, underlying, hu, hx, goInt]

theorem do_neqS {t t2 : TypeId} {x y : Operand} {a b : ByteArray} (hx : ρ x = .string a) (hy : ρ y = .string b) :
    Does P ⟨dst, .binOp .neq t x y t2, ty, pos, aft, g⟩ ρ w (.bool (a.toList != b.toList)) w := by
  refine .inl ?_
  have hg : (eqGuard .neq t x y (.string a) (.string b)).run P w = .ok () w := by simp [eqGuard]
  have hb : (binOp .neq t (.string a) (.string b)).run P w = .ok (.bool (a.toList != b.toList)) w := by
    simp [binOp, Op.stringOp, bne]
  simp [execOp, hx, hy, hg, hb]

theorem do_neqSF {t t2 : TypeId} {x y : Operand} {a b : ByteArray} (hx : ρ x = .string a) (hy : ρ y = .string b) (h : a = b) :
    Does P ⟨dst, .binOp .neq t x y t2, ty, pos, aft, g⟩ ρ w (.bool false) w := (do_neqS hx hy).cast (by simp [h])
theorem do_neqB {t t2 : TypeId} {x y : Operand} {a b : Bool} (hu : P.underlying t = some .bool) (hx : ρ x = .bool a) (hy : ρ y = .bool b) :
    Does P ⟨dst, .binOp .neq t x y t2, ty, pos, aft, g⟩ ρ w (.bool (a != b)) w := by
  refine .inl ?_
  have hg : (eqGuard .neq t x y (.bool a) (.bool b)).run P w = .ok () w := by simp [eqGuard]
  have hb : (binOp .neq t (.bool a) (.bool b)).run P w = .ok (.bool (a != b)) w := by
    have e : (Op.equal t (.bool a) (.bool b)).run P w = .ok (a == b) w := by
      have h1 : ∀ d, (Op.equalIn (d + 1) t (.bool a) (.bool b)).run P w = .ok (a == b) w := by
        intro d
        simp [Op.equalIn, underlying, hu]
      exact h1 9999
    have e2 : binOp .neq t (.bool a) (.bool b) = (do pure (.bool (!(← Op.equal t (.bool a) (.bool b))))) := rfl
    rw [e2]
    simp [e, bne]
  simp [execOp, hx, hy, hg, hb]
theorem do_addS {t t2 : TypeId} {x y : Operand} {a b : ByteArray} (hx : ρ x = .string a) (hy : ρ y = .string b) (hl : a.size + b.size ≤ 9223372036854775807) :
    Does P ⟨dst, .binOp .add t x y t2, ty, pos, aft, g⟩ ρ w (.string (a ++ b)) w := by
  refine .inl ?_
  have hg : (eqGuard .add t x y (.string a) (.string b)).run P w = .ok () w := by simp [eqGuard]
  have hb : (binOp .add t (.string a) (.string b)).run P w = .ok (.string (a ++ b)) w := by
    simp [binOp, Op.stringOp]
    omega
  simp [execOp, hx, hy, hg, hb]
end
end Go.Fra

