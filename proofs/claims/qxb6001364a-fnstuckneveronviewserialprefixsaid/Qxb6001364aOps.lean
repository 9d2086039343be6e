/-
  WHAT EACH KIND OF OPERATION DOES ('Does'), over any program: types as bundles of closed facts ('TyI').
-/
import Derived.Test.Qxb6001364aDr
import Derived.Deep.OwnRows
import Derived.Maps.AppendAt
import Derived.WalkSpells
namespace Go.Fra

structure TyI (P : Program) (t : TypeId) (d : TypeDesc) (z : Value) (s b : Nat) : Prop where
  u : P.underlying t = some d
  i : (P.info? t).map (fun i => (i.zero, i.size, i.bytes)) = some (some z, s, b)

theorem TyI.info {P : Program} {t : TypeId} {d : TypeDesc} {z : Value} {s b : Nat} (h : TyI P t d z s b) :
    ∃ i, P.info? t = some i ∧ i.zero = some z ∧ i.size = s ∧ i.bytes = b := by
  obtain ⟨i, hi, hzz⟩ := Option.map_eq_some_iff.1 h.i
  simp only [Prod.mk.injEq] at hzz
  exact ⟨i, hi, hzz.1, hzz.2.1, hzz.2.2⟩

theorem TyI.run_size {P : Program} {t : TypeId} {d : TypeDesc} {z : Value} {s b : Nat} (h : TyI P t d z s b) (w : World) : (sizeOf t).run P w = .ok s w := by
  obtain ⟨i, hi, _, hs, _⟩ := h.info
  simp [sizeOf, typeInfo, hi, hs]
theorem TyI.run_zero {P : Program} {t : TypeId} {d : TypeDesc} {z : Value} {s b : Nat} (h : TyI P t d z s b) (w : World) : (zeroValue t).run P w = .ok z w := by
  obtain ⟨i, hi, hz, _, _⟩ := h.info
  simp [zeroValue, typeInfo, hi, hz]
theorem TyI.run_u {P : Program} {t : TypeId} {d : TypeDesc} {z : Value} {s b : Nat} (h : TyI P t d z s b) (w : World) : (underlying t).run P w = .ok d w := by
  simp [underlying, h.u]

def flat : TypeDesc → Bool
  | .struct _ | .array _ _ => false
  | _ => true

theorem run_isAgg {P : Program} {t : TypeId} {d : TypeDesc} (h : P.underlying t = some d) (hf : flat d = true) (w : World) : (isAgg t).run P w = .ok false w := by
  cases d <;> simp [flat] at hf <;> simp [isAgg, underlying, h]

section
variable {P : Program} {ρ : Operand → Value} {w : World} {dst : Option Tmp} {ty : TypeId} {pos : String} {aft : Array Edge} {g : Option (Nat × Bool)}

theorem do_move {x : Operand} {v : Value} (hx : ρ x = v) : Does P ⟨dst, .move x, ty, pos, aft, g⟩ ρ w v w := .inl (by simp [execOp, hx])
theorem do_assign {x : Operand} {v : Value} (hx : ρ x = v) : Does P ⟨dst, .assign x, ty, pos, aft, g⟩ ρ w v w := .inl (by simp [execOp, hx])
theorem do_pickT {c x y : Operand} {v : Value} (hc : ρ c = .bool true) (hx : ρ x = v) : Does P ⟨dst, .pick c x y, ty, pos, aft, g⟩ ρ w v w := .inl (by simp [execOp, hc, hx, asBool])
theorem do_pickF {c x y : Operand} {v : Value} (hc : ρ c = .bool false) (hy : ρ y = v) : Does P ⟨dst, .pick c x y, ty, pos, aft, g⟩ ρ w v w := .inl (by simp [execOp, hc, hy, asBool])
theorem do_not {t : TypeId} {x : Operand} {b : Bool} (hx : ρ x = .bool b) : Does P ⟨dst, .unOp .not t x, ty, pos, aft, g⟩ ρ w (.bool (!b)) w := .inl (by simp [execOp, hx, Op.unary])
theorem do_nilCheck {x : Operand} {a : Addr} (hx : ρ x = .pointer (some a)) : Does P ⟨dst, .nilCheck x, ty, pos, aft, g⟩ ρ w (.pointer (some a)) w := .inl (by simp [execOp, hx])
theorem do_extract {x : Operand} {vs : Array Value} {i : Nat} {v : Value} (hx : ρ x = .tuple vs) (hv : vs[i]? = some v) : Does P ⟨dst, .extract x i, ty, pos, aft, g⟩ ρ w v w := .inl (by simp [execOp, hx, Instr.extract, hv])
theorem do_makeFunc {fn : Fn} {first captured : Array Operand} {a b : Array Value} (ha : first.map ρ = a) (hb : captured.map ρ = b) :
    Does P ⟨dst, .makeFunc fn first captured, ty, pos, aft, g⟩ ρ w (.func fn a b) w := .inl (by simp [execOp, ha, hb, Instr.makeFunc])

theorem add_plain (b o n : Nat) : (⟨b, o, none⟩ : Addr).add n = ⟨b, o + n, none⟩ := by
  unfold Addr.add
  split
  · rename_i h; subst h; rfl
  · rfl

/-- A field's address: 'r' is the place reckoned. -/
theorem do_field {s : TypeId} {x : Operand} {i b o r : Nat} {fs : Array Field} {f : Field} {n : Nat} (hu : P.underlying s = some (.struct fs)) (hf : fs[i]? = some f)
    (hs : (P.info? f.type).map (·.size) = some (n + 1)) (hr : o + f.offset = r) (hx : ρ x = .pointer (some ⟨b, o, none⟩)) :
    Does P ⟨dst, .fieldAddr s x i, ty, pos, aft, g⟩ ρ w (.pointer (some ⟨b, r, none⟩)) w := by
  obtain ⟨j, hj, hz⟩ := Option.map_eq_some_iff.1 hs
  refine .inl ?_
  subst hr
  simp [execOp, hx, Instr.fieldAt, underlying, hu, hf, Instr.sureAddr, fieldPlace, sizeOf, typeInfo, hj, hz, add_plain]

/-- A load of one cell. -/
theorem do_load {t : TypeId} {x : Operand} {a : Addr} {v : Value} {d : TypeDesc} {z : Value} {s b : Nat} (T : TyI P t d z s b) (hf : flat d = true) (hx : ρ x = .pointer (some a)) (hc : w.cell? a = some v) :
    Does P ⟨dst, .load t x, ty, pos, aft, g⟩ ρ w v w := by
  refine .inl ?_
  have h1 := run_isAgg T.u hf w
  simp [execOp, hx, Instr.loadAt, Instr.sureAddr, loadVar, h1, load, Sem.run, hc]

/-- A load of a value of two cells. -/
theorem do_load2 {t : TypeId} {x : Operand} {b o : Nat} {v0 v1 : Value} {d : TypeDesc} {z : Value} {c : Nat} (T : TyI P t d z 2 c) (hf : flat d = false) (hx : ρ x = .pointer (some ⟨b, o, none⟩))
    (h0 : w.cell? ⟨b, o, none⟩ = some v0) (h1 : w.cell? ⟨b, o + 1, none⟩ = some v1) :
    Does P ⟨dst, .load t x, ty, pos, aft, g⟩ ρ w (.agg #[v0, v1]) w := by
  refine .inl ?_
  have ha : (isAgg t).run P w = .ok true w := by
    cases d <;> simp [flat] at hf <;> simp [isAgg, underlying, T.u]
  have hs := T.run_size w
  simp [execOp, hx, Instr.loadAt, Instr.sureAddr, loadVar, ha, hs, loadCells, loadCellsFrom, load, Sem.run, add_plain, h0, h1]

/-- A store of one cell. -/
theorem do_store {t : TypeId} {x y : Operand} {a : Addr} {u v : Value} {d : TypeDesc} {z : Value} {b : Nat} (T : TyI P t d z 1 b) (hx : ρ x = .pointer (some a)) (hy : ρ y = v)
    (hone : v.oneCell' = true) (hc : w.cell? a = some u) (hfz : w.frozen? a = false) :
    Does P ⟨dst, .store t x y, ty, pos, aft, g⟩ ρ w undef (w.setCell a v) := by
  refine .inr (.inl ⟨?_, rfl⟩)
  have hs := T.run_size w
  have hadd : a.add 0 = a := by simp [Addr.add]
  cases v <;> simp [Value.oneCell'] at hone <;> simp [execOp, hx, hy, Instr.storeAt, Instr.sureAddr, storeVar, Value.cells, hs, storeCells, store, Sem.run, hadd, hc, hfz]

/-- A store of a value of two cells. -/
theorem do_store2 {t : TypeId} {x y : Operand} {b o : Nat} {u0 u1 v0 v1 : Value} {d : TypeDesc} {z : Value} {c : Nat} (T : TyI P t d z 2 c) (hx : ρ x = .pointer (some ⟨b, o, none⟩)) (hy : ρ y = .agg #[v0, v1])
    (hone0 : v0.oneCell' = true) (hone1 : v1.oneCell' = true) (hc0 : w.cell? ⟨b, o, none⟩ = some u0) (hc1 : w.cell? ⟨b, o + 1, none⟩ = some u1)
    (hf0 : w.frozen? ⟨b, o, none⟩ = false) (hf1 : w.frozen? ⟨b, o + 1, none⟩ = false) :
    Does P ⟨dst, .store t x y, ty, pos, aft, g⟩ ρ w undef ((w.setCell ⟨b, o, none⟩ v0).setCell ⟨b, o + 1, none⟩ v1) := by
  refine .inr (.inl ⟨?_, rfl⟩)
  have hs := T.run_size w
  have e1 : (w.setCell ⟨b, o, none⟩ v0).cell? ⟨b, o + 1, none⟩ = some u1 := by
    rw [World.cell?_setCell_other (w := w) (v := v0) (a := ⟨b, o, none⟩) (b := ⟨b, o + 1, none⟩) (by simp)]; exact hc1
  have e2 : (w.setCell ⟨b, o, none⟩ v0).frozen? ⟨b, o + 1, none⟩ = false := by rw [World.frozen?_setCell]; exact hf1
  cases v0 <;> simp [Value.oneCell'] at hone0 <;> cases v1 <;> simp [Value.oneCell'] at hone1 <;>
    simp [execOp, hx, hy, Instr.storeAt, Instr.sureAddr, storeVar, Value.cells, hs, storeCells, store, Sem.run, add_plain, hc0, hf0, e1, e2]

/-- An element's address in a slice: the index a Nat. -/
theorem do_index {t e : TypeId} {x i : Operand} {b o n c j r sz : Nat} {k : IntKind} {zt : Value} {s1 b1 : Nat} {d : TypeDesc} {z : Value} {by_ : Nat} (T : TyI P t (.slice e) zt s1 b1) (TE : TyI P e d z sz by_)
    (hx : ρ x = .slice (some ⟨b, o, none⟩) n c) (hi : ρ i = .int k (j : Int)) (hj : j < n) (hr : o + j * sz = r) :
    Does P ⟨dst, .indexAddr t x i, ty, pos, aft, g⟩ ρ w (.pointer (some ⟨b, r, none⟩)) w := by
  refine .inl ?_
  have hs := TE.run_size w
  have hj' : ¬ n ≤ j := by omega
  subst hr
  simp [execOp, hx, hi, Instr.indexAt, asIntOf, underlying, T.u, hs, add_plain, hj']

/-- An element's address in an array behind a pointer. -/
theorem do_indexA {t e : TypeId} {x i : Operand} {b o n j r sz : Nat} {k : IntKind} {zt : Value} {s1 b1 : Nat} {d : TypeDesc} {z : Value} {by_ : Nat} (T : TyI P t (.array n e) zt s1 b1) (TE : TyI P e d z sz by_)
    (hx : ρ x = .pointer (some ⟨b, o, none⟩)) (hi : ρ i = .int k (j : Int)) (hj : j < n) (hr : o + j * sz = r) :
    Does P ⟨dst, .indexAddr t x i, ty, pos, aft, g⟩ ρ w (.pointer (some ⟨b, r, none⟩)) w := by
  refine .inl ?_
  have hs := TE.run_size w
  have hj' : ¬ n ≤ j := by omega
  subst hr
  simp [execOp, hx, hi, Instr.indexAt, Instr.sureAddr, asIntOf, underlying, T.u, hs, add_plain, hj']

theorem do_len {t e : TypeId} {x : Operand} {a : Option Addr} {n c : Nat} (hu : P.underlying t = some (.slice e)) (hx : ρ x = .slice a n c) :
    Does P ⟨dst, .call { callee := .builtin .len, args := #[x], argTypes := #[t] }, ty, pos, aft, g⟩ ρ w (.int .i64 (n : Int)) w := by
  refine .inl ?_
  simp [execOp, resolve, invoke, builtin, Builtin.len_, underlying, hu, hx, goInt]

theorem do_lenM {t k e : TypeId} {x : Operand} {b : Nat} {es : Array MapEntry} {clock : Nat} (hu : P.underlying t = some (.map k e)) (hx : ρ x = .map (some b)) (hb : w.heap[b]? = some (.map es clock)) :
    Does P ⟨dst, .call { callee := .builtin .len, args := #[x], argTypes := #[t] }, ty, pos, aft, g⟩ ρ w (.int .i64 (es.size : Int)) w := by
  refine .inl ?_
  simp [execOp, resolve, invoke, builtin, Builtin.len_, underlying, hu, hx, goInt, getObj, Sem.run, hb]

/-- A call of a Go function by its name. -/
theorem run_callF {f : FuncId} {fn : Func} {xs : Array Operand} {ats : Array TypeId} {vs : Array Value} (hf : P.funcs[f]? = some fn) (hn : (fn.name == "runtime.NumGoroutine") = false) (hb : fn.body.isNone = false)
    (hx : xs.map ρ = vs) (hρ : ρ (.func f) = .func (.func f) #[] #[]) :
    (execOp ρ ⟨dst, .call { callee := .value (.func f), args := xs, argTypes := ats }, ty, pos, aft, g⟩).run P w = .ok (.enter f vs) w := by
  have hn' : ¬ fn.name = "runtime.NumGoroutine" := by simpa using hn
  have hb' : ¬ fn.body = none := by intro e; simp [e] at hb
  simp [execOp, resolve, hx, hρ, Deferred.ofValue, invoke, callFunc, program, Sem.run, hf, hn', hb']

/-- A call through a function value. -/
theorem run_callV {f : FuncId} {fn : Func} {x : Operand} {cap : Array Value} {xs : Array Operand} {ats : Array TypeId} {vs : Array Value} (hf : P.funcs[f]? = some fn) (hn : (fn.name == "runtime.NumGoroutine") = false) (hb : fn.body.isNone = false)
    (hx : xs.map ρ = vs) (hρ : ρ x = .func (.func f) #[] cap) :
    (execOp ρ ⟨dst, .call { callee := .value x, args := xs, argTypes := ats }, ty, pos, aft, g⟩).run P w = .ok (.enter f (vs ++ cap)) w := by
  have hn' : ¬ fn.name = "runtime.NumGoroutine" := by simpa using hn
  have hb' : ¬ fn.body = none := by intro e; simp [e] at hb
  simp [execOp, resolve, hx, hρ, Deferred.ofValue, invoke, callFunc, program, Sem.run, hf, hn', hb']

theorem do_call {f : FuncId} {op : Op} {vs : Array Value} {v : Value} {w' : World} (hr : (execOp ρ ⟨dst, op, ty, pos, aft, g⟩).run P w = .ok (.enter f vs) w)
    (hc : Calls P f vs w fun e w'' => e = .returned v ∧ w'' = w') : Does P ⟨dst, op, ty, pos, aft, g⟩ ρ w v w' := .inr (.inr ⟨f, vs, hr, hc⟩)

/-! arithmetic on int -/
theorem wrap_small (x : Int) (h0 : -9223372036854775808 ≤ x) (h1 : x < 9223372036854775808) : IntKind.i64.wrap x = x := by
  show (if (true && decide (x % 18446744073709551616 ≥ 9223372036854775808)) = true then x % 18446744073709551616 - 18446744073709551616 else x % 18446744073709551616) = x
  by_cases h : x % 18446744073709551616 ≥ 9223372036854775808
  · simp only [h, decide_true, Bool.and_true, if_true]; omega
  · simp only [h, decide_false, Bool.and_false, Bool.false_eq_true, if_false]; omega

theorem do_bin {op : BinOp} {t t2 : TypeId} {x y : Operand} {a b : Int} {v : Value} (hx : ρ x = .int .i64 a) (hy : ρ y = .int .i64 b) (hv : (binOp op t (.int .i64 a) (.int .i64 b)).run P w = .ok v w) :
    Does P ⟨dst, .binOp op t x y t2, ty, pos, aft, g⟩ ρ w v w := by
  refine .inl ?_
  have hg : (eqGuard op t x y (.int .i64 a) (.int .i64 b)).run P w = .ok () w := by
    unfold eqGuard
    cases op <;> simp
  simp [execOp, hx, hy, hg, hv]

theorem do_add {t t2 : TypeId} {x y : Operand} {a b : Int} (hx : ρ x = .int .i64 a) (hy : ρ y = .int .i64 b) (h : -9223372036854775808 ≤ a + b ∧ a + b < 9223372036854775808) :
    Does P ⟨dst, .binOp .add t x y t2, ty, pos, aft, g⟩ ρ w (.int .i64 (a + b)) w :=
  do_bin hx hy (by simp [binOp, Op.intArith, wrap_small _ h.1 h.2])
theorem do_addN {t t2 : TypeId} {x y : Operand} {a b r : Nat} (hx : ρ x = .int .i64 (a : Int)) (hy : ρ y = .int .i64 (b : Int)) (h : a + b = r) (hb : r < 9223372036854775808) :
    Does P ⟨dst, .binOp .add t x y t2, ty, pos, aft, g⟩ ρ w (.int .i64 (r : Int)) w := by
  have := do_add (P := P) (w := w) (dst := dst) (ty := ty) (pos := pos) (aft := aft) (g := g) (t := t) (t2 := t2) hx hy (by omega)
  rwa [show (a : Int) + (b : Int) = (r : Int) by omega] at this
theorem do_addM {t t2 : TypeId} {x y : Operand} {a b : Nat} (hx : ρ x = .int .i64 (a : Int)) (hy : ρ y = .int .i64 (b : Int)) (hb : a + b < 9223372036854775808) :
    Does P ⟨dst, .binOp .add t x y t2, ty, pos, aft, g⟩ ρ w (.int .i64 ((a + b : Nat) : Int)) w := do_addN hx hy rfl hb
theorem do_inc {t t2 : TypeId} {x y : Operand} {a : Nat} (hx : ρ x = .int .i64 (a : Int)) (hy : ρ y = .int .i64 1) (hb : a + 1 < 9223372036854775808) :
    Does P ⟨dst, .binOp .add t x y t2, ty, pos, aft, g⟩ ρ w (.int .i64 ((a + 1 : Nat) : Int)) w :=
  do_addN (b := 1) hx hy rfl hb
theorem do_sub {t t2 : TypeId} {x y : Operand} {a b : Int} (hx : ρ x = .int .i64 a) (hy : ρ y = .int .i64 b) (h : -9223372036854775808 ≤ a - b ∧ a - b < 9223372036854775808) :
    Does P ⟨dst, .binOp .sub t x y t2, ty, pos, aft, g⟩ ρ w (.int .i64 (a - b)) w :=
  do_bin hx hy (by simp [binOp, Op.intArith, wrap_small _ h.1 h.2])
theorem do_mul {t t2 : TypeId} {x y : Operand} {a b : Int} (hx : ρ x = .int .i64 a) (hy : ρ y = .int .i64 b) (h : -9223372036854775808 ≤ a * b ∧ a * b < 9223372036854775808) :
    Does P ⟨dst, .binOp .mul t x y t2, ty, pos, aft, g⟩ ρ w (.int .i64 (a * b)) w :=
  do_bin hx hy (by simp [binOp, Op.intArith, wrap_small _ h.1 h.2])
theorem do_lss {t t2 : TypeId} {x y : Operand} {a b : Int} (hx : ρ x = .int .i64 a) (hy : ρ y = .int .i64 b) :
    Does P ⟨dst, .binOp .lss t x y t2, ty, pos, aft, g⟩ ρ w (.bool (decide (a < b))) w := do_bin hx hy (by simp [binOp, Op.intCmp])
theorem do_gtr {t t2 : TypeId} {x y : Operand} {a b : Int} (hx : ρ x = .int .i64 a) (hy : ρ y = .int .i64 b) :
    Does P ⟨dst, .binOp .gtr t x y t2, ty, pos, aft, g⟩ ρ w (.bool (decide (b < a))) w := do_bin hx hy (by simp [binOp, Op.intCmp])
theorem do_geq {t t2 : TypeId} {x y : Operand} {a b : Int} (hx : ρ x = .int .i64 a) (hy : ρ y = .int .i64 b) :
    Does P ⟨dst, .binOp .geq t x y t2, ty, pos, aft, g⟩ ρ w (.bool (decide (b ≤ a))) w := do_bin hx hy (by simp [binOp, Op.intCmp])
theorem do_leq {t t2 : TypeId} {x y : Operand} {a b : Int} (hx : ρ x = .int .i64 a) (hy : ρ y = .int .i64 b) :
    Does P ⟨dst, .binOp .leq t x y t2, ty, pos, aft, g⟩ ρ w (.bool (decide (a ≤ b))) w := do_bin hx hy (by simp [binOp, Op.intCmp])
theorem do_eql {t t2 : TypeId} {x y : Operand} {a b : Int} (hx : ρ x = .int .i64 a) (hy : ρ y = .int .i64 b) :
    Does P ⟨dst, .binOp .eql t x y t2, ty, pos, aft, g⟩ ρ w (.bool (a == b)) w := do_bin hx hy (by simp [binOp, Op.intCmp])
theorem do_neq {t t2 : TypeId} {x y : Operand} {a b : Int} (hx : ρ x = .int .i64 a) (hy : ρ y = .int .i64 b) :
    Does P ⟨dst, .binOp .neq t x y t2, ty, pos, aft, g⟩ ρ w (.bool (a != b)) w := do_bin hx hy (by simp [binOp, Op.intCmp])


/-! tests that are decided -/
theorem Does.cast {o : Oper} {ρ : Operand → Value} {w w' : World} {v v' : Value} (h : Does P o ρ w v w') (e : v = v') : Does P o ρ w v' w' := e ▸ h
theorem do_lssT {t t2 : TypeId} {x y : Operand} {a b : Int} (hx : ρ x = .int .i64 a) (hy : ρ y = .int .i64 b) (h : a < b) :
    Does P ⟨dst, .binOp .lss t x y t2, ty, pos, aft, g⟩ ρ w (.bool true) w := (do_lss hx hy).cast (by simp [h])
theorem do_lssF {t t2 : TypeId} {x y : Operand} {a b : Int} (hx : ρ x = .int .i64 a) (hy : ρ y = .int .i64 b) (h : ¬ (a < b)) :
    Does P ⟨dst, .binOp .lss t x y t2, ty, pos, aft, g⟩ ρ w (.bool false) w := (do_lss hx hy).cast (by simp [h])
theorem do_gtrT {t t2 : TypeId} {x y : Operand} {a b : Int} (hx : ρ x = .int .i64 a) (hy : ρ y = .int .i64 b) (h : b < a) :
    Does P ⟨dst, .binOp .gtr t x y t2, ty, pos, aft, g⟩ ρ w (.bool true) w := (do_gtr hx hy).cast (by simp [h])
theorem do_gtrF {t t2 : TypeId} {x y : Operand} {a b : Int} (hx : ρ x = .int .i64 a) (hy : ρ y = .int .i64 b) (h : ¬ (b < a)) :
    Does P ⟨dst, .binOp .gtr t x y t2, ty, pos, aft, g⟩ ρ w (.bool false) w := (do_gtr hx hy).cast (by simp [h])
theorem do_geqT {t t2 : TypeId} {x y : Operand} {a b : Int} (hx : ρ x = .int .i64 a) (hy : ρ y = .int .i64 b) (h : b ≤ a) :
    Does P ⟨dst, .binOp .geq t x y t2, ty, pos, aft, g⟩ ρ w (.bool true) w := (do_geq hx hy).cast (by simp [h])
theorem do_geqF {t t2 : TypeId} {x y : Operand} {a b : Int} (hx : ρ x = .int .i64 a) (hy : ρ y = .int .i64 b) (h : ¬ (b ≤ a)) :
    Does P ⟨dst, .binOp .geq t x y t2, ty, pos, aft, g⟩ ρ w (.bool false) w := (do_geq hx hy).cast (by simp [h])
theorem do_leqT {t t2 : TypeId} {x y : Operand} {a b : Int} (hx : ρ x = .int .i64 a) (hy : ρ y = .int .i64 b) (h : a ≤ b) :
    Does P ⟨dst, .binOp .leq t x y t2, ty, pos, aft, g⟩ ρ w (.bool true) w := (do_leq hx hy).cast (by simp [h])
theorem do_leqF {t t2 : TypeId} {x y : Operand} {a b : Int} (hx : ρ x = .int .i64 a) (hy : ρ y = .int .i64 b) (h : ¬ (a ≤ b)) :
    Does P ⟨dst, .binOp .leq t x y t2, ty, pos, aft, g⟩ ρ w (.bool false) w := (do_leq hx hy).cast (by simp [h])
theorem do_eqlT {t t2 : TypeId} {x y : Operand} {a b : Int} (hx : ρ x = .int .i64 a) (hy : ρ y = .int .i64 b) (h : a = b) :
    Does P ⟨dst, .binOp .eql t x y t2, ty, pos, aft, g⟩ ρ w (.bool true) w := (do_eql hx hy).cast (by simp [h])
theorem do_eqlF {t t2 : TypeId} {x y : Operand} {a b : Int} (hx : ρ x = .int .i64 a) (hy : ρ y = .int .i64 b) (h : ¬ (a = b)) :
    Does P ⟨dst, .binOp .eql t x y t2, ty, pos, aft, g⟩ ρ w (.bool false) w := (do_eql hx hy).cast (by simpa using h)
theorem do_neqT {t t2 : TypeId} {x y : Operand} {a b : Int} (hx : ρ x = .int .i64 a) (hy : ρ y = .int .i64 b) (h : a ≠ b) :
    Does P ⟨dst, .binOp .neq t x y t2, ty, pos, aft, g⟩ ρ w (.bool true) w := (do_neq hx hy).cast (by simp [h])
theorem do_neqF {t t2 : TypeId} {x y : Operand} {a b : Int} (hx : ρ x = .int .i64 a) (hy : ρ y = .int .i64 b) (h : ¬ (a ≠ b)) :
    Does P ⟨dst, .binOp .neq t x y t2, ty, pos, aft, g⟩ ρ w (.bool false) w := (do_neq hx hy).cast (by simpa using h)

/-- 'xs == nil'. -/
theorem do_nilS {t t2 e : TypeId} {x y : Operand} {a : Option Addr} {n c : Nat} (hu : P.underlying t = some (.slice e)) (hx : ρ x = .slice a n c) (hy : ρ y = .slice none 0 0) :
    Does P ⟨dst, .binOp .eql t x y t2, ty, pos, aft, g⟩ ρ w (.bool a.isNone) w := by
  refine .inl ?_
  have hg : (eqGuard .eql t x y (.slice a n c) (.slice none 0 0)).run P w = .ok () w := by simp [eqGuard]
  have : (binOp .eql t (.slice a n c) (.slice none 0 0)).run P w = .ok (.bool a.isNone) w := by
    have := Lib.run_eql_slice_nil (P := P) w t e a n c 0 0 hu
    simpa using this
  simp [execOp, hx, hy, hg, this]

/-! what makes memory -/
theorem do_makeMap {t : TypeId} : Does P ⟨dst, .makeMap t none, ty, pos, aft, g⟩ ρ w (.map (some w.heap.size)) (w.alloc (.map #[] 0)) := by
  refine .inl ?_
  simp [execOp, Instr.makeMap, newObj, Sem.run]

theorem do_makeSlice {t e : TypeId} {x y : Operand} {n : Nat} {zt : Value} {s1 b1 : Nat} {d : TypeDesc} {z : Value} {by_ : Nat} (T : TyI P t (.slice e) zt s1 b1) (TE : TyI P e d z 1 by_) (hz1 : z.cells = #[z])
    (hx : ρ x = .int .i64 (n : Int)) (hy : ρ y = .int .i64 (n : Int)) (hn : by_ * n ≤ 281474976710656) (h63 : n ≤ 9223372036854775807) :
    Does P ⟨dst, .makeSlice t x y, ty, pos, aft, g⟩ ρ w (.slice (some ⟨w.heap.size, 0, none⟩) n n) (w.alloc (.cells (madeCells #[z] n) e)) := by
  refine .inl ?_
  have := run_make_row' (P := P) t e z by_ T.u TE.i hz1 .i64 .i64 n hn h63 w
  simp [execOp, hx, hy, this]

theorem do_box {t : TypeId} {x : Operand} {v : Value} (hx : ρ x = v) : Does P ⟨dst, .box t x, ty, pos, aft, g⟩ ρ w (.pointer (some ⟨w.heap.size, 0, none⟩)) (w.alloc (.cells v.cells t)) := by
  refine .inl ?_
  simp [execOp, hx, Instr.box, newVar, newRow, newObj, Sem.run]

theorem do_alloc {t : TypeId} {d : TypeDesc} {z : Value} {s b : Nat} (T : TyI P t d z s b) : Does P ⟨dst, .alloc t, ty, pos, aft, g⟩ ρ w (.pointer (some ⟨w.heap.size, 0, none⟩)) (w.alloc (.cells z.cells t)) := by
  refine .inl ?_
  have hz := T.run_zero w
  simp [execOp, Instr.alloc, hz, newVar, newRow, newObj, Sem.run]
end

/-- 'append(xs, ys...)' where xs owns its row: what it gives and leaves, found ahead of the frame. -/
theorem appendE {P : Program} {w : World} {t e : TypeId} {zt : Value} {s1 b1 : Nat} {d : TypeDesc} {z : Value} {size bytes : Nat} (T : TyI P t (.slice e) zt s1 b1) (TE : TyI P e d z size bytes) (hzs : z.cells.size = size) (hsz : 0 < size)
    {v : Value} {n : Nat} {xs : List Value} (hown : w.ownsRow 0 e size v n xs) {a : Addr} {m c : Nat} {news : List Value} (hl : news.length = m * size) (hnews : ∀ j u, news[j]? = some u → w.cell? (a.add j) = some u)
    (h1 : ∀ u ∈ news, u.oneCell' = true) (h63 : n + m ≤ maxLen) (hbytes : (n + m) * bytes ≤ 140737488355328) :
    ∃ v' w', (∀ (ρ : Operand → Value) (dst : Option Tmp) (ty : TypeId) (pos : String) (aft : Array Edge) (g : Option (Nat × Bool)) (x y : Operand), ρ x = v → ρ y = .slice (some a) m c →
        Does P ⟨dst, .call { callee := .builtin .append, args := #[x, y], argTypes := #[t, t] }, ty, pos, aft, g⟩ ρ w v' w') ∧
      w'.ownsRow 0 e size v' (n + m) (xs ++ news) ∧ w.grownBy w' v.ownBlock ∧ (v' = .slice none 0 0 ↔ v = .slice none 0 0 ∧ m = 0) ∧ (v'.ownBlock = v.ownBlock ∨ v'.ownBlock = some w.heap.size) := by
  obtain ⟨i, hi, hz, hs, hb⟩ := TE.info
  obtain ⟨v', w', hr, h2, h3, h4, h5⟩ := run_append_own_at (P := P) w 0 t 0 e i z size bytes T.u hi hz hs hb hzs hsz v n xs hown a m c news hl hnews h1 h63 hbytes (Nat.zero_le _)
  refine ⟨v', w', ?_, h2, h3, h4, h5⟩
  intro ρ dst ty pos aft g x y hx hy
  refine .inl ?_
  have hr' : (Builtin.append_ #[t, t] ty #[v, .slice (some a) m c]).run P w = .ok v' w' := hr
  simp [execOp, resolve, invoke, builtin, hx, hy, hr']

theorem map1 {ρ : Operand → Value} {x : Operand} {v : Value} (h : ρ x = v) : #[x].map ρ = #[v] := by simp [h]
theorem map2 {ρ : Operand → Value} {x y : Operand} {v u : Value} (h : ρ x = v) (k : ρ y = u) : #[x, y].map ρ = #[v, u] := by simp [h, k]
theorem map3 {ρ : Operand → Value} {x y z : Operand} {v u t : Value} (h : ρ x = v) (k : ρ y = u) (l : ρ z = t) : #[x, y, z].map ρ = #[v, u, t] := by simp [h, k, l]
theorem map4 {ρ : Operand → Value} {x0 x1 x2 x3 : Operand} {v0 v1 v2 v3 : Value} (h0 : ρ x0 = v0) (h1 : ρ x1 = v1) (h2 : ρ x2 = v2) (h3 : ρ x3 = v3) : #[x0, x1, x2, x3].map ρ = #[v0, v1, v2, v3] := by simp [h0, h1, h2, h3]
theorem map5 {ρ : Operand → Value} {x0 x1 x2 x3 x4 : Operand} {v0 v1 v2 v3 v4 : Value} (h0 : ρ x0 = v0) (h1 : ρ x1 = v1) (h2 : ρ x2 = v2) (h3 : ρ x3 = v3) (h4 : ρ x4 = v4) :
    #[x0, x1, x2, x3, x4].map ρ = #[v0, v1, v2, v3, v4] := by simp [h0, h1, h2, h3, h4]
theorem map6 {ρ : Operand → Value} {x0 x1 x2 x3 x4 x5 : Operand} {v0 v1 v2 v3 v4 v5 : Value} (h0 : ρ x0 = v0) (h1 : ρ x1 = v1) (h2 : ρ x2 = v2) (h3 : ρ x3 = v3) (h4 : ρ x4 = v4) (h5 : ρ x5 = v5) :
    #[x0, x1, x2, x3, x4, x5].map ρ = #[v0, v1, v2, v3, v4, v5] := by simp [h0, h1, h2, h3, h4, h5]
end Go.Fra
