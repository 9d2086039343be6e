/-
  MORE OPERATIONS: strings' bytes and pieces, kinds of integers, bits, copy.
-/
import Derived.Test.Qxb6001364aHp
import Derived.Laws.IdiomCopy
namespace Go.Fra
open Go.RowKit

section
variable {P : Program} {ρ : Operand → Value} {w : World} {dst : Option Tmp} {ty : TypeId} {pos : String} {aft : Array Edge} {g : Option (Nat × Bool)}

theorem do_indexS {t : TypeId} {x y : Operand} {s : ByteArray} {n : Nat} {b : UInt8} (hu : P.underlying t = some .string) (hx : ρ x = .string s) (hy : ρ y = .int .i64 (n : Int)) (hb : s[n]? = some b) :
    Does P ⟨dst, .index t x y, ty, pos, aft, g⟩ ρ w (.int .u8 (b.toNat : Int)) w := by
  refine .inl ?_
  simp [execOp, hx, hy, Instr.index, asIntOf, underlying, hu, hb]

theorem do_sliceS {t : TypeId} {x y : Operand} {s : ByteArray} {h : Nat} (hu : P.underlying t = some .string) (hx : ρ x = .string s) (hy : ρ y = .int .i64 (h : Int)) (hh : h ≤ s.size) :
    Does P ⟨dst, .slice t x none (some y) none, ty, pos, aft, g⟩ ρ w (.string (s.extract 0 h)) w := by
  refine .inl ?_
  simp [execOp, hx, hy, Instr.sliceAt, Instr.slice, Instr.sliceBounds, Instr.sliceBound, asIntOf, underlying, hu, hh]

theorem do_sliceS2 {t : TypeId} {x y z : Operand} {s : ByteArray} {l h : Nat} (hu : P.underlying t = some .string) (hx : ρ x = .string s) (hy : ρ y = .int .i64 (l : Int)) (hz : ρ z = .int .i64 (h : Int)) (hl : l ≤ h) (hh : h ≤ s.size) :
    Does P ⟨dst, .slice t x (some y) (some z) none, ty, pos, aft, g⟩ ρ w (.string (s.extract l h)) w := by
  refine .inl ?_
  simp [execOp, hx, hy, hz, Instr.sliceAt, Instr.slice, Instr.sliceBounds, Instr.sliceBound, asIntOf, underlying, hu, hh, hl]

theorem do_conv {s t : TypeId} {x : Operand} {k k' : IntKind} {d : TypeDesc} {n m : Int} (hs : P.underlying s = some d) (hu : P.underlying t = some (.int k)) (hx : ρ x = .int k' n) (hm : k.wrap n = m) :
    Does P ⟨dst, .convert s t x, ty, pos, aft, g⟩ ρ w (.int k m) w := by
  refine .inl ?_
  simp [execOp, hx, convert, underlying, hs, hu, Conv.intToInt, hm]

theorem do_binK {op : BinOp} {t t2 : TypeId} {x y : Operand} {k k' : IntKind} {a b : Int} {v : Value} (hx : ρ x = .int k a) (hy : ρ y = .int k' b) (hv : (binOp op t (.int k a) (.int k' b)).run P w = .ok v w) :
    Does P ⟨dst, .binOp op t x y t2, ty, pos, aft, g⟩ ρ w v w := by
  refine .inl ?_
  have hg : (eqGuard op t x y (.int k a) (.int k' b)).run P w = .ok () w := by
    unfold eqGuard
    cases op <;> simp
  simp [execOp, hx, hy, hg, hv]

theorem do_eqlK {t t2 : TypeId} {x y : Operand} {k : IntKind} {a b : Int} {r : Bool} (hx : ρ x = .int k a) (hy : ρ y = .int k b) (h : (a == b) = r) :
    Does P ⟨dst, .binOp .eql t x y t2, ty, pos, aft, g⟩ ρ w (.bool r) w := do_binK hx hy (by simp [binOp, Op.intCmp, ← h])
theorem do_neqK {t t2 : TypeId} {x y : Operand} {k : IntKind} {a b : Int} {r : Bool} (hx : ρ x = .int k a) (hy : ρ y = .int k b) (h : (a != b) = r) :
    Does P ⟨dst, .binOp .neq t x y t2, ty, pos, aft, g⟩ ρ w (.bool r) w := do_binK hx hy (by simp [binOp, Op.intCmp, ← h])
theorem do_lssK {t t2 : TypeId} {x y : Operand} {k : IntKind} {a b : Int} {r : Bool} (hx : ρ x = .int k a) (hy : ρ y = .int k b) (h : decide (a < b) = r) :
    Does P ⟨dst, .binOp .lss t x y t2, ty, pos, aft, g⟩ ρ w (.bool r) w := do_binK hx hy (by simp [binOp, Op.intCmp, ← h])

theorem do_shr {t t2 : TypeId} {x y : Operand} {k k' : IntKind} {a : Int} {n : Nat} {r : Int} (hx : ρ x = .int k a) (hy : ρ y = .int k' (n : Int)) (hn : n ≤ k.bits) (h : a.fdiv (2 ^ n) = r) :
    Does P ⟨dst, .binOp .shr t x y t2, ty, pos, aft, g⟩ ρ w (.int k r) w := by
  refine do_binK hx hy ?_
  have h0 : ¬ ((n : Int) < 0) := by omega
  simp only [binOp, Op.shift, if_neg h0, Int.toNat_natCast, Nat.min_eq_left hn, h]
  rfl
theorem do_shl {t t2 : TypeId} {x y : Operand} {k k' : IntKind} {a : Int} {n : Nat} {r : Int} (hx : ρ x = .int k a) (hy : ρ y = .int k' (n : Int)) (hn : n ≤ k.bits) (h : k.wrap (a * 2 ^ n) = r) :
    Does P ⟨dst, .binOp .shl t x y t2, ty, pos, aft, g⟩ ρ w (.int k r) w := by
  refine do_binK hx hy ?_
  have h0 : ¬ ((n : Int) < 0) := by omega
  simp only [binOp, Op.shift, if_neg h0, Int.toNat_natCast, Nat.min_eq_left hn, h]
  rfl
theorem do_or {t t2 : TypeId} {x y : Operand} {k : IntKind} {a b r : Int} (hx : ρ x = .int k a) (hy : ρ y = .int k b) (h : k.wrap ((BitVec.ofInt k.bits a ||| BitVec.ofInt k.bits b).toNat : Int) = r) :
    Does P ⟨dst, .binOp .or t x y t2, ty, pos, aft, g⟩ ρ w (.int k r) w := do_binK hx hy (by simp [binOp, Op.intBits, ← h])
theorem do_and {t t2 : TypeId} {x y : Operand} {k : IntKind} {a b r : Int} (hx : ρ x = .int k a) (hy : ρ y = .int k b) (h : k.wrap ((BitVec.ofInt k.bits a &&& BitVec.ofInt k.bits b).toNat : Int) = r) :
    Does P ⟨dst, .binOp .and t x y t2, ty, pos, aft, g⟩ ρ w (.int k r) w := do_binK hx hy (by simp [binOp, Op.intBits, ← h])

/-- 'xs != nil'. -/
theorem do_nnilS {t t2 e : TypeId} {x y : Operand} {a : Option Addr} {n c : Nat} (hu : P.underlying t = some (.slice e)) (hx : ρ x = .slice a n c) (hy : ρ y = .slice none 0 0) :
    Does P ⟨dst, .binOp .neq t x y t2, ty, pos, aft, g⟩ ρ w (.bool a.isSome) w := by
  refine .inl ?_
  have hg : (eqGuard .neq t x y (.slice a n c) (.slice none 0 0)).run P w = .ok () w := by simp [eqGuard]
  have hb : (binOp .neq t (.slice a n c) (.slice none 0 0)).run P w = .ok (.bool a.isSome) w := by
    have e : (Op.equal t (.slice a n c) (.slice none 0 0)).run P w = .ok a.isNone w := by
      have h1 : ∀ d, (Op.equalIn (d + 1) t (.slice a n c) (.slice none 0 0)).run P w = .ok a.isNone w := by
        intro d
        cases a <;> simp [Op.equalIn, underlying, hu]
      exact h1 9999
    have e2 : binOp .neq t (.slice a n c) (.slice none 0 0) = (do pure (.bool (!(← Op.equal t (.slice a n c) (.slice none 0 0))))) := rfl
    rw [e2]
    cases a <;> simp [e]
  simp [execOp, hx, hy, hg, hb]

theorem do_copy {dT sT elem : TypeId} {x y : Operand} {b o n dc : Nat} {a : Addr} {sc : Nat} {cs : List Value} {d : TypeDesc} {z : Value} {by_ : Nat} (hu : P.underlying dT = some (.slice elem)) (T : TyI P elem d z 1 by_)
    (hx : ρ x = .slice (some ⟨b, o, none⟩) n dc) (hy : ρ y = .slice (some a) n sc) (hn : cs.length = n)
    (hsrc : ∀ j v, cs[j]? = some v → w.cell? (a.add j) = some v) (hc : ∀ j, j < cs.length → (w.cell? ⟨b, o + j, none⟩).isSome = true) (hf : ∀ j, j < cs.length → w.frozen? ⟨b, o + j, none⟩ = false) (h1 : ∀ v ∈ cs, v.oneCell' = true) :
    Does P ⟨dst, .call { callee := .builtin .copy, args := #[x, y], argTypes := #[dT, sT] }, ty, pos, aft, g⟩ ρ w (.int .i64 (n : Int)) (w.setCells b o cs) := by
  refine .inl ?_
  obtain ⟨i, hi, hz, hs, _⟩ := T.info
  have := run_copy_cells (P := P) w dT sT ty elem b o n dc a n sc cs hu (by rw [hi]; simp [hs]) (by rw [hn]; simp) hsrc hc hf h1
  simp [execOp, resolve, invoke, builtin, hx, hy, this, goInt, hn]
end

/-- A copy into a block known whole. -/
theorem Blk.setCells {b : Nat} {t : TypeId} : ∀ (vs : List Value) (o : Nat) (w : World) (cs : List Value), Blk w b t cs → o + vs.length ≤ cs.length → Blk (w.setCells b o vs) b t (cs.take o ++ vs ++ cs.drop (o + vs.length))
  | [], o, w, cs, h, _ => by simpa [World.setCells] using h
  | v :: r, o, w, cs, h, hl => by
    simp only [List.length_cons] at hl
    have := Blk.setCells r (o + 1) (w.setCell ⟨b, o, none⟩ v) (cs.set o v) (h.set o v) (by simp; omega)
    simp only [World.setCells]
    have e : (cs.set o v).take (o + 1) ++ r ++ (cs.set o v).drop (o + 1 + r.length) = cs.take o ++ (v :: r) ++ cs.drop (o + (v :: r).length) := by
      rw [List.drop_set_of_lt (by omega), List.take_set, List.take_succ_eq_append_getElem (by omega), List.set_append_right _ _ (by rw [List.length_take]; omega)]
      simp [Nat.min_eq_left (show o ≤ cs.length by omega), show o + 1 + r.length = o + (r.length + 1) by omega]
    rw [e] at this
    exact this
theorem heap_setCells {b k : Nat} (hk : k ≠ b) : ∀ (vs : List Value) (o : Nat) (w : World), (w.setCells b o vs).heap[k]? = w.heap[k]?
  | [], _, _ => rfl
  | v :: r, o, w => by rw [World.setCells, heap_setCells hk r, heap_set (by simpa using hk)]
theorem Below_setCells {B b : Nat} {a : World} (hb : B ≤ b) : ∀ (vs : List Value) (o : Nat) (w : World), Below B a w → Below B a (w.setCells b o vs)
  | [], _, _, h => h
  | v :: r, o, w, h => by rw [World.setCells]; exact Below_setCells hb r _ _ (h.setCell hb _)

/-! ### integers and bits -/
theorem wrap_u8 (n : Nat) : IntKind.u8.wrap (n : Int) = ((n % 256 : Nat) : Int) := by
  show (if (false && decide ((n : Int) % 256 ≥ 128)) = true then (n : Int) % 256 - 256 else (n : Int) % 256) = _
  simp
theorem wrap_u64 (n : Int) : IntKind.u64.wrap n = n % 18446744073709551616 := by
  show (if (false && decide (n % 18446744073709551616 ≥ 9223372036854775808)) = true then n % 18446744073709551616 - 18446744073709551616 else n % 18446744073709551616) = _
  simp
theorem wrap_i64_small (n : Nat) (h : n < 9223372036854775808) : IntKind.i64.wrap (n : Int) = (n : Int) := wrap_small _ (by omega) (by omega)
theorem wrap_back (z : Int) (h0 : -9223372036854775808 ≤ z) (h1 : z < 9223372036854775808) : IntKind.i64.wrap (z % 18446744073709551616) = z := by
  show (if (true && decide (z % 18446744073709551616 % 18446744073709551616 ≥ 9223372036854775808)) = true then z % 18446744073709551616 % 18446744073709551616 - 18446744073709551616 else z % 18446744073709551616 % 18446744073709551616) = z
  by_cases h : z % 18446744073709551616 % 18446744073709551616 ≥ 9223372036854775808
  · simp only [h, decide_true, Bool.and_true, if_true]; omega
  · simp only [h, decide_false, Bool.and_false, Bool.false_eq_true, if_false]; omega
theorem or_u8 (n : Nat) (h : n < 256) : IntKind.u8.wrap ((BitVec.ofInt IntKind.u8.bits (n : Int) ||| BitVec.ofInt IntKind.u8.bits 128).toNat : Int) = ((n % 128 + 128 : Nat) : Int) := by
  have : ∀ m : Fin 256, IntKind.u8.wrap ((BitVec.ofInt IntKind.u8.bits ((m.val : Nat) : Int) ||| BitVec.ofInt IntKind.u8.bits 128).toNat : Int) = ((m.val % 128 + 128 : Nat) : Int) := by decide +kernel
  exact this ⟨n, h⟩
theorem and_u8 (n : Nat) (h : n < 256) : IntKind.u8.wrap ((BitVec.ofInt IntKind.u8.bits (n : Int) &&& BitVec.ofInt IntKind.u8.bits 127).toNat : Int) = ((n % 128 : Nat) : Int) := by
  have : ∀ m : Fin 256, IntKind.u8.wrap ((BitVec.ofInt IntKind.u8.bits ((m.val : Nat) : Int) &&& BitVec.ofInt IntKind.u8.bits 127).toNat : Int) = ((m.val % 128 : Nat) : Int) := by decide +kernel
  exact this ⟨n, h⟩
theorem or_add (a b i : Nat) (hb : b < 2 ^ i) : (a * 2 ^ i) ||| b = a * 2 ^ i + b := by
  have := Nat.shiftLeft_add_eq_or_of_lt hb a
  rw [Nat.shiftLeft_eq] at this
  exact this.symm
theorem or_u64 (x y : Nat) (hx : x < 2 ^ 64) (hy : y < 2 ^ 64) : IntKind.u64.wrap ((BitVec.ofInt IntKind.u64.bits (x : Int) ||| BitVec.ofInt IntKind.u64.bits (y : Int)).toNat : Int) = ((x ||| y : Nat) : Int) := by
  have e : ∀ n : Nat, BitVec.ofInt 64 (n : Int) = BitVec.ofNat 64 n := fun n => by simp
  show IntKind.u64.wrap ((BitVec.ofInt 64 (x : Int) ||| BitVec.ofInt 64 (y : Int)).toNat : Int) = _
  rw [e, e, BitVec.toNat_or, BitVec.toNat_ofNat, BitVec.toNat_ofNat, Nat.mod_eq_of_lt hx, Nat.mod_eq_of_lt hy, wrap_u64]
  have := Nat.or_lt_two_pow hx hy
  omega
theorem or_i64 (x y : Nat) (hx : x < 2 ^ 63) (hy : y < 2 ^ 63) : IntKind.i64.wrap ((BitVec.ofInt IntKind.i64.bits (x : Int) ||| BitVec.ofInt IntKind.i64.bits (y : Int)).toNat : Int) = ((x ||| y : Nat) : Int) := by
  have e : ∀ n : Nat, BitVec.ofInt 64 (n : Int) = BitVec.ofNat 64 n := fun n => by simp
  show IntKind.i64.wrap ((BitVec.ofInt 64 (x : Int) ||| BitVec.ofInt 64 (y : Int)).toNat : Int) = _
  rw [e, e, BitVec.toNat_or, BitVec.toNat_ofNat, BitVec.toNat_ofNat, Nat.mod_eq_of_lt (by omega), Nat.mod_eq_of_lt (by omega)]
  have := Nat.or_lt_two_pow hx hy
  exact wrap_i64_small _ (by omega)
end Go.Fra
