/-
  THE SEARCH's TYPES; BITS.
-/
import Derived.Test.Qxb6001364aV16
namespace Go.Proofs.Qxb6001364a
open Go.Fra Go.RowKit Pl
set_option linter.unusedVariables false
theorem T45 : TyI Try.prog 45 (.pointer 72) (.pointer none) 1 8 := ⟨Try.underlying45, by kernel_rfl⟩
section
variable {ρ : Operand → Value} {w : World} {dst : Option Tmp} {ty : TypeId} {pos : String} {aft : Array Edge} {g : Option (Nat × Bool)} {x y : Operand} {b o n c j : Nat}
theorem fa72_0 (hx : ρ x = .pointer (some ⟨b, 0, none⟩)) : Does Try.prog ⟨dst, .fieldAddr 72 x 0, ty, pos, aft, g⟩ ρ w (.pointer (some ⟨b, 0, none⟩)) w := do_field (n := 0) Try.underlying72 rfl (by kernel_rfl) rfl hx
theorem fa72_1 (hx : ρ x = .pointer (some ⟨b, 0, none⟩)) : Does Try.prog ⟨dst, .fieldAddr 72 x 1, ty, pos, aft, g⟩ ρ w (.pointer (some ⟨b, 1, none⟩)) w := do_field (n := 0) Try.underlying72 rfl (by kernel_rfl) rfl hx
theorem fa72_2 (hx : ρ x = .pointer (some ⟨b, 0, none⟩)) : Does Try.prog ⟨dst, .fieldAddr 72 x 2, ty, pos, aft, g⟩ ρ w (.pointer (some ⟨b, 2, none⟩)) w := do_field (n := 0) Try.underlying72 rfl (by kernel_rfl) rfl hx
theorem fa72_3 (hx : ρ x = .pointer (some ⟨b, 0, none⟩)) : Does Try.prog ⟨dst, .fieldAddr 72 x 3, ty, pos, aft, g⟩ ρ w (.pointer (some ⟨b, 3, none⟩)) w := do_field (n := 0) Try.underlying72 rfl (by kernel_rfl) rfl hx
theorem fa72_4 (hx : ρ x = .pointer (some ⟨b, 0, none⟩)) : Does Try.prog ⟨dst, .fieldAddr 72 x 4, ty, pos, aft, g⟩ ρ w (.pointer (some ⟨b, 4, none⟩)) w := do_field (n := 0) Try.underlying72 rfl (by kernel_rfl) rfl hx
theorem fa72_5 (hx : ρ x = .pointer (some ⟨b, 0, none⟩)) : Does Try.prog ⟨dst, .fieldAddr 72 x 5, ty, pos, aft, g⟩ ρ w (.pointer (some ⟨b, 5, none⟩)) w := do_field (n := 0) Try.underlying72 rfl (by kernel_rfl) rfl hx
theorem fa72_6 (hx : ρ x = .pointer (some ⟨b, 0, none⟩)) : Does Try.prog ⟨dst, .fieldAddr 72 x 6, ty, pos, aft, g⟩ ρ w (.pointer (some ⟨b, 6, none⟩)) w := do_field (n := 0) Try.underlying72 rfl (by kernel_rfl) rfl hx
theorem fa72_7 (hx : ρ x = .pointer (some ⟨b, 0, none⟩)) : Does Try.prog ⟨dst, .fieldAddr 72 x 7, ty, pos, aft, g⟩ ρ w (.pointer (some ⟨b, 7, none⟩)) w := do_field (n := 0) Try.underlying72 rfl (by kernel_rfl) rfl hx
theorem fa72_8 (hx : ρ x = .pointer (some ⟨b, 0, none⟩)) : Does Try.prog ⟨dst, .fieldAddr 72 x 8, ty, pos, aft, g⟩ ρ w (.pointer (some ⟨b, 8, none⟩)) w := do_field (n := 0) Try.underlying72 rfl (by kernel_rfl) rfl hx
theorem fa72_9 (hx : ρ x = .pointer (some ⟨b, 0, none⟩)) : Does Try.prog ⟨dst, .fieldAddr 72 x 9, ty, pos, aft, g⟩ ρ w (.pointer (some ⟨b, 9, none⟩)) w := do_field (n := 0) Try.underlying72 rfl (by kernel_rfl) rfl hx
theorem fa72_10 (hx : ρ x = .pointer (some ⟨b, 0, none⟩)) : Does Try.prog ⟨dst, .fieldAddr 72 x 10, ty, pos, aft, g⟩ ρ w (.pointer (some ⟨b, 10, none⟩)) w := do_field (n := 0) Try.underlying72 rfl (by kernel_rfl) rfl hx
theorem fa72_11 (hx : ρ x = .pointer (some ⟨b, 0, none⟩)) : Does Try.prog ⟨dst, .fieldAddr 72 x 11, ty, pos, aft, g⟩ ρ w (.pointer (some ⟨b, 11, none⟩)) w := do_field (n := 0) Try.underlying72 rfl (by kernel_rfl) rfl hx
theorem fa72_12 (hx : ρ x = .pointer (some ⟨b, 0, none⟩)) : Does Try.prog ⟨dst, .fieldAddr 72 x 12, ty, pos, aft, g⟩ ρ w (.pointer (some ⟨b, 12, none⟩)) w := do_field (n := 0) Try.underlying72 rfl (by kernel_rfl) rfl hx
theorem fa72_13 (hx : ρ x = .pointer (some ⟨b, 0, none⟩)) : Does Try.prog ⟨dst, .fieldAddr 72 x 13, ty, pos, aft, g⟩ ρ w (.pointer (some ⟨b, 13, none⟩)) w := do_field (n := 0) Try.underlying72 rfl (by kernel_rfl) rfl hx
theorem fa72_14 (hx : ρ x = .pointer (some ⟨b, 0, none⟩)) : Does Try.prog ⟨dst, .fieldAddr 72 x 14, ty, pos, aft, g⟩ ρ w (.pointer (some ⟨b, 14, none⟩)) w := do_field (n := 0) Try.underlying72 rfl (by kernel_rfl) rfl hx
theorem fa72_15 (hx : ρ x = .pointer (some ⟨b, 0, none⟩)) : Does Try.prog ⟨dst, .fieldAddr 72 x 15, ty, pos, aft, g⟩ ρ w (.pointer (some ⟨b, 15, none⟩)) w := do_field (n := 0) Try.underlying72 rfl (by kernel_rfl) rfl hx
theorem fa72_16 (hx : ρ x = .pointer (some ⟨b, 0, none⟩)) : Does Try.prog ⟨dst, .fieldAddr 72 x 16, ty, pos, aft, g⟩ ρ w (.pointer (some ⟨b, 16, none⟩)) w := do_field (n := 0) Try.underlying72 rfl (by kernel_rfl) rfl hx
theorem run_build72 (p : Option Addr) (a5 a6 a2 a4 a7 : Option Addr) (n5 n6 n2 n4 n7 c5 c6 c2 c4 c7 : Nat) (l : Int) (w : World) : (Instr.build 72 #[(0, .pointer p), (5, .slice a5 n5 c5), (6, .slice a6 n6 c6), (2, .slice a2 n2 c2), (4, .slice a4 n4 c4), (7, .slice a7 n7 c7), (12, .int .i64 l)]).run Try.prog w =
    .ok (.agg #[.pointer p, .slice none 0 0, .slice a2 n2 c2, .slice none 0 0, .slice a4 n4 c4, .slice a5 n5 c5, .slice a6 n6 c6, .slice a7 n7 c7, .slice none 0 0, .slice none 0 0, .slice none 0 0, .pointer none, .int .i64 l, .bool false, .slice none 0 0, .slice none 0 0, .slice none 0 0]) w := by kernel_rfl
theorem do_build72 {x0 x5 x6 x2 x4 x7 x12 : Operand} {p a5 a6 a2 a4 a7 : Option Addr} {n5 n6 n2 n4 n7 c5 c6 c2 c4 c7 : Nat} {l : Int} (h0 : ρ x0 = .pointer p) (h5 : ρ x5 = .slice a5 n5 c5) (h6 : ρ x6 = .slice a6 n6 c6) (h2 : ρ x2 = .slice a2 n2 c2) (h4 : ρ x4 = .slice a4 n4 c4) (h7 : ρ x7 = .slice a7 n7 c7) (h12 : ρ x12 = .int .i64 l) :
    Does Try.prog ⟨dst, .build 72 #[(0, x0), (5, x5), (6, x6), (2, x2), (4, x4), (7, x7), (12, x12)], ty, pos, aft, g⟩ ρ w (.agg #[.pointer p, .slice none 0 0, .slice a2 n2 c2, .slice none 0 0, .slice a4 n4 c4, .slice a5 n5 c5, .slice a6 n6 c6, .slice a7 n7 c7, .slice none 0 0, .slice none 0 0, .slice none 0 0, .pointer none, .int .i64 l, .bool false, .slice none 0 0, .slice none 0 0, .slice none 0 0]) w :=
  .inl (by simp [execOp, h0, h5, h6, h2, h4, h7, h12, run_build72])
end
theorem and_u64 (x y : Nat) (hx : x < 2 ^ 64) (hy : y < 2 ^ 64) : IntKind.u64.wrap ((BitVec.ofInt IntKind.u64.bits (x : Int) &&& BitVec.ofInt IntKind.u64.bits (y : Int)).toNat : Int) = ((x &&& y : Nat) : Int) := by
  have e : ∀ n : Nat, BitVec.ofInt 64 (n : Int) = BitVec.ofNat 64 n := fun n => by simp
  show IntKind.u64.wrap ((BitVec.ofInt 64 (x : Int) &&& BitVec.ofInt 64 (y : Int)).toNat : Int) = _
  rw [e, e, BitVec.toNat_and, BitVec.toNat_ofNat, BitVec.toNat_ofNat, Nat.mod_eq_of_lt hx, Nat.mod_eq_of_lt hy, wrap_u64]
  have := Nat.and_lt_two_pow x hy
  omega
theorem pow_lt64 {j : Nat} (h : j < 64) : 2 ^ j < 2 ^ 64 := Nat.pow_lt_pow_right (by decide) h
theorem shl_u64 {j : Nat} (h : j < 64) : IntKind.u64.wrap (1 * 2 ^ j) = ((2 ^ j : Nat) : Int) := by
  have := pow_lt64 h
  rw [wrap_u64, Int.one_mul]
  have e : ((2 : Int) ^ j) = ((2 ^ j : Nat) : Int) := by simp
  rw [e]
  generalize 2 ^ j = q at *
  omega
theorem and_ne (x j : Nat) : (((x &&& 2 ^ j : Nat) : Int) != 0) = x.testBit j := by
  have h1 : (x &&& 2 ^ j).testBit j = x.testBit j := by rw [Nat.testBit_and, Nat.testBit_two_pow_self, Bool.and_true]
  cases hx : x.testBit j with
  | true =>
    rw [hx] at h1
    have : x &&& 2 ^ j ≠ 0 := by
      intro h0
      rw [h0, Nat.zero_testBit] at h1
      cases h1
    simpa using this
  | false =>
    have : x &&& 2 ^ j = 0 := by
      apply Nat.eq_of_testBit_eq
      intro i
      rw [Nat.testBit_and, Nat.zero_testBit, Nat.testBit_two_pow]
      by_cases hij : j = i
      · subst hij; rw [hx]; rfl
      · simp [hij]
    rw [this]; rfl
def u64s (zs : List Nat) : List Value := zs.map fun (z : Nat) => Value.int .u64 (z : Int)
theorem u64s_get (zs : List Nat) (i : Nat) (h : i < zs.length) : (u64s zs)[i]? = some (.int .u64 (zs[i] : Int)) := by simp [u64s, h]
/-- The words ws hold the set of the v < n with p v. -/
def Bits (ws : List Nat) (n : Nat) (p : Nat → Bool) : Prop := (∀ z ∈ ws, z < 2 ^ 64) ∧ ∀ v, v < n → ∃ z, ws[v / 64]? = some z ∧ z.testBit (v % 64) = p v
end Go.Proofs.Qxb6001364a
