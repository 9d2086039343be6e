/-
  THE TYPES OF THIS PROGRAM: closed facts; field and element addresses; 'make'. Written by a program of mine off the translation's table of types.
-/
import Derived.Test.Qxb6000003aProg
import Derived.Test.Qxb6000003aOps
namespace Go.Proofs.Qxb6000003a
open Go.Fra

theorem mixed : Try.prog.follows .mixedOrders = true := by kernel_rfl
theorem T2 : TyI Try.prog 2 (.int .i64) (.int .i64 0) 1 8 := ⟨Try.underlying2, by kernel_rfl⟩
theorem T3 : TyI Try.prog 3 (.int .i64) (.int .i64 0) 1 8 := ⟨Try.underlying3, by kernel_rfl⟩
theorem T4 : TyI Try.prog 4 (.bool) (.bool false) 1 1 := ⟨Try.underlying4, by kernel_rfl⟩
theorem T5 : TyI Try.prog 5 (.int .u8) (.int .u8 0) 1 1 := ⟨Try.underlying5, by kernel_rfl⟩
theorem T9 : TyI Try.prog 9 (.string) (.string ⟨#[]⟩) 1 16 := ⟨Try.underlying9, by kernel_rfl⟩
theorem T50 : TyI Try.prog 50 (.int .u8) (.int .u8 0) 1 1 := ⟨Try.underlying50, by kernel_rfl⟩
theorem T54 : TyI Try.prog 54 (.int .u64) (.int .u64 0) 1 8 := ⟨Try.underlying54, by kernel_rfl⟩
theorem T22 : TyI Try.prog 22 (.slice 3) (.slice none 0 0) 1 24 := ⟨Try.underlying22, by kernel_rfl⟩
theorem T23 : TyI Try.prog 23 (.slice 5) (.slice none 0 0) 1 24 := ⟨Try.underlying23, by kernel_rfl⟩
theorem T30 : TyI Try.prog 30 (.slice 9) (.slice none 0 0) 1 24 := ⟨Try.underlying30, by kernel_rfl⟩
theorem T31 : TyI Try.prog 31 (.slice 30) (.slice none 0 0) 1 24 := ⟨Try.underlying31, by kernel_rfl⟩
theorem T32 : TyI Try.prog 32 (.slice 2) (.slice none 0 0) 1 24 := ⟨Try.underlying32, by kernel_rfl⟩
theorem T34 : TyI Try.prog 34 (.slice 38) (.slice none 0 0) 1 24 := ⟨Try.underlying34, by kernel_rfl⟩
theorem T49 : TyI Try.prog 49 (.slice 52) (.slice none 0 0) 1 24 := ⟨Try.underlying49, by kernel_rfl⟩
theorem T38 : TyI Try.prog 38 ((Try.prog.underlying 38).getD .bool) (.agg #[.string ⟨#[]⟩, .slice none 0 0, .int .i64 0]) 3 48 := ⟨by rw [Try.underlying38]; rfl, by kernel_rfl⟩
theorem fl38 : flat ((Try.prog.underlying 38).getD .bool) = false := by rw [Try.underlying38]; rfl
theorem T52 : TyI Try.prog 52 ((Try.prog.underlying 52).getD .bool) (.agg #[.int .u8 0, .int .i64 0, .string ⟨#[]⟩]) 3 32 := ⟨by rw [Try.underlying52]; rfl, by kernel_rfl⟩
theorem fl52 : flat ((Try.prog.underlying 52).getD .bool) = false := by rw [Try.underlying52]; rfl

section
variable {ρ : Operand → Value} {w : World} {dst : Option Tmp} {ty : TypeId} {pos : String} {aft : Array Edge} {g : Option (Nat × Bool)} {x y : Operand} {b o n c j : Nat}

theorem fa38_0 (hx : ρ x = .pointer (some ⟨b, o, none⟩)) : Does Try.prog ⟨dst, .fieldAddr 38 x 0, ty, pos, aft, g⟩ ρ w (.pointer (some ⟨b, o + 0, none⟩)) w := do_field (n := 0) Try.underlying38 rfl (by kernel_rfl) rfl hx
theorem fa38_1 (hx : ρ x = .pointer (some ⟨b, o, none⟩)) : Does Try.prog ⟨dst, .fieldAddr 38 x 1, ty, pos, aft, g⟩ ρ w (.pointer (some ⟨b, o + 1, none⟩)) w := do_field (n := 0) Try.underlying38 rfl (by kernel_rfl) rfl hx
theorem fa38_2 (hx : ρ x = .pointer (some ⟨b, o, none⟩)) : Does Try.prog ⟨dst, .fieldAddr 38 x 2, ty, pos, aft, g⟩ ρ w (.pointer (some ⟨b, o + 2, none⟩)) w := do_field (n := 0) Try.underlying38 rfl (by kernel_rfl) rfl hx
theorem fa52_0 (hx : ρ x = .pointer (some ⟨b, o, none⟩)) : Does Try.prog ⟨dst, .fieldAddr 52 x 0, ty, pos, aft, g⟩ ρ w (.pointer (some ⟨b, o + 0, none⟩)) w := do_field (n := 0) Try.underlying52 rfl (by kernel_rfl) rfl hx
theorem fa52_1 (hx : ρ x = .pointer (some ⟨b, o, none⟩)) : Does Try.prog ⟨dst, .fieldAddr 52 x 1, ty, pos, aft, g⟩ ρ w (.pointer (some ⟨b, o + 1, none⟩)) w := do_field (n := 0) Try.underlying52 rfl (by kernel_rfl) rfl hx
theorem fa52_2 (hx : ρ x = .pointer (some ⟨b, o, none⟩)) : Does Try.prog ⟨dst, .fieldAddr 52 x 2, ty, pos, aft, g⟩ ρ w (.pointer (some ⟨b, o + 2, none⟩)) w := do_field (n := 0) Try.underlying52 rfl (by kernel_rfl) rfl hx
theorem ix22 (hx : ρ x = .slice (some ⟨b, 0, none⟩) n c) (hi : ρ y = .int .i64 (j : Int)) (hj : j < n) : Does Try.prog ⟨dst, .indexAddr 22 x y, ty, pos, aft, g⟩ ρ w (.pointer (some ⟨b, j, none⟩)) w := do_index T22 T3 hx hi hj (by omega)
theorem io22 (hx : ρ x = .slice (some ⟨b, o, none⟩) n c) (hi : ρ y = .int .i64 (j : Int)) (hj : j < n) : Does Try.prog ⟨dst, .indexAddr 22 x y, ty, pos, aft, g⟩ ρ w (.pointer (some ⟨b, o + j, none⟩)) w := do_index T22 T3 hx hi hj (by omega)
theorem ix23 (hx : ρ x = .slice (some ⟨b, 0, none⟩) n c) (hi : ρ y = .int .i64 (j : Int)) (hj : j < n) : Does Try.prog ⟨dst, .indexAddr 23 x y, ty, pos, aft, g⟩ ρ w (.pointer (some ⟨b, j, none⟩)) w := do_index T23 T5 hx hi hj (by omega)
theorem io23 (hx : ρ x = .slice (some ⟨b, o, none⟩) n c) (hi : ρ y = .int .i64 (j : Int)) (hj : j < n) : Does Try.prog ⟨dst, .indexAddr 23 x y, ty, pos, aft, g⟩ ρ w (.pointer (some ⟨b, o + j, none⟩)) w := do_index T23 T5 hx hi hj (by omega)
theorem ix30 (hx : ρ x = .slice (some ⟨b, 0, none⟩) n c) (hi : ρ y = .int .i64 (j : Int)) (hj : j < n) : Does Try.prog ⟨dst, .indexAddr 30 x y, ty, pos, aft, g⟩ ρ w (.pointer (some ⟨b, j, none⟩)) w := do_index T30 T9 hx hi hj (by omega)
theorem io30 (hx : ρ x = .slice (some ⟨b, o, none⟩) n c) (hi : ρ y = .int .i64 (j : Int)) (hj : j < n) : Does Try.prog ⟨dst, .indexAddr 30 x y, ty, pos, aft, g⟩ ρ w (.pointer (some ⟨b, o + j, none⟩)) w := do_index T30 T9 hx hi hj (by omega)
theorem ix31 (hx : ρ x = .slice (some ⟨b, 0, none⟩) n c) (hi : ρ y = .int .i64 (j : Int)) (hj : j < n) : Does Try.prog ⟨dst, .indexAddr 31 x y, ty, pos, aft, g⟩ ρ w (.pointer (some ⟨b, j, none⟩)) w := do_index T31 T30 hx hi hj (by omega)
theorem io31 (hx : ρ x = .slice (some ⟨b, o, none⟩) n c) (hi : ρ y = .int .i64 (j : Int)) (hj : j < n) : Does Try.prog ⟨dst, .indexAddr 31 x y, ty, pos, aft, g⟩ ρ w (.pointer (some ⟨b, o + j, none⟩)) w := do_index T31 T30 hx hi hj (by omega)
theorem ix32 (hx : ρ x = .slice (some ⟨b, 0, none⟩) n c) (hi : ρ y = .int .i64 (j : Int)) (hj : j < n) : Does Try.prog ⟨dst, .indexAddr 32 x y, ty, pos, aft, g⟩ ρ w (.pointer (some ⟨b, j, none⟩)) w := do_index T32 T2 hx hi hj (by omega)
theorem io32 (hx : ρ x = .slice (some ⟨b, o, none⟩) n c) (hi : ρ y = .int .i64 (j : Int)) (hj : j < n) : Does Try.prog ⟨dst, .indexAddr 32 x y, ty, pos, aft, g⟩ ρ w (.pointer (some ⟨b, o + j, none⟩)) w := do_index T32 T2 hx hi hj (by omega)
theorem ix34 (hx : ρ x = .slice (some ⟨b, 0, none⟩) n c) (hi : ρ y = .int .i64 (j : Int)) (hj : j < n) : Does Try.prog ⟨dst, .indexAddr 34 x y, ty, pos, aft, g⟩ ρ w (.pointer (some ⟨b, j * 3, none⟩)) w := do_index T34 T38 hx hi hj (by omega)
theorem io34 (hx : ρ x = .slice (some ⟨b, o, none⟩) n c) (hi : ρ y = .int .i64 (j : Int)) (hj : j < n) : Does Try.prog ⟨dst, .indexAddr 34 x y, ty, pos, aft, g⟩ ρ w (.pointer (some ⟨b, o + j * 3, none⟩)) w := do_index T34 T38 hx hi hj (by omega)
theorem ix49 (hx : ρ x = .slice (some ⟨b, 0, none⟩) n c) (hi : ρ y = .int .i64 (j : Int)) (hj : j < n) : Does Try.prog ⟨dst, .indexAddr 49 x y, ty, pos, aft, g⟩ ρ w (.pointer (some ⟨b, j * 3, none⟩)) w := do_index T49 T52 hx hi hj (by omega)
theorem io49 (hx : ρ x = .slice (some ⟨b, o, none⟩) n c) (hi : ρ y = .int .i64 (j : Int)) (hj : j < n) : Does Try.prog ⟨dst, .indexAddr 49 x y, ty, pos, aft, g⟩ ρ w (.pointer (some ⟨b, o + j * 3, none⟩)) w := do_index T49 T52 hx hi hj (by omega)
theorem mk22 (hx : ρ x = .int .i64 (n : Int)) (hy : ρ y = .int .i64 (n : Int)) (hn : n ≤ 1048576) : Does Try.prog ⟨dst, .makeSlice 22 x y, ty, pos, aft, g⟩ ρ w (.slice (some ⟨w.heap.size, 0, none⟩) n n) (w.alloc (.cells (madeCells #[.int .i64 0] n) 3)) := do_makeSlice T22 T3 rfl hx hy (by omega) (by omega)
theorem mk23 (hx : ρ x = .int .i64 (n : Int)) (hy : ρ y = .int .i64 (n : Int)) (hn : n ≤ 1048576) : Does Try.prog ⟨dst, .makeSlice 23 x y, ty, pos, aft, g⟩ ρ w (.slice (some ⟨w.heap.size, 0, none⟩) n n) (w.alloc (.cells (madeCells #[.int .u8 0] n) 5)) := do_makeSlice T23 T5 rfl hx hy (by omega) (by omega)
theorem mk30 (hx : ρ x = .int .i64 (n : Int)) (hy : ρ y = .int .i64 (n : Int)) (hn : n ≤ 1048576) : Does Try.prog ⟨dst, .makeSlice 30 x y, ty, pos, aft, g⟩ ρ w (.slice (some ⟨w.heap.size, 0, none⟩) n n) (w.alloc (.cells (madeCells #[.string ⟨#[]⟩] n) 9)) := do_makeSlice T30 T9 rfl hx hy (by omega) (by omega)
theorem mk31 (hx : ρ x = .int .i64 (n : Int)) (hy : ρ y = .int .i64 (n : Int)) (hn : n ≤ 1048576) : Does Try.prog ⟨dst, .makeSlice 31 x y, ty, pos, aft, g⟩ ρ w (.slice (some ⟨w.heap.size, 0, none⟩) n n) (w.alloc (.cells (madeCells #[.slice none 0 0] n) 30)) := do_makeSlice T31 T30 rfl hx hy (by omega) (by omega)
theorem mk32 (hx : ρ x = .int .i64 (n : Int)) (hy : ρ y = .int .i64 (n : Int)) (hn : n ≤ 1048576) : Does Try.prog ⟨dst, .makeSlice 32 x y, ty, pos, aft, g⟩ ρ w (.slice (some ⟨w.heap.size, 0, none⟩) n n) (w.alloc (.cells (madeCells #[.int .i64 0] n) 2)) := do_makeSlice T32 T2 rfl hx hy (by omega) (by omega)
end
end Go.Proofs.Qxb6000003a
