/-
  THE TYPES OF THIS PROGRAM: closed facts; field and element addresses; 'make'. Written by a program of mine off the translation's table of types.
-/
import Derived.Test.Qxb6001364aProg
import Derived.Test.Qxb6001364aOps
namespace Go.Proofs.Qxb6001364a
open Go.Fra

theorem mixed : Try.prog.follows .mixedOrders = true := by kernel_rfl
theorem T2 : TyI Try.prog 2 (.int .i64) (.int .i64 0) 1 8 := ⟨Try.underlying2, by kernel_rfl⟩
theorem T3 : TyI Try.prog 3 (.int .i64) (.int .i64 0) 1 8 := ⟨Try.underlying3, by kernel_rfl⟩
theorem T4 : TyI Try.prog 4 (.bool) (.bool false) 1 1 := ⟨Try.underlying4, by kernel_rfl⟩
theorem T5 : TyI Try.prog 5 (.int .u8) (.int .u8 0) 1 1 := ⟨Try.underlying5, by kernel_rfl⟩
theorem T9 : TyI Try.prog 9 (.string) (.string ⟨#[]⟩) 1 16 := ⟨Try.underlying9, by kernel_rfl⟩
theorem T22 : TyI Try.prog 22 (.slice 3) (.slice none 0 0) 1 24 := ⟨Try.underlying22, by kernel_rfl⟩
theorem T23 : TyI Try.prog 23 (.slice 4) (.slice none 0 0) 1 24 := ⟨Try.underlying23, by kernel_rfl⟩
theorem T37 : TyI Try.prog 37 (.slice 22) (.slice none 0 0) 1 24 := ⟨Try.underlying37, by kernel_rfl⟩
theorem T52 : TyI Try.prog 52 (.slice 9) (.slice none 0 0) 1 24 := ⟨Try.underlying52, by kernel_rfl⟩
theorem T54 : TyI Try.prog 54 (.slice 23) (.slice none 0 0) 1 24 := ⟨Try.underlying54, by kernel_rfl⟩
theorem T56 : TyI Try.prog 56 (.slice 61) (.slice none 0 0) 1 24 := ⟨Try.underlying56, by kernel_rfl⟩
theorem T61 : TyI Try.prog 61 (.slice 63) (.slice none 0 0) 1 24 := ⟨Try.underlying61, by kernel_rfl⟩
theorem T64 : TyI Try.prog 64 (.slice 65) (.slice none 0 0) 1 24 := ⟨Try.underlying64, by kernel_rfl⟩
theorem T65 : TyI Try.prog 65 (.int .u64) (.int .u64 0) 1 8 := ⟨Try.underlying65, by kernel_rfl⟩
theorem T69 : TyI Try.prog 69 (.slice 65) (.slice none 0 0) 1 24 := ⟨Try.underlying69, by kernel_rfl⟩
theorem T80 : TyI Try.prog 80 (.slice 82) (.slice none 0 0) 1 24 := ⟨Try.underlying80, by kernel_rfl⟩
theorem T85 : TyI Try.prog 85 (.slice 60) (.slice none 0 0) 1 24 := ⟨Try.underlying85, by kernel_rfl⟩
theorem T33 : TyI Try.prog 33 (.pointer 58) (.pointer none) 1 8 := ⟨Try.underlying33, by kernel_rfl⟩
theorem T75 : TyI Try.prog 75 (.pointer 79) (.pointer none) 1 8 := ⟨Try.underlying75, by kernel_rfl⟩
theorem T50 : TyI Try.prog 50 (.map 3 3) (.map none) 1 8 := ⟨Try.underlying50, by kernel_rfl⟩
theorem T76 : TyI Try.prog 76 (.map 9 80) (.map none) 1 8 := ⟨Try.underlying76, by kernel_rfl⟩
theorem T84 : TyI Try.prog 84 (.map 60 4) (.map none) 1 8 := ⟨Try.underlying84, by kernel_rfl⟩
theorem T88 : TyI Try.prog 88 (.map 3 4) (.map none) 1 8 := ⟨Try.underlying88, by kernel_rfl⟩
theorem T60 : TyI Try.prog 60 ((Try.prog.underlying 60).getD .bool) (.agg #[.int .i64 0, .int .i64 0]) 2 16 := ⟨by rw [Try.underlying60]; rfl, by kernel_rfl⟩
theorem fl60 : flat ((Try.prog.underlying 60).getD .bool) = false := by rw [Try.underlying60]; rfl
theorem T63 : TyI Try.prog 63 ((Try.prog.underlying 63).getD .bool) (.agg #[.int .i64 0, .int .i64 0]) 2 16 := ⟨by rw [Try.underlying63]; rfl, by kernel_rfl⟩
theorem fl63 : flat ((Try.prog.underlying 63).getD .bool) = false := by rw [Try.underlying63]; rfl
theorem T82 : TyI Try.prog 82 ((Try.prog.underlying 82).getD .bool) (.agg #[.int .i64 0, .bool false]) 2 16 := ⟨by rw [Try.underlying82]; rfl, by kernel_rfl⟩
theorem fl82 : flat ((Try.prog.underlying 82).getD .bool) = false := by rw [Try.underlying82]; rfl

section
variable {ρ : Operand → Value} {w : World} {dst : Option Tmp} {ty : TypeId} {pos : String} {aft : Array Edge} {g : Option (Nat × Bool)} {x y : Operand} {b o n c j : Nat}

theorem fa58_0 (hx : ρ x = .pointer (some ⟨b, 0, none⟩)) : Does Try.prog ⟨dst, .fieldAddr 58 x 0, ty, pos, aft, g⟩ ρ w (.pointer (some ⟨b, 0, none⟩)) w := do_field (n := 0) Try.underlying58 rfl (by kernel_rfl) rfl hx
theorem fa58_1 (hx : ρ x = .pointer (some ⟨b, 0, none⟩)) : Does Try.prog ⟨dst, .fieldAddr 58 x 1, ty, pos, aft, g⟩ ρ w (.pointer (some ⟨b, 1, none⟩)) w := do_field (n := 0) Try.underlying58 rfl (by kernel_rfl) rfl hx
theorem fa58_2 (hx : ρ x = .pointer (some ⟨b, 0, none⟩)) : Does Try.prog ⟨dst, .fieldAddr 58 x 2, ty, pos, aft, g⟩ ρ w (.pointer (some ⟨b, 2, none⟩)) w := do_field (n := 0) Try.underlying58 rfl (by kernel_rfl) rfl hx
theorem fa58_3 (hx : ρ x = .pointer (some ⟨b, 0, none⟩)) : Does Try.prog ⟨dst, .fieldAddr 58 x 3, ty, pos, aft, g⟩ ρ w (.pointer (some ⟨b, 3, none⟩)) w := do_field (n := 0) Try.underlying58 rfl (by kernel_rfl) rfl hx
theorem fa58_4 (hx : ρ x = .pointer (some ⟨b, 0, none⟩)) : Does Try.prog ⟨dst, .fieldAddr 58 x 4, ty, pos, aft, g⟩ ρ w (.pointer (some ⟨b, 4, none⟩)) w := do_field (n := 0) Try.underlying58 rfl (by kernel_rfl) rfl hx
theorem fa58_5 (hx : ρ x = .pointer (some ⟨b, 0, none⟩)) : Does Try.prog ⟨dst, .fieldAddr 58 x 5, ty, pos, aft, g⟩ ρ w (.pointer (some ⟨b, 5, none⟩)) w := do_field (n := 0) Try.underlying58 rfl (by kernel_rfl) rfl hx
theorem fa58_6 (hx : ρ x = .pointer (some ⟨b, 0, none⟩)) : Does Try.prog ⟨dst, .fieldAddr 58 x 6, ty, pos, aft, g⟩ ρ w (.pointer (some ⟨b, 6, none⟩)) w := do_field (n := 0) Try.underlying58 rfl (by kernel_rfl) rfl hx
theorem fa58_7 (hx : ρ x = .pointer (some ⟨b, 0, none⟩)) : Does Try.prog ⟨dst, .fieldAddr 58 x 7, ty, pos, aft, g⟩ ρ w (.pointer (some ⟨b, 7, none⟩)) w := do_field (n := 0) Try.underlying58 rfl (by kernel_rfl) rfl hx
theorem fa63_0 (hx : ρ x = .pointer (some ⟨b, 0, none⟩)) : Does Try.prog ⟨dst, .fieldAddr 63 x 0, ty, pos, aft, g⟩ ρ w (.pointer (some ⟨b, 0, none⟩)) w := do_field (n := 0) Try.underlying63 rfl (by kernel_rfl) rfl hx
theorem fo63_0 (hx : ρ x = .pointer (some ⟨b, o, none⟩)) : Does Try.prog ⟨dst, .fieldAddr 63 x 0, ty, pos, aft, g⟩ ρ w (.pointer (some ⟨b, o + 0, none⟩)) w := do_field (n := 0) Try.underlying63 rfl (by kernel_rfl) rfl hx
theorem fa63_1 (hx : ρ x = .pointer (some ⟨b, 0, none⟩)) : Does Try.prog ⟨dst, .fieldAddr 63 x 1, ty, pos, aft, g⟩ ρ w (.pointer (some ⟨b, 1, none⟩)) w := do_field (n := 0) Try.underlying63 rfl (by kernel_rfl) rfl hx
theorem fo63_1 (hx : ρ x = .pointer (some ⟨b, o, none⟩)) : Does Try.prog ⟨dst, .fieldAddr 63 x 1, ty, pos, aft, g⟩ ρ w (.pointer (some ⟨b, o + 1, none⟩)) w := do_field (n := 0) Try.underlying63 rfl (by kernel_rfl) rfl hx
theorem fa82_0 (hx : ρ x = .pointer (some ⟨b, 0, none⟩)) : Does Try.prog ⟨dst, .fieldAddr 82 x 0, ty, pos, aft, g⟩ ρ w (.pointer (some ⟨b, 0, none⟩)) w := do_field (n := 0) Try.underlying82 rfl (by kernel_rfl) rfl hx
theorem fo82_0 (hx : ρ x = .pointer (some ⟨b, o, none⟩)) : Does Try.prog ⟨dst, .fieldAddr 82 x 0, ty, pos, aft, g⟩ ρ w (.pointer (some ⟨b, o + 0, none⟩)) w := do_field (n := 0) Try.underlying82 rfl (by kernel_rfl) rfl hx
theorem fa82_1 (hx : ρ x = .pointer (some ⟨b, 0, none⟩)) : Does Try.prog ⟨dst, .fieldAddr 82 x 1, ty, pos, aft, g⟩ ρ w (.pointer (some ⟨b, 1, none⟩)) w := do_field (n := 0) Try.underlying82 rfl (by kernel_rfl) rfl hx
theorem fo82_1 (hx : ρ x = .pointer (some ⟨b, o, none⟩)) : Does Try.prog ⟨dst, .fieldAddr 82 x 1, ty, pos, aft, g⟩ ρ w (.pointer (some ⟨b, o + 1, none⟩)) w := do_field (n := 0) Try.underlying82 rfl (by kernel_rfl) rfl hx
theorem fa79_0 (hx : ρ x = .pointer (some ⟨b, 0, none⟩)) : Does Try.prog ⟨dst, .fieldAddr 79 x 0, ty, pos, aft, g⟩ ρ w (.pointer (some ⟨b, 0, none⟩)) w := do_field (n := 0) Try.underlying79 rfl (by kernel_rfl) rfl hx
theorem fa79_1 (hx : ρ x = .pointer (some ⟨b, 0, none⟩)) : Does Try.prog ⟨dst, .fieldAddr 79 x 1, ty, pos, aft, g⟩ ρ w (.pointer (some ⟨b, 1, none⟩)) w := do_field (n := 0) Try.underlying79 rfl (by kernel_rfl) rfl hx
theorem fa79_2 (hx : ρ x = .pointer (some ⟨b, 0, none⟩)) : Does Try.prog ⟨dst, .fieldAddr 79 x 2, ty, pos, aft, g⟩ ρ w (.pointer (some ⟨b, 2, none⟩)) w := do_field (n := 0) Try.underlying79 rfl (by kernel_rfl) rfl hx
theorem fa79_3 (hx : ρ x = .pointer (some ⟨b, 0, none⟩)) : Does Try.prog ⟨dst, .fieldAddr 79 x 3, ty, pos, aft, g⟩ ρ w (.pointer (some ⟨b, 3, none⟩)) w := do_field (n := 0) Try.underlying79 rfl (by kernel_rfl) rfl hx
theorem fa79_4 (hx : ρ x = .pointer (some ⟨b, 0, none⟩)) : Does Try.prog ⟨dst, .fieldAddr 79 x 4, ty, pos, aft, g⟩ ρ w (.pointer (some ⟨b, 4, none⟩)) w := do_field (n := 0) Try.underlying79 rfl (by kernel_rfl) rfl hx
theorem ix22 (hx : ρ x = .slice (some ⟨b, 0, none⟩) n c) (hi : ρ y = .int .i64 (j : Int)) (hj : j < n) : Does Try.prog ⟨dst, .indexAddr 22 x y, ty, pos, aft, g⟩ ρ w (.pointer (some ⟨b, j, none⟩)) w := do_index T22 T3 hx hi hj (by omega)
theorem io22 (hx : ρ x = .slice (some ⟨b, o, none⟩) n c) (hi : ρ y = .int .i64 (j : Int)) (hj : j < n) : Does Try.prog ⟨dst, .indexAddr 22 x y, ty, pos, aft, g⟩ ρ w (.pointer (some ⟨b, o + j, none⟩)) w := do_index T22 T3 hx hi hj (by omega)
theorem ix23 (hx : ρ x = .slice (some ⟨b, 0, none⟩) n c) (hi : ρ y = .int .i64 (j : Int)) (hj : j < n) : Does Try.prog ⟨dst, .indexAddr 23 x y, ty, pos, aft, g⟩ ρ w (.pointer (some ⟨b, j, none⟩)) w := do_index T23 T4 hx hi hj (by omega)
theorem io23 (hx : ρ x = .slice (some ⟨b, o, none⟩) n c) (hi : ρ y = .int .i64 (j : Int)) (hj : j < n) : Does Try.prog ⟨dst, .indexAddr 23 x y, ty, pos, aft, g⟩ ρ w (.pointer (some ⟨b, o + j, none⟩)) w := do_index T23 T4 hx hi hj (by omega)
theorem ix37 (hx : ρ x = .slice (some ⟨b, 0, none⟩) n c) (hi : ρ y = .int .i64 (j : Int)) (hj : j < n) : Does Try.prog ⟨dst, .indexAddr 37 x y, ty, pos, aft, g⟩ ρ w (.pointer (some ⟨b, j, none⟩)) w := do_index T37 T22 hx hi hj (by omega)
theorem io37 (hx : ρ x = .slice (some ⟨b, o, none⟩) n c) (hi : ρ y = .int .i64 (j : Int)) (hj : j < n) : Does Try.prog ⟨dst, .indexAddr 37 x y, ty, pos, aft, g⟩ ρ w (.pointer (some ⟨b, o + j, none⟩)) w := do_index T37 T22 hx hi hj (by omega)
theorem ix52 (hx : ρ x = .slice (some ⟨b, 0, none⟩) n c) (hi : ρ y = .int .i64 (j : Int)) (hj : j < n) : Does Try.prog ⟨dst, .indexAddr 52 x y, ty, pos, aft, g⟩ ρ w (.pointer (some ⟨b, j, none⟩)) w := do_index T52 T9 hx hi hj (by omega)
theorem io52 (hx : ρ x = .slice (some ⟨b, o, none⟩) n c) (hi : ρ y = .int .i64 (j : Int)) (hj : j < n) : Does Try.prog ⟨dst, .indexAddr 52 x y, ty, pos, aft, g⟩ ρ w (.pointer (some ⟨b, o + j, none⟩)) w := do_index T52 T9 hx hi hj (by omega)
theorem ix54 (hx : ρ x = .slice (some ⟨b, 0, none⟩) n c) (hi : ρ y = .int .i64 (j : Int)) (hj : j < n) : Does Try.prog ⟨dst, .indexAddr 54 x y, ty, pos, aft, g⟩ ρ w (.pointer (some ⟨b, j, none⟩)) w := do_index T54 T23 hx hi hj (by omega)
theorem io54 (hx : ρ x = .slice (some ⟨b, o, none⟩) n c) (hi : ρ y = .int .i64 (j : Int)) (hj : j < n) : Does Try.prog ⟨dst, .indexAddr 54 x y, ty, pos, aft, g⟩ ρ w (.pointer (some ⟨b, o + j, none⟩)) w := do_index T54 T23 hx hi hj (by omega)
theorem ix56 (hx : ρ x = .slice (some ⟨b, 0, none⟩) n c) (hi : ρ y = .int .i64 (j : Int)) (hj : j < n) : Does Try.prog ⟨dst, .indexAddr 56 x y, ty, pos, aft, g⟩ ρ w (.pointer (some ⟨b, j, none⟩)) w := do_index T56 T61 hx hi hj (by omega)
theorem io56 (hx : ρ x = .slice (some ⟨b, o, none⟩) n c) (hi : ρ y = .int .i64 (j : Int)) (hj : j < n) : Does Try.prog ⟨dst, .indexAddr 56 x y, ty, pos, aft, g⟩ ρ w (.pointer (some ⟨b, o + j, none⟩)) w := do_index T56 T61 hx hi hj (by omega)
theorem ix61 (hx : ρ x = .slice (some ⟨b, 0, none⟩) n c) (hi : ρ y = .int .i64 (j : Int)) (hj : j < n) : Does Try.prog ⟨dst, .indexAddr 61 x y, ty, pos, aft, g⟩ ρ w (.pointer (some ⟨b, j * 2, none⟩)) w := do_index T61 T63 hx hi hj (by omega)
theorem io61 (hx : ρ x = .slice (some ⟨b, o, none⟩) n c) (hi : ρ y = .int .i64 (j : Int)) (hj : j < n) : Does Try.prog ⟨dst, .indexAddr 61 x y, ty, pos, aft, g⟩ ρ w (.pointer (some ⟨b, o + j * 2, none⟩)) w := do_index T61 T63 hx hi hj (by omega)
theorem ix64 (hx : ρ x = .slice (some ⟨b, 0, none⟩) n c) (hi : ρ y = .int .i64 (j : Int)) (hj : j < n) : Does Try.prog ⟨dst, .indexAddr 64 x y, ty, pos, aft, g⟩ ρ w (.pointer (some ⟨b, j, none⟩)) w := do_index T64 T65 hx hi hj (by omega)
theorem io64 (hx : ρ x = .slice (some ⟨b, o, none⟩) n c) (hi : ρ y = .int .i64 (j : Int)) (hj : j < n) : Does Try.prog ⟨dst, .indexAddr 64 x y, ty, pos, aft, g⟩ ρ w (.pointer (some ⟨b, o + j, none⟩)) w := do_index T64 T65 hx hi hj (by omega)
theorem ix69 (hx : ρ x = .slice (some ⟨b, 0, none⟩) n c) (hi : ρ y = .int .i64 (j : Int)) (hj : j < n) : Does Try.prog ⟨dst, .indexAddr 69 x y, ty, pos, aft, g⟩ ρ w (.pointer (some ⟨b, j, none⟩)) w := do_index T69 T65 hx hi hj (by omega)
theorem io69 (hx : ρ x = .slice (some ⟨b, o, none⟩) n c) (hi : ρ y = .int .i64 (j : Int)) (hj : j < n) : Does Try.prog ⟨dst, .indexAddr 69 x y, ty, pos, aft, g⟩ ρ w (.pointer (some ⟨b, o + j, none⟩)) w := do_index T69 T65 hx hi hj (by omega)
theorem ix80 (hx : ρ x = .slice (some ⟨b, 0, none⟩) n c) (hi : ρ y = .int .i64 (j : Int)) (hj : j < n) : Does Try.prog ⟨dst, .indexAddr 80 x y, ty, pos, aft, g⟩ ρ w (.pointer (some ⟨b, j * 2, none⟩)) w := do_index T80 T82 hx hi hj (by omega)
theorem io80 (hx : ρ x = .slice (some ⟨b, o, none⟩) n c) (hi : ρ y = .int .i64 (j : Int)) (hj : j < n) : Does Try.prog ⟨dst, .indexAddr 80 x y, ty, pos, aft, g⟩ ρ w (.pointer (some ⟨b, o + j * 2, none⟩)) w := do_index T80 T82 hx hi hj (by omega)
theorem ix85 (hx : ρ x = .slice (some ⟨b, 0, none⟩) n c) (hi : ρ y = .int .i64 (j : Int)) (hj : j < n) : Does Try.prog ⟨dst, .indexAddr 85 x y, ty, pos, aft, g⟩ ρ w (.pointer (some ⟨b, j * 2, none⟩)) w := do_index T85 T60 hx hi hj (by omega)
theorem io85 (hx : ρ x = .slice (some ⟨b, o, none⟩) n c) (hi : ρ y = .int .i64 (j : Int)) (hj : j < n) : Does Try.prog ⟨dst, .indexAddr 85 x y, ty, pos, aft, g⟩ ρ w (.pointer (some ⟨b, o + j * 2, none⟩)) w := do_index T85 T60 hx hi hj (by omega)
theorem ix60 (hx : ρ x = .pointer (some ⟨b, 0, none⟩)) (hi : ρ y = .int .i64 (j : Int)) (hj : j < 2) : Does Try.prog ⟨dst, .indexAddr 60 x y, ty, pos, aft, g⟩ ρ w (.pointer (some ⟨b, j, none⟩)) w := do_indexA (n := 2) (e := 3) (zt := .agg #[.int .i64 0, .int .i64 0]) (s1 := 2) (b1 := 16) ⟨Try.underlying60, by kernel_rfl⟩ T3 hx hi hj (by omega)
theorem mk22 (hx : ρ x = .int .i64 (n : Int)) (hy : ρ y = .int .i64 (n : Int)) (hn : n ≤ 1048576) : Does Try.prog ⟨dst, .makeSlice 22 x y, ty, pos, aft, g⟩ ρ w (.slice (some ⟨w.heap.size, 0, none⟩) n n) (w.alloc (.cells (madeCells #[.int .i64 0] n) 3)) := do_makeSlice T22 T3 rfl hx hy (by omega) (by omega)
theorem mk23 (hx : ρ x = .int .i64 (n : Int)) (hy : ρ y = .int .i64 (n : Int)) (hn : n ≤ 1048576) : Does Try.prog ⟨dst, .makeSlice 23 x y, ty, pos, aft, g⟩ ρ w (.slice (some ⟨w.heap.size, 0, none⟩) n n) (w.alloc (.cells (madeCells #[.bool false] n) 4)) := do_makeSlice T23 T4 rfl hx hy (by omega) (by omega)
theorem mk37 (hx : ρ x = .int .i64 (n : Int)) (hy : ρ y = .int .i64 (n : Int)) (hn : n ≤ 1048576) : Does Try.prog ⟨dst, .makeSlice 37 x y, ty, pos, aft, g⟩ ρ w (.slice (some ⟨w.heap.size, 0, none⟩) n n) (w.alloc (.cells (madeCells #[.slice none 0 0] n) 22)) := do_makeSlice T37 T22 rfl hx hy (by omega) (by omega)
theorem mk52 (hx : ρ x = .int .i64 (n : Int)) (hy : ρ y = .int .i64 (n : Int)) (hn : n ≤ 1048576) : Does Try.prog ⟨dst, .makeSlice 52 x y, ty, pos, aft, g⟩ ρ w (.slice (some ⟨w.heap.size, 0, none⟩) n n) (w.alloc (.cells (madeCells #[.string ⟨#[]⟩] n) 9)) := do_makeSlice T52 T9 rfl hx hy (by omega) (by omega)
theorem mk54 (hx : ρ x = .int .i64 (n : Int)) (hy : ρ y = .int .i64 (n : Int)) (hn : n ≤ 1048576) : Does Try.prog ⟨dst, .makeSlice 54 x y, ty, pos, aft, g⟩ ρ w (.slice (some ⟨w.heap.size, 0, none⟩) n n) (w.alloc (.cells (madeCells #[.slice none 0 0] n) 23)) := do_makeSlice T54 T23 rfl hx hy (by omega) (by omega)
theorem mk56 (hx : ρ x = .int .i64 (n : Int)) (hy : ρ y = .int .i64 (n : Int)) (hn : n ≤ 1048576) : Does Try.prog ⟨dst, .makeSlice 56 x y, ty, pos, aft, g⟩ ρ w (.slice (some ⟨w.heap.size, 0, none⟩) n n) (w.alloc (.cells (madeCells #[.slice none 0 0] n) 61)) := do_makeSlice T56 T61 rfl hx hy (by omega) (by omega)
theorem mk64 (hx : ρ x = .int .i64 (n : Int)) (hy : ρ y = .int .i64 (n : Int)) (hn : n ≤ 1048576) : Does Try.prog ⟨dst, .makeSlice 64 x y, ty, pos, aft, g⟩ ρ w (.slice (some ⟨w.heap.size, 0, none⟩) n n) (w.alloc (.cells (madeCells #[.int .u64 0] n) 65)) := do_makeSlice T64 T65 rfl hx hy (by omega) (by omega)
theorem mk69 (hx : ρ x = .int .i64 (n : Int)) (hy : ρ y = .int .i64 (n : Int)) (hn : n ≤ 1048576) : Does Try.prog ⟨dst, .makeSlice 69 x y, ty, pos, aft, g⟩ ρ w (.slice (some ⟨w.heap.size, 0, none⟩) n n) (w.alloc (.cells (madeCells #[.int .u64 0] n) 65)) := do_makeSlice T69 T65 rfl hx hy (by omega) (by omega)
end
end Go.Proofs.Qxb6001364a
