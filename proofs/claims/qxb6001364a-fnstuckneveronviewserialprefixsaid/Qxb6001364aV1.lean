/-
  THE BOUNDS AND THE COPIES: zzBytes, cloneInts, cloneBools.
-/
import Derived.Test.Qxb6001364aHq
namespace Go.Proofs.Qxb6001364a
open Go.Fra Go.RowKit
set_option maxRecDepth 100000
set_option linter.unusedVariables false

/-- A slice of integers that can be read. -/
def IntR (w : World) (v : Value) (zs : List Int) : Prop :=
  ∃ a c, v = .slice a zs.length c ∧ ∀ i (h : i < zs.length), ∃ b o, a = some ⟨b, o, none⟩ ∧ w.cell? ⟨b, o + i, none⟩ = some (.int .i64 zs[i])
/-- A slice of truth values that can be read. -/
def BoolR (w : World) (v : Value) (bs : List Bool) : Prop :=
  ∃ a c, v = .slice a bs.length c ∧ ∀ i (h : i < bs.length), ∃ b o, a = some ⟨b, o, none⟩ ∧ w.cell? ⟨b, o + i, none⟩ = some (.bool bs[i])
theorem IntR.below {w w' : World} {v : Value} {zs : List Int} (h : IntR w v zs) (hb : Below w.heap.size w w') : IntR w' v zs := by
  obtain ⟨a, c, rfl, hc⟩ := h
  refine ⟨a, c, rfl, fun i hi => ?_⟩
  obtain ⟨b, o, ha, hcc⟩ := hc i hi
  exact ⟨b, o, ha, by rw [hb.cell (World.block_lt_of_cell? w _ hcc)]; exact hcc⟩
theorem BoolR.below {w w' : World} {v : Value} {zs : List Bool} (h : BoolR w v zs) (hb : Below w.heap.size w w') : BoolR w' v zs := by
  obtain ⟨a, c, rfl, hc⟩ := h
  refine ⟨a, c, rfl, fun i hi => ?_⟩
  obtain ⟨b, o, ha, hcc⟩ := hc i hi
  exact ⟨b, o, ha, by rw [hb.cell (World.block_lt_of_cell? w _ hcc)]; exact hcc⟩
theorem Blk.intR {w : World} {b c : Nat} {zs : List Int} (h : Blk w b 3 (ints zs)) : IntR w (.slice (some ⟨b, 0, none⟩) zs.length c) zs :=
  ⟨_, _, rfl, fun i hi => ⟨b, 0, rfl, by rw [Nat.zero_add]; exact h.cell (ints_get zs i hi)⟩⟩
theorem Blk.boolR {w : World} {b c : Nat} {zs : List Bool} (h : Blk w b 4 (bools zs)) : BoolR w (.slice (some ⟨b, 0, none⟩) zs.length c) zs :=
  ⟨_, _, rfl, fun i hi => ⟨b, 0, rfl, by rw [Nat.zero_add]; exact h.cell (bools_get zs i hi)⟩⟩

theorem bytes9 (w : World) (n : Int) (a1 a2 a3 a4 : Option Addr) (n1 n2 n3 n4 c1 c2 c3 c4 : Nat) :
    Calls Try.prog 9 #[.int .i64 n, .slice a1 n1 c1, .slice a2 n2 c2, .slice a3 n3 c3, .slice a4 n4 c4] w fun e w' => ∃ b, e = .returned (.bool b) ∧ w' = w ∧ (b = true → n1 ≤ 1048576 ∧ n2 ≤ 1048576 ∧ n3 ≤ 1048576 ∧ n4 ≤ 1048576) := by
  refine enter (args := [.int .i64 n, .slice a1 n1 c1, .slice a2 n2 c2, .slice a3 n3 c3, .slice a4 n4 c4]) Try.func9 rfl Try.ntmps9 rfl ?_
  generalize hQ : bodyPost Try.prog Try.f9 _ = Q
  have hF : ∀ τ, τ 10 = .bool false → Q .ret (Fr 48 τ) w := by
    intro τ h
    rw [← hQ]
    exact ret1 rfl rfl h ⟨false, rfl, rfl, fun h => by cases h⟩
  have s1 : frame0 [Value.int .i64 n, .slice a1 n1 c1, .slice a2 n2 c2, .slice a3 n3 c3, .slice a4 n4 c4] 1 = .slice a1 n1 c1 := rfl
  have s2 : frame0 [Value.int .i64 n, .slice a1 n1 c1, .slice a2 n2 c2, .slice a3 n3 c3, .slice a4 n4 c4] 2 = .slice a2 n2 c2 := rfl
  have s3 : frame0 [Value.int .i64 n, .slice a1 n1 c1, .slice a2 n2 c2, .slice a3 n3 c3, .slice a4 n4 c4] 3 = .slice a3 n3 c3 := rfl
  have s4 : frame0 [Value.int .i64 n, .slice a1 n1 c1, .slice a2 n2 c2, .slice a3 n3 c3, .slice a4 n4 c4] 4 = .slice a4 n4 c4 := rfl
  generalize frame0 [Value.int .i64 n, .slice a1 n1 c1, .slice a2 n2 c2, .slice a3 n3 c3, .slice a4 n4 c4] = σ at *
  refine wp_seq_k (fun K1 hK1 => ?_)
  refine reg ?_
  refine sq rfl (do_assign ck) ?_
  refine wnil ?_
  refine hK1 _ _ ?_
  clear hK1
  refine wp_seq_k (fun K2 hK2 => ?_)
  refine reg ?_
  refine sq rfl (do_assign (v := .int .i64 ((0 : Nat) : Int)) rfl) ?_
  refine wnil ?_
  refine hK2 _ _ ?_
  clear hK2
  refine wp_seq_k (fun K3 hK3 => ?_)
  refine wp_seq_k (fun K4 hK4 => ?_)
  refine reg ?_
  refine sq rfl (do_move (tm rfl (nx rfl (nx rfl s1)))) ?_
  refine sq rfl (do_len Try.underlying22 (tm rfl hit)) ?_
  refine sq rfl (do_gtr (tm rfl hit) ck) ?_
  refine cutL ?_
  intro τ5 e5
  have c5_1 := (congrFun e5 1).trans (nx rfl (nx rfl (nx rfl (nx rfl (nx rfl s1)))))
  have c5_2 := (congrFun e5 2).trans (nx rfl (nx rfl (nx rfl (nx rfl (nx rfl s2)))))
  have c5_3 := (congrFun e5 3).trans (nx rfl (nx rfl (nx rfl (nx rfl (nx rfl s3)))))
  have c5_4 := (congrFun e5 4).trans (nx rfl (nx rfl (nx rfl (nx rfl (nx rfl s4)))))
  have c5_10 := (congrFun e5 10).trans (nx rfl (nx rfl (nx rfl (nx rfl hit))))
  have c5_11 := (congrFun e5 11).trans (nx rfl (nx rfl (nx rfl hit)))
  have c5_14 := (congrFun e5 14).trans hit
  clear e5
  refine wnil ?_
  refine hK4 _ _ ?_
  clear hK4
  refine cB rfl c5_14 (fun h1 => ?_) (fun h1 => ?_)
  · refine wp_seq_k (fun K6 hK6 => ?_)
    refine reg ?_
    refine sq rfl (do_assign ck) ?_
    refine wnil ?_
    refine hK6 _ _ ?_
    clear hK6
    refine wp_ret ?_
    refine thenR ?_
    exact hF _ hit 
  refine wp_skip ?_
  refine hK3 _ _ ?_
  clear hK3
  simp at h1
  refine wp_seq_k (fun K7 hK7 => ?_)
  refine reg ?_
  refine sq rfl (do_move (tm rfl c5_11)) ?_
  refine sq rfl (do_move (tm rfl (nx rfl c5_1))) ?_
  refine sq rfl (do_len Try.underlying22 (tm rfl hit)) ?_
  refine sq rfl (do_addM (tm rfl (nx rfl (nx rfl hit))) (tm rfl hit) (by omega)) ?_
  refine sq rfl (do_assign (tm rfl hit)) ?_
  refine cutL ?_
  intro τ8 e8
  have c8_1 := (congrFun e8 1).trans (nx rfl (nx rfl (nx rfl (nx rfl (nx rfl c5_1)))))
  have c8_2 := (congrFun e8 2).trans (nx rfl (nx rfl (nx rfl (nx rfl (nx rfl c5_2)))))
  have c8_3 := (congrFun e8 3).trans (nx rfl (nx rfl (nx rfl (nx rfl (nx rfl c5_3)))))
  have c8_4 := (congrFun e8 4).trans (nx rfl (nx rfl (nx rfl (nx rfl (nx rfl c5_4)))))
  have c8_10 := (congrFun e8 10).trans (nx rfl (nx rfl (nx rfl (nx rfl (nx rfl c5_10)))))
  have c8_11 := (congrFun e8 11).trans hit
  clear e8
  refine wnil ?_
  refine hK7 _ _ ?_
  clear hK7
  refine wp_seq_k (fun K9 hK9 => ?_)
  refine wp_seq_k (fun K10 hK10 => ?_)
  refine reg ?_
  refine sq rfl (do_move (tm rfl c8_11)) ?_
  refine sq rfl (do_gtr (tm rfl hit) ck) ?_
  refine wnil ?_
  refine hK10 _ _ ?_
  clear hK10
  refine cB rfl hit (fun h2 => ?_) (fun h2 => ?_)
  · refine wp_seq_k (fun K11 hK11 => ?_)
    refine reg ?_
    refine sq rfl (do_assign ck) ?_
    refine wnil ?_
    refine hK11 _ _ ?_
    clear hK11
    refine wp_ret ?_
    refine thenR ?_
    exact hF _ hit 
  refine wp_skip ?_
  refine hK9 _ _ ?_
  clear hK9
  simp at h2
  refine wp_seq_k (fun K12 hK12 => ?_)
  refine wp_seq_k (fun K13 hK13 => ?_)
  refine reg ?_
  refine sq rfl (do_move (tm rfl (nx rfl (nx rfl c8_2)))) ?_
  refine sq rfl (do_len Try.underlying22 (tm rfl hit)) ?_
  refine sq rfl (do_gtr (tm rfl hit) ck) ?_
  refine cutL ?_
  intro τ14 e14
  have c14_1 := (congrFun e14 1).trans (nx rfl (nx rfl (nx rfl (nx rfl (nx rfl c8_1)))))
  have c14_2 := (congrFun e14 2).trans (nx rfl (nx rfl (nx rfl (nx rfl (nx rfl c8_2)))))
  have c14_3 := (congrFun e14 3).trans (nx rfl (nx rfl (nx rfl (nx rfl (nx rfl c8_3)))))
  have c14_4 := (congrFun e14 4).trans (nx rfl (nx rfl (nx rfl (nx rfl (nx rfl c8_4)))))
  have c14_10 := (congrFun e14 10).trans (nx rfl (nx rfl (nx rfl (nx rfl (nx rfl c8_10)))))
  have c14_11 := (congrFun e14 11).trans (nx rfl (nx rfl (nx rfl (nx rfl (nx rfl c8_11)))))
  have c14_23 := (congrFun e14 23).trans hit
  clear e14
  refine wnil ?_
  refine hK13 _ _ ?_
  clear hK13
  refine cB rfl c14_23 (fun h3 => ?_) (fun h3 => ?_)
  · refine wp_seq_k (fun K15 hK15 => ?_)
    refine reg ?_
    refine sq rfl (do_assign ck) ?_
    refine wnil ?_
    refine hK15 _ _ ?_
    clear hK15
    refine wp_ret ?_
    refine thenR ?_
    exact hF _ hit 
  refine wp_skip ?_
  refine hK12 _ _ ?_
  clear hK12
  simp at h3
  refine wp_seq_k (fun K16 hK16 => ?_)
  refine reg ?_
  refine sq rfl (do_move (tm rfl c14_11)) ?_
  refine sq rfl (do_move (tm rfl (nx rfl c14_2))) ?_
  refine sq rfl (do_len Try.underlying22 (tm rfl hit)) ?_
  refine sq rfl (do_addM (tm rfl (nx rfl (nx rfl hit))) (tm rfl hit) (by omega)) ?_
  refine sq rfl (do_assign (tm rfl hit)) ?_
  refine cutL ?_
  intro τ17 e17
  have c17_1 := (congrFun e17 1).trans (nx rfl (nx rfl (nx rfl (nx rfl (nx rfl c14_1)))))
  have c17_2 := (congrFun e17 2).trans (nx rfl (nx rfl (nx rfl (nx rfl (nx rfl c14_2)))))
  have c17_3 := (congrFun e17 3).trans (nx rfl (nx rfl (nx rfl (nx rfl (nx rfl c14_3)))))
  have c17_4 := (congrFun e17 4).trans (nx rfl (nx rfl (nx rfl (nx rfl (nx rfl c14_4)))))
  have c17_10 := (congrFun e17 10).trans (nx rfl (nx rfl (nx rfl (nx rfl (nx rfl c14_10)))))
  have c17_11 := (congrFun e17 11).trans hit
  clear e17
  refine wnil ?_
  refine hK16 _ _ ?_
  clear hK16
  refine wp_seq_k (fun K18 hK18 => ?_)
  refine wp_seq_k (fun K19 hK19 => ?_)
  refine reg ?_
  refine sq rfl (do_move (tm rfl c17_11)) ?_
  refine sq rfl (do_gtr (tm rfl hit) ck) ?_
  refine wnil ?_
  refine hK19 _ _ ?_
  clear hK19
  refine cB rfl hit (fun h4 => ?_) (fun h4 => ?_)
  · refine wp_seq_k (fun K20 hK20 => ?_)
    refine reg ?_
    refine sq rfl (do_assign ck) ?_
    refine wnil ?_
    refine hK20 _ _ ?_
    clear hK20
    refine wp_ret ?_
    refine thenR ?_
    exact hF _ hit 
  refine wp_skip ?_
  refine hK18 _ _ ?_
  clear hK18
  simp at h4
  refine wp_seq_k (fun K21 hK21 => ?_)
  refine wp_seq_k (fun K22 hK22 => ?_)
  refine reg ?_
  refine sq rfl (do_move (tm rfl (nx rfl (nx rfl c17_3)))) ?_
  refine sq rfl (do_len Try.underlying23 (tm rfl hit)) ?_
  refine sq rfl (do_gtr (tm rfl hit) ck) ?_
  refine cutL ?_
  intro τ23 e23
  have c23_1 := (congrFun e23 1).trans (nx rfl (nx rfl (nx rfl (nx rfl (nx rfl c17_1)))))
  have c23_2 := (congrFun e23 2).trans (nx rfl (nx rfl (nx rfl (nx rfl (nx rfl c17_2)))))
  have c23_3 := (congrFun e23 3).trans (nx rfl (nx rfl (nx rfl (nx rfl (nx rfl c17_3)))))
  have c23_4 := (congrFun e23 4).trans (nx rfl (nx rfl (nx rfl (nx rfl (nx rfl c17_4)))))
  have c23_10 := (congrFun e23 10).trans (nx rfl (nx rfl (nx rfl (nx rfl (nx rfl c17_10)))))
  have c23_11 := (congrFun e23 11).trans (nx rfl (nx rfl (nx rfl (nx rfl (nx rfl c17_11)))))
  have c23_32 := (congrFun e23 32).trans hit
  clear e23
  refine wnil ?_
  refine hK22 _ _ ?_
  clear hK22
  refine cB rfl c23_32 (fun h5 => ?_) (fun h5 => ?_)
  · refine wp_seq_k (fun K24 hK24 => ?_)
    refine reg ?_
    refine sq rfl (do_assign ck) ?_
    refine wnil ?_
    refine hK24 _ _ ?_
    clear hK24
    refine wp_ret ?_
    refine thenR ?_
    exact hF _ hit 
  refine wp_skip ?_
  refine hK21 _ _ ?_
  clear hK21
  simp at h5
  refine wp_seq_k (fun K25 hK25 => ?_)
  refine reg ?_
  refine sq rfl (do_move (tm rfl c23_11)) ?_
  refine sq rfl (do_move (tm rfl (nx rfl c23_3))) ?_
  refine sq rfl (do_len Try.underlying23 (tm rfl hit)) ?_
  refine sq rfl (do_addM (tm rfl (nx rfl (nx rfl hit))) (tm rfl hit) (by omega)) ?_
  refine sq rfl (do_assign (tm rfl hit)) ?_
  refine cutL ?_
  intro τ26 e26
  have c26_1 := (congrFun e26 1).trans (nx rfl (nx rfl (nx rfl (nx rfl (nx rfl c23_1)))))
  have c26_2 := (congrFun e26 2).trans (nx rfl (nx rfl (nx rfl (nx rfl (nx rfl c23_2)))))
  have c26_3 := (congrFun e26 3).trans (nx rfl (nx rfl (nx rfl (nx rfl (nx rfl c23_3)))))
  have c26_4 := (congrFun e26 4).trans (nx rfl (nx rfl (nx rfl (nx rfl (nx rfl c23_4)))))
  have c26_10 := (congrFun e26 10).trans (nx rfl (nx rfl (nx rfl (nx rfl (nx rfl c23_10)))))
  have c26_11 := (congrFun e26 11).trans hit
  clear e26
  refine wnil ?_
  refine hK25 _ _ ?_
  clear hK25
  refine wp_seq_k (fun K27 hK27 => ?_)
  refine wp_seq_k (fun K28 hK28 => ?_)
  refine reg ?_
  refine sq rfl (do_move (tm rfl c26_11)) ?_
  refine sq rfl (do_gtr (tm rfl hit) ck) ?_
  refine wnil ?_
  refine hK28 _ _ ?_
  clear hK28
  refine cB rfl hit (fun h6 => ?_) (fun h6 => ?_)
  · refine wp_seq_k (fun K29 hK29 => ?_)
    refine reg ?_
    refine sq rfl (do_assign ck) ?_
    refine wnil ?_
    refine hK29 _ _ ?_
    clear hK29
    refine wp_ret ?_
    refine thenR ?_
    exact hF _ hit 
  refine wp_skip ?_
  refine hK27 _ _ ?_
  clear hK27
  simp at h6
  refine wp_seq_k (fun K30 hK30 => ?_)
  refine wp_seq_k (fun K31 hK31 => ?_)
  refine reg ?_
  refine sq rfl (do_move (tm rfl (nx rfl (nx rfl c26_4)))) ?_
  refine sq rfl (do_len Try.underlying22 (tm rfl hit)) ?_
  refine sq rfl (do_gtr (tm rfl hit) ck) ?_
  refine cutL ?_
  intro τ32 e32
  have c32_1 := (congrFun e32 1).trans (nx rfl (nx rfl (nx rfl (nx rfl (nx rfl c26_1)))))
  have c32_2 := (congrFun e32 2).trans (nx rfl (nx rfl (nx rfl (nx rfl (nx rfl c26_2)))))
  have c32_3 := (congrFun e32 3).trans (nx rfl (nx rfl (nx rfl (nx rfl (nx rfl c26_3)))))
  have c32_4 := (congrFun e32 4).trans (nx rfl (nx rfl (nx rfl (nx rfl (nx rfl c26_4)))))
  have c32_10 := (congrFun e32 10).trans (nx rfl (nx rfl (nx rfl (nx rfl (nx rfl c26_10)))))
  have c32_11 := (congrFun e32 11).trans (nx rfl (nx rfl (nx rfl (nx rfl (nx rfl c26_11)))))
  have c32_41 := (congrFun e32 41).trans hit
  clear e32
  refine wnil ?_
  refine hK31 _ _ ?_
  clear hK31
  refine cB rfl c32_41 (fun h7 => ?_) (fun h7 => ?_)
  · refine wp_seq_k (fun K33 hK33 => ?_)
    refine reg ?_
    refine sq rfl (do_assign ck) ?_
    refine wnil ?_
    refine hK33 _ _ ?_
    clear hK33
    refine wp_ret ?_
    refine thenR ?_
    exact hF _ hit 
  refine wp_skip ?_
  refine hK30 _ _ ?_
  clear hK30
  simp at h7
  refine wp_seq_k (fun K34 hK34 => ?_)
  refine reg ?_
  refine sq rfl (do_move (tm rfl c32_11)) ?_
  refine sq rfl (do_move (tm rfl (nx rfl c32_4))) ?_
  refine sq rfl (do_len Try.underlying22 (tm rfl hit)) ?_
  refine sq rfl (do_addM (tm rfl (nx rfl (nx rfl hit))) (tm rfl hit) (by omega)) ?_
  refine sq rfl (do_assign (tm rfl hit)) ?_
  refine cutL ?_
  intro τ35 e35
  have c35_1 := (congrFun e35 1).trans (nx rfl (nx rfl (nx rfl (nx rfl (nx rfl c32_1)))))
  have c35_2 := (congrFun e35 2).trans (nx rfl (nx rfl (nx rfl (nx rfl (nx rfl c32_2)))))
  have c35_3 := (congrFun e35 3).trans (nx rfl (nx rfl (nx rfl (nx rfl (nx rfl c32_3)))))
  have c35_4 := (congrFun e35 4).trans (nx rfl (nx rfl (nx rfl (nx rfl (nx rfl c32_4)))))
  have c35_10 := (congrFun e35 10).trans (nx rfl (nx rfl (nx rfl (nx rfl (nx rfl c32_10)))))
  have c35_11 := (congrFun e35 11).trans hit
  clear e35
  refine wnil ?_
  refine hK34 _ _ ?_
  clear hK34
  refine wp_seq_k (fun K36 hK36 => ?_)
  refine wp_seq_k (fun K37 hK37 => ?_)
  refine reg ?_
  refine sq rfl (do_move (tm rfl c35_11)) ?_
  refine sq rfl (do_gtr (tm rfl hit) ck) ?_
  refine wnil ?_
  refine hK37 _ _ ?_
  clear hK37
  refine cB rfl hit (fun h8 => ?_) (fun h8 => ?_)
  · refine wp_seq_k (fun K38 hK38 => ?_)
    refine reg ?_
    refine sq rfl (do_assign ck) ?_
    refine wnil ?_
    refine hK38 _ _ ?_
    clear hK38
    refine wp_ret ?_
    refine thenR ?_
    exact hF _ hit 
  refine wp_skip ?_
  refine hK36 _ _ ?_
  clear hK36
  simp at h8
  refine wp_seq_k (fun K39 hK39 => ?_)
  refine reg ?_
  refine sq rfl (do_assign ck) ?_
  refine wnil ?_
  refine hK39 _ _ ?_
  clear hK39
  refine wp_ret ?_
  rw [← hQ]
  exact ret1 rfl rfl hit ⟨true, rfl, rfl, fun _ => ⟨by omega, by omega, by omega, by omega⟩⟩

theorem bytes23 (w : World) (n : Int) (a1 a2 a3 a4 : Option Addr) (n1 n2 n3 n4 c1 c2 c3 c4 : Nat) :
    Calls Try.prog 23 #[.int .i64 n, .slice a1 n1 c1, .slice a2 n2 c2, .slice a3 n3 c3, .slice a4 n4 c4] w fun e w' => ∃ b, e = .returned (.bool b) ∧ w' = w ∧ (b = true → n1 ≤ 1048576 ∧ n2 ≤ 1048576 ∧ n3 ≤ 1048576 ∧ n4 ≤ 1048576) := by
  refine enter (args := [.int .i64 n, .slice a1 n1 c1, .slice a2 n2 c2, .slice a3 n3 c3, .slice a4 n4 c4]) Try.func23 rfl Try.ntmps23 rfl ?_
  generalize hQ : bodyPost Try.prog Try.f23 _ = Q
  have hF : ∀ τ, τ 10 = .bool false → Q .ret (Fr 48 τ) w := by
    intro τ h
    rw [← hQ]
    exact ret1 rfl rfl h ⟨false, rfl, rfl, fun h => by cases h⟩
  have s1 : frame0 [Value.int .i64 n, .slice a1 n1 c1, .slice a2 n2 c2, .slice a3 n3 c3, .slice a4 n4 c4] 1 = .slice a1 n1 c1 := rfl
  have s2 : frame0 [Value.int .i64 n, .slice a1 n1 c1, .slice a2 n2 c2, .slice a3 n3 c3, .slice a4 n4 c4] 2 = .slice a2 n2 c2 := rfl
  have s3 : frame0 [Value.int .i64 n, .slice a1 n1 c1, .slice a2 n2 c2, .slice a3 n3 c3, .slice a4 n4 c4] 3 = .slice a3 n3 c3 := rfl
  have s4 : frame0 [Value.int .i64 n, .slice a1 n1 c1, .slice a2 n2 c2, .slice a3 n3 c3, .slice a4 n4 c4] 4 = .slice a4 n4 c4 := rfl
  generalize frame0 [Value.int .i64 n, .slice a1 n1 c1, .slice a2 n2 c2, .slice a3 n3 c3, .slice a4 n4 c4] = σ at *
  refine wp_seq_k (fun K40 hK40 => ?_)
  refine reg ?_
  refine sq rfl (do_assign ck) ?_
  refine wnil ?_
  refine hK40 _ _ ?_
  clear hK40
  refine wp_seq_k (fun K41 hK41 => ?_)
  refine reg ?_
  refine sq rfl (do_assign (v := .int .i64 ((0 : Nat) : Int)) rfl) ?_
  refine wnil ?_
  refine hK41 _ _ ?_
  clear hK41
  refine wp_seq_k (fun K42 hK42 => ?_)
  refine wp_seq_k (fun K43 hK43 => ?_)
  refine reg ?_
  refine sq rfl (do_move (tm rfl (nx rfl (nx rfl s1)))) ?_
  refine sq rfl (do_len Try.underlying22 (tm rfl hit)) ?_
  refine sq rfl (do_gtr (tm rfl hit) ck) ?_
  refine cutL ?_
  intro τ44 e44
  have c44_1 := (congrFun e44 1).trans (nx rfl (nx rfl (nx rfl (nx rfl (nx rfl s1)))))
  have c44_2 := (congrFun e44 2).trans (nx rfl (nx rfl (nx rfl (nx rfl (nx rfl s2)))))
  have c44_3 := (congrFun e44 3).trans (nx rfl (nx rfl (nx rfl (nx rfl (nx rfl s3)))))
  have c44_4 := (congrFun e44 4).trans (nx rfl (nx rfl (nx rfl (nx rfl (nx rfl s4)))))
  have c44_10 := (congrFun e44 10).trans (nx rfl (nx rfl (nx rfl (nx rfl hit))))
  have c44_11 := (congrFun e44 11).trans (nx rfl (nx rfl (nx rfl hit)))
  have c44_14 := (congrFun e44 14).trans hit
  clear e44
  refine wnil ?_
  refine hK43 _ _ ?_
  clear hK43
  refine cB rfl c44_14 (fun h1 => ?_) (fun h1 => ?_)
  · refine wp_seq_k (fun K45 hK45 => ?_)
    refine reg ?_
    refine sq rfl (do_assign ck) ?_
    refine wnil ?_
    refine hK45 _ _ ?_
    clear hK45
    refine wp_ret ?_
    refine thenR ?_
    exact hF _ hit 
  refine wp_skip ?_
  refine hK42 _ _ ?_
  clear hK42
  simp at h1
  refine wp_seq_k (fun K46 hK46 => ?_)
  refine reg ?_
  refine sq rfl (do_move (tm rfl c44_11)) ?_
  refine sq rfl (do_move (tm rfl (nx rfl c44_1))) ?_
  refine sq rfl (do_len Try.underlying22 (tm rfl hit)) ?_
  refine sq rfl (do_addM (tm rfl (nx rfl (nx rfl hit))) (tm rfl hit) (by omega)) ?_
  refine sq rfl (do_assign (tm rfl hit)) ?_
  refine cutL ?_
  intro τ47 e47
  have c47_1 := (congrFun e47 1).trans (nx rfl (nx rfl (nx rfl (nx rfl (nx rfl c44_1)))))
  have c47_2 := (congrFun e47 2).trans (nx rfl (nx rfl (nx rfl (nx rfl (nx rfl c44_2)))))
  have c47_3 := (congrFun e47 3).trans (nx rfl (nx rfl (nx rfl (nx rfl (nx rfl c44_3)))))
  have c47_4 := (congrFun e47 4).trans (nx rfl (nx rfl (nx rfl (nx rfl (nx rfl c44_4)))))
  have c47_10 := (congrFun e47 10).trans (nx rfl (nx rfl (nx rfl (nx rfl (nx rfl c44_10)))))
  have c47_11 := (congrFun e47 11).trans hit
  clear e47
  refine wnil ?_
  refine hK46 _ _ ?_
  clear hK46
  refine wp_seq_k (fun K48 hK48 => ?_)
  refine wp_seq_k (fun K49 hK49 => ?_)
  refine reg ?_
  refine sq rfl (do_move (tm rfl c47_11)) ?_
  refine sq rfl (do_gtr (tm rfl hit) ck) ?_
  refine wnil ?_
  refine hK49 _ _ ?_
  clear hK49
  refine cB rfl hit (fun h2 => ?_) (fun h2 => ?_)
  · refine wp_seq_k (fun K50 hK50 => ?_)
    refine reg ?_
    refine sq rfl (do_assign ck) ?_
    refine wnil ?_
    refine hK50 _ _ ?_
    clear hK50
    refine wp_ret ?_
    refine thenR ?_
    exact hF _ hit 
  refine wp_skip ?_
  refine hK48 _ _ ?_
  clear hK48
  simp at h2
  refine wp_seq_k (fun K51 hK51 => ?_)
  refine wp_seq_k (fun K52 hK52 => ?_)
  refine reg ?_
  refine sq rfl (do_move (tm rfl (nx rfl (nx rfl c47_2)))) ?_
  refine sq rfl (do_len Try.underlying22 (tm rfl hit)) ?_
  refine sq rfl (do_gtr (tm rfl hit) ck) ?_
  refine cutL ?_
  intro τ53 e53
  have c53_1 := (congrFun e53 1).trans (nx rfl (nx rfl (nx rfl (nx rfl (nx rfl c47_1)))))
  have c53_2 := (congrFun e53 2).trans (nx rfl (nx rfl (nx rfl (nx rfl (nx rfl c47_2)))))
  have c53_3 := (congrFun e53 3).trans (nx rfl (nx rfl (nx rfl (nx rfl (nx rfl c47_3)))))
  have c53_4 := (congrFun e53 4).trans (nx rfl (nx rfl (nx rfl (nx rfl (nx rfl c47_4)))))
  have c53_10 := (congrFun e53 10).trans (nx rfl (nx rfl (nx rfl (nx rfl (nx rfl c47_10)))))
  have c53_11 := (congrFun e53 11).trans (nx rfl (nx rfl (nx rfl (nx rfl (nx rfl c47_11)))))
  have c53_23 := (congrFun e53 23).trans hit
  clear e53
  refine wnil ?_
  refine hK52 _ _ ?_
  clear hK52
  refine cB rfl c53_23 (fun h3 => ?_) (fun h3 => ?_)
  · refine wp_seq_k (fun K54 hK54 => ?_)
    refine reg ?_
    refine sq rfl (do_assign ck) ?_
    refine wnil ?_
    refine hK54 _ _ ?_
    clear hK54
    refine wp_ret ?_
    refine thenR ?_
    exact hF _ hit 
  refine wp_skip ?_
  refine hK51 _ _ ?_
  clear hK51
  simp at h3
  refine wp_seq_k (fun K55 hK55 => ?_)
  refine reg ?_
  refine sq rfl (do_move (tm rfl c53_11)) ?_
  refine sq rfl (do_move (tm rfl (nx rfl c53_2))) ?_
  refine sq rfl (do_len Try.underlying22 (tm rfl hit)) ?_
  refine sq rfl (do_addM (tm rfl (nx rfl (nx rfl hit))) (tm rfl hit) (by omega)) ?_
  refine sq rfl (do_assign (tm rfl hit)) ?_
  refine cutL ?_
  intro τ56 e56
  have c56_1 := (congrFun e56 1).trans (nx rfl (nx rfl (nx rfl (nx rfl (nx rfl c53_1)))))
  have c56_2 := (congrFun e56 2).trans (nx rfl (nx rfl (nx rfl (nx rfl (nx rfl c53_2)))))
  have c56_3 := (congrFun e56 3).trans (nx rfl (nx rfl (nx rfl (nx rfl (nx rfl c53_3)))))
  have c56_4 := (congrFun e56 4).trans (nx rfl (nx rfl (nx rfl (nx rfl (nx rfl c53_4)))))
  have c56_10 := (congrFun e56 10).trans (nx rfl (nx rfl (nx rfl (nx rfl (nx rfl c53_10)))))
  have c56_11 := (congrFun e56 11).trans hit
  clear e56
  refine wnil ?_
  refine hK55 _ _ ?_
  clear hK55
  refine wp_seq_k (fun K57 hK57 => ?_)
  refine wp_seq_k (fun K58 hK58 => ?_)
  refine reg ?_
  refine sq rfl (do_move (tm rfl c56_11)) ?_
  refine sq rfl (do_gtr (tm rfl hit) ck) ?_
  refine wnil ?_
  refine hK58 _ _ ?_
  clear hK58
  refine cB rfl hit (fun h4 => ?_) (fun h4 => ?_)
  · refine wp_seq_k (fun K59 hK59 => ?_)
    refine reg ?_
    refine sq rfl (do_assign ck) ?_
    refine wnil ?_
    refine hK59 _ _ ?_
    clear hK59
    refine wp_ret ?_
    refine thenR ?_
    exact hF _ hit 
  refine wp_skip ?_
  refine hK57 _ _ ?_
  clear hK57
  simp at h4
  refine wp_seq_k (fun K60 hK60 => ?_)
  refine wp_seq_k (fun K61 hK61 => ?_)
  refine reg ?_
  refine sq rfl (do_move (tm rfl (nx rfl (nx rfl c56_3)))) ?_
  refine sq rfl (do_len Try.underlying23 (tm rfl hit)) ?_
  refine sq rfl (do_gtr (tm rfl hit) ck) ?_
  refine cutL ?_
  intro τ62 e62
  have c62_1 := (congrFun e62 1).trans (nx rfl (nx rfl (nx rfl (nx rfl (nx rfl c56_1)))))
  have c62_2 := (congrFun e62 2).trans (nx rfl (nx rfl (nx rfl (nx rfl (nx rfl c56_2)))))
  have c62_3 := (congrFun e62 3).trans (nx rfl (nx rfl (nx rfl (nx rfl (nx rfl c56_3)))))
  have c62_4 := (congrFun e62 4).trans (nx rfl (nx rfl (nx rfl (nx rfl (nx rfl c56_4)))))
  have c62_10 := (congrFun e62 10).trans (nx rfl (nx rfl (nx rfl (nx rfl (nx rfl c56_10)))))
  have c62_11 := (congrFun e62 11).trans (nx rfl (nx rfl (nx rfl (nx rfl (nx rfl c56_11)))))
  have c62_32 := (congrFun e62 32).trans hit
  clear e62
  refine wnil ?_
  refine hK61 _ _ ?_
  clear hK61
  refine cB rfl c62_32 (fun h5 => ?_) (fun h5 => ?_)
  · refine wp_seq_k (fun K63 hK63 => ?_)
    refine reg ?_
    refine sq rfl (do_assign ck) ?_
    refine wnil ?_
    refine hK63 _ _ ?_
    clear hK63
    refine wp_ret ?_
    refine thenR ?_
    exact hF _ hit 
  refine wp_skip ?_
  refine hK60 _ _ ?_
  clear hK60
  simp at h5
  refine wp_seq_k (fun K64 hK64 => ?_)
  refine reg ?_
  refine sq rfl (do_move (tm rfl c62_11)) ?_
  refine sq rfl (do_move (tm rfl (nx rfl c62_3))) ?_
  refine sq rfl (do_len Try.underlying23 (tm rfl hit)) ?_
  refine sq rfl (do_addM (tm rfl (nx rfl (nx rfl hit))) (tm rfl hit) (by omega)) ?_
  refine sq rfl (do_assign (tm rfl hit)) ?_
  refine cutL ?_
  intro τ65 e65
  have c65_1 := (congrFun e65 1).trans (nx rfl (nx rfl (nx rfl (nx rfl (nx rfl c62_1)))))
  have c65_2 := (congrFun e65 2).trans (nx rfl (nx rfl (nx rfl (nx rfl (nx rfl c62_2)))))
  have c65_3 := (congrFun e65 3).trans (nx rfl (nx rfl (nx rfl (nx rfl (nx rfl c62_3)))))
  have c65_4 := (congrFun e65 4).trans (nx rfl (nx rfl (nx rfl (nx rfl (nx rfl c62_4)))))
  have c65_10 := (congrFun e65 10).trans (nx rfl (nx rfl (nx rfl (nx rfl (nx rfl c62_10)))))
  have c65_11 := (congrFun e65 11).trans hit
  clear e65
  refine wnil ?_
  refine hK64 _ _ ?_
  clear hK64
  refine wp_seq_k (fun K66 hK66 => ?_)
  refine wp_seq_k (fun K67 hK67 => ?_)
  refine reg ?_
  refine sq rfl (do_move (tm rfl c65_11)) ?_
  refine sq rfl (do_gtr (tm rfl hit) ck) ?_
  refine wnil ?_
  refine hK67 _ _ ?_
  clear hK67
  refine cB rfl hit (fun h6 => ?_) (fun h6 => ?_)
  · refine wp_seq_k (fun K68 hK68 => ?_)
    refine reg ?_
    refine sq rfl (do_assign ck) ?_
    refine wnil ?_
    refine hK68 _ _ ?_
    clear hK68
    refine wp_ret ?_
    refine thenR ?_
    exact hF _ hit 
  refine wp_skip ?_
  refine hK66 _ _ ?_
  clear hK66
  simp at h6
  refine wp_seq_k (fun K69 hK69 => ?_)
  refine wp_seq_k (fun K70 hK70 => ?_)
  refine reg ?_
  refine sq rfl (do_move (tm rfl (nx rfl (nx rfl c65_4)))) ?_
  refine sq rfl (do_len Try.underlying22 (tm rfl hit)) ?_
  refine sq rfl (do_gtr (tm rfl hit) ck) ?_
  refine cutL ?_
  intro τ71 e71
  have c71_1 := (congrFun e71 1).trans (nx rfl (nx rfl (nx rfl (nx rfl (nx rfl c65_1)))))
  have c71_2 := (congrFun e71 2).trans (nx rfl (nx rfl (nx rfl (nx rfl (nx rfl c65_2)))))
  have c71_3 := (congrFun e71 3).trans (nx rfl (nx rfl (nx rfl (nx rfl (nx rfl c65_3)))))
  have c71_4 := (congrFun e71 4).trans (nx rfl (nx rfl (nx rfl (nx rfl (nx rfl c65_4)))))
  have c71_10 := (congrFun e71 10).trans (nx rfl (nx rfl (nx rfl (nx rfl (nx rfl c65_10)))))
  have c71_11 := (congrFun e71 11).trans (nx rfl (nx rfl (nx rfl (nx rfl (nx rfl c65_11)))))
  have c71_41 := (congrFun e71 41).trans hit
  clear e71
  refine wnil ?_
  refine hK70 _ _ ?_
  clear hK70
  refine cB rfl c71_41 (fun h7 => ?_) (fun h7 => ?_)
  · refine wp_seq_k (fun K72 hK72 => ?_)
    refine reg ?_
    refine sq rfl (do_assign ck) ?_
    refine wnil ?_
    refine hK72 _ _ ?_
    clear hK72
    refine wp_ret ?_
    refine thenR ?_
    exact hF _ hit 
  refine wp_skip ?_
  refine hK69 _ _ ?_
  clear hK69
  simp at h7
  refine wp_seq_k (fun K73 hK73 => ?_)
  refine reg ?_
  refine sq rfl (do_move (tm rfl c71_11)) ?_
  refine sq rfl (do_move (tm rfl (nx rfl c71_4))) ?_
  refine sq rfl (do_len Try.underlying22 (tm rfl hit)) ?_
  refine sq rfl (do_addM (tm rfl (nx rfl (nx rfl hit))) (tm rfl hit) (by omega)) ?_
  refine sq rfl (do_assign (tm rfl hit)) ?_
  refine cutL ?_
  intro τ74 e74
  have c74_1 := (congrFun e74 1).trans (nx rfl (nx rfl (nx rfl (nx rfl (nx rfl c71_1)))))
  have c74_2 := (congrFun e74 2).trans (nx rfl (nx rfl (nx rfl (nx rfl (nx rfl c71_2)))))
  have c74_3 := (congrFun e74 3).trans (nx rfl (nx rfl (nx rfl (nx rfl (nx rfl c71_3)))))
  have c74_4 := (congrFun e74 4).trans (nx rfl (nx rfl (nx rfl (nx rfl (nx rfl c71_4)))))
  have c74_10 := (congrFun e74 10).trans (nx rfl (nx rfl (nx rfl (nx rfl (nx rfl c71_10)))))
  have c74_11 := (congrFun e74 11).trans hit
  clear e74
  refine wnil ?_
  refine hK73 _ _ ?_
  clear hK73
  refine wp_seq_k (fun K75 hK75 => ?_)
  refine wp_seq_k (fun K76 hK76 => ?_)
  refine reg ?_
  refine sq rfl (do_move (tm rfl c74_11)) ?_
  refine sq rfl (do_gtr (tm rfl hit) ck) ?_
  refine wnil ?_
  refine hK76 _ _ ?_
  clear hK76
  refine cB rfl hit (fun h8 => ?_) (fun h8 => ?_)
  · refine wp_seq_k (fun K77 hK77 => ?_)
    refine reg ?_
    refine sq rfl (do_assign ck) ?_
    refine wnil ?_
    refine hK77 _ _ ?_
    clear hK77
    refine wp_ret ?_
    refine thenR ?_
    exact hF _ hit 
  refine wp_skip ?_
  refine hK75 _ _ ?_
  clear hK75
  simp at h8
  refine wp_seq_k (fun K78 hK78 => ?_)
  refine reg ?_
  refine sq rfl (do_assign ck) ?_
  refine wnil ?_
  refine hK78 _ _ ?_
  clear hK78
  refine wp_ret ?_
  rw [← hQ]
  exact ret1 rfl rfl hit ⟨true, rfl, rfl, fun _ => ⟨by omega, by omega, by omega, by omega⟩⟩

theorem bytes24 (w : World) (n : Int) (a1 a2 a3 a4 : Option Addr) (n1 n2 n3 n4 c1 c2 c3 c4 : Nat) (ct : Int) :
    Calls Try.prog 24 #[.int .i64 n, .slice a1 n1 c1, .slice a2 n2 c2, .slice a3 n3 c3, .slice a4 n4 c4, .int .i64 ct] w fun e w' => ∃ b, e = .returned (.bool b) ∧ w' = w ∧ (b = true → n1 ≤ 1048576 ∧ n2 ≤ 1048576 ∧ n3 ≤ 1048576 ∧ n4 ≤ 1048576) := by
  refine enter (args := [.int .i64 n, .slice a1 n1 c1, .slice a2 n2 c2, .slice a3 n3 c3, .slice a4 n4 c4, .int .i64 ct]) Try.func24 rfl Try.ntmps24 rfl ?_
  generalize hQ : bodyPost Try.prog Try.f24 _ = Q
  have hF : ∀ τ, τ 12 = .bool false → Q .ret (Fr 50 τ) w := by
    intro τ h
    rw [← hQ]
    exact ret1 rfl rfl h ⟨false, rfl, rfl, fun h => by cases h⟩
  have s1 : frame0 [Value.int .i64 n, .slice a1 n1 c1, .slice a2 n2 c2, .slice a3 n3 c3, .slice a4 n4 c4, .int .i64 ct] 1 = .slice a1 n1 c1 := rfl
  have s2 : frame0 [Value.int .i64 n, .slice a1 n1 c1, .slice a2 n2 c2, .slice a3 n3 c3, .slice a4 n4 c4, .int .i64 ct] 2 = .slice a2 n2 c2 := rfl
  have s3 : frame0 [Value.int .i64 n, .slice a1 n1 c1, .slice a2 n2 c2, .slice a3 n3 c3, .slice a4 n4 c4, .int .i64 ct] 3 = .slice a3 n3 c3 := rfl
  have s4 : frame0 [Value.int .i64 n, .slice a1 n1 c1, .slice a2 n2 c2, .slice a3 n3 c3, .slice a4 n4 c4, .int .i64 ct] 4 = .slice a4 n4 c4 := rfl
  generalize frame0 [Value.int .i64 n, .slice a1 n1 c1, .slice a2 n2 c2, .slice a3 n3 c3, .slice a4 n4 c4, .int .i64 ct] = σ at *
  refine wp_seq_k (fun K79 hK79 => ?_)
  refine reg ?_
  refine sq rfl (do_assign ck) ?_
  refine wnil ?_
  refine hK79 _ _ ?_
  clear hK79
  refine wp_seq_k (fun K80 hK80 => ?_)
  refine reg ?_
  refine sq rfl (do_assign (v := .int .i64 ((0 : Nat) : Int)) rfl) ?_
  refine wnil ?_
  refine hK80 _ _ ?_
  clear hK80
  refine wp_seq_k (fun K81 hK81 => ?_)
  refine wp_seq_k (fun K82 hK82 => ?_)
  refine reg ?_
  refine sq rfl (do_move (tm rfl (nx rfl (nx rfl s1)))) ?_
  refine sq rfl (do_len Try.underlying22 (tm rfl hit)) ?_
  refine sq rfl (do_gtr (tm rfl hit) ck) ?_
  refine cutL ?_
  intro τ83 e83
  have c83_1 := (congrFun e83 1).trans (nx rfl (nx rfl (nx rfl (nx rfl (nx rfl s1)))))
  have c83_2 := (congrFun e83 2).trans (nx rfl (nx rfl (nx rfl (nx rfl (nx rfl s2)))))
  have c83_3 := (congrFun e83 3).trans (nx rfl (nx rfl (nx rfl (nx rfl (nx rfl s3)))))
  have c83_4 := (congrFun e83 4).trans (nx rfl (nx rfl (nx rfl (nx rfl (nx rfl s4)))))
  have c83_12 := (congrFun e83 12).trans (nx rfl (nx rfl (nx rfl (nx rfl hit))))
  have c83_13 := (congrFun e83 13).trans (nx rfl (nx rfl (nx rfl hit)))
  have c83_16 := (congrFun e83 16).trans hit
  clear e83
  refine wnil ?_
  refine hK82 _ _ ?_
  clear hK82
  refine cB rfl c83_16 (fun h1 => ?_) (fun h1 => ?_)
  · refine wp_seq_k (fun K84 hK84 => ?_)
    refine reg ?_
    refine sq rfl (do_assign ck) ?_
    refine wnil ?_
    refine hK84 _ _ ?_
    clear hK84
    refine wp_ret ?_
    refine thenR ?_
    exact hF _ hit 
  refine wp_skip ?_
  refine hK81 _ _ ?_
  clear hK81
  simp at h1
  refine wp_seq_k (fun K85 hK85 => ?_)
  refine reg ?_
  refine sq rfl (do_move (tm rfl c83_13)) ?_
  refine sq rfl (do_move (tm rfl (nx rfl c83_1))) ?_
  refine sq rfl (do_len Try.underlying22 (tm rfl hit)) ?_
  refine sq rfl (do_addM (tm rfl (nx rfl (nx rfl hit))) (tm rfl hit) (by omega)) ?_
  refine sq rfl (do_assign (tm rfl hit)) ?_
  refine cutL ?_
  intro τ86 e86
  have c86_1 := (congrFun e86 1).trans (nx rfl (nx rfl (nx rfl (nx rfl (nx rfl c83_1)))))
  have c86_2 := (congrFun e86 2).trans (nx rfl (nx rfl (nx rfl (nx rfl (nx rfl c83_2)))))
  have c86_3 := (congrFun e86 3).trans (nx rfl (nx rfl (nx rfl (nx rfl (nx rfl c83_3)))))
  have c86_4 := (congrFun e86 4).trans (nx rfl (nx rfl (nx rfl (nx rfl (nx rfl c83_4)))))
  have c86_12 := (congrFun e86 12).trans (nx rfl (nx rfl (nx rfl (nx rfl (nx rfl c83_12)))))
  have c86_13 := (congrFun e86 13).trans hit
  clear e86
  refine wnil ?_
  refine hK85 _ _ ?_
  clear hK85
  refine wp_seq_k (fun K87 hK87 => ?_)
  refine wp_seq_k (fun K88 hK88 => ?_)
  refine reg ?_
  refine sq rfl (do_move (tm rfl c86_13)) ?_
  refine sq rfl (do_gtr (tm rfl hit) ck) ?_
  refine wnil ?_
  refine hK88 _ _ ?_
  clear hK88
  refine cB rfl hit (fun h2 => ?_) (fun h2 => ?_)
  · refine wp_seq_k (fun K89 hK89 => ?_)
    refine reg ?_
    refine sq rfl (do_assign ck) ?_
    refine wnil ?_
    refine hK89 _ _ ?_
    clear hK89
    refine wp_ret ?_
    refine thenR ?_
    exact hF _ hit 
  refine wp_skip ?_
  refine hK87 _ _ ?_
  clear hK87
  simp at h2
  refine wp_seq_k (fun K90 hK90 => ?_)
  refine wp_seq_k (fun K91 hK91 => ?_)
  refine reg ?_
  refine sq rfl (do_move (tm rfl (nx rfl (nx rfl c86_2)))) ?_
  refine sq rfl (do_len Try.underlying22 (tm rfl hit)) ?_
  refine sq rfl (do_gtr (tm rfl hit) ck) ?_
  refine cutL ?_
  intro τ92 e92
  have c92_1 := (congrFun e92 1).trans (nx rfl (nx rfl (nx rfl (nx rfl (nx rfl c86_1)))))
  have c92_2 := (congrFun e92 2).trans (nx rfl (nx rfl (nx rfl (nx rfl (nx rfl c86_2)))))
  have c92_3 := (congrFun e92 3).trans (nx rfl (nx rfl (nx rfl (nx rfl (nx rfl c86_3)))))
  have c92_4 := (congrFun e92 4).trans (nx rfl (nx rfl (nx rfl (nx rfl (nx rfl c86_4)))))
  have c92_12 := (congrFun e92 12).trans (nx rfl (nx rfl (nx rfl (nx rfl (nx rfl c86_12)))))
  have c92_13 := (congrFun e92 13).trans (nx rfl (nx rfl (nx rfl (nx rfl (nx rfl c86_13)))))
  have c92_25 := (congrFun e92 25).trans hit
  clear e92
  refine wnil ?_
  refine hK91 _ _ ?_
  clear hK91
  refine cB rfl c92_25 (fun h3 => ?_) (fun h3 => ?_)
  · refine wp_seq_k (fun K93 hK93 => ?_)
    refine reg ?_
    refine sq rfl (do_assign ck) ?_
    refine wnil ?_
    refine hK93 _ _ ?_
    clear hK93
    refine wp_ret ?_
    refine thenR ?_
    exact hF _ hit 
  refine wp_skip ?_
  refine hK90 _ _ ?_
  clear hK90
  simp at h3
  refine wp_seq_k (fun K94 hK94 => ?_)
  refine reg ?_
  refine sq rfl (do_move (tm rfl c92_13)) ?_
  refine sq rfl (do_move (tm rfl (nx rfl c92_2))) ?_
  refine sq rfl (do_len Try.underlying22 (tm rfl hit)) ?_
  refine sq rfl (do_addM (tm rfl (nx rfl (nx rfl hit))) (tm rfl hit) (by omega)) ?_
  refine sq rfl (do_assign (tm rfl hit)) ?_
  refine cutL ?_
  intro τ95 e95
  have c95_1 := (congrFun e95 1).trans (nx rfl (nx rfl (nx rfl (nx rfl (nx rfl c92_1)))))
  have c95_2 := (congrFun e95 2).trans (nx rfl (nx rfl (nx rfl (nx rfl (nx rfl c92_2)))))
  have c95_3 := (congrFun e95 3).trans (nx rfl (nx rfl (nx rfl (nx rfl (nx rfl c92_3)))))
  have c95_4 := (congrFun e95 4).trans (nx rfl (nx rfl (nx rfl (nx rfl (nx rfl c92_4)))))
  have c95_12 := (congrFun e95 12).trans (nx rfl (nx rfl (nx rfl (nx rfl (nx rfl c92_12)))))
  have c95_13 := (congrFun e95 13).trans hit
  clear e95
  refine wnil ?_
  refine hK94 _ _ ?_
  clear hK94
  refine wp_seq_k (fun K96 hK96 => ?_)
  refine wp_seq_k (fun K97 hK97 => ?_)
  refine reg ?_
  refine sq rfl (do_move (tm rfl c95_13)) ?_
  refine sq rfl (do_gtr (tm rfl hit) ck) ?_
  refine wnil ?_
  refine hK97 _ _ ?_
  clear hK97
  refine cB rfl hit (fun h4 => ?_) (fun h4 => ?_)
  · refine wp_seq_k (fun K98 hK98 => ?_)
    refine reg ?_
    refine sq rfl (do_assign ck) ?_
    refine wnil ?_
    refine hK98 _ _ ?_
    clear hK98
    refine wp_ret ?_
    refine thenR ?_
    exact hF _ hit 
  refine wp_skip ?_
  refine hK96 _ _ ?_
  clear hK96
  simp at h4
  refine wp_seq_k (fun K99 hK99 => ?_)
  refine wp_seq_k (fun K100 hK100 => ?_)
  refine reg ?_
  refine sq rfl (do_move (tm rfl (nx rfl (nx rfl c95_3)))) ?_
  refine sq rfl (do_len Try.underlying23 (tm rfl hit)) ?_
  refine sq rfl (do_gtr (tm rfl hit) ck) ?_
  refine cutL ?_
  intro τ101 e101
  have c101_1 := (congrFun e101 1).trans (nx rfl (nx rfl (nx rfl (nx rfl (nx rfl c95_1)))))
  have c101_2 := (congrFun e101 2).trans (nx rfl (nx rfl (nx rfl (nx rfl (nx rfl c95_2)))))
  have c101_3 := (congrFun e101 3).trans (nx rfl (nx rfl (nx rfl (nx rfl (nx rfl c95_3)))))
  have c101_4 := (congrFun e101 4).trans (nx rfl (nx rfl (nx rfl (nx rfl (nx rfl c95_4)))))
  have c101_12 := (congrFun e101 12).trans (nx rfl (nx rfl (nx rfl (nx rfl (nx rfl c95_12)))))
  have c101_13 := (congrFun e101 13).trans (nx rfl (nx rfl (nx rfl (nx rfl (nx rfl c95_13)))))
  have c101_34 := (congrFun e101 34).trans hit
  clear e101
  refine wnil ?_
  refine hK100 _ _ ?_
  clear hK100
  refine cB rfl c101_34 (fun h5 => ?_) (fun h5 => ?_)
  · refine wp_seq_k (fun K102 hK102 => ?_)
    refine reg ?_
    refine sq rfl (do_assign ck) ?_
    refine wnil ?_
    refine hK102 _ _ ?_
    clear hK102
    refine wp_ret ?_
    refine thenR ?_
    exact hF _ hit 
  refine wp_skip ?_
  refine hK99 _ _ ?_
  clear hK99
  simp at h5
  refine wp_seq_k (fun K103 hK103 => ?_)
  refine reg ?_
  refine sq rfl (do_move (tm rfl c101_13)) ?_
  refine sq rfl (do_move (tm rfl (nx rfl c101_3))) ?_
  refine sq rfl (do_len Try.underlying23 (tm rfl hit)) ?_
  refine sq rfl (do_addM (tm rfl (nx rfl (nx rfl hit))) (tm rfl hit) (by omega)) ?_
  refine sq rfl (do_assign (tm rfl hit)) ?_
  refine cutL ?_
  intro τ104 e104
  have c104_1 := (congrFun e104 1).trans (nx rfl (nx rfl (nx rfl (nx rfl (nx rfl c101_1)))))
  have c104_2 := (congrFun e104 2).trans (nx rfl (nx rfl (nx rfl (nx rfl (nx rfl c101_2)))))
  have c104_3 := (congrFun e104 3).trans (nx rfl (nx rfl (nx rfl (nx rfl (nx rfl c101_3)))))
  have c104_4 := (congrFun e104 4).trans (nx rfl (nx rfl (nx rfl (nx rfl (nx rfl c101_4)))))
  have c104_12 := (congrFun e104 12).trans (nx rfl (nx rfl (nx rfl (nx rfl (nx rfl c101_12)))))
  have c104_13 := (congrFun e104 13).trans hit
  clear e104
  refine wnil ?_
  refine hK103 _ _ ?_
  clear hK103
  refine wp_seq_k (fun K105 hK105 => ?_)
  refine wp_seq_k (fun K106 hK106 => ?_)
  refine reg ?_
  refine sq rfl (do_move (tm rfl c104_13)) ?_
  refine sq rfl (do_gtr (tm rfl hit) ck) ?_
  refine wnil ?_
  refine hK106 _ _ ?_
  clear hK106
  refine cB rfl hit (fun h6 => ?_) (fun h6 => ?_)
  · refine wp_seq_k (fun K107 hK107 => ?_)
    refine reg ?_
    refine sq rfl (do_assign ck) ?_
    refine wnil ?_
    refine hK107 _ _ ?_
    clear hK107
    refine wp_ret ?_
    refine thenR ?_
    exact hF _ hit 
  refine wp_skip ?_
  refine hK105 _ _ ?_
  clear hK105
  simp at h6
  refine wp_seq_k (fun K108 hK108 => ?_)
  refine wp_seq_k (fun K109 hK109 => ?_)
  refine reg ?_
  refine sq rfl (do_move (tm rfl (nx rfl (nx rfl c104_4)))) ?_
  refine sq rfl (do_len Try.underlying22 (tm rfl hit)) ?_
  refine sq rfl (do_gtr (tm rfl hit) ck) ?_
  refine cutL ?_
  intro τ110 e110
  have c110_1 := (congrFun e110 1).trans (nx rfl (nx rfl (nx rfl (nx rfl (nx rfl c104_1)))))
  have c110_2 := (congrFun e110 2).trans (nx rfl (nx rfl (nx rfl (nx rfl (nx rfl c104_2)))))
  have c110_3 := (congrFun e110 3).trans (nx rfl (nx rfl (nx rfl (nx rfl (nx rfl c104_3)))))
  have c110_4 := (congrFun e110 4).trans (nx rfl (nx rfl (nx rfl (nx rfl (nx rfl c104_4)))))
  have c110_12 := (congrFun e110 12).trans (nx rfl (nx rfl (nx rfl (nx rfl (nx rfl c104_12)))))
  have c110_13 := (congrFun e110 13).trans (nx rfl (nx rfl (nx rfl (nx rfl (nx rfl c104_13)))))
  have c110_43 := (congrFun e110 43).trans hit
  clear e110
  refine wnil ?_
  refine hK109 _ _ ?_
  clear hK109
  refine cB rfl c110_43 (fun h7 => ?_) (fun h7 => ?_)
  · refine wp_seq_k (fun K111 hK111 => ?_)
    refine reg ?_
    refine sq rfl (do_assign ck) ?_
    refine wnil ?_
    refine hK111 _ _ ?_
    clear hK111
    refine wp_ret ?_
    refine thenR ?_
    exact hF _ hit 
  refine wp_skip ?_
  refine hK108 _ _ ?_
  clear hK108
  simp at h7
  refine wp_seq_k (fun K112 hK112 => ?_)
  refine reg ?_
  refine sq rfl (do_move (tm rfl c110_13)) ?_
  refine sq rfl (do_move (tm rfl (nx rfl c110_4))) ?_
  refine sq rfl (do_len Try.underlying22 (tm rfl hit)) ?_
  refine sq rfl (do_addM (tm rfl (nx rfl (nx rfl hit))) (tm rfl hit) (by omega)) ?_
  refine sq rfl (do_assign (tm rfl hit)) ?_
  refine cutL ?_
  intro τ113 e113
  have c113_1 := (congrFun e113 1).trans (nx rfl (nx rfl (nx rfl (nx rfl (nx rfl c110_1)))))
  have c113_2 := (congrFun e113 2).trans (nx rfl (nx rfl (nx rfl (nx rfl (nx rfl c110_2)))))
  have c113_3 := (congrFun e113 3).trans (nx rfl (nx rfl (nx rfl (nx rfl (nx rfl c110_3)))))
  have c113_4 := (congrFun e113 4).trans (nx rfl (nx rfl (nx rfl (nx rfl (nx rfl c110_4)))))
  have c113_12 := (congrFun e113 12).trans (nx rfl (nx rfl (nx rfl (nx rfl (nx rfl c110_12)))))
  have c113_13 := (congrFun e113 13).trans hit
  clear e113
  refine wnil ?_
  refine hK112 _ _ ?_
  clear hK112
  refine wp_seq_k (fun K114 hK114 => ?_)
  refine wp_seq_k (fun K115 hK115 => ?_)
  refine reg ?_
  refine sq rfl (do_move (tm rfl c113_13)) ?_
  refine sq rfl (do_gtr (tm rfl hit) ck) ?_
  refine wnil ?_
  refine hK115 _ _ ?_
  clear hK115
  refine cB rfl hit (fun h8 => ?_) (fun h8 => ?_)
  · refine wp_seq_k (fun K116 hK116 => ?_)
    refine reg ?_
    refine sq rfl (do_assign ck) ?_
    refine wnil ?_
    refine hK116 _ _ ?_
    clear hK116
    refine wp_ret ?_
    refine thenR ?_
    exact hF _ hit 
  refine wp_skip ?_
  refine hK114 _ _ ?_
  clear hK114
  simp at h8
  refine wp_seq_k (fun K117 hK117 => ?_)
  refine reg ?_
  refine sq rfl (do_assign ck) ?_
  refine wnil ?_
  refine hK117 _ _ ?_
  clear hK117
  refine wp_ret ?_
  rw [← hQ]
  exact ret1 rfl rfl hit ⟨true, rfl, rfl, fun _ => ⟨by omega, by omega, by omega, by omega⟩⟩

theorem clone10 (w : World) (v : Value) (zs : List Int) (hv : IntR w v zs) (hl : zs.length ≤ 1048576) :
    Calls Try.prog 10 #[v] w fun e w' => ∃ v', e = .returned v' ∧ IntR w' v' zs ∧ Below w.heap.size w w' := by
  obtain ⟨a, c, rfl, hc⟩ := hv
  cases a with
  | none =>
    have h0 : zs = [] := by
      cases zs with
      | nil => rfl
      | cons r rs => obtain ⟨b, o, h, _⟩ := hc 0 (by simp); cases h
    subst h0
    refine enter (args := [.slice none 0 c]) Try.func10 rfl Try.ntmps10 rfl ?_
    have s0 : frame0 [Value.slice none 0 c] 0 = .slice none 0 c := rfl
    generalize frame0 [Value.slice none 0 c] = σ at *
    refine wp_seq_k (fun K118 hK118 => ?_)
    refine reg ?_
    refine sq rfl (do_assign ck) ?_
    refine wnil ?_
    refine hK118 _ _ ?_
    clear hK118
    refine wp_seq_k (fun K119 hK119 => ?_)
    refine wp_seq_k (fun K120 hK120 => ?_)
    refine reg ?_
    refine sq rfl (do_move (tm rfl (nx rfl s0))) ?_
    refine sq rfl (do_nilS Try.underlying22 (tm rfl hit) ck) ?_
    refine wnil ?_
    refine hK120 _ _ ?_
    clear hK120
    refine cT rfl hit rfl ?_
    refine wp_seq_k (fun K121 hK121 => ?_)
    refine reg ?_
    refine sq rfl (do_assign ck) ?_
    refine cutL ?_
    intro τ122 e122
    have c122_0 := (congrFun e122 0).trans (nx rfl (nx rfl (nx rfl (nx rfl s0))))
    have c122_2 := (congrFun e122 2).trans hit
    clear e122
    refine wnil ?_
    refine hK121 _ _ ?_
    clear hK121
    refine wp_ret ?_
    refine thenR ?_
    exact ret1 rfl rfl c122_2 ⟨_, rfl, ⟨none, 0, rfl, fun i hi => by simp at hi⟩, Below.refl _ _⟩
  | some q =>
    refine enter (args := [.slice (some q) zs.length c]) Try.func10 rfl Try.ntmps10 rfl ?_
    generalize hQ : bodyPost Try.prog Try.f10 _ = Q
    have s0 : frame0 [Value.slice (some q) zs.length c] 0 = .slice (some q) zs.length c := rfl
    generalize frame0 [Value.slice (some q) zs.length c] = σ at *
    refine wp_seq_k (fun K123 hK123 => ?_)
    refine reg ?_
    refine sq rfl (do_assign ck) ?_
    refine wnil ?_
    refine hK123 _ _ ?_
    clear hK123
    refine wp_seq_k (fun K124 hK124 => ?_)
    refine wp_seq_k (fun K125 hK125 => ?_)
    refine reg ?_
    refine sq rfl (do_move (tm rfl (nx rfl s0))) ?_
    refine sq rfl (do_nilS Try.underlying22 (tm rfl hit) ck) ?_
    refine wnil ?_
    refine hK125 _ _ ?_
    clear hK125
    refine cF rfl hit rfl ?_
    refine wp_skip ?_
    refine hK124 _ _ ?_
    clear hK124
    refine wp_seq_k (fun K126 hK126 => ?_)
    refine reg ?_
    refine sq rfl (do_move (tm rfl (nx rfl (nx rfl (nx rfl s0))))) ?_
    refine sq rfl (do_len Try.underlying22 (tm rfl hit)) ?_
    refine sq rfl (mk22 (tm rfl hit) (tm rfl hit) (by omega)) ?_
    refine sq rfl (do_assign (tm rfl hit)) ?_
    refine cutL ?_
    intro τ127 e127
    have c127_0 := (congrFun e127 0).trans (nx rfl (nx rfl (nx rfl (nx rfl (nx rfl (nx rfl (nx rfl s0)))))))
    have c127_2 := (congrFun e127 2).trans (nx rfl (nx rfl (nx rfl (nx rfl (nx rfl (nx rfl hit))))))
    have c127_3 := (congrFun e127 3).trans hit
    clear e127
    refine wnil ?_
    refine hK126 _ _ ?_
    clear hK126
    refine wp_seq_k (fun K128 hK128 => ?_)
    refine wp_seq_k (fun K129 hK129 => ?_)
    refine reg ?_
    refine sq rfl (do_assign (v := .int .i64 ((0 : Nat) : Int)) rfl) ?_
    refine wnil ?_
    refine hK129 _ _ ?_
    clear hK129
    refine forLoop (N := 24) (fun k τ wi => ∃ i, k = zs.length - i ∧ i ≤ zs.length ∧ τ 0 = .slice (some q) zs.length c ∧ τ 3 = .slice (some ⟨w.heap.size, 0, none⟩) zs.length zs.length ∧ τ 4 = .int .i64 (i : Int) ∧
        Blk wi w.heap.size 3 (ints (zs.take i) ++ List.replicate (zs.length - i) (Value.int .i64 0)) ∧ Below w.heap.size w wi)
      (fun τ wi => τ 3 = .slice (some ⟨w.heap.size, 0, none⟩) zs.length zs.length ∧ Blk wi w.heap.size 3 (ints zs) ∧ Below w.heap.size w wi) zs.length ?_ ?_ ?_
    · refine ⟨0, rfl, Nat.zero_le _, (nx rfl c127_0), (nx rfl c127_3), hit, ?_, (Below.refl _ _).alloc (Nat.le_refl _) _⟩
      have := Blk.new w (madeCells #[(.int .i64 0)] zs.length) 3
      rw [made_list] at this
      simpa [ints] using this
    · clear s0
      rintro Q' k τ wi hnn hx hr ⟨i, rfl, hi, t0, t3, t4, hB, hbel⟩
      refine wp_seq_k (fun K130 hK130 => ?_)
      refine wp_seq_k (fun K131 hK131 => ?_)
      refine reg ?_
      refine sq rfl (do_move (tm rfl t4)) ?_
      refine sq rfl (do_move (tm rfl (nx rfl t0))) ?_
      refine sq rfl (do_len Try.underlying22 (tm rfl hit)) ?_
      refine sq rfl (do_lss (tm rfl (nx rfl (nx rfl hit))) (tm rfl hit)) ?_
      refine cutL ?_
      intro τ132 e132
      have c132_0 := (congrFun e132 0).trans (nx rfl (nx rfl (nx rfl (nx rfl t0))))
      have c132_3 := (congrFun e132 3).trans (nx rfl (nx rfl (nx rfl (nx rfl t3))))
      have c132_4 := (congrFun e132 4).trans (nx rfl (nx rfl (nx rfl (nx rfl t4))))
      have c132_13 := (congrFun e132 13).trans hit
      clear e132
      refine wnil ?_
      refine hK131 _ _ ?_
      clear hK131
      by_cases h : i < zs.length
      · refine cT rfl c132_13 (by simpa using h) ?_
        refine wp_skip ?_
        refine hK130 _ _ ?_
        clear hK130
        obtain ⟨b, o, e, hcc⟩ := hc i h
        cases e
        rw [← hbel.cell (World.block_lt_of_cell? w _ hcc)] at hcc
        have hfl : (ints (zs.take i)).length = i := by rw [ints_length, List.length_take]; omega
        have hcell : (ints (zs.take i) ++ List.replicate (zs.length - i) (Value.int .i64 0))[i]? = some (.int .i64 0) := by
          rw [List.getElem?_append_right (by omega), hfl, Nat.sub_self, List.getElem?_replicate, if_pos (by omega)]
        have hset : (ints (zs.take i) ++ List.replicate (zs.length - i) (Value.int .i64 0)).set i (.int .i64 zs[i]) = ints (zs.take (i + 1)) ++ List.replicate (zs.length - (i + 1)) (Value.int .i64 0) := by
          rw [List.set_append_right _ _ (by omega), hfl, Nat.sub_self, ints, ints, List.take_succ_eq_append_getElem h, List.map_append]
          rw [show zs.length - i = (zs.length - (i + 1)) + 1 by omega, List.replicate_succ, List.set_cons_zero]
          simp
        refine wp_seq_k (fun K133 hK133 => ?_)
        refine wp_block ?_
        refine reg ?_
        refine sq rfl (do_move (tm rfl c132_3)) ?_
        refine sq rfl (do_move (tm rfl (nx rfl c132_4))) ?_
        refine sq rfl (do_move (tm rfl (nx rfl (nx rfl c132_0)))) ?_
        refine sq rfl (do_move (tm rfl (nx rfl (nx rfl (nx rfl c132_4))))) ?_
        refine sq rfl (io22 (tm rfl (nx rfl hit)) (tm rfl hit) (by omega)) ?_
        refine sq rfl (do_load T3 rfl (tm rfl hit) hcc) ?_
        refine sq rfl (ix22 (tm rfl (nx rfl (nx rfl (nx rfl (nx rfl (nx rfl hit)))))) (tm rfl (nx rfl (nx rfl (nx rfl (nx rfl hit))))) (by omega)) ?_
        refine sqn (do_store T3 (tm rfl hit) (tm rfl (nx rfl hit)) rfl (hB.cell hcell) (hB.frozen _)) ?_
        refine cutW ?_
        intro τ134 e134 w2 hw2
        have c134_0 := (congrFun e134 0).trans (nx rfl (nx rfl (nx rfl (nx rfl (nx rfl (nx rfl (nx rfl c132_0)))))))
        have c134_3 := (congrFun e134 3).trans (nx rfl (nx rfl (nx rfl (nx rfl (nx rfl (nx rfl (nx rfl c132_3)))))))
        have c134_4 := (congrFun e134 4).trans (nx rfl (nx rfl (nx rfl (nx rfl (nx rfl (nx rfl (nx rfl c132_4)))))))
        clear e134
        refine wnil ?_
        refine inBN ?_
        refine hK133 _ _ ?_
        clear hK133
        refine reg ?_
        refine sq rfl (do_move (tm rfl c134_4)) ?_
        refine sq rfl (do_inc (tm rfl hit) ck (by omega)) ?_
        refine sq rfl (do_assign (tm rfl hit)) ?_
        refine wnil ?_
        refine hnn (zs.length - (i + 1)) _ _ (by omega) ⟨i + 1, rfl, by omega, (nx rfl (nx rfl (nx rfl c134_0))), (nx rfl (nx rfl (nx rfl c134_3))), hit, ?_, ?_⟩
        · rw [hw2, ← hset]; exact hB.set _ _
        · rw [hw2]; exact hbel.setCell (Nat.le_refl _) _
      · refine cF rfl c132_13 (by simpa using h) ?_
        refine wp_exit ?_
        refine thenE ?_
        obtain rfl : i = zs.length := by omega
        refine hx _ _ ⟨c132_3, ?_, hbel⟩
        simpa using hB
    clear s0
    rintro τ wi ⟨t3, hB, hbel⟩
    refine hK128 _ _ ?_
    clear hK128
    refine wp_seq_k (fun K135 hK135 => ?_)
    refine reg ?_
    refine sq rfl (do_move (tm rfl t3)) ?_
    refine sq rfl (do_assign (tm rfl hit)) ?_
    refine wnil ?_
    refine hK135 _ _ ?_
    clear hK135
    refine wp_ret ?_
    rw [← hQ]
    exact ret1 rfl rfl hit ⟨_, rfl, Blk.intR hB, hbel⟩

theorem clone11 (w : World) (v : Value) (zs : List Bool) (hv : BoolR w v zs) (hl : zs.length ≤ 1048576) :
    Calls Try.prog 11 #[v] w fun e w' => ∃ v', e = .returned v' ∧ BoolR w' v' zs ∧ Below w.heap.size w w' := by
  obtain ⟨a, c, rfl, hc⟩ := hv
  cases a with
  | none =>
    have h0 : zs = [] := by
      cases zs with
      | nil => rfl
      | cons r rs => obtain ⟨b, o, h, _⟩ := hc 0 (by simp); cases h
    subst h0
    refine enter (args := [.slice none 0 c]) Try.func11 rfl Try.ntmps11 rfl ?_
    have s0 : frame0 [Value.slice none 0 c] 0 = .slice none 0 c := rfl
    generalize frame0 [Value.slice none 0 c] = σ at *
    refine wp_seq_k (fun K136 hK136 => ?_)
    refine reg ?_
    refine sq rfl (do_assign ck) ?_
    refine wnil ?_
    refine hK136 _ _ ?_
    clear hK136
    refine wp_seq_k (fun K137 hK137 => ?_)
    refine wp_seq_k (fun K138 hK138 => ?_)
    refine reg ?_
    refine sq rfl (do_move (tm rfl (nx rfl s0))) ?_
    refine sq rfl (do_nilS Try.underlying23 (tm rfl hit) ck) ?_
    refine wnil ?_
    refine hK138 _ _ ?_
    clear hK138
    refine cT rfl hit rfl ?_
    refine wp_seq_k (fun K139 hK139 => ?_)
    refine reg ?_
    refine sq rfl (do_assign ck) ?_
    refine cutL ?_
    intro τ140 e140
    have c140_0 := (congrFun e140 0).trans (nx rfl (nx rfl (nx rfl (nx rfl s0))))
    have c140_2 := (congrFun e140 2).trans hit
    clear e140
    refine wnil ?_
    refine hK139 _ _ ?_
    clear hK139
    refine wp_ret ?_
    refine thenR ?_
    exact ret1 rfl rfl c140_2 ⟨_, rfl, ⟨none, 0, rfl, fun i hi => by simp at hi⟩, Below.refl _ _⟩
  | some q =>
    refine enter (args := [.slice (some q) zs.length c]) Try.func11 rfl Try.ntmps11 rfl ?_
    generalize hQ : bodyPost Try.prog Try.f11 _ = Q
    have s0 : frame0 [Value.slice (some q) zs.length c] 0 = .slice (some q) zs.length c := rfl
    generalize frame0 [Value.slice (some q) zs.length c] = σ at *
    refine wp_seq_k (fun K141 hK141 => ?_)
    refine reg ?_
    refine sq rfl (do_assign ck) ?_
    refine wnil ?_
    refine hK141 _ _ ?_
    clear hK141
    refine wp_seq_k (fun K142 hK142 => ?_)
    refine wp_seq_k (fun K143 hK143 => ?_)
    refine reg ?_
    refine sq rfl (do_move (tm rfl (nx rfl s0))) ?_
    refine sq rfl (do_nilS Try.underlying23 (tm rfl hit) ck) ?_
    refine wnil ?_
    refine hK143 _ _ ?_
    clear hK143
    refine cF rfl hit rfl ?_
    refine wp_skip ?_
    refine hK142 _ _ ?_
    clear hK142
    refine wp_seq_k (fun K144 hK144 => ?_)
    refine reg ?_
    refine sq rfl (do_move (tm rfl (nx rfl (nx rfl (nx rfl s0))))) ?_
    refine sq rfl (do_len Try.underlying23 (tm rfl hit)) ?_
    refine sq rfl (mk23 (tm rfl hit) (tm rfl hit) (by omega)) ?_
    refine sq rfl (do_assign (tm rfl hit)) ?_
    refine cutL ?_
    intro τ145 e145
    have c145_0 := (congrFun e145 0).trans (nx rfl (nx rfl (nx rfl (nx rfl (nx rfl (nx rfl (nx rfl s0)))))))
    have c145_2 := (congrFun e145 2).trans (nx rfl (nx rfl (nx rfl (nx rfl (nx rfl (nx rfl hit))))))
    have c145_3 := (congrFun e145 3).trans hit
    clear e145
    refine wnil ?_
    refine hK144 _ _ ?_
    clear hK144
    refine wp_seq_k (fun K146 hK146 => ?_)
    refine wp_seq_k (fun K147 hK147 => ?_)
    refine reg ?_
    refine sq rfl (do_assign (v := .int .i64 ((0 : Nat) : Int)) rfl) ?_
    refine wnil ?_
    refine hK147 _ _ ?_
    clear hK147
    refine forLoop (N := 24) (fun k τ wi => ∃ i, k = zs.length - i ∧ i ≤ zs.length ∧ τ 0 = .slice (some q) zs.length c ∧ τ 3 = .slice (some ⟨w.heap.size, 0, none⟩) zs.length zs.length ∧ τ 4 = .int .i64 (i : Int) ∧
        Blk wi w.heap.size 4 (bools (zs.take i) ++ List.replicate (zs.length - i) (Value.bool false)) ∧ Below w.heap.size w wi)
      (fun τ wi => τ 3 = .slice (some ⟨w.heap.size, 0, none⟩) zs.length zs.length ∧ Blk wi w.heap.size 4 (bools zs) ∧ Below w.heap.size w wi) zs.length ?_ ?_ ?_
    · refine ⟨0, rfl, Nat.zero_le _, (nx rfl c145_0), (nx rfl c145_3), hit, ?_, (Below.refl _ _).alloc (Nat.le_refl _) _⟩
      have := Blk.new w (madeCells #[(.bool false)] zs.length) 4
      rw [made_list] at this
      simpa [bools] using this
    · clear s0
      rintro Q' k τ wi hnn hx hr ⟨i, rfl, hi, t0, t3, t4, hB, hbel⟩
      refine wp_seq_k (fun K148 hK148 => ?_)
      refine wp_seq_k (fun K149 hK149 => ?_)
      refine reg ?_
      refine sq rfl (do_move (tm rfl t4)) ?_
      refine sq rfl (do_move (tm rfl (nx rfl t0))) ?_
      refine sq rfl (do_len Try.underlying23 (tm rfl hit)) ?_
      refine sq rfl (do_lss (tm rfl (nx rfl (nx rfl hit))) (tm rfl hit)) ?_
      refine cutL ?_
      intro τ150 e150
      have c150_0 := (congrFun e150 0).trans (nx rfl (nx rfl (nx rfl (nx rfl t0))))
      have c150_3 := (congrFun e150 3).trans (nx rfl (nx rfl (nx rfl (nx rfl t3))))
      have c150_4 := (congrFun e150 4).trans (nx rfl (nx rfl (nx rfl (nx rfl t4))))
      have c150_13 := (congrFun e150 13).trans hit
      clear e150
      refine wnil ?_
      refine hK149 _ _ ?_
      clear hK149
      by_cases h : i < zs.length
      · refine cT rfl c150_13 (by simpa using h) ?_
        refine wp_skip ?_
        refine hK148 _ _ ?_
        clear hK148
        obtain ⟨b, o, e, hcc⟩ := hc i h
        cases e
        rw [← hbel.cell (World.block_lt_of_cell? w _ hcc)] at hcc
        have hfl : (bools (zs.take i)).length = i := by rw [bools_length, List.length_take]; omega
        have hcell : (bools (zs.take i) ++ List.replicate (zs.length - i) (Value.bool false))[i]? = some (.bool false) := by
          rw [List.getElem?_append_right (by omega), hfl, Nat.sub_self, List.getElem?_replicate, if_pos (by omega)]
        have hset : (bools (zs.take i) ++ List.replicate (zs.length - i) (Value.bool false)).set i (.bool zs[i]) = bools (zs.take (i + 1)) ++ List.replicate (zs.length - (i + 1)) (Value.bool false) := by
          rw [List.set_append_right _ _ (by omega), hfl, Nat.sub_self, bools, bools, List.take_succ_eq_append_getElem h, List.map_append]
          rw [show zs.length - i = (zs.length - (i + 1)) + 1 by omega, List.replicate_succ, List.set_cons_zero]
          simp
        refine wp_seq_k (fun K151 hK151 => ?_)
        refine wp_block ?_
        refine reg ?_
        refine sq rfl (do_move (tm rfl c150_3)) ?_
        refine sq rfl (do_move (tm rfl (nx rfl c150_4))) ?_
        refine sq rfl (do_move (tm rfl (nx rfl (nx rfl c150_0)))) ?_
        refine sq rfl (do_move (tm rfl (nx rfl (nx rfl (nx rfl c150_4))))) ?_
        refine sq rfl (io23 (tm rfl (nx rfl hit)) (tm rfl hit) (by omega)) ?_
        refine sq rfl (do_load T4 rfl (tm rfl hit) hcc) ?_
        refine sq rfl (ix23 (tm rfl (nx rfl (nx rfl (nx rfl (nx rfl (nx rfl hit)))))) (tm rfl (nx rfl (nx rfl (nx rfl (nx rfl hit))))) (by omega)) ?_
        refine sqn (do_store T4 (tm rfl hit) (tm rfl (nx rfl hit)) rfl (hB.cell hcell) (hB.frozen _)) ?_
        refine cutW ?_
        intro τ152 e152 w2 hw2
        have c152_0 := (congrFun e152 0).trans (nx rfl (nx rfl (nx rfl (nx rfl (nx rfl (nx rfl (nx rfl c150_0)))))))
        have c152_3 := (congrFun e152 3).trans (nx rfl (nx rfl (nx rfl (nx rfl (nx rfl (nx rfl (nx rfl c150_3)))))))
        have c152_4 := (congrFun e152 4).trans (nx rfl (nx rfl (nx rfl (nx rfl (nx rfl (nx rfl (nx rfl c150_4)))))))
        clear e152
        refine wnil ?_
        refine inBN ?_
        refine hK151 _ _ ?_
        clear hK151
        refine reg ?_
        refine sq rfl (do_move (tm rfl c152_4)) ?_
        refine sq rfl (do_inc (tm rfl hit) ck (by omega)) ?_
        refine sq rfl (do_assign (tm rfl hit)) ?_
        refine wnil ?_
        refine hnn (zs.length - (i + 1)) _ _ (by omega) ⟨i + 1, rfl, by omega, (nx rfl (nx rfl (nx rfl c152_0))), (nx rfl (nx rfl (nx rfl c152_3))), hit, ?_, ?_⟩
        · rw [hw2, ← hset]; exact hB.set _ _
        · rw [hw2]; exact hbel.setCell (Nat.le_refl _) _
      · refine cF rfl c150_13 (by simpa using h) ?_
        refine wp_exit ?_
        refine thenE ?_
        obtain rfl : i = zs.length := by omega
        refine hx _ _ ⟨c150_3, ?_, hbel⟩
        simpa using hB
    clear s0
    rintro τ wi ⟨t3, hB, hbel⟩
    refine hK146 _ _ ?_
    clear hK146
    refine wp_seq_k (fun K153 hK153 => ?_)
    refine reg ?_
    refine sq rfl (do_move (tm rfl t3)) ?_
    refine sq rfl (do_assign (tm rfl hit)) ?_
    refine wnil ?_
    refine hK153 _ _ ?_
    clear hK153
    refine wp_ret ?_
    rw [← hQ]
    exact ret1 rfl rfl hit ⟨_, rfl, Blk.boolR hB, hbel⟩

end Go.Proofs.Qxb6001364a
