/-
  uvarintLen, makeRow.
-/
import Derived.Test.Qxb6000003aW8
import Derived.Test.Qxb6000003aSp
import Derived.Test.Qxb6000003aDl
namespace Go.Proofs.Qxb6000003a
open Go.Fra Go.RowKit
set_option maxRecDepth 100000
set_option linter.unusedVariables false

theorem nm33 : (Try.f33.name == "runtime.NumGoroutine") = false := by kernel_rfl
theorem bd33 : Try.f33.body.isNone = false := by kernel_rfl
theorem nm34 : (Try.f34.name == "runtime.NumGoroutine") = false := by kernel_rfl
theorem bd34 : Try.f34.body.isNone = false := by kernel_rfl
theorem nm35 : (Try.f35.name == "runtime.NumGoroutine") = false := by kernel_rfl
theorem bd35 : Try.f35.body.isNone = false := by kernel_rfl
theorem nm36 : (Try.f36.name == "runtime.NumGoroutine") = false := by kernel_rfl
theorem bd36 : Try.f36.body.isNone = false := by kernel_rfl
theorem nm37 : (Try.f37.name == "runtime.NumGoroutine") = false := by kernel_rfl
theorem bd37 : Try.f37.body.isNone = false := by kernel_rfl

theorem fdiv_nat (m n : Nat) : ((m : Int)).fdiv (2 ^ n) = ((m / 2 ^ n : Nat) : Int) := by
  rw [Int.fdiv_eq_ediv_of_nonneg _ (by exact Int.le_of_lt (Int.pow_pos (by omega)))]
  simp

theorem uvLen33 (w : World) (n : Nat) (hn : n ≤ 1048576) :
    Calls Try.prog 33 #[.int .i64 (n : Int)] w fun e w' => e = .returned (.int .i64 ((uv n).length : Int)) ∧ w' = w := by
  refine enter (args := [.int .i64 (n : Int)]) Try.func33 rfl Try.ntmps33 rfl ?_
  generalize hQ : bodyPost Try.prog Try.f33 _ = Q
  have s0 : frame0 [Value.int .i64 (n : Int)] 0 = .int .i64 (n : Int) := rfl
  generalize frame0 [Value.int .i64 (n : Int)] = σ at *
  have hle := uv_le n
  refine wp_seq_k (fun K1 hK1 => ?_)
  refine reg ?_
  refine sq rfl (do_assign (v := .int .i64 ((0 : Nat) : Int)) rfl) ?_
  refine wnil ?_
  refine hK1 _ _ ?_
  clear hK1
  refine wp_seq_k (fun K2 hK2 => ?_)
  refine reg ?_
  refine sq rfl (do_assign (v := .int .i64 ((1 : Nat) : Int)) rfl) ?_
  refine wnil ?_
  refine hK2 _ _ ?_
  clear hK2
  refine wp_seq_k (fun K3 hK3 => ?_)
  refine forLoop (N := 11) (fun k τ wi => w = wi ∧ ∃ c : Nat, k ≤ n ∧ c + (uv k).length = 1 + (uv n).length ∧ τ 0 = .int .i64 (k : Int) ∧ τ 3 = .int .i64 (c : Int))
    (fun τ wi => w = wi ∧ τ 3 = .int .i64 ((uv n).length : Int)) n ?_ ?_ ?_
  · exact ⟨rfl, 1, Nat.le_refl _, rfl, (nx rfl (nx rfl s0)), hit⟩
  · clear s0
    rintro Q' k τ wi hnn hx hr ⟨rfl, c, hk, hc, t0, t3⟩
    refine wp_seq_k (fun K4 hK4 => ?_)
    refine wp_seq_k (fun K5 hK5 => ?_)
    refine reg ?_
    refine sq rfl (do_move (tm rfl t0)) ?_
    refine sq rfl (do_geq (tm rfl hit) ck) ?_
    refine wnil ?_
    refine hK5 _ _ ?_
    clear hK5
    by_cases h : k < 128
    · refine cF rfl hit (by simp; omega) ?_
      refine wp_exit ?_
      refine thenE ?_
      rw [uv_small h] at hc
      simp at hc
      refine hx _ _ ⟨rfl, ?_⟩
      rw [show (uv n).length = c by omega]
      exact (nx rfl (nx rfl t3))
    · refine cT rfl hit (by simp; omega) ?_
      refine wp_skip ?_
      refine hK4 _ _ ?_
      clear hK4
      have hp := uv_pos k
      refine wp_seq_k (fun K6 hK6 => ?_)
      refine wp_block ?_
      refine reg ?_
      refine sq rfl (do_move (tm rfl (nx rfl (nx rfl t3)))) ?_
      refine sq rfl (do_inc (tm rfl hit) ck (by omega)) ?_
      refine sq rfl (do_assign (tm rfl hit)) ?_
      refine cutL ?_
      intro τ7 e7
      have c7_0 := (congrFun e7 0).trans (nx rfl (nx rfl (nx rfl (nx rfl (nx rfl t0)))))
      have c7_3 := (congrFun e7 3).trans hit
      clear e7
      refine wnil ?_
      refine inBN ?_
      refine hK6 _ _ ?_
      clear hK6
      refine reg ?_
      refine sq rfl (do_move (tm rfl c7_0)) ?_
      refine sq rfl (do_shr (n := 7) (tm rfl hit) ck (by decide) (fdiv_nat k 7)) ?_
      refine sq rfl (do_assign (tm rfl hit)) ?_
      refine wnil ?_
      rw [uv_big h, List.length_cons] at hc
      exact hnn (k / 128) _ _ (by omega) ⟨rfl, c + 1, by omega, by omega, hit, (nx rfl (nx rfl (nx rfl c7_3)))⟩
  clear s0
  rintro τ _ ⟨rfl, t3⟩
  refine hK3 _ _ ?_
  clear hK3
  refine wp_seq_k (fun K8 hK8 => ?_)
  refine reg ?_
  refine sq rfl (do_move (tm rfl t3)) ?_
  refine sq rfl (do_assign (tm rfl hit)) ?_
  refine wnil ?_
  refine hK8 _ _ ?_
  clear hK8
  refine wp_ret ?_
  rw [← hQ]
  exact ret1 rfl rfl hit ⟨rfl, rfl⟩

/-- The three cells of each field. -/
def FldCells (cs : List Value) (fs : List Fld) : Prop :=
  ∀ j (h : j < fs.length), cs[j * 3]? = some (.int .u8 (kd fs[j].1 : Int)) ∧ cs[j * 3 + 1]? = some (.int .i64 fs[j].2.1) ∧ cs[j * 3 + 2]? = some (.string fs[j].2.2)

set_option maxHeartbeats 400000 in
theorem makeRow30 (w : World) (key : ByteArray) (B c : Nat) (cs : List Value) (fs : List Fld) (hB : Blk w B 52 cs) (hcs : FldCells cs fs) (l0 : key.size ≤ 1048576) (l1 : fs.length ≤ 1048576) (l2 : ∀ f ∈ fs, f.2.2.size ≤ 1048576) :
    Calls Try.prog 30 #[.string key, .slice (some ⟨B, 0, none⟩) fs.length c] w fun e w' => e = .returned (.string ⟨(rowOf key fs).toArray⟩) ∧ Below w.heap.size w w' := by
  refine enter (args := [.string key, .slice (some ⟨B, 0, none⟩) fs.length c]) Try.func30 rfl Try.ntmps30 rfl ?_
  generalize hQ : bodyPost Try.prog Try.f30 _ = Q
  have s0 : frame0 [Value.string key, .slice (some ⟨B, 0, none⟩) fs.length c] 0 = .string key := rfl
  have s1 : frame0 [Value.string key, .slice (some ⟨B, 0, none⟩) fs.length c] 1 = .slice (some ⟨B, 0, none⟩) fs.length c := rfl
  generalize frame0 [Value.string key, .slice (some ⟨B, 0, none⟩) fs.length c] = σ at *
  have hBlt := hB.lt
  refine wp_seq_k (fun K9 hK9 => ?_)
  refine reg ?_
  refine sq rfl (do_assign ck) ?_
  refine wnil ?_
  refine hK9 _ _ ?_
  clear hK9
  refine wp_seq_k (fun K10 hK10 => ?_)
  refine reg ?_
  refine sq rfl (do_move (tm rfl (nx rfl s0))) ?_
  refine sq rfl (do_lenStr Try.underlying9 (tm rfl hit)) ?_
  refine sq rfl (do_assign (tm rfl hit)) ?_
  refine cutL ?_
  intro τ11 e11
  have c11_0 := (congrFun e11 0).trans (nx rfl (nx rfl (nx rfl (nx rfl s0))))
  have c11_1 := (congrFun e11 1).trans (nx rfl (nx rfl (nx rfl (nx rfl s1))))
  have c11_5 := (congrFun e11 5).trans hit
  clear e11
  refine wnil ?_
  refine hK10 _ _ ?_
  clear hK10
  refine wp_seq_k (fun K12 hK12 => ?_)
  refine wp_seq_k (fun K13 hK13 => ?_)
  refine reg ?_
  refine sq rfl (do_move (tm rfl c11_1)) ?_
  refine sq rfl (do_len Try.underlying49 (tm rfl hit)) ?_
  refine sq rfl (do_move (v := .int .i64 ((0 : Nat) : Int)) rfl) ?_
  refine wnil ?_
  refine hK13 _ _ ?_
  clear hK13
  refine forLoop (N := 84) (fun k τ wi => ∃ i z : Nat, k = fs.length - i ∧ i ≤ fs.length ∧ z ≤ 1048576 + i * 2097160 ∧ τ 0 = .string key ∧ τ 1 = .slice (some ⟨B, 0, none⟩) fs.length c ∧ τ 5 = .int .i64 (z : Int) ∧
      τ 15 = .slice (some ⟨B, 0, none⟩) fs.length c ∧ τ 16 = .int .i64 (fs.length : Int) ∧ τ 17 = .int .i64 (i : Int) ∧ Below w.heap.size w wi)
    (fun τ wi => ∃ z : Nat, z ≤ 281474976710656 ∧ τ 0 = .string key ∧ τ 1 = .slice (some ⟨B, 0, none⟩) fs.length c ∧ τ 5 = .int .i64 (z : Int) ∧ Below w.heap.size w wi) fs.length ?_ ?_ ?_
  · exact ⟨0, key.size, rfl, Nat.zero_le _, by omega, (nx rfl (nx rfl (nx rfl c11_0))), (nx rfl (nx rfl (nx rfl c11_1))), (nx rfl (nx rfl (nx rfl c11_5))), (nx rfl (nx rfl hit)), (nx rfl hit), hit, Below.refl _ _⟩
  · clear s0 s1
    rintro Q' k τ wi hnn hx hr ⟨i, z, rfl, hi, hz, t0, t1, t5, t15, t16, t17, hbi⟩
    refine wp_seq_k (fun K14 hK14 => ?_)
    refine reg ?_
    refine sq rfl (do_lss (tm rfl t17) (tm rfl t16)) ?_
    refine wnil ?_
    refine hK14 _ _ ?_
    clear hK14
    by_cases h : i < fs.length
    · refine wp_seq_k (fun K15 hK15 => ?_)
      refine cT rfl hit (by simpa using h) ?_
      refine wp_skip ?_
      refine hK15 _ _ ?_
      clear hK15
      have hBi : Blk wi B 52 cs := hB.of_eq (hbi.block B hBlt)
      obtain ⟨f0, f1, f2⟩ := hcs i h
      have hsz := l2 fs[i] (List.getElem_mem _)
      refine wp_seq_k (fun K16 hK16 => ?_)
      refine wp_block ?_
      refine wp_seq_k (fun K17 hK17 => ?_)
      refine reg ?_
      refine sq rfl (ix49 (tm rfl (nx rfl t15)) (tm rfl (nx rfl t17)) (by omega)) ?_
      refine sq rfl (do_load3 T52 fl52 (tm rfl hit) (hBi.cell f0) (hBi.cell f1) (hBi.cell f2)) ?_
      refine sq rfl (do_alloc T52) ?_
      have hN0 : Blk (wi.alloc (.cells (Value.cells (.agg #[.int .u8 0, .int .i64 0, .string ⟨#[]⟩])) 52)) wi.heap.size 52 [.int .u8 0, .int .i64 0, .string ⟨#[]⟩] := Blk.new wi _ 52
      refine sqn (do_store3 T52 (tm rfl hit) (tm rfl (nx rfl hit)) rfl rfl rfl (hN0.cell rfl) (hN0.cell rfl) (hN0.cell rfl) (hN0.frozen _) (hN0.frozen _) (hN0.frozen _)) ?_
      refine cutW ?_
      intro τ18 e18 w2 hw2
      have c18_0 := (congrFun e18 0).trans (nx rfl (nx rfl (nx rfl (nx rfl t0))))
      have c18_1 := (congrFun e18 1).trans (nx rfl (nx rfl (nx rfl (nx rfl t1))))
      have c18_5 := (congrFun e18 5).trans (nx rfl (nx rfl (nx rfl (nx rfl t5))))
      have c18_7 := (congrFun e18 7).trans hit
      have c18_15 := (congrFun e18 15).trans (nx rfl (nx rfl (nx rfl (nx rfl t15))))
      have c18_16 := (congrFun e18 16).trans (nx rfl (nx rfl (nx rfl (nx rfl t16))))
      have c18_17 := (congrFun e18 17).trans (nx rfl (nx rfl (nx rfl (nx rfl t17))))
      clear e18
      refine wnil ?_
      refine hK17 _ _ ?_
      clear hK17
      have hN : Blk w2 wi.heap.size 52 [.int .u8 (kd fs[i].1 : Int), .int .i64 fs[i].2.1, .string fs[i].2.2] := by
        rw [hw2]
        exact ((hN0.set 0 _).set 1 _).set 2 _
      have hb2 : Below w.heap.size w w2 := by
        rw [hw2]
        have := hbi.size
        exact (((hbi.alloc (by omega) _).setCell (by simpa using this) _).setCell (by simpa using this) _).setCell (by simpa using this) _
      clear hw2 hN0
      have N0 : w2.cell? ⟨wi.heap.size, 0 + 0, none⟩ = some (.int .u8 (kd fs[i].1 : Int)) := hN.cell (i := 0) rfl
      have N2 : w2.cell? ⟨wi.heap.size, 0 + 2, none⟩ = some (.string fs[i].2.2) := hN.cell (i := 2) rfl
      refine wp_seq_k (fun K19 hK19 => ?_)
      refine reg ?_
      refine sq rfl (fa52_0 (tm rfl c18_7)) ?_
      refine sq rfl (do_load T50 rfl (tm rfl hit) N0) ?_
      refine sq rfl (do_eqlK (tm rfl hit) ck (r := fs[i].1) (by cases fs[i].1 <;> rfl)) ?_
      refine wnil ?_
      refine hK19 _ _ ?_
      clear hK19
      by_cases hk : fs[i].1 = true
      · refine cT rfl hit hk ?_
        refine reg ?_
        refine sq rfl (do_move (tm rfl (nx rfl (nx rfl (nx rfl c18_5))))) ?_
        refine sq rfl (do_addM (b := 9) (tm rfl hit) ck (by omega)) ?_
        refine sq rfl (do_assign (tm rfl hit)) ?_
        refine cutL ?_
        intro τ20 e20
        have c20_0 := (congrFun e20 0).trans (nx rfl (nx rfl (nx rfl (nx rfl (nx rfl (nx rfl c18_0))))))
        have c20_1 := (congrFun e20 1).trans (nx rfl (nx rfl (nx rfl (nx rfl (nx rfl (nx rfl c18_1))))))
        have c20_5 := (congrFun e20 5).trans hit
        have c20_7 := (congrFun e20 7).trans (nx rfl (nx rfl (nx rfl (nx rfl (nx rfl (nx rfl c18_7))))))
        have c20_15 := (congrFun e20 15).trans (nx rfl (nx rfl (nx rfl (nx rfl (nx rfl (nx rfl c18_15))))))
        have c20_16 := (congrFun e20 16).trans (nx rfl (nx rfl (nx rfl (nx rfl (nx rfl (nx rfl c18_16))))))
        have c20_17 := (congrFun e20 17).trans (nx rfl (nx rfl (nx rfl (nx rfl (nx rfl (nx rfl c18_17))))))
        clear e20
        refine wnil ?_
        refine inBN ?_
        refine hK16 _ _ ?_
        clear hK16
        refine reg ?_
        refine sq rfl (do_inc (tm rfl c20_17) ck (by omega)) ?_
        refine sq rfl (do_move (tm rfl hit)) ?_
        refine wnil ?_
        exact hnn (fs.length - (i + 1)) _ _ (by omega) ⟨i + 1, z + 9, rfl, by omega, by omega, (nx rfl (nx rfl c20_0)), (nx rfl (nx rfl c20_1)), (nx rfl (nx rfl c20_5)), (nx rfl (nx rfl c20_15)), (nx rfl (nx rfl c20_16)), hit, hb2⟩
      · refine cF rfl hit (by simpa using hk) ?_
        have hule := uv_le fs[i].2.2.size
        have L2 : ∀ j, j ≤ 1 → (stg w2.drew [w2.drew] j).cell? ⟨wi.heap.size, 0 + 2, none⟩ = some (.string fs[i].2.2) := le1 (p := fun j => (stg w2.drew [w2.drew] j).cell? ⟨wi.heap.size, 0 + 2, none⟩ = some (.string fs[i].2.2)) N2 N2
        refine Late.draw mixed [4] [(0, 1), (0, 1), (0, 1), (0, 0), (0, 0), (1, 1), (0, 1), (0, 1), (0, 1), (0, 1), (0, 1), (1, 1)] 5 _ (nx rfl (nx rfl (nx rfl c18_5))) [w2.drew] (w2.drew) (upd (upd (upd (upd (upd (upd (upd (upd (upd (upd (upd (upd _ 26 _) 27 _) 28 _) 29 _) 30 _) 31 _) 32 _) 33 _) 34 _) 35 _) 36 _) 5 _) (by kernel_rfl) (fun s hs => ovr_off [(26, _), (27, _), (28, _), (29, _), (30, _), (31, _), (32, _), (33, _), (34, _), (35, _), (36, _), (5, _)] _ s hs) ⟨(Late.qa rfl (fun _ => (do_move (tm rfl hit))) (nx rfl (nx rfl (nx rfl (nx rfl (nx rfl (nx rfl (nx rfl (nx rfl (nx rfl (nx rfl (nx rfl hit)))))))))))), (Late.qa rfl (fun _ => (fa52_2 (tm rfl (nx rfl (nx rfl (nx rfl (nx rfl (nx rfl (nx rfl (nx rfl (nx rfl (nx rfl (nx rfl (nx rfl (nx rfl (nx rfl (nx rfl (nx rfl (nx rfl c18_7))))))))))))))))))) (nx rfl (nx rfl (nx rfl (nx rfl (nx rfl (nx rfl (nx rfl (nx rfl (nx rfl (nx rfl hit))))))))))), (Late.qr rfl (fun j h1 h2 => (do_load T9 rfl (tm rfl (nx rfl (nx rfl (nx rfl (nx rfl (nx rfl (nx rfl (nx rfl (nx rfl (nx rfl (nx rfl (nx rfl hit)))))))))))) (L2 j h2))) (nx rfl (nx rfl (nx rfl (nx rfl (nx rfl (nx rfl (nx rfl (nx rfl (nx rfl hit)))))))))), (Late.qa rfl (fun _ => (do_lenStr Try.underlying9 (tm rfl (nx rfl (nx rfl (nx rfl (nx rfl (nx rfl (nx rfl (nx rfl (nx rfl (nx rfl (nx rfl hit))))))))))))) (nx rfl (nx rfl (nx rfl (nx rfl (nx rfl (nx rfl (nx rfl (nx rfl hit))))))))), (Late.ef rfl (do_call (run_callF Try.func33 nm33 bd33 (map1 (tm rfl (nx rfl (nx rfl (nx rfl (nx rfl (nx rfl (nx rfl (nx rfl (nx rfl (nx rfl hit))))))))))) rfl) (uvLen33 w2.drew fs[i].2.2.size hsz)) (nx rfl (nx rfl (nx rfl (nx rfl (nx rfl (nx rfl (nx rfl hit)))))))), (Late.qa rfl (fun _ => (do_addM (a := 1) ck (tm rfl (nx rfl (nx rfl (nx rfl (nx rfl (nx rfl (nx rfl (nx rfl (nx rfl hit))))))))) (by omega))) (nx rfl (nx rfl (nx rfl (nx rfl (nx rfl (nx rfl hit))))))), (Late.qa rfl (fun _ => (fa52_2 (tm rfl (nx rfl (nx rfl (nx rfl (nx rfl (nx rfl (nx rfl (nx rfl (nx rfl (nx rfl (nx rfl (nx rfl (nx rfl (nx rfl (nx rfl (nx rfl (nx rfl c18_7))))))))))))))))))) (nx rfl (nx rfl (nx rfl (nx rfl (nx rfl hit)))))), (Late.qr rfl (fun j h1 h2 => (do_load T9 rfl (tm rfl (nx rfl (nx rfl (nx rfl (nx rfl (nx rfl (nx rfl hit))))))) (L2 j h2))) (nx rfl (nx rfl (nx rfl (nx rfl hit))))), (Late.qa rfl (fun _ => (do_lenStr Try.underlying9 (tm rfl (nx rfl (nx rfl (nx rfl (nx rfl (nx rfl hit)))))))) (nx rfl (nx rfl (nx rfl hit)))), (Late.qa rfl (fun _ => (do_addM (tm rfl (nx rfl (nx rfl (nx rfl (nx rfl (nx rfl (nx rfl (nx rfl hit)))))))) (tm rfl (nx rfl (nx rfl (nx rfl (nx rfl hit))))) (by omega))) (nx rfl (nx rfl hit))), (Late.qa rfl (fun _ => (do_addM (tm rfl (nx rfl (nx rfl (nx rfl (nx rfl (nx rfl (nx rfl (nx rfl (nx rfl (nx rfl (nx rfl (nx rfl (nx rfl hit))))))))))))) (tm rfl (nx rfl (nx rfl (nx rfl hit)))) (by omega))) (nx rfl hit)), (Late.qa rfl (fun _ => (do_assign (tm rfl (nx rfl (nx rfl hit))))) hit), trivial⟩ rfl ?_
        intro τ21 e21
        have c21_0 := (congrFun e21 0).trans (nx rfl (nx rfl (nx rfl (nx rfl (nx rfl (nx rfl (nx rfl (nx rfl (nx rfl (nx rfl (nx rfl (nx rfl (nx rfl (nx rfl (nx rfl c18_0)))))))))))))))
        have c21_1 := (congrFun e21 1).trans (nx rfl (nx rfl (nx rfl (nx rfl (nx rfl (nx rfl (nx rfl (nx rfl (nx rfl (nx rfl (nx rfl (nx rfl (nx rfl (nx rfl (nx rfl c18_1)))))))))))))))
        have c21_5 := (congrFun e21 5).trans hit
        have c21_7 := (congrFun e21 7).trans (nx rfl (nx rfl (nx rfl (nx rfl (nx rfl (nx rfl (nx rfl (nx rfl (nx rfl (nx rfl (nx rfl (nx rfl (nx rfl (nx rfl (nx rfl c18_7)))))))))))))))
        have c21_15 := (congrFun e21 15).trans (nx rfl (nx rfl (nx rfl (nx rfl (nx rfl (nx rfl (nx rfl (nx rfl (nx rfl (nx rfl (nx rfl (nx rfl (nx rfl (nx rfl (nx rfl c18_15)))))))))))))))
        have c21_16 := (congrFun e21 16).trans (nx rfl (nx rfl (nx rfl (nx rfl (nx rfl (nx rfl (nx rfl (nx rfl (nx rfl (nx rfl (nx rfl (nx rfl (nx rfl (nx rfl (nx rfl c18_16)))))))))))))))
        have c21_17 := (congrFun e21 17).trans (nx rfl (nx rfl (nx rfl (nx rfl (nx rfl (nx rfl (nx rfl (nx rfl (nx rfl (nx rfl (nx rfl (nx rfl (nx rfl (nx rfl (nx rfl c18_17)))))))))))))))
        clear e21
        refine inBN ?_
        refine hK16 _ _ ?_
        clear hK16
        refine reg ?_
        refine sq rfl (do_inc (tm rfl c21_17) ck (by omega)) ?_
        refine sq rfl (do_move (tm rfl hit)) ?_
        refine wnil ?_
        exact hnn (fs.length - (i + 1)) _ _ (by omega) ⟨i + 1, z + (1 + (uv fs[i].2.2.size).length + fs[i].2.2.size), rfl, by omega, by omega, (nx rfl (nx rfl c21_0)), (nx rfl (nx rfl c21_1)), (nx rfl (nx rfl c21_5)), (nx rfl (nx rfl c21_15)), (nx rfl (nx rfl c21_16)), hit, hb2.drew⟩
    · refine wp_seq_k (fun K22 hK22 => ?_)
      refine cF rfl hit (by simpa using h) ?_
      refine wp_exit ?_
      refine thenE ?_
      exact hx _ _ ⟨z, by omega, (nx rfl t0), (nx rfl t1), (nx rfl t5), hbi⟩
  clear s0 s1
  rintro τ wi ⟨z, hz, t0, t1, t5, hbi⟩
  refine hK12 _ _ ?_
  clear hK12
  refine wp_seq_k (fun K23 hK23 => ?_)
  refine reg ?_
  refine sq rfl (do_alloc T61) ?_
  refine wnil ?_
  refine hK23 _ _ ?_
  clear hK23
  have hbs := hbi.size
  refine wp_seq_k (fun K24 hK24 => ?_)
  refine reg ?_
  refine sq rfl (do_move (tm rfl (nx rfl t5))) ?_
  refine sqc (R := fun v w' => Lib.IsBuilderF 61 5 wi.heap.size wi.heap.size [] w' ∧ Below w.heap.size w w' ∧ wi.heap.size ≤ w'.heap.size) rfl
    (run_callF Try.func34 nm34 bd34 (map2 (tm rfl (nx rfl hit)) (tm rfl hit)) rfl) ((b_grow wi.heap.size wi.heap.size z _ (Nat.le_refl _) ?_ ?_ hz).mono ?_) ?_
  · exact heap_alloc_new _ _
  · rw [size_alloc]; omega
  · rintro e w' ⟨rfl, h1, h2⟩
    refine ⟨_, rfl, .inr (Lib.BuilderAtF.of h1), (hbi.alloc (by omega) _).trans (h2.mono hbs), ?_⟩
    have := h2.size
    rw [size_alloc] at this
    omega
  rintro v w1 ⟨hb1, hbel1, hs1⟩
  refine wnil ?_
  refine hK24 _ _ ?_
  clear hK24
  refine wp_seq_k (fun K25 hK25 => ?_)
  refine reg ?_
  refine sq rfl (do_move (tm rfl (nx rfl (nx rfl (nx rfl t0))))) ?_
  refine sqc (R := fun v w' => Lib.IsBuilderF 61 5 wi.heap.size wi.heap.size (Lib.byteCells key.data.toList) w' ∧ Below w.heap.size w w' ∧ wi.heap.size ≤ w'.heap.size) rfl
    (run_callF Try.func35 nm35 bd35 (map2 (tm rfl (nx rfl (nx rfl (nx rfl hit)))) (tm rfl hit)) rfl) ((b_str wi.heap.size wi.heap.size [] key w1 hb1 (by simp; omega) hs1).mono ?_) ?_
  · rintro e w' ⟨rfl, h1, h2, h3⟩
    refine ⟨_, rfl, .inr h1, hbel1.trans (h2.mono hbs), ?_⟩
    have := h2.size
    omega
  rintro v w2 ⟨hb2, hbel2, hs2⟩
  refine cutL ?_
  intro τ26 e26
  have c26_0 := (congrFun e26 0).trans (nx rfl (nx rfl (nx rfl (nx rfl (nx rfl t0)))))
  have c26_1 := (congrFun e26 1).trans (nx rfl (nx rfl (nx rfl (nx rfl (nx rfl t1)))))
  have c26_5 := (congrFun e26 5).trans (nx rfl (nx rfl (nx rfl (nx rfl (nx rfl t5)))))
  have c26_8 := (congrFun e26 8).trans (nx rfl (nx rfl (nx rfl (nx rfl hit))))
  clear e26
  refine wnil ?_
  refine hK25 _ _ ?_
  clear hK25
  refine wp_seq_k (fun K27 hK27 => ?_)
  refine wp_seq_k (fun K28 hK28 => ?_)
  refine reg ?_
  refine sq rfl (do_move (tm rfl c26_1)) ?_
  refine sq rfl (do_len Try.underlying49 (tm rfl hit)) ?_
  refine sq rfl (do_move (v := .int .i64 ((0 : Nat) : Int)) rfl) ?_
  refine wnil ?_
  refine hK28 _ _ ?_
  clear hK28
  generalize hb : wi.heap.size = b at *
  have hkl : key.data.toList.length = key.size := by rw [Array.length_toList]; rfl
  refine forLoop (N := 84) (fun k τ wi => ∃ i : Nat, k = fs.length - i ∧ i ≤ fs.length ∧ τ 8 = .pointer (some ⟨b, 0, none⟩) ∧
      τ 42 = .slice (some ⟨B, 0, none⟩) fs.length c ∧ τ 43 = .int .i64 (fs.length : Int) ∧ τ 44 = .int .i64 (i : Int) ∧ Below w.heap.size w wi ∧ b ≤ wi.heap.size ∧
      Lib.IsBuilderF 61 5 b b (Lib.byteCells (key.data.toList ++ (fs.take i).flatMap enc)) wi)
    (fun τ wi => τ 8 = .pointer (some ⟨b, 0, none⟩) ∧ Below w.heap.size w wi ∧ b ≤ wi.heap.size ∧ Lib.IsBuilderF 61 5 b b (Lib.byteCells (rowOf key fs)) wi) fs.length ?_ ?_ ?_
  · exact ⟨0, rfl, Nat.zero_le _, (nx rfl (nx rfl (nx rfl c26_8))), (nx rfl (nx rfl hit)), (nx rfl hit), hit, hbel2, hs2, by simpa using hb2⟩
  · clear t0 t1 t5 hb1 hb2 hbel1 hbel2 hs1 hs2
    rintro Q' k τ wi hnn hx hr ⟨i, rfl, hi, t8, t42, t43, t44, hbi, hsi, hbd⟩
    refine wp_seq_k (fun K29 hK29 => ?_)
    refine reg ?_
    refine sq rfl (do_lss (tm rfl t44) (tm rfl t43)) ?_
    refine wnil ?_
    refine hK29 _ _ ?_
    clear hK29
    by_cases h : i < fs.length
    · refine wp_seq_k (fun K30 hK30 => ?_)
      refine cT rfl hit (by simpa using h) ?_
      refine wp_skip ?_
      refine hK30 _ _ ?_
      clear hK30
      have hBi : Blk wi B 52 cs := hB.of_eq (hbi.block B hBlt)
      obtain ⟨f0, f1, f2⟩ := hcs i h
      have hsz := l2 fs[i] (List.getElem_mem _)
      have hfl := flat_le fs l2 i
      refine wp_seq_k (fun K31 hK31 => ?_)
      refine wp_block ?_
      refine wp_seq_k (fun K32 hK32 => ?_)
      refine reg ?_
      refine sq rfl (ix49 (tm rfl (nx rfl t42)) (tm rfl (nx rfl t44)) (by omega)) ?_
      refine sq rfl (do_load3 T52 fl52 (tm rfl hit) (hBi.cell f0) (hBi.cell f1) (hBi.cell f2)) ?_
      refine sq rfl (do_alloc T52) ?_
      have hN0 : Blk (wi.alloc (.cells (Value.cells (.agg #[.int .u8 0, .int .i64 0, .string ⟨#[]⟩])) 52)) wi.heap.size 52 [.int .u8 0, .int .i64 0, .string ⟨#[]⟩] := Blk.new wi _ 52
      refine sqn (do_store3 T52 (tm rfl hit) (tm rfl (nx rfl hit)) rfl rfl rfl (hN0.cell rfl) (hN0.cell rfl) (hN0.cell rfl) (hN0.frozen _) (hN0.frozen _) (hN0.frozen _)) ?_
      refine cutW ?_
      intro τ33 e33 w2 hw2
      have c33_8 := (congrFun e33 8).trans (nx rfl (nx rfl (nx rfl (nx rfl t8))))
      have c33_10 := (congrFun e33 10).trans hit
      have c33_42 := (congrFun e33 42).trans (nx rfl (nx rfl (nx rfl (nx rfl t42))))
      have c33_43 := (congrFun e33 43).trans (nx rfl (nx rfl (nx rfl (nx rfl t43))))
      have c33_44 := (congrFun e33 44).trans (nx rfl (nx rfl (nx rfl (nx rfl t44))))
      clear e33
      refine wnil ?_
      refine hK32 _ _ ?_
      clear hK32
      have hN : Blk w2 wi.heap.size 52 [.int .u8 (kd fs[i].1 : Int), .int .i64 fs[i].2.1, .string fs[i].2.2] := by
        rw [hw2]
        exact ((hN0.set 0 _).set 1 _).set 2 _
      have hb2 : Below w.heap.size w w2 := by
        rw [hw2]
        have := hbi.size
        exact (((hbi.alloc (by omega) _).setCell (by simpa using this) _).setCell (by simpa using this) _).setCell (by simpa using this) _
      have hbd2 : Lib.IsBuilderF 61 5 b b (Lib.byteCells (key.data.toList ++ (fs.take i).flatMap enc)) w2 := by
        refine builder_keep hbd (fun k hk => ?_)
        rw [hw2, heap_set (by simp; omega), heap_set (by simp; omega), heap_set (by simp; omega), heap_al hk]
      have hs2 : b ≤ w2.heap.size := by rw [hw2, size_set, size_set, size_set, size_alloc]; omega
      have hNb : wi.heap.size ≠ b := by
        intro e
        rcases hbd with ⟨_, v, h1, _⟩ | ⟨_, v, h1, _⟩ <;> (have := (Array.getElem?_eq_some_iff.1 h1).1; omega)
      clear hw2 hN0
      generalize hpre : key.data.toList ++ (fs.take i).flatMap enc = pre at *
      have hprel : pre.length ≤ 1048576 + i * 2097160 := by rw [← hpre, List.length_append]; omega
      generalize wi.heap.size = N at *
      refine wp_seq_k (fun K34 hK34 => ?_)
      refine reg ?_
      refine sq rfl (fa52_0 (tm rfl c33_10)) ?_
      refine sq rfl (do_load T50 rfl (tm rfl hit) (show w2.cell? ⟨N, 0 + 0, none⟩ = some (.int .u8 (kd fs[i].1 : Int)) from hN.cell (i := 0) rfl)) ?_
      refine sqc (R := fun v w' => Blk w' N 52 [.int .u8 (kd fs[i].1 : Int), .int .i64 fs[i].2.1, .string fs[i].2.2] ∧ Below w.heap.size w w' ∧ b ≤ w'.heap.size ∧ Lib.IsBuilderF 61 5 b b (Lib.byteCells (pre ++ [UInt8.ofNat (kd fs[i].1)])) w') rfl
        (run_callF Try.func36 nm36 bd36 (map2 (tm rfl (nx rfl (nx rfl c33_8))) (tm rfl hit)) rfl) ((b_byte b b _ (kd fs[i].1 : Int) w2 hbd2 (by rw [Lib.byteCells_length]; omega) hs2).mono ?_) ?_
      · rintro e w' ⟨rfl, h1, h2, h3⟩
        refine ⟨_, rfl, blk_others h3 hN hNb, hb2.trans (h2.mono hbs), Nat.le_trans hs2 h2.size, .inr ?_⟩
        rw [bc_append, bc_one _ (by cases fs[i].1 <;> decide)]
        exact h1
      rintro v w3 ⟨hN3, hb3, hs3, hbd3⟩
      refine wnil ?_
      refine hK34 _ _ ?_
      clear hK34
      clear hN hb2 hs2 hbd2 w2
      refine wp_seq_k (fun K35 hK35 => ?_)
      refine wp_seq_k (fun K36 hK36 => ?_)
      refine reg ?_
      refine sq rfl (fa52_0 (tm rfl (nx rfl (nx rfl (nx rfl c33_10))))) ?_
      refine sq rfl (do_load T50 rfl (tm rfl hit) (show w3.cell? ⟨N, 0 + 0, none⟩ = some (.int .u8 (kd fs[i].1 : Int)) from hN3.cell (i := 0) rfl)) ?_
      refine sq rfl (do_eqlK (tm rfl hit) ck (r := fs[i].1) (by cases fs[i].1 <;> rfl)) ?_
      refine cutL ?_
      intro τ37 e37
      have c37_8 := (congrFun e37 8).trans (nx rfl (nx rfl (nx rfl (nx rfl (nx rfl (nx rfl c33_8))))))
      have c37_10 := (congrFun e37 10).trans (nx rfl (nx rfl (nx rfl (nx rfl (nx rfl (nx rfl c33_10))))))
      have c37_42 := (congrFun e37 42).trans (nx rfl (nx rfl (nx rfl (nx rfl (nx rfl (nx rfl c33_42))))))
      have c37_43 := (congrFun e37 43).trans (nx rfl (nx rfl (nx rfl (nx rfl (nx rfl (nx rfl c33_43))))))
      have c37_44 := (congrFun e37 44).trans (nx rfl (nx rfl (nx rfl (nx rfl (nx rfl (nx rfl c33_44))))))
      have c37_53 := (congrFun e37 53).trans hit
      clear e37
      refine wnil ?_
      refine hK36 _ _ ?_
      clear hK36
      by_cases hk : fs[i].1 = true
      · refine cT rfl c37_53 hk ?_
        have hen : enc fs[i] = 1 :: le8 (uOf fs[i].2.1) := by simp [enc, hk]
        refine wp_seq_k (fun K38 hK38 => ?_)
        refine wp_seq_k (fun K39 hK39 => ?_)
        refine reg ?_
        refine sq rfl (do_assign (v := .int .i64 ((0 : Nat) : Int)) rfl) ?_
        refine wnil ?_
        refine hK39 _ _ ?_
        clear hK39
        refine forLoop (N := 84) (fun k τ wj => ∃ j : Nat, k = 8 - j ∧ j ≤ 8 ∧ τ 8 = .pointer (some ⟨b, 0, none⟩) ∧ τ 10 = .pointer (some ⟨N, 0, none⟩) ∧ τ 11 = .int .i64 ((8 * j : Nat) : Int) ∧
            τ 42 = .slice (some ⟨B, 0, none⟩) fs.length c ∧ τ 43 = .int .i64 (fs.length : Int) ∧ τ 44 = .int .i64 (i : Int) ∧ Blk wj N 52 [.int .u8 (kd fs[i].1 : Int), .int .i64 fs[i].2.1, .string fs[i].2.2] ∧ Below w.heap.size w wj ∧ b ≤ wj.heap.size ∧
            Lib.IsBuilderF 61 5 b b (Lib.byteCells (pre ++ 1 :: (le8 (uOf fs[i].2.1)).take j)) wj)
          (fun τ wj => τ 8 = .pointer (some ⟨b, 0, none⟩) ∧
            τ 42 = .slice (some ⟨B, 0, none⟩) fs.length c ∧ τ 43 = .int .i64 (fs.length : Int) ∧ τ 44 = .int .i64 (i : Int) ∧ Below w.heap.size w wj ∧ b ≤ wj.heap.size ∧
            Lib.IsBuilderF 61 5 b b (Lib.byteCells (pre ++ enc fs[i])) wj) 8 ?_ ?_ ?_
        · refine ⟨0, rfl, by omega, (nx rfl c37_8), (nx rfl c37_10), hit, (nx rfl c37_42), (nx rfl c37_43), (nx rfl c37_44), hN3, hb3, hs3, ?_⟩
          rw [hk] at hbd3
          simpa [kd] using hbd3
        · rintro Q'' k ξ wj hnn' hx' hr' ⟨j, rfl, hj, x8, x10, x11, x42, x43, x44, hNj, hbj, hsj, hbdj⟩
          refine wp_seq_k (fun K40 hK40 => ?_)
          refine wp_seq_k (fun K41 hK41 => ?_)
          refine reg ?_
          refine sq rfl (do_move (tm rfl x11)) ?_
          refine sq rfl (do_lss (tm rfl hit) ck) ?_
          refine wnil ?_
          refine hK41 _ _ ?_
          clear hK41
          by_cases h' : j < 8
          · refine cT rfl hit (by simp; omega) ?_
            refine wp_skip ?_
            refine hK40 _ _ ?_
            clear hK40
            have hlen : (pre ++ 1 :: (le8 (uOf fs[i].2.1)).take j).length ≤ pre.length + 9 := by simp; omega
            have hu : IntKind.u64.wrap fs[i].2.1 = ((uOf fs[i].2.1 : Nat) : Int) := by
              rw [wrap_u64, uOf]
              omega
            refine wp_seq_k (fun K42 hK42 => ?_)
            refine wp_block ?_
            refine reg ?_
            refine sq rfl (fa52_1 (tm rfl (nx rfl (nx rfl x10)))) ?_
            refine sq rfl (do_load T2 rfl (tm rfl hit) (show wj.cell? ⟨N, 0 + 1, none⟩ = some (.int .i64 fs[i].2.1) from hNj.cell (i := 1) rfl)) ?_
            refine sq rfl (do_conv Try.underlying2 Try.underlying54 (tm rfl hit) hu) ?_
            refine sq rfl (do_move (tm rfl (nx rfl (nx rfl (nx rfl (nx rfl (nx rfl x11))))))) ?_
            refine sq rfl (do_shr (n := 8 * j) (tm rfl (nx rfl hit)) (tm rfl hit) (by show 8 * j ≤ 64; omega) (fdiv_nat _ (8 * j))) ?_
            refine sq rfl (do_conv Try.underlying54 Try.underlying5 (tm rfl hit) (wrap_u8 _)) ?_
            refine sqc (R := fun v w' => Blk w' N 52 [.int .u8 (kd fs[i].1 : Int), .int .i64 fs[i].2.1, .string fs[i].2.2] ∧ Below w.heap.size w w' ∧ b ≤ w'.heap.size ∧ Lib.IsBuilderF 61 5 b b (Lib.byteCells (pre ++ 1 :: (le8 (uOf fs[i].2.1)).take (j + 1))) w') rfl
              (run_callF Try.func36 nm36 bd36 (map2 (tm rfl (nx rfl (nx rfl (nx rfl (nx rfl (nx rfl (nx rfl (nx rfl (nx rfl x8))))))))) (tm rfl hit)) rfl) ((b_byte b b _ _ wj hbdj (by rw [Lib.byteCells_length]; omega) hsj).mono ?_) ?_
            · rintro e w' ⟨rfl, h1, h2, h3⟩
              refine ⟨_, rfl, blk_others h3 hNj hNb, hbj.trans (h2.mono hbs), Nat.le_trans hsj h2.size, .inr ?_⟩
              rw [le8_take _ j h', show pre ++ 1 :: ((le8 (uOf fs[i].2.1)).take j ++ [UInt8.ofNat (uOf fs[i].2.1 / 2 ^ (8 * j))]) = (pre ++ 1 :: (le8 (uOf fs[i].2.1)).take j) ++ [UInt8.ofNat (uOf fs[i].2.1 / 2 ^ (8 * j))] by simp, bc_append, bc_one']
              exact h1
            rintro v w4 ⟨hN4, hb4, hs4, hbd4⟩
            refine cutL ?_
            intro τ43 e43
            have c43_8 := (congrFun e43 8).trans (nx rfl (nx rfl (nx rfl (nx rfl (nx rfl (nx rfl (nx rfl (nx rfl (nx rfl x8)))))))))
            have c43_10 := (congrFun e43 10).trans (nx rfl (nx rfl (nx rfl (nx rfl (nx rfl (nx rfl (nx rfl (nx rfl (nx rfl x10)))))))))
            have c43_11 := (congrFun e43 11).trans (nx rfl (nx rfl (nx rfl (nx rfl (nx rfl (nx rfl (nx rfl (nx rfl (nx rfl x11)))))))))
            have c43_42 := (congrFun e43 42).trans (nx rfl (nx rfl (nx rfl (nx rfl (nx rfl (nx rfl (nx rfl (nx rfl (nx rfl x42)))))))))
            have c43_43 := (congrFun e43 43).trans (nx rfl (nx rfl (nx rfl (nx rfl (nx rfl (nx rfl (nx rfl (nx rfl (nx rfl x43)))))))))
            have c43_44 := (congrFun e43 44).trans (nx rfl (nx rfl (nx rfl (nx rfl (nx rfl (nx rfl (nx rfl (nx rfl (nx rfl x44)))))))))
            clear e43
            refine wnil ?_
            refine inBN ?_
            refine hK42 _ _ ?_
            clear hK42
            refine reg ?_
            refine sq rfl (do_move (tm rfl c43_11)) ?_
            refine sq rfl (do_addM (b := 8) (tm rfl hit) ck (by omega)) ?_
            refine sq rfl (do_assign (tm rfl hit)) ?_
            refine wnil ?_
            exact hnn' (8 - (j + 1)) _ _ (by omega) ⟨j + 1, rfl, by omega, (nx rfl (nx rfl (nx rfl c43_8))), (nx rfl (nx rfl (nx rfl c43_10))), hit, (nx rfl (nx rfl (nx rfl c43_42))), (nx rfl (nx rfl (nx rfl c43_43))), (nx rfl (nx rfl (nx rfl c43_44))), hN4, hb4, hs4, hbd4⟩
          · refine cF rfl hit (by simp; omega) ?_
            refine wp_exit ?_
            refine thenE ?_
            obtain rfl : j = 8 := by omega
            refine hx' _ _ ⟨(nx rfl (nx rfl x8)), (nx rfl (nx rfl x42)), (nx rfl (nx rfl x43)), (nx rfl (nx rfl x44)), hbj, hsj, ?_⟩
            rw [List.take_of_length_le (by rw [le8_length]; omega)] at hbdj
            rw [hen]
            exact hbdj
        clear t8 t42 t43 t44
        rintro τ wj ⟨t8, t42, t43, t44, hbj, hsj, hbdj⟩
        refine hK38 _ _ ?_
        clear hK38
        refine wp_exit ?_
        refine thenE ?_
        refine inB ?_
        refine hK31 _ _ ?_
        clear hK31
        refine reg ?_
        refine sq rfl (do_inc (tm rfl t44) ck (by omega)) ?_
        refine sq rfl (do_move (tm rfl hit)) ?_
        refine wnil ?_
        refine hnn (fs.length - (i + 1)) _ _ (by omega) ⟨i + 1, rfl, by omega, (nx rfl (nx rfl t8)), (nx rfl (nx rfl t42)), (nx rfl (nx rfl t43)), hit, hbj, hsj, ?_⟩
        rw [flat_step fs i h, ← List.append_assoc, hpre]
        exact hbdj
      · refine cF rfl c37_53 (by simpa using hk) ?_
        refine wp_skip ?_
        refine hK35 _ _ ?_
        clear hK35
        have hk' : fs[i].1 = false := by simpa using hk
        have hen : enc fs[i] = 2 :: (uv fs[i].2.2.size ++ fs[i].2.2.data.toList) := by simp [enc, hk']
        have hul := uv_le fs[i].2.2.size
        refine wp_seq_k (fun K44 hK44 => ?_)
        refine reg ?_
        refine sq rfl (fa52_2 (tm rfl c37_10)) ?_
        refine sq rfl (do_load T9 rfl (tm rfl hit) (show w3.cell? ⟨N, 0 + 2, none⟩ = some (.string fs[i].2.2) from hN3.cell (i := 2) rfl)) ?_
        refine sq rfl (do_lenStr Try.underlying9 (tm rfl hit)) ?_
        refine sq rfl (do_assign (tm rfl hit)) ?_
        refine cutL ?_
        intro τ45 e45
        have c45_8 := (congrFun e45 8).trans (nx rfl (nx rfl (nx rfl (nx rfl c37_8))))
        have c45_10 := (congrFun e45 10).trans (nx rfl (nx rfl (nx rfl (nx rfl c37_10))))
        have c45_12 := (congrFun e45 12).trans hit
        have c45_42 := (congrFun e45 42).trans (nx rfl (nx rfl (nx rfl (nx rfl c37_42))))
        have c45_43 := (congrFun e45 43).trans (nx rfl (nx rfl (nx rfl (nx rfl c37_43))))
        have c45_44 := (congrFun e45 44).trans (nx rfl (nx rfl (nx rfl (nx rfl c37_44))))
        clear e45
        refine wnil ?_
        refine hK44 _ _ ?_
        clear hK44
        refine wp_seq_k (fun K46 hK46 => ?_)
        refine forLoop (N := 84) (fun m τ wj => ∃ dn : List UInt8, m ≤ 1048576 ∧ dn ++ uv m = uv fs[i].2.2.size ∧ τ 8 = .pointer (some ⟨b, 0, none⟩) ∧ τ 10 = .pointer (some ⟨N, 0, none⟩) ∧ τ 12 = .int .i64 (m : Int) ∧
            τ 42 = .slice (some ⟨B, 0, none⟩) fs.length c ∧ τ 43 = .int .i64 (fs.length : Int) ∧ τ 44 = .int .i64 (i : Int) ∧ Blk wj N 52 [.int .u8 (kd fs[i].1 : Int), .int .i64 fs[i].2.1, .string fs[i].2.2] ∧ Below w.heap.size w wj ∧ b ≤ wj.heap.size ∧
            Lib.IsBuilderF 61 5 b b (Lib.byteCells (pre ++ 2 :: dn)) wj)
          (fun τ wj => ∃ (m : Nat) (dn : List UInt8), m < 128 ∧ dn ++ [UInt8.ofNat m] = uv fs[i].2.2.size ∧ τ 8 = .pointer (some ⟨b, 0, none⟩) ∧ τ 10 = .pointer (some ⟨N, 0, none⟩) ∧ τ 12 = .int .i64 (m : Int) ∧
            τ 42 = .slice (some ⟨B, 0, none⟩) fs.length c ∧ τ 43 = .int .i64 (fs.length : Int) ∧ τ 44 = .int .i64 (i : Int) ∧ Blk wj N 52 [.int .u8 (kd fs[i].1 : Int), .int .i64 fs[i].2.1, .string fs[i].2.2] ∧ Below w.heap.size w wj ∧ b ≤ wj.heap.size ∧
            Lib.IsBuilderF 61 5 b b (Lib.byteCells (pre ++ 2 :: dn)) wj) fs[i].2.2.size ?_ ?_ ?_
        · refine ⟨[], hsz, rfl, c45_8, c45_10, c45_12, c45_42, c45_43, c45_44, hN3, hb3, hs3, ?_⟩
          rw [hk'] at hbd3
          exact hbd3
        · rintro Q'' m ξ wj hnn' hx' hr' ⟨dn, hm, hdn, x8, x10, x12, x42, x43, x44, hNj, hbj, hsj, hbdj⟩
          refine wp_seq_k (fun K47 hK47 => ?_)
          refine wp_seq_k (fun K48 hK48 => ?_)
          refine reg ?_
          refine sq rfl (do_move (tm rfl x12)) ?_
          refine sq rfl (do_geq (tm rfl hit) ck) ?_
          refine wnil ?_
          refine hK48 _ _ ?_
          clear hK48
          by_cases h' : m < 128
          · refine cF rfl hit (by simp; omega) ?_
            refine wp_exit ?_
            refine thenE ?_
            rw [uv_small h'] at hdn
            exact hx' _ _ ⟨m, dn, h', hdn, (nx rfl (nx rfl x8)), (nx rfl (nx rfl x10)), (nx rfl (nx rfl x12)), (nx rfl (nx rfl x42)), (nx rfl (nx rfl x43)), (nx rfl (nx rfl x44)), hNj, hbj, hsj, hbdj⟩
          · refine cT rfl hit (by simp; omega) ?_
            refine wp_skip ?_
            refine hK47 _ _ ?_
            clear hK47
            rw [uv_big h'] at hdn
            have hdl : dn.length ≤ (uv fs[i].2.2.size).length := by rw [← hdn, List.length_append]; omega
            have hlen : (pre ++ 2 :: dn).length = pre.length + (dn.length + 1) := by simp
            refine wp_seq_k (fun K49 hK49 => ?_)
            refine wp_block ?_
            refine reg ?_
            refine sq rfl (do_move (tm rfl (nx rfl (nx rfl x12)))) ?_
            refine sq rfl (do_conv Try.underlying3 Try.underlying5 (tm rfl hit) (wrap_u8 m)) ?_
            refine sq rfl (do_or (tm rfl hit) ck (or_u8 (m % 256) (by omega))) ?_
            refine sqc (R := fun v w' => Blk w' N 52 [.int .u8 (kd fs[i].1 : Int), .int .i64 fs[i].2.1, .string fs[i].2.2] ∧ Below w.heap.size w w' ∧ b ≤ w'.heap.size ∧ Lib.IsBuilderF 61 5 b b (Lib.byteCells (pre ++ 2 :: (dn ++ [UInt8.ofNat (m % 128 + 128)]))) w') rfl
              (run_callF Try.func36 nm36 bd36 (map2 (tm rfl (nx rfl (nx rfl (nx rfl (nx rfl (nx rfl x8)))))) (tm rfl hit)) rfl) ((b_byte b b _ _ wj hbdj (by rw [Lib.byteCells_length]; omega) hsj).mono ?_) ?_
            · rintro e w' ⟨rfl, h1, h2, h3⟩
              refine ⟨_, rfl, blk_others h3 hNj hNb, hbj.trans (h2.mono hbs), Nat.le_trans hsj h2.size, .inr ?_⟩
              rw [show pre ++ 2 :: (dn ++ [UInt8.ofNat (m % 128 + 128)]) = (pre ++ 2 :: dn) ++ [UInt8.ofNat (m % 128 + 128)] by simp, bc_append, bc_one _ (by omega)]
              rw [show m % 256 % 128 = m % 128 by omega] at h1
              exact h1
            rintro v w4 ⟨hN4, hb4, hs4, hbd4⟩
            refine cutL ?_
            intro τ50 e50
            have c50_8 := (congrFun e50 8).trans (nx rfl (nx rfl (nx rfl (nx rfl (nx rfl (nx rfl x8))))))
            have c50_10 := (congrFun e50 10).trans (nx rfl (nx rfl (nx rfl (nx rfl (nx rfl (nx rfl x10))))))
            have c50_12 := (congrFun e50 12).trans (nx rfl (nx rfl (nx rfl (nx rfl (nx rfl (nx rfl x12))))))
            have c50_42 := (congrFun e50 42).trans (nx rfl (nx rfl (nx rfl (nx rfl (nx rfl (nx rfl x42))))))
            have c50_43 := (congrFun e50 43).trans (nx rfl (nx rfl (nx rfl (nx rfl (nx rfl (nx rfl x43))))))
            have c50_44 := (congrFun e50 44).trans (nx rfl (nx rfl (nx rfl (nx rfl (nx rfl (nx rfl x44))))))
            clear e50
            refine wnil ?_
            refine inBN ?_
            refine hK49 _ _ ?_
            clear hK49
            refine reg ?_
            refine sq rfl (do_move (tm rfl c50_12)) ?_
            refine sq rfl (do_shr (n := 7) (tm rfl hit) ck (by decide) (fdiv_nat m 7)) ?_
            refine sq rfl (do_assign (tm rfl hit)) ?_
            refine wnil ?_
            exact hnn' (m / 128) _ _ (by omega) ⟨dn ++ [UInt8.ofNat (m % 128 + 128)], by omega, by simpa using hdn, (nx rfl (nx rfl (nx rfl c50_8))), (nx rfl (nx rfl (nx rfl c50_10))), hit, (nx rfl (nx rfl (nx rfl c50_42))), (nx rfl (nx rfl (nx rfl c50_43))), (nx rfl (nx rfl (nx rfl c50_44))), hN4, hb4, hs4, hbd4⟩
        clear t8 t42 t43 t44
        rintro τ wj ⟨m, dn, hm, hdn, t8, t10, t12, t42, t43, t44, hNj, hbj, hsj, hbdj⟩
        refine hK46 _ _ ?_
        clear hK46
        have hdl : dn.length + 1 = (uv fs[i].2.2.size).length := by rw [← hdn, List.length_append]; rfl
        have hlen : (pre ++ 2 :: dn).length = pre.length + (dn.length + 1) := by simp
        refine wp_seq_k (fun K51 hK51 => ?_)
        refine reg ?_
        refine sq rfl (do_move (tm rfl t12)) ?_
        refine sq rfl (do_conv Try.underlying3 Try.underlying5 (tm rfl hit) (wrap_u8 m)) ?_
        refine sqc (R := fun v w' => Blk w' N 52 [.int .u8 (kd fs[i].1 : Int), .int .i64 fs[i].2.1, .string fs[i].2.2] ∧ Below w.heap.size w w' ∧ b ≤ w'.heap.size ∧ Lib.IsBuilderF 61 5 b b (Lib.byteCells (pre ++ 2 :: uv fs[i].2.2.size)) w') rfl
          (run_callF Try.func36 nm36 bd36 (map2 (tm rfl (nx rfl (nx rfl t8))) (tm rfl hit)) rfl) ((b_byte b b _ _ wj hbdj (by rw [Lib.byteCells_length]; omega) hsj).mono ?_) ?_
        · rintro e w' ⟨rfl, h1, h2, h3⟩
          refine ⟨_, rfl, blk_others h3 hNj hNb, hbj.trans (h2.mono hbs), Nat.le_trans hsj h2.size, .inr ?_⟩
          rw [← hdn, show pre ++ 2 :: (dn ++ [UInt8.ofNat m]) = (pre ++ 2 :: dn) ++ [UInt8.ofNat m] by simp, bc_append, bc_one']
          exact h1
        rintro v w4 ⟨hN4, hb4, hs4, hbd4⟩
        refine wnil ?_
        refine hK51 _ _ ?_
        clear hK51
        refine reg ?_
        refine sq rfl (fa52_2 (tm rfl (nx rfl (nx rfl (nx rfl t10))))) ?_
        refine sq rfl (do_load T9 rfl (tm rfl hit) (show w4.cell? ⟨N, 0 + 2, none⟩ = some (.string fs[i].2.2) from hN4.cell (i := 2) rfl)) ?_
        have hlen2 : (pre ++ 2 :: uv fs[i].2.2.size).length = pre.length + ((uv fs[i].2.2.size).length + 1) := by simp
        refine sqc (R := fun v w' => Below w.heap.size w w' ∧ b ≤ w'.heap.size ∧ Lib.IsBuilderF 61 5 b b (Lib.byteCells (pre ++ enc fs[i])) w') rfl
          (run_callF Try.func35 nm35 bd35 (map2 (tm rfl (nx rfl (nx rfl (nx rfl (nx rfl (nx rfl t8)))))) (tm rfl hit)) rfl) ((b_str b b _ fs[i].2.2 w4 hbd4 (by rw [Lib.byteCells_length]; omega) hs4).mono ?_) ?_
        · rintro e w' ⟨rfl, h1, h2, h3⟩
          refine ⟨_, rfl, hb4.trans (h2.mono hbs), Nat.le_trans hs4 h2.size, .inr ?_⟩
          rw [hen, show pre ++ 2 :: (uv fs[i].2.2.size ++ fs[i].2.2.data.toList) = (pre ++ 2 :: uv fs[i].2.2.size) ++ fs[i].2.2.data.toList by simp, bc_append]
          exact h1
        rintro v w5 ⟨hb5, hs5, hbd5⟩
        refine cutL ?_
        intro τ52 e52
        have c52_8 := (congrFun e52 8).trans (nx rfl (nx rfl (nx rfl (nx rfl (nx rfl (nx rfl t8))))))
        have c52_10 := (congrFun e52 10).trans (nx rfl (nx rfl (nx rfl (nx rfl (nx rfl (nx rfl t10))))))
        have c52_12 := (congrFun e52 12).trans (nx rfl (nx rfl (nx rfl (nx rfl (nx rfl (nx rfl t12))))))
        have c52_42 := (congrFun e52 42).trans (nx rfl (nx rfl (nx rfl (nx rfl (nx rfl (nx rfl t42))))))
        have c52_43 := (congrFun e52 43).trans (nx rfl (nx rfl (nx rfl (nx rfl (nx rfl (nx rfl t43))))))
        have c52_44 := (congrFun e52 44).trans (nx rfl (nx rfl (nx rfl (nx rfl (nx rfl (nx rfl t44))))))
        clear e52
        refine wnil ?_
        refine inBN ?_
        refine hK31 _ _ ?_
        clear hK31
        refine reg ?_
        refine sq rfl (do_inc (tm rfl c52_44) ck (by omega)) ?_
        refine sq rfl (do_move (tm rfl hit)) ?_
        refine wnil ?_
        refine hnn (fs.length - (i + 1)) _ _ (by omega) ⟨i + 1, rfl, by omega, (nx rfl (nx rfl c52_8)), (nx rfl (nx rfl c52_42)), (nx rfl (nx rfl c52_43)), hit, hb5, hs5, ?_⟩
        rw [flat_step fs i h, ← List.append_assoc, hpre]
        exact hbd5
    · refine wp_seq_k (fun K53 hK53 => ?_)
      refine cF rfl hit (by simpa using h) ?_
      refine wp_exit ?_
      refine thenE ?_
      obtain rfl : i = fs.length := by omega
      rw [List.take_of_length_le (Nat.le_refl _)] at hbd
      exact hx _ _ ⟨(nx rfl t8), hbi, hsi, hbd⟩
  clear t0 t1 t5
  rintro τ wi ⟨t8, hbi, hsi, hbd⟩
  refine hK27 _ _ ?_
  clear hK27
  refine wp_seq_k (fun K54 hK54 => ?_)
  refine reg ?_
  refine sqc (R := fun v w' => v = .string ⟨(rowOf key fs).toArray⟩ ∧ Below w.heap.size w w') rfl
    (run_callF Try.func37 nm37 bd37 (map1 (tm rfl t8)) rfl) ((b_string b b (rowOf key fs) wi hbd hsi).mono ?_) ?_
  · rintro e w' ⟨rfl, h1, h2, h3⟩
    exact ⟨_, rfl, rfl, hbi.trans (h2.mono hbs)⟩
  rintro v w' ⟨rfl, hbel⟩
  refine sq rfl (do_assign (tm rfl hit)) ?_
  refine wnil ?_
  refine hK54 _ _ ?_
  clear hK54
  refine wp_ret ?_
  rw [← hQ]
  exact ret1 rfl rfl hit ⟨rfl, hbel⟩
end Go.Proofs.Qxb6000003a
