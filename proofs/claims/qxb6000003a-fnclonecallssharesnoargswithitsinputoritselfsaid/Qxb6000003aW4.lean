/-
  zzBuildCalls, ZZCloneCalls.
-/
import Derived.Test.Qxb6000003aW3
namespace Go.Proofs.Qxb6000003a
open Go.Fra Go.RowKit
set_option maxRecDepth 100000
set_option linter.unusedVariables false

theorem build19_nil (w : World) (n0 c0 : Nat) (va vs : Value) :
    Calls Try.prog 19 #[.slice none n0 c0, va, vs] w fun e w' => e = .returned (.slice none 0 0) ∧ w' = w := by
  refine enter (args := [.slice none n0 c0, va, vs]) Try.func19 rfl Try.ntmps19 rfl ?_
  have s0 : frame0 [Value.slice none n0 c0, va, vs] 0 = .slice none n0 c0 := rfl
  generalize frame0 [Value.slice none n0 c0, va, vs] = σ at *
  refine wp_seq_k (fun K1 hK1 => ?_)
  refine reg ?_
  refine sq rfl (do_assign ck) ?_
  refine wnil ?_
  refine hK1 _ _ ?_
  clear hK1 K1
  refine wp_seq_k (fun K2 hK2 => ?_)
  refine wp_seq_k (fun K3 hK3 => ?_)
  refine reg ?_
  refine sq rfl (do_move (tm rfl (nx rfl s0))) ?_
  refine sq rfl (do_nilS Try.underlying30 (tm rfl hit) ck) ?_
  refine wnil ?_
  refine hK3 _ _ ?_
  clear hK3 K3
  refine cT rfl hit rfl ?_
  refine wp_seq_k (fun K4 hK4 => ?_)
  refine reg ?_
  refine sq rfl (do_assign ck) ?_
  refine cutL ?_
  intro τ5 e5
  have c5_0 := (congrFun e5 0).trans (nx rfl (nx rfl (nx rfl (nx rfl s0))))
  have c5_6 := (congrFun e5 6).trans hit
  clear e5
  refine wnil ?_
  refine hK4 _ _ ?_
  clear hK4 K4
  refine wp_ret ?_
  refine thenR ?_
  exact ret1 rfl rfl c5_6 ⟨rfl, rfl⟩

theorem build19 (w : World) (q : Addr) (c0 : Nat) (va vs : Value) (ps : List ByteArray) (avs : List Value) (rows : List (List ByteArray)) (zs : List Int) (n : Nat) (hP : StrS w (.slice (some q) n c0) ps) (hA : ArgS w va avs rows) (hS : I64S w vs zs)
    (hn : n ≤ 1048576) (hpl : ps.length = n) (hrl : rows.length = n) (hzl : zs.length = n) :
    Calls Try.prog 19 #[.slice (some q) n c0, va, vs] w fun e w' => ∃ cs, e = .returned (.slice (some ⟨w.heap.size, 0, none⟩) n n) ∧ Blk w' w.heap.size 38 cs ∧ CallCells cs ps avs zs n ∧ Below w.heap.size w w' := by
  obtain ⟨a0, c0', he, hP⟩ := hP
  obtain rfl : a0 = some q := by injection he with h1 h2 h3; exact h1.symm
  clear he
  obtain ⟨hal, a1, c1, rfl, hA⟩ := hA
  obtain ⟨a2, c2, rfl, hS⟩ := hS
  rw [hrl, hzl]
  refine enter (args := [.slice (some q) n c0, .slice a1 n c1, .slice a2 n c2]) Try.func19 rfl Try.ntmps19 rfl ?_
  generalize hQ : bodyPost Try.prog Try.f19 _ = Q
  have s0 : frame0 [Value.slice (some q) n c0, .slice a1 n c1, .slice a2 n c2] 0 = .slice (some q) n c0 := rfl
  have s1 : frame0 [Value.slice (some q) n c0, .slice a1 n c1, .slice a2 n c2] 1 = .slice a1 n c1 := rfl
  have s2 : frame0 [Value.slice (some q) n c0, .slice a1 n c1, .slice a2 n c2] 2 = .slice a2 n c2 := rfl
  generalize frame0 [Value.slice (some q) n c0, .slice a1 n c1, .slice a2 n c2] = σ at *
  refine wp_seq_k (fun K6 hK6 => ?_)
  refine reg ?_
  refine sq rfl (do_assign ck) ?_
  refine wnil ?_
  refine hK6 _ _ ?_
  clear hK6 K6
  refine wp_seq_k (fun K7 hK7 => ?_)
  refine wp_seq_k (fun K8 hK8 => ?_)
  refine reg ?_
  refine sq rfl (do_move (tm rfl (nx rfl s0))) ?_
  refine sq rfl (do_nilS Try.underlying30 (tm rfl hit) ck) ?_
  refine wnil ?_
  refine hK8 _ _ ?_
  clear hK8 K8
  refine cF rfl hit rfl ?_
  refine wp_skip ?_
  refine hK7 _ _ ?_
  clear hK7 K7
  refine wp_seq_k (fun K9 hK9 => ?_)
  refine reg ?_
  refine sq rfl (do_move (tm rfl (nx rfl (nx rfl (nx rfl s0))))) ?_
  refine sq rfl (do_len Try.underlying30 (tm rfl hit)) ?_
  refine sq rfl (do_mk34 (tm rfl hit) (tm rfl hit) (by omega)) ?_
  refine sq rfl (do_assign (tm rfl hit)) ?_
  refine cutL ?_
  intro τ10 e10
  have c10_0 := (congrFun e10 0).trans (nx rfl (nx rfl (nx rfl (nx rfl (nx rfl (nx rfl (nx rfl s0)))))))
  have c10_1 := (congrFun e10 1).trans (nx rfl (nx rfl (nx rfl (nx rfl (nx rfl (nx rfl (nx rfl s1)))))))
  have c10_2 := (congrFun e10 2).trans (nx rfl (nx rfl (nx rfl (nx rfl (nx rfl (nx rfl (nx rfl s2)))))))
  have c10_6 := (congrFun e10 6).trans (nx rfl (nx rfl (nx rfl (nx rfl (nx rfl (nx rfl hit))))))
  have c10_7 := (congrFun e10 7).trans hit
  clear e10
  refine wnil ?_
  refine hK9 _ _ ?_
  clear hK9 K9
  refine wp_seq_k (fun K11 hK11 => ?_)
  refine wp_seq_k (fun K12 hK12 => ?_)
  refine reg ?_
  refine sq rfl (do_assign (v := .int .i64 ((0 : Nat) : Int)) rfl) ?_
  refine wnil ?_
  refine hK12 _ _ ?_
  clear hK12 K12
  refine forLoop (N := 37) (fun k τ wi => ∃ i cs, k = n - i ∧ i ≤ n ∧ τ 0 = .slice (some q) n c0 ∧ τ 1 = .slice a1 n c1 ∧ τ 2 = .slice a2 n c2 ∧ τ 7 = .slice (some ⟨w.heap.size, 0, none⟩) n n ∧ τ 8 = .int .i64 (i : Int) ∧
      Blk wi w.heap.size 38 cs ∧ cs.length = n * 3 ∧ CallCells cs ps avs zs i ∧ Below w.heap.size w wi)
    (fun τ wi => ∃ cs, τ 7 = .slice (some ⟨w.heap.size, 0, none⟩) n n ∧ Blk wi w.heap.size 38 cs ∧ CallCells cs ps avs zs n ∧ Below w.heap.size w wi) n ?_ ?_ ?_
  · exact ⟨0, _, rfl, Nat.zero_le _, (nx rfl c10_0), (nx rfl c10_1), (nx rfl c10_2), (nx rfl c10_7), hit, Blk.new w _ 38, by simp [madeCells], fun j h => by omega, (Below.refl _ _).alloc (Nat.le_refl _) _⟩
  · clear s0 s1 s2
    rintro Q' k τ wi hnn hx hr ⟨i, cs, rfl, hi, t0, t1, t2, t7, t8, hB, hcl, hcc, hbel⟩
    refine wp_seq_k (fun K13 hK13 => ?_)
    refine wp_seq_k (fun K14 hK14 => ?_)
    refine reg ?_
    refine sq rfl (do_move (tm rfl t8)) ?_
    refine sq rfl (do_move (tm rfl (nx rfl t0))) ?_
    refine sq rfl (do_len Try.underlying30 (tm rfl hit)) ?_
    refine sq rfl (do_lss (tm rfl (nx rfl (nx rfl hit))) (tm rfl hit)) ?_
    refine cutL ?_
    intro τ15 e15
    have c15_0 := (congrFun e15 0).trans (nx rfl (nx rfl (nx rfl (nx rfl t0))))
    have c15_1 := (congrFun e15 1).trans (nx rfl (nx rfl (nx rfl (nx rfl t1))))
    have c15_2 := (congrFun e15 2).trans (nx rfl (nx rfl (nx rfl (nx rfl t2))))
    have c15_7 := (congrFun e15 7).trans (nx rfl (nx rfl (nx rfl (nx rfl t7))))
    have c15_8 := (congrFun e15 8).trans (nx rfl (nx rfl (nx rfl (nx rfl t8))))
    have c15_17 := (congrFun e15 17).trans hit
    clear e15
    refine wnil ?_
    refine hK14 _ _ ?_
    clear hK14 K14
    by_cases h : i < n
    · refine cT rfl c15_17 (by simpa using h) ?_
      refine wp_skip ?_
      refine hK13 _ _ ?_
      clear hK13 K13
      obtain ⟨b0, o0, e0, hc0⟩ := hP i (by omega)
      cases e0
      obtain ⟨b1, o1, rfl, hc1, hr1⟩ := hA i (by omega) (by omega)
      obtain ⟨b2, o2, rfl, hc2⟩ := hS i (by omega)
      obtain ⟨ra, rc, hre, _⟩ := hr1
      rw [← hbel.cell (World.block_lt_of_cell? w _ hc0)] at hc0
      rw [← hbel.cell (World.block_lt_of_cell? w _ hc1)] at hc1
      rw [← hbel.cell (World.block_lt_of_cell? w _ hc2)] at hc2
      rw [hre] at hc1
      obtain ⟨w4, hw4⟩ : ∃ w4, w4 = ((wi.drew.setCell ⟨w.heap.size, i * 3, none⟩ (.string ps[i])).setCell ⟨w.heap.size, i * 3 + 1, none⟩ (.slice ra rows[i].length rc)).setCell ⟨w.heap.size, i * 3 + 2, none⟩ (.int .i64 zs[i]) := ⟨_, rfl⟩
      have hBd : Blk wi.drew w.heap.size 38 cs := hB
      have hst : ∀ (ρ : Operand → Value) (ty : TypeId) (pos : String) (aft : Array Edge) (x y : Operand), ρ x = .pointer (some ⟨w.heap.size, i * 3, none⟩) → ρ y = .agg #[.string ps[i], .slice ra rows[i].length rc, .int .i64 zs[i]] →
          Does Try.prog ⟨none, .store 38 x y, ty, pos, aft, none⟩ ρ (stg wi.drew [w4] 0) undef (stg wi.drew [w4] (0 + 1)) := by
        intro ρ ty pos aft x y h1 h2
        show Does Try.prog _ ρ wi.drew undef w4
        rw [hw4]
        exact do_store3 T38 h1 h2 rfl rfl rfl (hBd.cell (List.getElem?_eq_getElem (by omega))) (hBd.cell (List.getElem?_eq_getElem (by omega))) (hBd.cell (List.getElem?_eq_getElem (by omega))) (hBd.frozen _) (hBd.frozen _) (hBd.frozen _)
      refine wp_seq_k (fun K16 hK16 => ?_)
      refine wp_block ?_
      refine draw mixed [16] [(0, 0), (0, 0), (0, 0), (0, 0), (0, 0), (0, 0), (0, 0), (0, 0), (0, 0), (0, 0), (0, 0), (0, 0), (0, 0), (0, 0), (0, 0), (0, 0), (0, 0)] [w4] (w4) (upd (upd (upd (upd (upd (upd (upd (upd (upd (upd (upd (upd (upd (upd (upd (upd _ 20 _) 21 _) 22 _) 23 _) 24 _) 25 _) 26 _) 27 _) 28 _) 29 _) 30 _) 31 _) 32 _) 33 _) 34 _) 35 _) (by kernel_rfl) (fun s hs => ovr_off [(20, _), (21, _), (22, _), (23, _), (24, _), (25, _), (26, _), (27, _), (28, _), (29, _), (30, _), (31, _), (32, _), (33, _), (34, _), (35, _)] _ s hs) ⟨(qa rfl (fun _ => (do_move (tm rfl (nx rfl (nx rfl (nx rfl (nx rfl (nx rfl (nx rfl (nx rfl (nx rfl (nx rfl (nx rfl (nx rfl (nx rfl (nx rfl (nx rfl (nx rfl (nx rfl c15_7))))))))))))))))))) (nx rfl (nx rfl (nx rfl (nx rfl (nx rfl (nx rfl (nx rfl (nx rfl (nx rfl (nx rfl (nx rfl (nx rfl (nx rfl (nx rfl (nx rfl hit)))))))))))))))), (qa rfl (fun _ => (do_move (tm rfl (nx rfl (nx rfl (nx rfl (nx rfl (nx rfl (nx rfl (nx rfl (nx rfl (nx rfl (nx rfl (nx rfl (nx rfl (nx rfl (nx rfl (nx rfl (nx rfl c15_8))))))))))))))))))) (nx rfl (nx rfl (nx rfl (nx rfl (nx rfl (nx rfl (nx rfl (nx rfl (nx rfl (nx rfl (nx rfl (nx rfl (nx rfl (nx rfl hit))))))))))))))), (qa rfl (fun _ => (do_move (tm rfl (nx rfl (nx rfl (nx rfl (nx rfl (nx rfl (nx rfl (nx rfl (nx rfl (nx rfl (nx rfl (nx rfl (nx rfl (nx rfl (nx rfl (nx rfl (nx rfl c15_0))))))))))))))))))) (nx rfl (nx rfl (nx rfl (nx rfl (nx rfl (nx rfl (nx rfl (nx rfl (nx rfl (nx rfl (nx rfl (nx rfl (nx rfl hit)))))))))))))), (qa rfl (fun _ => (do_move (tm rfl (nx rfl (nx rfl (nx rfl (nx rfl (nx rfl (nx rfl (nx rfl (nx rfl (nx rfl (nx rfl (nx rfl (nx rfl (nx rfl (nx rfl (nx rfl (nx rfl c15_8))))))))))))))))))) (nx rfl (nx rfl (nx rfl (nx rfl (nx rfl (nx rfl (nx rfl (nx rfl (nx rfl (nx rfl (nx rfl (nx rfl hit))))))))))))), (qa rfl (fun _ => (io30 (tm rfl (nx rfl (nx rfl (nx rfl (nx rfl (nx rfl (nx rfl (nx rfl (nx rfl (nx rfl (nx rfl (nx rfl (nx rfl (nx rfl hit)))))))))))))) (tm rfl (nx rfl (nx rfl (nx rfl (nx rfl (nx rfl (nx rfl (nx rfl (nx rfl (nx rfl (nx rfl (nx rfl (nx rfl hit))))))))))))) (by omega))) (nx rfl (nx rfl (nx rfl (nx rfl (nx rfl (nx rfl (nx rfl (nx rfl (nx rfl (nx rfl (nx rfl hit)))))))))))), (qk rfl (do_load T9 rfl (tm rfl (nx rfl (nx rfl (nx rfl (nx rfl (nx rfl (nx rfl (nx rfl (nx rfl (nx rfl (nx rfl (nx rfl hit)))))))))))) hc0) (nx rfl (nx rfl (nx rfl (nx rfl (nx rfl (nx rfl (nx rfl (nx rfl (nx rfl (nx rfl hit))))))))))), (qa rfl (fun _ => (do_move (tm rfl (nx rfl (nx rfl (nx rfl (nx rfl (nx rfl (nx rfl (nx rfl (nx rfl (nx rfl (nx rfl (nx rfl (nx rfl (nx rfl (nx rfl (nx rfl (nx rfl c15_1))))))))))))))))))) (nx rfl (nx rfl (nx rfl (nx rfl (nx rfl (nx rfl (nx rfl (nx rfl (nx rfl hit)))))))))), (qa rfl (fun _ => (do_move (tm rfl (nx rfl (nx rfl (nx rfl (nx rfl (nx rfl (nx rfl (nx rfl (nx rfl (nx rfl (nx rfl (nx rfl (nx rfl (nx rfl (nx rfl (nx rfl (nx rfl c15_8))))))))))))))))))) (nx rfl (nx rfl (nx rfl (nx rfl (nx rfl (nx rfl (nx rfl (nx rfl hit))))))))), (qa rfl (fun _ => (io31 (tm rfl (nx rfl (nx rfl (nx rfl (nx rfl (nx rfl (nx rfl (nx rfl (nx rfl (nx rfl hit)))))))))) (tm rfl (nx rfl (nx rfl (nx rfl (nx rfl (nx rfl (nx rfl (nx rfl (nx rfl hit))))))))) (by omega))) (nx rfl (nx rfl (nx rfl (nx rfl (nx rfl (nx rfl (nx rfl hit)))))))), (qk rfl (do_load T30 rfl (tm rfl (nx rfl (nx rfl (nx rfl (nx rfl (nx rfl (nx rfl (nx rfl hit)))))))) hc1) (nx rfl (nx rfl (nx rfl (nx rfl (nx rfl (nx rfl hit))))))), (qa rfl (fun _ => (do_move (tm rfl (nx rfl (nx rfl (nx rfl (nx rfl (nx rfl (nx rfl (nx rfl (nx rfl (nx rfl (nx rfl (nx rfl (nx rfl (nx rfl (nx rfl (nx rfl (nx rfl c15_2))))))))))))))))))) (nx rfl (nx rfl (nx rfl (nx rfl (nx rfl hit)))))), (qa rfl (fun _ => (do_move (tm rfl (nx rfl (nx rfl (nx rfl (nx rfl (nx rfl (nx rfl (nx rfl (nx rfl (nx rfl (nx rfl (nx rfl (nx rfl (nx rfl (nx rfl (nx rfl (nx rfl c15_8))))))))))))))))))) (nx rfl (nx rfl (nx rfl (nx rfl hit))))), (qa rfl (fun _ => (io32 (tm rfl (nx rfl (nx rfl (nx rfl (nx rfl (nx rfl hit)))))) (tm rfl (nx rfl (nx rfl (nx rfl (nx rfl hit))))) (by omega))) (nx rfl (nx rfl (nx rfl hit)))), (qk rfl (do_load T2 rfl (tm rfl (nx rfl (nx rfl (nx rfl hit)))) hc2) (nx rfl (nx rfl hit))), (qa rfl (fun _ => (do_build38 (tm rfl (nx rfl (nx rfl (nx rfl (nx rfl (nx rfl (nx rfl (nx rfl (nx rfl (nx rfl (nx rfl hit))))))))))) (tm rfl (nx rfl (nx rfl (nx rfl (nx rfl (nx rfl (nx rfl hit))))))) (tm rfl (nx rfl (nx rfl hit))))) (nx rfl hit)), (qa rfl (fun _ => (ix34 (tm rfl (nx rfl (nx rfl (nx rfl (nx rfl (nx rfl (nx rfl (nx rfl (nx rfl (nx rfl (nx rfl (nx rfl (nx rfl (nx rfl (nx rfl (nx rfl hit)))))))))))))))) (tm rfl (nx rfl (nx rfl (nx rfl (nx rfl (nx rfl (nx rfl (nx rfl (nx rfl (nx rfl (nx rfl (nx rfl (nx rfl (nx rfl (nx rfl hit))))))))))))))) (by omega))) hit), (en rfl (hst _ _ _ _ _ _ (tm rfl hit) (tm rfl (nx rfl hit)))), trivial⟩ rfl ?_
      intro τ17 e17
      have c17_0 := (congrFun e17 0).trans (nx rfl (nx rfl (nx rfl (nx rfl (nx rfl (nx rfl (nx rfl (nx rfl (nx rfl (nx rfl (nx rfl (nx rfl (nx rfl (nx rfl (nx rfl (nx rfl c15_0))))))))))))))))
      have c17_1 := (congrFun e17 1).trans (nx rfl (nx rfl (nx rfl (nx rfl (nx rfl (nx rfl (nx rfl (nx rfl (nx rfl (nx rfl (nx rfl (nx rfl (nx rfl (nx rfl (nx rfl (nx rfl c15_1))))))))))))))))
      have c17_2 := (congrFun e17 2).trans (nx rfl (nx rfl (nx rfl (nx rfl (nx rfl (nx rfl (nx rfl (nx rfl (nx rfl (nx rfl (nx rfl (nx rfl (nx rfl (nx rfl (nx rfl (nx rfl c15_2))))))))))))))))
      have c17_7 := (congrFun e17 7).trans (nx rfl (nx rfl (nx rfl (nx rfl (nx rfl (nx rfl (nx rfl (nx rfl (nx rfl (nx rfl (nx rfl (nx rfl (nx rfl (nx rfl (nx rfl (nx rfl c15_7))))))))))))))))
      have c17_8 := (congrFun e17 8).trans (nx rfl (nx rfl (nx rfl (nx rfl (nx rfl (nx rfl (nx rfl (nx rfl (nx rfl (nx rfl (nx rfl (nx rfl (nx rfl (nx rfl (nx rfl (nx rfl c15_8))))))))))))))))
      clear e17
      refine inBN ?_
      refine hK16 _ _ ?_
      clear hK16 K16
      refine reg ?_
      refine sq rfl (do_move (tm rfl c17_8)) ?_
      refine sq rfl (do_inc (tm rfl hit) ck (by omega)) ?_
      refine sq rfl (do_assign (tm rfl hit)) ?_
      refine wnil ?_
      have hB4 : Blk w4 w.heap.size 38 (((cs.set (i * 3) (.string ps[i])).set (i * 3 + 1) (.slice ra rows[i].length rc)).set (i * 3 + 2) (.int .i64 zs[i])) := by
        rw [hw4]; exact ((hBd.set _ _).set _ _).set _ _
      have hbel4 : Below w.heap.size w w4 := by
        rw [hw4]
        exact ((hbel.drew.setCell (Nat.le_refl _) _).setCell (Nat.le_refl _) _).setCell (Nat.le_refl _) _
      refine hnn (n - (i + 1)) _ _ (by omega) ⟨i + 1, _, rfl, by omega, (nx rfl (nx rfl (nx rfl c17_0))), (nx rfl (nx rfl (nx rfl c17_1))), (nx rfl (nx rfl (nx rfl c17_2))), (nx rfl (nx rfl (nx rfl c17_7))), hit, hB4, by simp [hcl], ?_, hbel4⟩
      intro j hj
      rcases Nat.lt_or_ge j i with hji | hji
      · obtain ⟨p', v', z', e1, e2, e3, e4, e5, e6⟩ := hcc j hji
        refine ⟨p', v', z', e1, e2, e3, ?_, ?_, ?_⟩
        · rw [List.getElem?_set_ne (by omega), List.getElem?_set_ne (by omega), List.getElem?_set_ne (by omega)]; exact e4
        · rw [List.getElem?_set_ne (by omega), List.getElem?_set_ne (by omega), List.getElem?_set_ne (by omega)]; exact e5
        · rw [List.getElem?_set_ne (by omega), List.getElem?_set_ne (by omega), List.getElem?_set_ne (by omega)]; exact e6
      · obtain rfl : j = i := by omega
        refine ⟨ps[j], avs[j], zs[j], List.getElem?_eq_getElem _, List.getElem?_eq_getElem _, List.getElem?_eq_getElem _, ?_, ?_, ?_⟩
        · rw [List.getElem?_set_ne (by omega), List.getElem?_set_ne (by omega), List.getElem?_set_self (by omega)]
        · rw [List.getElem?_set_ne (by omega), List.getElem?_set_self (by simp; omega), hre]
        · rw [List.getElem?_set_self (by simp; omega)]
    · refine cF rfl c15_17 (by simpa using h) ?_
      refine wp_exit ?_
      refine thenE ?_
      obtain rfl : i = n := by omega
      exact hx _ _ ⟨cs, c15_7, hB, hcc, hbel⟩
  clear s0 s1 s2
  rintro τ wi ⟨cs, t7, hB, hcc, hbel⟩
  refine hK11 _ _ ?_
  clear hK11 K11
  refine wp_seq_k (fun K18 hK18 => ?_)
  refine reg ?_
  refine sq rfl (do_move (tm rfl t7)) ?_
  refine sq rfl (do_assign (tm rfl hit)) ?_
  refine wnil ?_
  refine hK18 _ _ ?_
  clear hK18 K18
  refine wp_ret ?_
  rw [← hQ]
  exact ret1 rfl rfl hit ⟨cs, rfl, hB, hcc, hbel⟩

theorem nm29 : (Try.f29.name == "runtime.NumGoroutine") = false := by kernel_rfl
theorem bd29 : Try.f29.body.isNone = false := by kernel_rfl

theorem zzClone18 {R : Value → World → Prop} (w : World) (v : Value) (h : Calls Try.prog 29 #[v] w fun e w' => ∃ u, e = .returned u ∧ R u w') :
    Calls Try.prog 18 #[v] w fun e w' => ∃ u, e = .returned u ∧ R u w' := by
  refine enter (args := [v]) Try.func18 rfl Try.ntmps18 rfl ?_
  have s0 : frame0 [v] 0 = v := rfl
  generalize frame0 [v] = σ at *
  refine wp_seq_k (fun K19 hK19 => ?_)
  refine reg ?_
  refine sq rfl (do_assign ck) ?_
  refine wnil ?_
  refine hK19 _ _ ?_
  clear hK19 K19
  refine wp_seq_k (fun K20 hK20 => ?_)
  refine reg ?_
  refine sq rfl (do_move (tm rfl (nx rfl s0))) ?_
  refine sqc rfl (run_callF Try.func29 nm29 bd29 (map1 (tm rfl hit)) rfl) h ?_
  intro u w' hR
  refine sq rfl (do_assign (tm rfl hit)) ?_
  refine cutL ?_
  intro τ21 e21
  have c21_0 := (congrFun e21 0).trans (nx rfl (nx rfl (nx rfl (nx rfl s0))))
  have c21_2 := (congrFun e21 2).trans hit
  clear e21
  refine wnil ?_
  refine hK20 _ _ ?_
  clear hK20 K20
  refine wp_ret ?_
  exact ret1 rfl rfl c21_2 ⟨u, rfl, hR⟩
end Go.Proofs.Qxb6000003a
