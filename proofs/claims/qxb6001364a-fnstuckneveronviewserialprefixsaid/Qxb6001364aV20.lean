/-
  THE LAW ON STUCK.
-/
import Derived.Test.Qxb6001364aV20h
import Derived.Test.Qxb6001364aV13
import Derived.Test.Qxb6001364aV15
import Derived.Test.Qxb6001364aV16
namespace Go.Proofs.Qxb6001364a
open Go.Fra Go.RowKit Pl
set_option maxRecDepth 100000
set_option linter.unusedVariables false
theorem nm25 : (Try.f25.name == "runtime.NumGoroutine") = false := by kernel_rfl
theorem bd25 : Try.f25.body.isNone = false := by kernel_rfl
theorem nm26 : (Try.f26.name == "runtime.NumGoroutine") = false := by kernel_rfl
theorem bd26 : Try.f26.body.isNone = false := by kernel_rfl
theorem nm27 : (Try.f27.name == "runtime.NumGoroutine") = false := by kernel_rfl
theorem bd27 : Try.f27.body.isNone = false := by kernel_rfl
theorem nm28 : (Try.f28.name == "runtime.NumGoroutine") = false := by kernel_rfl
theorem bd28 : Try.f28.body.isNone = false := by kernel_rfl
theorem nm37 : (Try.f37.name == "runtime.NumGoroutine") = false := by kernel_rfl
theorem bd37 : Try.f37.body.isNone = false := by kernel_rfl
theorem stuck28 (w : World) (v : Value) (X : World → Prop) (h : Calls Try.prog 37 #[v] w fun e w' => e = .returned (.bool false) ∧ X w') : Calls Try.prog 28 #[v] w fun e w' => e = .returned (.bool false) ∧ X w' := by
  refine enter (args := [v]) Try.func28 rfl Try.ntmps28 rfl ?_
  generalize hQ : bodyPost Try.prog Try.f28 _ = Q
  have s0 : frame0 [v] 0 = v := rfl
  generalize frame0 [v] = σ at *
  refine wp_seq_k (fun K1 hK1 => ?_)
  refine reg ?_
  refine sq rfl (do_assign ck) ?_
  refine wnil ?_
  refine hK1 _ _ ?_
  clear hK1
  refine wp_seq_k (fun K2 hK2 => ?_)
  refine reg ?_
  refine sq rfl (do_move (tm rfl (nx rfl s0))) ?_
  refine sqc (R := fun c w' => c = .bool false ∧ X w') rfl (run_callF Try.func37 nm37 bd37 (map1 (tm rfl hit)) rfl) (h.mono ?_) ?_
  · rintro e w' ⟨rfl, hx⟩
    exact ⟨_, rfl, rfl, hx⟩
  rintro cv w1 ⟨rfl, hx⟩
  refine sq rfl (do_assign (tm rfl hit)) ?_
  refine cutL ?_
  intro τ3 e3
  have c3_0 := (congrFun e3 0).trans (nx rfl (nx rfl (nx rfl (nx rfl s0))))
  have c3_2 := (congrFun e3 2).trans hit
  clear e3
  refine wnil ?_
  refine hK2 _ _ ?_
  clear hK2
  refine wp_ret ?_
  rw [← hQ]
  exact ret1 rfl rfl c3_2 ⟨rfl, hx⟩
set_option maxHeartbeats 4000000 in
theorem law7 (w : World) (z : Int) (v1 v2 v3 v4 : Value) (nd it pm : List Int) (wr : List Bool) (h1 : IntR w v1 nd) (h2 : IntR w v2 it) (h3 : BoolR w v3 wr) (h4 : IntR w v4 pm) (ct : Int) :
    Calls Try.prog 7 #[.int .i64 z, v1, v2, v3, v4, .int .i64 ct] w fun e w' => e = .returned (.bool true) ∧ Below w.heap.size w w' := by
  have h1' := h1
  have h2' := h2
  have h3' := h3
  have h4' := h4
  obtain ⟨a1, c1, rfl, _⟩ := h1'
  obtain ⟨a2, c2, rfl, _⟩ := h2'
  obtain ⟨a3, c3, rfl, _⟩ := h3'
  obtain ⟨a4, c4, rfl, _⟩ := h4'
  refine enter (args := [Value.int .i64 z, .slice a1 nd.length c1, .slice a2 it.length c2, .slice a3 wr.length c3, .slice a4 pm.length c4, .int .i64 ct]) Try.func7 rfl Try.ntmps7 rfl ?_
  generalize hQ : bodyPost Try.prog Try.f7 _ = Q
  have hT : ∀ τ w', τ 12 = .bool true → Below w.heap.size w w' → Q .ret (Fr 185 τ) w' := by
    intro τ w' h hb
    rw [← hQ]
    exact ret1 rfl rfl h ⟨rfl, hb⟩
  have s0 : frame0 [Value.int .i64 z, .slice a1 nd.length c1, .slice a2 it.length c2, .slice a3 wr.length c3, .slice a4 pm.length c4, .int .i64 ct] 0 = .int .i64 z := rfl
  have s1 : frame0 [Value.int .i64 z, .slice a1 nd.length c1, .slice a2 it.length c2, .slice a3 wr.length c3, .slice a4 pm.length c4, .int .i64 ct] 1 = .slice a1 nd.length c1 := rfl
  have s2 : frame0 [Value.int .i64 z, .slice a1 nd.length c1, .slice a2 it.length c2, .slice a3 wr.length c3, .slice a4 pm.length c4, .int .i64 ct] 2 = .slice a2 it.length c2 := rfl
  have s3 : frame0 [Value.int .i64 z, .slice a1 nd.length c1, .slice a2 it.length c2, .slice a3 wr.length c3, .slice a4 pm.length c4, .int .i64 ct] 3 = .slice a3 wr.length c3 := rfl
  have s4 : frame0 [Value.int .i64 z, .slice a1 nd.length c1, .slice a2 it.length c2, .slice a3 wr.length c3, .slice a4 pm.length c4, .int .i64 ct] 4 = .slice a4 pm.length c4 := rfl
  have s5 : frame0 [Value.int .i64 z, .slice a1 nd.length c1, .slice a2 it.length c2, .slice a3 wr.length c3, .slice a4 pm.length c4, .int .i64 ct] 5 = .int .i64 ct := rfl
  generalize frame0 [Value.int .i64 z, .slice a1 nd.length c1, .slice a2 it.length c2, .slice a3 wr.length c3, .slice a4 pm.length c4, .int .i64 ct] = σ at *
  refine wp_seq_k (fun K4 hK4 => ?_)
  refine reg ?_
  refine sq rfl (do_assign ck) ?_
  refine wnil ?_
  refine hK4 _ _ ?_
  clear hK4
  refine wp_seq_k (fun K5 hK5 => ?_)
  refine wp_seq_k (fun K6 hK6 => ?_)
  refine reg ?_
  refine sq rfl (do_move (tm rfl (nx rfl s0))) ?_
  refine sq rfl (do_move (tm rfl (nx rfl (nx rfl s1)))) ?_
  refine sq rfl (do_move (tm rfl (nx rfl (nx rfl (nx rfl s2))))) ?_
  refine sq rfl (do_move (tm rfl (nx rfl (nx rfl (nx rfl (nx rfl s3)))))) ?_
  refine sq rfl (do_move (tm rfl (nx rfl (nx rfl (nx rfl (nx rfl (nx rfl s4))))))) ?_
  refine sq rfl (do_move (tm rfl (nx rfl (nx rfl (nx rfl (nx rfl (nx rfl (nx rfl s5)))))))) ?_
  refine sqc (R := fun v w' => ∃ b : Bool, v = .bool b ∧ w' = w ∧ (b = true → nd.length ≤ 1048576 ∧ it.length ≤ 1048576 ∧ wr.length ≤ 1048576 ∧ pm.length ≤ 1048576)) rfl
    (run_callF Try.func24 nm24 bd24 (map6 (tm rfl (nx rfl (nx rfl (nx rfl (nx rfl (nx rfl hit)))))) (tm rfl (nx rfl (nx rfl (nx rfl (nx rfl hit))))) (tm rfl (nx rfl (nx rfl (nx rfl hit)))) (tm rfl (nx rfl (nx rfl hit))) (tm rfl (nx rfl hit)) (tm rfl hit)) rfl) ((bytes24 w z _ _ _ _ _ _ _ _ _ _ _ _ _).mono ?_) ?_
  · rintro e w' ⟨b, rfl, h⟩
    exact ⟨_, rfl, b, rfl, h⟩
  rintro cv w1 ⟨b, rfl, hw1, hb⟩
  subst w1
  refine sq rfl (do_not (tm rfl hit)) ?_
  refine cutL ?_
  intro τ7 e7
  have c7_0 := (congrFun e7 0).trans (nx rfl (nx rfl (nx rfl (nx rfl (nx rfl (nx rfl (nx rfl (nx rfl (nx rfl s0)))))))))
  have c7_1 := (congrFun e7 1).trans (nx rfl (nx rfl (nx rfl (nx rfl (nx rfl (nx rfl (nx rfl (nx rfl (nx rfl s1)))))))))
  have c7_2 := (congrFun e7 2).trans (nx rfl (nx rfl (nx rfl (nx rfl (nx rfl (nx rfl (nx rfl (nx rfl (nx rfl s2)))))))))
  have c7_3 := (congrFun e7 3).trans (nx rfl (nx rfl (nx rfl (nx rfl (nx rfl (nx rfl (nx rfl (nx rfl (nx rfl s3)))))))))
  have c7_4 := (congrFun e7 4).trans (nx rfl (nx rfl (nx rfl (nx rfl (nx rfl (nx rfl (nx rfl (nx rfl (nx rfl s4)))))))))
  have c7_5 := (congrFun e7 5).trans (nx rfl (nx rfl (nx rfl (nx rfl (nx rfl (nx rfl (nx rfl (nx rfl (nx rfl s5)))))))))
  have c7_12 := (congrFun e7 12).trans (nx rfl (nx rfl (nx rfl (nx rfl (nx rfl (nx rfl (nx rfl (nx rfl hit))))))))
  have c7_34 := (congrFun e7 34).trans hit
  clear e7
  refine wnil ?_
  refine hK6 _ _ ?_
  clear hK6
  cases b with
  | false =>
    refine cT rfl c7_34 rfl ?_
    refine wp_seq_k (fun K8 hK8 => ?_)
    refine reg ?_
    refine sq rfl (do_assign ck) ?_
    refine wnil ?_
    refine hK8 _ _ ?_
    clear hK8
    refine wp_ret ?_
    refine thenR ?_
    exact hT _ _ hit (Below.refl _ _)
  | true =>
    refine cF rfl c7_34 rfl ?_
    refine wp_skip ?_
    refine hK5 _ _ ?_
    clear hK5
    obtain ⟨m1, m2, m3, m4⟩ := hb rfl
    by_cases q0 : 65536 < nd.length
    · refine wp_seq_k (fun K9 hK9 => ?_)
      refine wp_seq_k (fun K10 hK10 => ?_)
      refine reg ?_
      refine sq rfl (do_move (tm rfl c7_1)) ?_
      refine sq rfl (do_len Try.underlying22 (tm rfl hit)) ?_
      refine sq rfl (do_gtrT (tm rfl hit) ck (by omega)) ?_
      refine sq rfl (do_move (tm rfl hit)) ?_
      refine sqs rfl rfl hit rfl rfl ?_
      refine sqs rfl rfl (nx rfl hit) rfl rfl ?_
      refine sqs rfl rfl (nx rfl (nx rfl hit)) rfl rfl ?_
      refine sq rfl (do_pickT (tm rfl (nx rfl (nx rfl (nx rfl hit)))) rfl) ?_
      refine sq rfl (do_move (tm rfl hit)) ?_
      refine sqs rfl rfl hit rfl rfl ?_
      refine sqs rfl rfl (nx rfl hit) rfl rfl ?_
      refine sqs rfl rfl (nx rfl (nx rfl hit)) rfl rfl ?_
      refine sq rfl (do_pickT (tm rfl (nx rfl (nx rfl (nx rfl hit)))) rfl) ?_
      refine sq rfl (do_move (tm rfl hit)) ?_
      refine sqs rfl rfl hit rfl rfl ?_
      refine sqs rfl rfl (nx rfl hit) rfl rfl ?_
      refine sqs rfl rfl (nx rfl (nx rfl hit)) rfl rfl ?_
      refine sq rfl (do_pickT (tm rfl (nx rfl (nx rfl (nx rfl hit)))) rfl) ?_
      refine sq rfl (do_move (tm rfl hit)) ?_
      refine sqs rfl rfl hit rfl rfl ?_
      refine sqs rfl rfl (nx rfl hit) rfl rfl ?_
      refine sqs rfl rfl (nx rfl (nx rfl hit)) rfl rfl ?_
      refine sqs rfl rfl (nx rfl (nx rfl (nx rfl hit))) rfl rfl ?_
      refine sqs rfl rfl (nx rfl (nx rfl (nx rfl (nx rfl hit)))) rfl rfl ?_
      refine sqs rfl rfl (nx rfl (nx rfl (nx rfl (nx rfl (nx rfl hit))))) rfl rfl ?_
      refine sqs rfl rfl (nx rfl (nx rfl (nx rfl (nx rfl (nx rfl (nx rfl hit)))))) rfl rfl ?_
      refine sqs rfl rfl (nx rfl (nx rfl (nx rfl (nx rfl (nx rfl (nx rfl (nx rfl hit))))))) rfl rfl ?_
      refine sqs rfl rfl (nx rfl (nx rfl (nx rfl (nx rfl (nx rfl (nx rfl (nx rfl (nx rfl hit)))))))) rfl rfl ?_
      refine sqs rfl rfl (nx rfl (nx rfl (nx rfl (nx rfl (nx rfl (nx rfl (nx rfl (nx rfl (nx rfl hit))))))))) rfl rfl ?_
      refine sqs rfl rfl (nx rfl (nx rfl (nx rfl (nx rfl (nx rfl (nx rfl (nx rfl (nx rfl (nx rfl (nx rfl hit)))))))))) rfl rfl ?_
      refine sqs rfl rfl (nx rfl (nx rfl (nx rfl (nx rfl (nx rfl (nx rfl (nx rfl (nx rfl (nx rfl (nx rfl (nx rfl hit))))))))))) rfl rfl ?_
      refine sqs rfl rfl (nx rfl (nx rfl (nx rfl (nx rfl (nx rfl (nx rfl (nx rfl (nx rfl (nx rfl (nx rfl (nx rfl (nx rfl hit)))))))))))) rfl rfl ?_
      refine sqs rfl rfl (nx rfl (nx rfl (nx rfl (nx rfl (nx rfl (nx rfl (nx rfl (nx rfl (nx rfl (nx rfl (nx rfl (nx rfl (nx rfl hit))))))))))))) rfl rfl ?_
      refine sqs rfl rfl (nx rfl (nx rfl (nx rfl (nx rfl (nx rfl (nx rfl (nx rfl (nx rfl (nx rfl (nx rfl (nx rfl (nx rfl (nx rfl (nx rfl hit)))))))))))))) rfl rfl ?_
      refine sq rfl (do_pickT (tm rfl (nx rfl (nx rfl (nx rfl (nx rfl (nx rfl (nx rfl (nx rfl (nx rfl (nx rfl (nx rfl (nx rfl (nx rfl (nx rfl (nx rfl (nx rfl hit)))))))))))))))) rfl) ?_
      refine cutL ?_
      intro τ11 e11
      have c11_0 := (congrFun e11 0).trans (nx rfl (nx rfl (nx rfl (nx rfl (nx rfl (nx rfl (nx rfl (nx rfl (nx rfl (nx rfl (nx rfl (nx rfl (nx rfl (nx rfl (nx rfl (nx rfl (nx rfl (nx rfl (nx rfl (nx rfl (nx rfl (nx rfl (nx rfl (nx rfl (nx rfl (nx rfl (nx rfl (nx rfl (nx rfl (nx rfl (nx rfl (nx rfl (nx rfl (nx rfl (nx rfl c7_0)))))))))))))))))))))))))))))))))))
      have c11_1 := (congrFun e11 1).trans (nx rfl (nx rfl (nx rfl (nx rfl (nx rfl (nx rfl (nx rfl (nx rfl (nx rfl (nx rfl (nx rfl (nx rfl (nx rfl (nx rfl (nx rfl (nx rfl (nx rfl (nx rfl (nx rfl (nx rfl (nx rfl (nx rfl (nx rfl (nx rfl (nx rfl (nx rfl (nx rfl (nx rfl (nx rfl (nx rfl (nx rfl (nx rfl (nx rfl (nx rfl (nx rfl c7_1)))))))))))))))))))))))))))))))))))
      have c11_2 := (congrFun e11 2).trans (nx rfl (nx rfl (nx rfl (nx rfl (nx rfl (nx rfl (nx rfl (nx rfl (nx rfl (nx rfl (nx rfl (nx rfl (nx rfl (nx rfl (nx rfl (nx rfl (nx rfl (nx rfl (nx rfl (nx rfl (nx rfl (nx rfl (nx rfl (nx rfl (nx rfl (nx rfl (nx rfl (nx rfl (nx rfl (nx rfl (nx rfl (nx rfl (nx rfl (nx rfl (nx rfl c7_2)))))))))))))))))))))))))))))))))))
      have c11_3 := (congrFun e11 3).trans (nx rfl (nx rfl (nx rfl (nx rfl (nx rfl (nx rfl (nx rfl (nx rfl (nx rfl (nx rfl (nx rfl (nx rfl (nx rfl (nx rfl (nx rfl (nx rfl (nx rfl (nx rfl (nx rfl (nx rfl (nx rfl (nx rfl (nx rfl (nx rfl (nx rfl (nx rfl (nx rfl (nx rfl (nx rfl (nx rfl (nx rfl (nx rfl (nx rfl (nx rfl (nx rfl c7_3)))))))))))))))))))))))))))))))))))
      have c11_4 := (congrFun e11 4).trans (nx rfl (nx rfl (nx rfl (nx rfl (nx rfl (nx rfl (nx rfl (nx rfl (nx rfl (nx rfl (nx rfl (nx rfl (nx rfl (nx rfl (nx rfl (nx rfl (nx rfl (nx rfl (nx rfl (nx rfl (nx rfl (nx rfl (nx rfl (nx rfl (nx rfl (nx rfl (nx rfl (nx rfl (nx rfl (nx rfl (nx rfl (nx rfl (nx rfl (nx rfl (nx rfl c7_4)))))))))))))))))))))))))))))))))))
      have c11_5 := (congrFun e11 5).trans (nx rfl (nx rfl (nx rfl (nx rfl (nx rfl (nx rfl (nx rfl (nx rfl (nx rfl (nx rfl (nx rfl (nx rfl (nx rfl (nx rfl (nx rfl (nx rfl (nx rfl (nx rfl (nx rfl (nx rfl (nx rfl (nx rfl (nx rfl (nx rfl (nx rfl (nx rfl (nx rfl (nx rfl (nx rfl (nx rfl (nx rfl (nx rfl (nx rfl (nx rfl (nx rfl c7_5)))))))))))))))))))))))))))))))))))
      have c11_12 := (congrFun e11 12).trans (nx rfl (nx rfl (nx rfl (nx rfl (nx rfl (nx rfl (nx rfl (nx rfl (nx rfl (nx rfl (nx rfl (nx rfl (nx rfl (nx rfl (nx rfl (nx rfl (nx rfl (nx rfl (nx rfl (nx rfl (nx rfl (nx rfl (nx rfl (nx rfl (nx rfl (nx rfl (nx rfl (nx rfl (nx rfl (nx rfl (nx rfl (nx rfl (nx rfl (nx rfl (nx rfl c7_12)))))))))))))))))))))))))))))))))))
      have c11_69 := (congrFun e11 69).trans hit
      clear e11
      refine wnil ?_
      refine hK10 _ _ ?_
      clear hK10
      refine cT rfl c11_69 rfl ?_
      refine wp_seq_k (fun K12 hK12 => ?_)
      refine reg ?_
      refine sq rfl (do_assign ck) ?_
      refine wnil ?_
      refine hK12 _ _ ?_
      clear hK12
      refine wp_ret ?_
      refine thenR ?_
      exact hT _ _ hit (Below.refl _ _)
    · by_cases q1 : 65536 < it.length
      · refine wp_seq_k (fun K13 hK13 => ?_)
        refine wp_seq_k (fun K14 hK14 => ?_)
        refine reg ?_
        refine sq rfl (do_move (tm rfl c7_1)) ?_
        refine sq rfl (do_len Try.underlying22 (tm rfl hit)) ?_
        refine sq rfl (do_gtrF (tm rfl hit) ck (by omega)) ?_
        refine sq rfl (do_move (tm rfl hit)) ?_
        refine sqg rfl rfl hit rfl (do_move (tm rfl (nx rfl (nx rfl (nx rfl (nx rfl c7_2)))))) ?_
        refine sqg rfl rfl (nx rfl hit) rfl (do_len Try.underlying22 (tm rfl hit)) ?_
        refine sqg rfl rfl (nx rfl (nx rfl hit)) rfl (do_gtrT (tm rfl hit) ck (by omega)) ?_
        refine sq rfl (do_pickF (tm rfl (nx rfl (nx rfl (nx rfl hit)))) (tm rfl hit)) ?_
        refine sq rfl (do_move (tm rfl hit)) ?_
        refine sqs rfl rfl hit rfl rfl ?_
        refine sqs rfl rfl (nx rfl hit) rfl rfl ?_
        refine sqs rfl rfl (nx rfl (nx rfl hit)) rfl rfl ?_
        refine sq rfl (do_pickT (tm rfl (nx rfl (nx rfl (nx rfl hit)))) rfl) ?_
        refine sq rfl (do_move (tm rfl hit)) ?_
        refine sqs rfl rfl hit rfl rfl ?_
        refine sqs rfl rfl (nx rfl hit) rfl rfl ?_
        refine sqs rfl rfl (nx rfl (nx rfl hit)) rfl rfl ?_
        refine sq rfl (do_pickT (tm rfl (nx rfl (nx rfl (nx rfl hit)))) rfl) ?_
        refine sq rfl (do_move (tm rfl hit)) ?_
        refine sqs rfl rfl hit rfl rfl ?_
        refine sqs rfl rfl (nx rfl hit) rfl rfl ?_
        refine sqs rfl rfl (nx rfl (nx rfl hit)) rfl rfl ?_
        refine sqs rfl rfl (nx rfl (nx rfl (nx rfl hit))) rfl rfl ?_
        refine sqs rfl rfl (nx rfl (nx rfl (nx rfl (nx rfl hit)))) rfl rfl ?_
        refine sqs rfl rfl (nx rfl (nx rfl (nx rfl (nx rfl (nx rfl hit))))) rfl rfl ?_
        refine sqs rfl rfl (nx rfl (nx rfl (nx rfl (nx rfl (nx rfl (nx rfl hit)))))) rfl rfl ?_
        refine sqs rfl rfl (nx rfl (nx rfl (nx rfl (nx rfl (nx rfl (nx rfl (nx rfl hit))))))) rfl rfl ?_
        refine sqs rfl rfl (nx rfl (nx rfl (nx rfl (nx rfl (nx rfl (nx rfl (nx rfl (nx rfl hit)))))))) rfl rfl ?_
        refine sqs rfl rfl (nx rfl (nx rfl (nx rfl (nx rfl (nx rfl (nx rfl (nx rfl (nx rfl (nx rfl hit))))))))) rfl rfl ?_
        refine sqs rfl rfl (nx rfl (nx rfl (nx rfl (nx rfl (nx rfl (nx rfl (nx rfl (nx rfl (nx rfl (nx rfl hit)))))))))) rfl rfl ?_
        refine sqs rfl rfl (nx rfl (nx rfl (nx rfl (nx rfl (nx rfl (nx rfl (nx rfl (nx rfl (nx rfl (nx rfl (nx rfl hit))))))))))) rfl rfl ?_
        refine sqs rfl rfl (nx rfl (nx rfl (nx rfl (nx rfl (nx rfl (nx rfl (nx rfl (nx rfl (nx rfl (nx rfl (nx rfl (nx rfl hit)))))))))))) rfl rfl ?_
        refine sqs rfl rfl (nx rfl (nx rfl (nx rfl (nx rfl (nx rfl (nx rfl (nx rfl (nx rfl (nx rfl (nx rfl (nx rfl (nx rfl (nx rfl hit))))))))))))) rfl rfl ?_
        refine sqs rfl rfl (nx rfl (nx rfl (nx rfl (nx rfl (nx rfl (nx rfl (nx rfl (nx rfl (nx rfl (nx rfl (nx rfl (nx rfl (nx rfl (nx rfl hit)))))))))))))) rfl rfl ?_
        refine sq rfl (do_pickT (tm rfl (nx rfl (nx rfl (nx rfl (nx rfl (nx rfl (nx rfl (nx rfl (nx rfl (nx rfl (nx rfl (nx rfl (nx rfl (nx rfl (nx rfl (nx rfl hit)))))))))))))))) rfl) ?_
        refine cutL ?_
        intro τ15 e15
        have c15_0 := (congrFun e15 0).trans (nx rfl (nx rfl (nx rfl (nx rfl (nx rfl (nx rfl (nx rfl (nx rfl (nx rfl (nx rfl (nx rfl (nx rfl (nx rfl (nx rfl (nx rfl (nx rfl (nx rfl (nx rfl (nx rfl (nx rfl (nx rfl (nx rfl (nx rfl (nx rfl (nx rfl (nx rfl (nx rfl (nx rfl (nx rfl (nx rfl (nx rfl (nx rfl (nx rfl (nx rfl (nx rfl c7_0)))))))))))))))))))))))))))))))))))
        have c15_1 := (congrFun e15 1).trans (nx rfl (nx rfl (nx rfl (nx rfl (nx rfl (nx rfl (nx rfl (nx rfl (nx rfl (nx rfl (nx rfl (nx rfl (nx rfl (nx rfl (nx rfl (nx rfl (nx rfl (nx rfl (nx rfl (nx rfl (nx rfl (nx rfl (nx rfl (nx rfl (nx rfl (nx rfl (nx rfl (nx rfl (nx rfl (nx rfl (nx rfl (nx rfl (nx rfl (nx rfl (nx rfl c7_1)))))))))))))))))))))))))))))))))))
        have c15_2 := (congrFun e15 2).trans (nx rfl (nx rfl (nx rfl (nx rfl (nx rfl (nx rfl (nx rfl (nx rfl (nx rfl (nx rfl (nx rfl (nx rfl (nx rfl (nx rfl (nx rfl (nx rfl (nx rfl (nx rfl (nx rfl (nx rfl (nx rfl (nx rfl (nx rfl (nx rfl (nx rfl (nx rfl (nx rfl (nx rfl (nx rfl (nx rfl (nx rfl (nx rfl (nx rfl (nx rfl (nx rfl c7_2)))))))))))))))))))))))))))))))))))
        have c15_3 := (congrFun e15 3).trans (nx rfl (nx rfl (nx rfl (nx rfl (nx rfl (nx rfl (nx rfl (nx rfl (nx rfl (nx rfl (nx rfl (nx rfl (nx rfl (nx rfl (nx rfl (nx rfl (nx rfl (nx rfl (nx rfl (nx rfl (nx rfl (nx rfl (nx rfl (nx rfl (nx rfl (nx rfl (nx rfl (nx rfl (nx rfl (nx rfl (nx rfl (nx rfl (nx rfl (nx rfl (nx rfl c7_3)))))))))))))))))))))))))))))))))))
        have c15_4 := (congrFun e15 4).trans (nx rfl (nx rfl (nx rfl (nx rfl (nx rfl (nx rfl (nx rfl (nx rfl (nx rfl (nx rfl (nx rfl (nx rfl (nx rfl (nx rfl (nx rfl (nx rfl (nx rfl (nx rfl (nx rfl (nx rfl (nx rfl (nx rfl (nx rfl (nx rfl (nx rfl (nx rfl (nx rfl (nx rfl (nx rfl (nx rfl (nx rfl (nx rfl (nx rfl (nx rfl (nx rfl c7_4)))))))))))))))))))))))))))))))))))
        have c15_5 := (congrFun e15 5).trans (nx rfl (nx rfl (nx rfl (nx rfl (nx rfl (nx rfl (nx rfl (nx rfl (nx rfl (nx rfl (nx rfl (nx rfl (nx rfl (nx rfl (nx rfl (nx rfl (nx rfl (nx rfl (nx rfl (nx rfl (nx rfl (nx rfl (nx rfl (nx rfl (nx rfl (nx rfl (nx rfl (nx rfl (nx rfl (nx rfl (nx rfl (nx rfl (nx rfl (nx rfl (nx rfl c7_5)))))))))))))))))))))))))))))))))))
        have c15_12 := (congrFun e15 12).trans (nx rfl (nx rfl (nx rfl (nx rfl (nx rfl (nx rfl (nx rfl (nx rfl (nx rfl (nx rfl (nx rfl (nx rfl (nx rfl (nx rfl (nx rfl (nx rfl (nx rfl (nx rfl (nx rfl (nx rfl (nx rfl (nx rfl (nx rfl (nx rfl (nx rfl (nx rfl (nx rfl (nx rfl (nx rfl (nx rfl (nx rfl (nx rfl (nx rfl (nx rfl (nx rfl c7_12)))))))))))))))))))))))))))))))))))
        have c15_69 := (congrFun e15 69).trans hit
        clear e15
        refine wnil ?_
        refine hK14 _ _ ?_
        clear hK14
        refine cT rfl c15_69 rfl ?_
        refine wp_seq_k (fun K16 hK16 => ?_)
        refine reg ?_
        refine sq rfl (do_assign ck) ?_
        refine wnil ?_
        refine hK16 _ _ ?_
        clear hK16
        refine wp_ret ?_
        refine thenR ?_
        exact hT _ _ hit (Below.refl _ _)
      · by_cases q2 : 65536 < wr.length
        · refine wp_seq_k (fun K17 hK17 => ?_)
          refine wp_seq_k (fun K18 hK18 => ?_)
          refine reg ?_
          refine sq rfl (do_move (tm rfl c7_1)) ?_
          refine sq rfl (do_len Try.underlying22 (tm rfl hit)) ?_
          refine sq rfl (do_gtrF (tm rfl hit) ck (by omega)) ?_
          refine sq rfl (do_move (tm rfl hit)) ?_
          refine sqg rfl rfl hit rfl (do_move (tm rfl (nx rfl (nx rfl (nx rfl (nx rfl c7_2)))))) ?_
          refine sqg rfl rfl (nx rfl hit) rfl (do_len Try.underlying22 (tm rfl hit)) ?_
          refine sqg rfl rfl (nx rfl (nx rfl hit)) rfl (do_gtrF (tm rfl hit) ck (by omega)) ?_
          refine sq rfl (do_pickF (tm rfl (nx rfl (nx rfl (nx rfl hit)))) (tm rfl hit)) ?_
          refine sq rfl (do_move (tm rfl hit)) ?_
          refine sqg rfl rfl hit rfl (do_move (tm rfl (nx rfl (nx rfl (nx rfl (nx rfl (nx rfl (nx rfl (nx rfl (nx rfl (nx rfl c7_3))))))))))) ?_
          refine sqg rfl rfl (nx rfl hit) rfl (do_len Try.underlying23 (tm rfl hit)) ?_
          refine sqg rfl rfl (nx rfl (nx rfl hit)) rfl (do_gtrT (tm rfl hit) ck (by omega)) ?_
          refine sq rfl (do_pickF (tm rfl (nx rfl (nx rfl (nx rfl hit)))) (tm rfl hit)) ?_
          refine sq rfl (do_move (tm rfl hit)) ?_
          refine sqs rfl rfl hit rfl rfl ?_
          refine sqs rfl rfl (nx rfl hit) rfl rfl ?_
          refine sqs rfl rfl (nx rfl (nx rfl hit)) rfl rfl ?_
          refine sq rfl (do_pickT (tm rfl (nx rfl (nx rfl (nx rfl hit)))) rfl) ?_
          refine sq rfl (do_move (tm rfl hit)) ?_
          refine sqs rfl rfl hit rfl rfl ?_
          refine sqs rfl rfl (nx rfl hit) rfl rfl ?_
          refine sqs rfl rfl (nx rfl (nx rfl hit)) rfl rfl ?_
          refine sqs rfl rfl (nx rfl (nx rfl (nx rfl hit))) rfl rfl ?_
          refine sqs rfl rfl (nx rfl (nx rfl (nx rfl (nx rfl hit)))) rfl rfl ?_
          refine sqs rfl rfl (nx rfl (nx rfl (nx rfl (nx rfl (nx rfl hit))))) rfl rfl ?_
          refine sqs rfl rfl (nx rfl (nx rfl (nx rfl (nx rfl (nx rfl (nx rfl hit)))))) rfl rfl ?_
          refine sqs rfl rfl (nx rfl (nx rfl (nx rfl (nx rfl (nx rfl (nx rfl (nx rfl hit))))))) rfl rfl ?_
          refine sqs rfl rfl (nx rfl (nx rfl (nx rfl (nx rfl (nx rfl (nx rfl (nx rfl (nx rfl hit)))))))) rfl rfl ?_
          refine sqs rfl rfl (nx rfl (nx rfl (nx rfl (nx rfl (nx rfl (nx rfl (nx rfl (nx rfl (nx rfl hit))))))))) rfl rfl ?_
          refine sqs rfl rfl (nx rfl (nx rfl (nx rfl (nx rfl (nx rfl (nx rfl (nx rfl (nx rfl (nx rfl (nx rfl hit)))))))))) rfl rfl ?_
          refine sqs rfl rfl (nx rfl (nx rfl (nx rfl (nx rfl (nx rfl (nx rfl (nx rfl (nx rfl (nx rfl (nx rfl (nx rfl hit))))))))))) rfl rfl ?_
          refine sqs rfl rfl (nx rfl (nx rfl (nx rfl (nx rfl (nx rfl (nx rfl (nx rfl (nx rfl (nx rfl (nx rfl (nx rfl (nx rfl hit)))))))))))) rfl rfl ?_
          refine sqs rfl rfl (nx rfl (nx rfl (nx rfl (nx rfl (nx rfl (nx rfl (nx rfl (nx rfl (nx rfl (nx rfl (nx rfl (nx rfl (nx rfl hit))))))))))))) rfl rfl ?_
          refine sqs rfl rfl (nx rfl (nx rfl (nx rfl (nx rfl (nx rfl (nx rfl (nx rfl (nx rfl (nx rfl (nx rfl (nx rfl (nx rfl (nx rfl (nx rfl hit)))))))))))))) rfl rfl ?_
          refine sq rfl (do_pickT (tm rfl (nx rfl (nx rfl (nx rfl (nx rfl (nx rfl (nx rfl (nx rfl (nx rfl (nx rfl (nx rfl (nx rfl (nx rfl (nx rfl (nx rfl (nx rfl hit)))))))))))))))) rfl) ?_
          refine cutL ?_
          intro τ19 e19
          have c19_0 := (congrFun e19 0).trans (nx rfl (nx rfl (nx rfl (nx rfl (nx rfl (nx rfl (nx rfl (nx rfl (nx rfl (nx rfl (nx rfl (nx rfl (nx rfl (nx rfl (nx rfl (nx rfl (nx rfl (nx rfl (nx rfl (nx rfl (nx rfl (nx rfl (nx rfl (nx rfl (nx rfl (nx rfl (nx rfl (nx rfl (nx rfl (nx rfl (nx rfl (nx rfl (nx rfl (nx rfl (nx rfl c7_0)))))))))))))))))))))))))))))))))))
          have c19_1 := (congrFun e19 1).trans (nx rfl (nx rfl (nx rfl (nx rfl (nx rfl (nx rfl (nx rfl (nx rfl (nx rfl (nx rfl (nx rfl (nx rfl (nx rfl (nx rfl (nx rfl (nx rfl (nx rfl (nx rfl (nx rfl (nx rfl (nx rfl (nx rfl (nx rfl (nx rfl (nx rfl (nx rfl (nx rfl (nx rfl (nx rfl (nx rfl (nx rfl (nx rfl (nx rfl (nx rfl (nx rfl c7_1)))))))))))))))))))))))))))))))))))
          have c19_2 := (congrFun e19 2).trans (nx rfl (nx rfl (nx rfl (nx rfl (nx rfl (nx rfl (nx rfl (nx rfl (nx rfl (nx rfl (nx rfl (nx rfl (nx rfl (nx rfl (nx rfl (nx rfl (nx rfl (nx rfl (nx rfl (nx rfl (nx rfl (nx rfl (nx rfl (nx rfl (nx rfl (nx rfl (nx rfl (nx rfl (nx rfl (nx rfl (nx rfl (nx rfl (nx rfl (nx rfl (nx rfl c7_2)))))))))))))))))))))))))))))))))))
          have c19_3 := (congrFun e19 3).trans (nx rfl (nx rfl (nx rfl (nx rfl (nx rfl (nx rfl (nx rfl (nx rfl (nx rfl (nx rfl (nx rfl (nx rfl (nx rfl (nx rfl (nx rfl (nx rfl (nx rfl (nx rfl (nx rfl (nx rfl (nx rfl (nx rfl (nx rfl (nx rfl (nx rfl (nx rfl (nx rfl (nx rfl (nx rfl (nx rfl (nx rfl (nx rfl (nx rfl (nx rfl (nx rfl c7_3)))))))))))))))))))))))))))))))))))
          have c19_4 := (congrFun e19 4).trans (nx rfl (nx rfl (nx rfl (nx rfl (nx rfl (nx rfl (nx rfl (nx rfl (nx rfl (nx rfl (nx rfl (nx rfl (nx rfl (nx rfl (nx rfl (nx rfl (nx rfl (nx rfl (nx rfl (nx rfl (nx rfl (nx rfl (nx rfl (nx rfl (nx rfl (nx rfl (nx rfl (nx rfl (nx rfl (nx rfl (nx rfl (nx rfl (nx rfl (nx rfl (nx rfl c7_4)))))))))))))))))))))))))))))))))))
          have c19_5 := (congrFun e19 5).trans (nx rfl (nx rfl (nx rfl (nx rfl (nx rfl (nx rfl (nx rfl (nx rfl (nx rfl (nx rfl (nx rfl (nx rfl (nx rfl (nx rfl (nx rfl (nx rfl (nx rfl (nx rfl (nx rfl (nx rfl (nx rfl (nx rfl (nx rfl (nx rfl (nx rfl (nx rfl (nx rfl (nx rfl (nx rfl (nx rfl (nx rfl (nx rfl (nx rfl (nx rfl (nx rfl c7_5)))))))))))))))))))))))))))))))))))
          have c19_12 := (congrFun e19 12).trans (nx rfl (nx rfl (nx rfl (nx rfl (nx rfl (nx rfl (nx rfl (nx rfl (nx rfl (nx rfl (nx rfl (nx rfl (nx rfl (nx rfl (nx rfl (nx rfl (nx rfl (nx rfl (nx rfl (nx rfl (nx rfl (nx rfl (nx rfl (nx rfl (nx rfl (nx rfl (nx rfl (nx rfl (nx rfl (nx rfl (nx rfl (nx rfl (nx rfl (nx rfl (nx rfl c7_12)))))))))))))))))))))))))))))))))))
          have c19_69 := (congrFun e19 69).trans hit
          clear e19
          refine wnil ?_
          refine hK18 _ _ ?_
          clear hK18
          refine cT rfl c19_69 rfl ?_
          refine wp_seq_k (fun K20 hK20 => ?_)
          refine reg ?_
          refine sq rfl (do_assign ck) ?_
          refine wnil ?_
          refine hK20 _ _ ?_
          clear hK20
          refine wp_ret ?_
          refine thenR ?_
          exact hT _ _ hit (Below.refl _ _)
        · by_cases q3 : 65536 < pm.length
          · refine wp_seq_k (fun K21 hK21 => ?_)
            refine wp_seq_k (fun K22 hK22 => ?_)
            refine reg ?_
            refine sq rfl (do_move (tm rfl c7_1)) ?_
            refine sq rfl (do_len Try.underlying22 (tm rfl hit)) ?_
            refine sq rfl (do_gtrF (tm rfl hit) ck (by omega)) ?_
            refine sq rfl (do_move (tm rfl hit)) ?_
            refine sqg rfl rfl hit rfl (do_move (tm rfl (nx rfl (nx rfl (nx rfl (nx rfl c7_2)))))) ?_
            refine sqg rfl rfl (nx rfl hit) rfl (do_len Try.underlying22 (tm rfl hit)) ?_
            refine sqg rfl rfl (nx rfl (nx rfl hit)) rfl (do_gtrF (tm rfl hit) ck (by omega)) ?_
            refine sq rfl (do_pickF (tm rfl (nx rfl (nx rfl (nx rfl hit)))) (tm rfl hit)) ?_
            refine sq rfl (do_move (tm rfl hit)) ?_
            refine sqg rfl rfl hit rfl (do_move (tm rfl (nx rfl (nx rfl (nx rfl (nx rfl (nx rfl (nx rfl (nx rfl (nx rfl (nx rfl c7_3))))))))))) ?_
            refine sqg rfl rfl (nx rfl hit) rfl (do_len Try.underlying23 (tm rfl hit)) ?_
            refine sqg rfl rfl (nx rfl (nx rfl hit)) rfl (do_gtrF (tm rfl hit) ck (by omega)) ?_
            refine sq rfl (do_pickF (tm rfl (nx rfl (nx rfl (nx rfl hit)))) (tm rfl hit)) ?_
            refine sq rfl (do_move (tm rfl hit)) ?_
            refine sqg rfl rfl hit rfl (do_move (tm rfl (nx rfl (nx rfl (nx rfl (nx rfl (nx rfl (nx rfl (nx rfl (nx rfl (nx rfl (nx rfl (nx rfl (nx rfl (nx rfl (nx rfl c7_4)))))))))))))))) ?_
            refine sqg rfl rfl (nx rfl hit) rfl (do_len Try.underlying22 (tm rfl hit)) ?_
            refine sqg rfl rfl (nx rfl (nx rfl hit)) rfl (do_gtrT (tm rfl hit) ck (by omega)) ?_
            refine sq rfl (do_pickF (tm rfl (nx rfl (nx rfl (nx rfl hit)))) (tm rfl hit)) ?_
            refine sq rfl (do_move (tm rfl hit)) ?_
            refine sqs rfl rfl hit rfl rfl ?_
            refine sqs rfl rfl (nx rfl hit) rfl rfl ?_
            refine sqs rfl rfl (nx rfl (nx rfl hit)) rfl rfl ?_
            refine sqs rfl rfl (nx rfl (nx rfl (nx rfl hit))) rfl rfl ?_
            refine sqs rfl rfl (nx rfl (nx rfl (nx rfl (nx rfl hit)))) rfl rfl ?_
            refine sqs rfl rfl (nx rfl (nx rfl (nx rfl (nx rfl (nx rfl hit))))) rfl rfl ?_
            refine sqs rfl rfl (nx rfl (nx rfl (nx rfl (nx rfl (nx rfl (nx rfl hit)))))) rfl rfl ?_
            refine sqs rfl rfl (nx rfl (nx rfl (nx rfl (nx rfl (nx rfl (nx rfl (nx rfl hit))))))) rfl rfl ?_
            refine sqs rfl rfl (nx rfl (nx rfl (nx rfl (nx rfl (nx rfl (nx rfl (nx rfl (nx rfl hit)))))))) rfl rfl ?_
            refine sqs rfl rfl (nx rfl (nx rfl (nx rfl (nx rfl (nx rfl (nx rfl (nx rfl (nx rfl (nx rfl hit))))))))) rfl rfl ?_
            refine sqs rfl rfl (nx rfl (nx rfl (nx rfl (nx rfl (nx rfl (nx rfl (nx rfl (nx rfl (nx rfl (nx rfl hit)))))))))) rfl rfl ?_
            refine sqs rfl rfl (nx rfl (nx rfl (nx rfl (nx rfl (nx rfl (nx rfl (nx rfl (nx rfl (nx rfl (nx rfl (nx rfl hit))))))))))) rfl rfl ?_
            refine sqs rfl rfl (nx rfl (nx rfl (nx rfl (nx rfl (nx rfl (nx rfl (nx rfl (nx rfl (nx rfl (nx rfl (nx rfl (nx rfl hit)))))))))))) rfl rfl ?_
            refine sqs rfl rfl (nx rfl (nx rfl (nx rfl (nx rfl (nx rfl (nx rfl (nx rfl (nx rfl (nx rfl (nx rfl (nx rfl (nx rfl (nx rfl hit))))))))))))) rfl rfl ?_
            refine sqs rfl rfl (nx rfl (nx rfl (nx rfl (nx rfl (nx rfl (nx rfl (nx rfl (nx rfl (nx rfl (nx rfl (nx rfl (nx rfl (nx rfl (nx rfl hit)))))))))))))) rfl rfl ?_
            refine sq rfl (do_pickT (tm rfl (nx rfl (nx rfl (nx rfl (nx rfl (nx rfl (nx rfl (nx rfl (nx rfl (nx rfl (nx rfl (nx rfl (nx rfl (nx rfl (nx rfl (nx rfl hit)))))))))))))))) rfl) ?_
            refine cutL ?_
            intro τ23 e23
            have c23_0 := (congrFun e23 0).trans (nx rfl (nx rfl (nx rfl (nx rfl (nx rfl (nx rfl (nx rfl (nx rfl (nx rfl (nx rfl (nx rfl (nx rfl (nx rfl (nx rfl (nx rfl (nx rfl (nx rfl (nx rfl (nx rfl (nx rfl (nx rfl (nx rfl (nx rfl (nx rfl (nx rfl (nx rfl (nx rfl (nx rfl (nx rfl (nx rfl (nx rfl (nx rfl (nx rfl (nx rfl (nx rfl c7_0)))))))))))))))))))))))))))))))))))
            have c23_1 := (congrFun e23 1).trans (nx rfl (nx rfl (nx rfl (nx rfl (nx rfl (nx rfl (nx rfl (nx rfl (nx rfl (nx rfl (nx rfl (nx rfl (nx rfl (nx rfl (nx rfl (nx rfl (nx rfl (nx rfl (nx rfl (nx rfl (nx rfl (nx rfl (nx rfl (nx rfl (nx rfl (nx rfl (nx rfl (nx rfl (nx rfl (nx rfl (nx rfl (nx rfl (nx rfl (nx rfl (nx rfl c7_1)))))))))))))))))))))))))))))))))))
            have c23_2 := (congrFun e23 2).trans (nx rfl (nx rfl (nx rfl (nx rfl (nx rfl (nx rfl (nx rfl (nx rfl (nx rfl (nx rfl (nx rfl (nx rfl (nx rfl (nx rfl (nx rfl (nx rfl (nx rfl (nx rfl (nx rfl (nx rfl (nx rfl (nx rfl (nx rfl (nx rfl (nx rfl (nx rfl (nx rfl (nx rfl (nx rfl (nx rfl (nx rfl (nx rfl (nx rfl (nx rfl (nx rfl c7_2)))))))))))))))))))))))))))))))))))
            have c23_3 := (congrFun e23 3).trans (nx rfl (nx rfl (nx rfl (nx rfl (nx rfl (nx rfl (nx rfl (nx rfl (nx rfl (nx rfl (nx rfl (nx rfl (nx rfl (nx rfl (nx rfl (nx rfl (nx rfl (nx rfl (nx rfl (nx rfl (nx rfl (nx rfl (nx rfl (nx rfl (nx rfl (nx rfl (nx rfl (nx rfl (nx rfl (nx rfl (nx rfl (nx rfl (nx rfl (nx rfl (nx rfl c7_3)))))))))))))))))))))))))))))))))))
            have c23_4 := (congrFun e23 4).trans (nx rfl (nx rfl (nx rfl (nx rfl (nx rfl (nx rfl (nx rfl (nx rfl (nx rfl (nx rfl (nx rfl (nx rfl (nx rfl (nx rfl (nx rfl (nx rfl (nx rfl (nx rfl (nx rfl (nx rfl (nx rfl (nx rfl (nx rfl (nx rfl (nx rfl (nx rfl (nx rfl (nx rfl (nx rfl (nx rfl (nx rfl (nx rfl (nx rfl (nx rfl (nx rfl c7_4)))))))))))))))))))))))))))))))))))
            have c23_5 := (congrFun e23 5).trans (nx rfl (nx rfl (nx rfl (nx rfl (nx rfl (nx rfl (nx rfl (nx rfl (nx rfl (nx rfl (nx rfl (nx rfl (nx rfl (nx rfl (nx rfl (nx rfl (nx rfl (nx rfl (nx rfl (nx rfl (nx rfl (nx rfl (nx rfl (nx rfl (nx rfl (nx rfl (nx rfl (nx rfl (nx rfl (nx rfl (nx rfl (nx rfl (nx rfl (nx rfl (nx rfl c7_5)))))))))))))))))))))))))))))))))))
            have c23_12 := (congrFun e23 12).trans (nx rfl (nx rfl (nx rfl (nx rfl (nx rfl (nx rfl (nx rfl (nx rfl (nx rfl (nx rfl (nx rfl (nx rfl (nx rfl (nx rfl (nx rfl (nx rfl (nx rfl (nx rfl (nx rfl (nx rfl (nx rfl (nx rfl (nx rfl (nx rfl (nx rfl (nx rfl (nx rfl (nx rfl (nx rfl (nx rfl (nx rfl (nx rfl (nx rfl (nx rfl (nx rfl c7_12)))))))))))))))))))))))))))))))))))
            have c23_69 := (congrFun e23 69).trans hit
            clear e23
            refine wnil ?_
            refine hK22 _ _ ?_
            clear hK22
            refine cT rfl c23_69 rfl ?_
            refine wp_seq_k (fun K24 hK24 => ?_)
            refine reg ?_
            refine sq rfl (do_assign ck) ?_
            refine wnil ?_
            refine hK24 _ _ ?_
            clear hK24
            refine wp_ret ?_
            refine thenR ?_
            exact hT _ _ hit (Below.refl _ _)
          · by_cases q4 : 1048576 < 8 * nd.length + 8 * it.length + wr.length + 8 * pm.length
            · refine wp_seq_k (fun K25 hK25 => ?_)
              refine wp_seq_k (fun K26 hK26 => ?_)
              refine reg ?_
              refine sq rfl (do_move (tm rfl c7_1)) ?_
              refine sq rfl (do_len Try.underlying22 (tm rfl hit)) ?_
              refine sq rfl (do_gtrF (tm rfl hit) ck (by omega)) ?_
              refine sq rfl (do_move (tm rfl hit)) ?_
              refine sqg rfl rfl hit rfl (do_move (tm rfl (nx rfl (nx rfl (nx rfl (nx rfl c7_2)))))) ?_
              refine sqg rfl rfl (nx rfl hit) rfl (do_len Try.underlying22 (tm rfl hit)) ?_
              refine sqg rfl rfl (nx rfl (nx rfl hit)) rfl (do_gtrF (tm rfl hit) ck (by omega)) ?_
              refine sq rfl (do_pickF (tm rfl (nx rfl (nx rfl (nx rfl hit)))) (tm rfl hit)) ?_
              refine sq rfl (do_move (tm rfl hit)) ?_
              refine sqg rfl rfl hit rfl (do_move (tm rfl (nx rfl (nx rfl (nx rfl (nx rfl (nx rfl (nx rfl (nx rfl (nx rfl (nx rfl c7_3))))))))))) ?_
              refine sqg rfl rfl (nx rfl hit) rfl (do_len Try.underlying23 (tm rfl hit)) ?_
              refine sqg rfl rfl (nx rfl (nx rfl hit)) rfl (do_gtrF (tm rfl hit) ck (by omega)) ?_
              refine sq rfl (do_pickF (tm rfl (nx rfl (nx rfl (nx rfl hit)))) (tm rfl hit)) ?_
              refine sq rfl (do_move (tm rfl hit)) ?_
              refine sqg rfl rfl hit rfl (do_move (tm rfl (nx rfl (nx rfl (nx rfl (nx rfl (nx rfl (nx rfl (nx rfl (nx rfl (nx rfl (nx rfl (nx rfl (nx rfl (nx rfl (nx rfl c7_4)))))))))))))))) ?_
              refine sqg rfl rfl (nx rfl hit) rfl (do_len Try.underlying22 (tm rfl hit)) ?_
              refine sqg rfl rfl (nx rfl (nx rfl hit)) rfl (do_gtrF (tm rfl hit) ck (by omega)) ?_
              refine sq rfl (do_pickF (tm rfl (nx rfl (nx rfl (nx rfl hit)))) (tm rfl hit)) ?_
              refine sq rfl (do_move (tm rfl hit)) ?_
              refine sqg rfl rfl hit rfl (do_move (tm rfl (nx rfl (nx rfl (nx rfl (nx rfl (nx rfl (nx rfl (nx rfl (nx rfl (nx rfl (nx rfl (nx rfl (nx rfl (nx rfl (nx rfl (nx rfl (nx rfl (nx rfl (nx rfl (nx rfl c7_1))))))))))))))))))))) ?_
              refine sqg rfl rfl (nx rfl hit) rfl (do_len Try.underlying22 (tm rfl hit)) ?_
              refine sqg rfl rfl (nx rfl (nx rfl hit)) rfl (do_mul ck (tm rfl hit) (by omega)) ?_
              refine sqg rfl rfl (nx rfl (nx rfl (nx rfl hit))) rfl (do_move (tm rfl (nx rfl (nx rfl (nx rfl (nx rfl (nx rfl (nx rfl (nx rfl (nx rfl (nx rfl (nx rfl (nx rfl (nx rfl (nx rfl (nx rfl (nx rfl (nx rfl (nx rfl (nx rfl (nx rfl (nx rfl (nx rfl (nx rfl c7_2)))))))))))))))))))))))) ?_
              refine sqg rfl rfl (nx rfl (nx rfl (nx rfl (nx rfl hit)))) rfl (do_len Try.underlying22 (tm rfl hit)) ?_
              refine sqg rfl rfl (nx rfl (nx rfl (nx rfl (nx rfl (nx rfl hit))))) rfl (do_mul ck (tm rfl hit) (by omega)) ?_
              refine sqg rfl rfl (nx rfl (nx rfl (nx rfl (nx rfl (nx rfl (nx rfl hit)))))) rfl (do_add (tm rfl (nx rfl (nx rfl (nx rfl hit)))) (tm rfl hit) (by omega)) ?_
              refine sqg rfl rfl (nx rfl (nx rfl (nx rfl (nx rfl (nx rfl (nx rfl (nx rfl hit))))))) rfl (do_move (tm rfl (nx rfl (nx rfl (nx rfl (nx rfl (nx rfl (nx rfl (nx rfl (nx rfl (nx rfl (nx rfl (nx rfl (nx rfl (nx rfl (nx rfl (nx rfl (nx rfl (nx rfl (nx rfl (nx rfl (nx rfl (nx rfl (nx rfl (nx rfl (nx rfl (nx rfl (nx rfl c7_3)))))))))))))))))))))))))))) ?_
              refine sqg rfl rfl (nx rfl (nx rfl (nx rfl (nx rfl (nx rfl (nx rfl (nx rfl (nx rfl hit)))))))) rfl (do_len Try.underlying23 (tm rfl hit)) ?_
              refine sqg rfl rfl (nx rfl (nx rfl (nx rfl (nx rfl (nx rfl (nx rfl (nx rfl (nx rfl (nx rfl hit))))))))) rfl (do_add (tm rfl (nx rfl (nx rfl hit))) (tm rfl hit) (by omega)) ?_
              refine sqg rfl rfl (nx rfl (nx rfl (nx rfl (nx rfl (nx rfl (nx rfl (nx rfl (nx rfl (nx rfl (nx rfl hit)))))))))) rfl (do_move (tm rfl (nx rfl (nx rfl (nx rfl (nx rfl (nx rfl (nx rfl (nx rfl (nx rfl (nx rfl (nx rfl (nx rfl (nx rfl (nx rfl (nx rfl (nx rfl (nx rfl (nx rfl (nx rfl (nx rfl (nx rfl (nx rfl (nx rfl (nx rfl (nx rfl (nx rfl (nx rfl (nx rfl (nx rfl (nx rfl c7_4))))))))))))))))))))))))))))))) ?_
              refine sqg rfl rfl (nx rfl (nx rfl (nx rfl (nx rfl (nx rfl (nx rfl (nx rfl (nx rfl (nx rfl (nx rfl (nx rfl hit))))))))))) rfl (do_len Try.underlying22 (tm rfl hit)) ?_
              refine sqg rfl rfl (nx rfl (nx rfl (nx rfl (nx rfl (nx rfl (nx rfl (nx rfl (nx rfl (nx rfl (nx rfl (nx rfl (nx rfl hit)))))))))))) rfl (do_mul ck (tm rfl hit) (by omega)) ?_
              refine sqg rfl rfl (nx rfl (nx rfl (nx rfl (nx rfl (nx rfl (nx rfl (nx rfl (nx rfl (nx rfl (nx rfl (nx rfl (nx rfl (nx rfl hit))))))))))))) rfl (do_add (tm rfl (nx rfl (nx rfl (nx rfl hit)))) (tm rfl hit) (by omega)) ?_
              refine sqg rfl rfl (nx rfl (nx rfl (nx rfl (nx rfl (nx rfl (nx rfl (nx rfl (nx rfl (nx rfl (nx rfl (nx rfl (nx rfl (nx rfl (nx rfl hit)))))))))))))) rfl (do_gtrT (tm rfl hit) ck (by omega)) ?_
              refine sq rfl (do_pickF (tm rfl (nx rfl (nx rfl (nx rfl (nx rfl (nx rfl (nx rfl (nx rfl (nx rfl (nx rfl (nx rfl (nx rfl (nx rfl (nx rfl (nx rfl (nx rfl hit)))))))))))))))) (tm rfl hit)) ?_
              refine cutL ?_
              intro τ27 e27
              have c27_0 := (congrFun e27 0).trans (nx rfl (nx rfl (nx rfl (nx rfl (nx rfl (nx rfl (nx rfl (nx rfl (nx rfl (nx rfl (nx rfl (nx rfl (nx rfl (nx rfl (nx rfl (nx rfl (nx rfl (nx rfl (nx rfl (nx rfl (nx rfl (nx rfl (nx rfl (nx rfl (nx rfl (nx rfl (nx rfl (nx rfl (nx rfl (nx rfl (nx rfl (nx rfl (nx rfl (nx rfl (nx rfl c7_0)))))))))))))))))))))))))))))))))))
              have c27_1 := (congrFun e27 1).trans (nx rfl (nx rfl (nx rfl (nx rfl (nx rfl (nx rfl (nx rfl (nx rfl (nx rfl (nx rfl (nx rfl (nx rfl (nx rfl (nx rfl (nx rfl (nx rfl (nx rfl (nx rfl (nx rfl (nx rfl (nx rfl (nx rfl (nx rfl (nx rfl (nx rfl (nx rfl (nx rfl (nx rfl (nx rfl (nx rfl (nx rfl (nx rfl (nx rfl (nx rfl (nx rfl c7_1)))))))))))))))))))))))))))))))))))
              have c27_2 := (congrFun e27 2).trans (nx rfl (nx rfl (nx rfl (nx rfl (nx rfl (nx rfl (nx rfl (nx rfl (nx rfl (nx rfl (nx rfl (nx rfl (nx rfl (nx rfl (nx rfl (nx rfl (nx rfl (nx rfl (nx rfl (nx rfl (nx rfl (nx rfl (nx rfl (nx rfl (nx rfl (nx rfl (nx rfl (nx rfl (nx rfl (nx rfl (nx rfl (nx rfl (nx rfl (nx rfl (nx rfl c7_2)))))))))))))))))))))))))))))))))))
              have c27_3 := (congrFun e27 3).trans (nx rfl (nx rfl (nx rfl (nx rfl (nx rfl (nx rfl (nx rfl (nx rfl (nx rfl (nx rfl (nx rfl (nx rfl (nx rfl (nx rfl (nx rfl (nx rfl (nx rfl (nx rfl (nx rfl (nx rfl (nx rfl (nx rfl (nx rfl (nx rfl (nx rfl (nx rfl (nx rfl (nx rfl (nx rfl (nx rfl (nx rfl (nx rfl (nx rfl (nx rfl (nx rfl c7_3)))))))))))))))))))))))))))))))))))
              have c27_4 := (congrFun e27 4).trans (nx rfl (nx rfl (nx rfl (nx rfl (nx rfl (nx rfl (nx rfl (nx rfl (nx rfl (nx rfl (nx rfl (nx rfl (nx rfl (nx rfl (nx rfl (nx rfl (nx rfl (nx rfl (nx rfl (nx rfl (nx rfl (nx rfl (nx rfl (nx rfl (nx rfl (nx rfl (nx rfl (nx rfl (nx rfl (nx rfl (nx rfl (nx rfl (nx rfl (nx rfl (nx rfl c7_4)))))))))))))))))))))))))))))))))))
              have c27_5 := (congrFun e27 5).trans (nx rfl (nx rfl (nx rfl (nx rfl (nx rfl (nx rfl (nx rfl (nx rfl (nx rfl (nx rfl (nx rfl (nx rfl (nx rfl (nx rfl (nx rfl (nx rfl (nx rfl (nx rfl (nx rfl (nx rfl (nx rfl (nx rfl (nx rfl (nx rfl (nx rfl (nx rfl (nx rfl (nx rfl (nx rfl (nx rfl (nx rfl (nx rfl (nx rfl (nx rfl (nx rfl c7_5)))))))))))))))))))))))))))))))))))
              have c27_12 := (congrFun e27 12).trans (nx rfl (nx rfl (nx rfl (nx rfl (nx rfl (nx rfl (nx rfl (nx rfl (nx rfl (nx rfl (nx rfl (nx rfl (nx rfl (nx rfl (nx rfl (nx rfl (nx rfl (nx rfl (nx rfl (nx rfl (nx rfl (nx rfl (nx rfl (nx rfl (nx rfl (nx rfl (nx rfl (nx rfl (nx rfl (nx rfl (nx rfl (nx rfl (nx rfl (nx rfl (nx rfl c7_12)))))))))))))))))))))))))))))))))))
              have c27_69 := (congrFun e27 69).trans hit
              clear e27
              refine wnil ?_
              refine hK26 _ _ ?_
              clear hK26
              refine cT rfl c27_69 rfl ?_
              refine wp_seq_k (fun K28 hK28 => ?_)
              refine reg ?_
              refine sq rfl (do_assign ck) ?_
              refine wnil ?_
              refine hK28 _ _ ?_
              clear hK28
              refine wp_ret ?_
              refine thenR ?_
              exact hT _ _ hit (Below.refl _ _)
            · refine wp_seq_k (fun K29 hK29 => ?_)
              refine wp_seq_k (fun K30 hK30 => ?_)
              refine reg ?_
              refine sq rfl (do_move (tm rfl c7_1)) ?_
              refine sq rfl (do_len Try.underlying22 (tm rfl hit)) ?_
              refine sq rfl (do_gtrF (tm rfl hit) ck (by omega)) ?_
              refine sq rfl (do_move (tm rfl hit)) ?_
              refine sqg rfl rfl hit rfl (do_move (tm rfl (nx rfl (nx rfl (nx rfl (nx rfl c7_2)))))) ?_
              refine sqg rfl rfl (nx rfl hit) rfl (do_len Try.underlying22 (tm rfl hit)) ?_
              refine sqg rfl rfl (nx rfl (nx rfl hit)) rfl (do_gtrF (tm rfl hit) ck (by omega)) ?_
              refine sq rfl (do_pickF (tm rfl (nx rfl (nx rfl (nx rfl hit)))) (tm rfl hit)) ?_
              refine sq rfl (do_move (tm rfl hit)) ?_
              refine sqg rfl rfl hit rfl (do_move (tm rfl (nx rfl (nx rfl (nx rfl (nx rfl (nx rfl (nx rfl (nx rfl (nx rfl (nx rfl c7_3))))))))))) ?_
              refine sqg rfl rfl (nx rfl hit) rfl (do_len Try.underlying23 (tm rfl hit)) ?_
              refine sqg rfl rfl (nx rfl (nx rfl hit)) rfl (do_gtrF (tm rfl hit) ck (by omega)) ?_
              refine sq rfl (do_pickF (tm rfl (nx rfl (nx rfl (nx rfl hit)))) (tm rfl hit)) ?_
              refine sq rfl (do_move (tm rfl hit)) ?_
              refine sqg rfl rfl hit rfl (do_move (tm rfl (nx rfl (nx rfl (nx rfl (nx rfl (nx rfl (nx rfl (nx rfl (nx rfl (nx rfl (nx rfl (nx rfl (nx rfl (nx rfl (nx rfl c7_4)))))))))))))))) ?_
              refine sqg rfl rfl (nx rfl hit) rfl (do_len Try.underlying22 (tm rfl hit)) ?_
              refine sqg rfl rfl (nx rfl (nx rfl hit)) rfl (do_gtrF (tm rfl hit) ck (by omega)) ?_
              refine sq rfl (do_pickF (tm rfl (nx rfl (nx rfl (nx rfl hit)))) (tm rfl hit)) ?_
              refine sq rfl (do_move (tm rfl hit)) ?_
              refine sqg rfl rfl hit rfl (do_move (tm rfl (nx rfl (nx rfl (nx rfl (nx rfl (nx rfl (nx rfl (nx rfl (nx rfl (nx rfl (nx rfl (nx rfl (nx rfl (nx rfl (nx rfl (nx rfl (nx rfl (nx rfl (nx rfl (nx rfl c7_1))))))))))))))))))))) ?_
              refine sqg rfl rfl (nx rfl hit) rfl (do_len Try.underlying22 (tm rfl hit)) ?_
              refine sqg rfl rfl (nx rfl (nx rfl hit)) rfl (do_mul ck (tm rfl hit) (by omega)) ?_
              refine sqg rfl rfl (nx rfl (nx rfl (nx rfl hit))) rfl (do_move (tm rfl (nx rfl (nx rfl (nx rfl (nx rfl (nx rfl (nx rfl (nx rfl (nx rfl (nx rfl (nx rfl (nx rfl (nx rfl (nx rfl (nx rfl (nx rfl (nx rfl (nx rfl (nx rfl (nx rfl (nx rfl (nx rfl (nx rfl c7_2)))))))))))))))))))))))) ?_
              refine sqg rfl rfl (nx rfl (nx rfl (nx rfl (nx rfl hit)))) rfl (do_len Try.underlying22 (tm rfl hit)) ?_
              refine sqg rfl rfl (nx rfl (nx rfl (nx rfl (nx rfl (nx rfl hit))))) rfl (do_mul ck (tm rfl hit) (by omega)) ?_
              refine sqg rfl rfl (nx rfl (nx rfl (nx rfl (nx rfl (nx rfl (nx rfl hit)))))) rfl (do_add (tm rfl (nx rfl (nx rfl (nx rfl hit)))) (tm rfl hit) (by omega)) ?_
              refine sqg rfl rfl (nx rfl (nx rfl (nx rfl (nx rfl (nx rfl (nx rfl (nx rfl hit))))))) rfl (do_move (tm rfl (nx rfl (nx rfl (nx rfl (nx rfl (nx rfl (nx rfl (nx rfl (nx rfl (nx rfl (nx rfl (nx rfl (nx rfl (nx rfl (nx rfl (nx rfl (nx rfl (nx rfl (nx rfl (nx rfl (nx rfl (nx rfl (nx rfl (nx rfl (nx rfl (nx rfl (nx rfl c7_3)))))))))))))))))))))))))))) ?_
              refine sqg rfl rfl (nx rfl (nx rfl (nx rfl (nx rfl (nx rfl (nx rfl (nx rfl (nx rfl hit)))))))) rfl (do_len Try.underlying23 (tm rfl hit)) ?_
              refine sqg rfl rfl (nx rfl (nx rfl (nx rfl (nx rfl (nx rfl (nx rfl (nx rfl (nx rfl (nx rfl hit))))))))) rfl (do_add (tm rfl (nx rfl (nx rfl hit))) (tm rfl hit) (by omega)) ?_
              refine sqg rfl rfl (nx rfl (nx rfl (nx rfl (nx rfl (nx rfl (nx rfl (nx rfl (nx rfl (nx rfl (nx rfl hit)))))))))) rfl (do_move (tm rfl (nx rfl (nx rfl (nx rfl (nx rfl (nx rfl (nx rfl (nx rfl (nx rfl (nx rfl (nx rfl (nx rfl (nx rfl (nx rfl (nx rfl (nx rfl (nx rfl (nx rfl (nx rfl (nx rfl (nx rfl (nx rfl (nx rfl (nx rfl (nx rfl (nx rfl (nx rfl (nx rfl (nx rfl (nx rfl c7_4))))))))))))))))))))))))))))))) ?_
              refine sqg rfl rfl (nx rfl (nx rfl (nx rfl (nx rfl (nx rfl (nx rfl (nx rfl (nx rfl (nx rfl (nx rfl (nx rfl hit))))))))))) rfl (do_len Try.underlying22 (tm rfl hit)) ?_
              refine sqg rfl rfl (nx rfl (nx rfl (nx rfl (nx rfl (nx rfl (nx rfl (nx rfl (nx rfl (nx rfl (nx rfl (nx rfl (nx rfl hit)))))))))))) rfl (do_mul ck (tm rfl hit) (by omega)) ?_
              refine sqg rfl rfl (nx rfl (nx rfl (nx rfl (nx rfl (nx rfl (nx rfl (nx rfl (nx rfl (nx rfl (nx rfl (nx rfl (nx rfl (nx rfl hit))))))))))))) rfl (do_add (tm rfl (nx rfl (nx rfl (nx rfl hit)))) (tm rfl hit) (by omega)) ?_
              refine sqg rfl rfl (nx rfl (nx rfl (nx rfl (nx rfl (nx rfl (nx rfl (nx rfl (nx rfl (nx rfl (nx rfl (nx rfl (nx rfl (nx rfl (nx rfl hit)))))))))))))) rfl (do_gtrF (tm rfl hit) ck (by omega)) ?_
              refine sq rfl (do_pickF (tm rfl (nx rfl (nx rfl (nx rfl (nx rfl (nx rfl (nx rfl (nx rfl (nx rfl (nx rfl (nx rfl (nx rfl (nx rfl (nx rfl (nx rfl (nx rfl hit)))))))))))))))) (tm rfl hit)) ?_
              refine cutL ?_
              intro τ31 e31
              have c31_0 := (congrFun e31 0).trans (nx rfl (nx rfl (nx rfl (nx rfl (nx rfl (nx rfl (nx rfl (nx rfl (nx rfl (nx rfl (nx rfl (nx rfl (nx rfl (nx rfl (nx rfl (nx rfl (nx rfl (nx rfl (nx rfl (nx rfl (nx rfl (nx rfl (nx rfl (nx rfl (nx rfl (nx rfl (nx rfl (nx rfl (nx rfl (nx rfl (nx rfl (nx rfl (nx rfl (nx rfl (nx rfl c7_0)))))))))))))))))))))))))))))))))))
              have c31_1 := (congrFun e31 1).trans (nx rfl (nx rfl (nx rfl (nx rfl (nx rfl (nx rfl (nx rfl (nx rfl (nx rfl (nx rfl (nx rfl (nx rfl (nx rfl (nx rfl (nx rfl (nx rfl (nx rfl (nx rfl (nx rfl (nx rfl (nx rfl (nx rfl (nx rfl (nx rfl (nx rfl (nx rfl (nx rfl (nx rfl (nx rfl (nx rfl (nx rfl (nx rfl (nx rfl (nx rfl (nx rfl c7_1)))))))))))))))))))))))))))))))))))
              have c31_2 := (congrFun e31 2).trans (nx rfl (nx rfl (nx rfl (nx rfl (nx rfl (nx rfl (nx rfl (nx rfl (nx rfl (nx rfl (nx rfl (nx rfl (nx rfl (nx rfl (nx rfl (nx rfl (nx rfl (nx rfl (nx rfl (nx rfl (nx rfl (nx rfl (nx rfl (nx rfl (nx rfl (nx rfl (nx rfl (nx rfl (nx rfl (nx rfl (nx rfl (nx rfl (nx rfl (nx rfl (nx rfl c7_2)))))))))))))))))))))))))))))))))))
              have c31_3 := (congrFun e31 3).trans (nx rfl (nx rfl (nx rfl (nx rfl (nx rfl (nx rfl (nx rfl (nx rfl (nx rfl (nx rfl (nx rfl (nx rfl (nx rfl (nx rfl (nx rfl (nx rfl (nx rfl (nx rfl (nx rfl (nx rfl (nx rfl (nx rfl (nx rfl (nx rfl (nx rfl (nx rfl (nx rfl (nx rfl (nx rfl (nx rfl (nx rfl (nx rfl (nx rfl (nx rfl (nx rfl c7_3)))))))))))))))))))))))))))))))))))
              have c31_4 := (congrFun e31 4).trans (nx rfl (nx rfl (nx rfl (nx rfl (nx rfl (nx rfl (nx rfl (nx rfl (nx rfl (nx rfl (nx rfl (nx rfl (nx rfl (nx rfl (nx rfl (nx rfl (nx rfl (nx rfl (nx rfl (nx rfl (nx rfl (nx rfl (nx rfl (nx rfl (nx rfl (nx rfl (nx rfl (nx rfl (nx rfl (nx rfl (nx rfl (nx rfl (nx rfl (nx rfl (nx rfl c7_4)))))))))))))))))))))))))))))))))))
              have c31_5 := (congrFun e31 5).trans (nx rfl (nx rfl (nx rfl (nx rfl (nx rfl (nx rfl (nx rfl (nx rfl (nx rfl (nx rfl (nx rfl (nx rfl (nx rfl (nx rfl (nx rfl (nx rfl (nx rfl (nx rfl (nx rfl (nx rfl (nx rfl (nx rfl (nx rfl (nx rfl (nx rfl (nx rfl (nx rfl (nx rfl (nx rfl (nx rfl (nx rfl (nx rfl (nx rfl (nx rfl (nx rfl c7_5)))))))))))))))))))))))))))))))))))
              have c31_12 := (congrFun e31 12).trans (nx rfl (nx rfl (nx rfl (nx rfl (nx rfl (nx rfl (nx rfl (nx rfl (nx rfl (nx rfl (nx rfl (nx rfl (nx rfl (nx rfl (nx rfl (nx rfl (nx rfl (nx rfl (nx rfl (nx rfl (nx rfl (nx rfl (nx rfl (nx rfl (nx rfl (nx rfl (nx rfl (nx rfl (nx rfl (nx rfl (nx rfl (nx rfl (nx rfl (nx rfl (nx rfl c7_12)))))))))))))))))))))))))))))))))))
              have c31_69 := (congrFun e31 69).trans hit
              clear e31
              refine wnil ?_
              refine hK30 _ _ ?_
              clear hK30
              refine cF rfl c31_69 rfl ?_
              refine wp_skip ?_
              refine hK29 _ _ ?_
              clear hK29
              by_cases q5 : z < 0
              · refine wp_seq_k (fun K32 hK32 => ?_)
                refine wp_seq_k (fun K33 hK33 => ?_)
                refine reg ?_
                refine sq rfl (do_move (tm rfl c31_0)) ?_
                refine sq rfl (do_lssT (tm rfl hit) ck (by omega)) ?_
                refine sq rfl (do_move (tm rfl hit)) ?_
                refine sqs rfl rfl hit rfl rfl ?_
                refine sqs rfl rfl (nx rfl hit) rfl rfl ?_
                refine sq rfl (do_pickT (tm rfl (nx rfl (nx rfl hit))) rfl) ?_
                refine sq rfl (do_move (tm rfl hit)) ?_
                refine sqs rfl rfl hit rfl rfl ?_
                refine sqs rfl rfl (nx rfl hit) rfl rfl ?_
                refine sq rfl (do_pickT (tm rfl (nx rfl (nx rfl hit))) rfl) ?_
                refine sq rfl (do_move (tm rfl hit)) ?_
                refine sqs rfl rfl hit rfl rfl ?_
                refine sqs rfl rfl (nx rfl hit) rfl rfl ?_
                refine sqs rfl rfl (nx rfl (nx rfl hit)) rfl rfl ?_
                refine sq rfl (do_pickT (tm rfl (nx rfl (nx rfl (nx rfl hit)))) rfl) ?_
                refine cutL ?_
                intro τ34 e34
                have c34_0 := (congrFun e34 0).trans (nx rfl (nx rfl (nx rfl (nx rfl (nx rfl (nx rfl (nx rfl (nx rfl (nx rfl (nx rfl (nx rfl (nx rfl (nx rfl (nx rfl (nx rfl c31_0)))))))))))))))
                have c34_1 := (congrFun e34 1).trans (nx rfl (nx rfl (nx rfl (nx rfl (nx rfl (nx rfl (nx rfl (nx rfl (nx rfl (nx rfl (nx rfl (nx rfl (nx rfl (nx rfl (nx rfl c31_1)))))))))))))))
                have c34_2 := (congrFun e34 2).trans (nx rfl (nx rfl (nx rfl (nx rfl (nx rfl (nx rfl (nx rfl (nx rfl (nx rfl (nx rfl (nx rfl (nx rfl (nx rfl (nx rfl (nx rfl c31_2)))))))))))))))
                have c34_3 := (congrFun e34 3).trans (nx rfl (nx rfl (nx rfl (nx rfl (nx rfl (nx rfl (nx rfl (nx rfl (nx rfl (nx rfl (nx rfl (nx rfl (nx rfl (nx rfl (nx rfl c31_3)))))))))))))))
                have c34_4 := (congrFun e34 4).trans (nx rfl (nx rfl (nx rfl (nx rfl (nx rfl (nx rfl (nx rfl (nx rfl (nx rfl (nx rfl (nx rfl (nx rfl (nx rfl (nx rfl (nx rfl c31_4)))))))))))))))
                have c34_5 := (congrFun e34 5).trans (nx rfl (nx rfl (nx rfl (nx rfl (nx rfl (nx rfl (nx rfl (nx rfl (nx rfl (nx rfl (nx rfl (nx rfl (nx rfl (nx rfl (nx rfl c31_5)))))))))))))))
                have c34_12 := (congrFun e34 12).trans (nx rfl (nx rfl (nx rfl (nx rfl (nx rfl (nx rfl (nx rfl (nx rfl (nx rfl (nx rfl (nx rfl (nx rfl (nx rfl (nx rfl (nx rfl c31_12)))))))))))))))
                have c34_84 := (congrFun e34 84).trans hit
                clear e34
                refine wnil ?_
                refine hK33 _ _ ?_
                clear hK33
                refine cT rfl c34_84 rfl ?_
                refine wp_seq_k (fun K35 hK35 => ?_)
                refine reg ?_
                refine sq rfl (do_assign ck) ?_
                refine wnil ?_
                refine hK35 _ _ ?_
                clear hK35
                refine wp_ret ?_
                refine thenR ?_
                exact hT _ _ hit (Below.refl _ _)
              · by_cases q6 : 65536 < z
                · refine wp_seq_k (fun K36 hK36 => ?_)
                  refine wp_seq_k (fun K37 hK37 => ?_)
                  refine reg ?_
                  refine sq rfl (do_move (tm rfl c31_0)) ?_
                  refine sq rfl (do_lssF (tm rfl hit) ck (by omega)) ?_
                  refine sq rfl (do_move (tm rfl hit)) ?_
                  refine sqg rfl rfl hit rfl (do_move (tm rfl (nx rfl (nx rfl (nx rfl c31_0))))) ?_
                  refine sqg rfl rfl (nx rfl hit) rfl (do_gtrT (tm rfl hit) ck (by omega)) ?_
                  refine sq rfl (do_pickF (tm rfl (nx rfl (nx rfl hit))) (tm rfl hit)) ?_
                  refine sq rfl (do_move (tm rfl hit)) ?_
                  refine sqs rfl rfl hit rfl rfl ?_
                  refine sqs rfl rfl (nx rfl hit) rfl rfl ?_
                  refine sq rfl (do_pickT (tm rfl (nx rfl (nx rfl hit))) rfl) ?_
                  refine sq rfl (do_move (tm rfl hit)) ?_
                  refine sqs rfl rfl hit rfl rfl ?_
                  refine sqs rfl rfl (nx rfl hit) rfl rfl ?_
                  refine sqs rfl rfl (nx rfl (nx rfl hit)) rfl rfl ?_
                  refine sq rfl (do_pickT (tm rfl (nx rfl (nx rfl (nx rfl hit)))) rfl) ?_
                  refine cutL ?_
                  intro τ38 e38
                  have c38_0 := (congrFun e38 0).trans (nx rfl (nx rfl (nx rfl (nx rfl (nx rfl (nx rfl (nx rfl (nx rfl (nx rfl (nx rfl (nx rfl (nx rfl (nx rfl (nx rfl (nx rfl c31_0)))))))))))))))
                  have c38_1 := (congrFun e38 1).trans (nx rfl (nx rfl (nx rfl (nx rfl (nx rfl (nx rfl (nx rfl (nx rfl (nx rfl (nx rfl (nx rfl (nx rfl (nx rfl (nx rfl (nx rfl c31_1)))))))))))))))
                  have c38_2 := (congrFun e38 2).trans (nx rfl (nx rfl (nx rfl (nx rfl (nx rfl (nx rfl (nx rfl (nx rfl (nx rfl (nx rfl (nx rfl (nx rfl (nx rfl (nx rfl (nx rfl c31_2)))))))))))))))
                  have c38_3 := (congrFun e38 3).trans (nx rfl (nx rfl (nx rfl (nx rfl (nx rfl (nx rfl (nx rfl (nx rfl (nx rfl (nx rfl (nx rfl (nx rfl (nx rfl (nx rfl (nx rfl c31_3)))))))))))))))
                  have c38_4 := (congrFun e38 4).trans (nx rfl (nx rfl (nx rfl (nx rfl (nx rfl (nx rfl (nx rfl (nx rfl (nx rfl (nx rfl (nx rfl (nx rfl (nx rfl (nx rfl (nx rfl c31_4)))))))))))))))
                  have c38_5 := (congrFun e38 5).trans (nx rfl (nx rfl (nx rfl (nx rfl (nx rfl (nx rfl (nx rfl (nx rfl (nx rfl (nx rfl (nx rfl (nx rfl (nx rfl (nx rfl (nx rfl c31_5)))))))))))))))
                  have c38_12 := (congrFun e38 12).trans (nx rfl (nx rfl (nx rfl (nx rfl (nx rfl (nx rfl (nx rfl (nx rfl (nx rfl (nx rfl (nx rfl (nx rfl (nx rfl (nx rfl (nx rfl c31_12)))))))))))))))
                  have c38_84 := (congrFun e38 84).trans hit
                  clear e38
                  refine wnil ?_
                  refine hK37 _ _ ?_
                  clear hK37
                  refine cT rfl c38_84 rfl ?_
                  refine wp_seq_k (fun K39 hK39 => ?_)
                  refine reg ?_
                  refine sq rfl (do_assign ck) ?_
                  refine wnil ?_
                  refine hK39 _ _ ?_
                  clear hK39
                  refine wp_ret ?_
                  refine thenR ?_
                  exact hT _ _ hit (Below.refl _ _)
                · by_cases q7 : ct < 0
                  · refine wp_seq_k (fun K40 hK40 => ?_)
                    refine wp_seq_k (fun K41 hK41 => ?_)
                    refine reg ?_
                    refine sq rfl (do_move (tm rfl c31_0)) ?_
                    refine sq rfl (do_lssF (tm rfl hit) ck (by omega)) ?_
                    refine sq rfl (do_move (tm rfl hit)) ?_
                    refine sqg rfl rfl hit rfl (do_move (tm rfl (nx rfl (nx rfl (nx rfl c31_0))))) ?_
                    refine sqg rfl rfl (nx rfl hit) rfl (do_gtrF (tm rfl hit) ck (by omega)) ?_
                    refine sq rfl (do_pickF (tm rfl (nx rfl (nx rfl hit))) (tm rfl hit)) ?_
                    refine sq rfl (do_move (tm rfl hit)) ?_
                    refine sqg rfl rfl hit rfl (do_move (tm rfl (nx rfl (nx rfl (nx rfl (nx rfl (nx rfl (nx rfl (nx rfl c31_5))))))))) ?_
                    refine sqg rfl rfl (nx rfl hit) rfl (do_lssT (tm rfl hit) ck (by omega)) ?_
                    refine sq rfl (do_pickF (tm rfl (nx rfl (nx rfl hit))) (tm rfl hit)) ?_
                    refine sq rfl (do_move (tm rfl hit)) ?_
                    refine sqs rfl rfl hit rfl rfl ?_
                    refine sqs rfl rfl (nx rfl hit) rfl rfl ?_
                    refine sqs rfl rfl (nx rfl (nx rfl hit)) rfl rfl ?_
                    refine sq rfl (do_pickT (tm rfl (nx rfl (nx rfl (nx rfl hit)))) rfl) ?_
                    refine cutL ?_
                    intro τ42 e42
                    have c42_0 := (congrFun e42 0).trans (nx rfl (nx rfl (nx rfl (nx rfl (nx rfl (nx rfl (nx rfl (nx rfl (nx rfl (nx rfl (nx rfl (nx rfl (nx rfl (nx rfl (nx rfl c31_0)))))))))))))))
                    have c42_1 := (congrFun e42 1).trans (nx rfl (nx rfl (nx rfl (nx rfl (nx rfl (nx rfl (nx rfl (nx rfl (nx rfl (nx rfl (nx rfl (nx rfl (nx rfl (nx rfl (nx rfl c31_1)))))))))))))))
                    have c42_2 := (congrFun e42 2).trans (nx rfl (nx rfl (nx rfl (nx rfl (nx rfl (nx rfl (nx rfl (nx rfl (nx rfl (nx rfl (nx rfl (nx rfl (nx rfl (nx rfl (nx rfl c31_2)))))))))))))))
                    have c42_3 := (congrFun e42 3).trans (nx rfl (nx rfl (nx rfl (nx rfl (nx rfl (nx rfl (nx rfl (nx rfl (nx rfl (nx rfl (nx rfl (nx rfl (nx rfl (nx rfl (nx rfl c31_3)))))))))))))))
                    have c42_4 := (congrFun e42 4).trans (nx rfl (nx rfl (nx rfl (nx rfl (nx rfl (nx rfl (nx rfl (nx rfl (nx rfl (nx rfl (nx rfl (nx rfl (nx rfl (nx rfl (nx rfl c31_4)))))))))))))))
                    have c42_5 := (congrFun e42 5).trans (nx rfl (nx rfl (nx rfl (nx rfl (nx rfl (nx rfl (nx rfl (nx rfl (nx rfl (nx rfl (nx rfl (nx rfl (nx rfl (nx rfl (nx rfl c31_5)))))))))))))))
                    have c42_12 := (congrFun e42 12).trans (nx rfl (nx rfl (nx rfl (nx rfl (nx rfl (nx rfl (nx rfl (nx rfl (nx rfl (nx rfl (nx rfl (nx rfl (nx rfl (nx rfl (nx rfl c31_12)))))))))))))))
                    have c42_84 := (congrFun e42 84).trans hit
                    clear e42
                    refine wnil ?_
                    refine hK41 _ _ ?_
                    clear hK41
                    refine cT rfl c42_84 rfl ?_
                    refine wp_seq_k (fun K43 hK43 => ?_)
                    refine reg ?_
                    refine sq rfl (do_assign ck) ?_
                    refine wnil ?_
                    refine hK43 _ _ ?_
                    clear hK43
                    refine wp_ret ?_
                    refine thenR ?_
                    exact hT _ _ hit (Below.refl _ _)
                  · by_cases q8 : z < ct
                    · refine wp_seq_k (fun K44 hK44 => ?_)
                      refine wp_seq_k (fun K45 hK45 => ?_)
                      refine reg ?_
                      refine sq rfl (do_move (tm rfl c31_0)) ?_
                      refine sq rfl (do_lssF (tm rfl hit) ck (by omega)) ?_
                      refine sq rfl (do_move (tm rfl hit)) ?_
                      refine sqg rfl rfl hit rfl (do_move (tm rfl (nx rfl (nx rfl (nx rfl c31_0))))) ?_
                      refine sqg rfl rfl (nx rfl hit) rfl (do_gtrF (tm rfl hit) ck (by omega)) ?_
                      refine sq rfl (do_pickF (tm rfl (nx rfl (nx rfl hit))) (tm rfl hit)) ?_
                      refine sq rfl (do_move (tm rfl hit)) ?_
                      refine sqg rfl rfl hit rfl (do_move (tm rfl (nx rfl (nx rfl (nx rfl (nx rfl (nx rfl (nx rfl (nx rfl c31_5))))))))) ?_
                      refine sqg rfl rfl (nx rfl hit) rfl (do_lssF (tm rfl hit) ck (by omega)) ?_
                      refine sq rfl (do_pickF (tm rfl (nx rfl (nx rfl hit))) (tm rfl hit)) ?_
                      refine sq rfl (do_move (tm rfl hit)) ?_
                      refine sqg rfl rfl hit rfl (do_move (tm rfl (nx rfl (nx rfl (nx rfl (nx rfl (nx rfl (nx rfl (nx rfl (nx rfl (nx rfl (nx rfl (nx rfl c31_5))))))))))))) ?_
                      refine sqg rfl rfl (nx rfl hit) rfl (do_move (tm rfl (nx rfl (nx rfl (nx rfl (nx rfl (nx rfl (nx rfl (nx rfl (nx rfl (nx rfl (nx rfl (nx rfl (nx rfl c31_0)))))))))))))) ?_
                      refine sqg rfl rfl (nx rfl (nx rfl hit)) rfl (do_gtrT (tm rfl (nx rfl hit)) (tm rfl hit) (by omega)) ?_
                      refine sq rfl (do_pickF (tm rfl (nx rfl (nx rfl (nx rfl hit)))) (tm rfl hit)) ?_
                      refine cutL ?_
                      intro τ46 e46
                      have c46_0 := (congrFun e46 0).trans (nx rfl (nx rfl (nx rfl (nx rfl (nx rfl (nx rfl (nx rfl (nx rfl (nx rfl (nx rfl (nx rfl (nx rfl (nx rfl (nx rfl (nx rfl c31_0)))))))))))))))
                      have c46_1 := (congrFun e46 1).trans (nx rfl (nx rfl (nx rfl (nx rfl (nx rfl (nx rfl (nx rfl (nx rfl (nx rfl (nx rfl (nx rfl (nx rfl (nx rfl (nx rfl (nx rfl c31_1)))))))))))))))
                      have c46_2 := (congrFun e46 2).trans (nx rfl (nx rfl (nx rfl (nx rfl (nx rfl (nx rfl (nx rfl (nx rfl (nx rfl (nx rfl (nx rfl (nx rfl (nx rfl (nx rfl (nx rfl c31_2)))))))))))))))
                      have c46_3 := (congrFun e46 3).trans (nx rfl (nx rfl (nx rfl (nx rfl (nx rfl (nx rfl (nx rfl (nx rfl (nx rfl (nx rfl (nx rfl (nx rfl (nx rfl (nx rfl (nx rfl c31_3)))))))))))))))
                      have c46_4 := (congrFun e46 4).trans (nx rfl (nx rfl (nx rfl (nx rfl (nx rfl (nx rfl (nx rfl (nx rfl (nx rfl (nx rfl (nx rfl (nx rfl (nx rfl (nx rfl (nx rfl c31_4)))))))))))))))
                      have c46_5 := (congrFun e46 5).trans (nx rfl (nx rfl (nx rfl (nx rfl (nx rfl (nx rfl (nx rfl (nx rfl (nx rfl (nx rfl (nx rfl (nx rfl (nx rfl (nx rfl (nx rfl c31_5)))))))))))))))
                      have c46_12 := (congrFun e46 12).trans (nx rfl (nx rfl (nx rfl (nx rfl (nx rfl (nx rfl (nx rfl (nx rfl (nx rfl (nx rfl (nx rfl (nx rfl (nx rfl (nx rfl (nx rfl c31_12)))))))))))))))
                      have c46_84 := (congrFun e46 84).trans hit
                      clear e46
                      refine wnil ?_
                      refine hK45 _ _ ?_
                      clear hK45
                      refine cT rfl c46_84 rfl ?_
                      refine wp_seq_k (fun K47 hK47 => ?_)
                      refine reg ?_
                      refine sq rfl (do_assign ck) ?_
                      refine wnil ?_
                      refine hK47 _ _ ?_
                      clear hK47
                      refine wp_ret ?_
                      refine thenR ?_
                      exact hT _ _ hit (Below.refl _ _)
                    · refine wp_seq_k (fun K48 hK48 => ?_)
                      refine wp_seq_k (fun K49 hK49 => ?_)
                      refine reg ?_
                      refine sq rfl (do_move (tm rfl c31_0)) ?_
                      refine sq rfl (do_lssF (tm rfl hit) ck (by omega)) ?_
                      refine sq rfl (do_move (tm rfl hit)) ?_
                      refine sqg rfl rfl hit rfl (do_move (tm rfl (nx rfl (nx rfl (nx rfl c31_0))))) ?_
                      refine sqg rfl rfl (nx rfl hit) rfl (do_gtrF (tm rfl hit) ck (by omega)) ?_
                      refine sq rfl (do_pickF (tm rfl (nx rfl (nx rfl hit))) (tm rfl hit)) ?_
                      refine sq rfl (do_move (tm rfl hit)) ?_
                      refine sqg rfl rfl hit rfl (do_move (tm rfl (nx rfl (nx rfl (nx rfl (nx rfl (nx rfl (nx rfl (nx rfl c31_5))))))))) ?_
                      refine sqg rfl rfl (nx rfl hit) rfl (do_lssF (tm rfl hit) ck (by omega)) ?_
                      refine sq rfl (do_pickF (tm rfl (nx rfl (nx rfl hit))) (tm rfl hit)) ?_
                      refine sq rfl (do_move (tm rfl hit)) ?_
                      refine sqg rfl rfl hit rfl (do_move (tm rfl (nx rfl (nx rfl (nx rfl (nx rfl (nx rfl (nx rfl (nx rfl (nx rfl (nx rfl (nx rfl (nx rfl c31_5))))))))))))) ?_
                      refine sqg rfl rfl (nx rfl hit) rfl (do_move (tm rfl (nx rfl (nx rfl (nx rfl (nx rfl (nx rfl (nx rfl (nx rfl (nx rfl (nx rfl (nx rfl (nx rfl (nx rfl c31_0)))))))))))))) ?_
                      refine sqg rfl rfl (nx rfl (nx rfl hit)) rfl (do_gtrF (tm rfl (nx rfl hit)) (tm rfl hit) (by omega)) ?_
                      refine sq rfl (do_pickF (tm rfl (nx rfl (nx rfl (nx rfl hit)))) (tm rfl hit)) ?_
                      refine cutL ?_
                      intro τ50 e50
                      have c50_0 := (congrFun e50 0).trans (nx rfl (nx rfl (nx rfl (nx rfl (nx rfl (nx rfl (nx rfl (nx rfl (nx rfl (nx rfl (nx rfl (nx rfl (nx rfl (nx rfl (nx rfl c31_0)))))))))))))))
                      have c50_1 := (congrFun e50 1).trans (nx rfl (nx rfl (nx rfl (nx rfl (nx rfl (nx rfl (nx rfl (nx rfl (nx rfl (nx rfl (nx rfl (nx rfl (nx rfl (nx rfl (nx rfl c31_1)))))))))))))))
                      have c50_2 := (congrFun e50 2).trans (nx rfl (nx rfl (nx rfl (nx rfl (nx rfl (nx rfl (nx rfl (nx rfl (nx rfl (nx rfl (nx rfl (nx rfl (nx rfl (nx rfl (nx rfl c31_2)))))))))))))))
                      have c50_3 := (congrFun e50 3).trans (nx rfl (nx rfl (nx rfl (nx rfl (nx rfl (nx rfl (nx rfl (nx rfl (nx rfl (nx rfl (nx rfl (nx rfl (nx rfl (nx rfl (nx rfl c31_3)))))))))))))))
                      have c50_4 := (congrFun e50 4).trans (nx rfl (nx rfl (nx rfl (nx rfl (nx rfl (nx rfl (nx rfl (nx rfl (nx rfl (nx rfl (nx rfl (nx rfl (nx rfl (nx rfl (nx rfl c31_4)))))))))))))))
                      have c50_5 := (congrFun e50 5).trans (nx rfl (nx rfl (nx rfl (nx rfl (nx rfl (nx rfl (nx rfl (nx rfl (nx rfl (nx rfl (nx rfl (nx rfl (nx rfl (nx rfl (nx rfl c31_5)))))))))))))))
                      have c50_12 := (congrFun e50 12).trans (nx rfl (nx rfl (nx rfl (nx rfl (nx rfl (nx rfl (nx rfl (nx rfl (nx rfl (nx rfl (nx rfl (nx rfl (nx rfl (nx rfl (nx rfl c31_12)))))))))))))))
                      have c50_84 := (congrFun e50 84).trans hit
                      clear e50
                      refine wnil ?_
                      refine hK49 _ _ ?_
                      clear hK49
                      refine cF rfl c50_84 rfl ?_
                      refine wp_skip ?_
                      refine hK48 _ _ ?_
                      clear hK48
                      obtain ⟨cn, rfl⟩ : ∃ cn : Nat, ct = (cn : Int) := ⟨ct.toNat, by omega⟩
                      obtain ⟨n, rfl⟩ : ∃ n : Nat, z = (n : Int) := ⟨z.toNat, by omega⟩
                      have hb0 := Below.refl w.heap.size w
                      refine wp_seq_k (fun K51 hK51 => ?_)
                      refine reg ?_
                      refine sq rfl (do_move (tm rfl c50_1)) ?_
                      refine sqc (R := fun v w' => IntR w' v nd ∧ Below w.heap.size w w') rfl (run_callF Try.func10 nm10 bd10 (map1 (tm rfl hit)) rfl) ((clone10 w _ nd h1 (by omega)).mono ?_) ?_
                      · rintro e w' ⟨v', rfl, h⟩
                        exact ⟨_, rfl, h⟩
                      rintro u1 y0 ⟨g1, hbb⟩
                      refine sq rfl (do_assign (tm rfl hit)) ?_
                      refine wnil ?_
                      refine hK51 _ _ ?_
                      clear hK51
                      have hb1 := hb0.trans (hbb.mono (by have := hb0.size; omega))
                      have f0_2 := h2.below hbb
                      have f0_3 := h3.below hbb
                      have f0_4 := h4.below hbb
                      clear hbb
                      refine wp_seq_k (fun K52 hK52 => ?_)
                      refine reg ?_
                      refine sq rfl (do_move (tm rfl (nx rfl (nx rfl (nx rfl c50_2))))) ?_
                      refine sqc (R := fun v w' => IntR w' v it ∧ Below y0.heap.size y0 w') rfl (run_callF Try.func10 nm10 bd10 (map1 (tm rfl hit)) rfl) ((clone10 y0 _ it f0_2 (by omega)).mono ?_) ?_
                      · rintro e w' ⟨v', rfl, h⟩
                        exact ⟨_, rfl, h⟩
                      rintro u2 y1 ⟨g2, hbb⟩
                      refine sq rfl (do_assign (tm rfl hit)) ?_
                      refine cutL ?_
                      intro τ53 e53
                      have c53_0 := (congrFun e53 0).trans (nx rfl (nx rfl (nx rfl (nx rfl (nx rfl (nx rfl c50_0))))))
                      have c53_1 := (congrFun e53 1).trans (nx rfl (nx rfl (nx rfl hit)))
                      have c53_2 := (congrFun e53 2).trans hit
                      have c53_3 := (congrFun e53 3).trans (nx rfl (nx rfl (nx rfl (nx rfl (nx rfl (nx rfl c50_3))))))
                      have c53_4 := (congrFun e53 4).trans (nx rfl (nx rfl (nx rfl (nx rfl (nx rfl (nx rfl c50_4))))))
                      have c53_5 := (congrFun e53 5).trans (nx rfl (nx rfl (nx rfl (nx rfl (nx rfl (nx rfl c50_5))))))
                      have c53_12 := (congrFun e53 12).trans (nx rfl (nx rfl (nx rfl (nx rfl (nx rfl (nx rfl c50_12))))))
                      clear e53
                      refine wnil ?_
                      refine hK52 _ _ ?_
                      clear hK52
                      have hb2 := hb1.trans (hbb.mono (by have := hb1.size; omega))
                      have f1_1 := g1.below hbb
                      have f1_3 := f0_3.below hbb
                      have f1_4 := f0_4.below hbb
                      clear hbb
                      refine wp_seq_k (fun K54 hK54 => ?_)
                      refine reg ?_
                      refine sq rfl (do_move (tm rfl c53_3)) ?_
                      refine sqc (R := fun v w' => BoolR w' v wr ∧ Below y1.heap.size y1 w') rfl (run_callF Try.func11 nm11 bd11 (map1 (tm rfl hit)) rfl) ((clone11 y1 _ wr f1_3 (by omega)).mono ?_) ?_
                      · rintro e w' ⟨v', rfl, h⟩
                        exact ⟨_, rfl, h⟩
                      rintro u3 y2 ⟨g3, hbb⟩
                      refine sq rfl (do_assign (tm rfl hit)) ?_
                      refine wnil ?_
                      refine hK54 _ _ ?_
                      clear hK54
                      have hb3 := hb2.trans (hbb.mono (by have := hb2.size; omega))
                      have f2_1 := f1_1.below hbb
                      have f2_2 := g2.below hbb
                      have f2_4 := f1_4.below hbb
                      clear hbb
                      refine wp_seq_k (fun K55 hK55 => ?_)
                      refine reg ?_
                      refine sq rfl (do_move (tm rfl (nx rfl (nx rfl (nx rfl c53_4))))) ?_
                      refine sqc (R := fun v w' => IntR w' v pm ∧ Below y2.heap.size y2 w') rfl (run_callF Try.func10 nm10 bd10 (map1 (tm rfl hit)) rfl) ((clone10 y2 _ pm f2_4 (by omega)).mono ?_) ?_
                      · rintro e w' ⟨v', rfl, h⟩
                        exact ⟨_, rfl, h⟩
                      rintro u4 y3 ⟨g4, hbb⟩
                      refine sq rfl (do_assign (tm rfl hit)) ?_
                      refine cutL ?_
                      intro τ56 e56
                      have c56_0 := (congrFun e56 0).trans (nx rfl (nx rfl (nx rfl (nx rfl (nx rfl (nx rfl c53_0))))))
                      have c56_1 := (congrFun e56 1).trans (nx rfl (nx rfl (nx rfl (nx rfl (nx rfl (nx rfl c53_1))))))
                      have c56_2 := (congrFun e56 2).trans (nx rfl (nx rfl (nx rfl (nx rfl (nx rfl (nx rfl c53_2))))))
                      have c56_3 := (congrFun e56 3).trans (nx rfl (nx rfl (nx rfl hit)))
                      have c56_4 := (congrFun e56 4).trans hit
                      have c56_5 := (congrFun e56 5).trans (nx rfl (nx rfl (nx rfl (nx rfl (nx rfl (nx rfl c53_5))))))
                      have c56_12 := (congrFun e56 12).trans (nx rfl (nx rfl (nx rfl (nx rfl (nx rfl (nx rfl c53_12))))))
                      clear e56
                      refine wnil ?_
                      refine hK55 _ _ ?_
                      clear hK55
                      have hb4 := hb3.trans (hbb.mono (by have := hb3.size; omega))
                      have f3_1 := f2_1.below hbb
                      have f3_2 := f2_2.below hbb
                      have f3_3 := g3.below hbb
                      clear hbb
                      refine wp_seq_k (fun K57 hK57 => ?_)
                      refine wp_seq_k (fun K58 hK58 => ?_)
                      refine reg ?_
                      refine sq rfl (do_move (tm rfl c56_0)) ?_
                      refine sq rfl (do_move (tm rfl (nx rfl c56_1))) ?_
                      refine sq rfl (do_move (tm rfl (nx rfl (nx rfl c56_2)))) ?_
                      refine sq rfl (do_move (tm rfl (nx rfl (nx rfl (nx rfl c56_3))))) ?_
                      refine sqc (R := fun v w' => ∃ b : Bool, v = .bool b ∧ w' = y3 ∧ (b = true → it.length = nd.length ∧ wr.length = nd.length ∧ ∀ v ∈ nd, 0 ≤ v ∧ v < (n : Int))) rfl
                        (run_callF Try.func12 nm12 bd12 (map4 (tm rfl (nx rfl (nx rfl (nx rfl hit)))) (tm rfl (nx rfl (nx rfl hit))) (tm rfl (nx rfl hit)) (tm rfl hit)) rfl) ((shape12 y3 (n : Int) _ _ _ nd it wr f3_1 f3_2 f3_3 (by omega)).mono ?_) ?_
                      · rintro e w' ⟨b, rfl, h⟩
                        exact ⟨_, rfl, b, rfl, h⟩
                      rintro cv w2 ⟨b, rfl, hw2, hsh⟩
                      subst hw2
                      refine sq rfl (do_not (tm rfl hit)) ?_
                      refine cutL ?_
                      intro τ59 e59
                      have c59_0 := (congrFun e59 0).trans (nx rfl (nx rfl (nx rfl (nx rfl (nx rfl (nx rfl c56_0))))))
                      have c59_1 := (congrFun e59 1).trans (nx rfl (nx rfl (nx rfl (nx rfl (nx rfl (nx rfl c56_1))))))
                      have c59_2 := (congrFun e59 2).trans (nx rfl (nx rfl (nx rfl (nx rfl (nx rfl (nx rfl c56_2))))))
                      have c59_3 := (congrFun e59 3).trans (nx rfl (nx rfl (nx rfl (nx rfl (nx rfl (nx rfl c56_3))))))
                      have c59_4 := (congrFun e59 4).trans (nx rfl (nx rfl (nx rfl (nx rfl (nx rfl (nx rfl c56_4))))))
                      have c59_5 := (congrFun e59 5).trans (nx rfl (nx rfl (nx rfl (nx rfl (nx rfl (nx rfl c56_5))))))
                      have c59_12 := (congrFun e59 12).trans (nx rfl (nx rfl (nx rfl (nx rfl (nx rfl (nx rfl c56_12))))))
                      have c59_98 := (congrFun e59 98).trans hit
                      clear e59
                      refine wnil ?_
                      refine hK58 _ _ ?_
                      clear hK58
                      cases b with
                      | false =>
                        refine cT rfl c59_98 rfl ?_
                        refine wp_seq_k (fun K60 hK60 => ?_)
                        refine reg ?_
                        refine sq rfl (do_assign ck) ?_
                        refine wnil ?_
                        refine hK60 _ _ ?_
                        clear hK60
                        refine wp_ret ?_
                        refine thenR ?_
                        exact hT _ _ hit hb4
                      | true =>
                        refine cF rfl c59_98 rfl ?_
                        refine wp_skip ?_
                        refine hK57 _ _ ?_
                        clear hK57
                        obtain ⟨hil, hwl, hndr⟩ := hsh rfl
                        refine wp_seq_k (fun K61 hK61 => ?_)
                        refine wp_seq_k (fun K62 hK62 => ?_)
                        refine reg ?_
                        refine sq rfl (do_move (tm rfl c59_0)) ?_
                        refine sq rfl (do_move (tm rfl (nx rfl c59_4))) ?_
                        refine sqc (R := fun v w' => ∃ (v' : Value) (b : Bool), v = .tuple #[v', .bool b] ∧ Below w2.heap.size w2 w' ∧ (b = true → ∃ rk, RankOf n pm rk ∧ v' = .slice (some ⟨w2.heap.size, 0, none⟩) n n ∧ Blk w' w2.heap.size 3 (ints rk))) rfl
                          (run_callF Try.func13 nm13 bd13 (map2 (tm rfl (nx rfl hit)) (tm rfl hit)) rfl) ((rank13 w2 n _ pm g4 (by omega)).mono ?_) ?_
                        · rintro e w' ⟨v', b, rfl, h⟩
                          exact ⟨_, rfl, v', b, rfl, h⟩
                        rintro cv w3 ⟨v', b, rfl, hbb, hrk⟩
                        have hb5 := hb4.trans (hbb.mono (by have := hb4.size; omega))
                        refine sq rfl (do_move (tm rfl hit)) ?_
                        refine sq rfl (do_extract (tm rfl hit) rfl) ?_
                        refine sq rfl (do_extract (tm rfl (nx rfl hit)) rfl) ?_
                        refine sq rfl (do_assign (tm rfl (nx rfl hit))) ?_
                        refine sq rfl (do_assign (tm rfl (nx rfl hit))) ?_
                        refine cutL ?_
                        intro τ63 e63
                        have c63_0 := (congrFun e63 0).trans (nx rfl (nx rfl (nx rfl (nx rfl (nx rfl (nx rfl (nx rfl (nx rfl c59_0))))))))
                        have c63_1 := (congrFun e63 1).trans (nx rfl (nx rfl (nx rfl (nx rfl (nx rfl (nx rfl (nx rfl (nx rfl c59_1))))))))
                        have c63_2 := (congrFun e63 2).trans (nx rfl (nx rfl (nx rfl (nx rfl (nx rfl (nx rfl (nx rfl (nx rfl c59_2))))))))
                        have c63_3 := (congrFun e63 3).trans (nx rfl (nx rfl (nx rfl (nx rfl (nx rfl (nx rfl (nx rfl (nx rfl c59_3))))))))
                        have c63_4 := (congrFun e63 4).trans (nx rfl (nx rfl (nx rfl (nx rfl (nx rfl (nx rfl (nx rfl (nx rfl c59_4))))))))
                        have c63_5 := (congrFun e63 5).trans (nx rfl (nx rfl (nx rfl (nx rfl (nx rfl (nx rfl (nx rfl (nx rfl c59_5))))))))
                        have c63_12 := (congrFun e63 12).trans (nx rfl (nx rfl (nx rfl (nx rfl (nx rfl (nx rfl (nx rfl (nx rfl c59_12))))))))
                        have c63_13 := (congrFun e63 13).trans (nx rfl hit)
                        have c63_14 := (congrFun e63 14).trans hit
                        clear e63
                        refine wnil ?_
                        refine hK62 _ _ ?_
                        clear hK62
                        refine wp_seq_k (fun K64 hK64 => ?_)
                        refine reg ?_
                        refine sq rfl (do_move (tm rfl c63_14)) ?_
                        refine sq rfl (do_not (tm rfl hit)) ?_
                        refine wnil ?_
                        refine hK64 _ _ ?_
                        clear hK64
                        cases b with
                        | false =>
                          refine cT rfl hit rfl ?_
                          refine wp_seq_k (fun K65 hK65 => ?_)
                          refine reg ?_
                          refine sq rfl (do_assign ck) ?_
                          refine wnil ?_
                          refine hK65 _ _ ?_
                          clear hK65
                          refine wp_ret ?_
                          refine thenR ?_
                          exact hT _ _ hit hb5
                        | true =>
                          refine cF rfl hit rfl ?_
                          refine wp_skip ?_
                          refine hK61 _ _ ?_
                          clear hK61
                          obtain ⟨rk, hRk, rfl, hBk⟩ := hrk rfl
                          have e1 := f3_1.below hbb
                          have e2 := f3_2.below hbb
                          have e3 := f3_3.below hbb
                          have e4 := g4.below hbb
                          have hrl : rk.length = n := hRk.2.1
                          have hRr : IntR w3 (.slice (some ⟨w2.heap.size, 0, none⟩) n n) rk := by
                            have := Blk.intR (c := n) hBk
                            rwa [hrl] at this
                          clear hbb hBk
                          refine wp_seq_k (fun K66 hK66 => ?_)
                          refine reg ?_
                          refine sq rfl (do_move (tm rfl (nx rfl (nx rfl c63_2)))) ?_
                          refine sqc (R := fun v w' => ∃ (xs : List Int) (k : Nat), v = .tuple #[.slice (some ⟨w3.heap.size + 1, 0, none⟩) it.length it.length, .int .i64 (k : Int)] ∧ xs.length = it.length ∧ Blk w' (w3.heap.size + 1) 3 (ints xs) ∧ (∀ x ∈ xs, 0 ≤ x ∧ x < (k : Int)) ∧ k ≤ it.length ∧ Below w3.heap.size w3 w') rfl
                            (run_callF Try.func14 nm14 bd14 (map1 (tm rfl hit)) rfl) ((items14 w3 _ it e2 (by omega)).mono ?_) ?_
                          · rintro e w' ⟨xs, k, rfl, h⟩
                            exact ⟨_, rfl, xs, k, rfl, h⟩
                          rintro cv w4 ⟨xs, k, rfl, hxl, hBx, hxr, hkl, hbb⟩
                          have hb6 := hb5.trans (hbb.mono (by have := hb5.size; omega))
                          have i1 := e1.below hbb
                          have i3 := e3.below hbb
                          have i4 := e4.below hbb
                          have iR := hRr.below hbb
                          have iX : IntR w4 (.slice (some ⟨w3.heap.size + 1, 0, none⟩) it.length it.length) xs := by
                            have := Blk.intR (c := it.length) hBx
                            rwa [hxl] at this
                          clear hbb hBx
                          refine sq rfl (do_move (tm rfl hit)) ?_
                          refine sq rfl (do_extract (tm rfl hit) rfl) ?_
                          refine sq rfl (do_extract (tm rfl (nx rfl hit)) rfl) ?_
                          refine sq rfl (do_assign (tm rfl (nx rfl hit))) ?_
                          refine sq rfl (do_assign (tm rfl (nx rfl hit))) ?_
                          refine cutL ?_
                          intro τ67 e67
                          have c67_0 := (congrFun e67 0).trans (nx rfl (nx rfl (nx rfl (nx rfl (nx rfl (nx rfl (nx rfl (nx rfl (nx rfl c63_0)))))))))
                          have c67_1 := (congrFun e67 1).trans (nx rfl (nx rfl (nx rfl (nx rfl (nx rfl (nx rfl (nx rfl (nx rfl (nx rfl c63_1)))))))))
                          have c67_2 := (congrFun e67 2).trans (nx rfl (nx rfl (nx rfl (nx rfl (nx rfl (nx rfl (nx rfl (nx rfl (nx rfl c63_2)))))))))
                          have c67_3 := (congrFun e67 3).trans (nx rfl (nx rfl (nx rfl (nx rfl (nx rfl (nx rfl (nx rfl (nx rfl (nx rfl c63_3)))))))))
                          have c67_4 := (congrFun e67 4).trans (nx rfl (nx rfl (nx rfl (nx rfl (nx rfl (nx rfl (nx rfl (nx rfl (nx rfl c63_4)))))))))
                          have c67_5 := (congrFun e67 5).trans (nx rfl (nx rfl (nx rfl (nx rfl (nx rfl (nx rfl (nx rfl (nx rfl (nx rfl c63_5)))))))))
                          have c67_12 := (congrFun e67 12).trans (nx rfl (nx rfl (nx rfl (nx rfl (nx rfl (nx rfl (nx rfl (nx rfl (nx rfl c63_12)))))))))
                          have c67_13 := (congrFun e67 13).trans (nx rfl (nx rfl (nx rfl (nx rfl (nx rfl (nx rfl (nx rfl (nx rfl (nx rfl c63_13)))))))))
                          have c67_14 := (congrFun e67 14).trans (nx rfl (nx rfl (nx rfl (nx rfl (nx rfl (nx rfl (nx rfl (nx rfl (nx rfl c63_14)))))))))
                          have c67_15 := (congrFun e67 15).trans (nx rfl hit)
                          have c67_16 := (congrFun e67 16).trans hit
                          clear e67
                          refine wnil ?_
                          refine hK66 _ _ ?_
                          clear hK66
                          refine wp_seq_k (fun K68 hK68 => ?_)
                          refine wp_seq_k (fun K69 hK69 => ?_)
                          refine reg ?_
                          refine sq rfl (do_move (tm rfl c67_0)) ?_
                          refine sq rfl (do_move (tm rfl (nx rfl c67_1))) ?_
                          refine sq rfl (do_move (tm rfl (nx rfl (nx rfl c67_3)))) ?_
                          refine sq rfl (do_move (tm rfl (nx rfl (nx rfl (nx rfl c67_15))))) ?_
                          refine sq rfl (do_move (tm rfl (nx rfl (nx rfl (nx rfl (nx rfl c67_16)))))) ?_
                          refine sq rfl (do_move (tm rfl (nx rfl (nx rfl (nx rfl (nx rfl (nx rfl c67_4))))))) ?_
                          refine sqc (R := fun v w' => ∃ b : Bool, v = .bool b ∧ Below w4.heap.size w4 w' ∧ (b = true → VE (histOf nd xs wr) (rkOf rk) k)) rfl
                            (run_callF Try.func15 nm15 bd15 (map6 (tm rfl (nx rfl (nx rfl (nx rfl (nx rfl (nx rfl hit)))))) (tm rfl (nx rfl (nx rfl (nx rfl (nx rfl hit))))) (tm rfl (nx rfl (nx rfl (nx rfl hit)))) (tm rfl (nx rfl (nx rfl hit))) (tm rfl (nx rfl hit)) (tm rfl hit)) rfl) ((view15 w4 n k _ _ _ _ nd xs pm rk wr i1 i3 iX i4 (by omega) (by omega) hwl (by omega) (by omega) hndr hxr hRk).mono ?_) ?_
                          · rintro e w' ⟨b, rfl, h⟩
                            exact ⟨_, rfl, b, rfl, h⟩
                          rintro cv w5 ⟨b, rfl, hbb, hve⟩
                          have hb7 := hb6.trans (hbb.mono (by have := hb6.size; omega))
                          refine sq rfl (do_not (tm rfl hit)) ?_
                          refine cutL ?_
                          intro τ70 e70
                          have c70_0 := (congrFun e70 0).trans (nx rfl (nx rfl (nx rfl (nx rfl (nx rfl (nx rfl (nx rfl (nx rfl c67_0))))))))
                          have c70_1 := (congrFun e70 1).trans (nx rfl (nx rfl (nx rfl (nx rfl (nx rfl (nx rfl (nx rfl (nx rfl c67_1))))))))
                          have c70_2 := (congrFun e70 2).trans (nx rfl (nx rfl (nx rfl (nx rfl (nx rfl (nx rfl (nx rfl (nx rfl c67_2))))))))
                          have c70_3 := (congrFun e70 3).trans (nx rfl (nx rfl (nx rfl (nx rfl (nx rfl (nx rfl (nx rfl (nx rfl c67_3))))))))
                          have c70_4 := (congrFun e70 4).trans (nx rfl (nx rfl (nx rfl (nx rfl (nx rfl (nx rfl (nx rfl (nx rfl c67_4))))))))
                          have c70_5 := (congrFun e70 5).trans (nx rfl (nx rfl (nx rfl (nx rfl (nx rfl (nx rfl (nx rfl (nx rfl c67_5))))))))
                          have c70_12 := (congrFun e70 12).trans (nx rfl (nx rfl (nx rfl (nx rfl (nx rfl (nx rfl (nx rfl (nx rfl c67_12))))))))
                          have c70_13 := (congrFun e70 13).trans (nx rfl (nx rfl (nx rfl (nx rfl (nx rfl (nx rfl (nx rfl (nx rfl c67_13))))))))
                          have c70_14 := (congrFun e70 14).trans (nx rfl (nx rfl (nx rfl (nx rfl (nx rfl (nx rfl (nx rfl (nx rfl c67_14))))))))
                          have c70_15 := (congrFun e70 15).trans (nx rfl (nx rfl (nx rfl (nx rfl (nx rfl (nx rfl (nx rfl (nx rfl c67_15))))))))
                          have c70_16 := (congrFun e70 16).trans (nx rfl (nx rfl (nx rfl (nx rfl (nx rfl (nx rfl (nx rfl (nx rfl c67_16))))))))
                          have c70_119 := (congrFun e70 119).trans hit
                          clear e70
                          refine wnil ?_
                          refine hK69 _ _ ?_
                          clear hK69
                          cases b with
                          | false =>
                            refine cT rfl c70_119 rfl ?_
                            refine wp_seq_k (fun K71 hK71 => ?_)
                            refine reg ?_
                            refine sq rfl (do_assign ck) ?_
                            refine wnil ?_
                            refine hK71 _ _ ?_
                            clear hK71
                            refine wp_ret ?_
                            refine thenR ?_
                            exact hT _ _ hit hb7
                          | true =>
                            refine cF rfl c70_119 rfl ?_
                            refine wp_skip ?_
                            refine hK68 _ _ ?_
                            clear hK68
                            have hVE := hve rfl
                            have j1 := i1.below hbb
                            have j3 := i3.below hbb
                            have j4 := i4.below hbb
                            have jR := iR.below hbb
                            have jX := iX.below hbb
                            clear hbb
                            have RI : ∀ u v, u < n → v < n → rkOf rk u = rkOf rk v → u = v := fun u v hu hv e => hRk.inj hu hv e
                            refine wp_seq_k (fun K72 hK72 => ?_)
                            refine reg ?_
                            refine sq rfl (do_move (tm rfl c70_0)) ?_
                            refine sq rfl (do_move (tm rfl (nx rfl c70_1))) ?_
                            refine sq rfl (do_move (tm rfl (nx rfl (nx rfl c70_3)))) ?_
                            refine sq rfl (do_move (tm rfl (nx rfl (nx rfl (nx rfl c70_15))))) ?_
                            refine sq rfl (do_move (tm rfl (nx rfl (nx rfl (nx rfl (nx rfl c70_16)))))) ?_
                            refine sqc (R := fun v w' => ∃ pb, v = .tuple #[.pointer (some ⟨pb, 0, none⟩), .bool true] ∧ Prob w5 w' pb n k (fun x => acc (histOf nd xs wr) x nd.length) (rkOf rk)) rfl
                              (run_callF Try.func16 nm16 bd16 (map5 (tm rfl (nx rfl (nx rfl (nx rfl (nx rfl hit))))) (tm rfl (nx rfl (nx rfl (nx rfl hit)))) (tm rfl (nx rfl (nx rfl hit))) (tm rfl (nx rfl hit)) (tm rfl hit)) rfl) ((prob16 w5 n k _ _ _ nd xs wr (rkOf rk) j1 j3 jX (by omega) (by omega) hwl (by omega) (by omega) hndr hxr hVE RI).mono ?_) ?_
                            · rintro e w' ⟨pb, rfl, h⟩
                              exact ⟨_, rfl, pb, rfl, h⟩
                            rintro cv w6 ⟨pb, rfl, hbb, N, wN, G, src, reads, writes, writers, initial, readers, next, succ, pin, rv, wv, wsv, rdv, nv, sv, ib, nb, hNN, hsp, hP, hTb, b1, b2, b3, b4, b5⟩
                            have hb8 := hb7.trans (hbb.mono (by have := hb7.size; omega))
                            have kR := jR.below hbb
                            have hbb6 := hbb
                            clear hbb
                            refine sq rfl (do_move (tm rfl hit)) ?_
                            refine sq rfl (do_extract (tm rfl hit) rfl) ?_
                            refine sq rfl (do_extract (tm rfl (nx rfl hit)) rfl) ?_
                            refine sq rfl (do_assign (tm rfl (nx rfl hit))) ?_
                            refine sq rfl (do_assign (tm rfl (nx rfl hit))) ?_
                            refine cutL ?_
                            intro τ73 e73
                            have c73_0 := (congrFun e73 0).trans (nx rfl (nx rfl (nx rfl (nx rfl (nx rfl (nx rfl (nx rfl (nx rfl (nx rfl (nx rfl (nx rfl c70_0)))))))))))
                            have c73_1 := (congrFun e73 1).trans (nx rfl (nx rfl (nx rfl (nx rfl (nx rfl (nx rfl (nx rfl (nx rfl (nx rfl (nx rfl (nx rfl c70_1)))))))))))
                            have c73_2 := (congrFun e73 2).trans (nx rfl (nx rfl (nx rfl (nx rfl (nx rfl (nx rfl (nx rfl (nx rfl (nx rfl (nx rfl (nx rfl c70_2)))))))))))
                            have c73_3 := (congrFun e73 3).trans (nx rfl (nx rfl (nx rfl (nx rfl (nx rfl (nx rfl (nx rfl (nx rfl (nx rfl (nx rfl (nx rfl c70_3)))))))))))
                            have c73_4 := (congrFun e73 4).trans (nx rfl (nx rfl (nx rfl (nx rfl (nx rfl (nx rfl (nx rfl (nx rfl (nx rfl (nx rfl (nx rfl c70_4)))))))))))
                            have c73_5 := (congrFun e73 5).trans (nx rfl (nx rfl (nx rfl (nx rfl (nx rfl (nx rfl (nx rfl (nx rfl (nx rfl (nx rfl (nx rfl c70_5)))))))))))
                            have c73_12 := (congrFun e73 12).trans (nx rfl (nx rfl (nx rfl (nx rfl (nx rfl (nx rfl (nx rfl (nx rfl (nx rfl (nx rfl (nx rfl c70_12)))))))))))
                            have c73_13 := (congrFun e73 13).trans (nx rfl (nx rfl (nx rfl (nx rfl (nx rfl (nx rfl (nx rfl (nx rfl (nx rfl (nx rfl (nx rfl c70_13)))))))))))
                            have c73_14 := (congrFun e73 14).trans (nx rfl (nx rfl (nx rfl (nx rfl (nx rfl (nx rfl (nx rfl (nx rfl (nx rfl (nx rfl (nx rfl c70_14)))))))))))
                            have c73_15 := (congrFun e73 15).trans (nx rfl (nx rfl (nx rfl (nx rfl (nx rfl (nx rfl (nx rfl (nx rfl (nx rfl (nx rfl (nx rfl c70_15)))))))))))
                            have c73_16 := (congrFun e73 16).trans (nx rfl (nx rfl (nx rfl (nx rfl (nx rfl (nx rfl (nx rfl (nx rfl (nx rfl (nx rfl (nx rfl c70_16)))))))))))
                            have c73_17 := (congrFun e73 17).trans (nx rfl hit)
                            have c73_18 := (congrFun e73 18).trans hit
                            clear e73
                            refine wnil ?_
                            refine hK72 _ _ ?_
                            clear hK72
                            refine wp_seq_k (fun K74 hK74 => ?_)
                            refine wp_seq_k (fun K75 hK75 => ?_)
                            refine reg ?_
                            refine sq rfl (do_move (tm rfl c73_18)) ?_
                            refine sq rfl (do_not (tm rfl hit)) ?_
                            refine wnil ?_
                            refine hK75 _ _ ?_
                            clear hK75
                            refine cF rfl hit rfl ?_
                            refine wp_skip ?_
                            refine hK74 _ _ ?_
                            clear hK74
                            have hndn : ∀ i, i < (histOf nd xs wr).m → (histOf nd xs wr).nd i < n := by
                              intro i hi
                              have hi' : i < nd.length := hi
                              have := hndr nd[i] (List.getElem_mem _)
                              show (nd.getD i 0).toNat < n
                              simp only [List.getD_eq_getElem?_getD, List.getElem?_eq_getElem hi', Option.getD_some]
                              omega
                            have hL : ∀ y, y < k → Pl.Loc (loc (acc (histOf nd xs wr) y nd.length)) (rkOf rk) n := fun y hy => loc_of_ve hVE (fun i hi => hndn i hi) RI hy
                            have hBN : ∀ (wi : World) (Gi : Nat → Part), Split N wN wi Gi → Below w5.heap.size w5 wi := fun wi Gi hsi => ⟨hsi.below.os.trans (hsp.below.os.symm.trans hbb6.os), hsi.below.tape.trans (hsp.below.tape.symm.trans hbb6.tape), hsi.below.output.trans (hsp.below.output.symm.trans hbb6.output), Nat.le_trans hNN hsi.base, fun b hb => (hsi.below.block b (by omega)).trans ((hsp.below.block b (by omega)).symm.trans (hbb6.block b hb))⟩
                            refine wp_seq_k (fun K76 hK76 => ?_)
                            refine reg ?_
                            refine sq rfl (do_move (tm rfl (nx rfl (nx rfl c73_17)))) ?_
                            refine sqc (R := fun v w' => v = .slice (some ⟨w6.heap.size, 0, none⟩) k k ∧ Blk w' w6.heap.size 3 (ints initial) ∧ Below w6.heap.size w6 w') rfl
                              (run_callF Try.func25 nm25 bd25 (map1 (tm rfl hit)) rfl) ((initial25 w6 pb ib k initial hTb.l4 (hP.p.cell hsp (i := 3) rfl) (hP.t5.blk hsp) (by omega)).mono ?_) ?_
                            · rintro e w' ⟨rfl, h⟩
                              exact ⟨_, rfl, rfl, h⟩
                            rintro cv w7 ⟨rfl, hBi, hbb⟩
                            refine sq rfl (do_assign (tm rfl hit)) ?_
                            refine cutL ?_
                            intro τ77 e77
                            have c77_0 := (congrFun e77 0).trans (nx rfl (nx rfl (nx rfl (nx rfl (nx rfl c73_0)))))
                            have c77_1 := (congrFun e77 1).trans (nx rfl (nx rfl (nx rfl (nx rfl (nx rfl c73_1)))))
                            have c77_2 := (congrFun e77 2).trans (nx rfl (nx rfl (nx rfl (nx rfl (nx rfl c73_2)))))
                            have c77_3 := (congrFun e77 3).trans (nx rfl (nx rfl (nx rfl (nx rfl (nx rfl c73_3)))))
                            have c77_4 := (congrFun e77 4).trans (nx rfl (nx rfl (nx rfl (nx rfl (nx rfl c73_4)))))
                            have c77_5 := (congrFun e77 5).trans (nx rfl (nx rfl (nx rfl (nx rfl (nx rfl c73_5)))))
                            have c77_12 := (congrFun e77 12).trans (nx rfl (nx rfl (nx rfl (nx rfl (nx rfl c73_12)))))
                            have c77_13 := (congrFun e77 13).trans (nx rfl (nx rfl (nx rfl (nx rfl (nx rfl c73_13)))))
                            have c77_14 := (congrFun e77 14).trans (nx rfl (nx rfl (nx rfl (nx rfl (nx rfl c73_14)))))
                            have c77_15 := (congrFun e77 15).trans (nx rfl (nx rfl (nx rfl (nx rfl (nx rfl c73_15)))))
                            have c77_16 := (congrFun e77 16).trans (nx rfl (nx rfl (nx rfl (nx rfl (nx rfl c73_16)))))
                            have c77_17 := (congrFun e77 17).trans (nx rfl (nx rfl (nx rfl (nx rfl (nx rfl c73_17)))))
                            have c77_18 := (congrFun e77 18).trans (nx rfl (nx rfl (nx rfl (nx rfl (nx rfl c73_18)))))
                            have c77_19 := (congrFun e77 19).trans hit
                            clear e77
                            refine wnil ?_
                            refine hK76 _ _ ?_
                            clear hK76
                            obtain ⟨G1, k1, hsp1, hj⟩ := hsp.junkB hbb 50
                            have hSo1 := hj _ _ _ (Nat.le_refl _) hBi
                            have hP1 := hP.same k1 (by decide)
                            clear hbb hj hBi hP hsp
                            generalize w6.heap.size = bSo at *
                            obtain ⟨wa, wc, rfl⟩ := hP1.t3.slice
                            refine wp_seq_k (fun K78 hK78 => ?_)
                            refine reg ?_
                            refine sq rfl (do_move (tm rfl c77_17)) ?_
                            refine sqc (R := fun v w' => ∃ (vI vS : Value) (H' : Nat → Part), v = .tuple #[vI, vS] ∧ Split N wN w' H' ∧ Same [51, 52] G1 H' ∧ TabV (H' 51) 22 3 1 encI vI (writes.map fun r => r.map Prod.fst) ∧ TabV (H' 52) 22 3 1 encI vS (writes.map fun r => r.map Prod.snd)) rfl
                              (run_callF Try.func26 nm26 bd26 (map1 (tm rfl hit)) rfl) ((items26 hsp1 pb writes.length wa wc _ writes hP1.p rfl hP1.t3 rfl (by have := hTb.l2; omega) b2).mono ?_) ?_
                            · rintro e w' ⟨vI, vS, H', rfl, h⟩
                              exact ⟨_, rfl, vI, vS, H', rfl, h⟩
                            rintro cv w8 ⟨vI, vS, G2, rfl, hsp2, k2, hTI, hTS⟩
                            refine sq rfl (do_move (tm rfl hit)) ?_
                            refine sq rfl (do_extract (tm rfl hit) rfl) ?_
                            refine sq rfl (do_extract (tm rfl (nx rfl hit)) rfl) ?_
                            refine sq rfl (do_assign (tm rfl (nx rfl hit))) ?_
                            refine sq rfl (do_assign (tm rfl (nx rfl hit))) ?_
                            refine cutL ?_
                            intro τ79 e79
                            have c79_0 := (congrFun e79 0).trans (nx rfl (nx rfl (nx rfl (nx rfl (nx rfl (nx rfl (nx rfl c77_0)))))))
                            have c79_1 := (congrFun e79 1).trans (nx rfl (nx rfl (nx rfl (nx rfl (nx rfl (nx rfl (nx rfl c77_1)))))))
                            have c79_2 := (congrFun e79 2).trans (nx rfl (nx rfl (nx rfl (nx rfl (nx rfl (nx rfl (nx rfl c77_2)))))))
                            have c79_3 := (congrFun e79 3).trans (nx rfl (nx rfl (nx rfl (nx rfl (nx rfl (nx rfl (nx rfl c77_3)))))))
                            have c79_4 := (congrFun e79 4).trans (nx rfl (nx rfl (nx rfl (nx rfl (nx rfl (nx rfl (nx rfl c77_4)))))))
                            have c79_5 := (congrFun e79 5).trans (nx rfl (nx rfl (nx rfl (nx rfl (nx rfl (nx rfl (nx rfl c77_5)))))))
                            have c79_12 := (congrFun e79 12).trans (nx rfl (nx rfl (nx rfl (nx rfl (nx rfl (nx rfl (nx rfl c77_12)))))))
                            have c79_13 := (congrFun e79 13).trans (nx rfl (nx rfl (nx rfl (nx rfl (nx rfl (nx rfl (nx rfl c77_13)))))))
                            have c79_14 := (congrFun e79 14).trans (nx rfl (nx rfl (nx rfl (nx rfl (nx rfl (nx rfl (nx rfl c77_14)))))))
                            have c79_15 := (congrFun e79 15).trans (nx rfl (nx rfl (nx rfl (nx rfl (nx rfl (nx rfl (nx rfl c77_15)))))))
                            have c79_16 := (congrFun e79 16).trans (nx rfl (nx rfl (nx rfl (nx rfl (nx rfl (nx rfl (nx rfl c77_16)))))))
                            have c79_17 := (congrFun e79 17).trans (nx rfl (nx rfl (nx rfl (nx rfl (nx rfl (nx rfl (nx rfl c77_17)))))))
                            have c79_18 := (congrFun e79 18).trans (nx rfl (nx rfl (nx rfl (nx rfl (nx rfl (nx rfl (nx rfl c77_18)))))))
                            have c79_19 := (congrFun e79 19).trans (nx rfl (nx rfl (nx rfl (nx rfl (nx rfl (nx rfl (nx rfl c77_19)))))))
                            have c79_20 := (congrFun e79 20).trans (nx rfl hit)
                            have c79_21 := (congrFun e79 21).trans hit
                            clear e79
                            refine wnil ?_
                            refine hK78 _ _ ?_
                            clear hK78
                            have hP2 := hP1.same k2 (by decide)
                            have hSo2 := k2.vb (t := 50) (by decide) hSo1
                            refine wp_seq_k (fun K80 hK80 => ?_)
                            refine reg ?_
                            refine sq rfl (do_move (tm rfl c79_0)) ?_
                            refine sq rfl (mk23 (tm rfl hit) (tm rfl hit) (by omega)) ?_
                            refine sq rfl (do_assign (tm rfl hit)) ?_
                            refine cutW ?_
                            intro τ81 e81 xp hxp
                            have c81_0 := (congrFun e81 0).trans (nx rfl (nx rfl (nx rfl c79_0)))
                            have c81_1 := (congrFun e81 1).trans (nx rfl (nx rfl (nx rfl c79_1)))
                            have c81_2 := (congrFun e81 2).trans (nx rfl (nx rfl (nx rfl c79_2)))
                            have c81_3 := (congrFun e81 3).trans (nx rfl (nx rfl (nx rfl c79_3)))
                            have c81_4 := (congrFun e81 4).trans (nx rfl (nx rfl (nx rfl c79_4)))
                            have c81_5 := (congrFun e81 5).trans (nx rfl (nx rfl (nx rfl c79_5)))
                            have c81_12 := (congrFun e81 12).trans (nx rfl (nx rfl (nx rfl c79_12)))
                            have c81_13 := (congrFun e81 13).trans (nx rfl (nx rfl (nx rfl c79_13)))
                            have c81_14 := (congrFun e81 14).trans (nx rfl (nx rfl (nx rfl c79_14)))
                            have c81_15 := (congrFun e81 15).trans (nx rfl (nx rfl (nx rfl c79_15)))
                            have c81_16 := (congrFun e81 16).trans (nx rfl (nx rfl (nx rfl c79_16)))
                            have c81_17 := (congrFun e81 17).trans (nx rfl (nx rfl (nx rfl c79_17)))
                            have c81_18 := (congrFun e81 18).trans (nx rfl (nx rfl (nx rfl c79_18)))
                            have c81_19 := (congrFun e81 19).trans (nx rfl (nx rfl (nx rfl c79_19)))
                            have c81_20 := (congrFun e81 20).trans (nx rfl (nx rfl (nx rfl c79_20)))
                            have c81_21 := (congrFun e81 21).trans (nx rfl (nx rfl (nx rfl c79_21)))
                            have c81_22 := (congrFun e81 22).trans hit
                            clear e81
                            refine wnil ?_
                            refine hK80 _ _ ?_
                            clear hK80
                            obtain ⟨G3, k3, hraw, hPn0⟩ := blkN hsp2 53 4 (madeCells #[.bool false] n)
                            have hsp3 : Split N wN xp G3 := by rw [hxp]; exact hraw
                            have hPn3 : VB (G3 53) w8.heap.size 4 (bools (List.replicate n false)) := by
                              rw [made_list] at hPn0
                              simpa [bools] using hPn0
                            have hP3 := hP2.same k3 (by decide)
                            have hSo3 := k3.vb (t := 50) (by decide) hSo2
                            have hTI3 : TabV (G3 51) 22 3 1 encI vI (writes.map fun r => r.map Prod.fst) := by rw [k3 51 (by decide)]; exact hTI
                            have hTS3 : TabV (G3 52) 22 3 1 encI vS (writes.map fun r => r.map Prod.snd) := by rw [k3 52 (by decide)]; exact hTS
                            clear hxp hraw hPn0 hsp1 hsp2 hP1 hP2 hSo1 hSo2 hTI hTS k1 k2 k3
                            generalize w8.heap.size = bP at *
                            refine wp_seq_k (fun K82 hK82 => ?_)
                            refine wp_seq_k (fun K83 hK83 => ?_)
                            refine reg ?_
                            refine sq rfl (do_assign (v := .int .i64 ((0 : Nat) : Int)) rfl) ?_
                            refine wnil ?_
                            refine hK83 _ _ ?_
                            clear hK83
                            refine forLoop (N := 185) (fun r τ wi => ∃ (p : Nat) (Gi : Nat → Part) (so : List Int) (pn : List Bool), r = cn - p ∧ p ≤ cn ∧ τ 0 = .int .i64 (n : Int) ∧ τ 4 = u4 ∧ τ 5 = .int .i64 (cn : Int) ∧ τ 17 = .pointer (some ⟨pb, 0, none⟩) ∧ τ 19 = .slice (some ⟨bSo, 0, none⟩) k k ∧ τ 20 = vI ∧ τ 21 = vS ∧ τ 22 = .slice (some ⟨bP, 0, none⟩) n n ∧ τ 23 = .int .i64 (p : Int) ∧ Split N wN wi Gi ∧ Same [50, 53] G3 Gi ∧ VB (Gi 50) bSo 3 (ints so) ∧ VB (Gi 53) bP 4 (bools pn) ∧ so.length = k ∧ pn.length = n ∧ (∀ v, v < n → pn[v]? = some (decide (rkOf rk v < p))) ∧ SoI n k (rkOf rk) src p so)
                              (fun τ wi => ∃ (Gi : Nat → Part) (so : List Int) (pn : List Bool), τ 0 = .int .i64 (n : Int) ∧ τ 4 = u4 ∧ τ 5 = .int .i64 (cn : Int) ∧ τ 17 = .pointer (some ⟨pb, 0, none⟩) ∧ τ 19 = .slice (some ⟨bSo, 0, none⟩) k k ∧ τ 20 = vI ∧ τ 21 = vS ∧ τ 22 = .slice (some ⟨bP, 0, none⟩) n n ∧ Split N wN wi Gi ∧ Same [50, 53] G3 Gi ∧ VB (Gi 50) bSo 3 (ints so) ∧ VB (Gi 53) bP 4 (bools pn) ∧ so.length = k ∧ pn.length = n ∧ (∀ v, v < n → pn[v]? = some (decide (rkOf rk v < cn))) ∧ SoI n k (rkOf rk) src cn so) cn ?_ ?_ ?_
                            · exact ⟨0, G3, initial, _, rfl, Nat.zero_le _, (nx rfl c81_0), (nx rfl c81_4), (nx rfl c81_5), (nx rfl c81_17), (nx rfl c81_19), (nx rfl c81_20), (nx rfl c81_21), (nx rfl c81_22), hit, hsp3, Same.refl _ _, hSo3, hPn3, hTb.l4, by simp, fun v hv => by simp [hv], SoI.start hTb⟩
                            · rintro Q' r τ wi hnn hx hr ⟨p, Gi, so, pn, rfl, hi, t0, t4, t5, t17, t19, t20, t21, t22, t23, hsG, kG, hSoG, hPnG, hsl, hpl, hpv, hsoI⟩
                              refine wp_seq_k (fun K84 hK84 => ?_)
                              refine wp_seq_k (fun K85 hK85 => ?_)
                              refine reg ?_
                              refine sq rfl (do_move (tm rfl t23)) ?_
                              refine sq rfl (do_move (tm rfl (nx rfl t5))) ?_
                              refine sq rfl (do_lss (tm rfl (nx rfl hit)) (tm rfl hit)) ?_
                              refine wnil ?_
                              refine hK85 _ _ ?_
                              clear hK85
                              by_cases h : p < cn
                              · refine cT rfl hit (by simpa using h) ?_
                                refine wp_skip ?_
                                refine hK84 _ _ ?_
                                clear hK84
                                have hpp : p < pm.length := by have := hRk.1; omega
                                obtain ⟨v, hvn, hve, hvr⟩ := hRk.at hpp
                                obtain ⟨pa, pc, hu4, hpc⟩ := j4.below (hBN wi Gi hsG)
                                obtain ⟨bq, oq, hpa, hcp⟩ := hpc p hpp
                                subst hpa
                                rw [hve] at hcp
                                refine wp_seq_k (fun K86 hK86 => ?_)
                                refine wp_block ?_
                                refine wp_seq_k (fun K87 hK87 => ?_)
                                refine reg ?_
                                refine sq rfl (do_move (tm rfl (nx rfl (nx rfl (nx rfl (t4.trans hu4)))))) ?_
                                refine sq rfl (do_move (tm rfl (nx rfl (nx rfl (nx rfl (nx rfl t23)))))) ?_
                                refine sq rfl (io22 (tm rfl (nx rfl hit)) (tm rfl hit) (by omega)) ?_
                                refine sq rfl (do_load T3 rfl (tm rfl hit) hcp) ?_
                                refine sq rfl (do_assign (tm rfl hit)) ?_
                                refine cutL ?_
                                intro τ88 e88
                                have c88_0 := (congrFun e88 0).trans (nx rfl (nx rfl (nx rfl (nx rfl (nx rfl (nx rfl (nx rfl (nx rfl t0))))))))
                                have c88_4 := (congrFun e88 4).trans (nx rfl (nx rfl (nx rfl (nx rfl (nx rfl (nx rfl (nx rfl (nx rfl t4))))))))
                                have c88_5 := (congrFun e88 5).trans (nx rfl (nx rfl (nx rfl (nx rfl (nx rfl (nx rfl (nx rfl (nx rfl t5))))))))
                                have c88_17 := (congrFun e88 17).trans (nx rfl (nx rfl (nx rfl (nx rfl (nx rfl (nx rfl (nx rfl (nx rfl t17))))))))
                                have c88_19 := (congrFun e88 19).trans (nx rfl (nx rfl (nx rfl (nx rfl (nx rfl (nx rfl (nx rfl (nx rfl t19))))))))
                                have c88_20 := (congrFun e88 20).trans (nx rfl (nx rfl (nx rfl (nx rfl (nx rfl (nx rfl (nx rfl (nx rfl t20))))))))
                                have c88_21 := (congrFun e88 21).trans (nx rfl (nx rfl (nx rfl (nx rfl (nx rfl (nx rfl (nx rfl (nx rfl t21))))))))
                                have c88_22 := (congrFun e88 22).trans (nx rfl (nx rfl (nx rfl (nx rfl (nx rfl (nx rfl (nx rfl (nx rfl t22))))))))
                                have c88_23 := (congrFun e88 23).trans (nx rfl (nx rfl (nx rfl (nx rfl (nx rfl (nx rfl (nx rfl (nx rfl t23))))))))
                                have c88_24 := (congrFun e88 24).trans hit
                                clear e88
                                refine wnil ?_
                                refine hK87 _ _ ?_
                                clear hK87
                                have hvl : v < pn.length := by omega
                                obtain ⟨J1, j1, g1, hPn1⟩ := hPnG.put hsG v (.bool true)
                                rw [bools_set] at hPn1
                                refine wp_seq_k (fun K89 hK89 => ?_)
                                refine reg ?_
                                refine sq rfl (do_move (tm rfl c88_22)) ?_
                                refine sq rfl (do_move (tm rfl (nx rfl c88_24))) ?_
                                refine sq rfl (ix23 (tm rfl (nx rfl hit)) (tm rfl hit) (by omega)) ?_
                                refine sqn (do_store T4 (tm rfl hit) ck rfl (hPnG.cell hsG (bools_get pn v hvl)) (hPnG.frozen hsG v)) ?_
                                refine cutW ?_
                                intro τ90 e90 x1 hx1
                                have c90_0 := (congrFun e90 0).trans (nx rfl (nx rfl (nx rfl c88_0)))
                                have c90_4 := (congrFun e90 4).trans (nx rfl (nx rfl (nx rfl c88_4)))
                                have c90_5 := (congrFun e90 5).trans (nx rfl (nx rfl (nx rfl c88_5)))
                                have c90_17 := (congrFun e90 17).trans (nx rfl (nx rfl (nx rfl c88_17)))
                                have c90_19 := (congrFun e90 19).trans (nx rfl (nx rfl (nx rfl c88_19)))
                                have c90_20 := (congrFun e90 20).trans (nx rfl (nx rfl (nx rfl c88_20)))
                                have c90_21 := (congrFun e90 21).trans (nx rfl (nx rfl (nx rfl c88_21)))
                                have c90_22 := (congrFun e90 22).trans (nx rfl (nx rfl (nx rfl c88_22)))
                                have c90_23 := (congrFun e90 23).trans (nx rfl (nx rfl (nx rfl c88_23)))
                                have c90_24 := (congrFun e90 24).trans (nx rfl (nx rfl (nx rfl c88_24)))
                                clear e90
                                refine wnil ?_
                                refine hK89 _ _ ?_
                                clear hK89
                                have g1' : Split N wN x1 J1 := by rw [hx1]; exact g1
                                clear hx1 g1
                                refine wp_seq_k (fun K91 hK91 => ?_)
                                refine reg ?_
                                refine sq rfl (do_assign (v := .int .i64 ((0 : Nat) : Int)) rfl) ?_
                                refine wnil ?_
                                refine hK91 _ _ ?_
                                clear hK91
                                have hvw : v < writes.length := by rw [hTb.l2]; exact hvn
                                have hlw := len_le_sum writes v hvw
                                refine forLoop (N := 185) (fun r τ wi => ∃ (j : Nat) (Gi : Nat → Part) (so : List Int), r = (writes[v]'hvw).length - j ∧ j ≤ (writes[v]'hvw).length ∧ τ 0 = .int .i64 (n : Int) ∧ τ 4 = u4 ∧ τ 5 = .int .i64 (cn : Int) ∧ τ 17 = .pointer (some ⟨pb, 0, none⟩) ∧ τ 19 = .slice (some ⟨bSo, 0, none⟩) k k ∧ τ 20 = vI ∧ τ 21 = vS ∧ τ 22 = .slice (some ⟨bP, 0, none⟩) n n ∧ τ 23 = .int .i64 (p : Int) ∧ τ 24 = .int .i64 (v : Int) ∧ τ 25 = .int .i64 (j : Int) ∧ Split N wN wi Gi ∧ Same [50, 53] G3 Gi ∧ VB (Gi 50) bSo 3 (ints so) ∧ VB (Gi 53) bP 4 (bools (pn.set v true)) ∧ so.length = k ∧ SoI n k (rkOf rk) src (p + 1) so)
                                  (fun τ wi => ∃ (Gi : Nat → Part) (so : List Int), τ 0 = .int .i64 (n : Int) ∧ τ 4 = u4 ∧ τ 5 = .int .i64 (cn : Int) ∧ τ 17 = .pointer (some ⟨pb, 0, none⟩) ∧ τ 19 = .slice (some ⟨bSo, 0, none⟩) k k ∧ τ 20 = vI ∧ τ 21 = vS ∧ τ 22 = .slice (some ⟨bP, 0, none⟩) n n ∧ τ 23 = .int .i64 (p : Int) ∧ Split N wN wi Gi ∧ Same [50, 53] G3 Gi ∧ VB (Gi 50) bSo 3 (ints so) ∧ VB (Gi 53) bP 4 (bools (pn.set v true)) ∧ so.length = k ∧ SoI n k (rkOf rk) src (p + 1) so) (writes[v]'hvw).length ?_ ?_ ?_
                                · exact ⟨0, J1, so, rfl, Nat.zero_le _, (nx rfl c90_0), (nx rfl c90_4), (nx rfl c90_5), (nx rfl c90_17), (nx rfl c90_19), (nx rfl c90_20), (nx rfl c90_21), (nx rfl c90_22), (nx rfl c90_23), (nx rfl c90_24), hit, g1', kG.trans (j1.mono (by decide)), j1.vb (t := 50) (by decide) hSoG, hPn1, hsl, hsoI.mono (by omega)⟩
                                · clear t0 t4 t5 t17 t19 t20 t21 t22 t23 hsG kG hSoG hPnG hsl hsoI hPn1 g1' j1
                                  rintro Q'' r τ wi hnn' hx' hr' ⟨j, Gi, so, rfl, hj, t0, t4, t5, t17, t19, t20, t21, t22, t23, t24, t25, hsG, kG, hSoG, hPnG, hsl, hsoI⟩
                                  have hTIG : TabV (Gi 51) 22 3 1 encI vI (writes.map fun r => r.map Prod.fst) := by rw [kG 51 (by decide)]; exact hTI3
                                  have hTSG : TabV (Gi 52) 22 3 1 encI vS (writes.map fun r => r.map Prod.snd) := by rw [kG 52 (by decide)]; exact hTS3
                                  have hvI : v < (writes.map fun r => r.map Prod.fst).length := by simpa using hvw
                                  have hvS : v < (writes.map fun r => r.map Prod.snd).length := by simpa using hvw
                                  obtain ⟨gI, cI, ceI, hvIe, hcI, _, hrI⟩ := hTIG.get hsG hvI
                                  obtain ⟨gS, cS, ceS, hvSe, hcS, _, hrS⟩ := hTSG.get hsG hvS
                                  rw [show ((writes.map fun r => r.map Prod.fst)[v]'hvI) = (writes[v]'hvw).map Prod.fst by simp] at hrI
                                  rw [show ((writes.map fun r => r.map Prod.snd)[v]'hvS) = (writes[v]'hvw).map Prod.snd by simp] at hrS
                                  rw [List.length_map] at hrI hrS
                                  obtain ⟨ia, ic, rfl⟩ := hrI.slice
                                  obtain ⟨sa, sc, rfl⟩ := hrS.slice
                                  replace t20 := t20.trans hvIe
                                  replace t21 := t21.trans hvSe
                                  refine wp_seq_k (fun K92 hK92 => ?_)
                                  refine wp_seq_k (fun K93 hK93 => ?_)
                                  refine reg ?_
                                  refine sq rfl (do_move (tm rfl t25)) ?_
                                  refine sq rfl (do_move (tm rfl (nx rfl t20))) ?_
                                  refine sq rfl (do_move (tm rfl (nx rfl (nx rfl t24)))) ?_
                                  refine sq rfl (ix37 (tm rfl (nx rfl hit)) (tm rfl hit) hvI) ?_
                                  refine sq rfl (do_load T22 rfl (tm rfl hit) hcI) ?_
                                  refine sq rfl (do_len Try.underlying22 (tm rfl hit)) ?_
                                  refine sq rfl (do_lss (tm rfl (nx rfl (nx rfl (nx rfl (nx rfl (nx rfl hit)))))) (tm rfl hit)) ?_
                                  refine cutL ?_
                                  intro τ94 e94
                                  have c94_0 := (congrFun e94 0).trans (nx rfl (nx rfl (nx rfl (nx rfl (nx rfl (nx rfl (nx rfl t0)))))))
                                  have c94_4 := (congrFun e94 4).trans (nx rfl (nx rfl (nx rfl (nx rfl (nx rfl (nx rfl (nx rfl t4)))))))
                                  have c94_5 := (congrFun e94 5).trans (nx rfl (nx rfl (nx rfl (nx rfl (nx rfl (nx rfl (nx rfl t5)))))))
                                  have c94_17 := (congrFun e94 17).trans (nx rfl (nx rfl (nx rfl (nx rfl (nx rfl (nx rfl (nx rfl t17)))))))
                                  have c94_19 := (congrFun e94 19).trans (nx rfl (nx rfl (nx rfl (nx rfl (nx rfl (nx rfl (nx rfl t19)))))))
                                  have c94_20 := (congrFun e94 20).trans (nx rfl (nx rfl (nx rfl (nx rfl (nx rfl (nx rfl (nx rfl t20)))))))
                                  have c94_21 := (congrFun e94 21).trans (nx rfl (nx rfl (nx rfl (nx rfl (nx rfl (nx rfl (nx rfl t21)))))))
                                  have c94_22 := (congrFun e94 22).trans (nx rfl (nx rfl (nx rfl (nx rfl (nx rfl (nx rfl (nx rfl t22)))))))
                                  have c94_23 := (congrFun e94 23).trans (nx rfl (nx rfl (nx rfl (nx rfl (nx rfl (nx rfl (nx rfl t23)))))))
                                  have c94_24 := (congrFun e94 24).trans (nx rfl (nx rfl (nx rfl (nx rfl (nx rfl (nx rfl (nx rfl t24)))))))
                                  have c94_25 := (congrFun e94 25).trans (nx rfl (nx rfl (nx rfl (nx rfl (nx rfl (nx rfl (nx rfl t25)))))))
                                  have c94_158 := (congrFun e94 158).trans hit
                                  clear e94
                                  refine wnil ?_
                                  refine hK93 _ _ ?_
                                  clear hK93
                                  by_cases h' : j < (writes[v]'hvw).length
                                  · refine cT rfl c94_158 (by simpa using h') ?_
                                    refine wp_skip ?_
                                    refine hK92 _ _ ?_
                                    clear hK92
                                    obtain ⟨y, hy1, hy2, hyw, hy3⟩ := hTb.wr v hvw (writes[v]'hvw)[j] (List.getElem_mem _)
                                    obtain ⟨gq, rfl, f1, _⟩ := hrI.cellS hsG.drew (cellI (zs := (writes[v]'hvw).map Prod.fst) (i := j) (by simpa using h'))
                                    obtain ⟨gz, rfl, f2, _⟩ := hrS.cellS hsG.drew (cellI (zs := (writes[v]'hvw).map Prod.snd) (i := j) (by simpa using h'))
                                    rw [List.getElem_map, hy1] at f1
                                    rw [List.getElem_map] at f2
                                    generalize (writes[v]'hvw)[j].2 = z2 at *
                                    have hcI' : wi.drew.cell? ⟨gI, v, none⟩ = some (.slice (some ⟨gq, 0, none⟩) (writes[v]'hvw).length ic) := hcI
                                    have hcS' : wi.drew.cell? ⟨gS, v, none⟩ = some (.slice (some ⟨gz, 0, none⟩) (writes[v]'hvw).length sc) := hcS
                                    obtain ⟨J1, j1, g1, hSo1⟩ := hSoG.put hsG.drew y (.int .i64 z2)
                                    rw [ints_set] at hSo1
                                    refine wp_seq_k (fun K95 hK95 => ?_)
                                    refine wp_block ?_
                                    refine draw mixed [16] [(0, 0), (0, 0), (0, 0), (0, 0), (0, 0), (0, 0), (0, 0), (0, 0), (0, 0), (0, 0), (0, 0), (0, 0), (0, 0), (0, 0), (0, 0), (0, 0), (0, 0)] [wi.drew.setCell ⟨bSo, y, none⟩ (.int .i64 z2)] (wi.drew.setCell ⟨bSo, y, none⟩ (.int .i64 z2)) (upd (upd (upd (upd (upd (upd (upd (upd (upd (upd (upd (upd (upd (upd (upd (upd _ 161 _) 162 _) 163 _) 164 _) 165 _) 166 _) 167 _) 168 _) 169 _) 170 _) 171 _) 172 _) 173 _) 174 _) 175 _) 176 _) (by kernel_rfl) (fun s hs => ovr_off [(161, _), (162, _), (163, _), (164, _), (165, _), (166, _), (167, _), (168, _), (169, _), (170, _), (171, _), (172, _), (173, _), (174, _), (175, _), (176, _)] _ s hs) ⟨(qa rfl (fun _ => (do_move (tm rfl (nx rfl (nx rfl (nx rfl (nx rfl (nx rfl (nx rfl (nx rfl (nx rfl (nx rfl (nx rfl (nx rfl (nx rfl (nx rfl (nx rfl (nx rfl (nx rfl c94_19))))))))))))))))))) (nx rfl (nx rfl (nx rfl (nx rfl (nx rfl (nx rfl (nx rfl (nx rfl (nx rfl (nx rfl (nx rfl (nx rfl (nx rfl (nx rfl (nx rfl hit)))))))))))))))), (qa rfl (fun _ => (do_move (tm rfl (nx rfl (nx rfl (nx rfl (nx rfl (nx rfl (nx rfl (nx rfl (nx rfl (nx rfl (nx rfl (nx rfl (nx rfl (nx rfl (nx rfl (nx rfl (nx rfl c94_20))))))))))))))))))) (nx rfl (nx rfl (nx rfl (nx rfl (nx rfl (nx rfl (nx rfl (nx rfl (nx rfl (nx rfl (nx rfl (nx rfl (nx rfl (nx rfl hit))))))))))))))), (qa rfl (fun _ => (do_move (tm rfl (nx rfl (nx rfl (nx rfl (nx rfl (nx rfl (nx rfl (nx rfl (nx rfl (nx rfl (nx rfl (nx rfl (nx rfl (nx rfl (nx rfl (nx rfl (nx rfl c94_24))))))))))))))))))) (nx rfl (nx rfl (nx rfl (nx rfl (nx rfl (nx rfl (nx rfl (nx rfl (nx rfl (nx rfl (nx rfl (nx rfl (nx rfl hit)))))))))))))), (qa rfl (fun _ => (ix37 (tm rfl (nx rfl (nx rfl (nx rfl (nx rfl (nx rfl (nx rfl (nx rfl (nx rfl (nx rfl (nx rfl (nx rfl (nx rfl (nx rfl (nx rfl hit))))))))))))))) (tm rfl (nx rfl (nx rfl (nx rfl (nx rfl (nx rfl (nx rfl (nx rfl (nx rfl (nx rfl (nx rfl (nx rfl (nx rfl (nx rfl hit)))))))))))))) hvI)) (nx rfl (nx rfl (nx rfl (nx rfl (nx rfl (nx rfl (nx rfl (nx rfl (nx rfl (nx rfl (nx rfl (nx rfl hit))))))))))))), (qk rfl (do_load T22 rfl (tm rfl (nx rfl (nx rfl (nx rfl (nx rfl (nx rfl (nx rfl (nx rfl (nx rfl (nx rfl (nx rfl (nx rfl (nx rfl hit))))))))))))) hcI') (nx rfl (nx rfl (nx rfl (nx rfl (nx rfl (nx rfl (nx rfl (nx rfl (nx rfl (nx rfl (nx rfl hit)))))))))))), (qa rfl (fun _ => (do_move (tm rfl (nx rfl (nx rfl (nx rfl (nx rfl (nx rfl (nx rfl (nx rfl (nx rfl (nx rfl (nx rfl (nx rfl (nx rfl (nx rfl (nx rfl (nx rfl (nx rfl c94_25))))))))))))))))))) (nx rfl (nx rfl (nx rfl (nx rfl (nx rfl (nx rfl (nx rfl (nx rfl (nx rfl (nx rfl hit))))))))))), (qa rfl (fun _ => (ix22 (tm rfl (nx rfl (nx rfl (nx rfl (nx rfl (nx rfl (nx rfl (nx rfl (nx rfl (nx rfl (nx rfl (nx rfl hit)))))))))))) (tm rfl (nx rfl (nx rfl (nx rfl (nx rfl (nx rfl (nx rfl (nx rfl (nx rfl (nx rfl (nx rfl hit))))))))))) (by omega))) (nx rfl (nx rfl (nx rfl (nx rfl (nx rfl (nx rfl (nx rfl (nx rfl (nx rfl hit)))))))))), (qk rfl (do_load T3 rfl (tm rfl (nx rfl (nx rfl (nx rfl (nx rfl (nx rfl (nx rfl (nx rfl (nx rfl (nx rfl hit)))))))))) f1) (nx rfl (nx rfl (nx rfl (nx rfl (nx rfl (nx rfl (nx rfl (nx rfl hit))))))))), (qa rfl (fun _ => (do_move (tm rfl (nx rfl (nx rfl (nx rfl (nx rfl (nx rfl (nx rfl (nx rfl (nx rfl (nx rfl (nx rfl (nx rfl (nx rfl (nx rfl (nx rfl (nx rfl (nx rfl c94_21))))))))))))))))))) (nx rfl (nx rfl (nx rfl (nx rfl (nx rfl (nx rfl (nx rfl hit)))))))), (qa rfl (fun _ => (do_move (tm rfl (nx rfl (nx rfl (nx rfl (nx rfl (nx rfl (nx rfl (nx rfl (nx rfl (nx rfl (nx rfl (nx rfl (nx rfl (nx rfl (nx rfl (nx rfl (nx rfl c94_24))))))))))))))))))) (nx rfl (nx rfl (nx rfl (nx rfl (nx rfl (nx rfl hit))))))), (qa rfl (fun _ => (ix37 (tm rfl (nx rfl (nx rfl (nx rfl (nx rfl (nx rfl (nx rfl (nx rfl hit)))))))) (tm rfl (nx rfl (nx rfl (nx rfl (nx rfl (nx rfl (nx rfl hit))))))) hvS)) (nx rfl (nx rfl (nx rfl (nx rfl (nx rfl hit)))))), (qk rfl (do_load T22 rfl (tm rfl (nx rfl (nx rfl (nx rfl (nx rfl (nx rfl hit)))))) hcS') (nx rfl (nx rfl (nx rfl (nx rfl hit))))), (qa rfl (fun _ => (do_move (tm rfl (nx rfl (nx rfl (nx rfl (nx rfl (nx rfl (nx rfl (nx rfl (nx rfl (nx rfl (nx rfl (nx rfl (nx rfl (nx rfl (nx rfl (nx rfl (nx rfl c94_25))))))))))))))))))) (nx rfl (nx rfl (nx rfl hit)))), (qa rfl (fun _ => (ix22 (tm rfl (nx rfl (nx rfl (nx rfl (nx rfl hit))))) (tm rfl (nx rfl (nx rfl (nx rfl hit)))) (by omega))) (nx rfl (nx rfl hit))), (qk rfl (do_load T3 rfl (tm rfl (nx rfl (nx rfl hit))) f2) (nx rfl hit)), (qa rfl (fun _ => (ix22 (tm rfl (nx rfl (nx rfl (nx rfl (nx rfl (nx rfl (nx rfl (nx rfl (nx rfl (nx rfl (nx rfl (nx rfl (nx rfl (nx rfl (nx rfl (nx rfl hit)))))))))))))))) (tm rfl (nx rfl (nx rfl (nx rfl (nx rfl (nx rfl (nx rfl (nx rfl (nx rfl hit))))))))) (by omega))) hit), (en rfl (do_store T3 (tm rfl hit) (tm rfl (nx rfl hit)) rfl (hSoG.cell hsG.drew (ints_get so y (by omega))) (hSoG.frozen hsG.drew y))), trivial⟩ rfl ?_
                                    intro τ96 e96
                                    have c96_0 := (congrFun e96 0).trans (nx rfl (nx rfl (nx rfl (nx rfl (nx rfl (nx rfl (nx rfl (nx rfl (nx rfl (nx rfl (nx rfl (nx rfl (nx rfl (nx rfl (nx rfl (nx rfl c94_0))))))))))))))))
                                    have c96_4 := (congrFun e96 4).trans (nx rfl (nx rfl (nx rfl (nx rfl (nx rfl (nx rfl (nx rfl (nx rfl (nx rfl (nx rfl (nx rfl (nx rfl (nx rfl (nx rfl (nx rfl (nx rfl c94_4))))))))))))))))
                                    have c96_5 := (congrFun e96 5).trans (nx rfl (nx rfl (nx rfl (nx rfl (nx rfl (nx rfl (nx rfl (nx rfl (nx rfl (nx rfl (nx rfl (nx rfl (nx rfl (nx rfl (nx rfl (nx rfl c94_5))))))))))))))))
                                    have c96_17 := (congrFun e96 17).trans (nx rfl (nx rfl (nx rfl (nx rfl (nx rfl (nx rfl (nx rfl (nx rfl (nx rfl (nx rfl (nx rfl (nx rfl (nx rfl (nx rfl (nx rfl (nx rfl c94_17))))))))))))))))
                                    have c96_19 := (congrFun e96 19).trans (nx rfl (nx rfl (nx rfl (nx rfl (nx rfl (nx rfl (nx rfl (nx rfl (nx rfl (nx rfl (nx rfl (nx rfl (nx rfl (nx rfl (nx rfl (nx rfl c94_19))))))))))))))))
                                    have c96_20 := (congrFun e96 20).trans (nx rfl (nx rfl (nx rfl (nx rfl (nx rfl (nx rfl (nx rfl (nx rfl (nx rfl (nx rfl (nx rfl (nx rfl (nx rfl (nx rfl (nx rfl (nx rfl c94_20))))))))))))))))
                                    have c96_21 := (congrFun e96 21).trans (nx rfl (nx rfl (nx rfl (nx rfl (nx rfl (nx rfl (nx rfl (nx rfl (nx rfl (nx rfl (nx rfl (nx rfl (nx rfl (nx rfl (nx rfl (nx rfl c94_21))))))))))))))))
                                    have c96_22 := (congrFun e96 22).trans (nx rfl (nx rfl (nx rfl (nx rfl (nx rfl (nx rfl (nx rfl (nx rfl (nx rfl (nx rfl (nx rfl (nx rfl (nx rfl (nx rfl (nx rfl (nx rfl c94_22))))))))))))))))
                                    have c96_23 := (congrFun e96 23).trans (nx rfl (nx rfl (nx rfl (nx rfl (nx rfl (nx rfl (nx rfl (nx rfl (nx rfl (nx rfl (nx rfl (nx rfl (nx rfl (nx rfl (nx rfl (nx rfl c94_23))))))))))))))))
                                    have c96_24 := (congrFun e96 24).trans (nx rfl (nx rfl (nx rfl (nx rfl (nx rfl (nx rfl (nx rfl (nx rfl (nx rfl (nx rfl (nx rfl (nx rfl (nx rfl (nx rfl (nx rfl (nx rfl c94_24))))))))))))))))
                                    have c96_25 := (congrFun e96 25).trans (nx rfl (nx rfl (nx rfl (nx rfl (nx rfl (nx rfl (nx rfl (nx rfl (nx rfl (nx rfl (nx rfl (nx rfl (nx rfl (nx rfl (nx rfl (nx rfl c94_25))))))))))))))))
                                    clear e96
                                    refine inBN ?_
                                    refine hK95 _ _ ?_
                                    clear hK95
                                    refine reg ?_
                                    refine sq rfl (do_move (tm rfl c96_25)) ?_
                                    refine sq rfl (do_inc (tm rfl hit) ck (by omega)) ?_
                                    refine sq rfl (do_assign (tm rfl hit)) ?_
                                    refine wnil ?_
                                    exact hnn' ((writes[v]'hvw).length - (j + 1)) _ _ (by omega) ⟨j + 1, J1, so.set y z2, rfl, by omega, (nx rfl (nx rfl (nx rfl c96_0))), (nx rfl (nx rfl (nx rfl c96_4))), (nx rfl (nx rfl (nx rfl c96_5))), (nx rfl (nx rfl (nx rfl c96_17))), (nx rfl (nx rfl (nx rfl c96_19))), (nx rfl (nx rfl (nx rfl c96_20))).trans hvIe.symm, (nx rfl (nx rfl (nx rfl c96_21))).trans hvSe.symm, (nx rfl (nx rfl (nx rfl c96_22))), (nx rfl (nx rfl (nx rfl c96_23))), (nx rfl (nx rfl (nx rfl c96_24))), hit, g1, kG.trans (j1.mono (by decide)), hSo1, j1.vb (t := 53) (by decide) hPnG, by simpa using hsl, hsoI.put hsl hy2 hvn (by omega) hy3⟩
                                  · refine cF rfl c94_158 (by simpa using h') ?_
                                    refine wp_exit ?_
                                    refine thenE ?_
                                    exact hx' _ _ ⟨Gi, so, c94_0, c94_4, c94_5, c94_17, c94_19, c94_20.trans hvIe.symm, c94_21.trans hvSe.symm, c94_22, c94_23, hsG, kG, hSoG, hPnG, hsl, hsoI⟩
                                clear t0 t4 t5 t17 t19 t20 t21 t22 t23 hsG kG hSoG hPnG hsl hsoI hPn1 g1' j1
                                rintro τ wi ⟨Gi, so, t0, t4, t5, t17, t19, t20, t21, t22, t23, hsG, kG, hSoG, hPnG, hsl, hsoI⟩
                                refine inBN ?_
                                refine hK86 _ _ ?_
                                clear hK86
                                refine reg ?_
                                refine sq rfl (do_move (tm rfl t23)) ?_
                                refine sq rfl (do_inc (tm rfl hit) ck (by omega)) ?_
                                refine sq rfl (do_assign (tm rfl hit)) ?_
                                refine wnil ?_
                                refine hnn (cn - (p + 1)) _ _ (by omega) ⟨p + 1, Gi, so, pn.set v true, rfl, by omega, (nx rfl (nx rfl (nx rfl t0))), (nx rfl (nx rfl (nx rfl t4))), (nx rfl (nx rfl (nx rfl t5))), (nx rfl (nx rfl (nx rfl t17))), (nx rfl (nx rfl (nx rfl t19))), (nx rfl (nx rfl (nx rfl t20))), (nx rfl (nx rfl (nx rfl t21))), (nx rfl (nx rfl (nx rfl t22))), hit, hsG, kG, hSoG, hPnG, hsl, by simpa using hpl, ?_, hsoI⟩
                                intro u hu
                                by_cases huv : v = u
                                · subst huv
                                  rw [List.getElem?_set_self hvl, hvr]
                                  simp
                                · rw [List.getElem?_set_ne huv, hpv u hu]
                                  have h1 : rkOf rk u ≠ p := fun e => huv (RI v u hvn hu (by omega))
                                  have h2 : decide (rkOf rk u < p) = decide (rkOf rk u < p + 1) := by
                                    apply decide_eq_decide.2
                                    omega
                                  rw [h2]
                              · refine cF rfl hit (by simpa using h) ?_
                                refine wp_exit ?_
                                refine thenE ?_
                                have hpc : p = cn := by omega
                                rw [hpc] at hpv hsoI
                                exact hx _ _ ⟨Gi, so, pn, (nx rfl (nx rfl (nx rfl t0))), (nx rfl (nx rfl (nx rfl t4))), (nx rfl (nx rfl (nx rfl t5))), (nx rfl (nx rfl (nx rfl t17))), (nx rfl (nx rfl (nx rfl t19))), (nx rfl (nx rfl (nx rfl t20))), (nx rfl (nx rfl (nx rfl t21))), (nx rfl (nx rfl (nx rfl t22))), hsG, kG, hSoG, hPnG, hsl, hpl, hpv, hsoI⟩
                            rintro τ wi ⟨Gi, so, pn, t0, t4, t5, t17, t19, t20, t21, t22, hsG, kG, hSoG, hPnG, hsl, hpl, hpv, hsoI⟩
                            refine hK82 _ _ ?_
                            clear hK82
                            have hPi := hP3.same kG (by decide)
                            obtain ⟨wsa, wsc, hwse⟩ := hPi.t4.slice
                            obtain ⟨da, dc, rfl⟩ := hPi.t6.slice
                            obtain ⟨nxa, nxc, hnxe⟩ := hPi.t7.slice
                            obtain ⟨sa, sc0, hsue⟩ := hPi.t8.slice
                            rw [hTb.l3] at hwse
                            rw [hTb.l6] at hnxe
                            rw [hTb.l5] at hsue
                            subst hwse
                            subst hnxe
                            subst hsue
                            clear hP3 hSo3 hPn3 hsp3 hTI3 hTS3
                            refine wp_seq_k (fun K97 hK97 => ?_)
                            refine reg ?_
                            refine sq rfl (do_move (tm rfl t17)) ?_
                            refine sq rfl (do_move (tm rfl (nx rfl t0))) ?_
                            refine sq rfl (do_move (tm rfl (nx rfl (nx rfl t22)))) ?_
                            refine sq rfl (do_move (tm rfl (nx rfl (nx rfl (nx rfl t19))))) ?_
                            refine sqc (R := fun v w' => ∃ (sb bNo bLo bW : Nat) (ita : Option Addr) (itc : Nat) (its : List Int) (ws : List Nat) (H' : Nat → Part), v = .pointer (some ⟨sb, 0, none⟩) ∧ Split N wN w' H' ∧ Same [28, 40, 54, 55, 56, 57, 58] Gi H' ∧ VB (H' 40) sb 72 (SCs pb bSo bLo bNo bW k n ((n + 63) / 64) its.length itc ita 1073741824 (.slice none 0 0) (.slice none 0 0)) ∧ VB (H' 54) bNo 3 (ints (rng n)) ∧ VB (H' 55) bLo 3 (ints (rng n)) ∧ RowV (H' 56) 3 1 (.slice ita its.length itc) its.length (its.flatMap encI) ∧ (∀ x ∈ its, ∃ y : Nat, x = (y : Int) ∧ y < k) ∧ its.length ≤ k ∧ VB (H' 57) bW 65 (u64s ws) ∧ ws.length = (n + 63) / 64 ∧ Bits ws n (fun v => pn.getD v false)) rfl
                              (run_callF Try.func27 nm27 bd27 (map4 (tm rfl (nx rfl (nx rfl (nx rfl hit)))) (tm rfl (nx rfl (nx rfl hit))) (tm rfl (nx rfl hit)) (tm rfl hit)) rfl) ((search27 hsG pb n k bP bSo wsa wsc _ writers pn hPi.p rfl hPi.t4 hTb.l3 hPnG hpl (by omega) (by omega) (fun r hr => Nat.le_trans (hTb.wb r hr) (by decide))).mono ?_) ?_
                            · rintro e w' ⟨sb, bNo, bLo, bW, ita, itc, its, ws, H', rfl, h⟩
                              exact ⟨_, rfl, sb, bNo, bLo, bW, ita, itc, its, ws, H', rfl, h⟩
                            rintro cv w9 ⟨sb, bNo, bLo, bW, ita, itc, its, ws, H2, rfl, hs2, k2, hSb, hNo, hLo, hIt, hitp, hitl, hW, hwl2, hbits⟩
                            refine sq rfl (do_assign (tm rfl hit)) ?_
                            refine cutL ?_
                            intro τ98 e98
                            have c98_0 := (congrFun e98 0).trans (nx rfl (nx rfl (nx rfl (nx rfl (nx rfl (nx rfl t0))))))
                            have c98_4 := (congrFun e98 4).trans (nx rfl (nx rfl (nx rfl (nx rfl (nx rfl (nx rfl t4))))))
                            have c98_5 := (congrFun e98 5).trans (nx rfl (nx rfl (nx rfl (nx rfl (nx rfl (nx rfl t5))))))
                            have c98_17 := (congrFun e98 17).trans (nx rfl (nx rfl (nx rfl (nx rfl (nx rfl (nx rfl t17))))))
                            have c98_19 := (congrFun e98 19).trans (nx rfl (nx rfl (nx rfl (nx rfl (nx rfl (nx rfl t19))))))
                            have c98_20 := (congrFun e98 20).trans (nx rfl (nx rfl (nx rfl (nx rfl (nx rfl (nx rfl t20))))))
                            have c98_21 := (congrFun e98 21).trans (nx rfl (nx rfl (nx rfl (nx rfl (nx rfl (nx rfl t21))))))
                            have c98_22 := (congrFun e98 22).trans (nx rfl (nx rfl (nx rfl (nx rfl (nx rfl (nx rfl t22))))))
                            have c98_26 := (congrFun e98 26).trans hit
                            clear e98
                            refine wnil ?_
                            refine hK97 _ _ ?_
                            clear hK97
                            have hPf := hPi.same k2 (by decide)
                            have hSo2 := k2.vb (t := 50) (by decide) hSoG
                            have hplv : ∀ v, v < n → (fun v => pn.getD v false) v = decide (rkOf rk v < cn) := by
                              intro v hv
                              show pn.getD v false = _
                              rw [List.getD_eq_getElem?_getD, hpv v hv]
                              rfl
                            refine wp_seq_k (fun K99 hK99 => ?_)
                            refine reg ?_
                            refine sq rfl (do_move (tm rfl c98_26)) ?_
                            refine sqc (R := fun c w' => c = .bool false ∧ ∃ G', Split N wN w' G') rfl (run_callF Try.func28 nm28 bd28 (map1 (tm rfl hit)) rfl) ((stuck28 w9 _ (fun w' => ∃ G', Split N wN w' G') (stuck37 hs2 pb sb n k readers.length ((n + 63) / 64) bSo bLo bNo bW itc wsc dc nxc sc0 ita wsa da nxa sa _ its so next ws (fun v => pn.getD v false) (Rst n (rkOf rk) (fun v => pn.getD v false) so its readers) writers readers succ hPf.p rfl rfl rfl rfl hPf.t4 hPf.t6 hPf.t7 hPf.t8 hSb hSo2 hNo hLo hIt hW hwl2 hbits hsl hTb.l3 rfl hTb.l6 hTb.l5 (by omega) (by omega) hitl b5 b3 hTb.wb (fun v h _ u hu => stuckA hTb _ so its v h u hu) (stuckB hTb hL RI _ cn hplv so its hsoI hitp))).mono ?_) ?_
                            · rintro e w' ⟨rfl, hx⟩
                              exact ⟨_, rfl, rfl, hx⟩
                            rintro cv w10 ⟨rfl, G9, hs9⟩
                            refine sq rfl (do_not (tm rfl hit)) ?_
                            refine sq rfl (do_assign (tm rfl hit)) ?_
                            refine cutL ?_
                            intro τ100 e100
                            have c100_0 := (congrFun e100 0).trans (nx rfl (nx rfl (nx rfl (nx rfl c98_0))))
                            have c100_4 := (congrFun e100 4).trans (nx rfl (nx rfl (nx rfl (nx rfl c98_4))))
                            have c100_5 := (congrFun e100 5).trans (nx rfl (nx rfl (nx rfl (nx rfl c98_5))))
                            have c100_12 := (congrFun e100 12).trans hit
                            have c100_17 := (congrFun e100 17).trans (nx rfl (nx rfl (nx rfl (nx rfl c98_17))))
                            have c100_19 := (congrFun e100 19).trans (nx rfl (nx rfl (nx rfl (nx rfl c98_19))))
                            have c100_20 := (congrFun e100 20).trans (nx rfl (nx rfl (nx rfl (nx rfl c98_20))))
                            have c100_21 := (congrFun e100 21).trans (nx rfl (nx rfl (nx rfl (nx rfl c98_21))))
                            have c100_22 := (congrFun e100 22).trans (nx rfl (nx rfl (nx rfl (nx rfl c98_22))))
                            have c100_26 := (congrFun e100 26).trans (nx rfl (nx rfl (nx rfl (nx rfl c98_26))))
                            clear e100
                            refine wnil ?_
                            refine hK99 _ _ ?_
                            clear hK99
                            refine wp_ret ?_
                            exact hT _ _ c100_12 (hb7.trans ((hBN _ _ hs9).mono (by have := hb7.size; omega)))
end Go.Proofs.Qxb6001364a
