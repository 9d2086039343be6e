/-
  THE LAWS.
-/
import Derived.Test.Qxb6001364aV12
import Derived.Test.Qxb6001364aV5
namespace Go.Proofs.Qxb6001364a
open Go.Fra Go.RowKit Pl
set_option maxRecDepth 100000
set_option linter.unusedVariables false
theorem nm9 : (Try.f9.name == "runtime.NumGoroutine") = false := by kernel_rfl
theorem bd9 : Try.f9.body.isNone = false := by kernel_rfl
theorem nm10 : (Try.f10.name == "runtime.NumGoroutine") = false := by kernel_rfl
theorem bd10 : Try.f10.body.isNone = false := by kernel_rfl
theorem nm11 : (Try.f11.name == "runtime.NumGoroutine") = false := by kernel_rfl
theorem bd11 : Try.f11.body.isNone = false := by kernel_rfl
theorem nm12 : (Try.f12.name == "runtime.NumGoroutine") = false := by kernel_rfl
theorem bd12 : Try.f12.body.isNone = false := by kernel_rfl
theorem nm13 : (Try.f13.name == "runtime.NumGoroutine") = false := by kernel_rfl
theorem bd13 : Try.f13.body.isNone = false := by kernel_rfl
theorem nm14 : (Try.f14.name == "runtime.NumGoroutine") = false := by kernel_rfl
theorem bd14 : Try.f14.body.isNone = false := by kernel_rfl
theorem nm15 : (Try.f15.name == "runtime.NumGoroutine") = false := by kernel_rfl
theorem bd15 : Try.f15.body.isNone = false := by kernel_rfl
theorem nm16 : (Try.f16.name == "runtime.NumGoroutine") = false := by kernel_rfl
theorem bd16 : Try.f16.body.isNone = false := by kernel_rfl
theorem nm17 : (Try.f17.name == "runtime.NumGoroutine") = false := by kernel_rfl
theorem bd17 : Try.f17.body.isNone = false := by kernel_rfl
theorem nm18 : (Try.f18.name == "runtime.NumGoroutine") = false := by kernel_rfl
theorem bd18 : Try.f18.body.isNone = false := by kernel_rfl
theorem nm22 : (Try.f22.name == "runtime.NumGoroutine") = false := by kernel_rfl
theorem bd22 : Try.f22.body.isNone = false := by kernel_rfl
theorem nm23 : (Try.f23.name == "runtime.NumGoroutine") = false := by kernel_rfl
theorem bd23 : Try.f23.body.isNone = false := by kernel_rfl
theorem nm24 : (Try.f24.name == "runtime.NumGoroutine") = false := by kernel_rfl
theorem bd24 : Try.f24.body.isNone = false := by kernel_rfl
set_option maxHeartbeats 1000000 in
theorem law3 (w : World) (z : Int) (v1 v2 v3 v4 : Value) (nd it pm : List Int) (wr : List Bool) (h1 : IntR w v1 nd) (h2 : IntR w v2 it) (h3 : BoolR w v3 wr) (h4 : IntR w v4 pm) :
    Calls Try.prog 3 #[.int .i64 z, v1, v2, v3, v4] w fun e w' => e = .returned (.bool true) ∧ Below w.heap.size w w' := by
  have h1' := h1
  have h2' := h2
  have h3' := h3
  have h4' := h4
  obtain ⟨a1, c1, rfl, _⟩ := h1'
  obtain ⟨a2, c2, rfl, _⟩ := h2'
  obtain ⟨a3, c3, rfl, _⟩ := h3'
  obtain ⟨a4, c4, rfl, _⟩ := h4'
  refine enter (args := [Value.int .i64 z, .slice a1 nd.length c1, .slice a2 it.length c2, .slice a3 wr.length c3, .slice a4 pm.length c4]) Try.func3 rfl Try.ntmps3 rfl ?_
  generalize hQ : bodyPost Try.prog Try.f3 _ = Q
  have hT : ∀ τ w', τ 10 = .bool true → Below w.heap.size w w' → Q .ret (Fr 115 τ) w' := by
    intro τ w' h hb
    rw [← hQ]
    exact ret1 rfl rfl h ⟨rfl, hb⟩
  have s0 : frame0 [Value.int .i64 z, .slice a1 nd.length c1, .slice a2 it.length c2, .slice a3 wr.length c3, .slice a4 pm.length c4] 0 = .int .i64 z := rfl
  have s1 : frame0 [Value.int .i64 z, .slice a1 nd.length c1, .slice a2 it.length c2, .slice a3 wr.length c3, .slice a4 pm.length c4] 1 = .slice a1 nd.length c1 := rfl
  have s2 : frame0 [Value.int .i64 z, .slice a1 nd.length c1, .slice a2 it.length c2, .slice a3 wr.length c3, .slice a4 pm.length c4] 2 = .slice a2 it.length c2 := rfl
  have s3 : frame0 [Value.int .i64 z, .slice a1 nd.length c1, .slice a2 it.length c2, .slice a3 wr.length c3, .slice a4 pm.length c4] 3 = .slice a3 wr.length c3 := rfl
  have s4 : frame0 [Value.int .i64 z, .slice a1 nd.length c1, .slice a2 it.length c2, .slice a3 wr.length c3, .slice a4 pm.length c4] 4 = .slice a4 pm.length c4 := rfl
  generalize frame0 [Value.int .i64 z, .slice a1 nd.length c1, .slice a2 it.length c2, .slice a3 wr.length c3, .slice a4 pm.length c4] = σ at *
  refine wp_seq_k (fun K1 hK1 => ?_)
  refine reg ?_
  refine sq rfl (do_assign ck) ?_
  refine wnil ?_
  refine hK1 _ _ ?_
  clear hK1
  refine wp_seq_k (fun K2 hK2 => ?_)
  refine wp_seq_k (fun K3 hK3 => ?_)
  refine reg ?_
  refine sq rfl (do_move (tm rfl (nx rfl s0))) ?_
  refine sq rfl (do_move (tm rfl (nx rfl (nx rfl s1)))) ?_
  refine sq rfl (do_move (tm rfl (nx rfl (nx rfl (nx rfl s2))))) ?_
  refine sq rfl (do_move (tm rfl (nx rfl (nx rfl (nx rfl (nx rfl s3)))))) ?_
  refine sq rfl (do_move (tm rfl (nx rfl (nx rfl (nx rfl (nx rfl (nx rfl s4))))))) ?_
  refine sqc (R := fun v w' => ∃ b : Bool, v = .bool b ∧ w' = w ∧ (b = true → nd.length ≤ 1048576 ∧ it.length ≤ 1048576 ∧ wr.length ≤ 1048576 ∧ pm.length ≤ 1048576)) rfl
    (run_callF Try.func9 nm9 bd9 (map5 (tm rfl (nx rfl (nx rfl (nx rfl (nx rfl hit))))) (tm rfl (nx rfl (nx rfl (nx rfl hit)))) (tm rfl (nx rfl (nx rfl hit))) (tm rfl (nx rfl hit)) (tm rfl hit)) rfl) ((bytes9 w z _ _ _ _ _ _ _ _ _ _ _ _).mono ?_) ?_
  · rintro e w' ⟨b, rfl, h⟩
    exact ⟨_, rfl, b, rfl, h⟩
  rintro cv w1 ⟨b, rfl, hw1, hb⟩
  subst w1
  refine sq rfl (do_not (tm rfl hit)) ?_
  refine cutL ?_
  intro τ4 e4
  have c4_0 := (congrFun e4 0).trans (nx rfl (nx rfl (nx rfl (nx rfl (nx rfl (nx rfl (nx rfl (nx rfl s0))))))))
  have c4_1 := (congrFun e4 1).trans (nx rfl (nx rfl (nx rfl (nx rfl (nx rfl (nx rfl (nx rfl (nx rfl s1))))))))
  have c4_2 := (congrFun e4 2).trans (nx rfl (nx rfl (nx rfl (nx rfl (nx rfl (nx rfl (nx rfl (nx rfl s2))))))))
  have c4_3 := (congrFun e4 3).trans (nx rfl (nx rfl (nx rfl (nx rfl (nx rfl (nx rfl (nx rfl (nx rfl s3))))))))
  have c4_4 := (congrFun e4 4).trans (nx rfl (nx rfl (nx rfl (nx rfl (nx rfl (nx rfl (nx rfl (nx rfl s4))))))))
  have c4_10 := (congrFun e4 10).trans (nx rfl (nx rfl (nx rfl (nx rfl (nx rfl (nx rfl (nx rfl hit)))))))
  have c4_23 := (congrFun e4 23).trans hit
  clear e4
  refine wnil ?_
  refine hK3 _ _ ?_
  clear hK3
  cases b with
  | false =>
    refine cT rfl c4_23 rfl ?_
    refine wp_seq_k (fun K5 hK5 => ?_)
    refine reg ?_
    refine sq rfl (do_assign ck) ?_
    refine wnil ?_
    refine hK5 _ _ ?_
    clear hK5
    refine wp_ret ?_
    refine thenR ?_
    exact hT _ _ hit (Below.refl _ _)
  | true =>
    refine cF rfl c4_23 rfl ?_
    refine wp_skip ?_
    refine hK2 _ _ ?_
    clear hK2
    obtain ⟨m1, m2, m3, m4⟩ := hb rfl
    by_cases q0 : 65536 < nd.length
    · refine wp_seq_k (fun K6 hK6 => ?_)
      refine wp_seq_k (fun K7 hK7 => ?_)
      refine reg ?_
      refine sq rfl (do_move (tm rfl c4_1)) ?_
      refine sq rfl (do_len Try.underlying22 (tm rfl hit)) ?_
      refine sq rfl (do_gtrT (tm rfl hit) ck (by omega)) ?_
      refine sq rfl (do_move (tm rfl hit)) ?_
      refine sqs rfl rfl hit rfl rfl ?_
      refine sqs rfl rfl (nx rfl hit) rfl rfl ?_
      refine sqs rfl rfl (nx rfl (nx rfl hit)) rfl rfl ?_
      refine sq rfl (do_pickT (tm rfl (nx rfl (nx rfl (nx rfl hit)))) rfl) ?_
      refine sq rfl (do_move (tm rfl hit)) ?_
      refine sqs rfl rfl hit rfl rfl ?_
      refine sqs rfl rfl (nx rfl hit) rfl rfl ?_
      refine sqs rfl rfl (nx rfl (nx rfl hit)) rfl rfl ?_
      refine sq rfl (do_pickT (tm rfl (nx rfl (nx rfl (nx rfl hit)))) rfl) ?_
      refine sq rfl (do_move (tm rfl hit)) ?_
      refine sqs rfl rfl hit rfl rfl ?_
      refine sqs rfl rfl (nx rfl hit) rfl rfl ?_
      refine sqs rfl rfl (nx rfl (nx rfl hit)) rfl rfl ?_
      refine sq rfl (do_pickT (tm rfl (nx rfl (nx rfl (nx rfl hit)))) rfl) ?_
      refine sq rfl (do_move (tm rfl hit)) ?_
      refine sqs rfl rfl hit rfl rfl ?_
      refine sqs rfl rfl (nx rfl hit) rfl rfl ?_
      refine sqs rfl rfl (nx rfl (nx rfl hit)) rfl rfl ?_
      refine sqs rfl rfl (nx rfl (nx rfl (nx rfl hit))) rfl rfl ?_
      refine sqs rfl rfl (nx rfl (nx rfl (nx rfl (nx rfl hit)))) rfl rfl ?_
      refine sqs rfl rfl (nx rfl (nx rfl (nx rfl (nx rfl (nx rfl hit))))) rfl rfl ?_
      refine sqs rfl rfl (nx rfl (nx rfl (nx rfl (nx rfl (nx rfl (nx rfl hit)))))) rfl rfl ?_
      refine sqs rfl rfl (nx rfl (nx rfl (nx rfl (nx rfl (nx rfl (nx rfl (nx rfl hit))))))) rfl rfl ?_
      refine sqs rfl rfl (nx rfl (nx rfl (nx rfl (nx rfl (nx rfl (nx rfl (nx rfl (nx rfl hit)))))))) rfl rfl ?_
      refine sqs rfl rfl (nx rfl (nx rfl (nx rfl (nx rfl (nx rfl (nx rfl (nx rfl (nx rfl (nx rfl hit))))))))) rfl rfl ?_
      refine sqs rfl rfl (nx rfl (nx rfl (nx rfl (nx rfl (nx rfl (nx rfl (nx rfl (nx rfl (nx rfl (nx rfl hit)))))))))) rfl rfl ?_
      refine sqs rfl rfl (nx rfl (nx rfl (nx rfl (nx rfl (nx rfl (nx rfl (nx rfl (nx rfl (nx rfl (nx rfl (nx rfl hit))))))))))) rfl rfl ?_
      refine sqs rfl rfl (nx rfl (nx rfl (nx rfl (nx rfl (nx rfl (nx rfl (nx rfl (nx rfl (nx rfl (nx rfl (nx rfl (nx rfl hit)))))))))))) rfl rfl ?_
      refine sqs rfl rfl (nx rfl (nx rfl (nx rfl (nx rfl (nx rfl (nx rfl (nx rfl (nx rfl (nx rfl (nx rfl (nx rfl (nx rfl (nx rfl hit))))))))))))) rfl rfl ?_
      refine sqs rfl rfl (nx rfl (nx rfl (nx rfl (nx rfl (nx rfl (nx rfl (nx rfl (nx rfl (nx rfl (nx rfl (nx rfl (nx rfl (nx rfl (nx rfl hit)))))))))))))) rfl rfl ?_
      refine sq rfl (do_pickT (tm rfl (nx rfl (nx rfl (nx rfl (nx rfl (nx rfl (nx rfl (nx rfl (nx rfl (nx rfl (nx rfl (nx rfl (nx rfl (nx rfl (nx rfl (nx rfl hit)))))))))))))))) rfl) ?_
      refine cutL ?_
      intro τ8 e8
      have c8_0 := (congrFun e8 0).trans (nx rfl (nx rfl (nx rfl (nx rfl (nx rfl (nx rfl (nx rfl (nx rfl (nx rfl (nx rfl (nx rfl (nx rfl (nx rfl (nx rfl (nx rfl (nx rfl (nx rfl (nx rfl (nx rfl (nx rfl (nx rfl (nx rfl (nx rfl (nx rfl (nx rfl (nx rfl (nx rfl (nx rfl (nx rfl (nx rfl (nx rfl (nx rfl (nx rfl (nx rfl (nx rfl c4_0)))))))))))))))))))))))))))))))))))
      have c8_1 := (congrFun e8 1).trans (nx rfl (nx rfl (nx rfl (nx rfl (nx rfl (nx rfl (nx rfl (nx rfl (nx rfl (nx rfl (nx rfl (nx rfl (nx rfl (nx rfl (nx rfl (nx rfl (nx rfl (nx rfl (nx rfl (nx rfl (nx rfl (nx rfl (nx rfl (nx rfl (nx rfl (nx rfl (nx rfl (nx rfl (nx rfl (nx rfl (nx rfl (nx rfl (nx rfl (nx rfl (nx rfl c4_1)))))))))))))))))))))))))))))))))))
      have c8_2 := (congrFun e8 2).trans (nx rfl (nx rfl (nx rfl (nx rfl (nx rfl (nx rfl (nx rfl (nx rfl (nx rfl (nx rfl (nx rfl (nx rfl (nx rfl (nx rfl (nx rfl (nx rfl (nx rfl (nx rfl (nx rfl (nx rfl (nx rfl (nx rfl (nx rfl (nx rfl (nx rfl (nx rfl (nx rfl (nx rfl (nx rfl (nx rfl (nx rfl (nx rfl (nx rfl (nx rfl (nx rfl c4_2)))))))))))))))))))))))))))))))))))
      have c8_3 := (congrFun e8 3).trans (nx rfl (nx rfl (nx rfl (nx rfl (nx rfl (nx rfl (nx rfl (nx rfl (nx rfl (nx rfl (nx rfl (nx rfl (nx rfl (nx rfl (nx rfl (nx rfl (nx rfl (nx rfl (nx rfl (nx rfl (nx rfl (nx rfl (nx rfl (nx rfl (nx rfl (nx rfl (nx rfl (nx rfl (nx rfl (nx rfl (nx rfl (nx rfl (nx rfl (nx rfl (nx rfl c4_3)))))))))))))))))))))))))))))))))))
      have c8_4 := (congrFun e8 4).trans (nx rfl (nx rfl (nx rfl (nx rfl (nx rfl (nx rfl (nx rfl (nx rfl (nx rfl (nx rfl (nx rfl (nx rfl (nx rfl (nx rfl (nx rfl (nx rfl (nx rfl (nx rfl (nx rfl (nx rfl (nx rfl (nx rfl (nx rfl (nx rfl (nx rfl (nx rfl (nx rfl (nx rfl (nx rfl (nx rfl (nx rfl (nx rfl (nx rfl (nx rfl (nx rfl c4_4)))))))))))))))))))))))))))))))))))
      have c8_10 := (congrFun e8 10).trans (nx rfl (nx rfl (nx rfl (nx rfl (nx rfl (nx rfl (nx rfl (nx rfl (nx rfl (nx rfl (nx rfl (nx rfl (nx rfl (nx rfl (nx rfl (nx rfl (nx rfl (nx rfl (nx rfl (nx rfl (nx rfl (nx rfl (nx rfl (nx rfl (nx rfl (nx rfl (nx rfl (nx rfl (nx rfl (nx rfl (nx rfl (nx rfl (nx rfl (nx rfl (nx rfl c4_10)))))))))))))))))))))))))))))))))))
      have c8_58 := (congrFun e8 58).trans hit
      clear e8
      refine wnil ?_
      refine hK7 _ _ ?_
      clear hK7
      refine cT rfl c8_58 rfl ?_
      refine wp_seq_k (fun K9 hK9 => ?_)
      refine reg ?_
      refine sq rfl (do_assign ck) ?_
      refine wnil ?_
      refine hK9 _ _ ?_
      clear hK9
      refine wp_ret ?_
      refine thenR ?_
      exact hT _ _ hit (Below.refl _ _)
    · by_cases q1 : 65536 < it.length
      · refine wp_seq_k (fun K10 hK10 => ?_)
        refine wp_seq_k (fun K11 hK11 => ?_)
        refine reg ?_
        refine sq rfl (do_move (tm rfl c4_1)) ?_
        refine sq rfl (do_len Try.underlying22 (tm rfl hit)) ?_
        refine sq rfl (do_gtrF (tm rfl hit) ck (by omega)) ?_
        refine sq rfl (do_move (tm rfl hit)) ?_
        refine sqg rfl rfl hit rfl (do_move (tm rfl (nx rfl (nx rfl (nx rfl (nx rfl c4_2)))))) ?_
        refine sqg rfl rfl (nx rfl hit) rfl (do_len Try.underlying22 (tm rfl hit)) ?_
        refine sqg rfl rfl (nx rfl (nx rfl hit)) rfl (do_gtrT (tm rfl hit) ck (by omega)) ?_
        refine sq rfl (do_pickF (tm rfl (nx rfl (nx rfl (nx rfl hit)))) (tm rfl hit)) ?_
        refine sq rfl (do_move (tm rfl hit)) ?_
        refine sqs rfl rfl hit rfl rfl ?_
        refine sqs rfl rfl (nx rfl hit) rfl rfl ?_
        refine sqs rfl rfl (nx rfl (nx rfl hit)) rfl rfl ?_
        refine sq rfl (do_pickT (tm rfl (nx rfl (nx rfl (nx rfl hit)))) rfl) ?_
        refine sq rfl (do_move (tm rfl hit)) ?_
        refine sqs rfl rfl hit rfl rfl ?_
        refine sqs rfl rfl (nx rfl hit) rfl rfl ?_
        refine sqs rfl rfl (nx rfl (nx rfl hit)) rfl rfl ?_
        refine sq rfl (do_pickT (tm rfl (nx rfl (nx rfl (nx rfl hit)))) rfl) ?_
        refine sq rfl (do_move (tm rfl hit)) ?_
        refine sqs rfl rfl hit rfl rfl ?_
        refine sqs rfl rfl (nx rfl hit) rfl rfl ?_
        refine sqs rfl rfl (nx rfl (nx rfl hit)) rfl rfl ?_
        refine sqs rfl rfl (nx rfl (nx rfl (nx rfl hit))) rfl rfl ?_
        refine sqs rfl rfl (nx rfl (nx rfl (nx rfl (nx rfl hit)))) rfl rfl ?_
        refine sqs rfl rfl (nx rfl (nx rfl (nx rfl (nx rfl (nx rfl hit))))) rfl rfl ?_
        refine sqs rfl rfl (nx rfl (nx rfl (nx rfl (nx rfl (nx rfl (nx rfl hit)))))) rfl rfl ?_
        refine sqs rfl rfl (nx rfl (nx rfl (nx rfl (nx rfl (nx rfl (nx rfl (nx rfl hit))))))) rfl rfl ?_
        refine sqs rfl rfl (nx rfl (nx rfl (nx rfl (nx rfl (nx rfl (nx rfl (nx rfl (nx rfl hit)))))))) rfl rfl ?_
        refine sqs rfl rfl (nx rfl (nx rfl (nx rfl (nx rfl (nx rfl (nx rfl (nx rfl (nx rfl (nx rfl hit))))))))) rfl rfl ?_
        refine sqs rfl rfl (nx rfl (nx rfl (nx rfl (nx rfl (nx rfl (nx rfl (nx rfl (nx rfl (nx rfl (nx rfl hit)))))))))) rfl rfl ?_
        refine sqs rfl rfl (nx rfl (nx rfl (nx rfl (nx rfl (nx rfl (nx rfl (nx rfl (nx rfl (nx rfl (nx rfl (nx rfl hit))))))))))) rfl rfl ?_
        refine sqs rfl rfl (nx rfl (nx rfl (nx rfl (nx rfl (nx rfl (nx rfl (nx rfl (nx rfl (nx rfl (nx rfl (nx rfl (nx rfl hit)))))))))))) rfl rfl ?_
        refine sqs rfl rfl (nx rfl (nx rfl (nx rfl (nx rfl (nx rfl (nx rfl (nx rfl (nx rfl (nx rfl (nx rfl (nx rfl (nx rfl (nx rfl hit))))))))))))) rfl rfl ?_
        refine sqs rfl rfl (nx rfl (nx rfl (nx rfl (nx rfl (nx rfl (nx rfl (nx rfl (nx rfl (nx rfl (nx rfl (nx rfl (nx rfl (nx rfl (nx rfl hit)))))))))))))) rfl rfl ?_
        refine sq rfl (do_pickT (tm rfl (nx rfl (nx rfl (nx rfl (nx rfl (nx rfl (nx rfl (nx rfl (nx rfl (nx rfl (nx rfl (nx rfl (nx rfl (nx rfl (nx rfl (nx rfl hit)))))))))))))))) rfl) ?_
        refine cutL ?_
        intro τ12 e12
        have c12_0 := (congrFun e12 0).trans (nx rfl (nx rfl (nx rfl (nx rfl (nx rfl (nx rfl (nx rfl (nx rfl (nx rfl (nx rfl (nx rfl (nx rfl (nx rfl (nx rfl (nx rfl (nx rfl (nx rfl (nx rfl (nx rfl (nx rfl (nx rfl (nx rfl (nx rfl (nx rfl (nx rfl (nx rfl (nx rfl (nx rfl (nx rfl (nx rfl (nx rfl (nx rfl (nx rfl (nx rfl (nx rfl c4_0)))))))))))))))))))))))))))))))))))
        have c12_1 := (congrFun e12 1).trans (nx rfl (nx rfl (nx rfl (nx rfl (nx rfl (nx rfl (nx rfl (nx rfl (nx rfl (nx rfl (nx rfl (nx rfl (nx rfl (nx rfl (nx rfl (nx rfl (nx rfl (nx rfl (nx rfl (nx rfl (nx rfl (nx rfl (nx rfl (nx rfl (nx rfl (nx rfl (nx rfl (nx rfl (nx rfl (nx rfl (nx rfl (nx rfl (nx rfl (nx rfl (nx rfl c4_1)))))))))))))))))))))))))))))))))))
        have c12_2 := (congrFun e12 2).trans (nx rfl (nx rfl (nx rfl (nx rfl (nx rfl (nx rfl (nx rfl (nx rfl (nx rfl (nx rfl (nx rfl (nx rfl (nx rfl (nx rfl (nx rfl (nx rfl (nx rfl (nx rfl (nx rfl (nx rfl (nx rfl (nx rfl (nx rfl (nx rfl (nx rfl (nx rfl (nx rfl (nx rfl (nx rfl (nx rfl (nx rfl (nx rfl (nx rfl (nx rfl (nx rfl c4_2)))))))))))))))))))))))))))))))))))
        have c12_3 := (congrFun e12 3).trans (nx rfl (nx rfl (nx rfl (nx rfl (nx rfl (nx rfl (nx rfl (nx rfl (nx rfl (nx rfl (nx rfl (nx rfl (nx rfl (nx rfl (nx rfl (nx rfl (nx rfl (nx rfl (nx rfl (nx rfl (nx rfl (nx rfl (nx rfl (nx rfl (nx rfl (nx rfl (nx rfl (nx rfl (nx rfl (nx rfl (nx rfl (nx rfl (nx rfl (nx rfl (nx rfl c4_3)))))))))))))))))))))))))))))))))))
        have c12_4 := (congrFun e12 4).trans (nx rfl (nx rfl (nx rfl (nx rfl (nx rfl (nx rfl (nx rfl (nx rfl (nx rfl (nx rfl (nx rfl (nx rfl (nx rfl (nx rfl (nx rfl (nx rfl (nx rfl (nx rfl (nx rfl (nx rfl (nx rfl (nx rfl (nx rfl (nx rfl (nx rfl (nx rfl (nx rfl (nx rfl (nx rfl (nx rfl (nx rfl (nx rfl (nx rfl (nx rfl (nx rfl c4_4)))))))))))))))))))))))))))))))))))
        have c12_10 := (congrFun e12 10).trans (nx rfl (nx rfl (nx rfl (nx rfl (nx rfl (nx rfl (nx rfl (nx rfl (nx rfl (nx rfl (nx rfl (nx rfl (nx rfl (nx rfl (nx rfl (nx rfl (nx rfl (nx rfl (nx rfl (nx rfl (nx rfl (nx rfl (nx rfl (nx rfl (nx rfl (nx rfl (nx rfl (nx rfl (nx rfl (nx rfl (nx rfl (nx rfl (nx rfl (nx rfl (nx rfl c4_10)))))))))))))))))))))))))))))))))))
        have c12_58 := (congrFun e12 58).trans hit
        clear e12
        refine wnil ?_
        refine hK11 _ _ ?_
        clear hK11
        refine cT rfl c12_58 rfl ?_
        refine wp_seq_k (fun K13 hK13 => ?_)
        refine reg ?_
        refine sq rfl (do_assign ck) ?_
        refine wnil ?_
        refine hK13 _ _ ?_
        clear hK13
        refine wp_ret ?_
        refine thenR ?_
        exact hT _ _ hit (Below.refl _ _)
      · by_cases q2 : 65536 < wr.length
        · refine wp_seq_k (fun K14 hK14 => ?_)
          refine wp_seq_k (fun K15 hK15 => ?_)
          refine reg ?_
          refine sq rfl (do_move (tm rfl c4_1)) ?_
          refine sq rfl (do_len Try.underlying22 (tm rfl hit)) ?_
          refine sq rfl (do_gtrF (tm rfl hit) ck (by omega)) ?_
          refine sq rfl (do_move (tm rfl hit)) ?_
          refine sqg rfl rfl hit rfl (do_move (tm rfl (nx rfl (nx rfl (nx rfl (nx rfl c4_2)))))) ?_
          refine sqg rfl rfl (nx rfl hit) rfl (do_len Try.underlying22 (tm rfl hit)) ?_
          refine sqg rfl rfl (nx rfl (nx rfl hit)) rfl (do_gtrF (tm rfl hit) ck (by omega)) ?_
          refine sq rfl (do_pickF (tm rfl (nx rfl (nx rfl (nx rfl hit)))) (tm rfl hit)) ?_
          refine sq rfl (do_move (tm rfl hit)) ?_
          refine sqg rfl rfl hit rfl (do_move (tm rfl (nx rfl (nx rfl (nx rfl (nx rfl (nx rfl (nx rfl (nx rfl (nx rfl (nx rfl c4_3))))))))))) ?_
          refine sqg rfl rfl (nx rfl hit) rfl (do_len Try.underlying23 (tm rfl hit)) ?_
          refine sqg rfl rfl (nx rfl (nx rfl hit)) rfl (do_gtrT (tm rfl hit) ck (by omega)) ?_
          refine sq rfl (do_pickF (tm rfl (nx rfl (nx rfl (nx rfl hit)))) (tm rfl hit)) ?_
          refine sq rfl (do_move (tm rfl hit)) ?_
          refine sqs rfl rfl hit rfl rfl ?_
          refine sqs rfl rfl (nx rfl hit) rfl rfl ?_
          refine sqs rfl rfl (nx rfl (nx rfl hit)) rfl rfl ?_
          refine sq rfl (do_pickT (tm rfl (nx rfl (nx rfl (nx rfl hit)))) rfl) ?_
          refine sq rfl (do_move (tm rfl hit)) ?_
          refine sqs rfl rfl hit rfl rfl ?_
          refine sqs rfl rfl (nx rfl hit) rfl rfl ?_
          refine sqs rfl rfl (nx rfl (nx rfl hit)) rfl rfl ?_
          refine sqs rfl rfl (nx rfl (nx rfl (nx rfl hit))) rfl rfl ?_
          refine sqs rfl rfl (nx rfl (nx rfl (nx rfl (nx rfl hit)))) rfl rfl ?_
          refine sqs rfl rfl (nx rfl (nx rfl (nx rfl (nx rfl (nx rfl hit))))) rfl rfl ?_
          refine sqs rfl rfl (nx rfl (nx rfl (nx rfl (nx rfl (nx rfl (nx rfl hit)))))) rfl rfl ?_
          refine sqs rfl rfl (nx rfl (nx rfl (nx rfl (nx rfl (nx rfl (nx rfl (nx rfl hit))))))) rfl rfl ?_
          refine sqs rfl rfl (nx rfl (nx rfl (nx rfl (nx rfl (nx rfl (nx rfl (nx rfl (nx rfl hit)))))))) rfl rfl ?_
          refine sqs rfl rfl (nx rfl (nx rfl (nx rfl (nx rfl (nx rfl (nx rfl (nx rfl (nx rfl (nx rfl hit))))))))) rfl rfl ?_
          refine sqs rfl rfl (nx rfl (nx rfl (nx rfl (nx rfl (nx rfl (nx rfl (nx rfl (nx rfl (nx rfl (nx rfl hit)))))))))) rfl rfl ?_
          refine sqs rfl rfl (nx rfl (nx rfl (nx rfl (nx rfl (nx rfl (nx rfl (nx rfl (nx rfl (nx rfl (nx rfl (nx rfl hit))))))))))) rfl rfl ?_
          refine sqs rfl rfl (nx rfl (nx rfl (nx rfl (nx rfl (nx rfl (nx rfl (nx rfl (nx rfl (nx rfl (nx rfl (nx rfl (nx rfl hit)))))))))))) rfl rfl ?_
          refine sqs rfl rfl (nx rfl (nx rfl (nx rfl (nx rfl (nx rfl (nx rfl (nx rfl (nx rfl (nx rfl (nx rfl (nx rfl (nx rfl (nx rfl hit))))))))))))) rfl rfl ?_
          refine sqs rfl rfl (nx rfl (nx rfl (nx rfl (nx rfl (nx rfl (nx rfl (nx rfl (nx rfl (nx rfl (nx rfl (nx rfl (nx rfl (nx rfl (nx rfl hit)))))))))))))) rfl rfl ?_
          refine sq rfl (do_pickT (tm rfl (nx rfl (nx rfl (nx rfl (nx rfl (nx rfl (nx rfl (nx rfl (nx rfl (nx rfl (nx rfl (nx rfl (nx rfl (nx rfl (nx rfl (nx rfl hit)))))))))))))))) rfl) ?_
          refine cutL ?_
          intro τ16 e16
          have c16_0 := (congrFun e16 0).trans (nx rfl (nx rfl (nx rfl (nx rfl (nx rfl (nx rfl (nx rfl (nx rfl (nx rfl (nx rfl (nx rfl (nx rfl (nx rfl (nx rfl (nx rfl (nx rfl (nx rfl (nx rfl (nx rfl (nx rfl (nx rfl (nx rfl (nx rfl (nx rfl (nx rfl (nx rfl (nx rfl (nx rfl (nx rfl (nx rfl (nx rfl (nx rfl (nx rfl (nx rfl (nx rfl c4_0)))))))))))))))))))))))))))))))))))
          have c16_1 := (congrFun e16 1).trans (nx rfl (nx rfl (nx rfl (nx rfl (nx rfl (nx rfl (nx rfl (nx rfl (nx rfl (nx rfl (nx rfl (nx rfl (nx rfl (nx rfl (nx rfl (nx rfl (nx rfl (nx rfl (nx rfl (nx rfl (nx rfl (nx rfl (nx rfl (nx rfl (nx rfl (nx rfl (nx rfl (nx rfl (nx rfl (nx rfl (nx rfl (nx rfl (nx rfl (nx rfl (nx rfl c4_1)))))))))))))))))))))))))))))))))))
          have c16_2 := (congrFun e16 2).trans (nx rfl (nx rfl (nx rfl (nx rfl (nx rfl (nx rfl (nx rfl (nx rfl (nx rfl (nx rfl (nx rfl (nx rfl (nx rfl (nx rfl (nx rfl (nx rfl (nx rfl (nx rfl (nx rfl (nx rfl (nx rfl (nx rfl (nx rfl (nx rfl (nx rfl (nx rfl (nx rfl (nx rfl (nx rfl (nx rfl (nx rfl (nx rfl (nx rfl (nx rfl (nx rfl c4_2)))))))))))))))))))))))))))))))))))
          have c16_3 := (congrFun e16 3).trans (nx rfl (nx rfl (nx rfl (nx rfl (nx rfl (nx rfl (nx rfl (nx rfl (nx rfl (nx rfl (nx rfl (nx rfl (nx rfl (nx rfl (nx rfl (nx rfl (nx rfl (nx rfl (nx rfl (nx rfl (nx rfl (nx rfl (nx rfl (nx rfl (nx rfl (nx rfl (nx rfl (nx rfl (nx rfl (nx rfl (nx rfl (nx rfl (nx rfl (nx rfl (nx rfl c4_3)))))))))))))))))))))))))))))))))))
          have c16_4 := (congrFun e16 4).trans (nx rfl (nx rfl (nx rfl (nx rfl (nx rfl (nx rfl (nx rfl (nx rfl (nx rfl (nx rfl (nx rfl (nx rfl (nx rfl (nx rfl (nx rfl (nx rfl (nx rfl (nx rfl (nx rfl (nx rfl (nx rfl (nx rfl (nx rfl (nx rfl (nx rfl (nx rfl (nx rfl (nx rfl (nx rfl (nx rfl (nx rfl (nx rfl (nx rfl (nx rfl (nx rfl c4_4)))))))))))))))))))))))))))))))))))
          have c16_10 := (congrFun e16 10).trans (nx rfl (nx rfl (nx rfl (nx rfl (nx rfl (nx rfl (nx rfl (nx rfl (nx rfl (nx rfl (nx rfl (nx rfl (nx rfl (nx rfl (nx rfl (nx rfl (nx rfl (nx rfl (nx rfl (nx rfl (nx rfl (nx rfl (nx rfl (nx rfl (nx rfl (nx rfl (nx rfl (nx rfl (nx rfl (nx rfl (nx rfl (nx rfl (nx rfl (nx rfl (nx rfl c4_10)))))))))))))))))))))))))))))))))))
          have c16_58 := (congrFun e16 58).trans hit
          clear e16
          refine wnil ?_
          refine hK15 _ _ ?_
          clear hK15
          refine cT rfl c16_58 rfl ?_
          refine wp_seq_k (fun K17 hK17 => ?_)
          refine reg ?_
          refine sq rfl (do_assign ck) ?_
          refine wnil ?_
          refine hK17 _ _ ?_
          clear hK17
          refine wp_ret ?_
          refine thenR ?_
          exact hT _ _ hit (Below.refl _ _)
        · by_cases q3 : 65536 < pm.length
          · refine wp_seq_k (fun K18 hK18 => ?_)
            refine wp_seq_k (fun K19 hK19 => ?_)
            refine reg ?_
            refine sq rfl (do_move (tm rfl c4_1)) ?_
            refine sq rfl (do_len Try.underlying22 (tm rfl hit)) ?_
            refine sq rfl (do_gtrF (tm rfl hit) ck (by omega)) ?_
            refine sq rfl (do_move (tm rfl hit)) ?_
            refine sqg rfl rfl hit rfl (do_move (tm rfl (nx rfl (nx rfl (nx rfl (nx rfl c4_2)))))) ?_
            refine sqg rfl rfl (nx rfl hit) rfl (do_len Try.underlying22 (tm rfl hit)) ?_
            refine sqg rfl rfl (nx rfl (nx rfl hit)) rfl (do_gtrF (tm rfl hit) ck (by omega)) ?_
            refine sq rfl (do_pickF (tm rfl (nx rfl (nx rfl (nx rfl hit)))) (tm rfl hit)) ?_
            refine sq rfl (do_move (tm rfl hit)) ?_
            refine sqg rfl rfl hit rfl (do_move (tm rfl (nx rfl (nx rfl (nx rfl (nx rfl (nx rfl (nx rfl (nx rfl (nx rfl (nx rfl c4_3))))))))))) ?_
            refine sqg rfl rfl (nx rfl hit) rfl (do_len Try.underlying23 (tm rfl hit)) ?_
            refine sqg rfl rfl (nx rfl (nx rfl hit)) rfl (do_gtrF (tm rfl hit) ck (by omega)) ?_
            refine sq rfl (do_pickF (tm rfl (nx rfl (nx rfl (nx rfl hit)))) (tm rfl hit)) ?_
            refine sq rfl (do_move (tm rfl hit)) ?_
            refine sqg rfl rfl hit rfl (do_move (tm rfl (nx rfl (nx rfl (nx rfl (nx rfl (nx rfl (nx rfl (nx rfl (nx rfl (nx rfl (nx rfl (nx rfl (nx rfl (nx rfl (nx rfl c4_4)))))))))))))))) ?_
            refine sqg rfl rfl (nx rfl hit) rfl (do_len Try.underlying22 (tm rfl hit)) ?_
            refine sqg rfl rfl (nx rfl (nx rfl hit)) rfl (do_gtrT (tm rfl hit) ck (by omega)) ?_
            refine sq rfl (do_pickF (tm rfl (nx rfl (nx rfl (nx rfl hit)))) (tm rfl hit)) ?_
            refine sq rfl (do_move (tm rfl hit)) ?_
            refine sqs rfl rfl hit rfl rfl ?_
            refine sqs rfl rfl (nx rfl hit) rfl rfl ?_
            refine sqs rfl rfl (nx rfl (nx rfl hit)) rfl rfl ?_
            refine sqs rfl rfl (nx rfl (nx rfl (nx rfl hit))) rfl rfl ?_
            refine sqs rfl rfl (nx rfl (nx rfl (nx rfl (nx rfl hit)))) rfl rfl ?_
            refine sqs rfl rfl (nx rfl (nx rfl (nx rfl (nx rfl (nx rfl hit))))) rfl rfl ?_
            refine sqs rfl rfl (nx rfl (nx rfl (nx rfl (nx rfl (nx rfl (nx rfl hit)))))) rfl rfl ?_
            refine sqs rfl rfl (nx rfl (nx rfl (nx rfl (nx rfl (nx rfl (nx rfl (nx rfl hit))))))) rfl rfl ?_
            refine sqs rfl rfl (nx rfl (nx rfl (nx rfl (nx rfl (nx rfl (nx rfl (nx rfl (nx rfl hit)))))))) rfl rfl ?_
            refine sqs rfl rfl (nx rfl (nx rfl (nx rfl (nx rfl (nx rfl (nx rfl (nx rfl (nx rfl (nx rfl hit))))))))) rfl rfl ?_
            refine sqs rfl rfl (nx rfl (nx rfl (nx rfl (nx rfl (nx rfl (nx rfl (nx rfl (nx rfl (nx rfl (nx rfl hit)))))))))) rfl rfl ?_
            refine sqs rfl rfl (nx rfl (nx rfl (nx rfl (nx rfl (nx rfl (nx rfl (nx rfl (nx rfl (nx rfl (nx rfl (nx rfl hit))))))))))) rfl rfl ?_
            refine sqs rfl rfl (nx rfl (nx rfl (nx rfl (nx rfl (nx rfl (nx rfl (nx rfl (nx rfl (nx rfl (nx rfl (nx rfl (nx rfl hit)))))))))))) rfl rfl ?_
            refine sqs rfl rfl (nx rfl (nx rfl (nx rfl (nx rfl (nx rfl (nx rfl (nx rfl (nx rfl (nx rfl (nx rfl (nx rfl (nx rfl (nx rfl hit))))))))))))) rfl rfl ?_
            refine sqs rfl rfl (nx rfl (nx rfl (nx rfl (nx rfl (nx rfl (nx rfl (nx rfl (nx rfl (nx rfl (nx rfl (nx rfl (nx rfl (nx rfl (nx rfl hit)))))))))))))) rfl rfl ?_
            refine sq rfl (do_pickT (tm rfl (nx rfl (nx rfl (nx rfl (nx rfl (nx rfl (nx rfl (nx rfl (nx rfl (nx rfl (nx rfl (nx rfl (nx rfl (nx rfl (nx rfl (nx rfl hit)))))))))))))))) rfl) ?_
            refine cutL ?_
            intro τ20 e20
            have c20_0 := (congrFun e20 0).trans (nx rfl (nx rfl (nx rfl (nx rfl (nx rfl (nx rfl (nx rfl (nx rfl (nx rfl (nx rfl (nx rfl (nx rfl (nx rfl (nx rfl (nx rfl (nx rfl (nx rfl (nx rfl (nx rfl (nx rfl (nx rfl (nx rfl (nx rfl (nx rfl (nx rfl (nx rfl (nx rfl (nx rfl (nx rfl (nx rfl (nx rfl (nx rfl (nx rfl (nx rfl (nx rfl c4_0)))))))))))))))))))))))))))))))))))
            have c20_1 := (congrFun e20 1).trans (nx rfl (nx rfl (nx rfl (nx rfl (nx rfl (nx rfl (nx rfl (nx rfl (nx rfl (nx rfl (nx rfl (nx rfl (nx rfl (nx rfl (nx rfl (nx rfl (nx rfl (nx rfl (nx rfl (nx rfl (nx rfl (nx rfl (nx rfl (nx rfl (nx rfl (nx rfl (nx rfl (nx rfl (nx rfl (nx rfl (nx rfl (nx rfl (nx rfl (nx rfl (nx rfl c4_1)))))))))))))))))))))))))))))))))))
            have c20_2 := (congrFun e20 2).trans (nx rfl (nx rfl (nx rfl (nx rfl (nx rfl (nx rfl (nx rfl (nx rfl (nx rfl (nx rfl (nx rfl (nx rfl (nx rfl (nx rfl (nx rfl (nx rfl (nx rfl (nx rfl (nx rfl (nx rfl (nx rfl (nx rfl (nx rfl (nx rfl (nx rfl (nx rfl (nx rfl (nx rfl (nx rfl (nx rfl (nx rfl (nx rfl (nx rfl (nx rfl (nx rfl c4_2)))))))))))))))))))))))))))))))))))
            have c20_3 := (congrFun e20 3).trans (nx rfl (nx rfl (nx rfl (nx rfl (nx rfl (nx rfl (nx rfl (nx rfl (nx rfl (nx rfl (nx rfl (nx rfl (nx rfl (nx rfl (nx rfl (nx rfl (nx rfl (nx rfl (nx rfl (nx rfl (nx rfl (nx rfl (nx rfl (nx rfl (nx rfl (nx rfl (nx rfl (nx rfl (nx rfl (nx rfl (nx rfl (nx rfl (nx rfl (nx rfl (nx rfl c4_3)))))))))))))))))))))))))))))))))))
            have c20_4 := (congrFun e20 4).trans (nx rfl (nx rfl (nx rfl (nx rfl (nx rfl (nx rfl (nx rfl (nx rfl (nx rfl (nx rfl (nx rfl (nx rfl (nx rfl (nx rfl (nx rfl (nx rfl (nx rfl (nx rfl (nx rfl (nx rfl (nx rfl (nx rfl (nx rfl (nx rfl (nx rfl (nx rfl (nx rfl (nx rfl (nx rfl (nx rfl (nx rfl (nx rfl (nx rfl (nx rfl (nx rfl c4_4)))))))))))))))))))))))))))))))))))
            have c20_10 := (congrFun e20 10).trans (nx rfl (nx rfl (nx rfl (nx rfl (nx rfl (nx rfl (nx rfl (nx rfl (nx rfl (nx rfl (nx rfl (nx rfl (nx rfl (nx rfl (nx rfl (nx rfl (nx rfl (nx rfl (nx rfl (nx rfl (nx rfl (nx rfl (nx rfl (nx rfl (nx rfl (nx rfl (nx rfl (nx rfl (nx rfl (nx rfl (nx rfl (nx rfl (nx rfl (nx rfl (nx rfl c4_10)))))))))))))))))))))))))))))))))))
            have c20_58 := (congrFun e20 58).trans hit
            clear e20
            refine wnil ?_
            refine hK19 _ _ ?_
            clear hK19
            refine cT rfl c20_58 rfl ?_
            refine wp_seq_k (fun K21 hK21 => ?_)
            refine reg ?_
            refine sq rfl (do_assign ck) ?_
            refine wnil ?_
            refine hK21 _ _ ?_
            clear hK21
            refine wp_ret ?_
            refine thenR ?_
            exact hT _ _ hit (Below.refl _ _)
          · by_cases q4 : 1048576 < 8 * nd.length + 8 * it.length + wr.length + 8 * pm.length
            · refine wp_seq_k (fun K22 hK22 => ?_)
              refine wp_seq_k (fun K23 hK23 => ?_)
              refine reg ?_
              refine sq rfl (do_move (tm rfl c4_1)) ?_
              refine sq rfl (do_len Try.underlying22 (tm rfl hit)) ?_
              refine sq rfl (do_gtrF (tm rfl hit) ck (by omega)) ?_
              refine sq rfl (do_move (tm rfl hit)) ?_
              refine sqg rfl rfl hit rfl (do_move (tm rfl (nx rfl (nx rfl (nx rfl (nx rfl c4_2)))))) ?_
              refine sqg rfl rfl (nx rfl hit) rfl (do_len Try.underlying22 (tm rfl hit)) ?_
              refine sqg rfl rfl (nx rfl (nx rfl hit)) rfl (do_gtrF (tm rfl hit) ck (by omega)) ?_
              refine sq rfl (do_pickF (tm rfl (nx rfl (nx rfl (nx rfl hit)))) (tm rfl hit)) ?_
              refine sq rfl (do_move (tm rfl hit)) ?_
              refine sqg rfl rfl hit rfl (do_move (tm rfl (nx rfl (nx rfl (nx rfl (nx rfl (nx rfl (nx rfl (nx rfl (nx rfl (nx rfl c4_3))))))))))) ?_
              refine sqg rfl rfl (nx rfl hit) rfl (do_len Try.underlying23 (tm rfl hit)) ?_
              refine sqg rfl rfl (nx rfl (nx rfl hit)) rfl (do_gtrF (tm rfl hit) ck (by omega)) ?_
              refine sq rfl (do_pickF (tm rfl (nx rfl (nx rfl (nx rfl hit)))) (tm rfl hit)) ?_
              refine sq rfl (do_move (tm rfl hit)) ?_
              refine sqg rfl rfl hit rfl (do_move (tm rfl (nx rfl (nx rfl (nx rfl (nx rfl (nx rfl (nx rfl (nx rfl (nx rfl (nx rfl (nx rfl (nx rfl (nx rfl (nx rfl (nx rfl c4_4)))))))))))))))) ?_
              refine sqg rfl rfl (nx rfl hit) rfl (do_len Try.underlying22 (tm rfl hit)) ?_
              refine sqg rfl rfl (nx rfl (nx rfl hit)) rfl (do_gtrF (tm rfl hit) ck (by omega)) ?_
              refine sq rfl (do_pickF (tm rfl (nx rfl (nx rfl (nx rfl hit)))) (tm rfl hit)) ?_
              refine sq rfl (do_move (tm rfl hit)) ?_
              refine sqg rfl rfl hit rfl (do_move (tm rfl (nx rfl (nx rfl (nx rfl (nx rfl (nx rfl (nx rfl (nx rfl (nx rfl (nx rfl (nx rfl (nx rfl (nx rfl (nx rfl (nx rfl (nx rfl (nx rfl (nx rfl (nx rfl (nx rfl c4_1))))))))))))))))))))) ?_
              refine sqg rfl rfl (nx rfl hit) rfl (do_len Try.underlying22 (tm rfl hit)) ?_
              refine sqg rfl rfl (nx rfl (nx rfl hit)) rfl (do_mul ck (tm rfl hit) (by omega)) ?_
              refine sqg rfl rfl (nx rfl (nx rfl (nx rfl hit))) rfl (do_move (tm rfl (nx rfl (nx rfl (nx rfl (nx rfl (nx rfl (nx rfl (nx rfl (nx rfl (nx rfl (nx rfl (nx rfl (nx rfl (nx rfl (nx rfl (nx rfl (nx rfl (nx rfl (nx rfl (nx rfl (nx rfl (nx rfl (nx rfl c4_2)))))))))))))))))))))))) ?_
              refine sqg rfl rfl (nx rfl (nx rfl (nx rfl (nx rfl hit)))) rfl (do_len Try.underlying22 (tm rfl hit)) ?_
              refine sqg rfl rfl (nx rfl (nx rfl (nx rfl (nx rfl (nx rfl hit))))) rfl (do_mul ck (tm rfl hit) (by omega)) ?_
              refine sqg rfl rfl (nx rfl (nx rfl (nx rfl (nx rfl (nx rfl (nx rfl hit)))))) rfl (do_add (tm rfl (nx rfl (nx rfl (nx rfl hit)))) (tm rfl hit) (by omega)) ?_
              refine sqg rfl rfl (nx rfl (nx rfl (nx rfl (nx rfl (nx rfl (nx rfl (nx rfl hit))))))) rfl (do_move (tm rfl (nx rfl (nx rfl (nx rfl (nx rfl (nx rfl (nx rfl (nx rfl (nx rfl (nx rfl (nx rfl (nx rfl (nx rfl (nx rfl (nx rfl (nx rfl (nx rfl (nx rfl (nx rfl (nx rfl (nx rfl (nx rfl (nx rfl (nx rfl (nx rfl (nx rfl (nx rfl c4_3)))))))))))))))))))))))))))) ?_
              refine sqg rfl rfl (nx rfl (nx rfl (nx rfl (nx rfl (nx rfl (nx rfl (nx rfl (nx rfl hit)))))))) rfl (do_len Try.underlying23 (tm rfl hit)) ?_
              refine sqg rfl rfl (nx rfl (nx rfl (nx rfl (nx rfl (nx rfl (nx rfl (nx rfl (nx rfl (nx rfl hit))))))))) rfl (do_add (tm rfl (nx rfl (nx rfl hit))) (tm rfl hit) (by omega)) ?_
              refine sqg rfl rfl (nx rfl (nx rfl (nx rfl (nx rfl (nx rfl (nx rfl (nx rfl (nx rfl (nx rfl (nx rfl hit)))))))))) rfl (do_move (tm rfl (nx rfl (nx rfl (nx rfl (nx rfl (nx rfl (nx rfl (nx rfl (nx rfl (nx rfl (nx rfl (nx rfl (nx rfl (nx rfl (nx rfl (nx rfl (nx rfl (nx rfl (nx rfl (nx rfl (nx rfl (nx rfl (nx rfl (nx rfl (nx rfl (nx rfl (nx rfl (nx rfl (nx rfl (nx rfl c4_4))))))))))))))))))))))))))))))) ?_
              refine sqg rfl rfl (nx rfl (nx rfl (nx rfl (nx rfl (nx rfl (nx rfl (nx rfl (nx rfl (nx rfl (nx rfl (nx rfl hit))))))))))) rfl (do_len Try.underlying22 (tm rfl hit)) ?_
              refine sqg rfl rfl (nx rfl (nx rfl (nx rfl (nx rfl (nx rfl (nx rfl (nx rfl (nx rfl (nx rfl (nx rfl (nx rfl (nx rfl hit)))))))))))) rfl (do_mul ck (tm rfl hit) (by omega)) ?_
              refine sqg rfl rfl (nx rfl (nx rfl (nx rfl (nx rfl (nx rfl (nx rfl (nx rfl (nx rfl (nx rfl (nx rfl (nx rfl (nx rfl (nx rfl hit))))))))))))) rfl (do_add (tm rfl (nx rfl (nx rfl (nx rfl hit)))) (tm rfl hit) (by omega)) ?_
              refine sqg rfl rfl (nx rfl (nx rfl (nx rfl (nx rfl (nx rfl (nx rfl (nx rfl (nx rfl (nx rfl (nx rfl (nx rfl (nx rfl (nx rfl (nx rfl hit)))))))))))))) rfl (do_gtrT (tm rfl hit) ck (by omega)) ?_
              refine sq rfl (do_pickF (tm rfl (nx rfl (nx rfl (nx rfl (nx rfl (nx rfl (nx rfl (nx rfl (nx rfl (nx rfl (nx rfl (nx rfl (nx rfl (nx rfl (nx rfl (nx rfl hit)))))))))))))))) (tm rfl hit)) ?_
              refine cutL ?_
              intro τ24 e24
              have c24_0 := (congrFun e24 0).trans (nx rfl (nx rfl (nx rfl (nx rfl (nx rfl (nx rfl (nx rfl (nx rfl (nx rfl (nx rfl (nx rfl (nx rfl (nx rfl (nx rfl (nx rfl (nx rfl (nx rfl (nx rfl (nx rfl (nx rfl (nx rfl (nx rfl (nx rfl (nx rfl (nx rfl (nx rfl (nx rfl (nx rfl (nx rfl (nx rfl (nx rfl (nx rfl (nx rfl (nx rfl (nx rfl c4_0)))))))))))))))))))))))))))))))))))
              have c24_1 := (congrFun e24 1).trans (nx rfl (nx rfl (nx rfl (nx rfl (nx rfl (nx rfl (nx rfl (nx rfl (nx rfl (nx rfl (nx rfl (nx rfl (nx rfl (nx rfl (nx rfl (nx rfl (nx rfl (nx rfl (nx rfl (nx rfl (nx rfl (nx rfl (nx rfl (nx rfl (nx rfl (nx rfl (nx rfl (nx rfl (nx rfl (nx rfl (nx rfl (nx rfl (nx rfl (nx rfl (nx rfl c4_1)))))))))))))))))))))))))))))))))))
              have c24_2 := (congrFun e24 2).trans (nx rfl (nx rfl (nx rfl (nx rfl (nx rfl (nx rfl (nx rfl (nx rfl (nx rfl (nx rfl (nx rfl (nx rfl (nx rfl (nx rfl (nx rfl (nx rfl (nx rfl (nx rfl (nx rfl (nx rfl (nx rfl (nx rfl (nx rfl (nx rfl (nx rfl (nx rfl (nx rfl (nx rfl (nx rfl (nx rfl (nx rfl (nx rfl (nx rfl (nx rfl (nx rfl c4_2)))))))))))))))))))))))))))))))))))
              have c24_3 := (congrFun e24 3).trans (nx rfl (nx rfl (nx rfl (nx rfl (nx rfl (nx rfl (nx rfl (nx rfl (nx rfl (nx rfl (nx rfl (nx rfl (nx rfl (nx rfl (nx rfl (nx rfl (nx rfl (nx rfl (nx rfl (nx rfl (nx rfl (nx rfl (nx rfl (nx rfl (nx rfl (nx rfl (nx rfl (nx rfl (nx rfl (nx rfl (nx rfl (nx rfl (nx rfl (nx rfl (nx rfl c4_3)))))))))))))))))))))))))))))))))))
              have c24_4 := (congrFun e24 4).trans (nx rfl (nx rfl (nx rfl (nx rfl (nx rfl (nx rfl (nx rfl (nx rfl (nx rfl (nx rfl (nx rfl (nx rfl (nx rfl (nx rfl (nx rfl (nx rfl (nx rfl (nx rfl (nx rfl (nx rfl (nx rfl (nx rfl (nx rfl (nx rfl (nx rfl (nx rfl (nx rfl (nx rfl (nx rfl (nx rfl (nx rfl (nx rfl (nx rfl (nx rfl (nx rfl c4_4)))))))))))))))))))))))))))))))))))
              have c24_10 := (congrFun e24 10).trans (nx rfl (nx rfl (nx rfl (nx rfl (nx rfl (nx rfl (nx rfl (nx rfl (nx rfl (nx rfl (nx rfl (nx rfl (nx rfl (nx rfl (nx rfl (nx rfl (nx rfl (nx rfl (nx rfl (nx rfl (nx rfl (nx rfl (nx rfl (nx rfl (nx rfl (nx rfl (nx rfl (nx rfl (nx rfl (nx rfl (nx rfl (nx rfl (nx rfl (nx rfl (nx rfl c4_10)))))))))))))))))))))))))))))))))))
              have c24_58 := (congrFun e24 58).trans hit
              clear e24
              refine wnil ?_
              refine hK23 _ _ ?_
              clear hK23
              refine cT rfl c24_58 rfl ?_
              refine wp_seq_k (fun K25 hK25 => ?_)
              refine reg ?_
              refine sq rfl (do_assign ck) ?_
              refine wnil ?_
              refine hK25 _ _ ?_
              clear hK25
              refine wp_ret ?_
              refine thenR ?_
              exact hT _ _ hit (Below.refl _ _)
            · refine wp_seq_k (fun K26 hK26 => ?_)
              refine wp_seq_k (fun K27 hK27 => ?_)
              refine reg ?_
              refine sq rfl (do_move (tm rfl c4_1)) ?_
              refine sq rfl (do_len Try.underlying22 (tm rfl hit)) ?_
              refine sq rfl (do_gtrF (tm rfl hit) ck (by omega)) ?_
              refine sq rfl (do_move (tm rfl hit)) ?_
              refine sqg rfl rfl hit rfl (do_move (tm rfl (nx rfl (nx rfl (nx rfl (nx rfl c4_2)))))) ?_
              refine sqg rfl rfl (nx rfl hit) rfl (do_len Try.underlying22 (tm rfl hit)) ?_
              refine sqg rfl rfl (nx rfl (nx rfl hit)) rfl (do_gtrF (tm rfl hit) ck (by omega)) ?_
              refine sq rfl (do_pickF (tm rfl (nx rfl (nx rfl (nx rfl hit)))) (tm rfl hit)) ?_
              refine sq rfl (do_move (tm rfl hit)) ?_
              refine sqg rfl rfl hit rfl (do_move (tm rfl (nx rfl (nx rfl (nx rfl (nx rfl (nx rfl (nx rfl (nx rfl (nx rfl (nx rfl c4_3))))))))))) ?_
              refine sqg rfl rfl (nx rfl hit) rfl (do_len Try.underlying23 (tm rfl hit)) ?_
              refine sqg rfl rfl (nx rfl (nx rfl hit)) rfl (do_gtrF (tm rfl hit) ck (by omega)) ?_
              refine sq rfl (do_pickF (tm rfl (nx rfl (nx rfl (nx rfl hit)))) (tm rfl hit)) ?_
              refine sq rfl (do_move (tm rfl hit)) ?_
              refine sqg rfl rfl hit rfl (do_move (tm rfl (nx rfl (nx rfl (nx rfl (nx rfl (nx rfl (nx rfl (nx rfl (nx rfl (nx rfl (nx rfl (nx rfl (nx rfl (nx rfl (nx rfl c4_4)))))))))))))))) ?_
              refine sqg rfl rfl (nx rfl hit) rfl (do_len Try.underlying22 (tm rfl hit)) ?_
              refine sqg rfl rfl (nx rfl (nx rfl hit)) rfl (do_gtrF (tm rfl hit) ck (by omega)) ?_
              refine sq rfl (do_pickF (tm rfl (nx rfl (nx rfl (nx rfl hit)))) (tm rfl hit)) ?_
              refine sq rfl (do_move (tm rfl hit)) ?_
              refine sqg rfl rfl hit rfl (do_move (tm rfl (nx rfl (nx rfl (nx rfl (nx rfl (nx rfl (nx rfl (nx rfl (nx rfl (nx rfl (nx rfl (nx rfl (nx rfl (nx rfl (nx rfl (nx rfl (nx rfl (nx rfl (nx rfl (nx rfl c4_1))))))))))))))))))))) ?_
              refine sqg rfl rfl (nx rfl hit) rfl (do_len Try.underlying22 (tm rfl hit)) ?_
              refine sqg rfl rfl (nx rfl (nx rfl hit)) rfl (do_mul ck (tm rfl hit) (by omega)) ?_
              refine sqg rfl rfl (nx rfl (nx rfl (nx rfl hit))) rfl (do_move (tm rfl (nx rfl (nx rfl (nx rfl (nx rfl (nx rfl (nx rfl (nx rfl (nx rfl (nx rfl (nx rfl (nx rfl (nx rfl (nx rfl (nx rfl (nx rfl (nx rfl (nx rfl (nx rfl (nx rfl (nx rfl (nx rfl (nx rfl c4_2)))))))))))))))))))))))) ?_
              refine sqg rfl rfl (nx rfl (nx rfl (nx rfl (nx rfl hit)))) rfl (do_len Try.underlying22 (tm rfl hit)) ?_
              refine sqg rfl rfl (nx rfl (nx rfl (nx rfl (nx rfl (nx rfl hit))))) rfl (do_mul ck (tm rfl hit) (by omega)) ?_
              refine sqg rfl rfl (nx rfl (nx rfl (nx rfl (nx rfl (nx rfl (nx rfl hit)))))) rfl (do_add (tm rfl (nx rfl (nx rfl (nx rfl hit)))) (tm rfl hit) (by omega)) ?_
              refine sqg rfl rfl (nx rfl (nx rfl (nx rfl (nx rfl (nx rfl (nx rfl (nx rfl hit))))))) rfl (do_move (tm rfl (nx rfl (nx rfl (nx rfl (nx rfl (nx rfl (nx rfl (nx rfl (nx rfl (nx rfl (nx rfl (nx rfl (nx rfl (nx rfl (nx rfl (nx rfl (nx rfl (nx rfl (nx rfl (nx rfl (nx rfl (nx rfl (nx rfl (nx rfl (nx rfl (nx rfl (nx rfl c4_3)))))))))))))))))))))))))))) ?_
              refine sqg rfl rfl (nx rfl (nx rfl (nx rfl (nx rfl (nx rfl (nx rfl (nx rfl (nx rfl hit)))))))) rfl (do_len Try.underlying23 (tm rfl hit)) ?_
              refine sqg rfl rfl (nx rfl (nx rfl (nx rfl (nx rfl (nx rfl (nx rfl (nx rfl (nx rfl (nx rfl hit))))))))) rfl (do_add (tm rfl (nx rfl (nx rfl hit))) (tm rfl hit) (by omega)) ?_
              refine sqg rfl rfl (nx rfl (nx rfl (nx rfl (nx rfl (nx rfl (nx rfl (nx rfl (nx rfl (nx rfl (nx rfl hit)))))))))) rfl (do_move (tm rfl (nx rfl (nx rfl (nx rfl (nx rfl (nx rfl (nx rfl (nx rfl (nx rfl (nx rfl (nx rfl (nx rfl (nx rfl (nx rfl (nx rfl (nx rfl (nx rfl (nx rfl (nx rfl (nx rfl (nx rfl (nx rfl (nx rfl (nx rfl (nx rfl (nx rfl (nx rfl (nx rfl (nx rfl (nx rfl c4_4))))))))))))))))))))))))))))))) ?_
              refine sqg rfl rfl (nx rfl (nx rfl (nx rfl (nx rfl (nx rfl (nx rfl (nx rfl (nx rfl (nx rfl (nx rfl (nx rfl hit))))))))))) rfl (do_len Try.underlying22 (tm rfl hit)) ?_
              refine sqg rfl rfl (nx rfl (nx rfl (nx rfl (nx rfl (nx rfl (nx rfl (nx rfl (nx rfl (nx rfl (nx rfl (nx rfl (nx rfl hit)))))))))))) rfl (do_mul ck (tm rfl hit) (by omega)) ?_
              refine sqg rfl rfl (nx rfl (nx rfl (nx rfl (nx rfl (nx rfl (nx rfl (nx rfl (nx rfl (nx rfl (nx rfl (nx rfl (nx rfl (nx rfl hit))))))))))))) rfl (do_add (tm rfl (nx rfl (nx rfl (nx rfl hit)))) (tm rfl hit) (by omega)) ?_
              refine sqg rfl rfl (nx rfl (nx rfl (nx rfl (nx rfl (nx rfl (nx rfl (nx rfl (nx rfl (nx rfl (nx rfl (nx rfl (nx rfl (nx rfl (nx rfl hit)))))))))))))) rfl (do_gtrF (tm rfl hit) ck (by omega)) ?_
              refine sq rfl (do_pickF (tm rfl (nx rfl (nx rfl (nx rfl (nx rfl (nx rfl (nx rfl (nx rfl (nx rfl (nx rfl (nx rfl (nx rfl (nx rfl (nx rfl (nx rfl (nx rfl hit)))))))))))))))) (tm rfl hit)) ?_
              refine cutL ?_
              intro τ28 e28
              have c28_0 := (congrFun e28 0).trans (nx rfl (nx rfl (nx rfl (nx rfl (nx rfl (nx rfl (nx rfl (nx rfl (nx rfl (nx rfl (nx rfl (nx rfl (nx rfl (nx rfl (nx rfl (nx rfl (nx rfl (nx rfl (nx rfl (nx rfl (nx rfl (nx rfl (nx rfl (nx rfl (nx rfl (nx rfl (nx rfl (nx rfl (nx rfl (nx rfl (nx rfl (nx rfl (nx rfl (nx rfl (nx rfl c4_0)))))))))))))))))))))))))))))))))))
              have c28_1 := (congrFun e28 1).trans (nx rfl (nx rfl (nx rfl (nx rfl (nx rfl (nx rfl (nx rfl (nx rfl (nx rfl (nx rfl (nx rfl (nx rfl (nx rfl (nx rfl (nx rfl (nx rfl (nx rfl (nx rfl (nx rfl (nx rfl (nx rfl (nx rfl (nx rfl (nx rfl (nx rfl (nx rfl (nx rfl (nx rfl (nx rfl (nx rfl (nx rfl (nx rfl (nx rfl (nx rfl (nx rfl c4_1)))))))))))))))))))))))))))))))))))
              have c28_2 := (congrFun e28 2).trans (nx rfl (nx rfl (nx rfl (nx rfl (nx rfl (nx rfl (nx rfl (nx rfl (nx rfl (nx rfl (nx rfl (nx rfl (nx rfl (nx rfl (nx rfl (nx rfl (nx rfl (nx rfl (nx rfl (nx rfl (nx rfl (nx rfl (nx rfl (nx rfl (nx rfl (nx rfl (nx rfl (nx rfl (nx rfl (nx rfl (nx rfl (nx rfl (nx rfl (nx rfl (nx rfl c4_2)))))))))))))))))))))))))))))))))))
              have c28_3 := (congrFun e28 3).trans (nx rfl (nx rfl (nx rfl (nx rfl (nx rfl (nx rfl (nx rfl (nx rfl (nx rfl (nx rfl (nx rfl (nx rfl (nx rfl (nx rfl (nx rfl (nx rfl (nx rfl (nx rfl (nx rfl (nx rfl (nx rfl (nx rfl (nx rfl (nx rfl (nx rfl (nx rfl (nx rfl (nx rfl (nx rfl (nx rfl (nx rfl (nx rfl (nx rfl (nx rfl (nx rfl c4_3)))))))))))))))))))))))))))))))))))
              have c28_4 := (congrFun e28 4).trans (nx rfl (nx rfl (nx rfl (nx rfl (nx rfl (nx rfl (nx rfl (nx rfl (nx rfl (nx rfl (nx rfl (nx rfl (nx rfl (nx rfl (nx rfl (nx rfl (nx rfl (nx rfl (nx rfl (nx rfl (nx rfl (nx rfl (nx rfl (nx rfl (nx rfl (nx rfl (nx rfl (nx rfl (nx rfl (nx rfl (nx rfl (nx rfl (nx rfl (nx rfl (nx rfl c4_4)))))))))))))))))))))))))))))))))))
              have c28_10 := (congrFun e28 10).trans (nx rfl (nx rfl (nx rfl (nx rfl (nx rfl (nx rfl (nx rfl (nx rfl (nx rfl (nx rfl (nx rfl (nx rfl (nx rfl (nx rfl (nx rfl (nx rfl (nx rfl (nx rfl (nx rfl (nx rfl (nx rfl (nx rfl (nx rfl (nx rfl (nx rfl (nx rfl (nx rfl (nx rfl (nx rfl (nx rfl (nx rfl (nx rfl (nx rfl (nx rfl (nx rfl c4_10)))))))))))))))))))))))))))))))))))
              have c28_58 := (congrFun e28 58).trans hit
              clear e28
              refine wnil ?_
              refine hK27 _ _ ?_
              clear hK27
              refine cF rfl c28_58 rfl ?_
              refine wp_skip ?_
              refine hK26 _ _ ?_
              clear hK26
              by_cases q5 : z < 0
              · refine wp_seq_k (fun K29 hK29 => ?_)
                refine wp_seq_k (fun K30 hK30 => ?_)
                refine reg ?_
                refine sq rfl (do_move (tm rfl c28_0)) ?_
                refine sq rfl (do_lssT (tm rfl hit) ck (by omega)) ?_
                refine sq rfl (do_move (tm rfl hit)) ?_
                refine sqs rfl rfl hit rfl rfl ?_
                refine sqs rfl rfl (nx rfl hit) rfl rfl ?_
                refine sq rfl (do_pickT (tm rfl (nx rfl (nx rfl hit))) rfl) ?_
                refine cutL ?_
                intro τ31 e31
                have c31_0 := (congrFun e31 0).trans (nx rfl (nx rfl (nx rfl (nx rfl (nx rfl (nx rfl c28_0))))))
                have c31_1 := (congrFun e31 1).trans (nx rfl (nx rfl (nx rfl (nx rfl (nx rfl (nx rfl c28_1))))))
                have c31_2 := (congrFun e31 2).trans (nx rfl (nx rfl (nx rfl (nx rfl (nx rfl (nx rfl c28_2))))))
                have c31_3 := (congrFun e31 3).trans (nx rfl (nx rfl (nx rfl (nx rfl (nx rfl (nx rfl c28_3))))))
                have c31_4 := (congrFun e31 4).trans (nx rfl (nx rfl (nx rfl (nx rfl (nx rfl (nx rfl c28_4))))))
                have c31_10 := (congrFun e31 10).trans (nx rfl (nx rfl (nx rfl (nx rfl (nx rfl (nx rfl c28_10))))))
                have c31_64 := (congrFun e31 64).trans hit
                clear e31
                refine wnil ?_
                refine hK30 _ _ ?_
                clear hK30
                refine cT rfl c31_64 rfl ?_
                refine wp_seq_k (fun K32 hK32 => ?_)
                refine reg ?_
                refine sq rfl (do_assign ck) ?_
                refine wnil ?_
                refine hK32 _ _ ?_
                clear hK32
                refine wp_ret ?_
                refine thenR ?_
                exact hT _ _ hit (Below.refl _ _)
              · by_cases q6 : 65536 < z
                · refine wp_seq_k (fun K33 hK33 => ?_)
                  refine wp_seq_k (fun K34 hK34 => ?_)
                  refine reg ?_
                  refine sq rfl (do_move (tm rfl c28_0)) ?_
                  refine sq rfl (do_lssF (tm rfl hit) ck (by omega)) ?_
                  refine sq rfl (do_move (tm rfl hit)) ?_
                  refine sqg rfl rfl hit rfl (do_move (tm rfl (nx rfl (nx rfl (nx rfl c28_0))))) ?_
                  refine sqg rfl rfl (nx rfl hit) rfl (do_gtrT (tm rfl hit) ck (by omega)) ?_
                  refine sq rfl (do_pickF (tm rfl (nx rfl (nx rfl hit))) (tm rfl hit)) ?_
                  refine cutL ?_
                  intro τ35 e35
                  have c35_0 := (congrFun e35 0).trans (nx rfl (nx rfl (nx rfl (nx rfl (nx rfl (nx rfl c28_0))))))
                  have c35_1 := (congrFun e35 1).trans (nx rfl (nx rfl (nx rfl (nx rfl (nx rfl (nx rfl c28_1))))))
                  have c35_2 := (congrFun e35 2).trans (nx rfl (nx rfl (nx rfl (nx rfl (nx rfl (nx rfl c28_2))))))
                  have c35_3 := (congrFun e35 3).trans (nx rfl (nx rfl (nx rfl (nx rfl (nx rfl (nx rfl c28_3))))))
                  have c35_4 := (congrFun e35 4).trans (nx rfl (nx rfl (nx rfl (nx rfl (nx rfl (nx rfl c28_4))))))
                  have c35_10 := (congrFun e35 10).trans (nx rfl (nx rfl (nx rfl (nx rfl (nx rfl (nx rfl c28_10))))))
                  have c35_64 := (congrFun e35 64).trans hit
                  clear e35
                  refine wnil ?_
                  refine hK34 _ _ ?_
                  clear hK34
                  refine cT rfl c35_64 rfl ?_
                  refine wp_seq_k (fun K36 hK36 => ?_)
                  refine reg ?_
                  refine sq rfl (do_assign ck) ?_
                  refine wnil ?_
                  refine hK36 _ _ ?_
                  clear hK36
                  refine wp_ret ?_
                  refine thenR ?_
                  exact hT _ _ hit (Below.refl _ _)
                · refine wp_seq_k (fun K37 hK37 => ?_)
                  refine wp_seq_k (fun K38 hK38 => ?_)
                  refine reg ?_
                  refine sq rfl (do_move (tm rfl c28_0)) ?_
                  refine sq rfl (do_lssF (tm rfl hit) ck (by omega)) ?_
                  refine sq rfl (do_move (tm rfl hit)) ?_
                  refine sqg rfl rfl hit rfl (do_move (tm rfl (nx rfl (nx rfl (nx rfl c28_0))))) ?_
                  refine sqg rfl rfl (nx rfl hit) rfl (do_gtrF (tm rfl hit) ck (by omega)) ?_
                  refine sq rfl (do_pickF (tm rfl (nx rfl (nx rfl hit))) (tm rfl hit)) ?_
                  refine cutL ?_
                  intro τ39 e39
                  have c39_0 := (congrFun e39 0).trans (nx rfl (nx rfl (nx rfl (nx rfl (nx rfl (nx rfl c28_0))))))
                  have c39_1 := (congrFun e39 1).trans (nx rfl (nx rfl (nx rfl (nx rfl (nx rfl (nx rfl c28_1))))))
                  have c39_2 := (congrFun e39 2).trans (nx rfl (nx rfl (nx rfl (nx rfl (nx rfl (nx rfl c28_2))))))
                  have c39_3 := (congrFun e39 3).trans (nx rfl (nx rfl (nx rfl (nx rfl (nx rfl (nx rfl c28_3))))))
                  have c39_4 := (congrFun e39 4).trans (nx rfl (nx rfl (nx rfl (nx rfl (nx rfl (nx rfl c28_4))))))
                  have c39_10 := (congrFun e39 10).trans (nx rfl (nx rfl (nx rfl (nx rfl (nx rfl (nx rfl c28_10))))))
                  have c39_64 := (congrFun e39 64).trans hit
                  clear e39
                  refine wnil ?_
                  refine hK38 _ _ ?_
                  clear hK38
                  refine cF rfl c39_64 rfl ?_
                  refine wp_skip ?_
                  refine hK37 _ _ ?_
                  clear hK37
                  obtain ⟨n, rfl⟩ : ∃ n : Nat, z = (n : Int) := ⟨z.toNat, by omega⟩
                  have hb0 := Below.refl w.heap.size w
                  refine wp_seq_k (fun K40 hK40 => ?_)
                  refine reg ?_
                  refine sq rfl (do_move (tm rfl c39_1)) ?_
                  refine sqc (R := fun v w' => IntR w' v nd ∧ Below w.heap.size w w') rfl (run_callF Try.func10 nm10 bd10 (map1 (tm rfl hit)) rfl) ((clone10 w _ nd h1 (by omega)).mono ?_) ?_
                  · rintro e w' ⟨v', rfl, h⟩
                    exact ⟨_, rfl, h⟩
                  rintro u1 y0 ⟨g1, hbb⟩
                  refine sq rfl (do_assign (tm rfl hit)) ?_
                  refine wnil ?_
                  refine hK40 _ _ ?_
                  clear hK40
                  have hb1 := hb0.trans (hbb.mono (by have := hb0.size; omega))
                  have f0_2 := h2.below hbb
                  have f0_3 := h3.below hbb
                  have f0_4 := h4.below hbb
                  clear hbb
                  refine wp_seq_k (fun K41 hK41 => ?_)
                  refine reg ?_
                  refine sq rfl (do_move (tm rfl (nx rfl (nx rfl (nx rfl c39_2))))) ?_
                  refine sqc (R := fun v w' => IntR w' v it ∧ Below y0.heap.size y0 w') rfl (run_callF Try.func10 nm10 bd10 (map1 (tm rfl hit)) rfl) ((clone10 y0 _ it f0_2 (by omega)).mono ?_) ?_
                  · rintro e w' ⟨v', rfl, h⟩
                    exact ⟨_, rfl, h⟩
                  rintro u2 y1 ⟨g2, hbb⟩
                  refine sq rfl (do_assign (tm rfl hit)) ?_
                  refine cutL ?_
                  intro τ42 e42
                  have c42_0 := (congrFun e42 0).trans (nx rfl (nx rfl (nx rfl (nx rfl (nx rfl (nx rfl c39_0))))))
                  have c42_1 := (congrFun e42 1).trans (nx rfl (nx rfl (nx rfl hit)))
                  have c42_2 := (congrFun e42 2).trans hit
                  have c42_3 := (congrFun e42 3).trans (nx rfl (nx rfl (nx rfl (nx rfl (nx rfl (nx rfl c39_3))))))
                  have c42_4 := (congrFun e42 4).trans (nx rfl (nx rfl (nx rfl (nx rfl (nx rfl (nx rfl c39_4))))))
                  have c42_10 := (congrFun e42 10).trans (nx rfl (nx rfl (nx rfl (nx rfl (nx rfl (nx rfl c39_10))))))
                  clear e42
                  refine wnil ?_
                  refine hK41 _ _ ?_
                  clear hK41
                  have hb2 := hb1.trans (hbb.mono (by have := hb1.size; omega))
                  have f1_1 := g1.below hbb
                  have f1_3 := f0_3.below hbb
                  have f1_4 := f0_4.below hbb
                  clear hbb
                  refine wp_seq_k (fun K43 hK43 => ?_)
                  refine reg ?_
                  refine sq rfl (do_move (tm rfl c42_3)) ?_
                  refine sqc (R := fun v w' => BoolR w' v wr ∧ Below y1.heap.size y1 w') rfl (run_callF Try.func11 nm11 bd11 (map1 (tm rfl hit)) rfl) ((clone11 y1 _ wr f1_3 (by omega)).mono ?_) ?_
                  · rintro e w' ⟨v', rfl, h⟩
                    exact ⟨_, rfl, h⟩
                  rintro u3 y2 ⟨g3, hbb⟩
                  refine sq rfl (do_assign (tm rfl hit)) ?_
                  refine wnil ?_
                  refine hK43 _ _ ?_
                  clear hK43
                  have hb3 := hb2.trans (hbb.mono (by have := hb2.size; omega))
                  have f2_1 := f1_1.below hbb
                  have f2_2 := g2.below hbb
                  have f2_4 := f1_4.below hbb
                  clear hbb
                  refine wp_seq_k (fun K44 hK44 => ?_)
                  refine reg ?_
                  refine sq rfl (do_move (tm rfl (nx rfl (nx rfl (nx rfl c42_4))))) ?_
                  refine sqc (R := fun v w' => IntR w' v pm ∧ Below y2.heap.size y2 w') rfl (run_callF Try.func10 nm10 bd10 (map1 (tm rfl hit)) rfl) ((clone10 y2 _ pm f2_4 (by omega)).mono ?_) ?_
                  · rintro e w' ⟨v', rfl, h⟩
                    exact ⟨_, rfl, h⟩
                  rintro u4 y3 ⟨g4, hbb⟩
                  refine sq rfl (do_assign (tm rfl hit)) ?_
                  refine cutL ?_
                  intro τ45 e45
                  have c45_0 := (congrFun e45 0).trans (nx rfl (nx rfl (nx rfl (nx rfl (nx rfl (nx rfl c42_0))))))
                  have c45_1 := (congrFun e45 1).trans (nx rfl (nx rfl (nx rfl (nx rfl (nx rfl (nx rfl c42_1))))))
                  have c45_2 := (congrFun e45 2).trans (nx rfl (nx rfl (nx rfl (nx rfl (nx rfl (nx rfl c42_2))))))
                  have c45_3 := (congrFun e45 3).trans (nx rfl (nx rfl (nx rfl hit)))
                  have c45_4 := (congrFun e45 4).trans hit
                  have c45_10 := (congrFun e45 10).trans (nx rfl (nx rfl (nx rfl (nx rfl (nx rfl (nx rfl c42_10))))))
                  clear e45
                  refine wnil ?_
                  refine hK44 _ _ ?_
                  clear hK44
                  have hb4 := hb3.trans (hbb.mono (by have := hb3.size; omega))
                  have f3_1 := f2_1.below hbb
                  have f3_2 := f2_2.below hbb
                  have f3_3 := g3.below hbb
                  clear hbb
                  refine wp_seq_k (fun K46 hK46 => ?_)
                  refine wp_seq_k (fun K47 hK47 => ?_)
                  refine reg ?_
                  refine sq rfl (do_move (tm rfl c45_0)) ?_
                  refine sq rfl (do_move (tm rfl (nx rfl c45_1))) ?_
                  refine sq rfl (do_move (tm rfl (nx rfl (nx rfl c45_2)))) ?_
                  refine sq rfl (do_move (tm rfl (nx rfl (nx rfl (nx rfl c45_3))))) ?_
                  refine sqc (R := fun v w' => ∃ b : Bool, v = .bool b ∧ w' = y3 ∧ (b = true → it.length = nd.length ∧ wr.length = nd.length ∧ ∀ v ∈ nd, 0 ≤ v ∧ v < (n : Int))) rfl
                    (run_callF Try.func12 nm12 bd12 (map4 (tm rfl (nx rfl (nx rfl (nx rfl hit)))) (tm rfl (nx rfl (nx rfl hit))) (tm rfl (nx rfl hit)) (tm rfl hit)) rfl) ((shape12 y3 (n : Int) _ _ _ nd it wr f3_1 f3_2 f3_3 (by omega)).mono ?_) ?_
                  · rintro e w' ⟨b, rfl, h⟩
                    exact ⟨_, rfl, b, rfl, h⟩
                  rintro cv w2 ⟨b, rfl, hw2, hsh⟩
                  subst hw2
                  refine sq rfl (do_not (tm rfl hit)) ?_
                  refine cutL ?_
                  intro τ48 e48
                  have c48_0 := (congrFun e48 0).trans (nx rfl (nx rfl (nx rfl (nx rfl (nx rfl (nx rfl c45_0))))))
                  have c48_1 := (congrFun e48 1).trans (nx rfl (nx rfl (nx rfl (nx rfl (nx rfl (nx rfl c45_1))))))
                  have c48_2 := (congrFun e48 2).trans (nx rfl (nx rfl (nx rfl (nx rfl (nx rfl (nx rfl c45_2))))))
                  have c48_3 := (congrFun e48 3).trans (nx rfl (nx rfl (nx rfl (nx rfl (nx rfl (nx rfl c45_3))))))
                  have c48_4 := (congrFun e48 4).trans (nx rfl (nx rfl (nx rfl (nx rfl (nx rfl (nx rfl c45_4))))))
                  have c48_10 := (congrFun e48 10).trans (nx rfl (nx rfl (nx rfl (nx rfl (nx rfl (nx rfl c45_10))))))
                  have c48_78 := (congrFun e48 78).trans hit
                  clear e48
                  refine wnil ?_
                  refine hK47 _ _ ?_
                  clear hK47
                  cases b with
                  | false =>
                    refine cT rfl c48_78 rfl ?_
                    refine wp_seq_k (fun K49 hK49 => ?_)
                    refine reg ?_
                    refine sq rfl (do_assign ck) ?_
                    refine wnil ?_
                    refine hK49 _ _ ?_
                    clear hK49
                    refine wp_ret ?_
                    refine thenR ?_
                    exact hT _ _ hit hb4
                  | true =>
                    refine cF rfl c48_78 rfl ?_
                    refine wp_skip ?_
                    refine hK46 _ _ ?_
                    clear hK46
                    obtain ⟨hil, hwl, hndr⟩ := hsh rfl
                    refine wp_seq_k (fun K50 hK50 => ?_)
                    refine reg ?_
                    refine sq rfl (do_move (tm rfl c48_0)) ?_
                    refine sq rfl (do_move (tm rfl (nx rfl c48_4))) ?_
                    refine sqc (R := fun v w' => ∃ (v' : Value) (b : Bool), v = .tuple #[v', .bool b] ∧ Below w2.heap.size w2 w' ∧ (b = true → ∃ rk, RankOf n pm rk ∧ v' = .slice (some ⟨w2.heap.size, 0, none⟩) n n ∧ Blk w' w2.heap.size 3 (ints rk))) rfl
                      (run_callF Try.func13 nm13 bd13 (map2 (tm rfl (nx rfl hit)) (tm rfl hit)) rfl) ((rank13 w2 n _ pm g4 (by omega)).mono ?_) ?_
                    · rintro e w' ⟨v', b, rfl, h⟩
                      exact ⟨_, rfl, v', b, rfl, h⟩
                    rintro cv w3 ⟨v', b, rfl, hbb, hrk⟩
                    have hb5 := hb4.trans (hbb.mono (by have := hb4.size; omega))
                    refine sq rfl (do_move (tm rfl hit)) ?_
                    refine sq rfl (do_extract (tm rfl hit) rfl) ?_
                    refine sq rfl (do_extract (tm rfl (nx rfl hit)) rfl) ?_
                    refine sq rfl (do_assign (tm rfl (nx rfl hit))) ?_
                    refine sq rfl (do_assign (tm rfl (nx rfl hit))) ?_
                    refine cutL ?_
                    intro τ51 e51
                    have c51_0 := (congrFun e51 0).trans (nx rfl (nx rfl (nx rfl (nx rfl (nx rfl (nx rfl (nx rfl (nx rfl c48_0))))))))
                    have c51_1 := (congrFun e51 1).trans (nx rfl (nx rfl (nx rfl (nx rfl (nx rfl (nx rfl (nx rfl (nx rfl c48_1))))))))
                    have c51_2 := (congrFun e51 2).trans (nx rfl (nx rfl (nx rfl (nx rfl (nx rfl (nx rfl (nx rfl (nx rfl c48_2))))))))
                    have c51_3 := (congrFun e51 3).trans (nx rfl (nx rfl (nx rfl (nx rfl (nx rfl (nx rfl (nx rfl (nx rfl c48_3))))))))
                    have c51_4 := (congrFun e51 4).trans (nx rfl (nx rfl (nx rfl (nx rfl (nx rfl (nx rfl (nx rfl (nx rfl c48_4))))))))
                    have c51_10 := (congrFun e51 10).trans (nx rfl (nx rfl (nx rfl (nx rfl (nx rfl (nx rfl (nx rfl (nx rfl c48_10))))))))
                    have c51_11 := (congrFun e51 11).trans (nx rfl hit)
                    have c51_12 := (congrFun e51 12).trans hit
                    clear e51
                    refine wnil ?_
                    refine hK50 _ _ ?_
                    clear hK50
                    refine wp_seq_k (fun K52 hK52 => ?_)
                    refine wp_seq_k (fun K53 hK53 => ?_)
                    refine reg ?_
                    refine sq rfl (do_move (tm rfl c51_12)) ?_
                    refine sq rfl (do_not (tm rfl hit)) ?_
                    refine wnil ?_
                    refine hK53 _ _ ?_
                    clear hK53
                    cases b with
                    | false =>
                      refine cT rfl hit rfl ?_
                      refine wp_seq_k (fun K54 hK54 => ?_)
                      refine reg ?_
                      refine sq rfl (do_assign ck) ?_
                      refine wnil ?_
                      refine hK54 _ _ ?_
                      clear hK54
                      refine wp_ret ?_
                      refine thenR ?_
                      exact hT _ _ hit hb5
                    | true =>
                      refine cF rfl hit rfl ?_
                      refine wp_skip ?_
                      refine hK52 _ _ ?_
                      clear hK52
                      obtain ⟨rk, hRk, rfl, hBk⟩ := hrk rfl
                      have e1 := f3_1.below hbb
                      have e2 := f3_2.below hbb
                      have e3 := f3_3.below hbb
                      have e4 := g4.below hbb
                      have hrl : rk.length = n := hRk.2.1
                      have hRr : IntR w3 (.slice (some ⟨w2.heap.size, 0, none⟩) n n) rk := by
                        have := Blk.intR (c := n) hBk
                        rwa [hrl] at this
                      clear hbb hBk
                      refine wp_seq_k (fun K55 hK55 => ?_)
                      refine reg ?_
                      refine sq rfl (do_move (tm rfl (nx rfl (nx rfl c51_2)))) ?_
                      refine sqc (R := fun v w' => ∃ (xs : List Int) (k : Nat), v = .tuple #[.slice (some ⟨w3.heap.size + 1, 0, none⟩) it.length it.length, .int .i64 (k : Int)] ∧ xs.length = it.length ∧ Blk w' (w3.heap.size + 1) 3 (ints xs) ∧ (∀ x ∈ xs, 0 ≤ x ∧ x < (k : Int)) ∧ k ≤ it.length ∧ Below w3.heap.size w3 w') rfl
                        (run_callF Try.func14 nm14 bd14 (map1 (tm rfl hit)) rfl) ((items14 w3 _ it e2 (by omega)).mono ?_) ?_
                      · rintro e w' ⟨xs, k, rfl, h⟩
                        exact ⟨_, rfl, xs, k, rfl, h⟩
                      rintro cv w4 ⟨xs, k, rfl, hxl, hBx, hxr, hkl, hbb⟩
                      have hb6 := hb5.trans (hbb.mono (by have := hb5.size; omega))
                      have i1 := e1.below hbb
                      have i3 := e3.below hbb
                      have i4 := e4.below hbb
                      have iR := hRr.below hbb
                      have iX : IntR w4 (.slice (some ⟨w3.heap.size + 1, 0, none⟩) it.length it.length) xs := by
                        have := Blk.intR (c := it.length) hBx
                        rwa [hxl] at this
                      clear hbb hBx
                      refine sq rfl (do_move (tm rfl hit)) ?_
                      refine sq rfl (do_extract (tm rfl hit) rfl) ?_
                      refine sq rfl (do_extract (tm rfl (nx rfl hit)) rfl) ?_
                      refine sq rfl (do_assign (tm rfl (nx rfl hit))) ?_
                      refine sq rfl (do_assign (tm rfl (nx rfl hit))) ?_
                      refine cutL ?_
                      intro τ56 e56
                      have c56_0 := (congrFun e56 0).trans (nx rfl (nx rfl (nx rfl (nx rfl (nx rfl (nx rfl (nx rfl (nx rfl (nx rfl c51_0)))))))))
                      have c56_1 := (congrFun e56 1).trans (nx rfl (nx rfl (nx rfl (nx rfl (nx rfl (nx rfl (nx rfl (nx rfl (nx rfl c51_1)))))))))
                      have c56_2 := (congrFun e56 2).trans (nx rfl (nx rfl (nx rfl (nx rfl (nx rfl (nx rfl (nx rfl (nx rfl (nx rfl c51_2)))))))))
                      have c56_3 := (congrFun e56 3).trans (nx rfl (nx rfl (nx rfl (nx rfl (nx rfl (nx rfl (nx rfl (nx rfl (nx rfl c51_3)))))))))
                      have c56_4 := (congrFun e56 4).trans (nx rfl (nx rfl (nx rfl (nx rfl (nx rfl (nx rfl (nx rfl (nx rfl (nx rfl c51_4)))))))))
                      have c56_10 := (congrFun e56 10).trans (nx rfl (nx rfl (nx rfl (nx rfl (nx rfl (nx rfl (nx rfl (nx rfl (nx rfl c51_10)))))))))
                      have c56_11 := (congrFun e56 11).trans (nx rfl (nx rfl (nx rfl (nx rfl (nx rfl (nx rfl (nx rfl (nx rfl (nx rfl c51_11)))))))))
                      have c56_12 := (congrFun e56 12).trans (nx rfl (nx rfl (nx rfl (nx rfl (nx rfl (nx rfl (nx rfl (nx rfl (nx rfl c51_12)))))))))
                      have c56_13 := (congrFun e56 13).trans (nx rfl hit)
                      have c56_14 := (congrFun e56 14).trans hit
                      clear e56
                      refine wnil ?_
                      refine hK55 _ _ ?_
                      clear hK55
                      refine wp_seq_k (fun K57 hK57 => ?_)
                      refine wp_seq_k (fun K58 hK58 => ?_)
                      refine reg ?_
                      refine sq rfl (do_move (tm rfl c56_0)) ?_
                      refine sq rfl (do_move (tm rfl (nx rfl c56_1))) ?_
                      refine sq rfl (do_move (tm rfl (nx rfl (nx rfl c56_3)))) ?_
                      refine sq rfl (do_move (tm rfl (nx rfl (nx rfl (nx rfl c56_13))))) ?_
                      refine sq rfl (do_move (tm rfl (nx rfl (nx rfl (nx rfl (nx rfl c56_14)))))) ?_
                      refine sq rfl (do_move (tm rfl (nx rfl (nx rfl (nx rfl (nx rfl (nx rfl c56_4))))))) ?_
                      refine sqc (R := fun v w' => ∃ b : Bool, v = .bool b ∧ Below w4.heap.size w4 w' ∧ (b = true → VE (histOf nd xs wr) (rkOf rk) k)) rfl
                        (run_callF Try.func15 nm15 bd15 (map6 (tm rfl (nx rfl (nx rfl (nx rfl (nx rfl (nx rfl hit)))))) (tm rfl (nx rfl (nx rfl (nx rfl (nx rfl hit))))) (tm rfl (nx rfl (nx rfl (nx rfl hit)))) (tm rfl (nx rfl (nx rfl hit))) (tm rfl (nx rfl hit)) (tm rfl hit)) rfl) ((view15 w4 n k _ _ _ _ nd xs pm rk wr i1 i3 iX i4 (by omega) (by omega) hwl (by omega) (by omega) hndr hxr hRk).mono ?_) ?_
                      · rintro e w' ⟨b, rfl, h⟩
                        exact ⟨_, rfl, b, rfl, h⟩
                      rintro cv w5 ⟨b, rfl, hbb, hve⟩
                      have hb7 := hb6.trans (hbb.mono (by have := hb6.size; omega))
                      refine sq rfl (do_not (tm rfl hit)) ?_
                      refine cutL ?_
                      intro τ59 e59
                      have c59_0 := (congrFun e59 0).trans (nx rfl (nx rfl (nx rfl (nx rfl (nx rfl (nx rfl (nx rfl (nx rfl c56_0))))))))
                      have c59_1 := (congrFun e59 1).trans (nx rfl (nx rfl (nx rfl (nx rfl (nx rfl (nx rfl (nx rfl (nx rfl c56_1))))))))
                      have c59_2 := (congrFun e59 2).trans (nx rfl (nx rfl (nx rfl (nx rfl (nx rfl (nx rfl (nx rfl (nx rfl c56_2))))))))
                      have c59_3 := (congrFun e59 3).trans (nx rfl (nx rfl (nx rfl (nx rfl (nx rfl (nx rfl (nx rfl (nx rfl c56_3))))))))
                      have c59_4 := (congrFun e59 4).trans (nx rfl (nx rfl (nx rfl (nx rfl (nx rfl (nx rfl (nx rfl (nx rfl c56_4))))))))
                      have c59_10 := (congrFun e59 10).trans (nx rfl (nx rfl (nx rfl (nx rfl (nx rfl (nx rfl (nx rfl (nx rfl c56_10))))))))
                      have c59_11 := (congrFun e59 11).trans (nx rfl (nx rfl (nx rfl (nx rfl (nx rfl (nx rfl (nx rfl (nx rfl c56_11))))))))
                      have c59_12 := (congrFun e59 12).trans (nx rfl (nx rfl (nx rfl (nx rfl (nx rfl (nx rfl (nx rfl (nx rfl c56_12))))))))
                      have c59_13 := (congrFun e59 13).trans (nx rfl (nx rfl (nx rfl (nx rfl (nx rfl (nx rfl (nx rfl (nx rfl c56_13))))))))
                      have c59_14 := (congrFun e59 14).trans (nx rfl (nx rfl (nx rfl (nx rfl (nx rfl (nx rfl (nx rfl (nx rfl c56_14))))))))
                      have c59_99 := (congrFun e59 99).trans hit
                      clear e59
                      refine wnil ?_
                      refine hK58 _ _ ?_
                      clear hK58
                      cases b with
                      | false =>
                        refine cT rfl c59_99 rfl ?_
                        refine wp_seq_k (fun K60 hK60 => ?_)
                        refine reg ?_
                        refine sq rfl (do_assign ck) ?_
                        refine wnil ?_
                        refine hK60 _ _ ?_
                        clear hK60
                        refine wp_ret ?_
                        refine thenR ?_
                        exact hT _ _ hit hb7
                      | true =>
                        refine cF rfl c59_99 rfl ?_
                        refine wp_skip ?_
                        refine hK57 _ _ ?_
                        clear hK57
                        have hVE := hve rfl
                        have j1 := i1.below hbb
                        have j3 := i3.below hbb
                        have jR := iR.below hbb
                        have jX := iX.below hbb
                        clear hbb
                        have RI : ∀ u v, u < n → v < n → rkOf rk u = rkOf rk v → u = v := fun u v hu hv e => hRk.inj hu hv e
                        refine wp_seq_k (fun K61 hK61 => ?_)
                        refine reg ?_
                        refine sq rfl (do_move (tm rfl c59_0)) ?_
                        refine sq rfl (do_move (tm rfl (nx rfl c59_1))) ?_
                        refine sq rfl (do_move (tm rfl (nx rfl (nx rfl c59_3)))) ?_
                        refine sq rfl (do_move (tm rfl (nx rfl (nx rfl (nx rfl c59_13))))) ?_
                        refine sq rfl (do_move (tm rfl (nx rfl (nx rfl (nx rfl (nx rfl c59_14)))))) ?_
                        refine sqc (R := fun v w' => ∃ pb, v = .tuple #[.pointer (some ⟨pb, 0, none⟩), .bool true] ∧ Prob w5 w' pb n k (fun x => acc (histOf nd xs wr) x nd.length) (rkOf rk)) rfl
                          (run_callF Try.func16 nm16 bd16 (map5 (tm rfl (nx rfl (nx rfl (nx rfl (nx rfl hit))))) (tm rfl (nx rfl (nx rfl (nx rfl hit)))) (tm rfl (nx rfl (nx rfl hit))) (tm rfl (nx rfl hit)) (tm rfl hit)) rfl) ((prob16 w5 n k _ _ _ nd xs wr (rkOf rk) j1 j3 jX (by omega) (by omega) hwl (by omega) (by omega) hndr hxr hVE RI).mono ?_) ?_
                        · rintro e w' ⟨pb, rfl, h⟩
                          exact ⟨_, rfl, pb, rfl, h⟩
                        rintro cv w6 ⟨pb, rfl, hbb, N, wN, G, src, reads, writes, writers, initial, readers, next, succ, pin, rv, wv, wsv, rdv, nv, sv, ib, nb, hNN, hsp, hP, hTb, u1, u2, u3, u4, u5⟩
                        have hb8 := hb7.trans (hbb.mono (by have := hb7.size; omega))
                        have kR := jR.below hbb
                        have hbb6 := hbb
                        clear hbb
                        refine sq rfl (do_move (tm rfl hit)) ?_
                        refine sq rfl (do_extract (tm rfl hit) rfl) ?_
                        refine sq rfl (do_extract (tm rfl (nx rfl hit)) rfl) ?_
                        refine sq rfl (do_assign (tm rfl (nx rfl hit))) ?_
                        refine sq rfl (do_assign (tm rfl (nx rfl hit))) ?_
                        refine cutL ?_
                        intro τ62 e62
                        have c62_0 := (congrFun e62 0).trans (nx rfl (nx rfl (nx rfl (nx rfl (nx rfl (nx rfl (nx rfl (nx rfl (nx rfl (nx rfl (nx rfl c59_0)))))))))))
                        have c62_1 := (congrFun e62 1).trans (nx rfl (nx rfl (nx rfl (nx rfl (nx rfl (nx rfl (nx rfl (nx rfl (nx rfl (nx rfl (nx rfl c59_1)))))))))))
                        have c62_2 := (congrFun e62 2).trans (nx rfl (nx rfl (nx rfl (nx rfl (nx rfl (nx rfl (nx rfl (nx rfl (nx rfl (nx rfl (nx rfl c59_2)))))))))))
                        have c62_3 := (congrFun e62 3).trans (nx rfl (nx rfl (nx rfl (nx rfl (nx rfl (nx rfl (nx rfl (nx rfl (nx rfl (nx rfl (nx rfl c59_3)))))))))))
                        have c62_4 := (congrFun e62 4).trans (nx rfl (nx rfl (nx rfl (nx rfl (nx rfl (nx rfl (nx rfl (nx rfl (nx rfl (nx rfl (nx rfl c59_4)))))))))))
                        have c62_10 := (congrFun e62 10).trans (nx rfl (nx rfl (nx rfl (nx rfl (nx rfl (nx rfl (nx rfl (nx rfl (nx rfl (nx rfl (nx rfl c59_10)))))))))))
                        have c62_11 := (congrFun e62 11).trans (nx rfl (nx rfl (nx rfl (nx rfl (nx rfl (nx rfl (nx rfl (nx rfl (nx rfl (nx rfl (nx rfl c59_11)))))))))))
                        have c62_12 := (congrFun e62 12).trans (nx rfl (nx rfl (nx rfl (nx rfl (nx rfl (nx rfl (nx rfl (nx rfl (nx rfl (nx rfl (nx rfl c59_12)))))))))))
                        have c62_13 := (congrFun e62 13).trans (nx rfl (nx rfl (nx rfl (nx rfl (nx rfl (nx rfl (nx rfl (nx rfl (nx rfl (nx rfl (nx rfl c59_13)))))))))))
                        have c62_14 := (congrFun e62 14).trans (nx rfl (nx rfl (nx rfl (nx rfl (nx rfl (nx rfl (nx rfl (nx rfl (nx rfl (nx rfl (nx rfl c59_14)))))))))))
                        have c62_15 := (congrFun e62 15).trans (nx rfl hit)
                        have c62_16 := (congrFun e62 16).trans hit
                        clear e62
                        refine wnil ?_
                        refine hK61 _ _ ?_
                        clear hK61
                        refine wp_seq_k (fun K63 hK63 => ?_)
                        refine wp_seq_k (fun K64 hK64 => ?_)
                        refine reg ?_
                        refine sq rfl (do_move (tm rfl c62_16)) ?_
                        refine sq rfl (do_not (tm rfl hit)) ?_
                        refine wnil ?_
                        refine hK64 _ _ ?_
                        clear hK64
                        refine cF rfl hit rfl ?_
                        refine wp_skip ?_
                        refine hK63 _ _ ?_
                        clear hK63
                        have hed := hTb.ed
                        have hsl := hTb.l5
                        have hcell := hP.p.cell hsp (i := 6) rfl
                        have hTR := TabV.tabR hP.t8 hsp
                        have hsum : sumLen succ ≤ 17592186044416 := by omega
                        have hb9 := hb8
                        have kR9 := kR
                        generalize w6 = w7 at *
                        refine wp_seq_k (fun K65 hK65 => ?_)
                        refine reg ?_
                        refine sq rfl (do_move (tm rfl (nx rfl (nx rfl c62_15)))) ?_
                        refine sqc (R := fun v w' => TabR w' v succ ∧ Below w7.heap.size w7 w') rfl (run_callF Try.func18 nm18 bd18 (map1 (tm rfl hit)) rfl) ((succ18 w7 pb _ succ hcell hTR (by omega) (fun r hr => ?_)).mono ?_) ?_
                        · obtain ⟨i, hi, rfl⟩ := List.mem_iff_getElem.1 hr
                          have := len_le_sum succ i hi
                          omega
                        · rintro e w' ⟨v', rfl, h⟩
                          exact ⟨_, rfl, h⟩
                        rintro u9 w8 ⟨hTR8, hbb⟩
                        have hb10 := hb9.trans (hbb.mono (by have := hb9.size; omega))
                        have kR8 := kR9.below hbb
                        refine sq rfl (do_move (tm rfl (nx rfl (nx rfl (nx rfl (nx rfl c62_11)))))) ?_
                        refine sqc (R := fun v w' => v = .bool true ∧ Below w8.heap.size w8 w') rfl (run_callF Try.func17 nm17 bd17 (map2 (tm rfl (nx rfl hit)) (tm rfl hit)) rfl) ((respects17 w8 _ _ succ rk hTR8 kR8 (by omega) (by omega) (fun r hr => ?_) (fun v hv u hu => ?_)).mono ?_) ?_
                        · obtain ⟨i, hi, rfl⟩ := List.mem_iff_getElem.1 hr
                          have := len_le_sum succ i hi
                          omega
                        · obtain ⟨u', rfl, hun, hlt⟩ := hed v hv u hu
                          exact ⟨by omega, _, _, by rw [hrl]; simpa using hun, hRk.get (by omega), by simpa using hRk.get hun, by omega⟩
                        · rintro e w' ⟨rfl, h⟩
                          exact ⟨_, rfl, rfl, h⟩
                        rintro cv w9 ⟨rfl, hbb⟩
                        refine sq rfl (do_assign (tm rfl hit)) ?_
                        refine cutL ?_
                        intro τ66 e66
                        have c66_0 := (congrFun e66 0).trans (nx rfl (nx rfl (nx rfl (nx rfl (nx rfl (nx rfl (nx rfl c62_0)))))))
                        have c66_1 := (congrFun e66 1).trans (nx rfl (nx rfl (nx rfl (nx rfl (nx rfl (nx rfl (nx rfl c62_1)))))))
                        have c66_2 := (congrFun e66 2).trans (nx rfl (nx rfl (nx rfl (nx rfl (nx rfl (nx rfl (nx rfl c62_2)))))))
                        have c66_3 := (congrFun e66 3).trans (nx rfl (nx rfl (nx rfl (nx rfl (nx rfl (nx rfl (nx rfl c62_3)))))))
                        have c66_4 := (congrFun e66 4).trans (nx rfl (nx rfl (nx rfl (nx rfl (nx rfl (nx rfl (nx rfl c62_4)))))))
                        have c66_10 := (congrFun e66 10).trans hit
                        have c66_11 := (congrFun e66 11).trans (nx rfl (nx rfl (nx rfl (nx rfl (nx rfl (nx rfl (nx rfl c62_11)))))))
                        have c66_12 := (congrFun e66 12).trans (nx rfl (nx rfl (nx rfl (nx rfl (nx rfl (nx rfl (nx rfl c62_12)))))))
                        have c66_13 := (congrFun e66 13).trans (nx rfl (nx rfl (nx rfl (nx rfl (nx rfl (nx rfl (nx rfl c62_13)))))))
                        have c66_14 := (congrFun e66 14).trans (nx rfl (nx rfl (nx rfl (nx rfl (nx rfl (nx rfl (nx rfl c62_14)))))))
                        have c66_15 := (congrFun e66 15).trans (nx rfl (nx rfl (nx rfl (nx rfl (nx rfl (nx rfl (nx rfl c62_15)))))))
                        have c66_16 := (congrFun e66 16).trans (nx rfl (nx rfl (nx rfl (nx rfl (nx rfl (nx rfl (nx rfl c62_16)))))))
                        clear e66
                        refine wnil ?_
                        refine hK65 _ _ ?_
                        clear hK65
                        refine wp_ret ?_
                        exact hT _ _ c66_10 (hb10.trans (hbb.mono (by have := hb10.size; omega)))
end Go.Proofs.Qxb6001364a
