/-
  zzCallsInBounds, zzCallsMatch: they give a truth value and change nothing.
-/
import Derived.Test.Qxb6000003aW1
namespace Go.Proofs.Qxb6000003a
open Go.Fra Go.RowKit
set_option maxRecDepth 100000
set_option linter.unusedVariables false

theorem inBounds16 (w : World) (vp va vs : Value) (ps : List ByteArray) (avs : List Value) (rows : List (List ByteArray)) (zs : List Int) (hP : StrS w vp ps) (hA : ArgS w va avs rows) (hS : I64S w vs zs)
    (l1 : ps.length ≤ 1048576) (l2 : rows.length ≤ 1048576) (l3 : zs.length ≤ 1048576) (l4 : ∀ r ∈ rows, r.length ≤ 1048576) :
    Calls Try.prog 16 #[vp, va, vs] w fun e w' => ∃ b, e = .returned (.bool b) ∧ w' = w := by
  obtain ⟨a0, c0, rfl, hP⟩ := hP
  obtain ⟨hal, a1, c1, rfl, hA⟩ := hA
  obtain ⟨a2, c2, rfl, hS⟩ := hS
  refine enter (args := [.slice a0 ps.length c0, .slice a1 rows.length c1, .slice a2 zs.length c2]) Try.func16 rfl Try.ntmps16 rfl ?_
  generalize hQ : bodyPost Try.prog Try.f16 _ = Q
  have hF : ∀ τ b, τ 6 = .bool b → Q .ret (Fr 110 τ) w := by
    intro τ b h
    rw [← hQ]
    exact ret1 rfl rfl h ⟨b, rfl, rfl⟩
  clear hQ
  have s0 : frame0 [Value.slice a0 ps.length c0, .slice a1 rows.length c1, .slice a2 zs.length c2] 0 = .slice a0 ps.length c0 := rfl
  have s1 : frame0 [Value.slice a0 ps.length c0, .slice a1 rows.length c1, .slice a2 zs.length c2] 1 = .slice a1 rows.length c1 := rfl
  have s2 : frame0 [Value.slice a0 ps.length c0, .slice a1 rows.length c1, .slice a2 zs.length c2] 2 = .slice a2 zs.length c2 := rfl
  generalize frame0 [Value.slice a0 ps.length c0, .slice a1 rows.length c1, .slice a2 zs.length c2] = σ at *
  refine wp_seq_k (fun K1 hK1 => ?_)
  refine reg ?_
  refine sq rfl (do_assign ck) ?_
  refine wnil ?_
  refine hK1 _ _ ?_
  clear hK1 K1
  by_cases q1 : (65536 : Int) < (ps.length : Int)
  · refine wp_seq_k (fun K2 hK2 => ?_)
    refine wp_seq_k (fun K3 hK3 => ?_)
    refine reg ?_
    refine sq rfl (do_move (tm rfl (nx rfl s0))) ?_
    refine sq rfl (do_len Try.underlying30 (tm rfl hit)) ?_
    refine sq rfl (do_gtrT (tm rfl hit) ck q1) ?_
    refine sq rfl (do_move (tm rfl hit)) ?_
    refine sqs rfl rfl hit rfl rfl ?_
    refine sqs rfl rfl (nx rfl hit) rfl rfl ?_
    refine sqs rfl rfl (nx rfl (nx rfl hit)) rfl rfl ?_
    refine sq rfl (do_pickT (tm rfl (nx rfl (nx rfl (nx rfl hit)))) ck) ?_
    refine sq rfl (do_move (tm rfl hit)) ?_
    refine sqs rfl rfl hit rfl rfl ?_
    refine sqs rfl rfl (nx rfl hit) rfl rfl ?_
    refine sqs rfl rfl (nx rfl (nx rfl hit)) rfl rfl ?_
    refine sq rfl (do_pickT (tm rfl (nx rfl (nx rfl (nx rfl hit)))) ck) ?_
    refine cutL ?_
    intro τ4 e4
    have c4_0 := (congrFun e4 0).trans (nx rfl (nx rfl (nx rfl (nx rfl (nx rfl (nx rfl (nx rfl (nx rfl (nx rfl (nx rfl (nx rfl (nx rfl (nx rfl (nx rfl s0))))))))))))))
    have c4_1 := (congrFun e4 1).trans (nx rfl (nx rfl (nx rfl (nx rfl (nx rfl (nx rfl (nx rfl (nx rfl (nx rfl (nx rfl (nx rfl (nx rfl (nx rfl (nx rfl s1))))))))))))))
    have c4_2 := (congrFun e4 2).trans (nx rfl (nx rfl (nx rfl (nx rfl (nx rfl (nx rfl (nx rfl (nx rfl (nx rfl (nx rfl (nx rfl (nx rfl (nx rfl (nx rfl s2))))))))))))))
    have c4_6 := (congrFun e4 6).trans (nx rfl (nx rfl (nx rfl (nx rfl (nx rfl (nx rfl (nx rfl (nx rfl (nx rfl (nx rfl (nx rfl (nx rfl (nx rfl hit)))))))))))))
    have c4_23 := (congrFun e4 23).trans hit
    clear e4
    refine wnil ?_
    refine hK3 _ _ ?_
    clear hK3 K3
    refine cB rfl c4_23 (fun h1 => ?_) (fun h1 => ?_)
    · refine wp_seq_k (fun K5 hK5 => ?_)
      refine reg ?_
      refine sq rfl (do_assign ck) ?_
      refine wnil ?_
      refine hK5 _ _ ?_
      clear hK5 K5
      refine wp_ret ?_
      refine thenR ?_
      exact hF _ _ hit 
    refine wp_skip ?_
    refine hK2 _ _ ?_
    clear hK2 K2
    cases h1
  by_cases q2 : (65536 : Int) < (rows.length : Int)
  · refine wp_seq_k (fun K6 hK6 => ?_)
    refine wp_seq_k (fun K7 hK7 => ?_)
    refine reg ?_
    refine sq rfl (do_move (tm rfl (nx rfl s0))) ?_
    refine sq rfl (do_len Try.underlying30 (tm rfl hit)) ?_
    refine sq rfl (do_gtrF (tm rfl hit) ck q1) ?_
    refine sq rfl (do_move (tm rfl hit)) ?_
    refine sqg rfl rfl hit rfl (do_move (tm rfl (nx rfl (nx rfl (nx rfl (nx rfl (nx rfl s1))))))) ?_
    refine sqg rfl rfl (nx rfl hit) rfl (do_len Try.underlying31 (tm rfl hit)) ?_
    refine sqg rfl rfl (nx rfl (nx rfl hit)) rfl (do_gtrT (tm rfl hit) ck q2) ?_
    refine sq rfl (do_pickF (tm rfl (nx rfl (nx rfl (nx rfl hit)))) (tm rfl hit)) ?_
    refine sq rfl (do_move (tm rfl hit)) ?_
    refine sqs rfl rfl hit rfl rfl ?_
    refine sqs rfl rfl (nx rfl hit) rfl rfl ?_
    refine sqs rfl rfl (nx rfl (nx rfl hit)) rfl rfl ?_
    refine sq rfl (do_pickT (tm rfl (nx rfl (nx rfl (nx rfl hit)))) ck) ?_
    refine cutL ?_
    intro τ8 e8
    have c8_0 := (congrFun e8 0).trans (nx rfl (nx rfl (nx rfl (nx rfl (nx rfl (nx rfl (nx rfl (nx rfl (nx rfl (nx rfl (nx rfl (nx rfl (nx rfl (nx rfl s0))))))))))))))
    have c8_1 := (congrFun e8 1).trans (nx rfl (nx rfl (nx rfl (nx rfl (nx rfl (nx rfl (nx rfl (nx rfl (nx rfl (nx rfl (nx rfl (nx rfl (nx rfl (nx rfl s1))))))))))))))
    have c8_2 := (congrFun e8 2).trans (nx rfl (nx rfl (nx rfl (nx rfl (nx rfl (nx rfl (nx rfl (nx rfl (nx rfl (nx rfl (nx rfl (nx rfl (nx rfl (nx rfl s2))))))))))))))
    have c8_6 := (congrFun e8 6).trans (nx rfl (nx rfl (nx rfl (nx rfl (nx rfl (nx rfl (nx rfl (nx rfl (nx rfl (nx rfl (nx rfl (nx rfl (nx rfl hit)))))))))))))
    have c8_23 := (congrFun e8 23).trans hit
    clear e8
    refine wnil ?_
    refine hK7 _ _ ?_
    clear hK7 K7
    refine cB rfl c8_23 (fun h1 => ?_) (fun h1 => ?_)
    · refine wp_seq_k (fun K9 hK9 => ?_)
      refine reg ?_
      refine sq rfl (do_assign ck) ?_
      refine wnil ?_
      refine hK9 _ _ ?_
      clear hK9 K9
      refine wp_ret ?_
      refine thenR ?_
      exact hF _ _ hit 
    refine wp_skip ?_
    refine hK6 _ _ ?_
    clear hK6 K6
    cases h1
  refine wp_seq_k (fun K10 hK10 => ?_)
  refine wp_seq_k (fun K11 hK11 => ?_)
  refine reg ?_
  refine sq rfl (do_move (tm rfl (nx rfl s0))) ?_
  refine sq rfl (do_len Try.underlying30 (tm rfl hit)) ?_
  refine sq rfl (do_gtrF (tm rfl hit) ck q1) ?_
  refine sq rfl (do_move (tm rfl hit)) ?_
  refine sqg rfl rfl hit rfl (do_move (tm rfl (nx rfl (nx rfl (nx rfl (nx rfl (nx rfl s1))))))) ?_
  refine sqg rfl rfl (nx rfl hit) rfl (do_len Try.underlying31 (tm rfl hit)) ?_
  refine sqg rfl rfl (nx rfl (nx rfl hit)) rfl (do_gtrF (tm rfl hit) ck q2) ?_
  refine sq rfl (do_pickF (tm rfl (nx rfl (nx rfl (nx rfl hit)))) (tm rfl hit)) ?_
  refine sq rfl (do_move (tm rfl hit)) ?_
  refine sqg rfl rfl hit rfl (do_move (tm rfl (nx rfl (nx rfl (nx rfl (nx rfl (nx rfl (nx rfl (nx rfl (nx rfl (nx rfl (nx rfl s2)))))))))))) ?_
  refine sqg rfl rfl (nx rfl hit) rfl (do_len Try.underlying32 (tm rfl hit)) ?_
  refine sqg rfl rfl (nx rfl (nx rfl hit)) rfl (do_gtr (tm rfl hit) ck) ?_
  refine sq rfl (do_pickF (tm rfl (nx rfl (nx rfl (nx rfl hit)))) (tm rfl hit)) ?_
  refine cutL ?_
  intro τ12 e12
  have c12_0 := (congrFun e12 0).trans (nx rfl (nx rfl (nx rfl (nx rfl (nx rfl (nx rfl (nx rfl (nx rfl (nx rfl (nx rfl (nx rfl (nx rfl (nx rfl (nx rfl s0))))))))))))))
  have c12_1 := (congrFun e12 1).trans (nx rfl (nx rfl (nx rfl (nx rfl (nx rfl (nx rfl (nx rfl (nx rfl (nx rfl (nx rfl (nx rfl (nx rfl (nx rfl (nx rfl s1))))))))))))))
  have c12_2 := (congrFun e12 2).trans (nx rfl (nx rfl (nx rfl (nx rfl (nx rfl (nx rfl (nx rfl (nx rfl (nx rfl (nx rfl (nx rfl (nx rfl (nx rfl (nx rfl s2))))))))))))))
  have c12_6 := (congrFun e12 6).trans (nx rfl (nx rfl (nx rfl (nx rfl (nx rfl (nx rfl (nx rfl (nx rfl (nx rfl (nx rfl (nx rfl (nx rfl (nx rfl hit)))))))))))))
  have c12_23 := (congrFun e12 23).trans hit
  clear e12
  refine wnil ?_
  refine hK11 _ _ ?_
  clear hK11 K11
  refine cB rfl c12_23 (fun h1 => ?_) (fun h1 => ?_)
  · refine wp_seq_k (fun K13 hK13 => ?_)
    refine reg ?_
    refine sq rfl (do_assign ck) ?_
    refine wnil ?_
    refine hK13 _ _ ?_
    clear hK13 K13
    refine wp_ret ?_
    refine thenR ?_
    exact hF _ _ hit 
  refine wp_skip ?_
  refine hK10 _ _ ?_
  clear hK10 K10
  refine wp_seq_k (fun K14 hK14 => ?_)
  refine reg ?_
  refine sq rfl (do_move (tm rfl c12_0)) ?_
  refine sq rfl (do_len Try.underlying30 (tm rfl hit)) ?_
  refine sq rfl (do_mul ck (tm rfl hit) (by omega)) ?_
  refine sq rfl (do_move (tm rfl (nx rfl (nx rfl (nx rfl c12_1))))) ?_
  refine sq rfl (do_len Try.underlying31 (tm rfl hit)) ?_
  refine sq rfl (do_mul ck (tm rfl hit) (by omega)) ?_
  refine sq rfl (do_add (tm rfl (nx rfl (nx rfl (nx rfl hit)))) (tm rfl hit) (by omega)) ?_
  refine sq rfl (do_move (tm rfl (nx rfl (nx rfl (nx rfl (nx rfl (nx rfl (nx rfl (nx rfl c12_2))))))))) ?_
  refine sq rfl (do_len Try.underlying32 (tm rfl hit)) ?_
  refine sq rfl (do_mul ck (tm rfl hit) (by omega)) ?_
  refine sq rfl (do_add (tm rfl (nx rfl (nx rfl (nx rfl hit)))) (tm rfl hit) (by omega)) ?_
  refine sq rfl (do_assign (tm rfl hit)) ?_
  refine cutL ?_
  intro τ15 e15
  have c15_0 := (congrFun e15 0).trans (nx rfl (nx rfl (nx rfl (nx rfl (nx rfl (nx rfl (nx rfl (nx rfl (nx rfl (nx rfl (nx rfl (nx rfl c12_0))))))))))))
  have c15_1 := (congrFun e15 1).trans (nx rfl (nx rfl (nx rfl (nx rfl (nx rfl (nx rfl (nx rfl (nx rfl (nx rfl (nx rfl (nx rfl (nx rfl c12_1))))))))))))
  have c15_2 := (congrFun e15 2).trans (nx rfl (nx rfl (nx rfl (nx rfl (nx rfl (nx rfl (nx rfl (nx rfl (nx rfl (nx rfl (nx rfl (nx rfl c12_2))))))))))))
  have c15_6 := (congrFun e15 6).trans (nx rfl (nx rfl (nx rfl (nx rfl (nx rfl (nx rfl (nx rfl (nx rfl (nx rfl (nx rfl (nx rfl (nx rfl c12_6))))))))))))
  have c15_7 := (congrFun e15 7).trans hit
  clear e15
  refine wnil ?_
  refine hK14 _ _ ?_
  clear hK14 K14
  refine wp_seq_k (fun K16 hK16 => ?_)
  refine wp_seq_k (fun K17 hK17 => ?_)
  refine reg ?_
  refine sq rfl (do_move (tm rfl c15_7)) ?_
  refine sq rfl (do_gtr (tm rfl hit) ck) ?_
  refine wnil ?_
  refine hK17 _ _ ?_
  clear hK17 K17
  refine cB rfl hit (fun h2 => ?_) (fun h2 => ?_)
  · refine wp_seq_k (fun K18 hK18 => ?_)
    refine reg ?_
    refine sq rfl (do_assign ck) ?_
    refine wnil ?_
    refine hK18 _ _ ?_
    clear hK18 K18
    refine wp_ret ?_
    refine thenR ?_
    exact hF _ _ hit 
  refine wp_skip ?_
  refine hK16 _ _ ?_
  clear hK16 K16
  simp at h2
  refine wp_seq_k (fun K19 hK19 => ?_)
  refine wp_seq_k (fun K20 hK20 => ?_)
  refine reg ?_
  refine sq rfl (do_assign (v := .int .i64 ((0 : Nat) : Int)) rfl) ?_
  refine wnil ?_
  refine hK20 _ _ ?_
  clear hK20 K20
  refine forLoop (N := 110) (fun k τ wi => w = wi ∧ ∃ (i : Nat) (z : Int), k = ps.length - i ∧ i ≤ ps.length ∧ 0 ≤ z ∧ z ≤ 1048576 ∧ τ 0 = .slice a0 ps.length c0 ∧ τ 1 = .slice a1 rows.length c1 ∧ τ 2 = .slice a2 zs.length c2 ∧
    τ 7 = .int .i64 z ∧ τ 8 = .int .i64 (i : Int))
    (fun τ wi => w = wi ∧ ∃ z : Int, 0 ≤ z ∧ z ≤ 1048576 ∧ τ 1 = .slice a1 rows.length c1 ∧ τ 7 = .int .i64 z) ps.length ?_ ?_ ?_
  · exact ⟨rfl, 0, _, rfl, Nat.zero_le _, by omega, by omega, (nx rfl (nx rfl (nx rfl c15_0))), (nx rfl (nx rfl (nx rfl c15_1))), (nx rfl (nx rfl (nx rfl c15_2))), (nx rfl (nx rfl (nx rfl c15_7))), hit⟩
  · rintro Q' k τ wi hn hx hr ⟨rfl, i, z, rfl, hi, hz0, hz, t0, t1, t2, t7, t8⟩
    refine wp_seq_k (fun K21 hK21 => ?_)
    refine wp_seq_k (fun K22 hK22 => ?_)
    refine reg ?_
    refine sq rfl (do_move (tm rfl t8)) ?_
    refine sq rfl (do_move (tm rfl (nx rfl t0))) ?_
    refine sq rfl (do_len Try.underlying30 (tm rfl hit)) ?_
    refine sq rfl (do_lss (tm rfl (nx rfl (nx rfl hit))) (tm rfl hit)) ?_
    refine cutL ?_
    intro τ23 e23
    have c23_0 := (congrFun e23 0).trans (nx rfl (nx rfl (nx rfl (nx rfl t0))))
    have c23_1 := (congrFun e23 1).trans (nx rfl (nx rfl (nx rfl (nx rfl t1))))
    have c23_2 := (congrFun e23 2).trans (nx rfl (nx rfl (nx rfl (nx rfl t2))))
    have c23_7 := (congrFun e23 7).trans (nx rfl (nx rfl (nx rfl (nx rfl t7))))
    have c23_8 := (congrFun e23 8).trans (nx rfl (nx rfl (nx rfl (nx rfl t8))))
    have c23_40 := (congrFun e23 40).trans hit
    clear e23
    refine wnil ?_
    refine hK22 _ _ ?_
    clear hK22 K22
    by_cases h : i < ps.length
    · obtain ⟨b, o, rfl, hc⟩ := hP i h
      refine cT rfl c23_40 (by simpa using h) ?_
      refine wp_skip ?_
      refine hK21 _ _ ?_
      clear hK21 K21
      refine wp_seq_k (fun K24 hK24 => ?_)
      refine wp_block ?_
      refine wp_seq_k (fun K25 hK25 => ?_)
      refine wp_seq_k (fun K26 hK26 => ?_)
      refine reg ?_
      refine sq rfl (do_move (tm rfl c23_0)) ?_
      refine sq rfl (do_move (tm rfl (nx rfl c23_8))) ?_
      refine sq rfl (io30 (tm rfl (nx rfl hit)) (tm rfl hit) (by omega)) ?_
      refine sq rfl (do_load T9 rfl (tm rfl hit) hc) ?_
      refine sq rfl (do_lenStr Try.underlying9 (tm rfl hit)) ?_
      refine sq rfl (do_gtr (tm rfl hit) ck) ?_
      refine cutL ?_
      intro τ27 e27
      have c27_0 := (congrFun e27 0).trans (nx rfl (nx rfl (nx rfl (nx rfl (nx rfl (nx rfl c23_0))))))
      have c27_1 := (congrFun e27 1).trans (nx rfl (nx rfl (nx rfl (nx rfl (nx rfl (nx rfl c23_1))))))
      have c27_2 := (congrFun e27 2).trans (nx rfl (nx rfl (nx rfl (nx rfl (nx rfl (nx rfl c23_2))))))
      have c27_7 := (congrFun e27 7).trans (nx rfl (nx rfl (nx rfl (nx rfl (nx rfl (nx rfl c23_7))))))
      have c27_8 := (congrFun e27 8).trans (nx rfl (nx rfl (nx rfl (nx rfl (nx rfl (nx rfl c23_8))))))
      have c27_48 := (congrFun e27 48).trans hit
      clear e27
      refine wnil ?_
      refine hK26 _ _ ?_
      clear hK26 K26
      refine cB rfl c27_48 (fun g1 => ?_) (fun g1 => ?_)
      · refine wp_seq_k (fun K28 hK28 => ?_)
        refine reg ?_
        refine sq rfl (do_assign ck) ?_
        refine wnil ?_
        refine hK28 _ _ ?_
        clear hK28 K28
        refine wp_ret ?_
        refine thenR ?_
        refine inBR ?_
        refine thenR ?_
        exact hr _ _ (hF _ _ hit) 
      refine wp_skip ?_
      refine hK25 _ _ ?_
      clear hK25 K25
      simp at g1
      refine wp_seq_k (fun K29 hK29 => ?_)
      refine reg ?_
      refine sq rfl (do_move (tm rfl c27_7)) ?_
      refine sq rfl (do_move (tm rfl (nx rfl c27_0))) ?_
      refine sq rfl (do_move (tm rfl (nx rfl (nx rfl c27_8)))) ?_
      refine sq rfl (io30 (tm rfl (nx rfl hit)) (tm rfl hit) (by omega)) ?_
      refine sq rfl (do_load T9 rfl (tm rfl hit) hc) ?_
      refine sq rfl (do_lenStr Try.underlying9 (tm rfl hit)) ?_
      refine sq rfl (do_add (tm rfl (nx rfl (nx rfl (nx rfl (nx rfl (nx rfl hit)))))) (tm rfl hit) (by omega)) ?_
      refine sq rfl (do_assign (tm rfl hit)) ?_
      refine cutL ?_
      intro τ30 e30
      have c30_0 := (congrFun e30 0).trans (nx rfl (nx rfl (nx rfl (nx rfl (nx rfl (nx rfl (nx rfl (nx rfl c27_0))))))))
      have c30_1 := (congrFun e30 1).trans (nx rfl (nx rfl (nx rfl (nx rfl (nx rfl (nx rfl (nx rfl (nx rfl c27_1))))))))
      have c30_2 := (congrFun e30 2).trans (nx rfl (nx rfl (nx rfl (nx rfl (nx rfl (nx rfl (nx rfl (nx rfl c27_2))))))))
      have c30_7 := (congrFun e30 7).trans hit
      have c30_8 := (congrFun e30 8).trans (nx rfl (nx rfl (nx rfl (nx rfl (nx rfl (nx rfl (nx rfl (nx rfl c27_8))))))))
      clear e30
      refine wnil ?_
      refine hK29 _ _ ?_
      clear hK29 K29
      refine wp_seq_k (fun K31 hK31 => ?_)
      refine reg ?_
      refine sq rfl (do_move (tm rfl c30_7)) ?_
      refine sq rfl (do_gtr (tm rfl hit) ck) ?_
      refine wnil ?_
      refine hK31 _ _ ?_
      clear hK31 K31
      refine cB rfl hit (fun g2 => ?_) (fun g2 => ?_)
      · refine wp_seq_k (fun K32 hK32 => ?_)
        refine reg ?_
        refine sq rfl (do_assign ck) ?_
        refine wnil ?_
        refine hK32 _ _ ?_
        clear hK32 K32
        refine wp_ret ?_
        refine inBR ?_
        refine thenR ?_
        exact hr _ _ (hF _ _ hit) 
      refine wp_skip ?_
      refine inBN ?_
      refine hK24 _ _ ?_
      clear hK24 K24
      simp at g2
      refine reg ?_
      refine sq rfl (do_move (tm rfl (nx rfl (nx rfl c30_8)))) ?_
      refine sq rfl (do_inc (tm rfl hit) ck (by omega)) ?_
      refine sq rfl (do_assign (tm rfl hit)) ?_
      refine cutL ?_
      intro τ33 e33
      have c33_0 := (congrFun e33 0).trans (nx rfl (nx rfl (nx rfl (nx rfl (nx rfl c30_0)))))
      have c33_1 := (congrFun e33 1).trans (nx rfl (nx rfl (nx rfl (nx rfl (nx rfl c30_1)))))
      have c33_2 := (congrFun e33 2).trans (nx rfl (nx rfl (nx rfl (nx rfl (nx rfl c30_2)))))
      have c33_7 := (congrFun e33 7).trans (nx rfl (nx rfl (nx rfl (nx rfl (nx rfl c30_7)))))
      have c33_8 := (congrFun e33 8).trans hit
      clear e33
      refine wnil ?_
      exact hn (ps.length - (i + 1)) _ _ (by omega) ⟨rfl, i + 1, z + (ps[i].size : Int), rfl, by omega, by omega, by omega, c33_0, c33_1, c33_2, c33_7, c33_8⟩
    · refine cF rfl c23_40 (by simpa using h) ?_
      refine wp_exit ?_
      refine thenE ?_
      exact hx _ _ ⟨rfl, z, hz0, hz, c23_1, c23_7⟩
  clear s0 s1 s2
  rintro τ _ ⟨rfl, z, hz0, hz, t1, t7⟩
  refine hK19 _ _ ?_
  clear hK19 K19
  refine wp_seq_k (fun K34 hK34 => ?_)
  refine wp_seq_k (fun K35 hK35 => ?_)
  refine reg ?_
  refine sq rfl (do_assign (v := .int .i64 ((0 : Nat) : Int)) rfl) ?_
  refine wnil ?_
  refine hK35 _ _ ?_
  clear hK35 K35
  refine forLoop (N := 110) (fun k τ wj => w = wj ∧ ∃ (i : Nat) (z : Int), k = rows.length - i ∧ i ≤ rows.length ∧ 0 ≤ z ∧ z ≤ 1048576 ∧ τ 1 = .slice a1 rows.length c1 ∧
    τ 7 = .int .i64 z ∧ τ 9 = .int .i64 (i : Int))
    (fun τ wj => w = wj) rows.length ?_ ?_ ?_
  · exact ⟨rfl, 0, z, rfl, Nat.zero_le _, hz0, hz, (nx rfl t1), (nx rfl t7), hit⟩
  · clear t1 t7
    rintro Q' k ν wj hn hx hr ⟨rfl, i, z, rfl, hi, hz0, hz, u1, u7, u9⟩
    refine wp_seq_k (fun K36 hK36 => ?_)
    refine wp_seq_k (fun K37 hK37 => ?_)
    refine reg ?_
    refine sq rfl (do_move (tm rfl u9)) ?_
    refine sq rfl (do_move (tm rfl (nx rfl u1))) ?_
    refine sq rfl (do_len Try.underlying31 (tm rfl hit)) ?_
    refine sq rfl (do_lss (tm rfl (nx rfl (nx rfl hit))) (tm rfl hit)) ?_
    refine cutL ?_
    intro τ38 e38
    have c38_1 := (congrFun e38 1).trans (nx rfl (nx rfl (nx rfl (nx rfl u1))))
    have c38_7 := (congrFun e38 7).trans (nx rfl (nx rfl (nx rfl (nx rfl u7))))
    have c38_9 := (congrFun e38 9).trans (nx rfl (nx rfl (nx rfl (nx rfl u9))))
    have c38_61 := (congrFun e38 61).trans hit
    clear e38
    refine wnil ?_
    refine hK37 _ _ ?_
    clear hK37 K37
    by_cases h : i < rows.length
    · obtain ⟨b, o, rfl, hc, hrow⟩ := hA i h (by omega)
      obtain ⟨ra, rc, hre, hrc⟩ := hrow
      have hl := l4 _ (List.getElem_mem h)
      rw [hre] at hc
      refine cT rfl c38_61 (by simpa using h) ?_
      refine wp_skip ?_
      refine hK36 _ _ ?_
      clear hK36 K36
      refine wp_seq_k (fun K39 hK39 => ?_)
      refine wp_block ?_
      refine wp_seq_k (fun K40 hK40 => ?_)
      refine wp_seq_k (fun K41 hK41 => ?_)
      refine reg ?_
      refine sq rfl (do_move (tm rfl c38_1)) ?_
      refine sq rfl (do_move (tm rfl (nx rfl c38_9))) ?_
      refine sq rfl (io31 (tm rfl (nx rfl hit)) (tm rfl hit) (by omega)) ?_
      refine sq rfl (do_load T30 rfl (tm rfl hit) hc) ?_
      refine sq rfl (do_len Try.underlying30 (tm rfl hit)) ?_
      refine sq rfl (do_gtr (tm rfl hit) ck) ?_
      refine cutL ?_
      intro τ42 e42
      have c42_1 := (congrFun e42 1).trans (nx rfl (nx rfl (nx rfl (nx rfl (nx rfl (nx rfl c38_1))))))
      have c42_7 := (congrFun e42 7).trans (nx rfl (nx rfl (nx rfl (nx rfl (nx rfl (nx rfl c38_7))))))
      have c42_9 := (congrFun e42 9).trans (nx rfl (nx rfl (nx rfl (nx rfl (nx rfl (nx rfl c38_9))))))
      have c42_69 := (congrFun e42 69).trans hit
      clear e42
      refine wnil ?_
      refine hK41 _ _ ?_
      clear hK41 K41
      refine cB rfl c42_69 (fun g1 => ?_) (fun g1 => ?_)
      · refine wp_seq_k (fun K43 hK43 => ?_)
        refine reg ?_
        refine sq rfl (do_assign ck) ?_
        refine wnil ?_
        refine hK43 _ _ ?_
        clear hK43 K43
        refine wp_ret ?_
        refine thenR ?_
        refine inBR ?_
        refine thenR ?_
        exact hr _ _ (hF _ _ hit) 
      refine wp_skip ?_
      refine hK40 _ _ ?_
      clear hK40 K40
      simp at g1
      refine wp_seq_k (fun K44 hK44 => ?_)
      refine reg ?_
      refine sq rfl (do_move (tm rfl c42_7)) ?_
      refine sq rfl (do_move (tm rfl (nx rfl c42_1))) ?_
      refine sq rfl (do_move (tm rfl (nx rfl (nx rfl c42_9)))) ?_
      refine sq rfl (io31 (tm rfl (nx rfl hit)) (tm rfl hit) (by omega)) ?_
      refine sq rfl (do_load T30 rfl (tm rfl hit) hc) ?_
      refine sq rfl (do_len Try.underlying30 (tm rfl hit)) ?_
      refine sq rfl (do_mul ck (tm rfl hit) (by omega)) ?_
      refine sq rfl (do_add (tm rfl (nx rfl (nx rfl (nx rfl (nx rfl (nx rfl (nx rfl hit))))))) (tm rfl hit) (by omega)) ?_
      refine sq rfl (do_assign (tm rfl hit)) ?_
      refine cutL ?_
      intro τ45 e45
      have c45_1 := (congrFun e45 1).trans (nx rfl (nx rfl (nx rfl (nx rfl (nx rfl (nx rfl (nx rfl (nx rfl (nx rfl c42_1)))))))))
      have c45_7 := (congrFun e45 7).trans hit
      have c45_9 := (congrFun e45 9).trans (nx rfl (nx rfl (nx rfl (nx rfl (nx rfl (nx rfl (nx rfl (nx rfl (nx rfl c42_9)))))))))
      clear e45
      refine wnil ?_
      refine hK44 _ _ ?_
      clear hK44 K44
      refine wp_seq_k (fun K46 hK46 => ?_)
      refine wp_seq_k (fun K47 hK47 => ?_)
      refine reg ?_
      refine sq rfl (do_move (tm rfl c45_7)) ?_
      refine sq rfl (do_gtr (tm rfl hit) ck) ?_
      refine wnil ?_
      refine hK47 _ _ ?_
      clear hK47 K47
      refine cB rfl hit (fun g2 => ?_) (fun g2 => ?_)
      · refine wp_seq_k (fun K48 hK48 => ?_)
        refine reg ?_
        refine sq rfl (do_assign ck) ?_
        refine wnil ?_
        refine hK48 _ _ ?_
        clear hK48 K48
        refine wp_ret ?_
        refine thenR ?_
        refine inBR ?_
        refine thenR ?_
        exact hr _ _ (hF _ _ hit) 
      refine wp_skip ?_
      refine hK46 _ _ ?_
      clear hK46 K46
      simp at g2
      refine wp_seq_k (fun K49 hK49 => ?_)
      refine reg ?_
      refine sq rfl (do_assign (v := .int .i64 ((0 : Nat) : Int)) rfl) ?_
      refine wnil ?_
      refine hK49 _ _ ?_
      clear hK49 K49
      refine forLoop (N := 110) (fun k τ wk => w = wk ∧ ∃ (j : Nat) (z : Int), k = rows[i].length - j ∧ j ≤ rows[i].length ∧ 0 ≤ z ∧ z ≤ 1048576 ∧ τ 1 = .slice (some ⟨b, o, none⟩) rows.length c1 ∧
        τ 7 = .int .i64 z ∧ τ 9 = .int .i64 (i : Int) ∧ τ 10 = .int .i64 (j : Int))
        (fun τ wk => w = wk ∧ ∃ z : Int, 0 ≤ z ∧ z ≤ 1048576 ∧ τ 1 = .slice (some ⟨b, o, none⟩) rows.length c1 ∧ τ 7 = .int .i64 z ∧ τ 9 = .int .i64 (i : Int)) rows[i].length ?_ ?_ ?_
      · exact ⟨rfl, 0, _, rfl, Nat.zero_le _, by omega, by omega, (nx rfl (nx rfl (nx rfl c45_1))), (nx rfl (nx rfl (nx rfl c45_7))), (nx rfl (nx rfl (nx rfl c45_9))), hit⟩
      · rintro Q'' k ξ wk hn' hx' hr' ⟨rfl, j, z, rfl, hj, hz0, hz, x1, x7, x9, x10⟩
        refine wp_seq_k (fun K50 hK50 => ?_)
        refine wp_seq_k (fun K51 hK51 => ?_)
        refine reg ?_
        refine sq rfl (do_move (tm rfl x10)) ?_
        refine sq rfl (do_move (tm rfl (nx rfl x1))) ?_
        refine sq rfl (do_move (tm rfl (nx rfl (nx rfl x9)))) ?_
        refine sq rfl (io31 (tm rfl (nx rfl hit)) (tm rfl hit) (by omega)) ?_
        refine sq rfl (do_load T30 rfl (tm rfl hit) hc) ?_
        refine sq rfl (do_len Try.underlying30 (tm rfl hit)) ?_
        refine sq rfl (do_lss (tm rfl (nx rfl (nx rfl (nx rfl (nx rfl (nx rfl hit)))))) (tm rfl hit)) ?_
        refine cutL ?_
        intro τ52 e52
        have c52_1 := (congrFun e52 1).trans (nx rfl (nx rfl (nx rfl (nx rfl (nx rfl (nx rfl (nx rfl x1)))))))
        have c52_7 := (congrFun e52 7).trans (nx rfl (nx rfl (nx rfl (nx rfl (nx rfl (nx rfl (nx rfl x7)))))))
        have c52_9 := (congrFun e52 9).trans (nx rfl (nx rfl (nx rfl (nx rfl (nx rfl (nx rfl (nx rfl x9)))))))
        have c52_10 := (congrFun e52 10).trans (nx rfl (nx rfl (nx rfl (nx rfl (nx rfl (nx rfl (nx rfl x10)))))))
        have c52_86 := (congrFun e52 86).trans hit
        clear e52
        refine wnil ?_
        refine hK51 _ _ ?_
        clear hK51 K51
        by_cases h' : j < rows[i].length
        · obtain ⟨b', o', rfl, hc'⟩ := hrc j h'
          refine cT rfl c52_86 (by simpa using h') ?_
          refine wp_skip ?_
          refine hK50 _ _ ?_
          clear hK50 K50
          refine wp_seq_k (fun K53 hK53 => ?_)
          refine wp_block ?_
          refine wp_seq_k (fun K54 hK54 => ?_)
          refine wp_seq_k (fun K55 hK55 => ?_)
          refine reg ?_
          refine sq rfl (do_move (tm rfl c52_1)) ?_
          refine sq rfl (do_move (tm rfl (nx rfl c52_9))) ?_
          refine sq rfl (io31 (tm rfl (nx rfl hit)) (tm rfl hit) (by omega)) ?_
          refine sq rfl (do_load T30 rfl (tm rfl hit) hc) ?_
          refine sq rfl (do_move (tm rfl (nx rfl (nx rfl (nx rfl (nx rfl c52_10)))))) ?_
          refine sq rfl (io30 (tm rfl (nx rfl hit)) (tm rfl hit) (by omega)) ?_
          refine sq rfl (do_load T9 rfl (tm rfl hit) hc') ?_
          refine sq rfl (do_lenStr Try.underlying9 (tm rfl hit)) ?_
          refine sq rfl (do_gtr (tm rfl hit) ck) ?_
          refine cutL ?_
          intro τ56 e56
          have c56_1 := (congrFun e56 1).trans (nx rfl (nx rfl (nx rfl (nx rfl (nx rfl (nx rfl (nx rfl (nx rfl (nx rfl c52_1)))))))))
          have c56_7 := (congrFun e56 7).trans (nx rfl (nx rfl (nx rfl (nx rfl (nx rfl (nx rfl (nx rfl (nx rfl (nx rfl c52_7)))))))))
          have c56_9 := (congrFun e56 9).trans (nx rfl (nx rfl (nx rfl (nx rfl (nx rfl (nx rfl (nx rfl (nx rfl (nx rfl c52_9)))))))))
          have c56_10 := (congrFun e56 10).trans (nx rfl (nx rfl (nx rfl (nx rfl (nx rfl (nx rfl (nx rfl (nx rfl (nx rfl c52_10)))))))))
          have c56_97 := (congrFun e56 97).trans hit
          clear e56
          refine wnil ?_
          refine hK55 _ _ ?_
          clear hK55 K55
          refine cB rfl c56_97 (fun g3 => ?_) (fun g3 => ?_)
          · refine wp_seq_k (fun K57 hK57 => ?_)
            refine reg ?_
            refine sq rfl (do_assign ck) ?_
            refine wnil ?_
            refine hK57 _ _ ?_
            clear hK57 K57
            refine wp_ret ?_
            refine thenR ?_
            refine inBR ?_
            refine thenR ?_
            exact hr' _ _ (hr _ _ (hF _ _ hit)) 
          refine wp_skip ?_
          refine hK54 _ _ ?_
          clear hK54 K54
          simp at g3
          refine wp_seq_k (fun K58 hK58 => ?_)
          refine reg ?_
          refine sq rfl (do_move (tm rfl c56_7)) ?_
          refine sq rfl (do_move (tm rfl (nx rfl c56_1))) ?_
          refine sq rfl (do_move (tm rfl (nx rfl (nx rfl c56_9)))) ?_
          refine sq rfl (io31 (tm rfl (nx rfl hit)) (tm rfl hit) (by omega)) ?_
          refine sq rfl (do_load T30 rfl (tm rfl hit) hc) ?_
          refine sq rfl (do_move (tm rfl (nx rfl (nx rfl (nx rfl (nx rfl (nx rfl c56_10))))))) ?_
          refine sq rfl (io30 (tm rfl (nx rfl hit)) (tm rfl hit) (by omega)) ?_
          refine sq rfl (do_load T9 rfl (tm rfl hit) hc') ?_
          refine sq rfl (do_lenStr Try.underlying9 (tm rfl hit)) ?_
          refine sq rfl (do_add (tm rfl (nx rfl (nx rfl (nx rfl (nx rfl (nx rfl (nx rfl (nx rfl (nx rfl hit))))))))) (tm rfl hit) (by omega)) ?_
          refine sq rfl (do_assign (tm rfl hit)) ?_
          refine cutL ?_
          intro τ59 e59
          have c59_1 := (congrFun e59 1).trans (nx rfl (nx rfl (nx rfl (nx rfl (nx rfl (nx rfl (nx rfl (nx rfl (nx rfl (nx rfl (nx rfl c56_1)))))))))))
          have c59_7 := (congrFun e59 7).trans hit
          have c59_9 := (congrFun e59 9).trans (nx rfl (nx rfl (nx rfl (nx rfl (nx rfl (nx rfl (nx rfl (nx rfl (nx rfl (nx rfl (nx rfl c56_9)))))))))))
          have c59_10 := (congrFun e59 10).trans (nx rfl (nx rfl (nx rfl (nx rfl (nx rfl (nx rfl (nx rfl (nx rfl (nx rfl (nx rfl (nx rfl c56_10)))))))))))
          clear e59
          refine wnil ?_
          refine hK58 _ _ ?_
          clear hK58 K58
          refine wp_seq_k (fun K60 hK60 => ?_)
          refine reg ?_
          refine sq rfl (do_move (tm rfl c59_7)) ?_
          refine sq rfl (do_gtr (tm rfl hit) ck) ?_
          refine wnil ?_
          refine hK60 _ _ ?_
          clear hK60 K60
          refine cB rfl hit (fun g4 => ?_) (fun g4 => ?_)
          · refine wp_seq_k (fun K61 hK61 => ?_)
            refine reg ?_
            refine sq rfl (do_assign ck) ?_
            refine wnil ?_
            refine hK61 _ _ ?_
            clear hK61 K61
            refine wp_ret ?_
            refine inBR ?_
            refine thenR ?_
            exact hr' _ _ (hr _ _ (hF _ _ hit)) 
          refine wp_skip ?_
          refine inBN ?_
          refine hK53 _ _ ?_
          clear hK53 K53
          simp at g4
          refine reg ?_
          refine sq rfl (do_move (tm rfl (nx rfl (nx rfl c59_10)))) ?_
          refine sq rfl (do_inc (tm rfl hit) ck (by omega)) ?_
          refine sq rfl (do_assign (tm rfl hit)) ?_
          refine cutL ?_
          intro τ62 e62
          have c62_1 := (congrFun e62 1).trans (nx rfl (nx rfl (nx rfl (nx rfl (nx rfl c59_1)))))
          have c62_7 := (congrFun e62 7).trans (nx rfl (nx rfl (nx rfl (nx rfl (nx rfl c59_7)))))
          have c62_9 := (congrFun e62 9).trans (nx rfl (nx rfl (nx rfl (nx rfl (nx rfl c59_9)))))
          have c62_10 := (congrFun e62 10).trans hit
          clear e62
          refine wnil ?_
          exact hn' (rows[i].length - (j + 1)) _ _ (by omega) ⟨rfl, j + 1, z + (rows[i][j].size : Int), rfl, by omega, by omega, by omega, c62_1, c62_7, c62_9, c62_10⟩
        · refine cF rfl c52_86 (by simpa using h') ?_
          refine wp_exit ?_
          refine thenE ?_
          exact hx' _ _ ⟨rfl, z, hz0, hz, c52_1, c52_7, c52_9⟩
      clear u1 u7 u9
      rintro ν _ ⟨rfl, z, hz0, hz, u1, u7, u9⟩
      refine inBN ?_
      refine hK39 _ _ ?_
      clear hK39 K39
      refine reg ?_
      refine sq rfl (do_move (tm rfl u9)) ?_
      refine sq rfl (do_inc (tm rfl hit) ck (by omega)) ?_
      refine sq rfl (do_assign (tm rfl hit)) ?_
      refine wnil ?_
      exact hn (rows.length - (i + 1)) _ _ (by omega) ⟨rfl, i + 1, z, rfl, by omega, hz0, hz, (nx rfl (nx rfl (nx rfl u1))), (nx rfl (nx rfl (nx rfl u7))), hit⟩
    · refine cF rfl c38_61 (by simpa using h) ?_
      refine wp_exit ?_
      refine thenE ?_
      exact hx _ _ rfl
  rintro τ _ rfl
  refine hK34 _ _ ?_
  clear hK34 K34
  refine wp_seq_k (fun K63 hK63 => ?_)
  refine reg ?_
  refine sq rfl (do_assign ck) ?_
  refine wnil ?_
  refine hK63 _ _ ?_
  clear hK63 K63
  refine wp_ret ?_
  exact hF _ _ hit

theorem match17 (w : World) (a0 a1 a2 : Option Addr) (n0 n1 n2 c0 c1 c2 : Nat) :
    Calls Try.prog 17 #[.slice a0 n0 c0, .slice a1 n1 c1, .slice a2 n2 c2] w fun e w' => e = .returned (.bool (decide (n1 = n0 ∧ n2 = n0))) ∧ w' = w := by
  refine enter (args := [.slice a0 n0 c0, .slice a1 n1 c1, .slice a2 n2 c2]) Try.func17 rfl Try.ntmps17 rfl ?_
  generalize hQ : bodyPost Try.prog Try.f17 _ = Q
  have hF : ∀ τ b, τ 6 = .bool b → b = decide (n1 = n0 ∧ n2 = n0) → Q .ret (Fr 19 τ) w := by
    intro τ b h hb
    rw [← hQ]
    exact ret1 rfl rfl h ⟨by rw [hb], rfl⟩
  clear hQ
  have s0 : frame0 [Value.slice a0 n0 c0, .slice a1 n1 c1, .slice a2 n2 c2] 0 = .slice a0 n0 c0 := rfl
  have s1 : frame0 [Value.slice a0 n0 c0, .slice a1 n1 c1, .slice a2 n2 c2] 1 = .slice a1 n1 c1 := rfl
  have s2 : frame0 [Value.slice a0 n0 c0, .slice a1 n1 c1, .slice a2 n2 c2] 2 = .slice a2 n2 c2 := rfl
  generalize frame0 [Value.slice a0 n0 c0, .slice a1 n1 c1, .slice a2 n2 c2] = σ at *
  refine wp_seq_k (fun K64 hK64 => ?_)
  refine reg ?_
  refine sq rfl (do_assign ck) ?_
  refine wnil ?_
  refine hK64 _ _ ?_
  clear hK64 K64
  by_cases q1 : (n1 : Int) = (n0 : Int)
  · refine wp_seq_k (fun K65 hK65 => ?_)
    refine reg ?_
    refine sq rfl (do_move (tm rfl (nx rfl s1))) ?_
    refine sq rfl (do_len Try.underlying31 (tm rfl hit)) ?_
    refine sq rfl (do_move (tm rfl (nx rfl (nx rfl (nx rfl s0))))) ?_
    refine sq rfl (do_len Try.underlying30 (tm rfl hit)) ?_
    refine sq rfl (do_eqlT (tm rfl (nx rfl (nx rfl hit))) (tm rfl hit) q1) ?_
    refine sq rfl (do_move (tm rfl hit)) ?_
    refine sqg rfl rfl hit rfl (do_move (tm rfl (nx rfl (nx rfl (nx rfl (nx rfl (nx rfl (nx rfl (nx rfl s2))))))))) ?_
    refine sqg rfl rfl (nx rfl hit) rfl (do_len Try.underlying32 (tm rfl hit)) ?_
    refine sqg rfl rfl (nx rfl (nx rfl hit)) rfl (do_move (tm rfl (nx rfl (nx rfl (nx rfl (nx rfl (nx rfl (nx rfl (nx rfl (nx rfl (nx rfl s0))))))))))) ?_
    refine sqg rfl rfl (nx rfl (nx rfl (nx rfl hit))) rfl (do_len Try.underlying30 (tm rfl hit)) ?_
    refine sqg rfl rfl (nx rfl (nx rfl (nx rfl (nx rfl hit)))) rfl (do_eql (tm rfl (nx rfl (nx rfl hit))) (tm rfl hit)) ?_
    refine sq rfl (do_pickT (tm rfl (nx rfl (nx rfl (nx rfl (nx rfl (nx rfl hit)))))) (tm rfl hit)) ?_
    refine sq rfl (do_assign (tm rfl hit)) ?_
    refine cutL ?_
    intro τ66 e66
    have c66_0 := (congrFun e66 0).trans (nx rfl (nx rfl (nx rfl (nx rfl (nx rfl (nx rfl (nx rfl (nx rfl (nx rfl (nx rfl (nx rfl (nx rfl (nx rfl (nx rfl s0))))))))))))))
    have c66_1 := (congrFun e66 1).trans (nx rfl (nx rfl (nx rfl (nx rfl (nx rfl (nx rfl (nx rfl (nx rfl (nx rfl (nx rfl (nx rfl (nx rfl (nx rfl (nx rfl s1))))))))))))))
    have c66_2 := (congrFun e66 2).trans (nx rfl (nx rfl (nx rfl (nx rfl (nx rfl (nx rfl (nx rfl (nx rfl (nx rfl (nx rfl (nx rfl (nx rfl (nx rfl (nx rfl s2))))))))))))))
    have c66_6 := (congrFun e66 6).trans hit
    clear e66
    refine wnil ?_
    refine hK65 _ _ ?_
    clear hK65 K65
    refine wp_ret ?_
    have e1 : n1 = n0 := by omega
    subst e1
    refine hF _ _ c66_6 ?_
    rw [Bool.eq_iff_iff]
    simp
    omega
  · refine wp_seq_k (fun K67 hK67 => ?_)
    refine reg ?_
    refine sq rfl (do_move (tm rfl (nx rfl s1))) ?_
    refine sq rfl (do_len Try.underlying31 (tm rfl hit)) ?_
    refine sq rfl (do_move (tm rfl (nx rfl (nx rfl (nx rfl s0))))) ?_
    refine sq rfl (do_len Try.underlying30 (tm rfl hit)) ?_
    refine sq rfl (do_eqlF (tm rfl (nx rfl (nx rfl hit))) (tm rfl hit) q1) ?_
    refine sq rfl (do_move (tm rfl hit)) ?_
    refine sqs rfl rfl hit rfl rfl ?_
    refine sqs rfl rfl (nx rfl hit) rfl rfl ?_
    refine sqs rfl rfl (nx rfl (nx rfl hit)) rfl rfl ?_
    refine sqs rfl rfl (nx rfl (nx rfl (nx rfl hit))) rfl rfl ?_
    refine sqs rfl rfl (nx rfl (nx rfl (nx rfl (nx rfl hit)))) rfl rfl ?_
    refine sq rfl (do_pickF (tm rfl (nx rfl (nx rfl (nx rfl (nx rfl (nx rfl hit)))))) ck) ?_
    refine sq rfl (do_assign (tm rfl hit)) ?_
    refine cutL ?_
    intro τ68 e68
    have c68_0 := (congrFun e68 0).trans (nx rfl (nx rfl (nx rfl (nx rfl (nx rfl (nx rfl (nx rfl (nx rfl (nx rfl (nx rfl (nx rfl (nx rfl (nx rfl (nx rfl s0))))))))))))))
    have c68_1 := (congrFun e68 1).trans (nx rfl (nx rfl (nx rfl (nx rfl (nx rfl (nx rfl (nx rfl (nx rfl (nx rfl (nx rfl (nx rfl (nx rfl (nx rfl (nx rfl s1))))))))))))))
    have c68_2 := (congrFun e68 2).trans (nx rfl (nx rfl (nx rfl (nx rfl (nx rfl (nx rfl (nx rfl (nx rfl (nx rfl (nx rfl (nx rfl (nx rfl (nx rfl (nx rfl s2))))))))))))))
    have c68_6 := (congrFun e68 6).trans hit
    clear e68
    refine wnil ?_
    refine hK67 _ _ ?_
    clear hK67 K67
    refine wp_ret ?_
    have e1 : ¬ n1 = n0 := by omega
    exact hF _ _ c68_6 (by simp [e1])
end Go.Proofs.Qxb6000003a
