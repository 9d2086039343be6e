/-
  histShape, rank, zzCloneInts.
-/
import Derived.Test.Qxb6001364aV1
namespace Go.Proofs.Qxb6001364a
open Go.Fra Go.RowKit
set_option maxRecDepth 100000
set_option linter.unusedVariables false

theorem shape12 (w : World) (n : Int) (v1 v2 v3 : Value) (nd it : List Int) (wr : List Bool) (h1 : IntR w v1 nd) (h2 : IntR w v2 it) (h3 : BoolR w v3 wr) (l1 : nd.length ≤ 1048576) :
    Calls Try.prog 12 #[.int .i64 n, v1, v2, v3] w fun e w' => ∃ b, e = .returned (.bool b) ∧ w' = w ∧ (b = true → it.length = nd.length ∧ wr.length = nd.length ∧ ∀ v ∈ nd, 0 ≤ v ∧ v < n) := by
  obtain ⟨a1, c1, rfl, hc1⟩ := h1
  obtain ⟨a2, c2, rfl, hc2⟩ := h2
  obtain ⟨a3, c3, rfl, hc3⟩ := h3
  refine enter (args := [.int .i64 n, .slice a1 nd.length c1, .slice a2 it.length c2, .slice a3 wr.length c3]) Try.func12 rfl Try.ntmps12 rfl ?_
  generalize hQ : bodyPost Try.prog Try.f12 _ = Q
  have hF : ∀ τ, τ 8 = .bool false → Q .ret (Fr 37 τ) w := by
    intro τ h
    rw [← hQ]
    exact ret1 rfl rfl h ⟨false, rfl, rfl, fun h => by cases h⟩
  have s0 : frame0 [Value.int .i64 n, .slice a1 nd.length c1, .slice a2 it.length c2, .slice a3 wr.length c3] 0 = .int .i64 n := rfl
  have s1 : frame0 [Value.int .i64 n, .slice a1 nd.length c1, .slice a2 it.length c2, .slice a3 wr.length c3] 1 = .slice a1 nd.length c1 := rfl
  have s2 : frame0 [Value.int .i64 n, .slice a1 nd.length c1, .slice a2 it.length c2, .slice a3 wr.length c3] 2 = .slice a2 it.length c2 := rfl
  have s3 : frame0 [Value.int .i64 n, .slice a1 nd.length c1, .slice a2 it.length c2, .slice a3 wr.length c3] 3 = .slice a3 wr.length c3 := rfl
  generalize frame0 [Value.int .i64 n, .slice a1 nd.length c1, .slice a2 it.length c2, .slice a3 wr.length c3] = σ at *
  refine wp_seq_k (fun K1 hK1 => ?_)
  refine reg ?_
  refine sq rfl (do_assign ck) ?_
  refine wnil ?_
  refine hK1 _ _ ?_
  clear hK1
  by_cases q1 : ((it.length : Int) ≠ (nd.length : Int))
  · refine wp_seq_k (fun K2 hK2 => ?_)
    refine wp_seq_k (fun K3 hK3 => ?_)
    refine reg ?_
    refine sq rfl (do_move (tm rfl (nx rfl s2))) ?_
    refine sq rfl (do_len Try.underlying22 (tm rfl hit)) ?_
    refine sq rfl (do_move (tm rfl (nx rfl (nx rfl (nx rfl s1))))) ?_
    refine sq rfl (do_len Try.underlying22 (tm rfl hit)) ?_
    refine sq rfl (do_neqT (tm rfl (nx rfl (nx rfl hit))) (tm rfl hit) q1) ?_
    refine sq rfl (do_move (tm rfl hit)) ?_
    refine sqs rfl rfl hit rfl rfl ?_
    refine sqs rfl rfl (nx rfl hit) rfl rfl ?_
    refine sqs rfl rfl (nx rfl (nx rfl hit)) rfl rfl ?_
    refine sqs rfl rfl (nx rfl (nx rfl (nx rfl hit))) rfl rfl ?_
    refine sqs rfl rfl (nx rfl (nx rfl (nx rfl (nx rfl hit)))) rfl rfl ?_
    refine sq rfl (do_pickT (tm rfl (nx rfl (nx rfl (nx rfl (nx rfl (nx rfl hit)))))) ck) ?_
    refine cutL ?_
    intro τ4 e4
    have c4_0 := (congrFun e4 0).trans (nx rfl (nx rfl (nx rfl (nx rfl (nx rfl (nx rfl (nx rfl (nx rfl (nx rfl (nx rfl (nx rfl (nx rfl (nx rfl s0)))))))))))))
    have c4_1 := (congrFun e4 1).trans (nx rfl (nx rfl (nx rfl (nx rfl (nx rfl (nx rfl (nx rfl (nx rfl (nx rfl (nx rfl (nx rfl (nx rfl (nx rfl s1)))))))))))))
    have c4_2 := (congrFun e4 2).trans (nx rfl (nx rfl (nx rfl (nx rfl (nx rfl (nx rfl (nx rfl (nx rfl (nx rfl (nx rfl (nx rfl (nx rfl (nx rfl s2)))))))))))))
    have c4_3 := (congrFun e4 3).trans (nx rfl (nx rfl (nx rfl (nx rfl (nx rfl (nx rfl (nx rfl (nx rfl (nx rfl (nx rfl (nx rfl (nx rfl (nx rfl s3)))))))))))))
    have c4_8 := (congrFun e4 8).trans (nx rfl (nx rfl (nx rfl (nx rfl (nx rfl (nx rfl (nx rfl (nx rfl (nx rfl (nx rfl (nx rfl (nx rfl hit))))))))))))
    have c4_22 := (congrFun e4 22).trans hit
    clear e4
    refine wnil ?_
    refine hK3 _ _ ?_
    clear hK3
    refine cB rfl c4_22 (fun g1 => ?_) (fun g1 => ?_)
    · refine wp_seq_k (fun K5 hK5 => ?_)
      refine reg ?_
      refine sq rfl (do_assign ck) ?_
      refine wnil ?_
      refine hK5 _ _ ?_
      clear hK5
      refine wp_ret ?_
      refine thenR ?_
      exact hF _ hit 
    refine wp_skip ?_
    refine hK2 _ _ ?_
    clear hK2
    cases g1
  refine wp_seq_k (fun K6 hK6 => ?_)
  refine wp_seq_k (fun K7 hK7 => ?_)
  refine reg ?_
  refine sq rfl (do_move (tm rfl (nx rfl s2))) ?_
  refine sq rfl (do_len Try.underlying22 (tm rfl hit)) ?_
  refine sq rfl (do_move (tm rfl (nx rfl (nx rfl (nx rfl s1))))) ?_
  refine sq rfl (do_len Try.underlying22 (tm rfl hit)) ?_
  refine sq rfl (do_neqF (tm rfl (nx rfl (nx rfl hit))) (tm rfl hit) q1) ?_
  refine sq rfl (do_move (tm rfl hit)) ?_
  refine sqg rfl rfl hit rfl (do_move (tm rfl (nx rfl (nx rfl (nx rfl (nx rfl (nx rfl (nx rfl (nx rfl s3))))))))) ?_
  refine sqg rfl rfl (nx rfl hit) rfl (do_len Try.underlying23 (tm rfl hit)) ?_
  refine sqg rfl rfl (nx rfl (nx rfl hit)) rfl (do_move (tm rfl (nx rfl (nx rfl (nx rfl (nx rfl (nx rfl (nx rfl (nx rfl (nx rfl (nx rfl s1))))))))))) ?_
  refine sqg rfl rfl (nx rfl (nx rfl (nx rfl hit))) rfl (do_len Try.underlying22 (tm rfl hit)) ?_
  refine sqg rfl rfl (nx rfl (nx rfl (nx rfl (nx rfl hit)))) rfl (do_neq (tm rfl (nx rfl (nx rfl hit))) (tm rfl hit)) ?_
  refine sq rfl (do_pickF (tm rfl (nx rfl (nx rfl (nx rfl (nx rfl (nx rfl hit)))))) (tm rfl hit)) ?_
  refine cutL ?_
  intro τ8 e8
  have c8_0 := (congrFun e8 0).trans (nx rfl (nx rfl (nx rfl (nx rfl (nx rfl (nx rfl (nx rfl (nx rfl (nx rfl (nx rfl (nx rfl (nx rfl (nx rfl s0)))))))))))))
  have c8_1 := (congrFun e8 1).trans (nx rfl (nx rfl (nx rfl (nx rfl (nx rfl (nx rfl (nx rfl (nx rfl (nx rfl (nx rfl (nx rfl (nx rfl (nx rfl s1)))))))))))))
  have c8_2 := (congrFun e8 2).trans (nx rfl (nx rfl (nx rfl (nx rfl (nx rfl (nx rfl (nx rfl (nx rfl (nx rfl (nx rfl (nx rfl (nx rfl (nx rfl s2)))))))))))))
  have c8_3 := (congrFun e8 3).trans (nx rfl (nx rfl (nx rfl (nx rfl (nx rfl (nx rfl (nx rfl (nx rfl (nx rfl (nx rfl (nx rfl (nx rfl (nx rfl s3)))))))))))))
  have c8_8 := (congrFun e8 8).trans (nx rfl (nx rfl (nx rfl (nx rfl (nx rfl (nx rfl (nx rfl (nx rfl (nx rfl (nx rfl (nx rfl (nx rfl hit))))))))))))
  have c8_22 := (congrFun e8 22).trans hit
  clear e8
  refine wnil ?_
  refine hK7 _ _ ?_
  clear hK7
  refine cB rfl c8_22 (fun g1 => ?_) (fun g1 => ?_)
  · refine wp_seq_k (fun K9 hK9 => ?_)
    refine reg ?_
    refine sq rfl (do_assign ck) ?_
    refine wnil ?_
    refine hK9 _ _ ?_
    clear hK9
    refine wp_ret ?_
    refine thenR ?_
    exact hF _ hit 
  refine wp_skip ?_
  refine hK6 _ _ ?_
  clear hK6
  simp at g1
  have q1' : it.length = nd.length := by omega
  have q2' : wr.length = nd.length := by omega
  refine wp_seq_k (fun K10 hK10 => ?_)
  refine wp_seq_k (fun K11 hK11 => ?_)
  refine reg ?_
  refine sq rfl (do_move (tm rfl c8_1)) ?_
  refine sq rfl (do_len Try.underlying22 (tm rfl hit)) ?_
  refine sq rfl (do_move (v := .int .i64 ((0 : Nat) : Int)) rfl) ?_
  refine wnil ?_
  refine hK11 _ _ ?_
  clear hK11
  refine forLoop (N := 37) (fun k τ wi => w = wi ∧ ∃ i : Nat, k = nd.length - i ∧ i ≤ nd.length ∧ τ 0 = .int .i64 n ∧ τ 23 = .slice a1 nd.length c1 ∧ τ 24 = .int .i64 (nd.length : Int) ∧ τ 25 = .int .i64 (i : Int) ∧ ∀ j (h : j < nd.length), j < i → 0 ≤ nd[j] ∧ nd[j] < n)
    (fun τ wi => w = wi ∧ ∀ v ∈ nd, 0 ≤ v ∧ v < n) nd.length ?_ ?_ ?_
  · exact ⟨rfl, 0, rfl, Nat.zero_le _, (nx rfl (nx rfl (nx rfl c8_0))), (nx rfl (nx rfl hit)), (nx rfl hit), hit, fun j _ h => by omega⟩
  · clear s0 s1 s2 s3
    rintro Q' k τ wi hnn hx hr ⟨rfl, i, rfl, hi, t0, t23, t24, t25, hv⟩
    refine wp_seq_k (fun K12 hK12 => ?_)
    refine reg ?_
    refine sq rfl (do_lss (tm rfl t25) (tm rfl t24)) ?_
    refine wnil ?_
    refine hK12 _ _ ?_
    clear hK12
    by_cases h : i < nd.length
    · refine wp_seq_k (fun K13 hK13 => ?_)
      refine cT rfl hit (by simpa using h) ?_
      refine wp_skip ?_
      refine hK13 _ _ ?_
      clear hK13
      obtain ⟨b, o, rfl, hc⟩ := hc1 i h
      refine wp_seq_k (fun K14 hK14 => ?_)
      refine wp_block ?_
      refine wp_seq_k (fun K15 hK15 => ?_)
      refine reg ?_
      refine sq rfl (io22 (tm rfl (nx rfl t23)) (tm rfl (nx rfl t25)) (by omega)) ?_
      refine sq rfl (do_load T3 rfl (tm rfl hit) hc) ?_
      refine sq rfl (do_assign (tm rfl hit)) ?_
      refine cutL ?_
      intro τ16 e16
      have c16_0 := (congrFun e16 0).trans (nx rfl (nx rfl (nx rfl (nx rfl t0))))
      have c16_10 := (congrFun e16 10).trans hit
      have c16_23 := (congrFun e16 23).trans (nx rfl (nx rfl (nx rfl (nx rfl t23))))
      have c16_24 := (congrFun e16 24).trans (nx rfl (nx rfl (nx rfl (nx rfl t24))))
      have c16_25 := (congrFun e16 25).trans (nx rfl (nx rfl (nx rfl (nx rfl t25))))
      clear e16
      refine wnil ?_
      refine hK15 _ _ ?_
      clear hK15
      by_cases e1 : nd[i] < 0
      · refine wp_seq_k (fun K17 hK17 => ?_)
        refine reg ?_
        refine sq rfl (do_move (tm rfl c16_10)) ?_
        refine sq rfl (do_lssT (tm rfl hit) ck e1) ?_
        refine sq rfl (do_move (tm rfl hit)) ?_
        refine sqs rfl rfl hit rfl rfl ?_
        refine sqs rfl rfl (nx rfl hit) rfl rfl ?_
        refine sqs rfl rfl (nx rfl (nx rfl hit)) rfl rfl ?_
        refine sq rfl (do_pickT (tm rfl (nx rfl (nx rfl (nx rfl hit)))) ck) ?_
        refine cutL ?_
        intro τ18 e18
        have c18_0 := (congrFun e18 0).trans (nx rfl (nx rfl (nx rfl (nx rfl (nx rfl (nx rfl (nx rfl c16_0)))))))
        have c18_10 := (congrFun e18 10).trans (nx rfl (nx rfl (nx rfl (nx rfl (nx rfl (nx rfl (nx rfl c16_10)))))))
        have c18_23 := (congrFun e18 23).trans (nx rfl (nx rfl (nx rfl (nx rfl (nx rfl (nx rfl (nx rfl c16_23)))))))
        have c18_24 := (congrFun e18 24).trans (nx rfl (nx rfl (nx rfl (nx rfl (nx rfl (nx rfl (nx rfl c16_24)))))))
        have c18_25 := (congrFun e18 25).trans (nx rfl (nx rfl (nx rfl (nx rfl (nx rfl (nx rfl (nx rfl c16_25)))))))
        have c18_35 := (congrFun e18 35).trans hit
        clear e18
        refine wnil ?_
        refine hK17 _ _ ?_
        clear hK17
        refine cB rfl c18_35 (fun g2 => ?_) (fun g2 => ?_)
        · refine wp_seq_k (fun K19 hK19 => ?_)
          refine reg ?_
          refine sq rfl (do_assign ck) ?_
          refine wnil ?_
          refine hK19 _ _ ?_
          clear hK19
          refine wp_ret ?_
          refine inBR ?_
          refine thenR ?_
          exact hr _ _ (hF _ hit) 
        refine wp_skip ?_
        refine inBN ?_
        refine hK14 _ _ ?_
        clear hK14
        cases g2
      · refine wp_seq_k (fun K20 hK20 => ?_)
        refine reg ?_
        refine sq rfl (do_move (tm rfl c16_10)) ?_
        refine sq rfl (do_lssF (tm rfl hit) ck e1) ?_
        refine sq rfl (do_move (tm rfl hit)) ?_
        refine sqg rfl rfl hit rfl (do_move (tm rfl (nx rfl (nx rfl (nx rfl c16_10))))) ?_
        refine sqg rfl rfl (nx rfl hit) rfl (do_move (tm rfl (nx rfl (nx rfl (nx rfl (nx rfl c16_0)))))) ?_
        refine sqg rfl rfl (nx rfl (nx rfl hit)) rfl (do_geq (tm rfl (nx rfl hit)) (tm rfl hit)) ?_
        refine sq rfl (do_pickF (tm rfl (nx rfl (nx rfl (nx rfl hit)))) (tm rfl hit)) ?_
        refine cutL ?_
        intro τ21 e21
        have c21_0 := (congrFun e21 0).trans (nx rfl (nx rfl (nx rfl (nx rfl (nx rfl (nx rfl (nx rfl c16_0)))))))
        have c21_10 := (congrFun e21 10).trans (nx rfl (nx rfl (nx rfl (nx rfl (nx rfl (nx rfl (nx rfl c16_10)))))))
        have c21_23 := (congrFun e21 23).trans (nx rfl (nx rfl (nx rfl (nx rfl (nx rfl (nx rfl (nx rfl c16_23)))))))
        have c21_24 := (congrFun e21 24).trans (nx rfl (nx rfl (nx rfl (nx rfl (nx rfl (nx rfl (nx rfl c16_24)))))))
        have c21_25 := (congrFun e21 25).trans (nx rfl (nx rfl (nx rfl (nx rfl (nx rfl (nx rfl (nx rfl c16_25)))))))
        have c21_35 := (congrFun e21 35).trans hit
        clear e21
        refine wnil ?_
        refine hK20 _ _ ?_
        clear hK20
        refine cB rfl c21_35 (fun g2 => ?_) (fun g2 => ?_)
        · refine wp_seq_k (fun K22 hK22 => ?_)
          refine reg ?_
          refine sq rfl (do_assign ck) ?_
          refine wnil ?_
          refine hK22 _ _ ?_
          clear hK22
          refine wp_ret ?_
          refine inBR ?_
          refine thenR ?_
          exact hr _ _ (hF _ hit) 
        refine wp_skip ?_
        refine inBN ?_
        refine hK14 _ _ ?_
        clear hK14
        simp at g2
        refine reg ?_
        refine sq rfl (do_inc (tm rfl c21_25) ck (by omega)) ?_
        refine sq rfl (do_move (tm rfl hit)) ?_
        refine wnil ?_
        refine hnn (nd.length - (i + 1)) _ _ (by omega) ⟨rfl, i + 1, rfl, by omega, (nx rfl (nx rfl c21_0)), (nx rfl (nx rfl c21_23)), (nx rfl (nx rfl c21_24)), hit, fun j hj hji => ?_⟩
        rcases Nat.lt_or_ge j i with h' | h'
        · exact hv j hj h'
        · obtain rfl : j = i := by omega
          exact ⟨by omega, g2⟩
    · refine wp_seq_k (fun K23 hK23 => ?_)
      refine cF rfl hit (by simpa using h) ?_
      refine wp_exit ?_
      refine thenE ?_
      refine hx _ _ ⟨rfl, fun s hs => ?_⟩
      obtain ⟨j, hj, rfl⟩ := List.mem_iff_getElem.1 hs
      exact hv j hj (by omega)
  clear s0 s1 s2 s3
  rintro τ _ ⟨rfl, hv⟩
  refine hK10 _ _ ?_
  clear hK10
  refine wp_seq_k (fun K24 hK24 => ?_)
  refine reg ?_
  refine sq rfl (do_assign ck) ?_
  refine wnil ?_
  refine hK24 _ _ ?_
  clear hK24
  refine wp_ret ?_
  rw [← hQ]
  exact ret1 rfl rfl hit ⟨true, rfl, rfl, fun _ => ⟨q1', q2', hv⟩⟩

/-- rk holds the place of each node of pm. -/
def RankOf (n : Nat) (pm rk : List Int) : Prop :=
  pm.length = n ∧ rk.length = n ∧ ∀ i (h : i < pm.length), 0 ≤ pm[i] ∧ pm[i] < (n : Int) ∧ rk[pm[i].toNat]? = some (i : Int)

theorem rank13 (w : World) (n : Nat) (v1 : Value) (pm : List Int) (h1 : IntR w v1 pm) (hn : n ≤ 65536) :
    Calls Try.prog 13 #[.int .i64 (n : Int), v1] w fun e w' => ∃ v b, e = .returned (.tuple #[v, .bool b]) ∧ Below w.heap.size w w' ∧
      (b = true → ∃ rk, RankOf n pm rk ∧ v = .slice (some ⟨w.heap.size, 0, none⟩) n n ∧ Blk w' w.heap.size 3 (ints rk)) := by
  obtain ⟨a1, c1, rfl, hc1⟩ := h1
  refine enter (args := [.int .i64 (n : Int), .slice a1 pm.length c1]) Try.func13 rfl Try.ntmps13 rfl ?_
  generalize hQ : bodyPost Try.prog Try.f13 _ = Q
  have hF : ∀ τ w' v, τ 4 = v → τ 5 = .bool false → Below w.heap.size w w' → Q .ret (Fr 51 τ) w' := by
    intro τ w' v h h' hb
    rw [← hQ]
    exact ret2 rfl rfl rfl h h' ⟨_, false, rfl, hb, fun h => by cases h⟩
  have s0 : frame0 [Value.int .i64 (n : Int), .slice a1 pm.length c1] 0 = .int .i64 (n : Int) := rfl
  have s1 : frame0 [Value.int .i64 (n : Int), .slice a1 pm.length c1] 1 = .slice a1 pm.length c1 := rfl
  generalize frame0 [Value.int .i64 (n : Int), .slice a1 pm.length c1] = σ at *
  refine wp_seq_k (fun K25 hK25 => ?_)
  refine reg ?_
  refine sq rfl (do_assign ck) ?_
  refine sq rfl (do_assign ck) ?_
  refine wnil ?_
  refine hK25 _ _ ?_
  clear hK25
  by_cases q1 : ((pm.length : Int) ≠ (n : Int))
  · refine wp_seq_k (fun K26 hK26 => ?_)
    refine wp_seq_k (fun K27 hK27 => ?_)
    refine reg ?_
    refine sq rfl (do_move (tm rfl (nx rfl (nx rfl s1)))) ?_
    refine sq rfl (do_len Try.underlying22 (tm rfl hit)) ?_
    refine sq rfl (do_move (tm rfl (nx rfl (nx rfl (nx rfl (nx rfl s0)))))) ?_
    refine sq rfl (do_neqT (tm rfl (nx rfl hit)) (tm rfl hit) q1) ?_
    refine cutL ?_
    intro τ28 e28
    have c28_0 := (congrFun e28 0).trans (nx rfl (nx rfl (nx rfl (nx rfl (nx rfl (nx rfl s0))))))
    have c28_1 := (congrFun e28 1).trans (nx rfl (nx rfl (nx rfl (nx rfl (nx rfl (nx rfl s1))))))
    have c28_4 := (congrFun e28 4).trans (nx rfl (nx rfl (nx rfl (nx rfl (nx rfl hit)))))
    have c28_5 := (congrFun e28 5).trans (nx rfl (nx rfl (nx rfl (nx rfl hit))))
    have c28_13 := (congrFun e28 13).trans hit
    clear e28
    refine wnil ?_
    refine hK27 _ _ ?_
    clear hK27
    refine cT rfl c28_13 rfl ?_
    refine wp_seq_k (fun K29 hK29 => ?_)
    refine reg ?_
    refine sq rfl (do_assign ck) ?_
    refine sq rfl (do_assign ck) ?_
    refine wnil ?_
    refine hK29 _ _ ?_
    clear hK29
    refine wp_ret ?_
    refine thenR ?_
    exact hF _ _ _ (nx rfl hit) hit (Below.refl _ _)
  refine wp_seq_k (fun K30 hK30 => ?_)
  refine wp_seq_k (fun K31 hK31 => ?_)
  refine reg ?_
  refine sq rfl (do_move (tm rfl (nx rfl (nx rfl s1)))) ?_
  refine sq rfl (do_len Try.underlying22 (tm rfl hit)) ?_
  refine sq rfl (do_move (tm rfl (nx rfl (nx rfl (nx rfl (nx rfl s0)))))) ?_
  refine sq rfl (do_neqF (tm rfl (nx rfl hit)) (tm rfl hit) q1) ?_
  refine cutL ?_
  intro τ32 e32
  have c32_0 := (congrFun e32 0).trans (nx rfl (nx rfl (nx rfl (nx rfl (nx rfl (nx rfl s0))))))
  have c32_1 := (congrFun e32 1).trans (nx rfl (nx rfl (nx rfl (nx rfl (nx rfl (nx rfl s1))))))
  have c32_4 := (congrFun e32 4).trans (nx rfl (nx rfl (nx rfl (nx rfl (nx rfl hit)))))
  have c32_5 := (congrFun e32 5).trans (nx rfl (nx rfl (nx rfl (nx rfl hit))))
  have c32_13 := (congrFun e32 13).trans hit
  clear e32
  refine wnil ?_
  refine hK31 _ _ ?_
  clear hK31
  refine cF rfl c32_13 rfl ?_
  refine wp_skip ?_
  refine hK30 _ _ ?_
  clear hK30
  have hpl : pm.length = n := by omega
  refine wp_seq_k (fun K33 hK33 => ?_)
  refine reg ?_
  refine sq rfl (do_move (tm rfl c32_0)) ?_
  refine sq rfl (mk22 (tm rfl hit) (tm rfl hit) (by omega)) ?_
  refine sq rfl (do_assign (tm rfl hit)) ?_
  refine wnil ?_
  refine hK33 _ _ ?_
  clear hK33
  refine wp_seq_k (fun K34 hK34 => ?_)
  refine wp_seq_k (fun K35 hK35 => ?_)
  refine reg ?_
  refine sq rfl (do_assign (v := .int .i64 ((0 : Nat) : Int)) rfl) ?_
  refine cutL ?_
  intro τ36 e36
  have c36_0 := (congrFun e36 0).trans (nx rfl (nx rfl (nx rfl (nx rfl c32_0))))
  have c36_1 := (congrFun e36 1).trans (nx rfl (nx rfl (nx rfl (nx rfl c32_1))))
  have c36_4 := (congrFun e36 4).trans (nx rfl (nx rfl (nx rfl (nx rfl c32_4))))
  have c36_5 := (congrFun e36 5).trans (nx rfl (nx rfl (nx rfl (nx rfl c32_5))))
  have c36_6 := (congrFun e36 6).trans (nx rfl hit)
  have c36_7 := (congrFun e36 7).trans hit
  clear e36
  refine wnil ?_
  refine hK35 _ _ ?_
  clear hK35
  refine forLoop (N := 51) (fun k τ wi => ∃ i rk, k = n - i ∧ i ≤ n ∧ τ 0 = .int .i64 (n : Int) ∧ τ 1 = .slice a1 pm.length c1 ∧ τ 6 = .slice (some ⟨w.heap.size, 0, none⟩) n n ∧ τ 7 = .int .i64 (i : Int) ∧
      Blk wi w.heap.size 3 (ints rk) ∧ rk.length = n ∧ Below w.heap.size w wi)
    (fun τ wi => ∃ rk, τ 0 = .int .i64 (n : Int) ∧ τ 1 = .slice a1 pm.length c1 ∧ τ 6 = .slice (some ⟨w.heap.size, 0, none⟩) n n ∧
      Blk wi w.heap.size 3 (ints rk) ∧ rk.length = n ∧ Below w.heap.size w wi) n ?_ ?_ ?_
  · refine ⟨0, List.replicate n 0, rfl, Nat.zero_le _, c36_0, c36_1, c36_6, c36_7, ?_, by simp, (Below.refl _ _).alloc (Nat.le_refl _) _⟩
    have := Blk.new w (madeCells #[.int .i64 0] n) 3
    rw [made_list] at this
    simpa [ints] using this
  · clear s0 s1
    rintro Q' k τ wi hnn hx hr ⟨i, rk, rfl, hi, t0, t1, t6, t7, hB, hrl, hbel⟩
    refine wp_seq_k (fun K37 hK37 => ?_)
    refine wp_seq_k (fun K38 hK38 => ?_)
    refine reg ?_
    refine sq rfl (do_move (tm rfl t7)) ?_
    refine sq rfl (do_move (tm rfl (nx rfl t0))) ?_
    refine sq rfl (do_lss (tm rfl (nx rfl hit)) (tm rfl hit)) ?_
    refine wnil ?_
    refine hK38 _ _ ?_
    clear hK38
    by_cases h : i < n
    · refine cT rfl hit (by simpa using h) ?_
      refine wp_skip ?_
      refine hK37 _ _ ?_
      clear hK37
      refine wp_seq_k (fun K39 hK39 => ?_)
      refine wp_block ?_
      refine reg ?_
      refine sq rfl (do_move (tm rfl (nx rfl (nx rfl (nx rfl t6))))) ?_
      refine sq rfl (do_move (tm rfl (nx rfl (nx rfl (nx rfl (nx rfl t7)))))) ?_
      refine sq rfl (ix22 (tm rfl (nx rfl hit)) (tm rfl hit) (by omega)) ?_
      refine sqn (do_store T3 (tm rfl hit) ck rfl (hB.cell (ints_get rk i (by omega))) (hB.frozen _)) ?_
      refine cutW ?_
      intro τ40 e40 w2 hw2
      have c40_0 := (congrFun e40 0).trans (nx rfl (nx rfl (nx rfl (nx rfl (nx rfl (nx rfl t0))))))
      have c40_1 := (congrFun e40 1).trans (nx rfl (nx rfl (nx rfl (nx rfl (nx rfl (nx rfl t1))))))
      have c40_6 := (congrFun e40 6).trans (nx rfl (nx rfl (nx rfl (nx rfl (nx rfl (nx rfl t6))))))
      have c40_7 := (congrFun e40 7).trans (nx rfl (nx rfl (nx rfl (nx rfl (nx rfl (nx rfl t7))))))
      clear e40
      refine wnil ?_
      refine inBN ?_
      refine hK39 _ _ ?_
      clear hK39
      refine reg ?_
      refine sq rfl (do_move (tm rfl c40_7)) ?_
      refine sq rfl (do_inc (tm rfl hit) ck (by omega)) ?_
      refine sq rfl (do_assign (tm rfl hit)) ?_
      refine wnil ?_
      refine hnn (n - (i + 1)) _ _ (by omega) ⟨i + 1, rk.set i (-1), rfl, by omega, (nx rfl (nx rfl (nx rfl c40_0))), (nx rfl (nx rfl (nx rfl c40_1))), (nx rfl (nx rfl (nx rfl c40_6))), hit, ?_, by simp [hrl], ?_⟩
      · rw [hw2]
        have := hB.set i (.int .i64 (-1))
        rwa [show (ints rk).set i (.int .i64 (-1)) = ints (rk.set i (-1)) by simp [ints, List.map_set]] at this
      · rw [hw2]; exact hbel.setCell (Nat.le_refl _) _
    · refine cF rfl hit (by simpa using h) ?_
      refine wp_exit ?_
      refine thenE ?_
      exact hx _ _ ⟨rk, (nx rfl (nx rfl (nx rfl t0))), (nx rfl (nx rfl (nx rfl t1))), (nx rfl (nx rfl (nx rfl t6))), hB, hrl, hbel⟩
  clear s0 s1
  rintro τ wi ⟨rk, t0, t1, t6, hB, hrl, hbel⟩
  refine hK34 _ _ ?_
  clear hK34
  refine wp_seq_k (fun K41 hK41 => ?_)
  refine wp_seq_k (fun K42 hK42 => ?_)
  refine reg ?_
  refine sq rfl (do_move (tm rfl t1)) ?_
  refine sq rfl (do_len Try.underlying22 (tm rfl hit)) ?_
  refine sq rfl (do_move (v := .int .i64 ((0 : Nat) : Int)) rfl) ?_
  refine wnil ?_
  refine hK42 _ _ ?_
  clear hK42
  refine forLoop (N := 51) (fun k τ wi => ∃ i rk, k = n - i ∧ i ≤ n ∧ τ 0 = .int .i64 (n : Int) ∧ τ 6 = .slice (some ⟨w.heap.size, 0, none⟩) n n ∧ τ 24 = .slice a1 pm.length c1 ∧ τ 25 = .int .i64 (pm.length : Int) ∧ τ 26 = .int .i64 (i : Int) ∧
      Blk wi w.heap.size 3 (ints rk) ∧ rk.length = n ∧ Below w.heap.size w wi ∧ ∀ j (h : j < pm.length), j < i → 0 ≤ pm[j] ∧ pm[j] < (n : Int) ∧ rk[pm[j].toNat]? = some (j : Int))
    (fun τ wi => ∃ rk, τ 6 = .slice (some ⟨w.heap.size, 0, none⟩) n n ∧ RankOf n pm rk ∧ Blk wi w.heap.size 3 (ints rk) ∧ Below w.heap.size w wi) n ?_ ?_ ?_
  · exact ⟨0, rk, rfl, Nat.zero_le _, (nx rfl (nx rfl (nx rfl t0))), (nx rfl (nx rfl (nx rfl t6))), (nx rfl (nx rfl hit)), (nx rfl hit), hit, hB, hrl, hbel, fun j _ h => by omega⟩
  · clear t0 t1 t6 hB hrl hbel
    rintro Q' k τ wi hnn hx hr ⟨i, rk, rfl, hi, t0, t6, t24, t25, t26, hB, hrl, hbel, hrk⟩
    refine wp_seq_k (fun K43 hK43 => ?_)
    refine reg ?_
    refine sq rfl (do_lss (tm rfl t26) (tm rfl t25)) ?_
    refine wnil ?_
    refine hK43 _ _ ?_
    clear hK43
    by_cases h : i < pm.length
    · refine wp_seq_k (fun K44 hK44 => ?_)
      refine cT rfl hit (by simpa using h) ?_
      refine wp_skip ?_
      refine hK44 _ _ ?_
      clear hK44
      obtain ⟨b, o, rfl, hc⟩ := hc1 i h
      rw [← hbel.cell (World.block_lt_of_cell? w _ hc)] at hc
      refine wp_seq_k (fun K45 hK45 => ?_)
      refine wp_block ?_
      refine wp_seq_k (fun K46 hK46 => ?_)
      refine reg ?_
      refine sq rfl (do_move (tm rfl (nx rfl t26))) ?_
      refine sq rfl (io22 (tm rfl (nx rfl (nx rfl t24))) (tm rfl (nx rfl (nx rfl t26))) (by omega)) ?_
      refine sq rfl (do_load T3 rfl (tm rfl hit) hc) ?_
      refine sq rfl (do_assign (tm rfl (nx rfl (nx rfl hit)))) ?_
      refine sq rfl (do_assign (tm rfl (nx rfl hit))) ?_
      refine cutL ?_
      intro τ47 e47
      have c47_0 := (congrFun e47 0).trans (nx rfl (nx rfl (nx rfl (nx rfl (nx rfl (nx rfl t0))))))
      have c47_6 := (congrFun e47 6).trans (nx rfl (nx rfl (nx rfl (nx rfl (nx rfl (nx rfl t6))))))
      have c47_8 := (congrFun e47 8).trans (nx rfl hit)
      have c47_9 := (congrFun e47 9).trans hit
      have c47_24 := (congrFun e47 24).trans (nx rfl (nx rfl (nx rfl (nx rfl (nx rfl (nx rfl t24))))))
      have c47_25 := (congrFun e47 25).trans (nx rfl (nx rfl (nx rfl (nx rfl (nx rfl (nx rfl t25))))))
      have c47_26 := (congrFun e47 26).trans (nx rfl (nx rfl (nx rfl (nx rfl (nx rfl (nx rfl t26))))))
      clear e47
      refine wnil ?_
      refine hK46 _ _ ?_
      clear hK46
      by_cases e1 : pm[i] < 0
      · refine wp_seq_k (fun K48 hK48 => ?_)
        refine wp_seq_k (fun K49 hK49 => ?_)
        refine reg ?_
        refine sq rfl (do_move (tm rfl c47_9)) ?_
        refine sq rfl (do_lssT (tm rfl hit) ck e1) ?_
        refine sq rfl (do_move (tm rfl hit)) ?_
        refine sqs rfl rfl hit rfl rfl ?_
        refine sqs rfl rfl (nx rfl hit) rfl rfl ?_
        refine sqs rfl rfl (nx rfl (nx rfl hit)) rfl rfl ?_
        refine sq rfl (do_pickT (tm rfl (nx rfl (nx rfl (nx rfl hit)))) ck) ?_
        refine sq rfl (do_move (tm rfl hit)) ?_
        refine sqs rfl rfl hit rfl rfl ?_
        refine sqs rfl rfl (nx rfl hit) rfl rfl ?_
        refine sqs rfl rfl (nx rfl (nx rfl hit)) rfl rfl ?_
        refine sqs rfl rfl (nx rfl (nx rfl (nx rfl hit))) rfl rfl ?_
        refine sqs rfl rfl (nx rfl (nx rfl (nx rfl (nx rfl hit)))) rfl rfl ?_
        refine sq rfl (do_pickT (tm rfl (nx rfl (nx rfl (nx rfl (nx rfl (nx rfl hit)))))) ck) ?_
        refine cutL ?_
        intro τ50 e50
        have c50_0 := (congrFun e50 0).trans (nx rfl (nx rfl (nx rfl (nx rfl (nx rfl (nx rfl (nx rfl (nx rfl (nx rfl (nx rfl (nx rfl (nx rfl (nx rfl (nx rfl c47_0))))))))))))))
        have c50_6 := (congrFun e50 6).trans (nx rfl (nx rfl (nx rfl (nx rfl (nx rfl (nx rfl (nx rfl (nx rfl (nx rfl (nx rfl (nx rfl (nx rfl (nx rfl (nx rfl c47_6))))))))))))))
        have c50_8 := (congrFun e50 8).trans (nx rfl (nx rfl (nx rfl (nx rfl (nx rfl (nx rfl (nx rfl (nx rfl (nx rfl (nx rfl (nx rfl (nx rfl (nx rfl (nx rfl c47_8))))))))))))))
        have c50_9 := (congrFun e50 9).trans (nx rfl (nx rfl (nx rfl (nx rfl (nx rfl (nx rfl (nx rfl (nx rfl (nx rfl (nx rfl (nx rfl (nx rfl (nx rfl (nx rfl c47_9))))))))))))))
        have c50_24 := (congrFun e50 24).trans (nx rfl (nx rfl (nx rfl (nx rfl (nx rfl (nx rfl (nx rfl (nx rfl (nx rfl (nx rfl (nx rfl (nx rfl (nx rfl (nx rfl c47_24))))))))))))))
        have c50_25 := (congrFun e50 25).trans (nx rfl (nx rfl (nx rfl (nx rfl (nx rfl (nx rfl (nx rfl (nx rfl (nx rfl (nx rfl (nx rfl (nx rfl (nx rfl (nx rfl c47_25))))))))))))))
        have c50_26 := (congrFun e50 26).trans (nx rfl (nx rfl (nx rfl (nx rfl (nx rfl (nx rfl (nx rfl (nx rfl (nx rfl (nx rfl (nx rfl (nx rfl (nx rfl (nx rfl c47_26))))))))))))))
        have c50_44 := (congrFun e50 44).trans hit
        clear e50
        refine wnil ?_
        refine hK49 _ _ ?_
        clear hK49
        refine cT rfl c50_44 rfl ?_
        refine wp_seq_k (fun K51 hK51 => ?_)
        refine reg ?_
        refine sq rfl (do_assign ck) ?_
        refine sq rfl (do_assign ck) ?_
        refine wnil ?_
        refine hK51 _ _ ?_
        clear hK51
        refine wp_ret ?_
        refine thenR ?_
        refine inBR ?_
        refine thenR ?_
        exact hr _ _ (hF _ _ _ (nx rfl hit) hit hbel)
      by_cases e2 : (n : Int) ≤ pm[i]
      · refine wp_seq_k (fun K52 hK52 => ?_)
        refine wp_seq_k (fun K53 hK53 => ?_)
        refine reg ?_
        refine sq rfl (do_move (tm rfl c47_9)) ?_
        refine sq rfl (do_lssF (tm rfl hit) ck e1) ?_
        refine sq rfl (do_move (tm rfl hit)) ?_
        refine sqg rfl rfl hit rfl (do_move (tm rfl (nx rfl (nx rfl (nx rfl c47_9))))) ?_
        refine sqg rfl rfl (nx rfl hit) rfl (do_move (tm rfl (nx rfl (nx rfl (nx rfl (nx rfl c47_0)))))) ?_
        refine sqg rfl rfl (nx rfl (nx rfl hit)) rfl (do_geqT (tm rfl (nx rfl hit)) (tm rfl hit) e2) ?_
        refine sq rfl (do_pickF (tm rfl (nx rfl (nx rfl (nx rfl hit)))) (tm rfl hit)) ?_
        refine sq rfl (do_move (tm rfl hit)) ?_
        refine sqs rfl rfl hit rfl rfl ?_
        refine sqs rfl rfl (nx rfl hit) rfl rfl ?_
        refine sqs rfl rfl (nx rfl (nx rfl hit)) rfl rfl ?_
        refine sqs rfl rfl (nx rfl (nx rfl (nx rfl hit))) rfl rfl ?_
        refine sqs rfl rfl (nx rfl (nx rfl (nx rfl (nx rfl hit)))) rfl rfl ?_
        refine sq rfl (do_pickT (tm rfl (nx rfl (nx rfl (nx rfl (nx rfl (nx rfl hit)))))) ck) ?_
        refine cutL ?_
        intro τ54 e54
        have c54_0 := (congrFun e54 0).trans (nx rfl (nx rfl (nx rfl (nx rfl (nx rfl (nx rfl (nx rfl (nx rfl (nx rfl (nx rfl (nx rfl (nx rfl (nx rfl (nx rfl c47_0))))))))))))))
        have c54_6 := (congrFun e54 6).trans (nx rfl (nx rfl (nx rfl (nx rfl (nx rfl (nx rfl (nx rfl (nx rfl (nx rfl (nx rfl (nx rfl (nx rfl (nx rfl (nx rfl c47_6))))))))))))))
        have c54_8 := (congrFun e54 8).trans (nx rfl (nx rfl (nx rfl (nx rfl (nx rfl (nx rfl (nx rfl (nx rfl (nx rfl (nx rfl (nx rfl (nx rfl (nx rfl (nx rfl c47_8))))))))))))))
        have c54_9 := (congrFun e54 9).trans (nx rfl (nx rfl (nx rfl (nx rfl (nx rfl (nx rfl (nx rfl (nx rfl (nx rfl (nx rfl (nx rfl (nx rfl (nx rfl (nx rfl c47_9))))))))))))))
        have c54_24 := (congrFun e54 24).trans (nx rfl (nx rfl (nx rfl (nx rfl (nx rfl (nx rfl (nx rfl (nx rfl (nx rfl (nx rfl (nx rfl (nx rfl (nx rfl (nx rfl c47_24))))))))))))))
        have c54_25 := (congrFun e54 25).trans (nx rfl (nx rfl (nx rfl (nx rfl (nx rfl (nx rfl (nx rfl (nx rfl (nx rfl (nx rfl (nx rfl (nx rfl (nx rfl (nx rfl c47_25))))))))))))))
        have c54_26 := (congrFun e54 26).trans (nx rfl (nx rfl (nx rfl (nx rfl (nx rfl (nx rfl (nx rfl (nx rfl (nx rfl (nx rfl (nx rfl (nx rfl (nx rfl (nx rfl c47_26))))))))))))))
        have c54_44 := (congrFun e54 44).trans hit
        clear e54
        refine wnil ?_
        refine hK53 _ _ ?_
        clear hK53
        refine cT rfl c54_44 rfl ?_
        refine wp_seq_k (fun K55 hK55 => ?_)
        refine reg ?_
        refine sq rfl (do_assign ck) ?_
        refine sq rfl (do_assign ck) ?_
        refine wnil ?_
        refine hK55 _ _ ?_
        clear hK55
        refine wp_ret ?_
        refine thenR ?_
        refine inBR ?_
        refine thenR ?_
        exact hr _ _ (hF _ _ _ (nx rfl hit) hit hbel)
      obtain ⟨v, hvi⟩ : ∃ v : Nat, pm[i] = (v : Int) := ⟨pm[i].toNat, by omega⟩
      have hvn : v < n := by omega
      have hcell : wi.cell? ⟨w.heap.size, v, none⟩ = some (.int .i64 (rk[v]'(by omega))) := hB.cell (ints_get rk v (by omega))
      by_cases e3 : 0 ≤ rk[v]'(by omega)
      · refine wp_seq_k (fun K56 hK56 => ?_)
        refine wp_seq_k (fun K57 hK57 => ?_)
        refine reg ?_
        refine sq rfl (do_move (tm rfl c47_9)) ?_
        refine sq rfl (do_lssF (tm rfl hit) ck e1) ?_
        refine sq rfl (do_move (tm rfl hit)) ?_
        refine sqg rfl rfl hit rfl (do_move (tm rfl (nx rfl (nx rfl (nx rfl c47_9))))) ?_
        refine sqg rfl rfl (nx rfl hit) rfl (do_move (tm rfl (nx rfl (nx rfl (nx rfl (nx rfl c47_0)))))) ?_
        refine sqg rfl rfl (nx rfl (nx rfl hit)) rfl (do_geqF (tm rfl (nx rfl hit)) (tm rfl hit) e2) ?_
        refine sq rfl (do_pickF (tm rfl (nx rfl (nx rfl (nx rfl hit)))) (tm rfl hit)) ?_
        refine sq rfl (do_move (tm rfl hit)) ?_
        refine sqg rfl rfl hit rfl (do_move (tm rfl (nx rfl (nx rfl (nx rfl (nx rfl (nx rfl (nx rfl (nx rfl (nx rfl c47_6)))))))))) ?_
        refine sqg rfl rfl (nx rfl hit) rfl (do_move (tm rfl (nx rfl (nx rfl (nx rfl (nx rfl (nx rfl (nx rfl (nx rfl (nx rfl (nx rfl c47_9))))))))))) ?_
        refine sqg rfl rfl (nx rfl (nx rfl hit)) rfl (ix22 (tm rfl (nx rfl hit)) ((tm rfl hit) |>.trans (by rw [hvi])) hvn) ?_
        refine sqg rfl rfl (nx rfl (nx rfl (nx rfl hit))) rfl (do_load T3 rfl (tm rfl hit) hcell) ?_
        refine sqg rfl rfl (nx rfl (nx rfl (nx rfl (nx rfl hit)))) rfl (do_geqT (tm rfl hit) ck e3) ?_
        refine sq rfl (do_pickF (tm rfl (nx rfl (nx rfl (nx rfl (nx rfl (nx rfl hit)))))) (tm rfl hit)) ?_
        refine cutL ?_
        intro τ58 e58
        have c58_0 := (congrFun e58 0).trans (nx rfl (nx rfl (nx rfl (nx rfl (nx rfl (nx rfl (nx rfl (nx rfl (nx rfl (nx rfl (nx rfl (nx rfl (nx rfl (nx rfl c47_0))))))))))))))
        have c58_6 := (congrFun e58 6).trans (nx rfl (nx rfl (nx rfl (nx rfl (nx rfl (nx rfl (nx rfl (nx rfl (nx rfl (nx rfl (nx rfl (nx rfl (nx rfl (nx rfl c47_6))))))))))))))
        have c58_8 := (congrFun e58 8).trans (nx rfl (nx rfl (nx rfl (nx rfl (nx rfl (nx rfl (nx rfl (nx rfl (nx rfl (nx rfl (nx rfl (nx rfl (nx rfl (nx rfl c47_8))))))))))))))
        have c58_9 := (congrFun e58 9).trans (nx rfl (nx rfl (nx rfl (nx rfl (nx rfl (nx rfl (nx rfl (nx rfl (nx rfl (nx rfl (nx rfl (nx rfl (nx rfl (nx rfl c47_9))))))))))))))
        have c58_24 := (congrFun e58 24).trans (nx rfl (nx rfl (nx rfl (nx rfl (nx rfl (nx rfl (nx rfl (nx rfl (nx rfl (nx rfl (nx rfl (nx rfl (nx rfl (nx rfl c47_24))))))))))))))
        have c58_25 := (congrFun e58 25).trans (nx rfl (nx rfl (nx rfl (nx rfl (nx rfl (nx rfl (nx rfl (nx rfl (nx rfl (nx rfl (nx rfl (nx rfl (nx rfl (nx rfl c47_25))))))))))))))
        have c58_26 := (congrFun e58 26).trans (nx rfl (nx rfl (nx rfl (nx rfl (nx rfl (nx rfl (nx rfl (nx rfl (nx rfl (nx rfl (nx rfl (nx rfl (nx rfl (nx rfl c47_26))))))))))))))
        have c58_44 := (congrFun e58 44).trans hit
        clear e58
        refine wnil ?_
        refine hK57 _ _ ?_
        clear hK57
        refine cT rfl c58_44 rfl ?_
        refine wp_seq_k (fun K59 hK59 => ?_)
        refine reg ?_
        refine sq rfl (do_assign ck) ?_
        refine sq rfl (do_assign ck) ?_
        refine wnil ?_
        refine hK59 _ _ ?_
        clear hK59
        refine wp_ret ?_
        refine thenR ?_
        refine inBR ?_
        refine thenR ?_
        exact hr _ _ (hF _ _ _ (nx rfl hit) hit hbel)
      · refine wp_seq_k (fun K60 hK60 => ?_)
        refine wp_seq_k (fun K61 hK61 => ?_)
        refine reg ?_
        refine sq rfl (do_move (tm rfl c47_9)) ?_
        refine sq rfl (do_lssF (tm rfl hit) ck e1) ?_
        refine sq rfl (do_move (tm rfl hit)) ?_
        refine sqg rfl rfl hit rfl (do_move (tm rfl (nx rfl (nx rfl (nx rfl c47_9))))) ?_
        refine sqg rfl rfl (nx rfl hit) rfl (do_move (tm rfl (nx rfl (nx rfl (nx rfl (nx rfl c47_0)))))) ?_
        refine sqg rfl rfl (nx rfl (nx rfl hit)) rfl (do_geqF (tm rfl (nx rfl hit)) (tm rfl hit) e2) ?_
        refine sq rfl (do_pickF (tm rfl (nx rfl (nx rfl (nx rfl hit)))) (tm rfl hit)) ?_
        refine sq rfl (do_move (tm rfl hit)) ?_
        refine sqg rfl rfl hit rfl (do_move (tm rfl (nx rfl (nx rfl (nx rfl (nx rfl (nx rfl (nx rfl (nx rfl (nx rfl c47_6)))))))))) ?_
        refine sqg rfl rfl (nx rfl hit) rfl (do_move (tm rfl (nx rfl (nx rfl (nx rfl (nx rfl (nx rfl (nx rfl (nx rfl (nx rfl (nx rfl c47_9))))))))))) ?_
        refine sqg rfl rfl (nx rfl (nx rfl hit)) rfl (ix22 (tm rfl (nx rfl hit)) ((tm rfl hit) |>.trans (by rw [hvi])) hvn) ?_
        refine sqg rfl rfl (nx rfl (nx rfl (nx rfl hit))) rfl (do_load T3 rfl (tm rfl hit) hcell) ?_
        refine sqg rfl rfl (nx rfl (nx rfl (nx rfl (nx rfl hit)))) rfl (do_geqF (tm rfl hit) ck e3) ?_
        refine sq rfl (do_pickF (tm rfl (nx rfl (nx rfl (nx rfl (nx rfl (nx rfl hit)))))) (tm rfl hit)) ?_
        refine cutL ?_
        intro τ62 e62
        have c62_0 := (congrFun e62 0).trans (nx rfl (nx rfl (nx rfl (nx rfl (nx rfl (nx rfl (nx rfl (nx rfl (nx rfl (nx rfl (nx rfl (nx rfl (nx rfl (nx rfl c47_0))))))))))))))
        have c62_6 := (congrFun e62 6).trans (nx rfl (nx rfl (nx rfl (nx rfl (nx rfl (nx rfl (nx rfl (nx rfl (nx rfl (nx rfl (nx rfl (nx rfl (nx rfl (nx rfl c47_6))))))))))))))
        have c62_8 := (congrFun e62 8).trans (nx rfl (nx rfl (nx rfl (nx rfl (nx rfl (nx rfl (nx rfl (nx rfl (nx rfl (nx rfl (nx rfl (nx rfl (nx rfl (nx rfl c47_8))))))))))))))
        have c62_9 := (congrFun e62 9).trans (nx rfl (nx rfl (nx rfl (nx rfl (nx rfl (nx rfl (nx rfl (nx rfl (nx rfl (nx rfl (nx rfl (nx rfl (nx rfl (nx rfl c47_9))))))))))))))
        have c62_24 := (congrFun e62 24).trans (nx rfl (nx rfl (nx rfl (nx rfl (nx rfl (nx rfl (nx rfl (nx rfl (nx rfl (nx rfl (nx rfl (nx rfl (nx rfl (nx rfl c47_24))))))))))))))
        have c62_25 := (congrFun e62 25).trans (nx rfl (nx rfl (nx rfl (nx rfl (nx rfl (nx rfl (nx rfl (nx rfl (nx rfl (nx rfl (nx rfl (nx rfl (nx rfl (nx rfl c47_25))))))))))))))
        have c62_26 := (congrFun e62 26).trans (nx rfl (nx rfl (nx rfl (nx rfl (nx rfl (nx rfl (nx rfl (nx rfl (nx rfl (nx rfl (nx rfl (nx rfl (nx rfl (nx rfl c47_26))))))))))))))
        have c62_44 := (congrFun e62 44).trans hit
        clear e62
        refine wnil ?_
        refine hK61 _ _ ?_
        clear hK61
        refine cF rfl c62_44 rfl ?_
        refine wp_skip ?_
        refine hK60 _ _ ?_
        clear hK60
        refine reg ?_
        refine sq rfl (do_move (tm rfl c62_6)) ?_
        refine sq rfl (do_move (tm rfl (nx rfl c62_9))) ?_
        refine sq rfl (do_move (tm rfl (nx rfl (nx rfl c62_8)))) ?_
        refine sq rfl (ix22 (tm rfl (nx rfl (nx rfl hit))) ((tm rfl (nx rfl hit)) |>.trans (by rw [hvi])) hvn) ?_
        refine sqn (do_store T3 (tm rfl hit) (tm rfl (nx rfl hit)) rfl hcell (hB.frozen _)) ?_
        refine cutW ?_
        intro τ63 e63 w2 hw2
        have c63_0 := (congrFun e63 0).trans (nx rfl (nx rfl (nx rfl (nx rfl c62_0))))
        have c63_6 := (congrFun e63 6).trans (nx rfl (nx rfl (nx rfl (nx rfl c62_6))))
        have c63_8 := (congrFun e63 8).trans (nx rfl (nx rfl (nx rfl (nx rfl c62_8))))
        have c63_9 := (congrFun e63 9).trans (nx rfl (nx rfl (nx rfl (nx rfl c62_9))))
        have c63_24 := (congrFun e63 24).trans (nx rfl (nx rfl (nx rfl (nx rfl c62_24))))
        have c63_25 := (congrFun e63 25).trans (nx rfl (nx rfl (nx rfl (nx rfl c62_25))))
        have c63_26 := (congrFun e63 26).trans (nx rfl (nx rfl (nx rfl (nx rfl c62_26))))
        clear e63
        refine wnil ?_
        refine inBN ?_
        refine hK45 _ _ ?_
        clear hK45
        refine reg ?_
        refine sq rfl (do_inc (tm rfl c63_26) ck (by omega)) ?_
        refine sq rfl (do_move (tm rfl hit)) ?_
        refine wnil ?_
        refine hnn (n - (i + 1)) _ _ (by omega) ⟨i + 1, rk.set v (i : Int), rfl, by omega, (nx rfl (nx rfl c63_0)), (nx rfl (nx rfl c63_6)), (nx rfl (nx rfl c63_24)), (nx rfl (nx rfl c63_25)), hit, ?_, by simp [hrl], ?_, ?_⟩
        · rw [hw2]
          have := hB.set v (.int .i64 (i : Int))
          rwa [show (ints rk).set v (.int .i64 (i : Int)) = ints (rk.set v (i : Int)) by simp [ints, List.map_set]] at this
        · rw [hw2]; exact hbel.setCell (Nat.le_refl _) _
        · intro j hj hji
          rcases Nat.lt_or_ge j i with h' | h'
          · obtain ⟨f1, f2, f3⟩ := hrk j hj h'
            refine ⟨f1, f2, ?_⟩
            rw [List.getElem?_set_ne ?_]
            · exact f3
            · rintro rfl
              rw [List.getElem?_eq_getElem (by omega)] at f3
              injection f3 with f3
              omega
          · obtain rfl : j = i := by omega
            refine ⟨by omega, by omega, ?_⟩
            rw [hvi, Int.toNat_natCast, List.getElem?_set_self (by omega)]
    · refine wp_seq_k (fun K64 hK64 => ?_)
      refine cF rfl hit (by simpa using h) ?_
      refine wp_exit ?_
      refine thenE ?_
      exact hx _ _ ⟨rk, (nx rfl t6), ⟨hpl, hrl, fun j hj => hrk j hj (by omega)⟩, hB, hbel⟩
  clear t0 t1 t6 hB hrl hbel
  rintro τ wi ⟨rk, t6, hrk, hB, hbel⟩
  refine hK41 _ _ ?_
  clear hK41
  refine wp_seq_k (fun K65 hK65 => ?_)
  refine reg ?_
  refine sq rfl (do_move (tm rfl t6)) ?_
  refine sq rfl (do_assign (tm rfl hit)) ?_
  refine sq rfl (do_assign ck) ?_
  refine wnil ?_
  refine hK65 _ _ ?_
  clear hK65
  refine wp_ret ?_
  rw [← hQ]
  exact ret2 rfl rfl rfl (nx rfl hit) hit ⟨_, true, rfl, hbel, fun _ => ⟨rk, hrk, rfl, hB⟩⟩
end Go.Proofs.Qxb6001364a
