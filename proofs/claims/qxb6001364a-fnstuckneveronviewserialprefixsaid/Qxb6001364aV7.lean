/-
  forceOrders' closure.
-/
import Derived.Test.Qxb6001364aHu
import Derived.Test.Qxb6001364aV4
import Derived.Test.Qxb6001364aM3
namespace Go.Proofs.Qxb6001364a
open Go.Fra Go.RowKit Pl
set_option maxRecDepth 100000
set_option linter.unusedVariables false

theorem ret0 {P : Program} {fn : Func} {N : Nat} {σ : Nat → Value} {w : World} {R : Ending → World → Prop} (hr : fn.results = #[]) (hR : ∀ v, R (.returned v) w) : bodyPost P fn R .normal (Fr N σ) w := by
  refine ⟨rfl, .tuple #[], ?_, hR _⟩
  simp [results, hr]
theorem zero4 (w : World) : (zeroValue 4).run Try.prog w = .ok (.bool false) w := T4.run_zero w
theorem zero3 (w : World) : (zeroValue 3).run Try.prog w = .ok (.int .i64 0) w := T3.run_zero w
theorem one_I (z : Int) : ∀ u ∈ encI z, u.oneCell' = true := by intro u hu; simp [encI] at hu; subst hu; rfl
theorem one_P (p : Int × Int) : ∀ u ∈ encP p, u.oneCell' = true := by intro u hu; simp [encP] at hu; rcases hu with rfl | rfl <;> rfl

set_option maxHeartbeats 1000000 in
theorem force39 {N : Nat} {w0 w : World} {H : Nat → Part} (hs : Split N w0 w H) (a b pb vb eb mb qb : Nat) (pcs : List Value) (sv qv : Value) (rows : List (List Int)) (pend : List (Int × Int)) (l : List ((Int × Int) × Value))
    (hpv : VB (H 20) vb 33 [.pointer (some ⟨pb, 0, none⟩)]) (hp : VB (H 1) pb 58 pcs) (hp6 : pcs[6]? = some sv) (hT : TabV (H 8) 22 3 1 encI sv rows)
    (hev : VB (H 24) eb 84 [.map (some mb)]) (hm : MapV (H 25) mb pk l) (hlv : ∀ q ∈ l, ∃ c : Bool, q.2 = .bool c) (hqv : VB (H 26) qb 85 [qv]) (hq : RowV (H 27) 60 2 qv pend.length (pend.flatMap encP))
    (ha : a < rows.length) (hal : rows[a].length + 1 ≤ 1099511627776) (hql : pend.length + 1 ≤ 1099511627776) :
    Calls Try.prog 39 #[.int .i64 (a : Int), .int .i64 (b : Int), .pointer (some ⟨eb, 0, none⟩), .pointer (some ⟨qb, 0, none⟩), .pointer (some ⟨vb, 0, none⟩)] w fun e w' => ∃ v, e = .returned v ∧
      ∃ H' rows' pend' l' qv', Split N w0 w' H' ∧ Same [8, 25, 26, 27, 28] H H' ∧ TabV (H' 8) 22 3 1 encI sv rows' ∧ MapV (H' 25) mb pk l' ∧ (∀ q ∈ l', ∃ c : Bool, q.2 = .bool c) ∧ VB (H' 26) qb 85 [qv'] ∧ RowV (H' 27) 60 2 qv' pend'.length (pend'.flatMap encP) ∧
      ((rows' = rows ∧ pend' = pend) ∨ (a ≠ b ∧ rows' = rows.set a (rows[a] ++ [(b : Int)]) ∧ pend' = pend ++ [((a : Int), (b : Int))])) := by
  refine enter (args := [.int .i64 (a : Int), .int .i64 (b : Int), .pointer (some ⟨eb, 0, none⟩), .pointer (some ⟨qb, 0, none⟩), .pointer (some ⟨vb, 0, none⟩)]) Try.func39 rfl Try.ntmps39 rfl ?_
  generalize hQ : bodyPost Try.prog Try.f39 _ = Q
  have s0 : frame0 [Value.int .i64 (a : Int), .int .i64 (b : Int), .pointer (some ⟨eb, 0, none⟩), .pointer (some ⟨qb, 0, none⟩), .pointer (some ⟨vb, 0, none⟩)] 0 = .int .i64 (a : Int) := rfl
  have s1 : frame0 [Value.int .i64 (a : Int), .int .i64 (b : Int), .pointer (some ⟨eb, 0, none⟩), .pointer (some ⟨qb, 0, none⟩), .pointer (some ⟨vb, 0, none⟩)] 1 = .int .i64 (b : Int) := rfl
  have s2 : frame0 [Value.int .i64 (a : Int), .int .i64 (b : Int), .pointer (some ⟨eb, 0, none⟩), .pointer (some ⟨qb, 0, none⟩), .pointer (some ⟨vb, 0, none⟩)] 2 = .pointer (some ⟨eb, 0, none⟩) := rfl
  have s3 : frame0 [Value.int .i64 (a : Int), .int .i64 (b : Int), .pointer (some ⟨eb, 0, none⟩), .pointer (some ⟨qb, 0, none⟩), .pointer (some ⟨vb, 0, none⟩)] 3 = .pointer (some ⟨qb, 0, none⟩) := rfl
  have s4 : frame0 [Value.int .i64 (a : Int), .int .i64 (b : Int), .pointer (some ⟨eb, 0, none⟩), .pointer (some ⟨qb, 0, none⟩), .pointer (some ⟨vb, 0, none⟩)] 4 = .pointer (some ⟨vb, 0, none⟩) := rfl
  generalize frame0 [Value.int .i64 (a : Int), .int .i64 (b : Int), .pointer (some ⟨eb, 0, none⟩), .pointer (some ⟨qb, 0, none⟩), .pointer (some ⟨vb, 0, none⟩)] = σ at *
  have hend : ∀ (τ : Nat → Value) (w' : World) (H' : Nat → Part) (l' : List ((Int × Int) × Value)), Split N w0 w' H' → Same [28] H H' → Q .normal (Fr 42 τ) w' := by
    intro τ w' H' l' h1 h2
    rw [← hQ]
    refine ret0 rfl fun v => ⟨v, rfl, H', rows, pend, l, qv, h1, h2.mono (by decide), ?_, ?_, hlv, ?_, ?_, .inl ⟨rfl, rfl⟩⟩
    · rw [h2 8 (by decide)]; exact hT
    · rw [h2 25 (by decide)]; exact hm
    · rw [h2 26 (by decide)]; exact hqv
    · rw [h2 27 (by decide)]; exact hq
  refine wp_seq_k (fun K1 hK1 => ?_)
  refine reg ?_
  refine sq rfl (do_move (tm rfl s0)) ?_
  refine sq rfl (do_move (tm rfl (nx rfl s1))) ?_
  refine sq rfl (do_build60 (tm rfl (nx rfl hit)) (tm rfl hit)) ?_
  refine sq rfl (do_alloc T60) ?_
  refine sqn (do_store2 T60 (tm rfl hit) (tm rfl (nx rfl hit)) rfl rfl (new_cell w _ _ 0 rfl) (new_cell w _ _ 1 rfl) (new_frozen w _ _ 0) (new_frozen w _ _ 1)) ?_
  refine cutW ?_
  intro τ2 e2 wa hwa
  have c2_0 := (congrFun e2 0).trans (nx rfl (nx rfl (nx rfl (nx rfl s0))))
  have c2_1 := (congrFun e2 1).trans (nx rfl (nx rfl (nx rfl (nx rfl s1))))
  have c2_2 := (congrFun e2 2).trans (nx rfl (nx rfl (nx rfl (nx rfl s2))))
  have c2_3 := (congrFun e2 3).trans (nx rfl (nx rfl (nx rfl (nx rfl s3))))
  have c2_4 := (congrFun e2 4).trans (nx rfl (nx rfl (nx rfl (nx rfl s4))))
  have c2_7 := (congrFun e2 7).trans hit
  clear e2
  refine wnil ?_
  refine hK1 _ _ ?_
  clear hK1
  obtain ⟨H1, k1, hs1, hE⟩ := var2 hs 28 60 (.int .i64 0) (.int .i64 0) (.int .i64 (a : Int)) (.int .i64 (b : Int))
  have hs1' : Split N w0 wa H1 := by rw [hwa]; exact hs1
  clear hs1 hwa
  generalize w.heap.size = B at *
  have c0 := hE.cell hs1' (i := 0) rfl
  have c1 := hE.cell hs1' (i := 1) rfl
  have hev1 := k1.vb (by decide) hev
  have ce := hev1.cell hs1' (i := 0) rfl
  have hm1 : MapV (H1 25) mb pk l := by rw [k1 25 (by decide)]; exact hm
  by_cases hab : a = b
  · refine wp_seq_k (fun K3 hK3 => ?_)
    refine reg ?_
    refine sq rfl (do_move (tm rfl c2_0)) ?_
    refine sq rfl (do_move (tm rfl (nx rfl c2_1))) ?_
    refine sq rfl (do_neqF (tm rfl (nx rfl hit)) (tm rfl hit) (by simp [hab])) ?_
    refine sq rfl (do_move (tm rfl hit)) ?_
    refine sqs rfl rfl hit rfl rfl ?_
    refine sqs rfl rfl (nx rfl hit) rfl rfl ?_
    refine sqs rfl rfl (nx rfl (nx rfl hit)) rfl rfl ?_
    refine sqs rfl rfl (nx rfl (nx rfl (nx rfl hit))) rfl rfl ?_
    refine sq rfl (do_pickF (tm rfl (nx rfl (nx rfl (nx rfl (nx rfl hit))))) ck) ?_
    refine cutL ?_
    intro τ4 e4
    have c4_0 := (congrFun e4 0).trans (nx rfl (nx rfl (nx rfl (nx rfl (nx rfl (nx rfl (nx rfl (nx rfl (nx rfl c2_0)))))))))
    have c4_1 := (congrFun e4 1).trans (nx rfl (nx rfl (nx rfl (nx rfl (nx rfl (nx rfl (nx rfl (nx rfl (nx rfl c2_1)))))))))
    have c4_2 := (congrFun e4 2).trans (nx rfl (nx rfl (nx rfl (nx rfl (nx rfl (nx rfl (nx rfl (nx rfl (nx rfl c2_2)))))))))
    have c4_3 := (congrFun e4 3).trans (nx rfl (nx rfl (nx rfl (nx rfl (nx rfl (nx rfl (nx rfl (nx rfl (nx rfl c2_3)))))))))
    have c4_4 := (congrFun e4 4).trans (nx rfl (nx rfl (nx rfl (nx rfl (nx rfl (nx rfl (nx rfl (nx rfl (nx rfl c2_4)))))))))
    have c4_7 := (congrFun e4 7).trans (nx rfl (nx rfl (nx rfl (nx rfl (nx rfl (nx rfl (nx rfl (nx rfl (nx rfl c2_7)))))))))
    have c4_19 := (congrFun e4 19).trans hit
    clear e4
    refine wnil ?_
    refine hK3 _ _ ?_
    clear hK3
    refine cF rfl c4_19 rfl ?_
    refine wp_skip ?_
    exact hend _ _ H1 l hs1' k1
  · have hab' : (a : Int) ≠ (b : Int) := by omega
    obtain ⟨c, hc⟩ : ∃ c : Bool, (getL (fun a b => a == b) ((a : Int), (b : Int)) l).getD (.bool false) = .bool c := by
      cases hg : getL (fun a b => a == b) ((a : Int), (b : Int)) l with
      | none => exact ⟨false, rfl⟩
      | some u =>
        obtain ⟨q, hq1, _⟩ := getL_mem hg
        obtain ⟨c, hc⟩ := hlv _ hq1
        exact ⟨c, hc⟩
    refine wp_seq_k (fun K5 hK5 => ?_)
    refine reg ?_
    refine sq rfl (do_move (tm rfl c2_0)) ?_
    refine sq rfl (do_move (tm rfl (nx rfl c2_1))) ?_
    refine sq rfl (do_neqT (tm rfl (nx rfl hit)) (tm rfl hit) hab') ?_
    refine sq rfl (do_move (tm rfl hit)) ?_
    refine sqg rfl rfl hit rfl (do_load T84 rfl (tm rfl (nx rfl (nx rfl (nx rfl (nx rfl c2_2))))) ce) ?_
    refine sqg rfl rfl (nx rfl hit) rfl (do_load2 T60 fl60 (tm rfl (nx rfl (nx rfl (nx rfl (nx rfl (nx rfl c2_7)))))) c0 c1) ?_
    refine sqg rfl rfl (nx rfl (nx rfl hit)) rfl ((MapV.look1 key60 Try.underlying84 zero4 hm1 hs1' (k := ((a : Int), (b : Int))) (tm rfl (nx rfl hit)) (tm rfl hit)).cast hc) ?_
    refine sqg rfl rfl (nx rfl (nx rfl (nx rfl hit))) rfl (do_not (tm rfl hit)) ?_
    refine sq rfl (do_pickT (tm rfl (nx rfl (nx rfl (nx rfl (nx rfl hit))))) (tm rfl hit)) ?_
    refine cutL ?_
    intro τ6 e6
    have c6_0 := (congrFun e6 0).trans (nx rfl (nx rfl (nx rfl (nx rfl (nx rfl (nx rfl (nx rfl (nx rfl (nx rfl c2_0)))))))))
    have c6_1 := (congrFun e6 1).trans (nx rfl (nx rfl (nx rfl (nx rfl (nx rfl (nx rfl (nx rfl (nx rfl (nx rfl c2_1)))))))))
    have c6_2 := (congrFun e6 2).trans (nx rfl (nx rfl (nx rfl (nx rfl (nx rfl (nx rfl (nx rfl (nx rfl (nx rfl c2_2)))))))))
    have c6_3 := (congrFun e6 3).trans (nx rfl (nx rfl (nx rfl (nx rfl (nx rfl (nx rfl (nx rfl (nx rfl (nx rfl c2_3)))))))))
    have c6_4 := (congrFun e6 4).trans (nx rfl (nx rfl (nx rfl (nx rfl (nx rfl (nx rfl (nx rfl (nx rfl (nx rfl c2_4)))))))))
    have c6_7 := (congrFun e6 7).trans (nx rfl (nx rfl (nx rfl (nx rfl (nx rfl (nx rfl (nx rfl (nx rfl (nx rfl c2_7)))))))))
    have c6_19 := (congrFun e6 19).trans hit
    clear e6
    refine wnil ?_
    refine hK5 _ _ ?_
    clear hK5
    cases c with
    | true =>
      refine cF rfl c6_19 rfl ?_
      refine wp_skip ?_
      exact hend _ _ H1 l hs1' k1
    | false =>
      refine cT rfl c6_19 rfl ?_
      obtain ⟨wb, V25, hm2, hs2, hput⟩ := hm1.put key60 Try.underlying84 hs1' ((a : Int), (b : Int)) (.bool true)
      refine wp_seq_k (fun K7 hK7 => ?_)
      refine reg ?_
      refine sq rfl (do_load T84 rfl (tm rfl c6_2) ce) ?_
      refine sq rfl (do_load2 T60 fl60 (tm rfl (nx rfl c6_7)) c0 c1) ?_
      refine sqn (hput _ _ _ _ _ _ _ _ _ (tm rfl (nx rfl hit)) (tm rfl hit) rfl) ?_
      refine wnil ?_
      refine hK7 _ _ ?_
      clear hK7
      have c0 := VB.cell (H := updH H1 25 V25) (t := 28) hE hs2 (i := 0) rfl
      have c1 := VB.cell (H := updH H1 25 V25) (t := 28) hE hs2 (i := 1) rfl
      have hqv2 : VB (updH H1 25 V25 26) qb 85 [qv] := k1.vb (t := 26) (by decide) hqv
      have hq2 : RowV (updH H1 25 V25 27) 60 2 qv pend.length (pend.flatMap encP) := by
        show RowV (H1 27) _ _ _ _ _
        rw [k1 27 (by decide)]; exact hq
      have cq := hqv2.cell hs2 (i := 0) rfl
      have hs3 := hs2.alloc 28 (.cells #[.int .i64 (a : Int), .int .i64 (b : Int)] 60)
      obtain ⟨qv', wd, V27, hap, hs4, hq4, _, _⟩ := RowV.append (H := updH (updH H1 25 V25) 28 (addV (updH H1 25 V25 28) wb.heap.size (.cells #[.int .i64 (a : Int), .int .i64 (b : Int)] 60))) (t := 27) T85 T60 rfl (by decide) hq2 hs3 (a := ⟨wb.heap.size, 0, none⟩) (m := 1) (c := 1) (news := encP ((a : Int), (b : Int))) rfl (by
        intro j u hu
        rw [add_plain, Nat.zero_add]
        exact new_cell wb #[.int .i64 (a : Int), .int .i64 (b : Int)] 60 j hu) (one_P _) (by simp only [maxLen]; omega) (by omega)
      have hqv4 : VB (updH (updH (updH H1 25 V25) 28 (addV (updH H1 25 V25 28) wb.heap.size (.cells #[.int .i64 (a : Int), .int .i64 (b : Int)] 60))) 27 V27 26) qb 85 [qv] := hqv2
      obtain ⟨H5, k5, hs5, hqv5⟩ := hqv4.put hs4 0 qv'
      refine wp_seq_k (fun K8 hK8 => ?_)
      refine reg ?_
      refine sq rfl (do_load T85 rfl (tm rfl (nx rfl (nx rfl c6_3))) cq) ?_
      refine sq rfl (do_load2 T60 fl60 (tm rfl (nx rfl (nx rfl (nx rfl c6_7)))) c0 c1) ?_
      refine sq rfl (do_bs2 T85 T60 (tm rfl hit)) ?_
      refine sq rfl (hap _ _ _ _ _ _ _ _ (tm rfl (nx rfl (nx rfl hit))) (tm rfl hit)) ?_
      refine sqn (do_store T85 (tm rfl (nx rfl (nx rfl (nx rfl (nx rfl (nx rfl (nx rfl c6_3))))))) (tm rfl hit) hq4.one (hqv4.cell hs4 (i := 0) rfl) (hqv4.frozen hs4 0)) ?_
      refine cutW ?_
      intro τ9 e9 we hwe
      have c9_0 := (congrFun e9 0).trans (nx rfl (nx rfl (nx rfl (nx rfl (nx rfl (nx rfl c6_0))))))
      have c9_1 := (congrFun e9 1).trans (nx rfl (nx rfl (nx rfl (nx rfl (nx rfl (nx rfl c6_1))))))
      have c9_2 := (congrFun e9 2).trans (nx rfl (nx rfl (nx rfl (nx rfl (nx rfl (nx rfl c6_2))))))
      have c9_3 := (congrFun e9 3).trans (nx rfl (nx rfl (nx rfl (nx rfl (nx rfl (nx rfl c6_3))))))
      have c9_4 := (congrFun e9 4).trans (nx rfl (nx rfl (nx rfl (nx rfl (nx rfl (nx rfl c6_4))))))
      have c9_7 := (congrFun e9 7).trans (nx rfl (nx rfl (nx rfl (nx rfl (nx rfl (nx rfl c6_7))))))
      clear e9
      refine wnil ?_
      refine hK8 _ _ ?_
      clear hK8
      have hs5' : Split N w0 we H5 := by rw [hwe]; exact hs5
      have hT5 : TabV (H5 8) 22 3 1 encI sv rows := by
        rw [k5 8 (by decide)]
        show TabV (H1 8) _ _ _ _ _ _
        rw [k1 8 (by decide)]; exact hT
      have hp5 : VB (H5 1) pb 58 pcs := k5.vb (t := 1) (by decide) (k1.vb (t := 1) (by decide) hp)
      have hpv5 : VB (H5 20) vb 33 [.pointer (some ⟨pb, 0, none⟩)] := k5.vb (t := 20) (by decide) (k1.vb (t := 20) (by decide) hpv)
      clear hwe hs5
      have k5' : Same [8, 25, 26, 27, 28] H H5 := by
        refine (k1.mono (by decide)).trans (Same.trans ?_ (k5.mono (by decide)))
        exact ((Same.upd (by decide)).trans (Same.upd (by decide))).trans (Same.upd (by decide))
      have hm5 : MapV (H5 25) mb pk (putL (fun a b => a == b) ((a : Int), (b : Int)) (.bool true) l) := by
        rw [k5 25 (by decide)]; exact hm2
      have hq5 : RowV (H5 27) 60 2 qv' (pend.length + 1) (pend.flatMap encP ++ encP ((a : Int), (b : Int))) := by
        rw [k5 27 (by decide)]; exact hq4
      obtain ⟨g, cap, cell, v', w2, G1, G2, G3, hv, hca, hcb, hapT, hstT, j1, j2, j3, g1, g2, g3, hT6⟩ := TabV.pushR (t := 8) (j := 28) T22 T3 T22 rfl (by decide) (by decide) hT5 hs5'.drew rfl ha (b : Int) #[.int .i64 (b : Int)] rfl rfl (one_I _) hal
      subst hv
      have F20 : ∀ j, j ≤ 2 → (stg we.drew [we.drew.alloc (.cells #[.int .i64 (b : Int)] 3), w2, w2.setCell ⟨g, a, none⟩ v'] j).cell? ⟨vb, 0, none⟩ = some (.pointer (some ⟨pb, 0, none⟩)) :=
        le2 (p := fun j => (stg we.drew [we.drew.alloc (.cells #[.int .i64 (b : Int)] 3), w2, w2.setCell ⟨g, a, none⟩ v'] j).cell? ⟨vb, 0, none⟩ = some (.pointer (some ⟨pb, 0, none⟩))) (hpv5.cell hs5'.drew (i := 0) rfl) ((j1.vb (t := 20) (by decide) hpv5).cell g1 (i := 0) rfl) ((j2.vb (t := 20) (by decide) hpv5).cell g2 (i := 0) rfl)
      have F6 : ∀ j, j ≤ 2 → (stg we.drew [we.drew.alloc (.cells #[.int .i64 (b : Int)] 3), w2, w2.setCell ⟨g, a, none⟩ v'] j).cell? ⟨pb, 6, none⟩ = some (.slice (some ⟨g, 0, none⟩) rows.length cap) :=
        le2 (p := fun j => (stg we.drew [we.drew.alloc (.cells #[.int .i64 (b : Int)] 3), w2, w2.setCell ⟨g, a, none⟩ v'] j).cell? ⟨pb, 6, none⟩ = some (.slice (some ⟨g, 0, none⟩) rows.length cap)) (hp5.cell hs5'.drew hp6) ((j1.vb (t := 1) (by decide) hp5).cell g1 hp6) ((j2.vb (t := 1) (by decide) hp5).cell g2 hp6)
      have FC : ∀ j, j ≤ 1 → (stg we.drew [we.drew.alloc (.cells #[.int .i64 (b : Int)] 3), w2, w2.setCell ⟨g, a, none⟩ v'] j).cell? ⟨g, a, none⟩ = some cell :=
        le1 (p := fun j => (stg we.drew [we.drew.alloc (.cells #[.int .i64 (b : Int)] 3), w2, w2.setCell ⟨g, a, none⟩ v'] j).cell? ⟨g, a, none⟩ = some cell) hca hcb
      refine draw mixed [13, 14, 16] [(0, 2), (0, 2), (0, 2), (0, 2), (0, 2), (0, 2), (0, 2), (0, 2), (0, 2), (0, 2), (0, 2), (0, 1), (0, 0), (0, 0), (1, 1), (2, 2), (2, 2)] [we.drew.alloc (.cells #[.int .i64 (b : Int)] 3), w2, w2.setCell ⟨g, a, none⟩ v'] (w2.setCell ⟨g, a, none⟩ v') (upd (upd (upd (upd (upd (upd (upd (upd (upd (upd (upd (upd (upd (upd (upd (upd _ 26 _) 27 _) 28 _) 29 _) 30 _) 31 _) 32 _) 33 _) 34 _) 35 _) 36 _) 37 _) 38 _) 39 _) 40 _) 41 _) (by kernel_rfl) (fun s hs => ovr_off [(26, _), (27, _), (28, _), (29, _), (30, _), (31, _), (32, _), (33, _), (34, _), (35, _), (36, _), (37, _), (38, _), (39, _), (40, _), (41, _)] _ s hs) ⟨(qr rfl (fun j h1 h2 => (do_load T33 rfl (tm rfl (nx rfl (nx rfl (nx rfl (nx rfl (nx rfl (nx rfl (nx rfl (nx rfl (nx rfl (nx rfl (nx rfl (nx rfl (nx rfl (nx rfl (nx rfl (nx rfl c9_4))))))))))))))))) (F20 j (by omega)))) (nx rfl (nx rfl (nx rfl (nx rfl (nx rfl (nx rfl (nx rfl (nx rfl (nx rfl (nx rfl (nx rfl (nx rfl (nx rfl (nx rfl (nx rfl hit)))))))))))))))), (qa rfl (fun _ => (do_nilCheck (tm rfl (nx rfl (nx rfl (nx rfl (nx rfl (nx rfl (nx rfl (nx rfl (nx rfl (nx rfl (nx rfl (nx rfl (nx rfl (nx rfl (nx rfl (nx rfl hit)))))))))))))))))) (nx rfl (nx rfl (nx rfl (nx rfl (nx rfl (nx rfl (nx rfl (nx rfl (nx rfl (nx rfl (nx rfl (nx rfl (nx rfl (nx rfl hit))))))))))))))), (qa rfl (fun _ => (fa58_6 (tm rfl (nx rfl (nx rfl (nx rfl (nx rfl (nx rfl (nx rfl (nx rfl (nx rfl (nx rfl (nx rfl (nx rfl (nx rfl (nx rfl (nx rfl hit))))))))))))))))) (nx rfl (nx rfl (nx rfl (nx rfl (nx rfl (nx rfl (nx rfl (nx rfl (nx rfl (nx rfl (nx rfl (nx rfl (nx rfl hit)))))))))))))), (qr rfl (fun j h1 h2 => (do_load T37 rfl (tm rfl (nx rfl (nx rfl (nx rfl (nx rfl (nx rfl (nx rfl (nx rfl (nx rfl (nx rfl (nx rfl (nx rfl (nx rfl (nx rfl hit)))))))))))))) (F6 j (by omega)))) (nx rfl (nx rfl (nx rfl (nx rfl (nx rfl (nx rfl (nx rfl (nx rfl (nx rfl (nx rfl (nx rfl (nx rfl hit))))))))))))), (qa rfl (fun _ => (do_move (tm rfl (nx rfl (nx rfl (nx rfl (nx rfl (nx rfl (nx rfl (nx rfl (nx rfl (nx rfl (nx rfl (nx rfl (nx rfl (nx rfl (nx rfl (nx rfl (nx rfl c9_0))))))))))))))))))) (nx rfl (nx rfl (nx rfl (nx rfl (nx rfl (nx rfl (nx rfl (nx rfl (nx rfl (nx rfl (nx rfl hit)))))))))))), (qr rfl (fun j h1 h2 => (do_load T33 rfl (tm rfl (nx rfl (nx rfl (nx rfl (nx rfl (nx rfl (nx rfl (nx rfl (nx rfl (nx rfl (nx rfl (nx rfl (nx rfl (nx rfl (nx rfl (nx rfl (nx rfl c9_4))))))))))))))))) (F20 j (by omega)))) (nx rfl (nx rfl (nx rfl (nx rfl (nx rfl (nx rfl (nx rfl (nx rfl (nx rfl (nx rfl hit))))))))))), (qa rfl (fun _ => (do_nilCheck (tm rfl (nx rfl (nx rfl (nx rfl (nx rfl (nx rfl (nx rfl (nx rfl (nx rfl (nx rfl (nx rfl hit))))))))))))) (nx rfl (nx rfl (nx rfl (nx rfl (nx rfl (nx rfl (nx rfl (nx rfl (nx rfl hit)))))))))), (qa rfl (fun _ => (fa58_6 (tm rfl (nx rfl (nx rfl (nx rfl (nx rfl (nx rfl (nx rfl (nx rfl (nx rfl (nx rfl hit)))))))))))) (nx rfl (nx rfl (nx rfl (nx rfl (nx rfl (nx rfl (nx rfl (nx rfl hit))))))))), (qr rfl (fun j h1 h2 => (do_load T37 rfl (tm rfl (nx rfl (nx rfl (nx rfl (nx rfl (nx rfl (nx rfl (nx rfl (nx rfl hit))))))))) (F6 j (by omega)))) (nx rfl (nx rfl (nx rfl (nx rfl (nx rfl (nx rfl (nx rfl hit)))))))), (qa rfl (fun _ => (do_move (tm rfl (nx rfl (nx rfl (nx rfl (nx rfl (nx rfl (nx rfl (nx rfl (nx rfl (nx rfl (nx rfl (nx rfl (nx rfl (nx rfl (nx rfl (nx rfl (nx rfl c9_0))))))))))))))))))) (nx rfl (nx rfl (nx rfl (nx rfl (nx rfl (nx rfl hit))))))), (qa rfl (fun _ => (ix37 (tm rfl (nx rfl (nx rfl (nx rfl (nx rfl (nx rfl (nx rfl (nx rfl hit)))))))) (tm rfl (nx rfl (nx rfl (nx rfl (nx rfl (nx rfl (nx rfl hit))))))) (by omega))) (nx rfl (nx rfl (nx rfl (nx rfl (nx rfl hit)))))), (qr rfl (fun j h1 h2 => (do_load T22 rfl (tm rfl (nx rfl (nx rfl (nx rfl (nx rfl (nx rfl hit)))))) (FC j (by omega)))) (nx rfl (nx rfl (nx rfl (nx rfl hit))))), (qa rfl (fun _ => (do_move (tm rfl (nx rfl (nx rfl (nx rfl (nx rfl (nx rfl (nx rfl (nx rfl (nx rfl (nx rfl (nx rfl (nx rfl (nx rfl (nx rfl (nx rfl (nx rfl (nx rfl c9_1))))))))))))))))))) (nx rfl (nx rfl (nx rfl hit)))), (ef rfl (do_bs1 T22 T3 rfl (tm rfl (nx rfl (nx rfl (nx rfl hit)))) rfl) (nx rfl (nx rfl hit))), (ef rfl (hapT _ _ _ _ _ _ _ _ (tm rfl (nx rfl (nx rfl (nx rfl (nx rfl hit))))) (tm rfl (nx rfl (nx rfl hit)))) (nx rfl hit)), (qa rfl (fun _ => (ix37 (tm rfl (nx rfl (nx rfl (nx rfl (nx rfl (nx rfl (nx rfl (nx rfl (nx rfl (nx rfl (nx rfl (nx rfl (nx rfl hit))))))))))))) (tm rfl (nx rfl (nx rfl (nx rfl (nx rfl (nx rfl (nx rfl (nx rfl (nx rfl (nx rfl (nx rfl (nx rfl hit)))))))))))) (by omega))) hit), (en rfl (hstT _ _ _ _ _ _ _ _ (tm rfl hit) (tm rfl (nx rfl hit)))), trivial⟩ rfl ?_
      intro τ10 e10
      have c10_0 := (congrFun e10 0).trans (nx rfl (nx rfl (nx rfl (nx rfl (nx rfl (nx rfl (nx rfl (nx rfl (nx rfl (nx rfl (nx rfl (nx rfl (nx rfl (nx rfl (nx rfl (nx rfl c9_0))))))))))))))))
      have c10_1 := (congrFun e10 1).trans (nx rfl (nx rfl (nx rfl (nx rfl (nx rfl (nx rfl (nx rfl (nx rfl (nx rfl (nx rfl (nx rfl (nx rfl (nx rfl (nx rfl (nx rfl (nx rfl c9_1))))))))))))))))
      have c10_2 := (congrFun e10 2).trans (nx rfl (nx rfl (nx rfl (nx rfl (nx rfl (nx rfl (nx rfl (nx rfl (nx rfl (nx rfl (nx rfl (nx rfl (nx rfl (nx rfl (nx rfl (nx rfl c9_2))))))))))))))))
      have c10_3 := (congrFun e10 3).trans (nx rfl (nx rfl (nx rfl (nx rfl (nx rfl (nx rfl (nx rfl (nx rfl (nx rfl (nx rfl (nx rfl (nx rfl (nx rfl (nx rfl (nx rfl (nx rfl c9_3))))))))))))))))
      have c10_4 := (congrFun e10 4).trans (nx rfl (nx rfl (nx rfl (nx rfl (nx rfl (nx rfl (nx rfl (nx rfl (nx rfl (nx rfl (nx rfl (nx rfl (nx rfl (nx rfl (nx rfl (nx rfl c9_4))))))))))))))))
      have c10_7 := (congrFun e10 7).trans (nx rfl (nx rfl (nx rfl (nx rfl (nx rfl (nx rfl (nx rfl (nx rfl (nx rfl (nx rfl (nx rfl (nx rfl (nx rfl (nx rfl (nx rfl (nx rfl c9_7))))))))))))))))
      clear e10
      rw [← hQ]
      refine ret0 rfl fun v => ⟨v, rfl, G3, _, pend ++ [((a : Int), (b : Int))], putL (fun a b => a == b) ((a : Int), (b : Int)) (.bool true) l, qv', g3, k5'.trans (j3.mono (by decide)), hT6, ?_, ?_, ?_, ?_, .inr ⟨hab, rfl, rfl⟩⟩
      · rw [j3 25 (by decide)]; exact hm5
      · exact putL_all (p := fun v => ∃ c : Bool, v = .bool c) _ _ l ⟨true, rfl⟩ hlv
      · exact j3.vb (t := 26) (by decide) hqv5
      · rw [j3 27 (by decide)]
        simpa [List.flatMap_append] using hq5
end Go.Proofs.Qxb6001364a
