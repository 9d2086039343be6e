/-
  viewEqual.
-/
import Derived.Test.Qxb6001364aV4
import Derived.Test.Qxb6001364aM2
namespace Go.Proofs.Qxb6001364a
open Go.Fra Go.RowKit Pl
set_option maxRecDepth 100000
set_option linter.unusedVariables false
set_option maxHeartbeats 2000000 in
theorem view15 (w : World) (n k : Nat) (v1 v2 v3 v5 : Value) (nd it pm rk : List Int) (wr : List Bool) (h1 : IntR w v1 nd) (h2 : BoolR w v2 wr) (h3 : IntR w v3 it) (h5 : IntR w v5 pm) (l1 : nd.length ≤ 1048576) (hil : it.length = nd.length) (hwr : wr.length = nd.length)
    (hn : n ≤ 65536) (hk : k ≤ nd.length) (hnd : ∀ v ∈ nd, 0 ≤ v ∧ v < (n : Int)) (hitk : ∀ x ∈ it, 0 ≤ x ∧ x < (k : Int)) (hrk : RankOf n pm rk) :
    Calls Try.prog 15 #[.int .i64 (n : Int), v1, v2, v3, .int .i64 (k : Int), v5] w fun e w' => ∃ b, e = .returned (.bool b) ∧ Below w.heap.size w w' ∧ (b = true → VE (histOf nd it wr) (rkOf rk) k) := by
  obtain ⟨a1, c1, rfl, hc1⟩ := h1
  obtain ⟨a2, c2, rfl, hc2⟩ := h2
  obtain ⟨a3, c3, rfl, hc3⟩ := h3
  obtain ⟨a5, c5, rfl, hc5⟩ := h5
  generalize hH : histOf nd it wr = H
  have Hm : H.m = nd.length := by rw [← hH]; rfl
  have Hnd : ∀ i (h : i < nd.length), nd[i] = (H.nd i : Int) ∧ H.nd i < n := by
    intro i h
    have := hnd nd[i] (List.getElem_mem _)
    have e : H.nd i = (nd[i]).toNat := by
      rw [← hH]
      simp only [histOf, List.getD_eq_getElem?_getD, List.getElem?_eq_getElem h, Option.getD_some]
    omega
  have Hit : ∀ i (h : i < it.length), it[i] = (H.it i : Int) ∧ H.it i < k := by
    intro i h
    have := hitk it[i] (List.getElem_mem _)
    have e : H.it i = (it[i]).toNat := by
      rw [← hH]
      simp only [histOf, List.getD_eq_getElem?_getD, List.getElem?_eq_getElem h, Option.getD_some]
    omega
  have Hwr : ∀ i (h : i < wr.length), wr[i] = H.wr i := by
    intro i h
    rw [← hH]
    simp [histOf, List.getD_eq_getElem?_getD, List.getElem?_eq_getElem h]
  clear hnd hitk
  have C1 : ∀ i (h : i < nd.length) wi, Below w.heap.size w wi → ∃ b o, a1 = some ⟨b, o, none⟩ ∧ wi.cell? ⟨b, o + i, none⟩ = some (.int .i64 (H.nd i : Int)) := by
    intro i h wi hb
    obtain ⟨b, o, e, hc⟩ := hc1 i h
    exact ⟨b, o, e, by rw [hb.cell (World.block_lt_of_cell? w _ hc), hc, (Hnd i h).1]⟩
  have C2 : ∀ i (h : i < nd.length) wi, Below w.heap.size w wi → ∃ b o, a2 = some ⟨b, o, none⟩ ∧ wi.cell? ⟨b, o + i, none⟩ = some (.bool (H.wr i)) := by
    intro i h wi hb
    obtain ⟨b, o, e, hc⟩ := hc2 i (by omega)
    exact ⟨b, o, e, by rw [hb.cell (World.block_lt_of_cell? w _ hc), hc, Hwr i (by omega)]⟩
  have C3 : ∀ i (h : i < nd.length) wi, Below w.heap.size w wi → ∃ b o, a3 = some ⟨b, o, none⟩ ∧ wi.cell? ⟨b, o + i, none⟩ = some (.int .i64 (H.it i : Int)) := by
    intro i h wi hb
    obtain ⟨b, o, e, hc⟩ := hc3 i (by omega)
    exact ⟨b, o, e, by rw [hb.cell (World.block_lt_of_cell? w _ hc), hc, (Hit i (by omega)).1]⟩
  clear hc1 hc2 hc3
  refine enter (args := [.int .i64 (n : Int), .slice a1 nd.length c1, .slice a2 wr.length c2, .slice a3 it.length c3, .int .i64 (k : Int), .slice a5 pm.length c5]) Try.func15 rfl Try.ntmps15 rfl ?_
  generalize hQ : bodyPost Try.prog Try.f15 _ = Q
  have hF : ∀ τ w', τ 12 = .bool false → Below w.heap.size w w' → Q .ret (Fr 207 τ) w' := by
    intro τ w' h hb
    rw [← hQ]
    exact ret1 rfl rfl h ⟨false, rfl, hb, fun h => by cases h⟩
  have s0 : frame0 [Value.int .i64 (n : Int), .slice a1 nd.length c1, .slice a2 wr.length c2, .slice a3 it.length c3, .int .i64 (k : Int), .slice a5 pm.length c5] 0 = .int .i64 (n : Int) := rfl
  have s1 : frame0 [Value.int .i64 (n : Int), .slice a1 nd.length c1, .slice a2 wr.length c2, .slice a3 it.length c3, .int .i64 (k : Int), .slice a5 pm.length c5] 1 = .slice a1 nd.length c1 := rfl
  have s2 : frame0 [Value.int .i64 (n : Int), .slice a1 nd.length c1, .slice a2 wr.length c2, .slice a3 it.length c3, .int .i64 (k : Int), .slice a5 pm.length c5] 2 = .slice a2 wr.length c2 := rfl
  have s3 : frame0 [Value.int .i64 (n : Int), .slice a1 nd.length c1, .slice a2 wr.length c2, .slice a3 it.length c3, .int .i64 (k : Int), .slice a5 pm.length c5] 3 = .slice a3 it.length c3 := rfl
  have s4 : frame0 [Value.int .i64 (n : Int), .slice a1 nd.length c1, .slice a2 wr.length c2, .slice a3 it.length c3, .int .i64 (k : Int), .slice a5 pm.length c5] 4 = .int .i64 (k : Int) := rfl
  have s5 : frame0 [Value.int .i64 (n : Int), .slice a1 nd.length c1, .slice a2 wr.length c2, .slice a3 it.length c3, .int .i64 (k : Int), .slice a5 pm.length c5] 5 = .slice a5 pm.length c5 := rfl
  generalize frame0 [Value.int .i64 (n : Int), .slice a1 nd.length c1, .slice a2 wr.length c2, .slice a3 it.length c3, .int .i64 (k : Int), .slice a5 pm.length c5] = σ at *
  refine wp_seq_k (fun K1 hK1 => ?_)
  refine reg ?_
  refine sq rfl (do_assign ck) ?_
  refine wnil ?_
  refine hK1 _ _ ?_
  clear hK1
  refine wp_seq_k (fun K2 hK2 => ?_)
  refine reg ?_
  refine sq rfl (do_move (tm rfl (nx rfl s1))) ?_
  refine sq rfl (do_len Try.underlying22 (tm rfl hit)) ?_
  refine sq rfl (do_assign (tm rfl hit)) ?_
  refine cutL ?_
  intro τ3 e3
  have c3_0 := (congrFun e3 0).trans (nx rfl (nx rfl (nx rfl (nx rfl s0))))
  have c3_1 := (congrFun e3 1).trans (nx rfl (nx rfl (nx rfl (nx rfl s1))))
  have c3_2 := (congrFun e3 2).trans (nx rfl (nx rfl (nx rfl (nx rfl s2))))
  have c3_3 := (congrFun e3 3).trans (nx rfl (nx rfl (nx rfl (nx rfl s3))))
  have c3_4 := (congrFun e3 4).trans (nx rfl (nx rfl (nx rfl (nx rfl s4))))
  have c3_5 := (congrFun e3 5).trans (nx rfl (nx rfl (nx rfl (nx rfl s5))))
  have c3_12 := (congrFun e3 12).trans (nx rfl (nx rfl (nx rfl hit)))
  have c3_13 := (congrFun e3 13).trans hit
  clear e3
  refine wnil ?_
  refine hK2 _ _ ?_
  clear hK2
  refine wp_seq_k (fun K4 hK4 => ?_)
  refine reg ?_
  refine sq rfl (do_move (tm rfl c3_13)) ?_
  refine sq rfl (mk22 (tm rfl hit) (tm rfl hit) l1) ?_
  refine sq rfl (do_assign (tm rfl hit)) ?_
  refine cutW ?_
  intro τ5 e5 wa hwa
  have c5_0 := (congrFun e5 0).trans (nx rfl (nx rfl (nx rfl c3_0)))
  have c5_1 := (congrFun e5 1).trans (nx rfl (nx rfl (nx rfl c3_1)))
  have c5_2 := (congrFun e5 2).trans (nx rfl (nx rfl (nx rfl c3_2)))
  have c5_3 := (congrFun e5 3).trans (nx rfl (nx rfl (nx rfl c3_3)))
  have c5_4 := (congrFun e5 4).trans (nx rfl (nx rfl (nx rfl c3_4)))
  have c5_5 := (congrFun e5 5).trans (nx rfl (nx rfl (nx rfl c3_5)))
  have c5_12 := (congrFun e5 12).trans (nx rfl (nx rfl (nx rfl c3_12)))
  have c5_13 := (congrFun e5 13).trans (nx rfl (nx rfl (nx rfl c3_13)))
  have c5_14 := (congrFun e5 14).trans hit
  clear e5
  refine wnil ?_
  refine hK4 _ _ ?_
  clear hK4
  have hsa : wa.heap.size = w.heap.size + 1 := by rw [hwa, size_alloc]
  have hFa : ∃ fr : List Int, fr.length = nd.length ∧ Blk wa w.heap.size 3 (ints fr) := by
    refine ⟨List.replicate nd.length 0, by simp, ?_⟩
    have := Blk.new w (madeCells #[.int .i64 0] nd.length) 3
    rw [made_list] at this
    rw [hwa]
    simpa [ints] using this
  have hba : Below w.heap.size w wa := by rw [hwa]; exact (Below.refl _ _).alloc (Nat.le_refl _) _
  clear hwa
  refine wp_seq_k (fun K6 hK6 => ?_)
  refine reg ?_
  refine sq rfl (do_move (tm rfl c5_4)) ?_
  refine sq rfl (mk22 (tm rfl hit) (tm rfl hit) (by omega)) ?_
  refine sq rfl (do_assign (tm rfl hit)) ?_
  refine cutW ?_
  intro τ7 e7 wb hwb
  have c7_0 := (congrFun e7 0).trans (nx rfl (nx rfl (nx rfl c5_0)))
  have c7_1 := (congrFun e7 1).trans (nx rfl (nx rfl (nx rfl c5_1)))
  have c7_2 := (congrFun e7 2).trans (nx rfl (nx rfl (nx rfl c5_2)))
  have c7_3 := (congrFun e7 3).trans (nx rfl (nx rfl (nx rfl c5_3)))
  have c7_4 := (congrFun e7 4).trans (nx rfl (nx rfl (nx rfl c5_4)))
  have c7_5 := (congrFun e7 5).trans (nx rfl (nx rfl (nx rfl c5_5)))
  have c7_12 := (congrFun e7 12).trans (nx rfl (nx rfl (nx rfl c5_12)))
  have c7_13 := (congrFun e7 13).trans (nx rfl (nx rfl (nx rfl c5_13)))
  have c7_14 := (congrFun e7 14).trans (nx rfl (nx rfl (nx rfl c5_14)))
  have c7_15 := (congrFun e7 15).trans hit
  clear e7
  refine wnil ?_
  refine hK6 _ _ ?_
  clear hK6
  have hsb : wb.heap.size = w.heap.size + 2 := by rw [hwb, size_alloc, hsa]
  have hLb : ∃ la : List Int, la.length = k ∧ Blk wb wa.heap.size 3 (ints la) := by
    refine ⟨List.replicate k 0, by simp, ?_⟩
    have := Blk.new wa (madeCells #[.int .i64 0] k) 3
    rw [made_list] at this
    rw [hwb]
    simpa [ints] using this
  have hbb : Below w.heap.size w wb := by rw [hwb]; exact hba.alloc (by omega) _
  have hFb : ∃ fr : List Int, fr.length = nd.length ∧ Blk wb w.heap.size 3 (ints fr) := by
    obtain ⟨fr, h1, h2⟩ := hFa
    exact ⟨fr, h1, h2.of_eq (by rw [hwb, heap_al (by omega)])⟩
  clear hwb hFa hba
  generalize wa.heap.size = bl at *
  subst hsa
  refine wp_seq_k (fun K8 hK8 => ?_)
  refine wp_seq_k (fun K9 hK9 => ?_)
  refine reg ?_
  refine sq rfl (do_assign (v := .int .i64 ((0 : Nat) : Int)) rfl) ?_
  refine wnil ?_
  refine hK9 _ _ ?_
  clear hK9
  refine forLoop (N := 207) (fun r τ wi => ∃ (i : Nat) (la fr : List Int), r = k - i ∧ i ≤ k ∧ τ 0 = .int .i64 (n : Int) ∧ τ 1 = .slice a1 nd.length c1 ∧ τ 2 = .slice a2 wr.length c2 ∧ τ 3 = .slice a3 it.length c3 ∧ τ 4 = .int .i64 (k : Int) ∧ τ 5 = .slice a5 pm.length c5 ∧ τ 13 = .int .i64 (nd.length : Int) ∧ τ 14 = .slice (some ⟨w.heap.size, 0, none⟩) nd.length nd.length ∧ τ 15 = .slice (some ⟨w.heap.size + 1, 0, none⟩) k k ∧ τ 16 = .int .i64 (i : Int) ∧
      la.length = k ∧ fr.length = nd.length ∧ Blk wi (w.heap.size + 1) 3 (ints la) ∧ Blk wi w.heap.size 3 (ints fr) ∧ (∀ x, x < i → la[x]? = some (-1)) ∧ wi.heap.size = w.heap.size + 2 ∧ Below w.heap.size w wi)
    (fun τ wi => ∃ (la fr : List Int), τ 0 = .int .i64 (n : Int) ∧ τ 1 = .slice a1 nd.length c1 ∧ τ 2 = .slice a2 wr.length c2 ∧ τ 3 = .slice a3 it.length c3 ∧ τ 4 = .int .i64 (k : Int) ∧ τ 5 = .slice a5 pm.length c5 ∧ τ 13 = .int .i64 (nd.length : Int) ∧ τ 14 = .slice (some ⟨w.heap.size, 0, none⟩) nd.length nd.length ∧ τ 15 = .slice (some ⟨w.heap.size + 1, 0, none⟩) k k ∧
      la.length = k ∧ fr.length = nd.length ∧ Blk wi (w.heap.size + 1) 3 (ints la) ∧ Blk wi w.heap.size 3 (ints fr) ∧ (∀ x, x < k → la[x]? = some (-1)) ∧ wi.heap.size = w.heap.size + 2 ∧ Below w.heap.size w wi) k ?_ ?_ ?_
  · obtain ⟨la, hll, hLb⟩ := hLb
    obtain ⟨fr, hfl, hFb⟩ := hFb
    exact ⟨0, la, fr, rfl, Nat.zero_le _, (nx rfl c7_0), (nx rfl c7_1), (nx rfl c7_2), (nx rfl c7_3), (nx rfl c7_4), (nx rfl c7_5), (nx rfl c7_13), (nx rfl c7_14), (nx rfl c7_15), hit, hll, hfl, hLb, hFb, fun x hx => by omega, hsb, hbb⟩
  · clear s0 s1 s2 s3 s4 s5 hLb hFb hsb hbb
    rintro Q' r τ wi hnn hx hr ⟨i, la, fr, rfl, hi, t0, t1, t2, t3, t4, t5, t13, t14, t15, t16, hll, hfl, hL, hFr, hla, hsz, hbel⟩
    refine wp_seq_k (fun K10 hK10 => ?_)
    refine wp_seq_k (fun K11 hK11 => ?_)
    refine reg ?_
    refine sq rfl (do_move (tm rfl t16)) ?_
    refine sq rfl (do_move (tm rfl (nx rfl t4))) ?_
    refine sq rfl (do_lss (tm rfl (nx rfl hit)) (tm rfl hit)) ?_
    refine wnil ?_
    refine hK11 _ _ ?_
    clear hK11
    by_cases h : i < k
    · refine cT rfl hit (by simpa using h) ?_
      refine wp_skip ?_
      refine hK10 _ _ ?_
      clear hK10
      refine wp_seq_k (fun K12 hK12 => ?_)
      refine wp_block ?_
      refine reg ?_
      refine sq rfl (do_move (tm rfl (nx rfl (nx rfl (nx rfl t15))))) ?_
      refine sq rfl (do_move (tm rfl (nx rfl (nx rfl (nx rfl (nx rfl t16)))))) ?_
      refine sq rfl (ix22 (tm rfl (nx rfl hit)) (tm rfl hit) (by omega)) ?_
      refine sqn (do_store T3 (tm rfl hit) ck rfl (hL.cell (ints_get la i (by omega))) (hL.frozen _)) ?_
      refine cutW ?_
      intro τ13 e13 w2 hw2
      have c13_0 := (congrFun e13 0).trans (nx rfl (nx rfl (nx rfl (nx rfl (nx rfl (nx rfl t0))))))
      have c13_1 := (congrFun e13 1).trans (nx rfl (nx rfl (nx rfl (nx rfl (nx rfl (nx rfl t1))))))
      have c13_2 := (congrFun e13 2).trans (nx rfl (nx rfl (nx rfl (nx rfl (nx rfl (nx rfl t2))))))
      have c13_3 := (congrFun e13 3).trans (nx rfl (nx rfl (nx rfl (nx rfl (nx rfl (nx rfl t3))))))
      have c13_4 := (congrFun e13 4).trans (nx rfl (nx rfl (nx rfl (nx rfl (nx rfl (nx rfl t4))))))
      have c13_5 := (congrFun e13 5).trans (nx rfl (nx rfl (nx rfl (nx rfl (nx rfl (nx rfl t5))))))
      have c13_13 := (congrFun e13 13).trans (nx rfl (nx rfl (nx rfl (nx rfl (nx rfl (nx rfl t13))))))
      have c13_14 := (congrFun e13 14).trans (nx rfl (nx rfl (nx rfl (nx rfl (nx rfl (nx rfl t14))))))
      have c13_15 := (congrFun e13 15).trans (nx rfl (nx rfl (nx rfl (nx rfl (nx rfl (nx rfl t15))))))
      have c13_16 := (congrFun e13 16).trans (nx rfl (nx rfl (nx rfl (nx rfl (nx rfl (nx rfl t16))))))
      clear e13
      refine wnil ?_
      refine inBN ?_
      refine hK12 _ _ ?_
      clear hK12
      refine reg ?_
      refine sq rfl (do_move (tm rfl c13_16)) ?_
      refine sq rfl (do_inc (tm rfl hit) ck (by omega)) ?_
      refine sq rfl (do_assign (tm rfl hit)) ?_
      refine wnil ?_
      refine hnn (k - (i + 1)) _ _ (by omega) ⟨i + 1, la.set i (-1), fr, rfl, by omega, (nx rfl (nx rfl (nx rfl c13_0))), (nx rfl (nx rfl (nx rfl c13_1))), (nx rfl (nx rfl (nx rfl c13_2))), (nx rfl (nx rfl (nx rfl c13_3))), (nx rfl (nx rfl (nx rfl c13_4))), (nx rfl (nx rfl (nx rfl c13_5))), (nx rfl (nx rfl (nx rfl c13_13))), (nx rfl (nx rfl (nx rfl c13_14))), (nx rfl (nx rfl (nx rfl c13_15))), hit, by simp [hll], hfl, ?_, hFr.of_eq (by rw [hw2, heap_set (by simp)]), ?_, by rw [hw2, size_set, hsz], ?_⟩
      · rw [hw2, ← ints_set]; exact hL.set _ _
      · intro x hx
        by_cases hxi : i = x
        · subst hxi; exact List.getElem?_set_self (by omega)
        · rw [List.getElem?_set_ne hxi]; exact hla x (by omega)
      · rw [hw2]; exact hbel.setCell (by simp) _
    · refine cF rfl hit (by simpa using h) ?_
      refine wp_exit ?_
      refine thenE ?_
      exact hx _ _ ⟨la, fr, (nx rfl (nx rfl (nx rfl t0))), (nx rfl (nx rfl (nx rfl t1))), (nx rfl (nx rfl (nx rfl t2))), (nx rfl (nx rfl (nx rfl t3))), (nx rfl (nx rfl (nx rfl t4))), (nx rfl (nx rfl (nx rfl t5))), (nx rfl (nx rfl (nx rfl t13))), (nx rfl (nx rfl (nx rfl t14))), (nx rfl (nx rfl (nx rfl t15))), hll, hfl, hL, hFr, fun x hx => hla x (by omega), hsz, hbel⟩
  clear s0 s1 s2 s3 s4 s5 hLb hFb hsb hbb
  rintro τ wi ⟨la, fr, t0, t1, t2, t3, t4, t5, t13, t14, t15, hll, hfl, hL, hFr, hla, hsz, hbel⟩
  refine hK8 _ _ ?_
  clear hK8
  refine wp_seq_k (fun K14 hK14 => ?_)
  refine wp_seq_k (fun K15 hK15 => ?_)
  refine reg ?_
  refine sq rfl (do_assign (v := .int .i64 ((0 : Nat) : Int)) rfl) ?_
  refine wnil ?_
  refine hK15 _ _ ?_
  clear hK15
  refine forLoop (N := 207) (fun r τ wi => ∃ (i : Nat) (la fr : List Int), r = nd.length - i ∧ i ≤ nd.length ∧ τ 0 = .int .i64 (n : Int) ∧ τ 1 = .slice a1 nd.length c1 ∧ τ 2 = .slice a2 wr.length c2 ∧ τ 3 = .slice a3 it.length c3 ∧ τ 4 = .int .i64 (k : Int) ∧ τ 5 = .slice a5 pm.length c5 ∧ τ 13 = .int .i64 (nd.length : Int) ∧ τ 14 = .slice (some ⟨w.heap.size, 0, none⟩) nd.length nd.length ∧ τ 15 = .slice (some ⟨w.heap.size + 1, 0, none⟩) k k ∧ τ 17 = .int .i64 (i : Int) ∧
      la.length = k ∧ fr.length = nd.length ∧ Blk wi (w.heap.size + 1) 3 (ints la) ∧ Blk wi w.heap.size 3 (ints fr) ∧ (∀ x, x < k → la[x]? = some (lw H i x)) ∧ (∀ j, j < i → H.wr j = false → fr[j]? = some (lw H j (H.it j))) ∧ wi.heap.size = w.heap.size + 2 ∧ Below w.heap.size w wi)
    (fun τ wi => ∃ (la fr : List Int), τ 0 = .int .i64 (n : Int) ∧ τ 1 = .slice a1 nd.length c1 ∧ τ 2 = .slice a2 wr.length c2 ∧ τ 3 = .slice a3 it.length c3 ∧ τ 4 = .int .i64 (k : Int) ∧ τ 5 = .slice a5 pm.length c5 ∧ τ 13 = .int .i64 (nd.length : Int) ∧ τ 14 = .slice (some ⟨w.heap.size, 0, none⟩) nd.length nd.length ∧ τ 15 = .slice (some ⟨w.heap.size + 1, 0, none⟩) k k ∧
      la.length = k ∧ fr.length = nd.length ∧ Blk wi (w.heap.size + 1) 3 (ints la) ∧ Blk wi w.heap.size 3 (ints fr) ∧ (∀ x, x < k → la[x]? = some (lw H nd.length x)) ∧ (∀ j, j < nd.length → H.wr j = false → fr[j]? = some (lw H j (H.it j))) ∧ wi.heap.size = w.heap.size + 2 ∧ Below w.heap.size w wi) nd.length ?_ ?_ ?_
  · exact ⟨0, la, fr, rfl, Nat.zero_le _, (nx rfl t0), (nx rfl t1), (nx rfl t2), (nx rfl t3), (nx rfl t4), (nx rfl t5), (nx rfl t13), (nx rfl t14), (nx rfl t15), hit, hll, hfl, hL, hFr, hla, fun j hj => by omega, hsz, hbel⟩
  · clear t0 t1 t2 t3 t4 t5 t13 t14 t15 hll hfl hL hFr hla hsz hbel
    rintro Q' r τ wi hnn hx hr ⟨i, la, fr, rfl, hi, t0, t1, t2, t3, t4, t5, t13, t14, t15, t17, hll, hfl, hL, hFr, hla, hfr, hsz, hbel⟩
    refine wp_seq_k (fun K16 hK16 => ?_)
    refine wp_seq_k (fun K17 hK17 => ?_)
    refine reg ?_
    refine sq rfl (do_move (tm rfl t17)) ?_
    refine sq rfl (do_move (tm rfl (nx rfl t13))) ?_
    refine sq rfl (do_lss (tm rfl (nx rfl hit)) (tm rfl hit)) ?_
    refine wnil ?_
    refine hK17 _ _ ?_
    clear hK17
    by_cases h : i < nd.length
    · refine cT rfl hit (by simpa using h) ?_
      refine wp_skip ?_
      refine hK16 _ _ ?_
      clear hK16
      obtain ⟨b2, o2, rfl, d2⟩ := C2 i h wi hbel
      obtain ⟨b3, o3, rfl, d3⟩ := C3 i h wi hbel
      have hxk := (Hit i (by omega)).2
      refine wp_seq_k (fun K18 hK18 => ?_)
      refine wp_block ?_
      refine wp_seq_k (fun K19 hK19 => ?_)
      refine reg ?_
      refine sq rfl (do_move (tm rfl (nx rfl (nx rfl (nx rfl t2))))) ?_
      refine sq rfl (do_move (tm rfl (nx rfl (nx rfl (nx rfl (nx rfl t17)))))) ?_
      refine sq rfl (io23 (tm rfl (nx rfl hit)) (tm rfl hit) (by omega)) ?_
      refine sq rfl (do_load T4 rfl (tm rfl hit) d2) ?_
      refine cutL ?_
      intro τ20 e20
      have c20_0 := (congrFun e20 0).trans (nx rfl (nx rfl (nx rfl (nx rfl (nx rfl (nx rfl (nx rfl t0)))))))
      have c20_1 := (congrFun e20 1).trans (nx rfl (nx rfl (nx rfl (nx rfl (nx rfl (nx rfl (nx rfl t1)))))))
      have c20_2 := (congrFun e20 2).trans (nx rfl (nx rfl (nx rfl (nx rfl (nx rfl (nx rfl (nx rfl t2)))))))
      have c20_3 := (congrFun e20 3).trans (nx rfl (nx rfl (nx rfl (nx rfl (nx rfl (nx rfl (nx rfl t3)))))))
      have c20_4 := (congrFun e20 4).trans (nx rfl (nx rfl (nx rfl (nx rfl (nx rfl (nx rfl (nx rfl t4)))))))
      have c20_5 := (congrFun e20 5).trans (nx rfl (nx rfl (nx rfl (nx rfl (nx rfl (nx rfl (nx rfl t5)))))))
      have c20_13 := (congrFun e20 13).trans (nx rfl (nx rfl (nx rfl (nx rfl (nx rfl (nx rfl (nx rfl t13)))))))
      have c20_14 := (congrFun e20 14).trans (nx rfl (nx rfl (nx rfl (nx rfl (nx rfl (nx rfl (nx rfl t14)))))))
      have c20_15 := (congrFun e20 15).trans (nx rfl (nx rfl (nx rfl (nx rfl (nx rfl (nx rfl (nx rfl t15)))))))
      have c20_17 := (congrFun e20 17).trans (nx rfl (nx rfl (nx rfl (nx rfl (nx rfl (nx rfl (nx rfl t17)))))))
      have c20_55 := (congrFun e20 55).trans hit
      clear e20
      refine wnil ?_
      refine hK19 _ _ ?_
      clear hK19
      by_cases hw : H.wr i = true
      · refine cT rfl c20_55 hw ?_
        refine reg ?_
        refine sq rfl (do_move (tm rfl c20_15)) ?_
        refine sq rfl (do_move (tm rfl (nx rfl c20_3))) ?_
        refine sq rfl (do_move (tm rfl (nx rfl (nx rfl c20_17)))) ?_
        refine sq rfl (io22 (tm rfl (nx rfl hit)) (tm rfl hit) (by omega)) ?_
        refine sq rfl (do_load T3 rfl (tm rfl hit) d3) ?_
        refine sq rfl (do_move (tm rfl (nx rfl (nx rfl (nx rfl (nx rfl (nx rfl c20_17))))))) ?_
        refine sq rfl (ix22 (tm rfl (nx rfl (nx rfl (nx rfl (nx rfl (nx rfl hit)))))) (tm rfl (nx rfl hit)) (by omega)) ?_
        refine sqn (do_store T3 (tm rfl hit) (tm rfl (nx rfl hit)) rfl (hL.cell (ints_get la (H.it i) (by omega))) (hL.frozen _)) ?_
        refine cutW ?_
        intro τ21 e21 w2 hw2
        have c21_0 := (congrFun e21 0).trans (nx rfl (nx rfl (nx rfl (nx rfl (nx rfl (nx rfl (nx rfl c20_0)))))))
        have c21_1 := (congrFun e21 1).trans (nx rfl (nx rfl (nx rfl (nx rfl (nx rfl (nx rfl (nx rfl c20_1)))))))
        have c21_2 := (congrFun e21 2).trans (nx rfl (nx rfl (nx rfl (nx rfl (nx rfl (nx rfl (nx rfl c20_2)))))))
        have c21_3 := (congrFun e21 3).trans (nx rfl (nx rfl (nx rfl (nx rfl (nx rfl (nx rfl (nx rfl c20_3)))))))
        have c21_4 := (congrFun e21 4).trans (nx rfl (nx rfl (nx rfl (nx rfl (nx rfl (nx rfl (nx rfl c20_4)))))))
        have c21_5 := (congrFun e21 5).trans (nx rfl (nx rfl (nx rfl (nx rfl (nx rfl (nx rfl (nx rfl c20_5)))))))
        have c21_13 := (congrFun e21 13).trans (nx rfl (nx rfl (nx rfl (nx rfl (nx rfl (nx rfl (nx rfl c20_13)))))))
        have c21_14 := (congrFun e21 14).trans (nx rfl (nx rfl (nx rfl (nx rfl (nx rfl (nx rfl (nx rfl c20_14)))))))
        have c21_15 := (congrFun e21 15).trans (nx rfl (nx rfl (nx rfl (nx rfl (nx rfl (nx rfl (nx rfl c20_15)))))))
        have c21_17 := (congrFun e21 17).trans (nx rfl (nx rfl (nx rfl (nx rfl (nx rfl (nx rfl (nx rfl c20_17)))))))
        clear e21
        refine wnil ?_
        refine inBN ?_
        refine hK18 _ _ ?_
        clear hK18
        refine reg ?_
        refine sq rfl (do_move (tm rfl c21_17)) ?_
        refine sq rfl (do_inc (tm rfl hit) ck (by omega)) ?_
        refine sq rfl (do_assign (tm rfl hit)) ?_
        refine wnil ?_
        refine hnn (nd.length - (i + 1)) _ _ (by omega) ⟨i + 1, la.set (H.it i) (i : Int), fr, rfl, by omega, (nx rfl (nx rfl (nx rfl c21_0))), (nx rfl (nx rfl (nx rfl c21_1))), (nx rfl (nx rfl (nx rfl c21_2))), (nx rfl (nx rfl (nx rfl c21_3))), (nx rfl (nx rfl (nx rfl c21_4))), (nx rfl (nx rfl (nx rfl c21_5))), (nx rfl (nx rfl (nx rfl c21_13))), (nx rfl (nx rfl (nx rfl c21_14))), (nx rfl (nx rfl (nx rfl c21_15))), hit, by simp [hll], hfl, ?_, hFr.of_eq (by rw [hw2, heap_set (by simp)]), ?_, ?_, by rw [hw2, size_set, hsz], ?_⟩
        · rw [hw2, ← ints_set]; exact hL.set _ _
        · intro x hx
          by_cases hxi : H.it i = x
          · subst hxi
            rw [List.getElem?_set_self (by omega)]
            simp [lw, hw]
          · rw [List.getElem?_set_ne hxi, hla x hx]
            simp [lw, hxi]
        · intro j hj hwj
          rcases Nat.lt_or_ge j i with h' | h'
          · exact hfr j h' hwj
          · obtain rfl : j = i := by omega
            rw [hw] at hwj; cases hwj
        · rw [hw2]; exact hbel.setCell (by simp) _
      · refine cF rfl c20_55 (by simpa using hw) ?_
        have hlx := hla (H.it i) hxk
        refine reg ?_
        refine sq rfl (do_move (tm rfl c20_14)) ?_
        refine sq rfl (do_move (tm rfl (nx rfl c20_17))) ?_
        refine sq rfl (do_move (tm rfl (nx rfl (nx rfl c20_15)))) ?_
        refine sq rfl (do_move (tm rfl (nx rfl (nx rfl (nx rfl c20_3))))) ?_
        refine sq rfl (do_move (tm rfl (nx rfl (nx rfl (nx rfl (nx rfl c20_17)))))) ?_
        refine sq rfl (io22 (tm rfl (nx rfl hit)) (tm rfl hit) (by omega)) ?_
        refine sq rfl (do_load T3 rfl (tm rfl hit) d3) ?_
        refine sq rfl (ix22 (tm rfl (nx rfl (nx rfl (nx rfl (nx rfl hit))))) (tm rfl hit) (by omega)) ?_
        refine sq rfl (do_load T3 rfl (tm rfl hit) (hL.cell (show (ints la)[H.it i]? = some (.int .i64 (lw H i (H.it i))) by simp [ints, hlx]))) ?_
        refine sq rfl (ix22 (tm rfl (nx rfl (nx rfl (nx rfl (nx rfl (nx rfl (nx rfl (nx rfl (nx rfl hit))))))))) (tm rfl (nx rfl (nx rfl (nx rfl (nx rfl (nx rfl (nx rfl (nx rfl hit)))))))) (by omega)) ?_
        refine sqn (do_store T3 (tm rfl hit) (tm rfl (nx rfl hit)) rfl (hFr.cell (ints_get fr i (by omega))) (hFr.frozen _)) ?_
        refine cutW ?_
        intro τ22 e22 w2 hw2
        have c22_0 := (congrFun e22 0).trans (nx rfl (nx rfl (nx rfl (nx rfl (nx rfl (nx rfl (nx rfl (nx rfl (nx rfl (nx rfl c20_0))))))))))
        have c22_1 := (congrFun e22 1).trans (nx rfl (nx rfl (nx rfl (nx rfl (nx rfl (nx rfl (nx rfl (nx rfl (nx rfl (nx rfl c20_1))))))))))
        have c22_2 := (congrFun e22 2).trans (nx rfl (nx rfl (nx rfl (nx rfl (nx rfl (nx rfl (nx rfl (nx rfl (nx rfl (nx rfl c20_2))))))))))
        have c22_3 := (congrFun e22 3).trans (nx rfl (nx rfl (nx rfl (nx rfl (nx rfl (nx rfl (nx rfl (nx rfl (nx rfl (nx rfl c20_3))))))))))
        have c22_4 := (congrFun e22 4).trans (nx rfl (nx rfl (nx rfl (nx rfl (nx rfl (nx rfl (nx rfl (nx rfl (nx rfl (nx rfl c20_4))))))))))
        have c22_5 := (congrFun e22 5).trans (nx rfl (nx rfl (nx rfl (nx rfl (nx rfl (nx rfl (nx rfl (nx rfl (nx rfl (nx rfl c20_5))))))))))
        have c22_13 := (congrFun e22 13).trans (nx rfl (nx rfl (nx rfl (nx rfl (nx rfl (nx rfl (nx rfl (nx rfl (nx rfl (nx rfl c20_13))))))))))
        have c22_14 := (congrFun e22 14).trans (nx rfl (nx rfl (nx rfl (nx rfl (nx rfl (nx rfl (nx rfl (nx rfl (nx rfl (nx rfl c20_14))))))))))
        have c22_15 := (congrFun e22 15).trans (nx rfl (nx rfl (nx rfl (nx rfl (nx rfl (nx rfl (nx rfl (nx rfl (nx rfl (nx rfl c20_15))))))))))
        have c22_17 := (congrFun e22 17).trans (nx rfl (nx rfl (nx rfl (nx rfl (nx rfl (nx rfl (nx rfl (nx rfl (nx rfl (nx rfl c20_17))))))))))
        clear e22
        refine wnil ?_
        refine inBN ?_
        refine hK18 _ _ ?_
        clear hK18
        refine reg ?_
        refine sq rfl (do_move (tm rfl c22_17)) ?_
        refine sq rfl (do_inc (tm rfl hit) ck (by omega)) ?_
        refine sq rfl (do_assign (tm rfl hit)) ?_
        refine wnil ?_
        refine hnn (nd.length - (i + 1)) _ _ (by omega) ⟨i + 1, la, fr.set i (lw H i (H.it i)), rfl, by omega, (nx rfl (nx rfl (nx rfl c22_0))), (nx rfl (nx rfl (nx rfl c22_1))), (nx rfl (nx rfl (nx rfl c22_2))), (nx rfl (nx rfl (nx rfl c22_3))), (nx rfl (nx rfl (nx rfl c22_4))), (nx rfl (nx rfl (nx rfl c22_5))), (nx rfl (nx rfl (nx rfl c22_13))), (nx rfl (nx rfl (nx rfl c22_14))), (nx rfl (nx rfl (nx rfl c22_15))), hit, hll, by simp [hfl], hL.of_eq (by rw [hw2, heap_set (by simp)]), ?_, ?_, ?_, by rw [hw2, size_set, hsz], ?_⟩
        · rw [hw2, ← ints_set]; exact hFr.set _ _
        · intro x hx
          rw [hla x hx]
          simp [lw, hw]
        · intro j hj hwj
          by_cases hij : i = j
          · subst hij; exact List.getElem?_set_self (by omega)
          · rw [List.getElem?_set_ne hij]; exact hfr j (by omega) hwj
        · rw [hw2]; exact hbel.setCell (by simp) _
    · refine cF rfl hit (by simpa using h) ?_
      refine wp_exit ?_
      refine thenE ?_
      obtain rfl : i = nd.length := by omega
      exact hx _ _ ⟨la, fr, (nx rfl (nx rfl (nx rfl t0))), (nx rfl (nx rfl (nx rfl t1))), (nx rfl (nx rfl (nx rfl t2))), (nx rfl (nx rfl (nx rfl t3))), (nx rfl (nx rfl (nx rfl t4))), (nx rfl (nx rfl (nx rfl t5))), (nx rfl (nx rfl (nx rfl t13))), (nx rfl (nx rfl (nx rfl t14))), (nx rfl (nx rfl (nx rfl t15))), hll, hfl, hL, hFr, hla, hfr, hsz, hbel⟩
  clear t0 t1 t2 t3 t4 t5 t13 t14 t15 hll hfl hL hFr hla hsz hbel
  rintro τ wi ⟨la, fr, t0, t1, t2, t3, t4, t5, t13, t14, t15, hll, hfl, hL, hFr, hla, hfr, hsz, hbel⟩
  refine hK14 _ _ ?_
  clear hK14
  have HM : ∀ j, j < H.m → H.nd j < n := fun j hj => (Hnd j (by omega)).2
  refine wp_seq_k (fun K23 hK23 => ?_)
  refine reg ?_
  refine sq rfl (do_move (tm rfl t0)) ?_
  refine sq rfl (do_inc (tm rfl hit) ck (by omega)) ?_
  refine sq rfl (mk22 (tm rfl hit) (tm rfl hit) (by omega)) ?_
  refine sq rfl (do_assign (tm rfl hit)) ?_
  refine cutW ?_
  intro τ24 e24 wa hwa
  have c24_0 := (congrFun e24 0).trans (nx rfl (nx rfl (nx rfl (nx rfl t0))))
  have c24_1 := (congrFun e24 1).trans (nx rfl (nx rfl (nx rfl (nx rfl t1))))
  have c24_2 := (congrFun e24 2).trans (nx rfl (nx rfl (nx rfl (nx rfl t2))))
  have c24_3 := (congrFun e24 3).trans (nx rfl (nx rfl (nx rfl (nx rfl t3))))
  have c24_4 := (congrFun e24 4).trans (nx rfl (nx rfl (nx rfl (nx rfl t4))))
  have c24_5 := (congrFun e24 5).trans (nx rfl (nx rfl (nx rfl (nx rfl t5))))
  have c24_13 := (congrFun e24 13).trans (nx rfl (nx rfl (nx rfl (nx rfl t13))))
  have c24_14 := (congrFun e24 14).trans (nx rfl (nx rfl (nx rfl (nx rfl t14))))
  have c24_15 := (congrFun e24 15).trans (nx rfl (nx rfl (nx rfl (nx rfl t15))))
  have c24_18 := (congrFun e24 18).trans hit
  clear e24
  refine wnil ?_
  refine hK23 _ _ ?_
  clear hK23
  have hsa : wa.heap.size = w.heap.size + 3 := by rw [hwa, size_alloc, hsz]
  have hSt : Blk wa (wi.heap.size) 3 (ints (List.replicate (n + 1) 0)) := by
    have := Blk.new wi (madeCells #[.int .i64 0] (n + 1)) 3
    rw [made_list] at this
    rw [hwa]
    simpa [ints] using this
  have hba : Below w.heap.size w wa := by rw [hwa]; exact hbel.alloc (by omega) _
  have hL : Blk wa (w.heap.size + 1) 3 (ints la) := hL.of_eq (by rw [hwa, heap_al (by omega)])
  have hFr : Blk wa w.heap.size 3 (ints fr) := hFr.of_eq (by rw [hwa, heap_al (by omega)])
  clear hwa hbel
  generalize wi.heap.size = bl at *
  subst hsz
  refine wp_seq_k (fun K25 hK25 => ?_)
  refine wp_seq_k (fun K26 hK26 => ?_)
  refine reg ?_
  refine sq rfl (do_assign (v := .int .i64 ((0 : Nat) : Int)) rfl) ?_
  refine wnil ?_
  refine hK26 _ _ ?_
  clear hK26
  refine forLoop (N := 207) (fun r τ wi => ∃ (i : Nat) (st : List Int), r = nd.length - i ∧ i ≤ nd.length ∧ τ 0 = .int .i64 (n : Int) ∧ τ 1 = .slice a1 nd.length c1 ∧ τ 2 = .slice a2 wr.length c2 ∧ τ 3 = .slice a3 it.length c3 ∧ τ 4 = .int .i64 (k : Int) ∧ τ 5 = .slice a5 pm.length c5 ∧ τ 13 = .int .i64 (nd.length : Int) ∧ τ 14 = .slice (some ⟨w.heap.size, 0, none⟩) nd.length nd.length ∧ τ 15 = .slice (some ⟨w.heap.size + 1, 0, none⟩) k k ∧ τ 18 = .slice (some ⟨w.heap.size + 2, 0, none⟩) (n + 1) (n + 1) ∧ τ 19 = .int .i64 (i : Int) ∧
      st.length = n + 1 ∧ Blk wi (w.heap.size + 2) 3 (ints st) ∧ st[0]? = some 0 ∧ (∀ u, u < n → st[u + 1]? = some (cE H i u : Int)) ∧ Blk wi (w.heap.size + 1) 3 (ints la) ∧ Blk wi w.heap.size 3 (ints fr) ∧ wi.heap.size = w.heap.size + 3 ∧ Below w.heap.size w wi)
    (fun τ wi => ∃ (st : List Int), τ 0 = .int .i64 (n : Int) ∧ τ 1 = .slice a1 nd.length c1 ∧ τ 2 = .slice a2 wr.length c2 ∧ τ 3 = .slice a3 it.length c3 ∧ τ 4 = .int .i64 (k : Int) ∧ τ 5 = .slice a5 pm.length c5 ∧ τ 13 = .int .i64 (nd.length : Int) ∧ τ 14 = .slice (some ⟨w.heap.size, 0, none⟩) nd.length nd.length ∧ τ 15 = .slice (some ⟨w.heap.size + 1, 0, none⟩) k k ∧ τ 18 = .slice (some ⟨w.heap.size + 2, 0, none⟩) (n + 1) (n + 1) ∧
      st.length = n + 1 ∧ Blk wi (w.heap.size + 2) 3 (ints st) ∧ st[0]? = some 0 ∧ (∀ u, u < n → st[u + 1]? = some (cE H nd.length u : Int)) ∧ Blk wi (w.heap.size + 1) 3 (ints la) ∧ Blk wi w.heap.size 3 (ints fr) ∧ wi.heap.size = w.heap.size + 3 ∧ Below w.heap.size w wi) nd.length ?_ ?_ ?_
  · refine ⟨0, _, rfl, Nat.zero_le _, (nx rfl c24_0), (nx rfl c24_1), (nx rfl c24_2), (nx rfl c24_3), (nx rfl c24_4), (nx rfl c24_5), (nx rfl c24_13), (nx rfl c24_14), (nx rfl c24_15), (nx rfl c24_18), hit, by simp, hSt, by simp, fun u hu => ?_, hL, hFr, hsa, hba⟩
    rw [List.getElem?_replicate, if_pos (by omega)]
    simp [cE]
  · clear t0 t1 t2 t3 t4 t5 t13 t14 t15 hSt hba hL hFr hsa
    rintro Q' r τ wi hnn hx hr ⟨i, st, rfl, hi, t0, t1, t2, t3, t4, t5, t13, t14, t15, t18, t19, hsl, hS, hs0, hse, hL, hFr, hsz, hbel⟩
    refine wp_seq_k (fun K27 hK27 => ?_)
    refine wp_seq_k (fun K28 hK28 => ?_)
    refine reg ?_
    refine sq rfl (do_move (tm rfl t19)) ?_
    refine sq rfl (do_move (tm rfl (nx rfl t13))) ?_
    refine sq rfl (do_lss (tm rfl (nx rfl hit)) (tm rfl hit)) ?_
    refine wnil ?_
    refine hK28 _ _ ?_
    clear hK28
    by_cases h : i < nd.length
    · refine cT rfl hit (by simpa using h) ?_
      refine wp_skip ?_
      refine hK27 _ _ ?_
      clear hK27
      obtain ⟨b1, o1, rfl, d1⟩ := C1 i h wi hbel
      have hxn := (Hnd i h).2
      have hcle := cE_le H (H.nd i) i
      have hsx := hse (H.nd i) hxn
      refine wp_seq_k (fun K29 hK29 => ?_)
      refine wp_block ?_
      refine reg ?_
      refine sq rfl (do_move (tm rfl (nx rfl (nx rfl (nx rfl t18))))) ?_
      refine sq rfl (do_move (tm rfl (nx rfl (nx rfl (nx rfl (nx rfl t1)))))) ?_
      refine sq rfl (do_move (tm rfl (nx rfl (nx rfl (nx rfl (nx rfl (nx rfl t19))))))) ?_
      refine sq rfl (io22 (tm rfl (nx rfl hit)) (tm rfl hit) (by omega)) ?_
      refine sq rfl (do_load T3 rfl (tm rfl hit) d1) ?_
      refine sq rfl (do_inc (tm rfl hit) ck (by omega)) ?_
      refine sq rfl (ix22 (tm rfl (nx rfl (nx rfl (nx rfl (nx rfl (nx rfl hit)))))) (tm rfl hit) (by omega)) ?_
      refine sq rfl (do_load T3 rfl (tm rfl hit) (hS.cell (show (ints st)[H.nd i + 1]? = some (.int .i64 (cE H i (H.nd i) : Int)) by simp [ints, hsx]))) ?_
      refine sq rfl (do_inc (tm rfl hit) ck (by omega)) ?_
      refine sq rfl (ix22 (tm rfl (nx rfl (nx rfl (nx rfl (nx rfl (nx rfl (nx rfl (nx rfl (nx rfl hit))))))))) (tm rfl (nx rfl (nx rfl (nx rfl hit)))) (by omega)) ?_
      refine sqn (do_store T3 (tm rfl hit) (tm rfl (nx rfl hit)) rfl (hS.cell (show (ints st)[H.nd i + 1]? = some (.int .i64 (cE H i (H.nd i) : Int)) by simp [ints, hsx])) (hS.frozen _)) ?_
      refine cutW ?_
      intro τ30 e30 w2 hw2
      have c30_0 := (congrFun e30 0).trans (nx rfl (nx rfl (nx rfl (nx rfl (nx rfl (nx rfl (nx rfl (nx rfl (nx rfl (nx rfl (nx rfl (nx rfl (nx rfl t0)))))))))))))
      have c30_1 := (congrFun e30 1).trans (nx rfl (nx rfl (nx rfl (nx rfl (nx rfl (nx rfl (nx rfl (nx rfl (nx rfl (nx rfl (nx rfl (nx rfl (nx rfl t1)))))))))))))
      have c30_2 := (congrFun e30 2).trans (nx rfl (nx rfl (nx rfl (nx rfl (nx rfl (nx rfl (nx rfl (nx rfl (nx rfl (nx rfl (nx rfl (nx rfl (nx rfl t2)))))))))))))
      have c30_3 := (congrFun e30 3).trans (nx rfl (nx rfl (nx rfl (nx rfl (nx rfl (nx rfl (nx rfl (nx rfl (nx rfl (nx rfl (nx rfl (nx rfl (nx rfl t3)))))))))))))
      have c30_4 := (congrFun e30 4).trans (nx rfl (nx rfl (nx rfl (nx rfl (nx rfl (nx rfl (nx rfl (nx rfl (nx rfl (nx rfl (nx rfl (nx rfl (nx rfl t4)))))))))))))
      have c30_5 := (congrFun e30 5).trans (nx rfl (nx rfl (nx rfl (nx rfl (nx rfl (nx rfl (nx rfl (nx rfl (nx rfl (nx rfl (nx rfl (nx rfl (nx rfl t5)))))))))))))
      have c30_13 := (congrFun e30 13).trans (nx rfl (nx rfl (nx rfl (nx rfl (nx rfl (nx rfl (nx rfl (nx rfl (nx rfl (nx rfl (nx rfl (nx rfl (nx rfl t13)))))))))))))
      have c30_14 := (congrFun e30 14).trans (nx rfl (nx rfl (nx rfl (nx rfl (nx rfl (nx rfl (nx rfl (nx rfl (nx rfl (nx rfl (nx rfl (nx rfl (nx rfl t14)))))))))))))
      have c30_15 := (congrFun e30 15).trans (nx rfl (nx rfl (nx rfl (nx rfl (nx rfl (nx rfl (nx rfl (nx rfl (nx rfl (nx rfl (nx rfl (nx rfl (nx rfl t15)))))))))))))
      have c30_18 := (congrFun e30 18).trans (nx rfl (nx rfl (nx rfl (nx rfl (nx rfl (nx rfl (nx rfl (nx rfl (nx rfl (nx rfl (nx rfl (nx rfl (nx rfl t18)))))))))))))
      have c30_19 := (congrFun e30 19).trans (nx rfl (nx rfl (nx rfl (nx rfl (nx rfl (nx rfl (nx rfl (nx rfl (nx rfl (nx rfl (nx rfl (nx rfl (nx rfl t19)))))))))))))
      clear e30
      refine wnil ?_
      refine inBN ?_
      refine hK29 _ _ ?_
      clear hK29
      refine reg ?_
      refine sq rfl (do_move (tm rfl c30_19)) ?_
      refine sq rfl (do_inc (tm rfl hit) ck (by omega)) ?_
      refine sq rfl (do_assign (tm rfl hit)) ?_
      refine wnil ?_
      refine hnn (nd.length - (i + 1)) _ _ (by omega) ⟨i + 1, st.set (H.nd i + 1) ((cE H i (H.nd i) + 1 : Nat) : Int), rfl, by omega, (nx rfl (nx rfl (nx rfl c30_0))), (nx rfl (nx rfl (nx rfl c30_1))), (nx rfl (nx rfl (nx rfl c30_2))), (nx rfl (nx rfl (nx rfl c30_3))), (nx rfl (nx rfl (nx rfl c30_4))), (nx rfl (nx rfl (nx rfl c30_5))), (nx rfl (nx rfl (nx rfl c30_13))), (nx rfl (nx rfl (nx rfl c30_14))), (nx rfl (nx rfl (nx rfl c30_15))), (nx rfl (nx rfl (nx rfl c30_18))), hit, by simp [hsl], ?_, ?_, ?_, hL.of_eq (by rw [hw2, heap_set (by simp)]), hFr.of_eq (by rw [hw2, heap_set (by simp)]), by rw [hw2, size_set, hsz], ?_⟩
      · rw [hw2, ← ints_set]; exact hS.set _ _
      · rw [List.getElem?_set_ne (by omega)]; exact hs0
      · intro u hu
        by_cases hxi : H.nd i = u
        · subst hxi
          rw [List.getElem?_set_self (by omega)]
          simp [cE]
        · rw [List.getElem?_set_ne (by omega), hse u hu]
          simp [cE, hxi]
      · rw [hw2]; exact hbel.setCell (by simp) _
    · refine cF rfl hit (by simpa using h) ?_
      refine wp_exit ?_
      refine thenE ?_
      obtain rfl : i = nd.length := by omega
      exact hx _ _ ⟨st, (nx rfl (nx rfl (nx rfl t0))), (nx rfl (nx rfl (nx rfl t1))), (nx rfl (nx rfl (nx rfl t2))), (nx rfl (nx rfl (nx rfl t3))), (nx rfl (nx rfl (nx rfl t4))), (nx rfl (nx rfl (nx rfl t5))), (nx rfl (nx rfl (nx rfl t13))), (nx rfl (nx rfl (nx rfl t14))), (nx rfl (nx rfl (nx rfl t15))), (nx rfl (nx rfl (nx rfl t18))), hsl, hS, hs0, hse, hL, hFr, hsz, hbel⟩
  clear t0 t1 t2 t3 t4 t5 t13 t14 t15 hSt hba hL hFr hsa
  rintro τ wi ⟨st, t0, t1, t2, t3, t4, t5, t13, t14, t15, t18, hsl, hS, hs0, hse, hL, hFr, hsz, hbel⟩
  refine hK25 _ _ ?_
  clear hK25
  have hcm : ∀ u, u ≤ n → cL H u ≤ nd.length := by
    intro u hu
    have h1 := cL_mono H u n hu
    have h2 := sE_all H n H.m HM
    rw [cL_sE H n, h2, Hm] at h1
    exact h1
  refine wp_seq_k (fun K31 hK31 => ?_)
  refine wp_seq_k (fun K32 hK32 => ?_)
  refine reg ?_
  refine sq rfl (do_assign (v := .int .i64 ((0 : Nat) : Int)) rfl) ?_
  refine wnil ?_
  refine hK32 _ _ ?_
  clear hK32
  refine forLoop (N := 207) (fun r τ wi => ∃ (v : Nat) (st : List Int), r = n - v ∧ v ≤ n ∧ τ 0 = .int .i64 (n : Int) ∧ τ 1 = .slice a1 nd.length c1 ∧ τ 2 = .slice a2 wr.length c2 ∧ τ 3 = .slice a3 it.length c3 ∧ τ 4 = .int .i64 (k : Int) ∧ τ 5 = .slice a5 pm.length c5 ∧ τ 13 = .int .i64 (nd.length : Int) ∧ τ 14 = .slice (some ⟨w.heap.size, 0, none⟩) nd.length nd.length ∧ τ 15 = .slice (some ⟨w.heap.size + 1, 0, none⟩) k k ∧ τ 18 = .slice (some ⟨w.heap.size + 2, 0, none⟩) (n + 1) (n + 1) ∧ τ 20 = .int .i64 (v : Int) ∧
      st.length = n + 1 ∧ Blk wi (w.heap.size + 2) 3 (ints st) ∧ (∀ u, u ≤ v → st[u]? = some (cL H u : Int)) ∧ (∀ u, v ≤ u → u < n → st[u + 1]? = some (cE H nd.length u : Int)) ∧ Blk wi (w.heap.size + 1) 3 (ints la) ∧ Blk wi w.heap.size 3 (ints fr) ∧ wi.heap.size = w.heap.size + 3 ∧ Below w.heap.size w wi)
    (fun τ wi => ∃ (st : List Int), τ 0 = .int .i64 (n : Int) ∧ τ 1 = .slice a1 nd.length c1 ∧ τ 2 = .slice a2 wr.length c2 ∧ τ 3 = .slice a3 it.length c3 ∧ τ 4 = .int .i64 (k : Int) ∧ τ 5 = .slice a5 pm.length c5 ∧ τ 13 = .int .i64 (nd.length : Int) ∧ τ 14 = .slice (some ⟨w.heap.size, 0, none⟩) nd.length nd.length ∧ τ 15 = .slice (some ⟨w.heap.size + 1, 0, none⟩) k k ∧ τ 18 = .slice (some ⟨w.heap.size + 2, 0, none⟩) (n + 1) (n + 1) ∧
      st.length = n + 1 ∧ Blk wi (w.heap.size + 2) 3 (ints st) ∧ (∀ u, u ≤ n → st[u]? = some (cL H u : Int)) ∧ Blk wi (w.heap.size + 1) 3 (ints la) ∧ Blk wi w.heap.size 3 (ints fr) ∧ wi.heap.size = w.heap.size + 3 ∧ Below w.heap.size w wi) n ?_ ?_ ?_
  · refine ⟨0, st, rfl, Nat.zero_le _, (nx rfl t0), (nx rfl t1), (nx rfl t2), (nx rfl t3), (nx rfl t4), (nx rfl t5), (nx rfl t13), (nx rfl t14), (nx rfl t15), (nx rfl t18), hit, hsl, hS, fun u hu => ?_, fun u _ hu => hse u hu, hL, hFr, hsz, hbel⟩
    obtain rfl : u = 0 := by omega
    exact hs0
  · clear t0 t1 t2 t3 t4 t5 t13 t14 t15 t18 hsl hS hs0 hse hL hFr hsz hbel st
    rintro Q' r τ wi hnn hx hr ⟨v, st, rfl, hi, t0, t1, t2, t3, t4, t5, t13, t14, t15, t18, t20, hsl, hS, hs0, hse, hL, hFr, hsz, hbel⟩
    refine wp_seq_k (fun K33 hK33 => ?_)
    refine wp_seq_k (fun K34 hK34 => ?_)
    refine reg ?_
    refine sq rfl (do_move (tm rfl t20)) ?_
    refine sq rfl (do_move (tm rfl (nx rfl t0))) ?_
    refine sq rfl (do_lss (tm rfl (nx rfl hit)) (tm rfl hit)) ?_
    refine wnil ?_
    refine hK34 _ _ ?_
    clear hK34
    by_cases h : v < n
    · refine cT rfl hit (by simpa using h) ?_
      refine wp_skip ?_
      refine hK33 _ _ ?_
      clear hK33
      have d1 := hS.cell (show (ints st)[v + 1]? = some (.int .i64 (cE H nd.length v : Int)) by simp [ints, hse v (Nat.le_refl _) h])
      have d2 := hS.cell (show (ints st)[v]? = some (.int .i64 (cL H v : Int)) by simp [ints, hs0 v (Nat.le_refl _)])
      have hb1 := hcm v (by omega)
      have hb2 := cE_le H v nd.length
      have hce : cE H nd.length v + cL H v = cL H (v + 1) := by simp only [cL, Hm]; omega
      refine wp_seq_k (fun K35 hK35 => ?_)
      refine wp_block ?_
      refine draw mixed [11] [(0, 0), (0, 0), (0, 0), (0, 0), (0, 0), (0, 0), (0, 0), (0, 0), (0, 0), (0, 0), (0, 0), (0, 0)] [wi.drew.setCell ⟨w.heap.size + 2, v + 1, none⟩ (.int .i64 ((cL H (v + 1) : Nat) : Int))] (wi.drew.setCell ⟨w.heap.size + 2, v + 1, none⟩ (.int .i64 ((cL H (v + 1) : Nat) : Int))) (upd (upd (upd (upd (upd (upd (upd (upd (upd (upd (upd _ 96 _) 97 _) 98 _) 99 _) 100 _) 101 _) 102 _) 103 _) 104 _) 105 _) 106 _) (by kernel_rfl) (fun s hs => ovr_off [(96, _), (97, _), (98, _), (99, _), (100, _), (101, _), (102, _), (103, _), (104, _), (105, _), (106, _)] _ s hs) ⟨(qa rfl (fun _ => (do_move (tm rfl (nx rfl (nx rfl (nx rfl (nx rfl (nx rfl (nx rfl (nx rfl (nx rfl (nx rfl (nx rfl (nx rfl (nx rfl (nx rfl (nx rfl t18))))))))))))))))) (nx rfl (nx rfl (nx rfl (nx rfl (nx rfl (nx rfl (nx rfl (nx rfl (nx rfl (nx rfl hit))))))))))), (qa rfl (fun _ => (do_move (tm rfl (nx rfl (nx rfl (nx rfl (nx rfl (nx rfl (nx rfl (nx rfl (nx rfl (nx rfl (nx rfl (nx rfl (nx rfl (nx rfl (nx rfl t20))))))))))))))))) (nx rfl (nx rfl (nx rfl (nx rfl (nx rfl (nx rfl (nx rfl (nx rfl (nx rfl hit)))))))))), (qa rfl (fun _ => (do_inc (tm rfl (nx rfl (nx rfl (nx rfl (nx rfl (nx rfl (nx rfl (nx rfl (nx rfl (nx rfl hit)))))))))) ck (by omega))) (nx rfl (nx rfl (nx rfl (nx rfl (nx rfl (nx rfl (nx rfl (nx rfl hit))))))))), (qa rfl (fun _ => (ix22 (tm rfl (nx rfl (nx rfl (nx rfl (nx rfl (nx rfl (nx rfl (nx rfl (nx rfl (nx rfl (nx rfl hit))))))))))) (tm rfl (nx rfl (nx rfl (nx rfl (nx rfl (nx rfl (nx rfl (nx rfl (nx rfl hit))))))))) (by omega))) (nx rfl (nx rfl (nx rfl (nx rfl (nx rfl (nx rfl (nx rfl hit)))))))), (qk rfl (do_load T3 rfl (tm rfl (nx rfl (nx rfl (nx rfl (nx rfl (nx rfl (nx rfl (nx rfl hit)))))))) d1) (nx rfl (nx rfl (nx rfl (nx rfl (nx rfl (nx rfl hit))))))), (qa rfl (fun _ => (do_move (tm rfl (nx rfl (nx rfl (nx rfl (nx rfl (nx rfl (nx rfl (nx rfl (nx rfl (nx rfl (nx rfl (nx rfl (nx rfl (nx rfl (nx rfl t18))))))))))))))))) (nx rfl (nx rfl (nx rfl (nx rfl (nx rfl hit)))))), (qa rfl (fun _ => (do_move (tm rfl (nx rfl (nx rfl (nx rfl (nx rfl (nx rfl (nx rfl (nx rfl (nx rfl (nx rfl (nx rfl (nx rfl (nx rfl (nx rfl (nx rfl t20))))))))))))))))) (nx rfl (nx rfl (nx rfl (nx rfl hit))))), (qa rfl (fun _ => (ix22 (tm rfl (nx rfl (nx rfl (nx rfl (nx rfl (nx rfl hit)))))) (tm rfl (nx rfl (nx rfl (nx rfl (nx rfl hit))))) (by omega))) (nx rfl (nx rfl (nx rfl hit)))), (qk rfl (do_load T3 rfl (tm rfl (nx rfl (nx rfl (nx rfl hit)))) d2) (nx rfl (nx rfl hit))), (qa rfl (fun _ => (do_addN (tm rfl (nx rfl (nx rfl (nx rfl (nx rfl (nx rfl (nx rfl hit))))))) (tm rfl (nx rfl (nx rfl hit))) hce (by omega))) (nx rfl hit)), (qa rfl (fun _ => (ix22 (tm rfl (nx rfl (nx rfl (nx rfl (nx rfl (nx rfl (nx rfl (nx rfl (nx rfl (nx rfl (nx rfl hit))))))))))) (tm rfl (nx rfl (nx rfl (nx rfl (nx rfl (nx rfl (nx rfl (nx rfl (nx rfl hit))))))))) (by omega))) hit), (en rfl (do_store T3 (tm rfl hit) (tm rfl (nx rfl hit)) rfl d1 (hS.frozen _))), trivial⟩ rfl ?_
      intro τ36 e36
      have c36_0 := (congrFun e36 0).trans (nx rfl (nx rfl (nx rfl (nx rfl (nx rfl (nx rfl (nx rfl (nx rfl (nx rfl (nx rfl (nx rfl (nx rfl (nx rfl (nx rfl t0))))))))))))))
      have c36_1 := (congrFun e36 1).trans (nx rfl (nx rfl (nx rfl (nx rfl (nx rfl (nx rfl (nx rfl (nx rfl (nx rfl (nx rfl (nx rfl (nx rfl (nx rfl (nx rfl t1))))))))))))))
      have c36_2 := (congrFun e36 2).trans (nx rfl (nx rfl (nx rfl (nx rfl (nx rfl (nx rfl (nx rfl (nx rfl (nx rfl (nx rfl (nx rfl (nx rfl (nx rfl (nx rfl t2))))))))))))))
      have c36_3 := (congrFun e36 3).trans (nx rfl (nx rfl (nx rfl (nx rfl (nx rfl (nx rfl (nx rfl (nx rfl (nx rfl (nx rfl (nx rfl (nx rfl (nx rfl (nx rfl t3))))))))))))))
      have c36_4 := (congrFun e36 4).trans (nx rfl (nx rfl (nx rfl (nx rfl (nx rfl (nx rfl (nx rfl (nx rfl (nx rfl (nx rfl (nx rfl (nx rfl (nx rfl (nx rfl t4))))))))))))))
      have c36_5 := (congrFun e36 5).trans (nx rfl (nx rfl (nx rfl (nx rfl (nx rfl (nx rfl (nx rfl (nx rfl (nx rfl (nx rfl (nx rfl (nx rfl (nx rfl (nx rfl t5))))))))))))))
      have c36_13 := (congrFun e36 13).trans (nx rfl (nx rfl (nx rfl (nx rfl (nx rfl (nx rfl (nx rfl (nx rfl (nx rfl (nx rfl (nx rfl (nx rfl (nx rfl (nx rfl t13))))))))))))))
      have c36_14 := (congrFun e36 14).trans (nx rfl (nx rfl (nx rfl (nx rfl (nx rfl (nx rfl (nx rfl (nx rfl (nx rfl (nx rfl (nx rfl (nx rfl (nx rfl (nx rfl t14))))))))))))))
      have c36_15 := (congrFun e36 15).trans (nx rfl (nx rfl (nx rfl (nx rfl (nx rfl (nx rfl (nx rfl (nx rfl (nx rfl (nx rfl (nx rfl (nx rfl (nx rfl (nx rfl t15))))))))))))))
      have c36_18 := (congrFun e36 18).trans (nx rfl (nx rfl (nx rfl (nx rfl (nx rfl (nx rfl (nx rfl (nx rfl (nx rfl (nx rfl (nx rfl (nx rfl (nx rfl (nx rfl t18))))))))))))))
      have c36_20 := (congrFun e36 20).trans (nx rfl (nx rfl (nx rfl (nx rfl (nx rfl (nx rfl (nx rfl (nx rfl (nx rfl (nx rfl (nx rfl (nx rfl (nx rfl (nx rfl t20))))))))))))))
      clear e36
      refine inBN ?_
      refine hK35 _ _ ?_
      clear hK35
      refine reg ?_
      refine sq rfl (do_move (tm rfl c36_20)) ?_
      refine sq rfl (do_inc (tm rfl hit) ck (by omega)) ?_
      refine sq rfl (do_assign (tm rfl hit)) ?_
      refine wnil ?_
      refine hnn (n - (v + 1)) _ _ (by omega) ⟨v + 1, st.set (v + 1) ((cL H (v + 1) : Nat) : Int), rfl, by omega, (nx rfl (nx rfl (nx rfl c36_0))), (nx rfl (nx rfl (nx rfl c36_1))), (nx rfl (nx rfl (nx rfl c36_2))), (nx rfl (nx rfl (nx rfl c36_3))), (nx rfl (nx rfl (nx rfl c36_4))), (nx rfl (nx rfl (nx rfl c36_5))), (nx rfl (nx rfl (nx rfl c36_13))), (nx rfl (nx rfl (nx rfl c36_14))), (nx rfl (nx rfl (nx rfl c36_15))), (nx rfl (nx rfl (nx rfl c36_18))), hit, by simp [hsl], ?_, ?_, ?_, (hL.drew).of_eq (by rw [heap_set (by simp)]), (hFr.drew).of_eq (by rw [heap_set (by simp)]), by rw [size_set]; exact hsz, ?_⟩
      · rw [← ints_set]; exact hS.drew.set _ _
      · intro u hu
        by_cases hxi : v + 1 = u
        · subst hxi
          rw [List.getElem?_set_self (by omega)]
        · rw [List.getElem?_set_ne hxi, hs0 u (by omega)]
      · intro u hu hun
        rw [List.getElem?_set_ne (by omega)]
        exact hse u (by omega) hun
      · exact hbel.drew.setCell (by simp) _
    · refine cF rfl hit (by simpa using h) ?_
      refine wp_exit ?_
      refine thenE ?_
      obtain rfl : v = n := by omega
      exact hx _ _ ⟨st, (nx rfl (nx rfl (nx rfl t0))), (nx rfl (nx rfl (nx rfl t1))), (nx rfl (nx rfl (nx rfl t2))), (nx rfl (nx rfl (nx rfl t3))), (nx rfl (nx rfl (nx rfl t4))), (nx rfl (nx rfl (nx rfl t5))), (nx rfl (nx rfl (nx rfl t13))), (nx rfl (nx rfl (nx rfl t14))), (nx rfl (nx rfl (nx rfl t15))), (nx rfl (nx rfl (nx rfl t18))), hsl, hS, hs0, hL, hFr, hsz, hbel⟩
  clear t0 t1 t2 t3 t4 t5 t13 t14 t15 t18 hsl hS hs0 hse hL hFr hsz hbel st
  rintro τ wi ⟨st, t0, t1, t2, t3, t4, t5, t13, t14, t15, t18, hsl, hS, hst, hL, hFr, hsz, hbel⟩
  refine hK31 _ _ ?_
  clear hK31
  refine wp_seq_k (fun K37 hK37 => ?_)
  refine reg ?_
  refine sq rfl (do_move (tm rfl t0)) ?_
  refine sq rfl (mk22 (tm rfl hit) (tm rfl hit) (by omega)) ?_
  refine sq rfl (do_assign (tm rfl hit)) ?_
  refine cutW ?_
  intro τ38 e38 wa hwa
  have c38_0 := (congrFun e38 0).trans (nx rfl (nx rfl (nx rfl t0)))
  have c38_1 := (congrFun e38 1).trans (nx rfl (nx rfl (nx rfl t1)))
  have c38_2 := (congrFun e38 2).trans (nx rfl (nx rfl (nx rfl t2)))
  have c38_3 := (congrFun e38 3).trans (nx rfl (nx rfl (nx rfl t3)))
  have c38_4 := (congrFun e38 4).trans (nx rfl (nx rfl (nx rfl t4)))
  have c38_5 := (congrFun e38 5).trans (nx rfl (nx rfl (nx rfl t5)))
  have c38_13 := (congrFun e38 13).trans (nx rfl (nx rfl (nx rfl t13)))
  have c38_14 := (congrFun e38 14).trans (nx rfl (nx rfl (nx rfl t14)))
  have c38_15 := (congrFun e38 15).trans (nx rfl (nx rfl (nx rfl t15)))
  have c38_18 := (congrFun e38 18).trans (nx rfl (nx rfl (nx rfl t18)))
  have c38_21 := (congrFun e38 21).trans hit
  clear e38
  refine wnil ?_
  refine hK37 _ _ ?_
  clear hK37
  have hsa : wa.heap.size = w.heap.size + 4 := by rw [hwa, size_alloc, hsz]
  have hFi : Blk wa (wi.heap.size) 3 (ints (List.replicate n 0)) := by
    have := Blk.new wi (madeCells #[.int .i64 0] n) 3
    rw [made_list] at this
    rw [hwa]
    simpa [ints] using this
  have hba : Below w.heap.size w wa := by rw [hwa]; exact hbel.alloc (by omega) _
  have hL : Blk wa (w.heap.size + 1) 3 (ints la) := hL.of_eq (by rw [hwa, heap_al (by omega)])
  have hFr : Blk wa w.heap.size 3 (ints fr) := hFr.of_eq (by rw [hwa, heap_al (by omega)])
  have hS : Blk wa (w.heap.size + 2) 3 (ints st) := hS.of_eq (by rw [hwa, heap_al (by omega)])
  clear hwa hbel
  generalize wi.heap.size = bl at *
  subst hsz
  refine wp_seq_k (fun K39 hK39 => ?_)
  refine reg ?_
  refine sq rfl (do_move (tm rfl c38_13)) ?_
  refine sq rfl (mk22 (tm rfl hit) (tm rfl hit) l1) ?_
  refine sq rfl (do_assign (tm rfl hit)) ?_
  refine cutW ?_
  intro τ40 e40 wb hwb
  have c40_0 := (congrFun e40 0).trans (nx rfl (nx rfl (nx rfl c38_0)))
  have c40_1 := (congrFun e40 1).trans (nx rfl (nx rfl (nx rfl c38_1)))
  have c40_2 := (congrFun e40 2).trans (nx rfl (nx rfl (nx rfl c38_2)))
  have c40_3 := (congrFun e40 3).trans (nx rfl (nx rfl (nx rfl c38_3)))
  have c40_4 := (congrFun e40 4).trans (nx rfl (nx rfl (nx rfl c38_4)))
  have c40_5 := (congrFun e40 5).trans (nx rfl (nx rfl (nx rfl c38_5)))
  have c40_13 := (congrFun e40 13).trans (nx rfl (nx rfl (nx rfl c38_13)))
  have c40_14 := (congrFun e40 14).trans (nx rfl (nx rfl (nx rfl c38_14)))
  have c40_15 := (congrFun e40 15).trans (nx rfl (nx rfl (nx rfl c38_15)))
  have c40_18 := (congrFun e40 18).trans (nx rfl (nx rfl (nx rfl c38_18)))
  have c40_21 := (congrFun e40 21).trans (nx rfl (nx rfl (nx rfl c38_21)))
  have c40_22 := (congrFun e40 22).trans hit
  clear e40
  refine wnil ?_
  refine hK39 _ _ ?_
  clear hK39
  have hsb : wb.heap.size = w.heap.size + 5 := by rw [hwb, size_alloc, hsa]
  have hPo : Blk wb (wa.heap.size) 3 (ints (List.replicate nd.length 0)) := by
    have := Blk.new wa (madeCells #[.int .i64 0] nd.length) 3
    rw [made_list] at this
    rw [hwb]
    simpa [ints] using this
  have hbel : Below w.heap.size w wb := by rw [hwb]; exact hba.alloc (by omega) _
  have hL : Blk wb (w.heap.size + 1) 3 (ints la) := hL.of_eq (by rw [hwb, heap_al (by omega)])
  have hFr : Blk wb w.heap.size 3 (ints fr) := hFr.of_eq (by rw [hwb, heap_al (by omega)])
  have hS : Blk wb (w.heap.size + 2) 3 (ints st) := hS.of_eq (by rw [hwb, heap_al (by omega)])
  have hFi : Blk wb (w.heap.size + 3) 3 (ints (List.replicate n 0)) := hFi.of_eq (by rw [hwb, heap_al (by omega)])
  clear hwb hba
  generalize wa.heap.size = bl at *
  subst hsa
  refine wp_seq_k (fun K41 hK41 => ?_)
  refine wp_seq_k (fun K42 hK42 => ?_)
  refine reg ?_
  refine sq rfl (do_assign (v := .int .i64 ((0 : Nat) : Int)) rfl) ?_
  refine wnil ?_
  refine hK42 _ _ ?_
  clear hK42
  refine forLoop (N := 207) (fun r τ wi => ∃ (i : Nat) (fi po : List Int), r = nd.length - i ∧ i ≤ nd.length ∧ τ 0 = .int .i64 (n : Int) ∧ τ 1 = .slice a1 nd.length c1 ∧ τ 2 = .slice a2 wr.length c2 ∧ τ 3 = .slice a3 it.length c3 ∧ τ 4 = .int .i64 (k : Int) ∧ τ 5 = .slice a5 pm.length c5 ∧ τ 13 = .int .i64 (nd.length : Int) ∧ τ 14 = .slice (some ⟨w.heap.size, 0, none⟩) nd.length nd.length ∧ τ 15 = .slice (some ⟨w.heap.size + 1, 0, none⟩) k k ∧ τ 18 = .slice (some ⟨w.heap.size + 2, 0, none⟩) (n + 1) (n + 1) ∧ τ 21 = .slice (some ⟨w.heap.size + 3, 0, none⟩) n n ∧ τ 22 = .slice (some ⟨w.heap.size + 4, 0, none⟩) nd.length nd.length ∧ τ 23 = .int .i64 (i : Int) ∧
      fi.length = n ∧ po.length = nd.length ∧ Blk wi (w.heap.size + 3) 3 (ints fi) ∧ Blk wi (w.heap.size + 4) 3 (ints po) ∧ (∀ u, u < n → fi[u]? = some (cE H i u : Int)) ∧ (∀ j, j < i → po[plc H j]? = some (j : Int)) ∧ Blk wi (w.heap.size + 2) 3 (ints st) ∧ Blk wi (w.heap.size + 1) 3 (ints la) ∧ Blk wi w.heap.size 3 (ints fr) ∧ wi.heap.size = w.heap.size + 5 ∧ Below w.heap.size w wi)
    (fun τ wi => ∃ (po : List Int), τ 0 = .int .i64 (n : Int) ∧ τ 1 = .slice a1 nd.length c1 ∧ τ 2 = .slice a2 wr.length c2 ∧ τ 3 = .slice a3 it.length c3 ∧ τ 4 = .int .i64 (k : Int) ∧ τ 5 = .slice a5 pm.length c5 ∧ τ 13 = .int .i64 (nd.length : Int) ∧ τ 14 = .slice (some ⟨w.heap.size, 0, none⟩) nd.length nd.length ∧ τ 15 = .slice (some ⟨w.heap.size + 1, 0, none⟩) k k ∧ τ 18 = .slice (some ⟨w.heap.size + 2, 0, none⟩) (n + 1) (n + 1) ∧ τ 22 = .slice (some ⟨w.heap.size + 4, 0, none⟩) nd.length nd.length ∧
      po.length = nd.length ∧ Blk wi (w.heap.size + 4) 3 (ints po) ∧ (∀ j, j < nd.length → po[plc H j]? = some (j : Int)) ∧ Blk wi (w.heap.size + 2) 3 (ints st) ∧ Blk wi (w.heap.size + 1) 3 (ints la) ∧ Blk wi w.heap.size 3 (ints fr) ∧ wi.heap.size = w.heap.size + 5 ∧ Below w.heap.size w wi) nd.length ?_ ?_ ?_
  · refine ⟨0, _, _, rfl, Nat.zero_le _, (nx rfl c40_0), (nx rfl c40_1), (nx rfl c40_2), (nx rfl c40_3), (nx rfl c40_4), (nx rfl c40_5), (nx rfl c40_13), (nx rfl c40_14), (nx rfl c40_15), (nx rfl c40_18), (nx rfl c40_21), (nx rfl c40_22), hit, by simp, by simp, hFi, hPo, fun u hu => ?_, fun j hj => by omega, hS, hL, hFr, hsb, hbel⟩
    rw [List.getElem?_replicate, if_pos hu]
    simp [cE]
  · clear t0 t1 t2 t3 t4 t5 t13 t14 t15 t18 hS hL hFr hsb hbel hFi hPo
    rintro Q' r τ wi hnn hx hr ⟨i, fi, po, rfl, hi, t0, t1, t2, t3, t4, t5, t13, t14, t15, t18, t21, t22, t23, hfl2, hpl, hFi, hPo, hfi, hpo, hS, hL, hFr, hsz, hbel⟩
    refine wp_seq_k (fun K43 hK43 => ?_)
    refine wp_seq_k (fun K44 hK44 => ?_)
    refine reg ?_
    refine sq rfl (do_move (tm rfl t23)) ?_
    refine sq rfl (do_move (tm rfl (nx rfl t13))) ?_
    refine sq rfl (do_lss (tm rfl (nx rfl hit)) (tm rfl hit)) ?_
    refine wnil ?_
    refine hK44 _ _ ?_
    clear hK44
    by_cases h : i < nd.length
    · refine cT rfl hit (by simpa using h) ?_
      refine wp_skip ?_
      refine hK43 _ _ ?_
      clear hK43
      obtain ⟨b1, o1, rfl, d1⟩ := C1 i h wi hbel
      have hxn := (Hnd i h).2
      have hcle := cE_le H (H.nd i) i
      have hbb := hcm (H.nd i + 1) (by omega)
      have hpb := plc_lt H i (by omega)
      refine wp_seq_k (fun K45 hK45 => ?_)
      refine wp_block ?_
      refine wp_seq_k (fun K46 hK46 => ?_)
      refine reg ?_
      refine sq rfl (do_move (tm rfl (nx rfl (nx rfl (nx rfl t1))))) ?_
      refine sq rfl (do_move (tm rfl (nx rfl (nx rfl (nx rfl (nx rfl t23)))))) ?_
      refine sq rfl (io22 (tm rfl (nx rfl hit)) (tm rfl hit) (by omega)) ?_
      refine sq rfl (do_load T3 rfl (tm rfl hit) d1) ?_
      refine sq rfl (do_assign (tm rfl hit)) ?_
      refine cutL ?_
      intro τ47 e47
      have c47_0 := (congrFun e47 0).trans (nx rfl (nx rfl (nx rfl (nx rfl (nx rfl (nx rfl (nx rfl (nx rfl t0))))))))
      have c47_1 := (congrFun e47 1).trans (nx rfl (nx rfl (nx rfl (nx rfl (nx rfl (nx rfl (nx rfl (nx rfl t1))))))))
      have c47_2 := (congrFun e47 2).trans (nx rfl (nx rfl (nx rfl (nx rfl (nx rfl (nx rfl (nx rfl (nx rfl t2))))))))
      have c47_3 := (congrFun e47 3).trans (nx rfl (nx rfl (nx rfl (nx rfl (nx rfl (nx rfl (nx rfl (nx rfl t3))))))))
      have c47_4 := (congrFun e47 4).trans (nx rfl (nx rfl (nx rfl (nx rfl (nx rfl (nx rfl (nx rfl (nx rfl t4))))))))
      have c47_5 := (congrFun e47 5).trans (nx rfl (nx rfl (nx rfl (nx rfl (nx rfl (nx rfl (nx rfl (nx rfl t5))))))))
      have c47_13 := (congrFun e47 13).trans (nx rfl (nx rfl (nx rfl (nx rfl (nx rfl (nx rfl (nx rfl (nx rfl t13))))))))
      have c47_14 := (congrFun e47 14).trans (nx rfl (nx rfl (nx rfl (nx rfl (nx rfl (nx rfl (nx rfl (nx rfl t14))))))))
      have c47_15 := (congrFun e47 15).trans (nx rfl (nx rfl (nx rfl (nx rfl (nx rfl (nx rfl (nx rfl (nx rfl t15))))))))
      have c47_18 := (congrFun e47 18).trans (nx rfl (nx rfl (nx rfl (nx rfl (nx rfl (nx rfl (nx rfl (nx rfl t18))))))))
      have c47_21 := (congrFun e47 21).trans (nx rfl (nx rfl (nx rfl (nx rfl (nx rfl (nx rfl (nx rfl (nx rfl t21))))))))
      have c47_22 := (congrFun e47 22).trans (nx rfl (nx rfl (nx rfl (nx rfl (nx rfl (nx rfl (nx rfl (nx rfl t22))))))))
      have c47_23 := (congrFun e47 23).trans (nx rfl (nx rfl (nx rfl (nx rfl (nx rfl (nx rfl (nx rfl (nx rfl t23))))))))
      have c47_24 := (congrFun e47 24).trans hit
      clear e47
      refine wnil ?_
      refine hK46 _ _ ?_
      clear hK46
      have e1 := hS.cell (show (ints st)[H.nd i]? = some (.int .i64 (cL H (H.nd i) : Int)) by simp [ints, hst (H.nd i) (by omega)])
      have e2 := hFi.cell (show (ints fi)[H.nd i]? = some (.int .i64 (cE H i (H.nd i) : Int)) by simp [ints, hfi (H.nd i) (by omega)])
      refine wp_seq_k (fun K48 hK48 => ?_)
      refine draw mixed [12] [(0, 0), (0, 0), (0, 0), (0, 0), (0, 0), (0, 0), (0, 0), (0, 0), (0, 0), (0, 0), (0, 0), (0, 0), (0, 0)] [wi.drew.setCell ⟨w.heap.size + 4, plc H i, none⟩ (.int .i64 (i : Int))] (wi.drew.setCell ⟨w.heap.size + 4, plc H i, none⟩ (.int .i64 (i : Int))) (upd (upd (upd (upd (upd (upd (upd (upd (upd (upd (upd (upd _ 120 _) 121 _) 122 _) 123 _) 124 _) 125 _) 126 _) 127 _) 128 _) 129 _) 130 _) 131 _) (by kernel_rfl) (fun s hs => ovr_off [(120, _), (121, _), (122, _), (123, _), (124, _), (125, _), (126, _), (127, _), (128, _), (129, _), (130, _), (131, _)] _ s hs) ⟨(qa rfl (fun _ => (do_move (tm rfl (nx rfl (nx rfl (nx rfl (nx rfl (nx rfl (nx rfl (nx rfl (nx rfl (nx rfl (nx rfl (nx rfl (nx rfl c47_22))))))))))))))) (nx rfl (nx rfl (nx rfl (nx rfl (nx rfl (nx rfl (nx rfl (nx rfl (nx rfl (nx rfl (nx rfl hit)))))))))))), (qa rfl (fun _ => (do_move (tm rfl (nx rfl (nx rfl (nx rfl (nx rfl (nx rfl (nx rfl (nx rfl (nx rfl (nx rfl (nx rfl (nx rfl (nx rfl c47_18))))))))))))))) (nx rfl (nx rfl (nx rfl (nx rfl (nx rfl (nx rfl (nx rfl (nx rfl (nx rfl (nx rfl hit))))))))))), (qa rfl (fun _ => (do_move (tm rfl (nx rfl (nx rfl (nx rfl (nx rfl (nx rfl (nx rfl (nx rfl (nx rfl (nx rfl (nx rfl (nx rfl (nx rfl c47_24))))))))))))))) (nx rfl (nx rfl (nx rfl (nx rfl (nx rfl (nx rfl (nx rfl (nx rfl (nx rfl hit)))))))))), (qa rfl (fun _ => (ix22 (tm rfl (nx rfl (nx rfl (nx rfl (nx rfl (nx rfl (nx rfl (nx rfl (nx rfl (nx rfl (nx rfl hit))))))))))) (tm rfl (nx rfl (nx rfl (nx rfl (nx rfl (nx rfl (nx rfl (nx rfl (nx rfl (nx rfl hit)))))))))) (by omega))) (nx rfl (nx rfl (nx rfl (nx rfl (nx rfl (nx rfl (nx rfl (nx rfl hit))))))))), (qk rfl (do_load T3 rfl (tm rfl (nx rfl (nx rfl (nx rfl (nx rfl (nx rfl (nx rfl (nx rfl (nx rfl hit))))))))) e1) (nx rfl (nx rfl (nx rfl (nx rfl (nx rfl (nx rfl (nx rfl hit)))))))), (qa rfl (fun _ => (do_move (tm rfl (nx rfl (nx rfl (nx rfl (nx rfl (nx rfl (nx rfl (nx rfl (nx rfl (nx rfl (nx rfl (nx rfl (nx rfl c47_21))))))))))))))) (nx rfl (nx rfl (nx rfl (nx rfl (nx rfl (nx rfl hit))))))), (qa rfl (fun _ => (do_move (tm rfl (nx rfl (nx rfl (nx rfl (nx rfl (nx rfl (nx rfl (nx rfl (nx rfl (nx rfl (nx rfl (nx rfl (nx rfl c47_24))))))))))))))) (nx rfl (nx rfl (nx rfl (nx rfl (nx rfl hit)))))), (qa rfl (fun _ => (ix22 (tm rfl (nx rfl (nx rfl (nx rfl (nx rfl (nx rfl (nx rfl hit))))))) (tm rfl (nx rfl (nx rfl (nx rfl (nx rfl (nx rfl hit)))))) (by omega))) (nx rfl (nx rfl (nx rfl (nx rfl hit))))), (qk rfl (do_load T3 rfl (tm rfl (nx rfl (nx rfl (nx rfl (nx rfl hit))))) e2) (nx rfl (nx rfl (nx rfl hit)))), (qa rfl (fun _ => (do_addN (r := plc H i) (tm rfl (nx rfl (nx rfl (nx rfl (nx rfl (nx rfl (nx rfl (nx rfl hit)))))))) (tm rfl (nx rfl (nx rfl (nx rfl hit)))) rfl (by omega))) (nx rfl (nx rfl hit))), (qa rfl (fun _ => (do_move (tm rfl (nx rfl (nx rfl (nx rfl (nx rfl (nx rfl (nx rfl (nx rfl (nx rfl (nx rfl (nx rfl (nx rfl (nx rfl c47_23))))))))))))))) (nx rfl hit)), (qa rfl (fun _ => (ix22 (tm rfl (nx rfl (nx rfl (nx rfl (nx rfl (nx rfl (nx rfl (nx rfl (nx rfl (nx rfl (nx rfl (nx rfl hit)))))))))))) (tm rfl (nx rfl (nx rfl hit))) (by omega))) hit), (en rfl (do_store T3 (tm rfl hit) (tm rfl (nx rfl hit)) rfl (hPo.cell (ints_get po (plc H i) (by omega))) (hPo.frozen _))), trivial⟩ rfl ?_
      intro τ49 e49
      have c49_0 := (congrFun e49 0).trans (nx rfl (nx rfl (nx rfl (nx rfl (nx rfl (nx rfl (nx rfl (nx rfl (nx rfl (nx rfl (nx rfl (nx rfl c47_0))))))))))))
      have c49_1 := (congrFun e49 1).trans (nx rfl (nx rfl (nx rfl (nx rfl (nx rfl (nx rfl (nx rfl (nx rfl (nx rfl (nx rfl (nx rfl (nx rfl c47_1))))))))))))
      have c49_2 := (congrFun e49 2).trans (nx rfl (nx rfl (nx rfl (nx rfl (nx rfl (nx rfl (nx rfl (nx rfl (nx rfl (nx rfl (nx rfl (nx rfl c47_2))))))))))))
      have c49_3 := (congrFun e49 3).trans (nx rfl (nx rfl (nx rfl (nx rfl (nx rfl (nx rfl (nx rfl (nx rfl (nx rfl (nx rfl (nx rfl (nx rfl c47_3))))))))))))
      have c49_4 := (congrFun e49 4).trans (nx rfl (nx rfl (nx rfl (nx rfl (nx rfl (nx rfl (nx rfl (nx rfl (nx rfl (nx rfl (nx rfl (nx rfl c47_4))))))))))))
      have c49_5 := (congrFun e49 5).trans (nx rfl (nx rfl (nx rfl (nx rfl (nx rfl (nx rfl (nx rfl (nx rfl (nx rfl (nx rfl (nx rfl (nx rfl c47_5))))))))))))
      have c49_13 := (congrFun e49 13).trans (nx rfl (nx rfl (nx rfl (nx rfl (nx rfl (nx rfl (nx rfl (nx rfl (nx rfl (nx rfl (nx rfl (nx rfl c47_13))))))))))))
      have c49_14 := (congrFun e49 14).trans (nx rfl (nx rfl (nx rfl (nx rfl (nx rfl (nx rfl (nx rfl (nx rfl (nx rfl (nx rfl (nx rfl (nx rfl c47_14))))))))))))
      have c49_15 := (congrFun e49 15).trans (nx rfl (nx rfl (nx rfl (nx rfl (nx rfl (nx rfl (nx rfl (nx rfl (nx rfl (nx rfl (nx rfl (nx rfl c47_15))))))))))))
      have c49_18 := (congrFun e49 18).trans (nx rfl (nx rfl (nx rfl (nx rfl (nx rfl (nx rfl (nx rfl (nx rfl (nx rfl (nx rfl (nx rfl (nx rfl c47_18))))))))))))
      have c49_21 := (congrFun e49 21).trans (nx rfl (nx rfl (nx rfl (nx rfl (nx rfl (nx rfl (nx rfl (nx rfl (nx rfl (nx rfl (nx rfl (nx rfl c47_21))))))))))))
      have c49_22 := (congrFun e49 22).trans (nx rfl (nx rfl (nx rfl (nx rfl (nx rfl (nx rfl (nx rfl (nx rfl (nx rfl (nx rfl (nx rfl (nx rfl c47_22))))))))))))
      have c49_23 := (congrFun e49 23).trans (nx rfl (nx rfl (nx rfl (nx rfl (nx rfl (nx rfl (nx rfl (nx rfl (nx rfl (nx rfl (nx rfl (nx rfl c47_23))))))))))))
      have c49_24 := (congrFun e49 24).trans (nx rfl (nx rfl (nx rfl (nx rfl (nx rfl (nx rfl (nx rfl (nx rfl (nx rfl (nx rfl (nx rfl (nx rfl c47_24))))))))))))
      clear e49
      refine hK48 _ _ ?_
      clear hK48
      have hFi2 : Blk (wi.drew.setCell ⟨w.heap.size + 4, plc H i, none⟩ (.int .i64 (i : Int))) (w.heap.size + 3) 3 (ints fi) := hFi.drew.of_eq (by rw [heap_set (by simp)])
      have e2 := hFi2.cell (show (ints fi)[H.nd i]? = some (.int .i64 (cE H i (H.nd i) : Int)) by simp [ints, hfi (H.nd i) (by omega)])
      refine reg ?_
      refine sq rfl (do_move (tm rfl c49_21)) ?_
      refine sq rfl (do_move (tm rfl (nx rfl c49_24))) ?_
      refine sq rfl (ix22 (tm rfl (nx rfl hit)) (tm rfl hit) (by omega)) ?_
      refine sq rfl (do_load T3 rfl (tm rfl hit) e2) ?_
      refine sq rfl (do_inc (tm rfl hit) ck (by omega)) ?_
      refine sq rfl (ix22 (tm rfl (nx rfl (nx rfl (nx rfl (nx rfl hit))))) (tm rfl (nx rfl (nx rfl (nx rfl hit)))) (by omega)) ?_
      refine sqn (do_store T3 (tm rfl hit) (tm rfl (nx rfl hit)) rfl e2 (hFi2.frozen _)) ?_
      refine cutW ?_
      intro τ50 e50 w2 hw2
      have c50_0 := (congrFun e50 0).trans (nx rfl (nx rfl (nx rfl (nx rfl (nx rfl (nx rfl c49_0))))))
      have c50_1 := (congrFun e50 1).trans (nx rfl (nx rfl (nx rfl (nx rfl (nx rfl (nx rfl c49_1))))))
      have c50_2 := (congrFun e50 2).trans (nx rfl (nx rfl (nx rfl (nx rfl (nx rfl (nx rfl c49_2))))))
      have c50_3 := (congrFun e50 3).trans (nx rfl (nx rfl (nx rfl (nx rfl (nx rfl (nx rfl c49_3))))))
      have c50_4 := (congrFun e50 4).trans (nx rfl (nx rfl (nx rfl (nx rfl (nx rfl (nx rfl c49_4))))))
      have c50_5 := (congrFun e50 5).trans (nx rfl (nx rfl (nx rfl (nx rfl (nx rfl (nx rfl c49_5))))))
      have c50_13 := (congrFun e50 13).trans (nx rfl (nx rfl (nx rfl (nx rfl (nx rfl (nx rfl c49_13))))))
      have c50_14 := (congrFun e50 14).trans (nx rfl (nx rfl (nx rfl (nx rfl (nx rfl (nx rfl c49_14))))))
      have c50_15 := (congrFun e50 15).trans (nx rfl (nx rfl (nx rfl (nx rfl (nx rfl (nx rfl c49_15))))))
      have c50_18 := (congrFun e50 18).trans (nx rfl (nx rfl (nx rfl (nx rfl (nx rfl (nx rfl c49_18))))))
      have c50_21 := (congrFun e50 21).trans (nx rfl (nx rfl (nx rfl (nx rfl (nx rfl (nx rfl c49_21))))))
      have c50_22 := (congrFun e50 22).trans (nx rfl (nx rfl (nx rfl (nx rfl (nx rfl (nx rfl c49_22))))))
      have c50_23 := (congrFun e50 23).trans (nx rfl (nx rfl (nx rfl (nx rfl (nx rfl (nx rfl c49_23))))))
      have c50_24 := (congrFun e50 24).trans (nx rfl (nx rfl (nx rfl (nx rfl (nx rfl (nx rfl c49_24))))))
      clear e50
      refine wnil ?_
      refine inBN ?_
      refine hK45 _ _ ?_
      clear hK45
      refine reg ?_
      refine sq rfl (do_move (tm rfl c50_23)) ?_
      refine sq rfl (do_inc (tm rfl hit) ck (by omega)) ?_
      refine sq rfl (do_assign (tm rfl hit)) ?_
      refine wnil ?_
      refine hnn (nd.length - (i + 1)) _ _ (by omega) ⟨i + 1, fi.set (H.nd i) ((cE H i (H.nd i) + 1 : Nat) : Int), po.set (plc H i) (i : Int), rfl, by omega, (nx rfl (nx rfl (nx rfl c50_0))), (nx rfl (nx rfl (nx rfl c50_1))), (nx rfl (nx rfl (nx rfl c50_2))), (nx rfl (nx rfl (nx rfl c50_3))), (nx rfl (nx rfl (nx rfl c50_4))), (nx rfl (nx rfl (nx rfl c50_5))), (nx rfl (nx rfl (nx rfl c50_13))), (nx rfl (nx rfl (nx rfl c50_14))), (nx rfl (nx rfl (nx rfl c50_15))), (nx rfl (nx rfl (nx rfl c50_18))), (nx rfl (nx rfl (nx rfl c50_21))), (nx rfl (nx rfl (nx rfl c50_22))), hit, by simp [hfl2], by simp [hpl], ?_, ?_, ?_, ?_,
        (hS.drew).of_eq (by rw [hw2, heap_set (by simp), heap_set (by simp)]), (hL.drew).of_eq (by rw [hw2, heap_set (by simp), heap_set (by simp)]), (hFr.drew).of_eq (by rw [hw2, heap_set (by simp), heap_set (by simp)]), by rw [hw2, size_set, size_set]; exact hsz, ?_⟩
      · rw [hw2, ← ints_set]; exact hFi2.set _ _
      · rw [← ints_set]
        have := hPo.drew.set (plc H i) (.int .i64 (i : Int))
        exact this.of_eq (by rw [hw2, heap_set (by simp)])
      · intro u hu
        by_cases hxi : H.nd i = u
        · subst hxi
          rw [List.getElem?_set_self (by omega)]
          simp [cE]
        · rw [List.getElem?_set_ne hxi, hfi u hu]
          simp [cE, hxi]
      · intro j hj
        by_cases hij : i = j
        · subst hij; exact List.getElem?_set_self (by omega)
        · rw [List.getElem?_set_ne (fun e => hij (plc_inj H i j (by omega) (by omega) e))]
          exact hpo j (by omega)
      · rw [hw2]; exact (hbel.drew.setCell (by simp) _).setCell (by simp) _
    · refine cF rfl hit (by simpa using h) ?_
      refine wp_exit ?_
      refine thenE ?_
      obtain rfl : i = nd.length := by omega
      exact hx _ _ ⟨po, (nx rfl (nx rfl (nx rfl t0))), (nx rfl (nx rfl (nx rfl t1))), (nx rfl (nx rfl (nx rfl t2))), (nx rfl (nx rfl (nx rfl t3))), (nx rfl (nx rfl (nx rfl t4))), (nx rfl (nx rfl (nx rfl t5))), (nx rfl (nx rfl (nx rfl t13))), (nx rfl (nx rfl (nx rfl t14))), (nx rfl (nx rfl (nx rfl t15))), (nx rfl (nx rfl (nx rfl t18))), (nx rfl (nx rfl (nx rfl t22))), hpl, hPo, hpo, hS, hL, hFr, hsz, hbel⟩
  clear t0 t1 t2 t3 t4 t5 t13 t14 t15 t18 hS hL hFr hsb hbel hFi hPo
  rintro τ wi ⟨po, t0, t1, t2, t3, t4, t5, t13, t14, t15, t18, t22, hpl, hPo, hpo, hS, hL, hFr, hsz, hbel⟩
  refine hK41 _ _ ?_
  clear hK41
  refine wp_seq_k (fun K51 hK51 => ?_)
  refine reg ?_
  refine sq rfl (do_move (tm rfl t4)) ?_
  refine sq rfl (mk22 (tm rfl hit) (tm rfl hit) (by omega)) ?_
  refine sq rfl (do_assign (tm rfl hit)) ?_
  refine cutW ?_
  intro τ52 e52 wa hwa
  have c52_0 := (congrFun e52 0).trans (nx rfl (nx rfl (nx rfl t0)))
  have c52_1 := (congrFun e52 1).trans (nx rfl (nx rfl (nx rfl t1)))
  have c52_2 := (congrFun e52 2).trans (nx rfl (nx rfl (nx rfl t2)))
  have c52_3 := (congrFun e52 3).trans (nx rfl (nx rfl (nx rfl t3)))
  have c52_4 := (congrFun e52 4).trans (nx rfl (nx rfl (nx rfl t4)))
  have c52_5 := (congrFun e52 5).trans (nx rfl (nx rfl (nx rfl t5)))
  have c52_13 := (congrFun e52 13).trans (nx rfl (nx rfl (nx rfl t13)))
  have c52_14 := (congrFun e52 14).trans (nx rfl (nx rfl (nx rfl t14)))
  have c52_15 := (congrFun e52 15).trans (nx rfl (nx rfl (nx rfl t15)))
  have c52_18 := (congrFun e52 18).trans (nx rfl (nx rfl (nx rfl t18)))
  have c52_22 := (congrFun e52 22).trans (nx rfl (nx rfl (nx rfl t22)))
  have c52_25 := (congrFun e52 25).trans hit
  clear e52
  refine wnil ?_
  refine hK51 _ _ ?_
  clear hK51
  have hsa : wa.heap.size = w.heap.size + 6 := by rw [hwa, size_alloc, hsz]
  have hCu : Blk wa (wi.heap.size) 3 (ints (List.replicate k 0)) := by
    have := Blk.new wi (madeCells #[.int .i64 0] k) 3
    rw [made_list] at this
    rw [hwa]
    simpa [ints] using this
  have hba : Below w.heap.size w wa := by rw [hwa]; exact hbel.alloc (by omega) _
  have hL : Blk wa (w.heap.size + 1) 3 (ints la) := hL.of_eq (by rw [hwa, heap_al (by omega)])
  have hFr : Blk wa w.heap.size 3 (ints fr) := hFr.of_eq (by rw [hwa, heap_al (by omega)])
  have hS : Blk wa (w.heap.size + 2) 3 (ints st) := hS.of_eq (by rw [hwa, heap_al (by omega)])
  have hPo : Blk wa (w.heap.size + 4) 3 (ints po) := hPo.of_eq (by rw [hwa, heap_al (by omega)])
  clear hwa hbel
  generalize wi.heap.size = bl at *
  subst hsz
  refine wp_seq_k (fun K53 hK53 => ?_)
  refine wp_seq_k (fun K54 hK54 => ?_)
  refine reg ?_
  refine sq rfl (do_assign (v := .int .i64 ((0 : Nat) : Int)) rfl) ?_
  refine wnil ?_
  refine hK54 _ _ ?_
  clear hK54
  refine forLoop (N := 207) (fun r τ wi => ∃ (i : Nat) (cu : List Int), r = k - i ∧ i ≤ k ∧ τ 0 = .int .i64 (n : Int) ∧ τ 1 = .slice a1 nd.length c1 ∧ τ 2 = .slice a2 wr.length c2 ∧ τ 3 = .slice a3 it.length c3 ∧ τ 4 = .int .i64 (k : Int) ∧ τ 5 = .slice a5 pm.length c5 ∧ τ 13 = .int .i64 (nd.length : Int) ∧ τ 14 = .slice (some ⟨w.heap.size, 0, none⟩) nd.length nd.length ∧ τ 15 = .slice (some ⟨w.heap.size + 1, 0, none⟩) k k ∧ τ 18 = .slice (some ⟨w.heap.size + 2, 0, none⟩) (n + 1) (n + 1) ∧ τ 22 = .slice (some ⟨w.heap.size + 4, 0, none⟩) nd.length nd.length ∧ τ 25 = .slice (some ⟨w.heap.size + 5, 0, none⟩) k k ∧ τ 26 = .int .i64 (i : Int) ∧
      cu.length = k ∧ Blk wi (w.heap.size + 5) 3 (ints cu) ∧ (∀ x, x < i → cu[x]? = some (-1)) ∧ Blk wi (w.heap.size + 4) 3 (ints po) ∧ Blk wi (w.heap.size + 2) 3 (ints st) ∧ Blk wi (w.heap.size + 1) 3 (ints la) ∧ Blk wi w.heap.size 3 (ints fr) ∧ Below w.heap.size w wi)
    (fun τ wi => ∃ (cu : List Int), τ 0 = .int .i64 (n : Int) ∧ τ 1 = .slice a1 nd.length c1 ∧ τ 2 = .slice a2 wr.length c2 ∧ τ 3 = .slice a3 it.length c3 ∧ τ 4 = .int .i64 (k : Int) ∧ τ 5 = .slice a5 pm.length c5 ∧ τ 13 = .int .i64 (nd.length : Int) ∧ τ 14 = .slice (some ⟨w.heap.size, 0, none⟩) nd.length nd.length ∧ τ 15 = .slice (some ⟨w.heap.size + 1, 0, none⟩) k k ∧ τ 18 = .slice (some ⟨w.heap.size + 2, 0, none⟩) (n + 1) (n + 1) ∧ τ 22 = .slice (some ⟨w.heap.size + 4, 0, none⟩) nd.length nd.length ∧ τ 25 = .slice (some ⟨w.heap.size + 5, 0, none⟩) k k ∧
      cu.length = k ∧ Blk wi (w.heap.size + 5) 3 (ints cu) ∧ (∀ x, x < k → cu[x]? = some (-1)) ∧ Blk wi (w.heap.size + 4) 3 (ints po) ∧ Blk wi (w.heap.size + 2) 3 (ints st) ∧ Blk wi (w.heap.size + 1) 3 (ints la) ∧ Blk wi w.heap.size 3 (ints fr) ∧ Below w.heap.size w wi) k ?_ ?_ ?_
  · exact ⟨0, _, rfl, Nat.zero_le _, (nx rfl c52_0), (nx rfl c52_1), (nx rfl c52_2), (nx rfl c52_3), (nx rfl c52_4), (nx rfl c52_5), (nx rfl c52_13), (nx rfl c52_14), (nx rfl c52_15), (nx rfl c52_18), (nx rfl c52_22), (nx rfl c52_25), hit, by simp, hCu, fun j hj => by omega, hPo, hS, hL, hFr, hba⟩
  · clear t0 t1 t2 t3 t4 t5 t13 t14 t15 t18 t22 hS hL hFr hsa hba hCu hPo
    rintro Q' r τ wi hnn hx hr ⟨i, cu, rfl, hi, t0, t1, t2, t3, t4, t5, t13, t14, t15, t18, t22, t25, t26, hcl, hCu, hcu, hPo, hS, hL, hFr, hbel⟩
    refine wp_seq_k (fun K55 hK55 => ?_)
    refine wp_seq_k (fun K56 hK56 => ?_)
    refine reg ?_
    refine sq rfl (do_move (tm rfl t26)) ?_
    refine sq rfl (do_move (tm rfl (nx rfl t4))) ?_
    refine sq rfl (do_lss (tm rfl (nx rfl hit)) (tm rfl hit)) ?_
    refine wnil ?_
    refine hK56 _ _ ?_
    clear hK56
    by_cases h : i < k
    · refine cT rfl hit (by simpa using h) ?_
      refine wp_skip ?_
      refine hK55 _ _ ?_
      clear hK55
      refine wp_seq_k (fun K57 hK57 => ?_)
      refine wp_block ?_
      refine reg ?_
      refine sq rfl (do_move (tm rfl (nx rfl (nx rfl (nx rfl t25))))) ?_
      refine sq rfl (do_move (tm rfl (nx rfl (nx rfl (nx rfl (nx rfl t26)))))) ?_
      refine sq rfl (ix22 (tm rfl (nx rfl hit)) (tm rfl hit) (by omega)) ?_
      refine sqn (do_store T3 (tm rfl hit) ck rfl (hCu.cell (ints_get cu i (by omega))) (hCu.frozen _)) ?_
      refine cutW ?_
      intro τ58 e58 w2 hw2
      have c58_0 := (congrFun e58 0).trans (nx rfl (nx rfl (nx rfl (nx rfl (nx rfl (nx rfl t0))))))
      have c58_1 := (congrFun e58 1).trans (nx rfl (nx rfl (nx rfl (nx rfl (nx rfl (nx rfl t1))))))
      have c58_2 := (congrFun e58 2).trans (nx rfl (nx rfl (nx rfl (nx rfl (nx rfl (nx rfl t2))))))
      have c58_3 := (congrFun e58 3).trans (nx rfl (nx rfl (nx rfl (nx rfl (nx rfl (nx rfl t3))))))
      have c58_4 := (congrFun e58 4).trans (nx rfl (nx rfl (nx rfl (nx rfl (nx rfl (nx rfl t4))))))
      have c58_5 := (congrFun e58 5).trans (nx rfl (nx rfl (nx rfl (nx rfl (nx rfl (nx rfl t5))))))
      have c58_13 := (congrFun e58 13).trans (nx rfl (nx rfl (nx rfl (nx rfl (nx rfl (nx rfl t13))))))
      have c58_14 := (congrFun e58 14).trans (nx rfl (nx rfl (nx rfl (nx rfl (nx rfl (nx rfl t14))))))
      have c58_15 := (congrFun e58 15).trans (nx rfl (nx rfl (nx rfl (nx rfl (nx rfl (nx rfl t15))))))
      have c58_18 := (congrFun e58 18).trans (nx rfl (nx rfl (nx rfl (nx rfl (nx rfl (nx rfl t18))))))
      have c58_22 := (congrFun e58 22).trans (nx rfl (nx rfl (nx rfl (nx rfl (nx rfl (nx rfl t22))))))
      have c58_25 := (congrFun e58 25).trans (nx rfl (nx rfl (nx rfl (nx rfl (nx rfl (nx rfl t25))))))
      have c58_26 := (congrFun e58 26).trans (nx rfl (nx rfl (nx rfl (nx rfl (nx rfl (nx rfl t26))))))
      clear e58
      refine wnil ?_
      refine inBN ?_
      refine hK57 _ _ ?_
      clear hK57
      refine reg ?_
      refine sq rfl (do_move (tm rfl c58_26)) ?_
      refine sq rfl (do_inc (tm rfl hit) ck (by omega)) ?_
      refine sq rfl (do_assign (tm rfl hit)) ?_
      refine wnil ?_
      refine hnn (k - (i + 1)) _ _ (by omega) ⟨i + 1, cu.set i (-1), rfl, by omega, (nx rfl (nx rfl (nx rfl c58_0))), (nx rfl (nx rfl (nx rfl c58_1))), (nx rfl (nx rfl (nx rfl c58_2))), (nx rfl (nx rfl (nx rfl c58_3))), (nx rfl (nx rfl (nx rfl c58_4))), (nx rfl (nx rfl (nx rfl c58_5))), (nx rfl (nx rfl (nx rfl c58_13))), (nx rfl (nx rfl (nx rfl c58_14))), (nx rfl (nx rfl (nx rfl c58_15))), (nx rfl (nx rfl (nx rfl c58_18))), (nx rfl (nx rfl (nx rfl c58_22))), (nx rfl (nx rfl (nx rfl c58_25))), hit, by simp [hcl], ?_, ?_, hPo.of_eq (by rw [hw2, heap_set (by simp)]), hS.of_eq (by rw [hw2, heap_set (by simp)]), hL.of_eq (by rw [hw2, heap_set (by simp)]), hFr.of_eq (by rw [hw2, heap_set (by simp)]), ?_⟩
      · rw [hw2, ← ints_set]; exact hCu.set _ _
      · intro x hx
        by_cases hxi : i = x
        · subst hxi; exact List.getElem?_set_self (by omega)
        · rw [List.getElem?_set_ne hxi]; exact hcu x (by omega)
      · rw [hw2]; exact hbel.setCell (by simp) _
    · refine cF rfl hit (by simpa using h) ?_
      refine wp_exit ?_
      refine thenE ?_
      obtain rfl : i = k := by omega
      exact hx _ _ ⟨cu, (nx rfl (nx rfl (nx rfl t0))), (nx rfl (nx rfl (nx rfl t1))), (nx rfl (nx rfl (nx rfl t2))), (nx rfl (nx rfl (nx rfl t3))), (nx rfl (nx rfl (nx rfl t4))), (nx rfl (nx rfl (nx rfl t5))), (nx rfl (nx rfl (nx rfl t13))), (nx rfl (nx rfl (nx rfl t14))), (nx rfl (nx rfl (nx rfl t15))), (nx rfl (nx rfl (nx rfl t18))), (nx rfl (nx rfl (nx rfl t22))), (nx rfl (nx rfl (nx rfl t25))), hcl, hCu, hcu, hPo, hS, hL, hFr, hbel⟩
  clear t0 t1 t2 t3 t4 t5 t13 t14 t15 t18 t22 hS hL hFr hsa hba hCu hPo
  rintro τ wi ⟨cu, t0, t1, t2, t3, t4, t5, t13, t14, t15, t18, t22, t25, hcl, hCu, hcu, hPo, hS, hL, hFr, hbel⟩
  refine hK53 _ _ ?_
  clear hK53
  have RI : ∀ u v, u < n → v < n → rkOf rk u = rkOf rk v → u = v := fun u v hu hv e => hrk.inj hu hv e
  have hpn : pm.length = n := hrk.1
  refine wp_seq_k (fun K59 hK59 => ?_)
  refine wp_seq_k (fun K60 hK60 => ?_)
  refine reg ?_
  refine sq rfl (do_move (tm rfl t5)) ?_
  refine sq rfl (do_len Try.underlying22 (tm rfl hit)) ?_
  refine sq rfl (do_move (v := .int .i64 ((0 : Nat) : Int)) rfl) ?_
  refine wnil ?_
  refine hK60 _ _ ?_
  clear hK60
  refine forLoop (N := 207) (fun r τ wi => ∃ (t : Nat) (cu : List Int), r = pm.length - t ∧ t ≤ pm.length ∧ τ 0 = .int .i64 (n : Int) ∧ τ 1 = .slice a1 nd.length c1 ∧ τ 2 = .slice a2 wr.length c2 ∧ τ 3 = .slice a3 it.length c3 ∧ τ 4 = .int .i64 (k : Int) ∧ τ 5 = .slice a5 pm.length c5 ∧ τ 13 = .int .i64 (nd.length : Int) ∧ τ 14 = .slice (some ⟨w.heap.size, 0, none⟩) nd.length nd.length ∧ τ 15 = .slice (some ⟨w.heap.size + 1, 0, none⟩) k k ∧ τ 18 = .slice (some ⟨w.heap.size + 2, 0, none⟩) (n + 1) (n + 1) ∧ τ 22 = .slice (some ⟨w.heap.size + 4, 0, none⟩) nd.length nd.length ∧ τ 25 = .slice (some ⟨w.heap.size + 5, 0, none⟩) k k ∧ τ 148 = .slice a5 pm.length c5 ∧ τ 149 = .int .i64 (pm.length : Int) ∧ τ 150 = .int .i64 (t : Int) ∧
      cu.length = k ∧ Blk wi (w.heap.size + 5) 3 (ints cu) ∧ (∀ x, x < k → ∃ l, cu[x]? = some l ∧ lastIs H (rkOf rk) (fun j => rkOf rk (H.nd j) < t) x l) ∧
      (∀ i, i < H.m → H.wr i = false → rkOf rk (H.nd i) < t → lastIs H (rkOf rk) (fun j => ser H (rkOf rk) j i) (H.it i) (lw H i (H.it i))) ∧
      Blk wi (w.heap.size + 4) 3 (ints po) ∧ Blk wi (w.heap.size + 2) 3 (ints st) ∧ Blk wi (w.heap.size + 1) 3 (ints la) ∧ Blk wi w.heap.size 3 (ints fr) ∧ Below w.heap.size w wi)
    (fun τ wi => ∃ (cu : List Int), τ 0 = .int .i64 (n : Int) ∧ τ 1 = .slice a1 nd.length c1 ∧ τ 2 = .slice a2 wr.length c2 ∧ τ 3 = .slice a3 it.length c3 ∧ τ 4 = .int .i64 (k : Int) ∧ τ 5 = .slice a5 pm.length c5 ∧ τ 13 = .int .i64 (nd.length : Int) ∧ τ 14 = .slice (some ⟨w.heap.size, 0, none⟩) nd.length nd.length ∧ τ 15 = .slice (some ⟨w.heap.size + 1, 0, none⟩) k k ∧ τ 25 = .slice (some ⟨w.heap.size + 5, 0, none⟩) k k ∧
      cu.length = k ∧ Blk wi (w.heap.size + 5) 3 (ints cu) ∧ (∀ x, x < k → ∃ l, cu[x]? = some l ∧ lastIs H (rkOf rk) (fun _ => True) x l) ∧
      (∀ i, i < H.m → H.wr i = false → lastIs H (rkOf rk) (fun j => ser H (rkOf rk) j i) (H.it i) (lw H i (H.it i))) ∧
      Blk wi (w.heap.size + 1) 3 (ints la) ∧ Below w.heap.size w wi) pm.length ?_ ?_ ?_
  · refine ⟨0, cu, rfl, Nat.zero_le _, (nx rfl (nx rfl (nx rfl t0))), (nx rfl (nx rfl (nx rfl t1))), (nx rfl (nx rfl (nx rfl t2))), (nx rfl (nx rfl (nx rfl t3))), (nx rfl (nx rfl (nx rfl t4))), (nx rfl (nx rfl (nx rfl t5))), (nx rfl (nx rfl (nx rfl t13))), (nx rfl (nx rfl (nx rfl t14))), (nx rfl (nx rfl (nx rfl t15))), (nx rfl (nx rfl (nx rfl t18))), (nx rfl (nx rfl (nx rfl t22))), (nx rfl (nx rfl (nx rfl t25))), (nx rfl (nx rfl hit)), (nx rfl hit), hit, hcl, hCu, fun x hx => ⟨-1, hcu x hx, lastIs_congr H _ (fun j _ => ?_) (lastIs_none H _ x)⟩, fun i _ _ hi => by omega, hPo, hS, hL, hFr, hbel⟩
    simp
  · clear t0 t1 t2 t3 t4 t5 t13 t14 t15 t18 t22 t25 hS hL hFr hbel hCu hPo hcl hcu cu
    rintro Q' r τ wi hnn hx hr ⟨t, cu, rfl, hi, t0, t1, t2, t3, t4, t5, t13, t14, t15, t18, t22, t25, t148, t149, t150, hcl, hCu, hcu, hrd, hPo, hS, hL, hFr, hbel⟩
    refine wp_seq_k (fun K61 hK61 => ?_)
    refine reg ?_
    refine sq rfl (do_lss (tm rfl t150) (tm rfl t149)) ?_
    refine wnil ?_
    refine hK61 _ _ ?_
    clear hK61
    by_cases h : t < pm.length
    · refine wp_seq_k (fun K62 hK62 => ?_)
      refine cT rfl hit (by simpa using h) ?_
      refine wp_skip ?_
      refine hK62 _ _ ?_
      clear hK62
      obtain ⟨b5, o5, rfl, d5⟩ := hc5 t h
      obtain ⟨v, hvn, hpv, hrv⟩ := hrk.at h
      rw [← hbel.cell (World.block_lt_of_cell? w _ d5), hpv] at d5
      have hb0 := hcm v (by omega)
      have hb1 := hcm (v + 1) (by omega)
      have hce : cL H (v + 1) = cL H v + cE H H.m v := rfl
      refine wp_seq_k (fun K63 hK63 => ?_)
      refine wp_block ?_
      refine wp_seq_k (fun K64 hK64 => ?_)
      refine reg ?_
      refine sq rfl (io22 (tm rfl (nx rfl t148)) (tm rfl (nx rfl t150)) (by omega)) ?_
      refine sq rfl (do_load T3 rfl (tm rfl hit) d5) ?_
      refine sq rfl (do_assign (tm rfl hit)) ?_
      refine cutL ?_
      intro τ65 e65
      have c65_0 := (congrFun e65 0).trans (nx rfl (nx rfl (nx rfl (nx rfl t0))))
      have c65_1 := (congrFun e65 1).trans (nx rfl (nx rfl (nx rfl (nx rfl t1))))
      have c65_2 := (congrFun e65 2).trans (nx rfl (nx rfl (nx rfl (nx rfl t2))))
      have c65_3 := (congrFun e65 3).trans (nx rfl (nx rfl (nx rfl (nx rfl t3))))
      have c65_4 := (congrFun e65 4).trans (nx rfl (nx rfl (nx rfl (nx rfl t4))))
      have c65_5 := (congrFun e65 5).trans (nx rfl (nx rfl (nx rfl (nx rfl t5))))
      have c65_13 := (congrFun e65 13).trans (nx rfl (nx rfl (nx rfl (nx rfl t13))))
      have c65_14 := (congrFun e65 14).trans (nx rfl (nx rfl (nx rfl (nx rfl t14))))
      have c65_15 := (congrFun e65 15).trans (nx rfl (nx rfl (nx rfl (nx rfl t15))))
      have c65_18 := (congrFun e65 18).trans (nx rfl (nx rfl (nx rfl (nx rfl t18))))
      have c65_22 := (congrFun e65 22).trans (nx rfl (nx rfl (nx rfl (nx rfl t22))))
      have c65_25 := (congrFun e65 25).trans (nx rfl (nx rfl (nx rfl (nx rfl t25))))
      have c65_28 := (congrFun e65 28).trans hit
      have c65_148 := (congrFun e65 148).trans (nx rfl (nx rfl (nx rfl (nx rfl t148))))
      have c65_149 := (congrFun e65 149).trans (nx rfl (nx rfl (nx rfl (nx rfl t149))))
      have c65_150 := (congrFun e65 150).trans (nx rfl (nx rfl (nx rfl (nx rfl t150))))
      clear e65
      refine wnil ?_
      refine hK64 _ _ ?_
      clear hK64
      have e1 := hS.cell (show (ints st)[v]? = some (.int .i64 (cL H v : Int)) by simp [ints, hst v (by omega)])
      refine wp_seq_k (fun K66 hK66 => ?_)
      refine reg ?_
      refine sq rfl (do_move (tm rfl c65_18)) ?_
      refine sq rfl (do_move (tm rfl (nx rfl c65_28))) ?_
      refine sq rfl (ix22 (tm rfl (nx rfl hit)) (tm rfl hit) (by omega)) ?_
      refine sq rfl (do_load T3 rfl (tm rfl hit) e1) ?_
      refine sq rfl (do_assign (tm rfl hit)) ?_
      refine cutL ?_
      intro τ67 e67
      have c67_0 := (congrFun e67 0).trans (nx rfl (nx rfl (nx rfl (nx rfl (nx rfl c65_0)))))
      have c67_1 := (congrFun e67 1).trans (nx rfl (nx rfl (nx rfl (nx rfl (nx rfl c65_1)))))
      have c67_2 := (congrFun e67 2).trans (nx rfl (nx rfl (nx rfl (nx rfl (nx rfl c65_2)))))
      have c67_3 := (congrFun e67 3).trans (nx rfl (nx rfl (nx rfl (nx rfl (nx rfl c65_3)))))
      have c67_4 := (congrFun e67 4).trans (nx rfl (nx rfl (nx rfl (nx rfl (nx rfl c65_4)))))
      have c67_5 := (congrFun e67 5).trans (nx rfl (nx rfl (nx rfl (nx rfl (nx rfl c65_5)))))
      have c67_13 := (congrFun e67 13).trans (nx rfl (nx rfl (nx rfl (nx rfl (nx rfl c65_13)))))
      have c67_14 := (congrFun e67 14).trans (nx rfl (nx rfl (nx rfl (nx rfl (nx rfl c65_14)))))
      have c67_15 := (congrFun e67 15).trans (nx rfl (nx rfl (nx rfl (nx rfl (nx rfl c65_15)))))
      have c67_18 := (congrFun e67 18).trans (nx rfl (nx rfl (nx rfl (nx rfl (nx rfl c65_18)))))
      have c67_22 := (congrFun e67 22).trans (nx rfl (nx rfl (nx rfl (nx rfl (nx rfl c65_22)))))
      have c67_25 := (congrFun e67 25).trans (nx rfl (nx rfl (nx rfl (nx rfl (nx rfl c65_25)))))
      have c67_28 := (congrFun e67 28).trans (nx rfl (nx rfl (nx rfl (nx rfl (nx rfl c65_28)))))
      have c67_29 := (congrFun e67 29).trans hit
      have c67_148 := (congrFun e67 148).trans (nx rfl (nx rfl (nx rfl (nx rfl (nx rfl c65_148)))))
      have c67_149 := (congrFun e67 149).trans (nx rfl (nx rfl (nx rfl (nx rfl (nx rfl c65_149)))))
      have c67_150 := (congrFun e67 150).trans (nx rfl (nx rfl (nx rfl (nx rfl (nx rfl c65_150)))))
      clear e67
      refine wnil ?_
      refine hK66 _ _ ?_
      clear hK66
      refine forLoop (N := 207) (fun r τ wi => ∃ (c : Nat) (cu : List Int), r = cE H H.m v - c ∧ c ≤ cE H H.m v ∧ τ 0 = .int .i64 (n : Int) ∧ τ 1 = .slice a1 nd.length c1 ∧ τ 2 = .slice a2 wr.length c2 ∧ τ 3 = .slice a3 it.length c3 ∧ τ 4 = .int .i64 (k : Int) ∧ τ 5 = .slice (some ⟨b5, o5, none⟩) pm.length c5 ∧ τ 13 = .int .i64 (nd.length : Int) ∧ τ 14 = .slice (some ⟨w.heap.size, 0, none⟩) nd.length nd.length ∧ τ 15 = .slice (some ⟨w.heap.size + 1, 0, none⟩) k k ∧ τ 18 = .slice (some ⟨w.heap.size + 2, 0, none⟩) (n + 1) (n + 1) ∧ τ 22 = .slice (some ⟨w.heap.size + 4, 0, none⟩) nd.length nd.length ∧ τ 25 = .slice (some ⟨w.heap.size + 5, 0, none⟩) k k ∧ τ 148 = .slice (some ⟨b5, o5, none⟩) pm.length c5 ∧ τ 149 = .int .i64 (pm.length : Int) ∧ τ 150 = .int .i64 (t : Int) ∧ τ 28 = .int .i64 (v : Int) ∧ τ 29 = .int .i64 ((cL H v + c : Nat) : Int) ∧
          cu.length = k ∧ Blk wi (w.heap.size + 5) 3 (ints cu) ∧ (∀ x, x < k → ∃ l, cu[x]? = some l ∧ lastIs H (rkOf rk) (seen H (rkOf rk) t v c) x l) ∧
          (∀ i, i < H.m → H.wr i = false → seen H (rkOf rk) t v c i → lastIs H (rkOf rk) (fun j => ser H (rkOf rk) j i) (H.it i) (lw H i (H.it i))) ∧
          Blk wi (w.heap.size + 4) 3 (ints po) ∧ Blk wi (w.heap.size + 2) 3 (ints st) ∧ Blk wi (w.heap.size + 1) 3 (ints la) ∧ Blk wi w.heap.size 3 (ints fr) ∧ Below w.heap.size w wi)
        (fun τ wi => ∃ (cu : List Int), τ 0 = .int .i64 (n : Int) ∧ τ 1 = .slice a1 nd.length c1 ∧ τ 2 = .slice a2 wr.length c2 ∧ τ 3 = .slice a3 it.length c3 ∧ τ 4 = .int .i64 (k : Int) ∧ τ 5 = .slice (some ⟨b5, o5, none⟩) pm.length c5 ∧ τ 13 = .int .i64 (nd.length : Int) ∧ τ 14 = .slice (some ⟨w.heap.size, 0, none⟩) nd.length nd.length ∧ τ 15 = .slice (some ⟨w.heap.size + 1, 0, none⟩) k k ∧ τ 18 = .slice (some ⟨w.heap.size + 2, 0, none⟩) (n + 1) (n + 1) ∧ τ 22 = .slice (some ⟨w.heap.size + 4, 0, none⟩) nd.length nd.length ∧ τ 25 = .slice (some ⟨w.heap.size + 5, 0, none⟩) k k ∧ τ 148 = .slice (some ⟨b5, o5, none⟩) pm.length c5 ∧ τ 149 = .int .i64 (pm.length : Int) ∧ τ 150 = .int .i64 (t : Int) ∧
          cu.length = k ∧ Blk wi (w.heap.size + 5) 3 (ints cu) ∧ (∀ x, x < k → ∃ l, cu[x]? = some l ∧ lastIs H (rkOf rk) (seen H (rkOf rk) t v (cE H H.m v)) x l) ∧
          (∀ i, i < H.m → H.wr i = false → seen H (rkOf rk) t v (cE H H.m v) i → lastIs H (rkOf rk) (fun j => ser H (rkOf rk) j i) (H.it i) (lw H i (H.it i))) ∧
          Blk wi (w.heap.size + 4) 3 (ints po) ∧ Blk wi (w.heap.size + 2) 3 (ints st) ∧ Blk wi (w.heap.size + 1) 3 (ints la) ∧ Blk wi w.heap.size 3 (ints fr) ∧ Below w.heap.size w wi) (cE H H.m v) ?_ ?_ ?_
      · refine ⟨0, cu, rfl, Nat.zero_le _, c67_0, c67_1, c67_2, c67_3, c67_4, c67_5, c67_13, c67_14, c67_15, c67_18, c67_22, c67_25, c67_148, c67_149, c67_150, c67_28, c67_29, hcl, hCu, fun x hx => ?_, fun i him hw hs => ?_, hPo, hS, hL, hFr, hbel⟩
        · obtain ⟨l, h1, h2⟩ := hcu x hx
          exact ⟨l, h1, lastIs_congr H _ (fun j _ => by simp [seen]) h2⟩
        · exact hrd i him hw (by simpa [seen] using hs)
      · rintro Q'' r ξ wj hnn' hx' hr' ⟨c, cj, rfl, hc, x0, x1, x2, x3, x4, x5, x13, x14, x15, x18, x22, x25, x148, x149, x150, x28, x29, hcl', hCu', hcu', hrd', hPo', hS', hL', hFr', hbel'⟩
        have f1 := hS'.cell (show (ints st)[v + 1]? = some (.int .i64 (cL H (v + 1) : Int)) by simp [ints, hst (v + 1) (by omega)])
        refine wp_seq_k (fun K68 hK68 => ?_)
        refine wp_seq_k (fun K69 hK69 => ?_)
        refine reg ?_
        refine sq rfl (do_move (tm rfl x29)) ?_
        refine sq rfl (do_move (tm rfl (nx rfl x18))) ?_
        refine sq rfl (do_move (tm rfl (nx rfl (nx rfl x28)))) ?_
        refine sq rfl (do_inc (tm rfl hit) ck (by omega)) ?_
        refine sq rfl (ix22 (tm rfl (nx rfl (nx rfl hit))) (tm rfl hit) (by omega)) ?_
        refine sq rfl (do_load T3 rfl (tm rfl hit) f1) ?_
        refine sq rfl (do_lss (tm rfl (nx rfl (nx rfl (nx rfl (nx rfl (nx rfl hit)))))) (tm rfl hit)) ?_
        refine cutL ?_
        intro τ70 e70
        have c70_0 := (congrFun e70 0).trans (nx rfl (nx rfl (nx rfl (nx rfl (nx rfl (nx rfl (nx rfl x0)))))))
        have c70_1 := (congrFun e70 1).trans (nx rfl (nx rfl (nx rfl (nx rfl (nx rfl (nx rfl (nx rfl x1)))))))
        have c70_2 := (congrFun e70 2).trans (nx rfl (nx rfl (nx rfl (nx rfl (nx rfl (nx rfl (nx rfl x2)))))))
        have c70_3 := (congrFun e70 3).trans (nx rfl (nx rfl (nx rfl (nx rfl (nx rfl (nx rfl (nx rfl x3)))))))
        have c70_4 := (congrFun e70 4).trans (nx rfl (nx rfl (nx rfl (nx rfl (nx rfl (nx rfl (nx rfl x4)))))))
        have c70_5 := (congrFun e70 5).trans (nx rfl (nx rfl (nx rfl (nx rfl (nx rfl (nx rfl (nx rfl x5)))))))
        have c70_13 := (congrFun e70 13).trans (nx rfl (nx rfl (nx rfl (nx rfl (nx rfl (nx rfl (nx rfl x13)))))))
        have c70_14 := (congrFun e70 14).trans (nx rfl (nx rfl (nx rfl (nx rfl (nx rfl (nx rfl (nx rfl x14)))))))
        have c70_15 := (congrFun e70 15).trans (nx rfl (nx rfl (nx rfl (nx rfl (nx rfl (nx rfl (nx rfl x15)))))))
        have c70_18 := (congrFun e70 18).trans (nx rfl (nx rfl (nx rfl (nx rfl (nx rfl (nx rfl (nx rfl x18)))))))
        have c70_22 := (congrFun e70 22).trans (nx rfl (nx rfl (nx rfl (nx rfl (nx rfl (nx rfl (nx rfl x22)))))))
        have c70_25 := (congrFun e70 25).trans (nx rfl (nx rfl (nx rfl (nx rfl (nx rfl (nx rfl (nx rfl x25)))))))
        have c70_28 := (congrFun e70 28).trans (nx rfl (nx rfl (nx rfl (nx rfl (nx rfl (nx rfl (nx rfl x28)))))))
        have c70_29 := (congrFun e70 29).trans (nx rfl (nx rfl (nx rfl (nx rfl (nx rfl (nx rfl (nx rfl x29)))))))
        have c70_148 := (congrFun e70 148).trans (nx rfl (nx rfl (nx rfl (nx rfl (nx rfl (nx rfl (nx rfl x148)))))))
        have c70_149 := (congrFun e70 149).trans (nx rfl (nx rfl (nx rfl (nx rfl (nx rfl (nx rfl (nx rfl x149)))))))
        have c70_150 := (congrFun e70 150).trans (nx rfl (nx rfl (nx rfl (nx rfl (nx rfl (nx rfl (nx rfl x150)))))))
        have c70_164 := (congrFun e70 164).trans hit
        clear e70
        refine wnil ?_
        refine hK69 _ _ ?_
        clear hK69
        by_cases h' : c < cE H H.m v
        · refine cT rfl c70_164 (by simp only [decide_eq_true_eq]; omega) ?_
          refine wp_skip ?_
          refine hK68 _ _ ?_
          clear hK68
          obtain ⟨i, him, hiv, hic⟩ := cE_surj H v H.m c h'
          have hpi : plc H i = cL H v + c := by simp only [plc, hiv, hic]
          have g1 := hPo'.cell (show (ints po)[cL H v + c]? = some (.int .i64 (i : Int)) by rw [← hpi]; simp [ints, hpo i (by omega)])
          obtain ⟨b3, o3, rfl, d3⟩ := C3 i (by omega) wj hbel'
          obtain ⟨b2, o2, rfl, d2⟩ := C2 i (by omega) wj hbel'
          have hxk := (Hit i (by omega)).2
          refine wp_seq_k (fun K71 hK71 => ?_)
          refine wp_block ?_
          refine wp_seq_k (fun K72 hK72 => ?_)
          refine reg ?_
          refine sq rfl (do_move (tm rfl c70_22)) ?_
          refine sq rfl (do_move (tm rfl (nx rfl c70_29))) ?_
          refine sq rfl (ix22 (tm rfl (nx rfl hit)) (tm rfl hit) (by omega)) ?_
          refine sq rfl (do_load T3 rfl (tm rfl hit) g1) ?_
          refine sq rfl (do_assign (tm rfl hit)) ?_
          refine cutL ?_
          intro τ73 e73
          have c73_0 := (congrFun e73 0).trans (nx rfl (nx rfl (nx rfl (nx rfl (nx rfl c70_0)))))
          have c73_1 := (congrFun e73 1).trans (nx rfl (nx rfl (nx rfl (nx rfl (nx rfl c70_1)))))
          have c73_2 := (congrFun e73 2).trans (nx rfl (nx rfl (nx rfl (nx rfl (nx rfl c70_2)))))
          have c73_3 := (congrFun e73 3).trans (nx rfl (nx rfl (nx rfl (nx rfl (nx rfl c70_3)))))
          have c73_4 := (congrFun e73 4).trans (nx rfl (nx rfl (nx rfl (nx rfl (nx rfl c70_4)))))
          have c73_5 := (congrFun e73 5).trans (nx rfl (nx rfl (nx rfl (nx rfl (nx rfl c70_5)))))
          have c73_13 := (congrFun e73 13).trans (nx rfl (nx rfl (nx rfl (nx rfl (nx rfl c70_13)))))
          have c73_14 := (congrFun e73 14).trans (nx rfl (nx rfl (nx rfl (nx rfl (nx rfl c70_14)))))
          have c73_15 := (congrFun e73 15).trans (nx rfl (nx rfl (nx rfl (nx rfl (nx rfl c70_15)))))
          have c73_18 := (congrFun e73 18).trans (nx rfl (nx rfl (nx rfl (nx rfl (nx rfl c70_18)))))
          have c73_22 := (congrFun e73 22).trans (nx rfl (nx rfl (nx rfl (nx rfl (nx rfl c70_22)))))
          have c73_25 := (congrFun e73 25).trans (nx rfl (nx rfl (nx rfl (nx rfl (nx rfl c70_25)))))
          have c73_28 := (congrFun e73 28).trans (nx rfl (nx rfl (nx rfl (nx rfl (nx rfl c70_28)))))
          have c73_29 := (congrFun e73 29).trans (nx rfl (nx rfl (nx rfl (nx rfl (nx rfl c70_29)))))
          have c73_30 := (congrFun e73 30).trans hit
          have c73_148 := (congrFun e73 148).trans (nx rfl (nx rfl (nx rfl (nx rfl (nx rfl c70_148)))))
          have c73_149 := (congrFun e73 149).trans (nx rfl (nx rfl (nx rfl (nx rfl (nx rfl c70_149)))))
          have c73_150 := (congrFun e73 150).trans (nx rfl (nx rfl (nx rfl (nx rfl (nx rfl c70_150)))))
          clear e73
          refine wnil ?_
          refine hK72 _ _ ?_
          clear hK72
          refine wp_seq_k (fun K74 hK74 => ?_)
          refine reg ?_
          refine sq rfl (do_move (tm rfl c73_3)) ?_
          refine sq rfl (do_move (tm rfl (nx rfl c73_30))) ?_
          refine sq rfl (io22 (tm rfl (nx rfl hit)) (tm rfl hit) (by omega)) ?_
          refine sq rfl (do_load T3 rfl (tm rfl hit) d3) ?_
          refine sq rfl (do_assign (tm rfl hit)) ?_
          refine cutL ?_
          intro τ75 e75
          have c75_0 := (congrFun e75 0).trans (nx rfl (nx rfl (nx rfl (nx rfl (nx rfl c73_0)))))
          have c75_1 := (congrFun e75 1).trans (nx rfl (nx rfl (nx rfl (nx rfl (nx rfl c73_1)))))
          have c75_2 := (congrFun e75 2).trans (nx rfl (nx rfl (nx rfl (nx rfl (nx rfl c73_2)))))
          have c75_3 := (congrFun e75 3).trans (nx rfl (nx rfl (nx rfl (nx rfl (nx rfl c73_3)))))
          have c75_4 := (congrFun e75 4).trans (nx rfl (nx rfl (nx rfl (nx rfl (nx rfl c73_4)))))
          have c75_5 := (congrFun e75 5).trans (nx rfl (nx rfl (nx rfl (nx rfl (nx rfl c73_5)))))
          have c75_13 := (congrFun e75 13).trans (nx rfl (nx rfl (nx rfl (nx rfl (nx rfl c73_13)))))
          have c75_14 := (congrFun e75 14).trans (nx rfl (nx rfl (nx rfl (nx rfl (nx rfl c73_14)))))
          have c75_15 := (congrFun e75 15).trans (nx rfl (nx rfl (nx rfl (nx rfl (nx rfl c73_15)))))
          have c75_18 := (congrFun e75 18).trans (nx rfl (nx rfl (nx rfl (nx rfl (nx rfl c73_18)))))
          have c75_22 := (congrFun e75 22).trans (nx rfl (nx rfl (nx rfl (nx rfl (nx rfl c73_22)))))
          have c75_25 := (congrFun e75 25).trans (nx rfl (nx rfl (nx rfl (nx rfl (nx rfl c73_25)))))
          have c75_28 := (congrFun e75 28).trans (nx rfl (nx rfl (nx rfl (nx rfl (nx rfl c73_28)))))
          have c75_29 := (congrFun e75 29).trans (nx rfl (nx rfl (nx rfl (nx rfl (nx rfl c73_29)))))
          have c75_30 := (congrFun e75 30).trans (nx rfl (nx rfl (nx rfl (nx rfl (nx rfl c73_30)))))
          have c75_31 := (congrFun e75 31).trans hit
          have c75_148 := (congrFun e75 148).trans (nx rfl (nx rfl (nx rfl (nx rfl (nx rfl c73_148)))))
          have c75_149 := (congrFun e75 149).trans (nx rfl (nx rfl (nx rfl (nx rfl (nx rfl c73_149)))))
          have c75_150 := (congrFun e75 150).trans (nx rfl (nx rfl (nx rfl (nx rfl (nx rfl c73_150)))))
          clear e75
          refine wnil ?_
          refine hK74 _ _ ?_
          clear hK74
          refine wp_seq_k (fun K76 hK76 => ?_)
          refine reg ?_
          refine sq rfl (do_move (tm rfl c75_2)) ?_
          refine sq rfl (do_move (tm rfl (nx rfl c75_30))) ?_
          refine sq rfl (io23 (tm rfl (nx rfl hit)) (tm rfl hit) (by omega)) ?_
          refine sq rfl (do_load T4 rfl (tm rfl hit) d2) ?_
          refine cutL ?_
          intro τ77 e77
          have c77_0 := (congrFun e77 0).trans (nx rfl (nx rfl (nx rfl (nx rfl c75_0))))
          have c77_1 := (congrFun e77 1).trans (nx rfl (nx rfl (nx rfl (nx rfl c75_1))))
          have c77_2 := (congrFun e77 2).trans (nx rfl (nx rfl (nx rfl (nx rfl c75_2))))
          have c77_3 := (congrFun e77 3).trans (nx rfl (nx rfl (nx rfl (nx rfl c75_3))))
          have c77_4 := (congrFun e77 4).trans (nx rfl (nx rfl (nx rfl (nx rfl c75_4))))
          have c77_5 := (congrFun e77 5).trans (nx rfl (nx rfl (nx rfl (nx rfl c75_5))))
          have c77_13 := (congrFun e77 13).trans (nx rfl (nx rfl (nx rfl (nx rfl c75_13))))
          have c77_14 := (congrFun e77 14).trans (nx rfl (nx rfl (nx rfl (nx rfl c75_14))))
          have c77_15 := (congrFun e77 15).trans (nx rfl (nx rfl (nx rfl (nx rfl c75_15))))
          have c77_18 := (congrFun e77 18).trans (nx rfl (nx rfl (nx rfl (nx rfl c75_18))))
          have c77_22 := (congrFun e77 22).trans (nx rfl (nx rfl (nx rfl (nx rfl c75_22))))
          have c77_25 := (congrFun e77 25).trans (nx rfl (nx rfl (nx rfl (nx rfl c75_25))))
          have c77_28 := (congrFun e77 28).trans (nx rfl (nx rfl (nx rfl (nx rfl c75_28))))
          have c77_29 := (congrFun e77 29).trans (nx rfl (nx rfl (nx rfl (nx rfl c75_29))))
          have c77_30 := (congrFun e77 30).trans (nx rfl (nx rfl (nx rfl (nx rfl c75_30))))
          have c77_31 := (congrFun e77 31).trans (nx rfl (nx rfl (nx rfl (nx rfl c75_31))))
          have c77_148 := (congrFun e77 148).trans (nx rfl (nx rfl (nx rfl (nx rfl c75_148))))
          have c77_149 := (congrFun e77 149).trans (nx rfl (nx rfl (nx rfl (nx rfl c75_149))))
          have c77_150 := (congrFun e77 150).trans (nx rfl (nx rfl (nx rfl (nx rfl c75_150))))
          have c77_178 := (congrFun e77 178).trans hit
          clear e77
          refine wnil ?_
          refine hK76 _ _ ?_
          clear hK76
          subst hic
          by_cases hw : H.wr i = true
          · refine cT rfl c77_178 hw ?_
            refine reg ?_
            refine sq rfl (do_move (tm rfl c77_25)) ?_
            refine sq rfl (do_move (tm rfl (nx rfl c77_31))) ?_
            refine sq rfl (do_move (tm rfl (nx rfl (nx rfl c77_30)))) ?_
            refine sq rfl (ix22 (tm rfl (nx rfl (nx rfl hit))) (tm rfl (nx rfl hit)) (by omega)) ?_
            refine sqn (do_store T3 (tm rfl hit) (tm rfl (nx rfl hit)) rfl (hCu'.cell (ints_get cj (H.it i) (by omega))) (hCu'.frozen _)) ?_
            refine cutW ?_
            intro τ78 e78 w2 hw2
            have c78_0 := (congrFun e78 0).trans (nx rfl (nx rfl (nx rfl (nx rfl c77_0))))
            have c78_1 := (congrFun e78 1).trans (nx rfl (nx rfl (nx rfl (nx rfl c77_1))))
            have c78_2 := (congrFun e78 2).trans (nx rfl (nx rfl (nx rfl (nx rfl c77_2))))
            have c78_3 := (congrFun e78 3).trans (nx rfl (nx rfl (nx rfl (nx rfl c77_3))))
            have c78_4 := (congrFun e78 4).trans (nx rfl (nx rfl (nx rfl (nx rfl c77_4))))
            have c78_5 := (congrFun e78 5).trans (nx rfl (nx rfl (nx rfl (nx rfl c77_5))))
            have c78_13 := (congrFun e78 13).trans (nx rfl (nx rfl (nx rfl (nx rfl c77_13))))
            have c78_14 := (congrFun e78 14).trans (nx rfl (nx rfl (nx rfl (nx rfl c77_14))))
            have c78_15 := (congrFun e78 15).trans (nx rfl (nx rfl (nx rfl (nx rfl c77_15))))
            have c78_18 := (congrFun e78 18).trans (nx rfl (nx rfl (nx rfl (nx rfl c77_18))))
            have c78_22 := (congrFun e78 22).trans (nx rfl (nx rfl (nx rfl (nx rfl c77_22))))
            have c78_25 := (congrFun e78 25).trans (nx rfl (nx rfl (nx rfl (nx rfl c77_25))))
            have c78_28 := (congrFun e78 28).trans (nx rfl (nx rfl (nx rfl (nx rfl c77_28))))
            have c78_29 := (congrFun e78 29).trans (nx rfl (nx rfl (nx rfl (nx rfl c77_29))))
            have c78_30 := (congrFun e78 30).trans (nx rfl (nx rfl (nx rfl (nx rfl c77_30))))
            have c78_31 := (congrFun e78 31).trans (nx rfl (nx rfl (nx rfl (nx rfl c77_31))))
            have c78_148 := (congrFun e78 148).trans (nx rfl (nx rfl (nx rfl (nx rfl c77_148))))
            have c78_149 := (congrFun e78 149).trans (nx rfl (nx rfl (nx rfl (nx rfl c77_149))))
            have c78_150 := (congrFun e78 150).trans (nx rfl (nx rfl (nx rfl (nx rfl c77_150))))
            clear e78
            refine wnil ?_
            refine inBN ?_
            refine hK71 _ _ ?_
            clear hK71
            refine reg ?_
            refine sq rfl (do_move (tm rfl c78_29)) ?_
            refine sq rfl (do_inc (tm rfl hit) ck (by omega)) ?_
            refine sq rfl (do_assign (tm rfl hit)) ?_
            refine wnil ?_
            refine hnn' (cE H H.m v - (cE H i v + 1)) _ _ (by omega) ⟨cE H i v + 1, cj.set (H.it i) (i : Int), rfl, by omega, (nx rfl (nx rfl (nx rfl c78_0))), (nx rfl (nx rfl (nx rfl c78_1))), (nx rfl (nx rfl (nx rfl c78_2))), (nx rfl (nx rfl (nx rfl c78_3))), (nx rfl (nx rfl (nx rfl c78_4))), (nx rfl (nx rfl (nx rfl c78_5))), (nx rfl (nx rfl (nx rfl c78_13))), (nx rfl (nx rfl (nx rfl c78_14))), (nx rfl (nx rfl (nx rfl c78_15))), (nx rfl (nx rfl (nx rfl c78_18))), (nx rfl (nx rfl (nx rfl c78_22))), (nx rfl (nx rfl (nx rfl c78_25))), (nx rfl (nx rfl (nx rfl c78_148))), (nx rfl (nx rfl (nx rfl c78_149))), (nx rfl (nx rfl (nx rfl c78_150))), (nx rfl (nx rfl (nx rfl c78_28))), hit, by simp [hcl'], ?_, ?_, ?_, hPo'.of_eq (by rw [hw2, heap_set (by simp)]), hS'.of_eq (by rw [hw2, heap_set (by simp)]), hL'.of_eq (by rw [hw2, heap_set (by simp)]), hFr'.of_eq (by rw [hw2, heap_set (by simp)]), ?_⟩
            · rw [hw2, ← ints_set]; exact hCu'.set _ _
            · intro x hx
              by_cases hxi : H.it i = x
              · subst hxi
                refine ⟨i, List.getElem?_set_self (by omega), lastIs_congr H _ (fun j hj => seen_step him hiv j hj) (lastIs_write H _ him hw (fun j hj hs => (seen_ser HM RI hvn hrv him hiv j hj).1 hs))⟩
              · obtain ⟨l, h1, h2⟩ := hcu' x hx
                exact ⟨l, by rw [List.getElem?_set_ne hxi]; exact h1, lastIs_congr H _ (fun j hj => seen_step him hiv j hj) (lastIs_other H _ (fun _ => hxi) h2)⟩
            · intro j hj hwj hs
              rcases (seen_step him hiv j hj).2 hs with h1 | rfl
              · exact hrd' j hj hwj h1
              · rw [hw] at hwj; cases hwj
            · rw [hw2]; exact hbel'.setCell (by simp) _
          · have hwf : H.wr i = false := by simpa using hw
            refine cF rfl c77_178 hwf ?_
            obtain ⟨l, hl1, hl2⟩ := hcu' (H.it i) hxk
            have g2 := hCu'.cell (show (ints cj)[H.it i]? = some (.int .i64 l) by simp [ints, hl1])
            have g3 := hFr'.cell (show (ints fr)[i]? = some (.int .i64 (lw H i (H.it i))) by simp [ints, hfr i (by omega) hwf])
            refine wp_seq_k (fun K79 hK79 => ?_)
            refine draw mixed [] [(0, 0), (0, 0), (0, 0), (0, 0), (0, 0), (0, 0), (0, 0), (0, 0), (0, 0)] [] (World.drew _) (upd (upd (upd (upd (upd (upd (upd (upd (upd _ 183 _) 184 _) 185 _) 186 _) 187 _) 188 _) 189 _) 190 _) 191 _) (by kernel_rfl) (fun s hs => ovr_off [(183, _), (184, _), (185, _), (186, _), (187, _), (188, _), (189, _), (190, _), (191, _)] _ s hs) ⟨(qa rfl (fun _ => (do_move (tm rfl (nx rfl (nx rfl (nx rfl (nx rfl (nx rfl (nx rfl (nx rfl (nx rfl (nx rfl c77_25)))))))))))) (nx rfl (nx rfl (nx rfl (nx rfl (nx rfl (nx rfl (nx rfl (nx rfl hit))))))))), (qa rfl (fun _ => (do_move (tm rfl (nx rfl (nx rfl (nx rfl (nx rfl (nx rfl (nx rfl (nx rfl (nx rfl (nx rfl c77_31)))))))))))) (nx rfl (nx rfl (nx rfl (nx rfl (nx rfl (nx rfl (nx rfl hit)))))))), (qa rfl (fun _ => (ix22 (tm rfl (nx rfl (nx rfl (nx rfl (nx rfl (nx rfl (nx rfl (nx rfl (nx rfl hit))))))))) (tm rfl (nx rfl (nx rfl (nx rfl (nx rfl (nx rfl (nx rfl (nx rfl hit)))))))) (by omega))) (nx rfl (nx rfl (nx rfl (nx rfl (nx rfl (nx rfl hit))))))), (qk rfl (do_load T3 rfl (tm rfl (nx rfl (nx rfl (nx rfl (nx rfl (nx rfl (nx rfl hit))))))) g2) (nx rfl (nx rfl (nx rfl (nx rfl (nx rfl hit)))))), (qa rfl (fun _ => (do_move (tm rfl (nx rfl (nx rfl (nx rfl (nx rfl (nx rfl (nx rfl (nx rfl (nx rfl (nx rfl c77_14)))))))))))) (nx rfl (nx rfl (nx rfl (nx rfl hit))))), (qa rfl (fun _ => (do_move (tm rfl (nx rfl (nx rfl (nx rfl (nx rfl (nx rfl (nx rfl (nx rfl (nx rfl (nx rfl c77_30)))))))))))) (nx rfl (nx rfl (nx rfl hit)))), (qa rfl (fun _ => (ix22 (tm rfl (nx rfl (nx rfl (nx rfl (nx rfl hit))))) (tm rfl (nx rfl (nx rfl (nx rfl hit)))) (by omega))) (nx rfl (nx rfl hit))), (qk rfl (do_load T3 rfl (tm rfl (nx rfl (nx rfl hit))) g3) (nx rfl hit)), (qa rfl (fun _ => (do_neq (tm rfl (nx rfl (nx rfl (nx rfl (nx rfl (nx rfl hit)))))) (tm rfl (nx rfl hit)))) hit), trivial⟩ rfl ?_
            intro τ80 e80
            have c80_0 := (congrFun e80 0).trans (nx rfl (nx rfl (nx rfl (nx rfl (nx rfl (nx rfl (nx rfl (nx rfl (nx rfl c77_0)))))))))
            have c80_1 := (congrFun e80 1).trans (nx rfl (nx rfl (nx rfl (nx rfl (nx rfl (nx rfl (nx rfl (nx rfl (nx rfl c77_1)))))))))
            have c80_2 := (congrFun e80 2).trans (nx rfl (nx rfl (nx rfl (nx rfl (nx rfl (nx rfl (nx rfl (nx rfl (nx rfl c77_2)))))))))
            have c80_3 := (congrFun e80 3).trans (nx rfl (nx rfl (nx rfl (nx rfl (nx rfl (nx rfl (nx rfl (nx rfl (nx rfl c77_3)))))))))
            have c80_4 := (congrFun e80 4).trans (nx rfl (nx rfl (nx rfl (nx rfl (nx rfl (nx rfl (nx rfl (nx rfl (nx rfl c77_4)))))))))
            have c80_5 := (congrFun e80 5).trans (nx rfl (nx rfl (nx rfl (nx rfl (nx rfl (nx rfl (nx rfl (nx rfl (nx rfl c77_5)))))))))
            have c80_13 := (congrFun e80 13).trans (nx rfl (nx rfl (nx rfl (nx rfl (nx rfl (nx rfl (nx rfl (nx rfl (nx rfl c77_13)))))))))
            have c80_14 := (congrFun e80 14).trans (nx rfl (nx rfl (nx rfl (nx rfl (nx rfl (nx rfl (nx rfl (nx rfl (nx rfl c77_14)))))))))
            have c80_15 := (congrFun e80 15).trans (nx rfl (nx rfl (nx rfl (nx rfl (nx rfl (nx rfl (nx rfl (nx rfl (nx rfl c77_15)))))))))
            have c80_18 := (congrFun e80 18).trans (nx rfl (nx rfl (nx rfl (nx rfl (nx rfl (nx rfl (nx rfl (nx rfl (nx rfl c77_18)))))))))
            have c80_22 := (congrFun e80 22).trans (nx rfl (nx rfl (nx rfl (nx rfl (nx rfl (nx rfl (nx rfl (nx rfl (nx rfl c77_22)))))))))
            have c80_25 := (congrFun e80 25).trans (nx rfl (nx rfl (nx rfl (nx rfl (nx rfl (nx rfl (nx rfl (nx rfl (nx rfl c77_25)))))))))
            have c80_28 := (congrFun e80 28).trans (nx rfl (nx rfl (nx rfl (nx rfl (nx rfl (nx rfl (nx rfl (nx rfl (nx rfl c77_28)))))))))
            have c80_29 := (congrFun e80 29).trans (nx rfl (nx rfl (nx rfl (nx rfl (nx rfl (nx rfl (nx rfl (nx rfl (nx rfl c77_29)))))))))
            have c80_30 := (congrFun e80 30).trans (nx rfl (nx rfl (nx rfl (nx rfl (nx rfl (nx rfl (nx rfl (nx rfl (nx rfl c77_30)))))))))
            have c80_31 := (congrFun e80 31).trans (nx rfl (nx rfl (nx rfl (nx rfl (nx rfl (nx rfl (nx rfl (nx rfl (nx rfl c77_31)))))))))
            have c80_148 := (congrFun e80 148).trans (nx rfl (nx rfl (nx rfl (nx rfl (nx rfl (nx rfl (nx rfl (nx rfl (nx rfl c77_148)))))))))
            have c80_149 := (congrFun e80 149).trans (nx rfl (nx rfl (nx rfl (nx rfl (nx rfl (nx rfl (nx rfl (nx rfl (nx rfl c77_149)))))))))
            have c80_150 := (congrFun e80 150).trans (nx rfl (nx rfl (nx rfl (nx rfl (nx rfl (nx rfl (nx rfl (nx rfl (nx rfl c77_150)))))))))
            have c80_191 := (congrFun e80 191).trans hit
            clear e80
            refine hK79 _ _ ?_
            clear hK79
            by_cases hne : l = lw H i (H.it i)
            · refine cF rfl c80_191 (by simpa using hne) ?_
              refine wp_skip ?_
              refine inBN ?_
              refine hK71 _ _ ?_
              clear hK71
              refine reg ?_
              refine sq rfl (do_move (tm rfl c80_29)) ?_
              refine sq rfl (do_inc (tm rfl hit) ck (by omega)) ?_
              refine sq rfl (do_assign (tm rfl hit)) ?_
              refine wnil ?_
              refine hnn' (cE H H.m v - (cE H i v + 1)) _ _ (by omega) ⟨cE H i v + 1, cj, rfl, by omega, (nx rfl (nx rfl (nx rfl c80_0))), (nx rfl (nx rfl (nx rfl c80_1))), (nx rfl (nx rfl (nx rfl c80_2))), (nx rfl (nx rfl (nx rfl c80_3))), (nx rfl (nx rfl (nx rfl c80_4))), (nx rfl (nx rfl (nx rfl c80_5))), (nx rfl (nx rfl (nx rfl c80_13))), (nx rfl (nx rfl (nx rfl c80_14))), (nx rfl (nx rfl (nx rfl c80_15))), (nx rfl (nx rfl (nx rfl c80_18))), (nx rfl (nx rfl (nx rfl c80_22))), (nx rfl (nx rfl (nx rfl c80_25))), (nx rfl (nx rfl (nx rfl c80_148))), (nx rfl (nx rfl (nx rfl c80_149))), (nx rfl (nx rfl (nx rfl c80_150))), (nx rfl (nx rfl (nx rfl c80_28))), hit, hcl', hCu'.drew, ?_, ?_, hPo'.drew, hS'.drew, hL'.drew, hFr'.drew, hbel'.drew⟩
              · intro x hx
                obtain ⟨l, h1, h2⟩ := hcu' x hx
                exact ⟨l, h1, lastIs_congr H _ (fun j hj => seen_step him hiv j hj) (lastIs_other H _ (fun h => absurd h hw) h2)⟩
              · intro j hj hwj hs
                rcases (seen_step him hiv j hj).2 hs with h1 | rfl
                · exact hrd' j hj hwj h1
                · rw [← hne]
                  exact lastIs_congr H _ (fun j2 hj2 => seen_ser HM RI hvn hrv him hiv j2 hj2) hl2
            · refine cT rfl c80_191 (by simpa using hne) ?_
              refine wp_seq_k (fun K81 hK81 => ?_)
              refine reg ?_
              refine sq rfl (do_assign ck) ?_
              refine wnil ?_
              refine hK81 _ _ ?_
              clear hK81
              refine wp_ret ?_
              refine inBR ?_
              refine thenR ?_
              exact hr' _ _ (hr _ _ (hF _ _ hit hbel'.drew))
        · refine cF rfl c70_164 (by simp only [decide_eq_false_iff_not]; omega) ?_
          refine wp_exit ?_
          refine thenE ?_
          obtain rfl : c = cE H H.m v := by omega
          exact hx' _ _ ⟨cj, c70_0, c70_1, c70_2, c70_3, c70_4, c70_5, c70_13, c70_14, c70_15, c70_18, c70_22, c70_25, c70_148, c70_149, c70_150, hcl', hCu', hcu', hrd', hPo', hS', hL', hFr', hbel'⟩
      clear t0 t1 t2 t3 t4 t5 t13 t14 t15 t18 t22 t25 t148 t149 t150 hcl hCu hcu hrd hPo hS hL hFr hbel e1 d5
      rintro τ wi ⟨cu, t0, t1, t2, t3, t4, t5, t13, t14, t15, t18, t22, t25, t148, t149, t150, hcl, hCu, hcu, hrd, hPo, hS, hL, hFr, hbel⟩
      refine inBN ?_
      refine hK63 _ _ ?_
      clear hK63
      refine reg ?_
      refine sq rfl (do_inc (tm rfl t150) ck (by omega)) ?_
      refine sq rfl (do_move (tm rfl hit)) ?_
      refine wnil ?_
      refine hnn (pm.length - (t + 1)) _ _ (by omega) ⟨t + 1, cu, rfl, by omega, (nx rfl (nx rfl t0)), (nx rfl (nx rfl t1)), (nx rfl (nx rfl t2)), (nx rfl (nx rfl t3)), (nx rfl (nx rfl t4)), (nx rfl (nx rfl t5)), (nx rfl (nx rfl t13)), (nx rfl (nx rfl t14)), (nx rfl (nx rfl t15)), (nx rfl (nx rfl t18)), (nx rfl (nx rfl t22)), (nx rfl (nx rfl t25)), (nx rfl (nx rfl t148)), (nx rfl (nx rfl t149)), hit, hcl, hCu, fun x hx => ?_, fun i him hw hlt => ?_, hPo, hS, hL, hFr, hbel⟩
      · obtain ⟨l, h1, h2⟩ := hcu x hx
        exact ⟨l, h1, lastIs_congr H _ (fun j hj => seen_end HM RI hvn hrv j hj) h2⟩
      · exact hrd i him hw ((seen_end HM RI hvn hrv i him).2 hlt)
    · refine wp_seq_k (fun K82 hK82 => ?_)
      refine cF rfl hit (by simpa using h) ?_
      refine wp_exit ?_
      refine thenE ?_
      obtain rfl : t = pm.length := by omega
      have hall : ∀ j, j < H.m → rkOf rk (H.nd j) < pm.length := fun j hj => by rw [hpn]; exact hrk.lt (HM j hj)
      refine hx _ _ ⟨cu, (nx rfl t0), (nx rfl t1), (nx rfl t2), (nx rfl t3), (nx rfl t4), (nx rfl t5), (nx rfl t13), (nx rfl t14), (nx rfl t15), (nx rfl t25), hcl, hCu, fun x hx => ?_, fun i him hw => hrd i him hw (hall i him), hL, hbel⟩
      obtain ⟨l, h1, h2⟩ := hcu x hx
      exact ⟨l, h1, lastIs_congr H _ (fun j hj => ⟨fun _ => trivial, fun _ => hall j hj⟩) h2⟩
  clear t0 t1 t2 t3 t4 t5 t13 t14 t15 t18 t22 t25 hS hL hFr hbel hCu hPo hcl hcu cu
  rintro τ wi ⟨cu, t0, t1, t2, t3, t4, t5, t13, t14, t15, t25, hcl, hCu, hcu, hrd, hL, hbel⟩
  refine hK59 _ _ ?_
  clear hK59
  refine wp_seq_k (fun K83 hK83 => ?_)
  refine wp_seq_k (fun K84 hK84 => ?_)
  refine reg ?_
  refine sq rfl (do_assign (v := .int .i64 ((0 : Nat) : Int)) rfl) ?_
  refine wnil ?_
  refine hK84 _ _ ?_
  clear hK84
  refine forLoop (N := 207) (fun r τ wi => ∃ (i : Nat), r = k - i ∧ i ≤ k ∧ τ 0 = .int .i64 (n : Int) ∧ τ 1 = .slice a1 nd.length c1 ∧ τ 2 = .slice a2 wr.length c2 ∧ τ 3 = .slice a3 it.length c3 ∧ τ 4 = .int .i64 (k : Int) ∧ τ 5 = .slice a5 pm.length c5 ∧ τ 13 = .int .i64 (nd.length : Int) ∧ τ 14 = .slice (some ⟨w.heap.size, 0, none⟩) nd.length nd.length ∧ τ 15 = .slice (some ⟨w.heap.size + 1, 0, none⟩) k k ∧ τ 25 = .slice (some ⟨w.heap.size + 5, 0, none⟩) k k ∧ τ 32 = .int .i64 (i : Int) ∧ Blk wi (w.heap.size + 5) 3 (ints cu) ∧ (∀ x, x < i → lastIs H (rkOf rk) (fun _ => True) x (lw H nd.length x)) ∧ Blk wi (w.heap.size + 1) 3 (ints la) ∧ Below w.heap.size w wi)
    (fun τ wi => (∀ x, x < k → lastIs H (rkOf rk) (fun _ => True) x (lw H nd.length x)) ∧ Below w.heap.size w wi) k ?_ ?_ ?_
  · exact ⟨0, rfl, Nat.zero_le _, (nx rfl t0), (nx rfl t1), (nx rfl t2), (nx rfl t3), (nx rfl t4), (nx rfl t5), (nx rfl t13), (nx rfl t14), (nx rfl t15), (nx rfl t25), hit, hCu, fun x hx => by omega, hL, hbel⟩
  · clear t0 t1 t2 t3 t4 t5 t13 t14 t15 t25 hCu hL hbel
    rintro Q' r τ wi hnn hx hr ⟨i, rfl, hi, t0, t1, t2, t3, t4, t5, t13, t14, t15, t25, t32, hCu, hdone, hL, hbel⟩
    refine wp_seq_k (fun K85 hK85 => ?_)
    refine wp_seq_k (fun K86 hK86 => ?_)
    refine reg ?_
    refine sq rfl (do_move (tm rfl t32)) ?_
    refine sq rfl (do_move (tm rfl (nx rfl t4))) ?_
    refine sq rfl (do_lss (tm rfl (nx rfl hit)) (tm rfl hit)) ?_
    refine wnil ?_
    refine hK86 _ _ ?_
    clear hK86
    by_cases h : i < k
    · refine cT rfl hit (by simpa using h) ?_
      refine wp_skip ?_
      refine hK85 _ _ ?_
      clear hK85
      obtain ⟨l, hl1, hl2⟩ := hcu i h
      have g1 := hCu.cell (show (ints cu)[i]? = some (.int .i64 l) by simp [ints, hl1])
      have g2 := hL.cell (show (ints la)[i]? = some (.int .i64 (lw H nd.length i)) by simp [ints, hla i h])
      refine wp_seq_k (fun K87 hK87 => ?_)
      refine wp_block ?_
      refine wp_seq_k (fun K88 hK88 => ?_)
      refine draw mixed [] [(0, 0), (0, 0), (0, 0), (0, 0), (0, 0), (0, 0), (0, 0), (0, 0), (0, 0)] [] (World.drew _) (upd (upd (upd (upd (upd (upd (upd (upd (upd _ 198 _) 199 _) 200 _) 201 _) 202 _) 203 _) 204 _) 205 _) 206 _) (by kernel_rfl) (fun s hs => ovr_off [(198, _), (199, _), (200, _), (201, _), (202, _), (203, _), (204, _), (205, _), (206, _)] _ s hs) ⟨(qa rfl (fun _ => (do_move (tm rfl (nx rfl (nx rfl (nx rfl (nx rfl (nx rfl (nx rfl (nx rfl (nx rfl (nx rfl (nx rfl (nx rfl (nx rfl t25))))))))))))))) (nx rfl (nx rfl (nx rfl (nx rfl (nx rfl (nx rfl (nx rfl (nx rfl hit))))))))), (qa rfl (fun _ => (do_move (tm rfl (nx rfl (nx rfl (nx rfl (nx rfl (nx rfl (nx rfl (nx rfl (nx rfl (nx rfl (nx rfl (nx rfl (nx rfl t32))))))))))))))) (nx rfl (nx rfl (nx rfl (nx rfl (nx rfl (nx rfl (nx rfl hit)))))))), (qa rfl (fun _ => (ix22 (tm rfl (nx rfl (nx rfl (nx rfl (nx rfl (nx rfl (nx rfl (nx rfl (nx rfl hit))))))))) (tm rfl (nx rfl (nx rfl (nx rfl (nx rfl (nx rfl (nx rfl (nx rfl hit)))))))) (by omega))) (nx rfl (nx rfl (nx rfl (nx rfl (nx rfl (nx rfl hit))))))), (qk rfl (do_load T3 rfl (tm rfl (nx rfl (nx rfl (nx rfl (nx rfl (nx rfl (nx rfl hit))))))) g1) (nx rfl (nx rfl (nx rfl (nx rfl (nx rfl hit)))))), (qa rfl (fun _ => (do_move (tm rfl (nx rfl (nx rfl (nx rfl (nx rfl (nx rfl (nx rfl (nx rfl (nx rfl (nx rfl (nx rfl (nx rfl (nx rfl t15))))))))))))))) (nx rfl (nx rfl (nx rfl (nx rfl hit))))), (qa rfl (fun _ => (do_move (tm rfl (nx rfl (nx rfl (nx rfl (nx rfl (nx rfl (nx rfl (nx rfl (nx rfl (nx rfl (nx rfl (nx rfl (nx rfl t32))))))))))))))) (nx rfl (nx rfl (nx rfl hit)))), (qa rfl (fun _ => (ix22 (tm rfl (nx rfl (nx rfl (nx rfl (nx rfl hit))))) (tm rfl (nx rfl (nx rfl (nx rfl hit)))) (by omega))) (nx rfl (nx rfl hit))), (qk rfl (do_load T3 rfl (tm rfl (nx rfl (nx rfl hit))) g2) (nx rfl hit)), (qa rfl (fun _ => (do_neq (tm rfl (nx rfl (nx rfl (nx rfl (nx rfl (nx rfl hit)))))) (tm rfl (nx rfl hit)))) hit), trivial⟩ rfl ?_
      intro τ89 e89
      have c89_0 := (congrFun e89 0).trans (nx rfl (nx rfl (nx rfl (nx rfl (nx rfl (nx rfl (nx rfl (nx rfl (nx rfl (nx rfl (nx rfl (nx rfl t0))))))))))))
      have c89_1 := (congrFun e89 1).trans (nx rfl (nx rfl (nx rfl (nx rfl (nx rfl (nx rfl (nx rfl (nx rfl (nx rfl (nx rfl (nx rfl (nx rfl t1))))))))))))
      have c89_2 := (congrFun e89 2).trans (nx rfl (nx rfl (nx rfl (nx rfl (nx rfl (nx rfl (nx rfl (nx rfl (nx rfl (nx rfl (nx rfl (nx rfl t2))))))))))))
      have c89_3 := (congrFun e89 3).trans (nx rfl (nx rfl (nx rfl (nx rfl (nx rfl (nx rfl (nx rfl (nx rfl (nx rfl (nx rfl (nx rfl (nx rfl t3))))))))))))
      have c89_4 := (congrFun e89 4).trans (nx rfl (nx rfl (nx rfl (nx rfl (nx rfl (nx rfl (nx rfl (nx rfl (nx rfl (nx rfl (nx rfl (nx rfl t4))))))))))))
      have c89_5 := (congrFun e89 5).trans (nx rfl (nx rfl (nx rfl (nx rfl (nx rfl (nx rfl (nx rfl (nx rfl (nx rfl (nx rfl (nx rfl (nx rfl t5))))))))))))
      have c89_13 := (congrFun e89 13).trans (nx rfl (nx rfl (nx rfl (nx rfl (nx rfl (nx rfl (nx rfl (nx rfl (nx rfl (nx rfl (nx rfl (nx rfl t13))))))))))))
      have c89_14 := (congrFun e89 14).trans (nx rfl (nx rfl (nx rfl (nx rfl (nx rfl (nx rfl (nx rfl (nx rfl (nx rfl (nx rfl (nx rfl (nx rfl t14))))))))))))
      have c89_15 := (congrFun e89 15).trans (nx rfl (nx rfl (nx rfl (nx rfl (nx rfl (nx rfl (nx rfl (nx rfl (nx rfl (nx rfl (nx rfl (nx rfl t15))))))))))))
      have c89_25 := (congrFun e89 25).trans (nx rfl (nx rfl (nx rfl (nx rfl (nx rfl (nx rfl (nx rfl (nx rfl (nx rfl (nx rfl (nx rfl (nx rfl t25))))))))))))
      have c89_32 := (congrFun e89 32).trans (nx rfl (nx rfl (nx rfl (nx rfl (nx rfl (nx rfl (nx rfl (nx rfl (nx rfl (nx rfl (nx rfl (nx rfl t32))))))))))))
      have c89_206 := (congrFun e89 206).trans hit
      clear e89
      refine hK88 _ _ ?_
      clear hK88
      by_cases hne : l = lw H nd.length i
      · refine cF rfl c89_206 (by simpa using hne) ?_
        refine wp_skip ?_
        refine inBN ?_
        refine hK87 _ _ ?_
        clear hK87
        refine reg ?_
        refine sq rfl (do_move (tm rfl c89_32)) ?_
        refine sq rfl (do_inc (tm rfl hit) ck (by omega)) ?_
        refine sq rfl (do_assign (tm rfl hit)) ?_
        refine wnil ?_
        refine hnn (k - (i + 1)) _ _ (by omega) ⟨i + 1, rfl, by omega, (nx rfl (nx rfl (nx rfl c89_0))), (nx rfl (nx rfl (nx rfl c89_1))), (nx rfl (nx rfl (nx rfl c89_2))), (nx rfl (nx rfl (nx rfl c89_3))), (nx rfl (nx rfl (nx rfl c89_4))), (nx rfl (nx rfl (nx rfl c89_5))), (nx rfl (nx rfl (nx rfl c89_13))), (nx rfl (nx rfl (nx rfl c89_14))), (nx rfl (nx rfl (nx rfl c89_15))), (nx rfl (nx rfl (nx rfl c89_25))), hit, hCu.drew, ?_, hL.drew, hbel.drew⟩
        intro x hx
        by_cases hxi : i = x
        · subst hxi; rw [← hne]; exact hl2
        · exact hdone x (by omega)
      · refine cT rfl c89_206 (by simpa using hne) ?_
        refine wp_seq_k (fun K90 hK90 => ?_)
        refine reg ?_
        refine sq rfl (do_assign ck) ?_
        refine wnil ?_
        refine hK90 _ _ ?_
        clear hK90
        refine wp_ret ?_
        refine inBR ?_
        refine thenR ?_
        exact hr _ _ (hF _ _ hit hbel.drew)
    · refine cF rfl hit (by simpa using h) ?_
      refine wp_exit ?_
      refine thenE ?_
      exact hx _ _ ⟨fun x hx => hdone x (by omega), hbel⟩
  clear t0 t1 t2 t3 t4 t5 t13 t14 t15 t25 hCu hL hbel
  rintro τ wi ⟨hlast, hbel⟩
  refine hK83 _ _ ?_
  clear hK83
  refine wp_seq_k (fun K91 hK91 => ?_)
  refine reg ?_
  refine sq rfl (do_assign ck) ?_
  refine wnil ?_
  refine hK91 _ _ ?_
  clear hK91
  refine wp_ret ?_
  rw [← hQ]
  exact ret1 rfl rfl hit ⟨true, rfl, hbel, fun _ => ⟨hrd, fun x hx => by rw [Hm]; exact hlast x hx⟩⟩
end Go.Proofs.Qxb6001364a
