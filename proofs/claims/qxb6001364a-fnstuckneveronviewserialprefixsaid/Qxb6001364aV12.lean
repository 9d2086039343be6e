/-
  problem.
-/
import Derived.Test.Qxb6001364aV12h
namespace Go.Proofs.Qxb6001364a
open Go.Fra Go.RowKit Pl
set_option maxRecDepth 100000
set_option linter.unusedVariables false

set_option maxHeartbeats 2000000 in
theorem prob16 (w : World) (n k : Nat) (v1 v2 v3 : Value) (nd it : List Int) (wr : List Bool) (rk : Nat → Nat) (h1 : IntR w v1 nd) (h2 : BoolR w v2 wr) (h3 : IntR w v3 it) (l1 : nd.length ≤ 65536) (hil : it.length = nd.length) (hwr : wr.length = nd.length)
    (hn : n ≤ 65536) (hk : k ≤ nd.length) (hnd : ∀ v ∈ nd, 0 ≤ v ∧ v < (n : Int)) (hitk : ∀ x ∈ it, 0 ≤ x ∧ x < (k : Int)) (hve : VE (histOf nd it wr) rk k) (hinj : ∀ u v, u < n → v < n → rk u = rk v → u = v) :
    Calls Try.prog 16 #[.int .i64 (n : Int), v1, v2, v3, .int .i64 (k : Int)] w fun e w' => ∃ pb, e = .returned (.tuple #[.pointer (some ⟨pb, 0, none⟩), .bool true]) ∧ Prob w w' pb n k (fun x => acc (histOf nd it wr) x nd.length) rk := by
  obtain ⟨a1, c1, rfl, hc1⟩ := h1
  obtain ⟨a2, c2, rfl, hc2⟩ := h2
  obtain ⟨a3, c3, rfl, hc3⟩ := h3
  generalize hH : histOf nd it wr = H at *
  have Hm : H.m = nd.length := by rw [← hH]; rfl
  have Hnd : ∀ i (h : i < nd.length), nd[i] = (H.nd i : Int) ∧ H.nd i < n := by
    intro i h
    have := hnd nd[i] (List.getElem_mem _)
    have e : H.nd i = (nd[i]).toNat := by
      rw [← hH]
      simp only [histOf, List.getD_eq_getElem?_getD, List.getElem?_eq_getElem h, Option.getD_some]
    omega
  have Hit : ∀ i (h : i < it.length), it[i] = (H.it i : Int) ∧ H.it i < k := by
    intro i h
    have := hitk it[i] (List.getElem_mem _)
    have e : H.it i = (it[i]).toNat := by
      rw [← hH]
      simp only [histOf, List.getD_eq_getElem?_getD, List.getElem?_eq_getElem h, Option.getD_some]
    omega
  have Hwr : ∀ i (h : i < wr.length), wr[i] = H.wr i := by
    intro i h
    rw [← hH]
    simp [histOf, List.getD_eq_getElem?_getD, List.getElem?_eq_getElem h]
  have C1 : ∀ i (h : i < nd.length) wi, Below w.heap.size w wi → ∃ b o, a1 = some ⟨b, o, none⟩ ∧ wi.cell? ⟨b, o + i, none⟩ = some (.int .i64 (H.nd i : Int)) := by
    intro i h wi hb
    obtain ⟨b, o, e, hc⟩ := hc1 i h
    exact ⟨b, o, e, by rw [hb.cell (World.block_lt_of_cell? w _ hc), hc, (Hnd i h).1]⟩
  have C2 : ∀ i (h : i < nd.length) wi, Below w.heap.size w wi → ∃ b o, a2 = some ⟨b, o, none⟩ ∧ wi.cell? ⟨b, o + i, none⟩ = some (.bool (H.wr i)) := by
    intro i h wi hb
    obtain ⟨b, o, e, hc⟩ := hc2 i (by omega)
    exact ⟨b, o, e, by rw [hb.cell (World.block_lt_of_cell? w _ hc), hc, Hwr i (by omega)]⟩
  have C3 : ∀ i (h : i < nd.length) wi, Below w.heap.size w wi → ∃ b o, a3 = some ⟨b, o, none⟩ ∧ wi.cell? ⟨b, o + i, none⟩ = some (.int .i64 (H.it i : Int)) := by
    intro i h wi hb
    obtain ⟨b, o, e, hc⟩ := hc3 i (by omega)
    exact ⟨b, o, e, by rw [hb.cell (World.block_lt_of_cell? w _ hc), hc, (Hit i (by omega)).1]⟩
  clear hc1 hc2 hc3 hnd hitk
  refine enter (args := [Value.int .i64 (n : Int), .slice a1 nd.length c1, .slice a2 wr.length c2, .slice a3 it.length c3, .int .i64 (k : Int)]) Try.func16 rfl Try.ntmps16 rfl ?_
  generalize hQ : bodyPost Try.prog Try.f16 _ = Q
  have s0 : frame0 [Value.int .i64 (n : Int), .slice a1 nd.length c1, .slice a2 wr.length c2, .slice a3 it.length c3, .int .i64 (k : Int)] 0 = .int .i64 (n : Int) := rfl
  have s1 : frame0 [Value.int .i64 (n : Int), .slice a1 nd.length c1, .slice a2 wr.length c2, .slice a3 it.length c3, .int .i64 (k : Int)] 1 = .slice a1 nd.length c1 := rfl
  have s2 : frame0 [Value.int .i64 (n : Int), .slice a1 nd.length c1, .slice a2 wr.length c2, .slice a3 it.length c3, .int .i64 (k : Int)] 2 = .slice a2 wr.length c2 := rfl
  have s3 : frame0 [Value.int .i64 (n : Int), .slice a1 nd.length c1, .slice a2 wr.length c2, .slice a3 it.length c3, .int .i64 (k : Int)] 3 = .slice a3 it.length c3 := rfl
  have s4 : frame0 [Value.int .i64 (n : Int), .slice a1 nd.length c1, .slice a2 wr.length c2, .slice a3 it.length c3, .int .i64 (k : Int)] 4 = .int .i64 (k : Int) := rfl
  generalize frame0 [Value.int .i64 (n : Int), .slice a1 nd.length c1, .slice a2 wr.length c2, .slice a3 it.length c3, .int .i64 (k : Int)] = σ at *
  have hst := Split.start w
  refine wp_seq_k (fun K1 hK1 => ?_)
  refine reg ?_
  refine sq rfl (do_assign ck) ?_
  refine sq rfl (do_assign ck) ?_
  refine wnil ?_
  refine hK1 _ _ ?_
  clear hK1
  refine wp_seq_k (fun K2 hK2 => ?_)
  refine reg ?_
  refine sq rfl (do_move (tm rfl (nx rfl (nx rfl s0)))) ?_
  refine sq rfl (mk52 (tm rfl hit) (tm rfl hit) (by omega)) ?_
  refine sq rfl (do_assign (tm rfl hit)) ?_
  refine cutW ?_
  intro τ3 e3 xa hxa
  have c3_0 := (congrFun e3 0).trans (nx rfl (nx rfl (nx rfl (nx rfl (nx rfl s0)))))
  have c3_1 := (congrFun e3 1).trans (nx rfl (nx rfl (nx rfl (nx rfl (nx rfl s1)))))
  have c3_2 := (congrFun e3 2).trans (nx rfl (nx rfl (nx rfl (nx rfl (nx rfl s2)))))
  have c3_3 := (congrFun e3 3).trans (nx rfl (nx rfl (nx rfl (nx rfl (nx rfl s3)))))
  have c3_4 := (congrFun e3 4).trans (nx rfl (nx rfl (nx rfl (nx rfl (nx rfl s4)))))
  have c3_10 := (congrFun e3 10).trans (nx rfl (nx rfl (nx rfl (nx rfl hit))))
  have c3_11 := (congrFun e3 11).trans (nx rfl (nx rfl (nx rfl hit)))
  have c3_12 := (congrFun e3 12).trans hit
  clear e3
  refine wnil ?_
  refine hK2 _ _ ?_
  clear hK2
  obtain ⟨G1, k1, hraw, hN1⟩ := blkN hst 1 9 (madeCells #[.string ⟨#[]⟩] n)
  have hs1 : Split w.heap.size w xa G1 := by rw [hxa]; exact hraw
  clear hxa hraw hst
  have hN1' : ∃ cs, VB (G1 1) w.heap.size 9 cs ∧ cs.length = n := ⟨_, hN1, by rw [made_list]; simp⟩
  clear hN1 k1
  generalize hbN : w.heap.size = bN at hN1'
  have hbN' : bN = w.heap.size := hbN.symm
  clear hbN
  subst hbN'
  generalize hbN : w.heap.size = bN at hN1'
  refine wp_seq_k (fun K4 hK4 => ?_)
  refine wp_seq_k (fun K5 hK5 => ?_)
  refine reg ?_
  refine sq rfl (do_assign (v := .int .i64 ((0 : Nat) : Int)) rfl) ?_
  refine wnil ?_
  refine hK5 _ _ ?_
  clear hK5
  refine forLoop (N := 131) (fun r τ wi => ∃ (v : Nat) (G : Nat → Part), r = n - v ∧ v ≤ n ∧ τ 0 = .int .i64 (n : Int) ∧ τ 1 = .slice a1 nd.length c1 ∧ τ 2 = .slice a2 wr.length c2 ∧ τ 3 = .slice a3 it.length c3 ∧ τ 4 = .int .i64 (k : Int) ∧ τ 12 = .slice (some ⟨bN, 0, none⟩) n n ∧ τ 13 = .int .i64 (v : Int) ∧ Split w.heap.size w wi G ∧ ∃ cs, VB (G 1) bN 9 cs ∧ cs.length = n)
    (fun τ wi => ∃ (G : Nat → Part), τ 0 = .int .i64 (n : Int) ∧ τ 1 = .slice a1 nd.length c1 ∧ τ 2 = .slice a2 wr.length c2 ∧ τ 3 = .slice a3 it.length c3 ∧ τ 4 = .int .i64 (k : Int) ∧ τ 12 = .slice (some ⟨bN, 0, none⟩) n n ∧ Split w.heap.size w wi G) n ?_ ?_ ?_
  · exact ⟨0, G1, rfl, Nat.zero_le _, (nx rfl c3_0), (nx rfl c3_1), (nx rfl c3_2), (nx rfl c3_3), (nx rfl c3_4), by rw [← hbN]; exact (nx rfl c3_12), hit, hs1, hN1'⟩
  · clear s0 s1 s2 s3 s4 hN1' hs1
    rintro Q' r τ wi hnn hx hr ⟨v, G, rfl, hi, t0, t1, t2, t3, t4, t12, t13, hsG, cs, hcs, hcl⟩
    refine wp_seq_k (fun K6 hK6 => ?_)
    refine wp_seq_k (fun K7 hK7 => ?_)
    refine reg ?_
    refine sq rfl (do_move (tm rfl t13)) ?_
    refine sq rfl (do_move (tm rfl (nx rfl t0))) ?_
    refine sq rfl (do_lss (tm rfl (nx rfl hit)) (tm rfl hit)) ?_
    refine wnil ?_
    refine hK7 _ _ ?_
    clear hK7
    by_cases h : v < n
    · refine cT rfl hit (by simpa using h) ?_
      refine wp_skip ?_
      refine hK6 _ _ ?_
      clear hK6
      refine wp_seq_k (fun K8 hK8 => ?_)
      refine wp_block ?_
      refine reg ?_
      refine sq rfl (do_move (tm rfl (nx rfl (nx rfl (nx rfl t12))))) ?_
      refine sq rfl (do_move (tm rfl (nx rfl (nx rfl (nx rfl (nx rfl t13)))))) ?_
      refine sq rfl (do_move (tm rfl (nx rfl (nx rfl (nx rfl (nx rfl (nx rfl t13))))))) ?_
      refine sqc (R := fun v' w' => ∃ s : ByteArray, v' = .string s ∧ sval s = v ∧ s.size ≤ 24 ∧ Below wi.heap.size wi w') rfl
        (run_callF Try.func31 nm31 bd31 (map1 (tm rfl hit)) rfl) ((itoa31 wi v (by omega)).mono ?_) ?_
      · rintro e w' ⟨s, rfl, h⟩
        exact ⟨_, rfl, s, rfl, h⟩
      rintro cv w3 ⟨s, rfl, hsv, hss, hb3⟩
      obtain ⟨G2, k2, hs2⟩ := hsG.junk hb3 28
      have hcs2 := k2.vb (t := 1) (by decide) hcs
      obtain ⟨G3, k3, hs3, hcs3⟩ := hcs2.put hs2 v (.string (⟨#[84]⟩ ++ s))
      refine sq rfl (do_addS (a := ⟨#[84]⟩) rfl (tm rfl hit) (by show 1 + s.size ≤ _; omega)) ?_
      refine sq rfl (ix52 (tm rfl (nx rfl (nx rfl (nx rfl (nx rfl hit))))) (tm rfl (nx rfl (nx rfl (nx rfl hit)))) (by omega)) ?_
      refine sqn (do_store T9 (tm rfl hit) (tm rfl (nx rfl hit)) rfl (hcs2.cell hs2 (List.getElem?_eq_getElem (by omega))) (hcs2.frozen hs2 v)) ?_
      refine cutW ?_
      intro τ9 e9 x4 hx4
      have c9_0 := (congrFun e9 0).trans (nx rfl (nx rfl (nx rfl (nx rfl (nx rfl (nx rfl (nx rfl (nx rfl (nx rfl t0)))))))))
      have c9_1 := (congrFun e9 1).trans (nx rfl (nx rfl (nx rfl (nx rfl (nx rfl (nx rfl (nx rfl (nx rfl (nx rfl t1)))))))))
      have c9_2 := (congrFun e9 2).trans (nx rfl (nx rfl (nx rfl (nx rfl (nx rfl (nx rfl (nx rfl (nx rfl (nx rfl t2)))))))))
      have c9_3 := (congrFun e9 3).trans (nx rfl (nx rfl (nx rfl (nx rfl (nx rfl (nx rfl (nx rfl (nx rfl (nx rfl t3)))))))))
      have c9_4 := (congrFun e9 4).trans (nx rfl (nx rfl (nx rfl (nx rfl (nx rfl (nx rfl (nx rfl (nx rfl (nx rfl t4)))))))))
      have c9_12 := (congrFun e9 12).trans (nx rfl (nx rfl (nx rfl (nx rfl (nx rfl (nx rfl (nx rfl (nx rfl (nx rfl t12)))))))))
      have c9_13 := (congrFun e9 13).trans (nx rfl (nx rfl (nx rfl (nx rfl (nx rfl (nx rfl (nx rfl (nx rfl (nx rfl t13)))))))))
      clear e9
      refine wnil ?_
      refine inBN ?_
      refine hK8 _ _ ?_
      clear hK8
      have hs3' : Split w.heap.size w x4 G3 := by rw [hx4]; exact hs3
      refine reg ?_
      refine sq rfl (do_move (tm rfl c9_13)) ?_
      refine sq rfl (do_inc (tm rfl hit) ck (by omega)) ?_
      refine sq rfl (do_assign (tm rfl hit)) ?_
      refine wnil ?_
      exact hnn (n - (v + 1)) _ _ (by omega) ⟨v + 1, G3, rfl, by omega, (nx rfl (nx rfl (nx rfl c9_0))), (nx rfl (nx rfl (nx rfl c9_1))), (nx rfl (nx rfl (nx rfl c9_2))), (nx rfl (nx rfl (nx rfl c9_3))), (nx rfl (nx rfl (nx rfl c9_4))), (nx rfl (nx rfl (nx rfl c9_12))), hit, hs3', _, hcs3, by simp [hcl]⟩
    · refine cF rfl hit (by simpa using h) ?_
      refine wp_exit ?_
      refine thenE ?_
      exact hx _ _ ⟨G, (nx rfl (nx rfl (nx rfl t0))), (nx rfl (nx rfl (nx rfl t1))), (nx rfl (nx rfl (nx rfl t2))), (nx rfl (nx rfl (nx rfl t3))), (nx rfl (nx rfl (nx rfl t4))), (nx rfl (nx rfl (nx rfl t12))), hsG⟩
  clear s0 s1 s2 s3 s4 hN1' hs1 hbN
  rintro τ wi ⟨G, t0, t1, t2, t3, t4, t12, hsG⟩
  refine hK4 _ _ ?_
  clear hK4
  refine wp_seq_k (fun K10 hK10 => ?_)
  refine reg ?_
  refine sq rfl (do_move (tm rfl t4)) ?_
  refine sq rfl (mk52 (tm rfl hit) (tm rfl hit) (by omega)) ?_
  refine sq rfl (do_assign (tm rfl hit)) ?_
  refine cutW ?_
  intro τ11 e11 xa hxa
  have c11_0 := (congrFun e11 0).trans (nx rfl (nx rfl (nx rfl t0)))
  have c11_1 := (congrFun e11 1).trans (nx rfl (nx rfl (nx rfl t1)))
  have c11_2 := (congrFun e11 2).trans (nx rfl (nx rfl (nx rfl t2)))
  have c11_3 := (congrFun e11 3).trans (nx rfl (nx rfl (nx rfl t3)))
  have c11_4 := (congrFun e11 4).trans (nx rfl (nx rfl (nx rfl t4)))
  have c11_12 := (congrFun e11 12).trans (nx rfl (nx rfl (nx rfl t12)))
  have c11_14 := (congrFun e11 14).trans hit
  clear e11
  refine wnil ?_
  refine hK10 _ _ ?_
  clear hK10
  obtain ⟨G1, k1, hraw, hI1⟩ := blkN hsG 2 9 (madeCells #[.string ⟨#[]⟩] k)
  have hs1 : Split w.heap.size w xa G1 := by rw [hxa]; exact hraw
  have hI1l : (madeCells #[.string ⟨#[]⟩] k).toList.length = k := by rw [made_list]; simp
  generalize (madeCells #[.string ⟨#[]⟩] k).toList = is0 at *
  clear hxa hraw hsG k1
  generalize wi.heap.size = bI at *
  refine wp_seq_k (fun K12 hK12 => ?_)
  refine reg ?_
  refine sq rfl (do_move (tm rfl c11_4)) ?_
  refine sq rfl (mk22 (tm rfl hit) (tm rfl hit) (by omega)) ?_
  refine sq rfl (do_assign (tm rfl hit)) ?_
  refine cutW ?_
  intro τ13 e13 xb hxb
  have c13_0 := (congrFun e13 0).trans (nx rfl (nx rfl (nx rfl c11_0)))
  have c13_1 := (congrFun e13 1).trans (nx rfl (nx rfl (nx rfl c11_1)))
  have c13_2 := (congrFun e13 2).trans (nx rfl (nx rfl (nx rfl c11_2)))
  have c13_3 := (congrFun e13 3).trans (nx rfl (nx rfl (nx rfl c11_3)))
  have c13_4 := (congrFun e13 4).trans (nx rfl (nx rfl (nx rfl c11_4)))
  have c13_12 := (congrFun e13 12).trans (nx rfl (nx rfl (nx rfl c11_12)))
  have c13_14 := (congrFun e13 14).trans (nx rfl (nx rfl (nx rfl c11_14)))
  have c13_15 := (congrFun e13 15).trans hit
  clear e13
  refine wnil ?_
  refine hK12 _ _ ?_
  clear hK12
  obtain ⟨G2, k2, hraw, hC1⟩ := blkN hs1 3 3 (madeCells #[.int .i64 0] k)
  have hs2 : Split w.heap.size w xb G2 := by rw [hxb]; exact hraw
  rw [made_ints] at hC1
  have hI2 := k2.vb (t := 2) (by decide) hI1
  clear hxb hraw hs1 hI1
  generalize xa.heap.size = bC at *
  refine wp_seq_k (fun K14 hK14 => ?_)
  refine wp_seq_k (fun K15 hK15 => ?_)
  refine reg ?_
  refine sq rfl (do_assign (v := .int .i64 ((0 : Nat) : Int)) rfl) ?_
  refine wnil ?_
  refine hK15 _ _ ?_
  clear hK15
  refine forLoop (N := 131) (fun r τ wi => ∃ (x : Nat) (G : Nat → Part) (is : List Value), r = k - x ∧ x ≤ k ∧ τ 0 = .int .i64 (n : Int) ∧ τ 1 = .slice a1 nd.length c1 ∧ τ 2 = .slice a2 wr.length c2 ∧ τ 3 = .slice a3 it.length c3 ∧ τ 4 = .int .i64 (k : Int) ∧ τ 12 = .slice (some ⟨bN, 0, none⟩) n n ∧ τ 14 = .slice (some ⟨bI, 0, none⟩) k k ∧ τ 15 = .slice (some ⟨bC, 0, none⟩) k k ∧ τ 16 = .int .i64 (x : Int) ∧ Split w.heap.size w wi G ∧ VB (G 2) bI 9 is ∧ is.length = k ∧ (∀ y, y < x → ∃ s, is[y]? = some (.string (⟨#[120]⟩ ++ s)) ∧ sval s = y) ∧ VB (G 3) bC 3 (ints (List.replicate k 0)))
    (fun τ wi => ∃ (G : Nat → Part) (is : List Value), τ 0 = .int .i64 (n : Int) ∧ τ 1 = .slice a1 nd.length c1 ∧ τ 2 = .slice a2 wr.length c2 ∧ τ 3 = .slice a3 it.length c3 ∧ τ 4 = .int .i64 (k : Int) ∧ τ 12 = .slice (some ⟨bN, 0, none⟩) n n ∧ τ 14 = .slice (some ⟨bI, 0, none⟩) k k ∧ τ 15 = .slice (some ⟨bC, 0, none⟩) k k ∧ Split w.heap.size w wi G ∧ VB (G 2) bI 9 is ∧ (∀ y, y < k → ∃ s, is[y]? = some (.string (⟨#[120]⟩ ++ s)) ∧ sval s = y) ∧ VB (G 3) bC 3 (ints (List.replicate k 0))) k ?_ ?_ ?_
  · exact ⟨0, G2, is0, rfl, Nat.zero_le _, (nx rfl c13_0), (nx rfl c13_1), (nx rfl c13_2), (nx rfl c13_3), (nx rfl c13_4), (nx rfl c13_12), (nx rfl c13_14), (nx rfl c13_15), hit, hs2, hI2, hI1l, fun y hy => by omega, hC1⟩
  · clear t0 t1 t2 t3 t4 t12 hs2 hI2 hC1 hI1l
    rintro Q' r τ wi hnn hx hr ⟨x, G, is, rfl, hi, t0, t1, t2, t3, t4, t12, t14, t15, t16, hsG, hI, hIl, hIp, hC⟩
    refine wp_seq_k (fun K16 hK16 => ?_)
    refine wp_seq_k (fun K17 hK17 => ?_)
    refine reg ?_
    refine sq rfl (do_move (tm rfl t16)) ?_
    refine sq rfl (do_move (tm rfl (nx rfl t4))) ?_
    refine sq rfl (do_lss (tm rfl (nx rfl hit)) (tm rfl hit)) ?_
    refine wnil ?_
    refine hK17 _ _ ?_
    clear hK17
    by_cases h : x < k
    · refine cT rfl hit (by simpa using h) ?_
      refine wp_skip ?_
      refine hK16 _ _ ?_
      clear hK16
      refine wp_seq_k (fun K18 hK18 => ?_)
      refine wp_block ?_
      refine reg ?_
      refine sq rfl (do_move (tm rfl (nx rfl (nx rfl (nx rfl t14))))) ?_
      refine sq rfl (do_move (tm rfl (nx rfl (nx rfl (nx rfl (nx rfl t16)))))) ?_
      refine sq rfl (do_move (tm rfl (nx rfl (nx rfl (nx rfl (nx rfl (nx rfl t16))))))) ?_
      refine sqc (R := fun v' w' => ∃ s : ByteArray, v' = .string s ∧ sval s = x ∧ s.size ≤ 24 ∧ Below wi.heap.size wi w') rfl
        (run_callF Try.func31 nm31 bd31 (map1 (tm rfl hit)) rfl) ((itoa31 wi x (by omega)).mono ?_) ?_
      · rintro e w' ⟨s, rfl, h⟩
        exact ⟨_, rfl, s, rfl, h⟩
      rintro cv w3 ⟨s, rfl, hsv, hss, hb3⟩
      obtain ⟨G2, k2, hs2⟩ := hsG.junk hb3 28
      have hI2 := k2.vb (t := 2) (by decide) hI
      obtain ⟨G3, k3, hs3, hI3⟩ := hI2.put hs2 x (.string (⟨#[120]⟩ ++ s))
      refine sq rfl (do_addS (a := ⟨#[120]⟩) rfl (tm rfl hit) (by show 1 + s.size ≤ _; omega)) ?_
      refine sq rfl (ix52 (tm rfl (nx rfl (nx rfl (nx rfl (nx rfl hit))))) (tm rfl (nx rfl (nx rfl (nx rfl hit)))) (by omega)) ?_
      refine sqn (do_store T9 (tm rfl hit) (tm rfl (nx rfl hit)) rfl (hI2.cell hs2 (List.getElem?_eq_getElem (by omega))) (hI2.frozen hs2 x)) ?_
      refine cutW ?_
      intro τ19 e19 x4 hx4
      have c19_0 := (congrFun e19 0).trans (nx rfl (nx rfl (nx rfl (nx rfl (nx rfl (nx rfl (nx rfl (nx rfl (nx rfl t0)))))))))
      have c19_1 := (congrFun e19 1).trans (nx rfl (nx rfl (nx rfl (nx rfl (nx rfl (nx rfl (nx rfl (nx rfl (nx rfl t1)))))))))
      have c19_2 := (congrFun e19 2).trans (nx rfl (nx rfl (nx rfl (nx rfl (nx rfl (nx rfl (nx rfl (nx rfl (nx rfl t2)))))))))
      have c19_3 := (congrFun e19 3).trans (nx rfl (nx rfl (nx rfl (nx rfl (nx rfl (nx rfl (nx rfl (nx rfl (nx rfl t3)))))))))
      have c19_4 := (congrFun e19 4).trans (nx rfl (nx rfl (nx rfl (nx rfl (nx rfl (nx rfl (nx rfl (nx rfl (nx rfl t4)))))))))
      have c19_12 := (congrFun e19 12).trans (nx rfl (nx rfl (nx rfl (nx rfl (nx rfl (nx rfl (nx rfl (nx rfl (nx rfl t12)))))))))
      have c19_14 := (congrFun e19 14).trans (nx rfl (nx rfl (nx rfl (nx rfl (nx rfl (nx rfl (nx rfl (nx rfl (nx rfl t14)))))))))
      have c19_15 := (congrFun e19 15).trans (nx rfl (nx rfl (nx rfl (nx rfl (nx rfl (nx rfl (nx rfl (nx rfl (nx rfl t15)))))))))
      have c19_16 := (congrFun e19 16).trans (nx rfl (nx rfl (nx rfl (nx rfl (nx rfl (nx rfl (nx rfl (nx rfl (nx rfl t16)))))))))
      clear e19
      refine wnil ?_
      refine inBN ?_
      refine hK18 _ _ ?_
      clear hK18
      have hs3' : Split w.heap.size w x4 G3 := by rw [hx4]; exact hs3
      refine reg ?_
      refine sq rfl (do_move (tm rfl c19_16)) ?_
      refine sq rfl (do_inc (tm rfl hit) ck (by omega)) ?_
      refine sq rfl (do_assign (tm rfl hit)) ?_
      refine wnil ?_
      refine hnn (k - (x + 1)) _ _ (by omega) ⟨x + 1, G3, _, rfl, by omega, (nx rfl (nx rfl (nx rfl c19_0))), (nx rfl (nx rfl (nx rfl c19_1))), (nx rfl (nx rfl (nx rfl c19_2))), (nx rfl (nx rfl (nx rfl c19_3))), (nx rfl (nx rfl (nx rfl c19_4))), (nx rfl (nx rfl (nx rfl c19_12))), (nx rfl (nx rfl (nx rfl c19_14))), (nx rfl (nx rfl (nx rfl c19_15))), hit, hs3', hI3, by simp [hIl], ?_, k3.vb (t := 3) (by decide) (k2.vb (t := 3) (by decide) hC)⟩
      intro y hy
      by_cases hxy : x = y
      · subst hxy
        exact ⟨s, List.getElem?_set_self (by omega), hsv⟩
      · rw [List.getElem?_set_ne hxy]
        exact hIp y (by omega)
    · refine cF rfl hit (by simpa using h) ?_
      refine wp_exit ?_
      refine thenE ?_
      exact hx _ _ ⟨G, is, (nx rfl (nx rfl (nx rfl t0))), (nx rfl (nx rfl (nx rfl t1))), (nx rfl (nx rfl (nx rfl t2))), (nx rfl (nx rfl (nx rfl t3))), (nx rfl (nx rfl (nx rfl t4))), (nx rfl (nx rfl (nx rfl t12))), (nx rfl (nx rfl (nx rfl t14))), (nx rfl (nx rfl (nx rfl t15))), hsG, hI, fun y hy => hIp y (by omega), hC⟩
  clear t0 t1 t2 t3 t4 t12 hs2 hI2 hC1 hI1l
  rintro τ wi ⟨G, is, t0, t1, t2, t3, t4, t12, t14, t15, hsG, hI, hIp, hC⟩
  refine hK14 _ _ ?_
  clear hK14
  refine wp_seq_k (fun K20 hK20 => ?_)
  refine wp_seq_k (fun K21 hK21 => ?_)
  refine reg ?_
  refine sq rfl (do_move (tm rfl t3)) ?_
  refine sq rfl (do_len Try.underlying22 (tm rfl hit)) ?_
  refine sq rfl (do_move (v := .int .i64 ((0 : Nat) : Int)) rfl) ?_
  refine wnil ?_
  refine hK21 _ _ ?_
  clear hK21
  refine forLoop (N := 131) (fun r τ wi => ∃ (i : Nat) (G : Nat → Part) (ct : List Int), r = it.length - i ∧ i ≤ it.length ∧ τ 0 = .int .i64 (n : Int) ∧ τ 1 = .slice a1 nd.length c1 ∧ τ 2 = .slice a2 wr.length c2 ∧ τ 3 = .slice a3 it.length c3 ∧ τ 4 = .int .i64 (k : Int) ∧ τ 12 = .slice (some ⟨bN, 0, none⟩) n n ∧ τ 14 = .slice (some ⟨bI, 0, none⟩) k k ∧ τ 15 = .slice (some ⟨bC, 0, none⟩) k k ∧ τ 52 = .slice a3 it.length c3 ∧ τ 53 = .int .i64 (it.length : Int) ∧ τ 54 = .int .i64 (i : Int) ∧ Split w.heap.size w wi G ∧ VB (G 2) bI 9 is ∧ VB (G 3) bC 3 (ints ct) ∧ ct.length = k ∧ (∀ x, x < k → ∃ c : Nat, ct[x]? = some (c : Int) ∧ c ≤ i))
    (fun τ wi => ∃ (G : Nat → Part) (ct : List Int), τ 0 = .int .i64 (n : Int) ∧ τ 1 = .slice a1 nd.length c1 ∧ τ 2 = .slice a2 wr.length c2 ∧ τ 3 = .slice a3 it.length c3 ∧ τ 4 = .int .i64 (k : Int) ∧ τ 12 = .slice (some ⟨bN, 0, none⟩) n n ∧ τ 14 = .slice (some ⟨bI, 0, none⟩) k k ∧ τ 15 = .slice (some ⟨bC, 0, none⟩) k k ∧ Split w.heap.size w wi G ∧ VB (G 2) bI 9 is ∧ VB (G 3) bC 3 (ints ct) ∧ (∀ x, x < k → ∃ c : Nat, ct[x]? = some (c : Int) ∧ c ≤ 65536)) it.length ?_ ?_ ?_
  · exact ⟨0, G, _, rfl, Nat.zero_le _, (nx rfl (nx rfl (nx rfl t0))), (nx rfl (nx rfl (nx rfl t1))), (nx rfl (nx rfl (nx rfl t2))), (nx rfl (nx rfl (nx rfl t3))), (nx rfl (nx rfl (nx rfl t4))), (nx rfl (nx rfl (nx rfl t12))), (nx rfl (nx rfl (nx rfl t14))), (nx rfl (nx rfl (nx rfl t15))), (nx rfl (nx rfl hit)), (nx rfl hit), hit, hsG, hI, hC, by simp, fun x hx => ⟨0, by simp [hx], Nat.le_refl _⟩⟩
  · clear t0 t1 t2 t3 t4 t12 t14 t15 hsG hI hC
    rintro Q' r τ wi hnn hx hr ⟨i, G, ct, rfl, hi, t0, t1, t2, t3, t4, t12, t14, t15, t52, t53, t54, hsG, hI, hC, hCl, hCp⟩
    refine wp_seq_k (fun K22 hK22 => ?_)
    refine reg ?_
    refine sq rfl (do_lss (tm rfl t54) (tm rfl t53)) ?_
    refine wnil ?_
    refine hK22 _ _ ?_
    clear hK22
    by_cases h : i < it.length
    · refine wp_seq_k (fun K23 hK23 => ?_)
      refine cT rfl hit (by simpa using h) ?_
      refine wp_skip ?_
      refine hK23 _ _ ?_
      clear hK23
      obtain ⟨b3, o3, rfl, d3⟩ := C3 i (by omega) wi hsG.below
      have hxk := (Hit i h).2
      obtain ⟨c, hc, hci⟩ := hCp (H.it i) hxk
      have ccell := hC.cell hsG (show (ints ct)[H.it i]? = some (.int .i64 (c : Int)) by simp [ints, hc])
      obtain ⟨G2, k2, hs2, hC2⟩ := hC.put hsG (H.it i) (.int .i64 ((c + 1 : Nat) : Int))
      rw [ints_set] at hC2
      refine wp_seq_k (fun K24 hK24 => ?_)
      refine wp_block ?_
      refine wp_seq_k (fun K25 hK25 => ?_)
      refine reg ?_
      refine sq rfl (io22 (tm rfl (nx rfl t52)) (tm rfl (nx rfl t54)) (by omega)) ?_
      refine sq rfl (do_load T3 rfl (tm rfl hit) d3) ?_
      refine sq rfl (do_assign (tm rfl hit)) ?_
      refine cutL ?_
      intro τ26 e26
      have c26_0 := (congrFun e26 0).trans (nx rfl (nx rfl (nx rfl (nx rfl t0))))
      have c26_1 := (congrFun e26 1).trans (nx rfl (nx rfl (nx rfl (nx rfl t1))))
      have c26_2 := (congrFun e26 2).trans (nx rfl (nx rfl (nx rfl (nx rfl t2))))
      have c26_3 := (congrFun e26 3).trans (nx rfl (nx rfl (nx rfl (nx rfl t3))))
      have c26_4 := (congrFun e26 4).trans (nx rfl (nx rfl (nx rfl (nx rfl t4))))
      have c26_12 := (congrFun e26 12).trans (nx rfl (nx rfl (nx rfl (nx rfl t12))))
      have c26_14 := (congrFun e26 14).trans (nx rfl (nx rfl (nx rfl (nx rfl t14))))
      have c26_15 := (congrFun e26 15).trans (nx rfl (nx rfl (nx rfl (nx rfl t15))))
      have c26_18 := (congrFun e26 18).trans hit
      have c26_52 := (congrFun e26 52).trans (nx rfl (nx rfl (nx rfl (nx rfl t52))))
      have c26_53 := (congrFun e26 53).trans (nx rfl (nx rfl (nx rfl (nx rfl t53))))
      have c26_54 := (congrFun e26 54).trans (nx rfl (nx rfl (nx rfl (nx rfl t54))))
      clear e26
      refine wnil ?_
      refine hK25 _ _ ?_
      clear hK25
      refine reg ?_
      refine sq rfl (do_move (tm rfl c26_15)) ?_
      refine sq rfl (do_move (tm rfl (nx rfl c26_18))) ?_
      refine sq rfl (ix22 (tm rfl (nx rfl hit)) (tm rfl hit) (by omega)) ?_
      refine sq rfl (do_load T3 rfl (tm rfl hit) ccell) ?_
      refine sq rfl (do_inc (tm rfl hit) ck (by omega)) ?_
      refine sq rfl (ix22 (tm rfl (nx rfl (nx rfl (nx rfl (nx rfl hit))))) (tm rfl (nx rfl (nx rfl (nx rfl hit)))) (by omega)) ?_
      refine sqn (do_store T3 (tm rfl hit) (tm rfl (nx rfl hit)) rfl ccell (hC.frozen hsG _)) ?_
      refine cutW ?_
      intro τ27 e27 x2 hx2
      have c27_0 := (congrFun e27 0).trans (nx rfl (nx rfl (nx rfl (nx rfl (nx rfl (nx rfl c26_0))))))
      have c27_1 := (congrFun e27 1).trans (nx rfl (nx rfl (nx rfl (nx rfl (nx rfl (nx rfl c26_1))))))
      have c27_2 := (congrFun e27 2).trans (nx rfl (nx rfl (nx rfl (nx rfl (nx rfl (nx rfl c26_2))))))
      have c27_3 := (congrFun e27 3).trans (nx rfl (nx rfl (nx rfl (nx rfl (nx rfl (nx rfl c26_3))))))
      have c27_4 := (congrFun e27 4).trans (nx rfl (nx rfl (nx rfl (nx rfl (nx rfl (nx rfl c26_4))))))
      have c27_12 := (congrFun e27 12).trans (nx rfl (nx rfl (nx rfl (nx rfl (nx rfl (nx rfl c26_12))))))
      have c27_14 := (congrFun e27 14).trans (nx rfl (nx rfl (nx rfl (nx rfl (nx rfl (nx rfl c26_14))))))
      have c27_15 := (congrFun e27 15).trans (nx rfl (nx rfl (nx rfl (nx rfl (nx rfl (nx rfl c26_15))))))
      have c27_18 := (congrFun e27 18).trans (nx rfl (nx rfl (nx rfl (nx rfl (nx rfl (nx rfl c26_18))))))
      have c27_52 := (congrFun e27 52).trans (nx rfl (nx rfl (nx rfl (nx rfl (nx rfl (nx rfl c26_52))))))
      have c27_53 := (congrFun e27 53).trans (nx rfl (nx rfl (nx rfl (nx rfl (nx rfl (nx rfl c26_53))))))
      have c27_54 := (congrFun e27 54).trans (nx rfl (nx rfl (nx rfl (nx rfl (nx rfl (nx rfl c26_54))))))
      clear e27
      refine wnil ?_
      refine inBN ?_
      refine hK24 _ _ ?_
      clear hK24
      have hs2' : Split w.heap.size w x2 G2 := by rw [hx2]; exact hs2
      refine reg ?_
      refine sq rfl (do_inc (tm rfl c27_54) ck (by omega)) ?_
      refine sq rfl (do_move (tm rfl hit)) ?_
      refine wnil ?_
      refine hnn (it.length - (i + 1)) _ _ (by omega) ⟨i + 1, G2, _, rfl, by omega, (nx rfl (nx rfl c27_0)), (nx rfl (nx rfl c27_1)), (nx rfl (nx rfl c27_2)), (nx rfl (nx rfl c27_3)), (nx rfl (nx rfl c27_4)), (nx rfl (nx rfl c27_12)), (nx rfl (nx rfl c27_14)), (nx rfl (nx rfl c27_15)), (nx rfl (nx rfl c27_52)), (nx rfl (nx rfl c27_53)), hit, hs2', k2.vb (t := 2) (by decide) hI, hC2, by simp [hCl], ?_⟩
      intro x hx
      by_cases hxx : H.it i = x
      · subst hxx
        exact ⟨c + 1, List.getElem?_set_self (by omega), by omega⟩
      · rw [List.getElem?_set_ne hxx]
        obtain ⟨c', h1, h2⟩ := hCp x hx
        exact ⟨c', h1, by omega⟩
    · refine wp_seq_k (fun K28 hK28 => ?_)
      refine cF rfl hit (by simpa using h) ?_
      refine wp_exit ?_
      refine thenE ?_
      refine hx _ _ ⟨G, ct, (nx rfl t0), (nx rfl t1), (nx rfl t2), (nx rfl t3), (nx rfl t4), (nx rfl t12), (nx rfl t14), (nx rfl t15), hsG, hI, hC, fun x hx => ?_⟩
      obtain ⟨c', h1, h2⟩ := hCp x hx
      exact ⟨c', h1, by omega⟩
  clear t0 t1 t2 t3 t4 t12 t14 t15 hsG hI hC
  rintro τ wi ⟨G, ct, t0, t1, t2, t3, t4, t12, t14, t15, hsG, hI, hC, hCp⟩
  refine hK20 _ _ ?_
  clear hK20
  refine wp_seq_k (fun K29 hK29 => ?_)
  refine reg ?_
  refine sq rfl (do_move (tm rfl t4)) ?_
  refine sq rfl (mk37 (tm rfl hit) (tm rfl hit) (by omega)) ?_
  refine sq rfl (do_assign (tm rfl hit)) ?_
  refine cutW ?_
  intro τ30 e30 xa hxa
  have c30_0 := (congrFun e30 0).trans (nx rfl (nx rfl (nx rfl t0)))
  have c30_1 := (congrFun e30 1).trans (nx rfl (nx rfl (nx rfl t1)))
  have c30_2 := (congrFun e30 2).trans (nx rfl (nx rfl (nx rfl t2)))
  have c30_3 := (congrFun e30 3).trans (nx rfl (nx rfl (nx rfl t3)))
  have c30_4 := (congrFun e30 4).trans (nx rfl (nx rfl (nx rfl t4)))
  have c30_12 := (congrFun e30 12).trans (nx rfl (nx rfl (nx rfl t12)))
  have c30_14 := (congrFun e30 14).trans (nx rfl (nx rfl (nx rfl t14)))
  have c30_15 := (congrFun e30 15).trans (nx rfl (nx rfl (nx rfl t15)))
  have c30_19 := (congrFun e30 19).trans hit
  clear e30
  refine wnil ?_
  refine hK29 _ _ ?_
  clear hK29
  obtain ⟨G1, k1, hraw, hA1⟩ := blkN hsG 4 22 (madeCells #[.slice none 0 0] k)
  have hs1 : Split w.heap.size w xa G1 := by rw [hxa]; exact hraw
  rw [made_list] at hA1
  have hI1 := k1.vb (t := 2) (by decide) hI
  have hC1 := k1.vb (t := 3) (by decide) hC
  have hTA : TabV (G1 4) 22 3 1 encI (.slice (some ⟨wi.heap.size, 0, none⟩) k k) (List.replicate k []) := TabV.ofVB hA1 (by omega)
  clear hxa hraw hsG hI hC hA1 k1
  generalize wi.heap.size = bA at *
  refine wp_seq_k (fun K31 hK31 => ?_)
  refine reg ?_
  refine sq rfl (do_move (tm rfl c30_4)) ?_
  refine sq rfl (mk54 (tm rfl hit) (tm rfl hit) (by omega)) ?_
  refine sq rfl (do_assign (tm rfl hit)) ?_
  refine cutW ?_
  intro τ32 e32 xb hxb
  have c32_0 := (congrFun e32 0).trans (nx rfl (nx rfl (nx rfl c30_0)))
  have c32_1 := (congrFun e32 1).trans (nx rfl (nx rfl (nx rfl c30_1)))
  have c32_2 := (congrFun e32 2).trans (nx rfl (nx rfl (nx rfl c30_2)))
  have c32_3 := (congrFun e32 3).trans (nx rfl (nx rfl (nx rfl c30_3)))
  have c32_4 := (congrFun e32 4).trans (nx rfl (nx rfl (nx rfl c30_4)))
  have c32_12 := (congrFun e32 12).trans (nx rfl (nx rfl (nx rfl c30_12)))
  have c32_14 := (congrFun e32 14).trans (nx rfl (nx rfl (nx rfl c30_14)))
  have c32_15 := (congrFun e32 15).trans (nx rfl (nx rfl (nx rfl c30_15)))
  have c32_19 := (congrFun e32 19).trans (nx rfl (nx rfl (nx rfl c30_19)))
  have c32_20 := (congrFun e32 20).trans hit
  clear e32
  refine wnil ?_
  refine hK31 _ _ ?_
  clear hK31
  obtain ⟨G2, k2, hraw, hB1⟩ := blkN hs1 5 23 (madeCells #[.slice none 0 0] k)
  have hs2 : Split w.heap.size w xb G2 := by rw [hxb]; exact hraw
  rw [made_list] at hB1
  have hI2 := k2.vb (t := 2) (by decide) hI1
  have hC2 := k2.vb (t := 3) (by decide) hC1
  have hTA2 : TabV (G2 4) 22 3 1 encI (.slice (some ⟨bA, 0, none⟩) k k) (List.replicate k []) := by rw [k2 4 (by decide)]; exact hTA
  have hTB2 : TabV (G2 5) 23 4 1 encB (.slice (some ⟨xa.heap.size, 0, none⟩) k k) (List.replicate k []) := TabV.ofVB hB1 (by omega)
  clear hxb hraw hs1 hI1 hC1 hB1 k2 hTA
  generalize xa.heap.size = bB at *
  refine wp_seq_k (fun K33 hK33 => ?_)
  refine wp_seq_k (fun K34 hK34 => ?_)
  refine reg ?_
  refine sq rfl (do_assign (v := .int .i64 ((0 : Nat) : Int)) rfl) ?_
  refine wnil ?_
  refine hK34 _ _ ?_
  clear hK34
  refine forLoop (N := 131) (fun r τ wi => ∃ (x : Nat) (G : Nat → Part), r = k - x ∧ x ≤ k ∧ τ 0 = .int .i64 (n : Int) ∧ τ 1 = .slice a1 nd.length c1 ∧ τ 2 = .slice a2 wr.length c2 ∧ τ 3 = .slice a3 it.length c3 ∧ τ 4 = .int .i64 (k : Int) ∧ τ 12 = .slice (some ⟨bN, 0, none⟩) n n ∧ τ 14 = .slice (some ⟨bI, 0, none⟩) k k ∧ τ 15 = .slice (some ⟨bC, 0, none⟩) k k ∧ τ 19 = .slice (some ⟨bA, 0, none⟩) k k ∧ τ 20 = .slice (some ⟨bB, 0, none⟩) k k ∧ τ 21 = .int .i64 (x : Int) ∧ Split w.heap.size w wi G ∧ VB (G 2) bI 9 is ∧ VB (G 3) bC 3 (ints ct) ∧ TabV (G 4) 22 3 1 encI (.slice (some ⟨bA, 0, none⟩) k k) (List.replicate k []) ∧ TabV (G 5) 23 4 1 encB (.slice (some ⟨bB, 0, none⟩) k k) (List.replicate k []))
    (fun τ wi => ∃ (G : Nat → Part), τ 0 = .int .i64 (n : Int) ∧ τ 1 = .slice a1 nd.length c1 ∧ τ 2 = .slice a2 wr.length c2 ∧ τ 3 = .slice a3 it.length c3 ∧ τ 4 = .int .i64 (k : Int) ∧ τ 12 = .slice (some ⟨bN, 0, none⟩) n n ∧ τ 14 = .slice (some ⟨bI, 0, none⟩) k k ∧ τ 19 = .slice (some ⟨bA, 0, none⟩) k k ∧ τ 20 = .slice (some ⟨bB, 0, none⟩) k k ∧ Split w.heap.size w wi G ∧ VB (G 2) bI 9 is ∧ TabV (G 4) 22 3 1 encI (.slice (some ⟨bA, 0, none⟩) k k) (List.replicate k []) ∧ TabV (G 5) 23 4 1 encB (.slice (some ⟨bB, 0, none⟩) k k) (List.replicate k [])) k ?_ ?_ ?_
  · exact ⟨0, G2, rfl, Nat.zero_le _, (nx rfl c32_0), (nx rfl c32_1), (nx rfl c32_2), (nx rfl c32_3), (nx rfl c32_4), (nx rfl c32_12), (nx rfl c32_14), (nx rfl c32_15), (nx rfl c32_19), (nx rfl c32_20), hit, hs2, hI2, hC2, hTA2, hTB2⟩
  · clear t0 t1 t2 t3 t4 t12 t14 t15 hs2 hI2 hC2 hTA2 hTB2
    rintro Q' r τ wi hnn hx hr ⟨x, G, rfl, hi, t0, t1, t2, t3, t4, t12, t14, t15, t19, t20, t21, hsG, hI, hC, hTA, hTB⟩
    refine wp_seq_k (fun K35 hK35 => ?_)
    refine wp_seq_k (fun K36 hK36 => ?_)
    refine reg ?_
    refine sq rfl (do_move (tm rfl t21)) ?_
    refine sq rfl (do_move (tm rfl (nx rfl t4))) ?_
    refine sq rfl (do_lss (tm rfl (nx rfl hit)) (tm rfl hit)) ?_
    refine wnil ?_
    refine hK36 _ _ ?_
    clear hK36
    by_cases h : x < k
    · refine cT rfl hit (by simpa using h) ?_
      refine wp_skip ?_
      refine hK35 _ _ ?_
      clear hK35
      obtain ⟨c, hc, hcb⟩ := hCp x h
      have hcc : ∀ wj (Gj : Nat → Part), Split w.heap.size w wj Gj → VB (Gj 3) bC 3 (ints ct) → wj.cell? ⟨bC, x, none⟩ = some (.int .i64 (c : Int)) := fun wj Gj h1 h2 => h2.cell h1 (show (ints ct)[x]? = some (.int .i64 (c : Int)) by simp [ints, hc])
      obtain ⟨g, vc, J1, J2, cell, hv, j1, j2, g1, hce, hfe, g2, hTA'⟩ := hTA.putRow hsG (i := x) (by simpa using h) (madeCells #[.int .i64 0] c) c (made_size _ _) (by simp only [maxLen]; omega)
      have hgA : g = bA := by simp at hv; exact hv.1.symm
      subst hgA
      rw [show (List.replicate k ([] : List Int)).set x [] = List.replicate k [] by simp] at hTA'
      refine wp_seq_k (fun K37 hK37 => ?_)
      refine wp_block ?_
      refine wp_seq_k (fun K38 hK38 => ?_)
      refine reg ?_
      refine sq rfl (do_move (tm rfl (nx rfl (nx rfl (nx rfl t19))))) ?_
      refine sq rfl (do_move (tm rfl (nx rfl (nx rfl (nx rfl (nx rfl t21)))))) ?_
      refine sq rfl (do_move (tm rfl (nx rfl (nx rfl (nx rfl (nx rfl (nx rfl t15))))))) ?_
      refine sq rfl (do_move (tm rfl (nx rfl (nx rfl (nx rfl (nx rfl (nx rfl (nx rfl t21)))))))) ?_
      refine sq rfl (ix22 (tm rfl (nx rfl hit)) (tm rfl hit) (by omega)) ?_
      refine sq rfl (do_load T3 rfl (tm rfl hit) (hcc _ _ hsG hC)) ?_
      refine sq rfl (mk0_22 rfl (tm rfl hit) (by omega)) ?_
      refine sq rfl (ix37 (tm rfl (nx rfl (nx rfl (nx rfl (nx rfl (nx rfl (nx rfl hit))))))) (tm rfl (nx rfl (nx rfl (nx rfl (nx rfl (nx rfl hit)))))) (by omega)) ?_
      refine sqn (do_store T22 (tm rfl hit) (tm rfl (nx rfl hit)) rfl hce hfe) ?_
      refine cutW ?_
      intro τ39 e39 x2 hx2
      have c39_0 := (congrFun e39 0).trans (nx rfl (nx rfl (nx rfl (nx rfl (nx rfl (nx rfl (nx rfl (nx rfl (nx rfl (nx rfl (nx rfl t0)))))))))))
      have c39_1 := (congrFun e39 1).trans (nx rfl (nx rfl (nx rfl (nx rfl (nx rfl (nx rfl (nx rfl (nx rfl (nx rfl (nx rfl (nx rfl t1)))))))))))
      have c39_2 := (congrFun e39 2).trans (nx rfl (nx rfl (nx rfl (nx rfl (nx rfl (nx rfl (nx rfl (nx rfl (nx rfl (nx rfl (nx rfl t2)))))))))))
      have c39_3 := (congrFun e39 3).trans (nx rfl (nx rfl (nx rfl (nx rfl (nx rfl (nx rfl (nx rfl (nx rfl (nx rfl (nx rfl (nx rfl t3)))))))))))
      have c39_4 := (congrFun e39 4).trans (nx rfl (nx rfl (nx rfl (nx rfl (nx rfl (nx rfl (nx rfl (nx rfl (nx rfl (nx rfl (nx rfl t4)))))))))))
      have c39_12 := (congrFun e39 12).trans (nx rfl (nx rfl (nx rfl (nx rfl (nx rfl (nx rfl (nx rfl (nx rfl (nx rfl (nx rfl (nx rfl t12)))))))))))
      have c39_14 := (congrFun e39 14).trans (nx rfl (nx rfl (nx rfl (nx rfl (nx rfl (nx rfl (nx rfl (nx rfl (nx rfl (nx rfl (nx rfl t14)))))))))))
      have c39_15 := (congrFun e39 15).trans (nx rfl (nx rfl (nx rfl (nx rfl (nx rfl (nx rfl (nx rfl (nx rfl (nx rfl (nx rfl (nx rfl t15)))))))))))
      have c39_19 := (congrFun e39 19).trans (nx rfl (nx rfl (nx rfl (nx rfl (nx rfl (nx rfl (nx rfl (nx rfl (nx rfl (nx rfl (nx rfl t19)))))))))))
      have c39_20 := (congrFun e39 20).trans (nx rfl (nx rfl (nx rfl (nx rfl (nx rfl (nx rfl (nx rfl (nx rfl (nx rfl (nx rfl (nx rfl t20)))))))))))
      have c39_21 := (congrFun e39 21).trans (nx rfl (nx rfl (nx rfl (nx rfl (nx rfl (nx rfl (nx rfl (nx rfl (nx rfl (nx rfl (nx rfl t21)))))))))))
      clear e39
      refine wnil ?_
      refine hK38 _ _ ?_
      clear hK38
      have hs2 : Split w.heap.size w x2 J2 := by rw [hx2]; exact g2
      have hTB2 : TabV (J2 5) 23 4 1 encB (.slice (some ⟨bB, 0, none⟩) k k) (List.replicate k []) := by rw [j2 5 (by decide)]; exact hTB
      have hC2 := j2.vb (t := 3) (by decide) hC
      have hI2 := j2.vb (t := 2) (by decide) hI
      clear hx2 g1 hce hfe g2 hTA hsG hTB hC hI j1
      obtain ⟨g', vc', J3, J4, cell', hv', j3, j4, g3, hce, hfe, g4, hTB'⟩ := hTB2.putRow hs2 (i := x) (by simpa using h) (madeCells #[.bool false] c) c (made_size _ _) (by simp only [maxLen]; omega)
      have hgB : g' = bB := by simp at hv'; exact hv'.1.symm
      subst hgB
      rw [show (List.replicate k ([] : List Bool)).set x [] = List.replicate k [] by simp] at hTB'
      refine reg ?_
      refine sq rfl (do_move (tm rfl c39_20)) ?_
      refine sq rfl (do_move (tm rfl (nx rfl c39_21))) ?_
      refine sq rfl (do_move (tm rfl (nx rfl (nx rfl c39_15)))) ?_
      refine sq rfl (do_move (tm rfl (nx rfl (nx rfl (nx rfl c39_21))))) ?_
      refine sq rfl (ix22 (tm rfl (nx rfl hit)) (tm rfl hit) (by omega)) ?_
      refine sq rfl (do_load T3 rfl (tm rfl hit) (hcc _ _ hs2 hC2)) ?_
      refine sq rfl (mk0_23 rfl (tm rfl hit) (by omega)) ?_
      refine sq rfl (ix54 (tm rfl (nx rfl (nx rfl (nx rfl (nx rfl (nx rfl (nx rfl hit))))))) (tm rfl (nx rfl (nx rfl (nx rfl (nx rfl (nx rfl hit)))))) (by omega)) ?_
      refine sqn (do_store T23 (tm rfl hit) (tm rfl (nx rfl hit)) rfl hce hfe) ?_
      refine cutW ?_
      intro τ40 e40 x3 hx3
      have c40_0 := (congrFun e40 0).trans (nx rfl (nx rfl (nx rfl (nx rfl (nx rfl (nx rfl (nx rfl (nx rfl c39_0))))))))
      have c40_1 := (congrFun e40 1).trans (nx rfl (nx rfl (nx rfl (nx rfl (nx rfl (nx rfl (nx rfl (nx rfl c39_1))))))))
      have c40_2 := (congrFun e40 2).trans (nx rfl (nx rfl (nx rfl (nx rfl (nx rfl (nx rfl (nx rfl (nx rfl c39_2))))))))
      have c40_3 := (congrFun e40 3).trans (nx rfl (nx rfl (nx rfl (nx rfl (nx rfl (nx rfl (nx rfl (nx rfl c39_3))))))))
      have c40_4 := (congrFun e40 4).trans (nx rfl (nx rfl (nx rfl (nx rfl (nx rfl (nx rfl (nx rfl (nx rfl c39_4))))))))
      have c40_12 := (congrFun e40 12).trans (nx rfl (nx rfl (nx rfl (nx rfl (nx rfl (nx rfl (nx rfl (nx rfl c39_12))))))))
      have c40_14 := (congrFun e40 14).trans (nx rfl (nx rfl (nx rfl (nx rfl (nx rfl (nx rfl (nx rfl (nx rfl c39_14))))))))
      have c40_15 := (congrFun e40 15).trans (nx rfl (nx rfl (nx rfl (nx rfl (nx rfl (nx rfl (nx rfl (nx rfl c39_15))))))))
      have c40_19 := (congrFun e40 19).trans (nx rfl (nx rfl (nx rfl (nx rfl (nx rfl (nx rfl (nx rfl (nx rfl c39_19))))))))
      have c40_20 := (congrFun e40 20).trans (nx rfl (nx rfl (nx rfl (nx rfl (nx rfl (nx rfl (nx rfl (nx rfl c39_20))))))))
      have c40_21 := (congrFun e40 21).trans (nx rfl (nx rfl (nx rfl (nx rfl (nx rfl (nx rfl (nx rfl (nx rfl c39_21))))))))
      clear e40
      refine wnil ?_
      refine inBN ?_
      refine hK37 _ _ ?_
      clear hK37
      have hs4 : Split w.heap.size w x3 J4 := by rw [hx3]; exact g4
      refine reg ?_
      refine sq rfl (do_move (tm rfl c40_21)) ?_
      refine sq rfl (do_inc (tm rfl hit) ck (by omega)) ?_
      refine sq rfl (do_assign (tm rfl hit)) ?_
      refine wnil ?_
      exact hnn (k - (x + 1)) _ _ (by omega) ⟨x + 1, J4, rfl, by omega, (nx rfl (nx rfl (nx rfl c40_0))), (nx rfl (nx rfl (nx rfl c40_1))), (nx rfl (nx rfl (nx rfl c40_2))), (nx rfl (nx rfl (nx rfl c40_3))), (nx rfl (nx rfl (nx rfl c40_4))), (nx rfl (nx rfl (nx rfl c40_12))), (nx rfl (nx rfl (nx rfl c40_14))), (nx rfl (nx rfl (nx rfl c40_15))), (nx rfl (nx rfl (nx rfl c40_19))), (nx rfl (nx rfl (nx rfl c40_20))), hit, hs4, j4.vb (t := 2) (by decide) hI2, j4.vb (t := 3) (by decide) hC2, by rw [j4 4 (by decide)]; exact hTA', hTB'⟩
    · refine cF rfl hit (by simpa using h) ?_
      refine wp_exit ?_
      refine thenE ?_
      exact hx _ _ ⟨G, (nx rfl (nx rfl (nx rfl t0))), (nx rfl (nx rfl (nx rfl t1))), (nx rfl (nx rfl (nx rfl t2))), (nx rfl (nx rfl (nx rfl t3))), (nx rfl (nx rfl (nx rfl t4))), (nx rfl (nx rfl (nx rfl t12))), (nx rfl (nx rfl (nx rfl t14))), (nx rfl (nx rfl (nx rfl t19))), (nx rfl (nx rfl (nx rfl t20))), hsG, hI, hTA, hTB⟩
  clear t0 t1 t2 t3 t4 t12 t14 t15 hs2 hI2 hC2 hTA2 hTB2 hCp
  rintro τ wi ⟨G, t0, t1, t2, t3, t4, t12, t14, t19, t20, hsG, hI, hTA, hTB⟩
  refine hK33 _ _ ?_
  clear hK33
  refine wp_seq_k (fun K41 hK41 => ?_)
  refine wp_seq_k (fun K42 hK42 => ?_)
  refine reg ?_
  refine sq rfl (do_move (tm rfl t3)) ?_
  refine sq rfl (do_len Try.underlying22 (tm rfl hit)) ?_
  refine sq rfl (do_move (v := .int .i64 ((0 : Nat) : Int)) rfl) ?_
  refine wnil ?_
  refine hK42 _ _ ?_
  clear hK42
  refine forLoop (N := 131) (fun r τ wi => ∃ (i : Nat) (G : Nat → Part) (ra : List (List Int)) (rb : List (List Bool)), r = it.length - i ∧ i ≤ it.length ∧ τ 0 = .int .i64 (n : Int) ∧ τ 1 = .slice a1 nd.length c1 ∧ τ 2 = .slice a2 wr.length c2 ∧ τ 3 = .slice a3 it.length c3 ∧ τ 4 = .int .i64 (k : Int) ∧ τ 12 = .slice (some ⟨bN, 0, none⟩) n n ∧ τ 14 = .slice (some ⟨bI, 0, none⟩) k k ∧ τ 19 = .slice (some ⟨bA, 0, none⟩) k k ∧ τ 20 = .slice (some ⟨bB, 0, none⟩) k k ∧ τ 90 = .slice a3 it.length c3 ∧ τ 91 = .int .i64 (it.length : Int) ∧ τ 92 = .int .i64 (i : Int) ∧ Split w.heap.size w wi G ∧ VB (G 2) bI 9 is ∧ TabV (G 4) 22 3 1 encI (.slice (some ⟨bA, 0, none⟩) k k) ra ∧ TabV (G 5) 23 4 1 encB (.slice (some ⟨bB, 0, none⟩) k k) rb ∧ ra.length = k ∧ rb.length = k ∧
      (∀ x, x < k → ra[x]? = some ((acc H x i).map fun p => (p.1 : Int)) ∧ rb[x]? = some ((acc H x i).map fun p => p.2)))
    (fun τ wi => ∃ (G : Nat → Part) (ra : List (List Int)) (rb : List (List Bool)), τ 12 = .slice (some ⟨bN, 0, none⟩) n n ∧ τ 14 = .slice (some ⟨bI, 0, none⟩) k k ∧ τ 19 = .slice (some ⟨bA, 0, none⟩) k k ∧ τ 20 = .slice (some ⟨bB, 0, none⟩) k k ∧ Split w.heap.size w wi G ∧ VB (G 2) bI 9 is ∧ TabV (G 4) 22 3 1 encI (.slice (some ⟨bA, 0, none⟩) k k) ra ∧ TabV (G 5) 23 4 1 encB (.slice (some ⟨bB, 0, none⟩) k k) rb ∧ ra.length = k ∧ rb.length = k ∧
      (∀ x, x < k → ra[x]? = some ((acc H x nd.length).map fun p => (p.1 : Int)) ∧ rb[x]? = some ((acc H x nd.length).map fun p => p.2))) it.length ?_ ?_ ?_
  · exact ⟨0, G, _, _, rfl, Nat.zero_le _, (nx rfl (nx rfl (nx rfl t0))), (nx rfl (nx rfl (nx rfl t1))), (nx rfl (nx rfl (nx rfl t2))), (nx rfl (nx rfl (nx rfl t3))), (nx rfl (nx rfl (nx rfl t4))), (nx rfl (nx rfl (nx rfl t12))), (nx rfl (nx rfl (nx rfl t14))), (nx rfl (nx rfl (nx rfl t19))), (nx rfl (nx rfl (nx rfl t20))), (nx rfl (nx rfl hit)), (nx rfl hit), hit, hsG, hI, hTA, hTB, by simp, by simp, fun x hx => ⟨by simp [hx, acc], by simp [hx, acc]⟩⟩
  · clear t0 t1 t2 t3 t4 t12 t14 t19 t20 hsG hI hTA hTB
    rintro Q' r τ wi hnn hx hr ⟨i, G, ra, rb, rfl, hi, t0, t1, t2, t3, t4, t12, t14, t19, t20, t90, t91, t92, hsG, hI, hTA, hTB, hra, hrb, hacc⟩
    refine wp_seq_k (fun K43 hK43 => ?_)
    refine reg ?_
    refine sq rfl (do_lss (tm rfl t92) (tm rfl t91)) ?_
    refine wnil ?_
    refine hK43 _ _ ?_
    clear hK43
    by_cases h : i < it.length
    · refine wp_seq_k (fun K44 hK44 => ?_)
      refine cT rfl hit (by simpa using h) ?_
      refine wp_skip ?_
      refine hK44 _ _ ?_
      clear hK44
      obtain ⟨b3, o3, rfl, d3⟩ := C3 i (by omega) wi hsG.below
      have hxk := (Hit i h).2
      have hal := acc_length H (H.it i) i
      have hcl := cE_le (byItem H) (H.it i) i
      have hxa : H.it i < ra.length := by omega
      have hxb : H.it i < rb.length := by omega
      have hrow1 : ra[H.it i]'hxa = (acc H (H.it i) i).map fun p => (p.1 : Int) := by
        have := (hacc _ hxk).1
        rw [List.getElem?_eq_getElem hxa] at this
        injection this
      have hrow2 : rb[H.it i]'hxb = (acc H (H.it i) i).map fun p => p.2 := by
        have := (hacc _ hxk).2
        rw [List.getElem?_eq_getElem hxb] at this
        injection this
      obtain ⟨b1, o1, hae, d1⟩ := C1 i (by omega) wi.drew hsG.below.drew
      subst hae
      obtain ⟨g, cap, cell, v', w2, J1, J2, J3, hv, hca, hcb, hapT, hstT, j1, j2, j3, g1, g2, g3, hTA3⟩ := TabV.pushR (t := 4) (j := 28) T22 T3 T22 rfl (by decide) (by decide) hTA hsG.drew rfl hxa (H.nd i : Int) #[.int .i64 (H.nd i : Int)] rfl rfl (one_I _) (by rw [hrow1, List.length_map]; omega)
      have hgA : g = bA := by injection hv with e1; injection e1 with e1; injection e1 with e1; exact e1.symm
      subst hgA
      have FC : ∀ j, j ≤ 1 → (stg wi.drew [wi.drew.alloc (.cells #[.int .i64 (H.nd i : Int)] 3), w2, w2.setCell ⟨g, H.it i, none⟩ v'] j).cell? ⟨g, H.it i, none⟩ = some cell :=
        le1 (p := fun j => (stg wi.drew [wi.drew.alloc (.cells #[.int .i64 (H.nd i : Int)] 3), w2, w2.setCell ⟨g, H.it i, none⟩ v'] j).cell? ⟨g, H.it i, none⟩ = some cell) hca hcb
      refine wp_seq_k (fun K45 hK45 => ?_)
      refine wp_block ?_
      refine wp_seq_k (fun K46 hK46 => ?_)
      refine reg ?_
      refine sq rfl (do_move (tm rfl (nx rfl t92))) ?_
      refine sq rfl (io22 (tm rfl (nx rfl (nx rfl t90))) (tm rfl (nx rfl (nx rfl t92))) (by omega)) ?_
      refine sq rfl (do_load T3 rfl (tm rfl hit) d3) ?_
      refine sq rfl (do_assign (tm rfl (nx rfl (nx rfl hit)))) ?_
      refine sq rfl (do_assign (tm rfl (nx rfl hit))) ?_
      refine cutL ?_
      intro τ47 e47
      have c47_0 := (congrFun e47 0).trans (nx rfl (nx rfl (nx rfl (nx rfl (nx rfl (nx rfl t0))))))
      have c47_1 := (congrFun e47 1).trans (nx rfl (nx rfl (nx rfl (nx rfl (nx rfl (nx rfl t1))))))
      have c47_2 := (congrFun e47 2).trans (nx rfl (nx rfl (nx rfl (nx rfl (nx rfl (nx rfl t2))))))
      have c47_3 := (congrFun e47 3).trans (nx rfl (nx rfl (nx rfl (nx rfl (nx rfl (nx rfl t3))))))
      have c47_4 := (congrFun e47 4).trans (nx rfl (nx rfl (nx rfl (nx rfl (nx rfl (nx rfl t4))))))
      have c47_12 := (congrFun e47 12).trans (nx rfl (nx rfl (nx rfl (nx rfl (nx rfl (nx rfl t12))))))
      have c47_14 := (congrFun e47 14).trans (nx rfl (nx rfl (nx rfl (nx rfl (nx rfl (nx rfl t14))))))
      have c47_19 := (congrFun e47 19).trans (nx rfl (nx rfl (nx rfl (nx rfl (nx rfl (nx rfl t19))))))
      have c47_20 := (congrFun e47 20).trans (nx rfl (nx rfl (nx rfl (nx rfl (nx rfl (nx rfl t20))))))
      have c47_22 := (congrFun e47 22).trans (nx rfl hit)
      have c47_23 := (congrFun e47 23).trans hit
      have c47_90 := (congrFun e47 90).trans (nx rfl (nx rfl (nx rfl (nx rfl (nx rfl (nx rfl t90))))))
      have c47_91 := (congrFun e47 91).trans (nx rfl (nx rfl (nx rfl (nx rfl (nx rfl (nx rfl t91))))))
      have c47_92 := (congrFun e47 92).trans (nx rfl (nx rfl (nx rfl (nx rfl (nx rfl (nx rfl t92))))))
      clear e47
      refine wnil ?_
      refine hK46 _ _ ?_
      clear hK46
      refine wp_seq_k (fun K48 hK48 => ?_)
      refine draw mixed [10, 11, 13] [(0, 2), (0, 2), (0, 2), (0, 2), (0, 2), (0, 1), (0, 2), (0, 2), (0, 2), (0, 0), (0, 0), (1, 1), (2, 2), (2, 2)] [wi.drew.alloc (.cells #[.int .i64 (H.nd i : Int)] 3), w2, w2.setCell ⟨g, H.it i, none⟩ v'] (w2.setCell ⟨g, H.it i, none⟩ v') (upd (upd (upd (upd (upd (upd (upd (upd (upd (upd (upd (upd (upd _ 97 _) 98 _) 99 _) 100 _) 101 _) 102 _) 103 _) 104 _) 105 _) 106 _) 107 _) 108 _) 109 _) (by kernel_rfl) (fun s hs => ovr_off [(97, _), (98, _), (99, _), (100, _), (101, _), (102, _), (103, _), (104, _), (105, _), (106, _), (107, _), (108, _), (109, _)] _ s hs) ⟨(qa rfl (fun _ => (do_move (tm rfl (nx rfl (nx rfl (nx rfl (nx rfl (nx rfl (nx rfl (nx rfl (nx rfl (nx rfl (nx rfl (nx rfl (nx rfl (nx rfl c47_19)))))))))))))))) (nx rfl (nx rfl (nx rfl (nx rfl (nx rfl (nx rfl (nx rfl (nx rfl (nx rfl (nx rfl (nx rfl (nx rfl hit))))))))))))), (qa rfl (fun _ => (do_move (tm rfl (nx rfl (nx rfl (nx rfl (nx rfl (nx rfl (nx rfl (nx rfl (nx rfl (nx rfl (nx rfl (nx rfl (nx rfl (nx rfl c47_23)))))))))))))))) (nx rfl (nx rfl (nx rfl (nx rfl (nx rfl (nx rfl (nx rfl (nx rfl (nx rfl (nx rfl (nx rfl hit)))))))))))), (qa rfl (fun _ => (do_move (tm rfl (nx rfl (nx rfl (nx rfl (nx rfl (nx rfl (nx rfl (nx rfl (nx rfl (nx rfl (nx rfl (nx rfl (nx rfl (nx rfl c47_19)))))))))))))))) (nx rfl (nx rfl (nx rfl (nx rfl (nx rfl (nx rfl (nx rfl (nx rfl (nx rfl (nx rfl hit))))))))))), (qa rfl (fun _ => (do_move (tm rfl (nx rfl (nx rfl (nx rfl (nx rfl (nx rfl (nx rfl (nx rfl (nx rfl (nx rfl (nx rfl (nx rfl (nx rfl (nx rfl c47_23)))))))))))))))) (nx rfl (nx rfl (nx rfl (nx rfl (nx rfl (nx rfl (nx rfl (nx rfl (nx rfl hit)))))))))), (qa rfl (fun _ => (ix37 (tm rfl (nx rfl (nx rfl (nx rfl (nx rfl (nx rfl (nx rfl (nx rfl (nx rfl (nx rfl (nx rfl hit))))))))))) (tm rfl (nx rfl (nx rfl (nx rfl (nx rfl (nx rfl (nx rfl (nx rfl (nx rfl (nx rfl hit)))))))))) (by omega))) (nx rfl (nx rfl (nx rfl (nx rfl (nx rfl (nx rfl (nx rfl (nx rfl hit))))))))), (qr rfl (fun j h1 h2 => (do_load T22 rfl (tm rfl (nx rfl (nx rfl (nx rfl (nx rfl (nx rfl (nx rfl (nx rfl (nx rfl hit))))))))) (FC j (by omega)))) (nx rfl (nx rfl (nx rfl (nx rfl (nx rfl (nx rfl (nx rfl hit)))))))), (qa rfl (fun _ => (do_move (tm rfl (nx rfl (nx rfl (nx rfl (nx rfl (nx rfl (nx rfl (nx rfl (nx rfl (nx rfl (nx rfl (nx rfl (nx rfl (nx rfl c47_1)))))))))))))))) (nx rfl (nx rfl (nx rfl (nx rfl (nx rfl (nx rfl hit))))))), (qa rfl (fun _ => (do_move (tm rfl (nx rfl (nx rfl (nx rfl (nx rfl (nx rfl (nx rfl (nx rfl (nx rfl (nx rfl (nx rfl (nx rfl (nx rfl (nx rfl c47_22)))))))))))))))) (nx rfl (nx rfl (nx rfl (nx rfl (nx rfl hit)))))), (qa rfl (fun _ => (io22 (tm rfl (nx rfl (nx rfl (nx rfl (nx rfl (nx rfl (nx rfl hit))))))) (tm rfl (nx rfl (nx rfl (nx rfl (nx rfl (nx rfl hit)))))) (by omega))) (nx rfl (nx rfl (nx rfl (nx rfl hit))))), (qk rfl (do_load T3 rfl (tm rfl (nx rfl (nx rfl (nx rfl (nx rfl hit))))) d1) (nx rfl (nx rfl (nx rfl hit)))), (ef rfl (do_bs1 T22 T3 rfl (tm rfl (nx rfl (nx rfl (nx rfl hit)))) rfl) (nx rfl (nx rfl hit))), (ef rfl (hapT _ _ _ _ _ _ _ _ (tm rfl (nx rfl (nx rfl (nx rfl (nx rfl (nx rfl (nx rfl (nx rfl hit)))))))) (tm rfl (nx rfl (nx rfl hit)))) (nx rfl hit)), (qa rfl (fun _ => (ix37 (tm rfl (nx rfl (nx rfl (nx rfl (nx rfl (nx rfl (nx rfl (nx rfl (nx rfl (nx rfl (nx rfl (nx rfl (nx rfl hit))))))))))))) (tm rfl (nx rfl (nx rfl (nx rfl (nx rfl (nx rfl (nx rfl (nx rfl (nx rfl (nx rfl (nx rfl (nx rfl hit)))))))))))) (by omega))) hit), (en rfl (hstT _ _ _ _ _ _ _ _ (tm rfl hit) (tm rfl (nx rfl hit)))), trivial⟩ rfl ?_
      intro τ49 e49
      have c49_0 := (congrFun e49 0).trans (nx rfl (nx rfl (nx rfl (nx rfl (nx rfl (nx rfl (nx rfl (nx rfl (nx rfl (nx rfl (nx rfl (nx rfl (nx rfl c47_0)))))))))))))
      have c49_1 := (congrFun e49 1).trans (nx rfl (nx rfl (nx rfl (nx rfl (nx rfl (nx rfl (nx rfl (nx rfl (nx rfl (nx rfl (nx rfl (nx rfl (nx rfl c47_1)))))))))))))
      have c49_2 := (congrFun e49 2).trans (nx rfl (nx rfl (nx rfl (nx rfl (nx rfl (nx rfl (nx rfl (nx rfl (nx rfl (nx rfl (nx rfl (nx rfl (nx rfl c47_2)))))))))))))
      have c49_3 := (congrFun e49 3).trans (nx rfl (nx rfl (nx rfl (nx rfl (nx rfl (nx rfl (nx rfl (nx rfl (nx rfl (nx rfl (nx rfl (nx rfl (nx rfl c47_3)))))))))))))
      have c49_4 := (congrFun e49 4).trans (nx rfl (nx rfl (nx rfl (nx rfl (nx rfl (nx rfl (nx rfl (nx rfl (nx rfl (nx rfl (nx rfl (nx rfl (nx rfl c47_4)))))))))))))
      have c49_12 := (congrFun e49 12).trans (nx rfl (nx rfl (nx rfl (nx rfl (nx rfl (nx rfl (nx rfl (nx rfl (nx rfl (nx rfl (nx rfl (nx rfl (nx rfl c47_12)))))))))))))
      have c49_14 := (congrFun e49 14).trans (nx rfl (nx rfl (nx rfl (nx rfl (nx rfl (nx rfl (nx rfl (nx rfl (nx rfl (nx rfl (nx rfl (nx rfl (nx rfl c47_14)))))))))))))
      have c49_19 := (congrFun e49 19).trans (nx rfl (nx rfl (nx rfl (nx rfl (nx rfl (nx rfl (nx rfl (nx rfl (nx rfl (nx rfl (nx rfl (nx rfl (nx rfl c47_19)))))))))))))
      have c49_20 := (congrFun e49 20).trans (nx rfl (nx rfl (nx rfl (nx rfl (nx rfl (nx rfl (nx rfl (nx rfl (nx rfl (nx rfl (nx rfl (nx rfl (nx rfl c47_20)))))))))))))
      have c49_22 := (congrFun e49 22).trans (nx rfl (nx rfl (nx rfl (nx rfl (nx rfl (nx rfl (nx rfl (nx rfl (nx rfl (nx rfl (nx rfl (nx rfl (nx rfl c47_22)))))))))))))
      have c49_23 := (congrFun e49 23).trans (nx rfl (nx rfl (nx rfl (nx rfl (nx rfl (nx rfl (nx rfl (nx rfl (nx rfl (nx rfl (nx rfl (nx rfl (nx rfl c47_23)))))))))))))
      have c49_90 := (congrFun e49 90).trans (nx rfl (nx rfl (nx rfl (nx rfl (nx rfl (nx rfl (nx rfl (nx rfl (nx rfl (nx rfl (nx rfl (nx rfl (nx rfl c47_90)))))))))))))
      have c49_91 := (congrFun e49 91).trans (nx rfl (nx rfl (nx rfl (nx rfl (nx rfl (nx rfl (nx rfl (nx rfl (nx rfl (nx rfl (nx rfl (nx rfl (nx rfl c47_91)))))))))))))
      have c49_92 := (congrFun e49 92).trans (nx rfl (nx rfl (nx rfl (nx rfl (nx rfl (nx rfl (nx rfl (nx rfl (nx rfl (nx rfl (nx rfl (nx rfl (nx rfl c47_92)))))))))))))
      clear e49
      refine hK48 _ _ ?_
      clear hK48
      have hTB3 : TabV (J3 5) 23 4 1 encB (.slice (some ⟨bB, 0, none⟩) k k) rb := by rw [j3 5 (by decide)]; exact hTB
      have hI3 := j3.vb (t := 2) (by decide) hI
      clear FC hca hcb hapT hstT j1 j2 g1 g2 hTA hsG hTB hI d3 d1 hv
      generalize w2.setCell ⟨g, H.it i, none⟩ v' = xw at *
      obtain ⟨b2, o2, hbe, d2⟩ := C2 i (by omega) xw.drew g3.below.drew
      subst hbe
      obtain ⟨g', cap', cell', v'', w4, J1, J2, J4, hv, hca, hcb, hapT, hstT, j1, j2, j4, g1, g2, g4, hTB4⟩ := TabV.pushR (t := 5) (j := 28) T23 T4 T23 rfl (by decide) (by decide) hTB3 g3.drew rfl hxb (H.wr i) #[.bool (H.wr i)] rfl rfl (one_B _) (by rw [hrow2, List.length_map]; omega)
      have hgB : g' = bB := by injection hv with e1; injection e1 with e1; injection e1 with e1; exact e1.symm
      subst hgB
      have FC : ∀ j, j ≤ 1 → (stg xw.drew [xw.drew.alloc (.cells #[.bool (H.wr i)] 4), w4, w4.setCell ⟨g', H.it i, none⟩ v''] j).cell? ⟨g', H.it i, none⟩ = some cell' :=
        le1 (p := fun j => (stg xw.drew [xw.drew.alloc (.cells #[.bool (H.wr i)] 4), w4, w4.setCell ⟨g', H.it i, none⟩ v''] j).cell? ⟨g', H.it i, none⟩ = some cell') hca hcb
      refine draw mixed [10, 11, 13] [(0, 2), (0, 2), (0, 2), (0, 2), (0, 2), (0, 1), (0, 2), (0, 2), (0, 2), (0, 0), (0, 0), (1, 1), (2, 2), (2, 2)] [xw.drew.alloc (.cells #[.bool (H.wr i)] 4), w4, w4.setCell ⟨g', H.it i, none⟩ v''] (w4.setCell ⟨g', H.it i, none⟩ v'') (upd (upd (upd (upd (upd (upd (upd (upd (upd (upd (upd (upd (upd _ 110 _) 111 _) 112 _) 113 _) 114 _) 115 _) 116 _) 117 _) 118 _) 119 _) 120 _) 121 _) 122 _) (by kernel_rfl) (fun s hs => ovr_off [(110, _), (111, _), (112, _), (113, _), (114, _), (115, _), (116, _), (117, _), (118, _), (119, _), (120, _), (121, _), (122, _)] _ s hs) ⟨(qa rfl (fun _ => (do_move (tm rfl (nx rfl (nx rfl (nx rfl (nx rfl (nx rfl (nx rfl (nx rfl (nx rfl (nx rfl (nx rfl (nx rfl (nx rfl (nx rfl c49_20)))))))))))))))) (nx rfl (nx rfl (nx rfl (nx rfl (nx rfl (nx rfl (nx rfl (nx rfl (nx rfl (nx rfl (nx rfl (nx rfl hit))))))))))))), (qa rfl (fun _ => (do_move (tm rfl (nx rfl (nx rfl (nx rfl (nx rfl (nx rfl (nx rfl (nx rfl (nx rfl (nx rfl (nx rfl (nx rfl (nx rfl (nx rfl c49_23)))))))))))))))) (nx rfl (nx rfl (nx rfl (nx rfl (nx rfl (nx rfl (nx rfl (nx rfl (nx rfl (nx rfl (nx rfl hit)))))))))))), (qa rfl (fun _ => (do_move (tm rfl (nx rfl (nx rfl (nx rfl (nx rfl (nx rfl (nx rfl (nx rfl (nx rfl (nx rfl (nx rfl (nx rfl (nx rfl (nx rfl c49_20)))))))))))))))) (nx rfl (nx rfl (nx rfl (nx rfl (nx rfl (nx rfl (nx rfl (nx rfl (nx rfl (nx rfl hit))))))))))), (qa rfl (fun _ => (do_move (tm rfl (nx rfl (nx rfl (nx rfl (nx rfl (nx rfl (nx rfl (nx rfl (nx rfl (nx rfl (nx rfl (nx rfl (nx rfl (nx rfl c49_23)))))))))))))))) (nx rfl (nx rfl (nx rfl (nx rfl (nx rfl (nx rfl (nx rfl (nx rfl (nx rfl hit)))))))))), (qa rfl (fun _ => (ix54 (tm rfl (nx rfl (nx rfl (nx rfl (nx rfl (nx rfl (nx rfl (nx rfl (nx rfl (nx rfl (nx rfl hit))))))))))) (tm rfl (nx rfl (nx rfl (nx rfl (nx rfl (nx rfl (nx rfl (nx rfl (nx rfl (nx rfl hit)))))))))) (by omega))) (nx rfl (nx rfl (nx rfl (nx rfl (nx rfl (nx rfl (nx rfl (nx rfl hit))))))))), (qr rfl (fun j h1 h2 => (do_load T23 rfl (tm rfl (nx rfl (nx rfl (nx rfl (nx rfl (nx rfl (nx rfl (nx rfl (nx rfl hit))))))))) (FC j (by omega)))) (nx rfl (nx rfl (nx rfl (nx rfl (nx rfl (nx rfl (nx rfl hit)))))))), (qa rfl (fun _ => (do_move (tm rfl (nx rfl (nx rfl (nx rfl (nx rfl (nx rfl (nx rfl (nx rfl (nx rfl (nx rfl (nx rfl (nx rfl (nx rfl (nx rfl c49_2)))))))))))))))) (nx rfl (nx rfl (nx rfl (nx rfl (nx rfl (nx rfl hit))))))), (qa rfl (fun _ => (do_move (tm rfl (nx rfl (nx rfl (nx rfl (nx rfl (nx rfl (nx rfl (nx rfl (nx rfl (nx rfl (nx rfl (nx rfl (nx rfl (nx rfl c49_22)))))))))))))))) (nx rfl (nx rfl (nx rfl (nx rfl (nx rfl hit)))))), (qa rfl (fun _ => (io23 (tm rfl (nx rfl (nx rfl (nx rfl (nx rfl (nx rfl (nx rfl hit))))))) (tm rfl (nx rfl (nx rfl (nx rfl (nx rfl (nx rfl hit)))))) (by omega))) (nx rfl (nx rfl (nx rfl (nx rfl hit))))), (qk rfl (do_load T4 rfl (tm rfl (nx rfl (nx rfl (nx rfl (nx rfl hit))))) d2) (nx rfl (nx rfl (nx rfl hit)))), (ef rfl (do_bs1 T23 T4 rfl (tm rfl (nx rfl (nx rfl (nx rfl hit)))) rfl) (nx rfl (nx rfl hit))), (ef rfl (hapT _ _ _ _ _ _ _ _ (tm rfl (nx rfl (nx rfl (nx rfl (nx rfl (nx rfl (nx rfl (nx rfl hit)))))))) (tm rfl (nx rfl (nx rfl hit)))) (nx rfl hit)), (qa rfl (fun _ => (ix54 (tm rfl (nx rfl (nx rfl (nx rfl (nx rfl (nx rfl (nx rfl (nx rfl (nx rfl (nx rfl (nx rfl (nx rfl (nx rfl hit))))))))))))) (tm rfl (nx rfl (nx rfl (nx rfl (nx rfl (nx rfl (nx rfl (nx rfl (nx rfl (nx rfl (nx rfl (nx rfl hit)))))))))))) (by omega))) hit), (en rfl (hstT _ _ _ _ _ _ _ _ (tm rfl hit) (tm rfl (nx rfl hit)))), trivial⟩ rfl ?_
      intro τ50 e50
      have c50_0 := (congrFun e50 0).trans (nx rfl (nx rfl (nx rfl (nx rfl (nx rfl (nx rfl (nx rfl (nx rfl (nx rfl (nx rfl (nx rfl (nx rfl (nx rfl c49_0)))))))))))))
      have c50_1 := (congrFun e50 1).trans (nx rfl (nx rfl (nx rfl (nx rfl (nx rfl (nx rfl (nx rfl (nx rfl (nx rfl (nx rfl (nx rfl (nx rfl (nx rfl c49_1)))))))))))))
      have c50_2 := (congrFun e50 2).trans (nx rfl (nx rfl (nx rfl (nx rfl (nx rfl (nx rfl (nx rfl (nx rfl (nx rfl (nx rfl (nx rfl (nx rfl (nx rfl c49_2)))))))))))))
      have c50_3 := (congrFun e50 3).trans (nx rfl (nx rfl (nx rfl (nx rfl (nx rfl (nx rfl (nx rfl (nx rfl (nx rfl (nx rfl (nx rfl (nx rfl (nx rfl c49_3)))))))))))))
      have c50_4 := (congrFun e50 4).trans (nx rfl (nx rfl (nx rfl (nx rfl (nx rfl (nx rfl (nx rfl (nx rfl (nx rfl (nx rfl (nx rfl (nx rfl (nx rfl c49_4)))))))))))))
      have c50_12 := (congrFun e50 12).trans (nx rfl (nx rfl (nx rfl (nx rfl (nx rfl (nx rfl (nx rfl (nx rfl (nx rfl (nx rfl (nx rfl (nx rfl (nx rfl c49_12)))))))))))))
      have c50_14 := (congrFun e50 14).trans (nx rfl (nx rfl (nx rfl (nx rfl (nx rfl (nx rfl (nx rfl (nx rfl (nx rfl (nx rfl (nx rfl (nx rfl (nx rfl c49_14)))))))))))))
      have c50_19 := (congrFun e50 19).trans (nx rfl (nx rfl (nx rfl (nx rfl (nx rfl (nx rfl (nx rfl (nx rfl (nx rfl (nx rfl (nx rfl (nx rfl (nx rfl c49_19)))))))))))))
      have c50_20 := (congrFun e50 20).trans (nx rfl (nx rfl (nx rfl (nx rfl (nx rfl (nx rfl (nx rfl (nx rfl (nx rfl (nx rfl (nx rfl (nx rfl (nx rfl c49_20)))))))))))))
      have c50_22 := (congrFun e50 22).trans (nx rfl (nx rfl (nx rfl (nx rfl (nx rfl (nx rfl (nx rfl (nx rfl (nx rfl (nx rfl (nx rfl (nx rfl (nx rfl c49_22)))))))))))))
      have c50_23 := (congrFun e50 23).trans (nx rfl (nx rfl (nx rfl (nx rfl (nx rfl (nx rfl (nx rfl (nx rfl (nx rfl (nx rfl (nx rfl (nx rfl (nx rfl c49_23)))))))))))))
      have c50_90 := (congrFun e50 90).trans (nx rfl (nx rfl (nx rfl (nx rfl (nx rfl (nx rfl (nx rfl (nx rfl (nx rfl (nx rfl (nx rfl (nx rfl (nx rfl c49_90)))))))))))))
      have c50_91 := (congrFun e50 91).trans (nx rfl (nx rfl (nx rfl (nx rfl (nx rfl (nx rfl (nx rfl (nx rfl (nx rfl (nx rfl (nx rfl (nx rfl (nx rfl c49_91)))))))))))))
      have c50_92 := (congrFun e50 92).trans (nx rfl (nx rfl (nx rfl (nx rfl (nx rfl (nx rfl (nx rfl (nx rfl (nx rfl (nx rfl (nx rfl (nx rfl (nx rfl c49_92)))))))))))))
      clear e50
      refine inBN ?_
      refine hK45 _ _ ?_
      clear hK45
      refine reg ?_
      refine sq rfl (do_inc (tm rfl c50_92) ck (by omega)) ?_
      refine sq rfl (do_move (tm rfl hit)) ?_
      refine wnil ?_
      refine hnn (it.length - (i + 1)) _ _ (by omega) ⟨i + 1, J4, _, _, rfl, by omega, (nx rfl (nx rfl c50_0)), (nx rfl (nx rfl c50_1)), (nx rfl (nx rfl c50_2)), (nx rfl (nx rfl c50_3)), (nx rfl (nx rfl c50_4)), (nx rfl (nx rfl c50_12)), (nx rfl (nx rfl c50_14)), (nx rfl (nx rfl c50_19)), (nx rfl (nx rfl c50_20)), (nx rfl (nx rfl c50_90)), (nx rfl (nx rfl c50_91)), hit, g4, j4.vb (t := 2) (by decide) hI3, by rw [j4 4 (by decide)]; exact hTA3, hTB4, by simp [hra], by simp [hrb], ?_⟩
      intro x hx
      by_cases hxx : H.it i = x
      · subst hxx
        rw [List.getElem?_set_self hxa, List.getElem?_set_self hxb, hrow1, hrow2]
        simp [acc]
      · rw [List.getElem?_set_ne hxx, List.getElem?_set_ne hxx]
        simp only [acc, if_neg hxx]
        exact hacc x hx
    · refine wp_seq_k (fun K51 hK51 => ?_)
      refine cF rfl hit (by simpa using h) ?_
      refine wp_exit ?_
      refine thenE ?_
      obtain rfl : i = it.length := by omega
      refine hx _ _ ⟨G, ra, rb, (nx rfl t12), (nx rfl t14), (nx rfl t19), (nx rfl t20), hsG, hI, hTA, hTB, hra, hrb, fun x hx => ?_⟩
      rw [← hil]; exact hacc x hx
  clear t0 t1 t2 t3 t4 t12 t14 t19 t20 hsG hI hTA hTB
  rintro τ wi ⟨G, ra, rb, t12, t14, t19, t20, hsG, hI, hTA, hTB, hra, hrb, hacc⟩
  refine hK41 _ _ ?_
  clear hK41
  have hra' : ra = (List.range k).map fun x => (acc H x nd.length).map fun p => (p.1 : Int) := by
    apply List.ext_getElem?
    intro x
    rcases Nat.lt_or_ge x k with hx | hx
    · rw [(hacc x hx).1]; simp [hx]
    · rw [List.getElem?_eq_none (by omega), List.getElem?_eq_none (by simpa using hx)]
  have hrb' : rb = (List.range k).map fun x => (acc H x nd.length).map fun p => p.2 := by
    apply List.ext_getElem?
    intro x
    rcases Nat.lt_or_ge x k with hx | hx
    · rw [(hacc x hx).2]; simp [hx]
    · rw [List.getElem?_eq_none (by omega), List.getElem?_eq_none (by simpa using hx)]
  have hTR := TabV.tabR hTA hsG
  have hTBb := TabV.tabB hTB hsG
  rw [hra'] at hTR
  rw [hrb'] at hTBb
  have hnmx : ∃ nm : Nat → ByteArray, (∀ x, x < k → is[x]? = some (.string (nm x))) ∧ ∀ x y, x < k → y < k → nm x = nm y → x = y := by
    refine ⟨fun x => match is[x]? with | some (.string s) => s | _ => ByteArray.empty, fun x hx => ?_, fun x y hx hy he => ?_⟩
    · obtain ⟨s, h1, _⟩ := hIp x hx
      simp [h1]
    · obtain ⟨s, h1, h2⟩ := hIp x hx
      obtain ⟨s', h3, h4⟩ := hIp y hy
      simp only [h1, h3] at he
      have := app_inj _ _ _ he
      rw [← h2, ← h4, this]
  obtain ⟨nm, hnm1, hnm2⟩ := hnmx
  have hbel := hsG.below
  have hbase := hsG.base
  have hLo : ∀ y, y < k → Pl.Loc (loc (acc H y nd.length)) rk n := by
    intro y hy
    have := loc_of_ve hve (fun i hi => (Hnd i (by omega)).2) hinj hy
    rwa [Hm] at this
  have htot : tot (fun x => acc H x nd.length) k ≤ 65536 := by
    rw [tot_acc, sE_all (byItem H) k nd.length (fun j hj => (Hit j (by omega)).2)]
    exact l1
  refine wp_seq_k (fun K52 hK52 => ?_)
  refine reg ?_
  refine sq rfl (do_move (tm rfl t12)) ?_
  refine sq rfl (do_move (tm rfl (nx rfl t14))) ?_
  refine sq rfl (do_move (tm rfl (nx rfl (nx rfl t19)))) ?_
  refine sq rfl (do_move (tm rfl (nx rfl (nx rfl (nx rfl t20))))) ?_
  refine sqc (R := fun v w' => ∃ pb, v = .tuple #[.pointer (some ⟨pb, 0, none⟩), .bool true] ∧ Prob w w' pb n k (fun x => acc H x nd.length) rk) rfl
    (run_callF Try.func32 nm32 bd32 (map4 (tm rfl (nx rfl (nx rfl (nx rfl hit)))) (tm rfl (nx rfl (nx rfl hit))) (tm rfl (nx rfl hit)) (tm rfl hit)) rfl) ((zznew32 wi n k _ _ _ _ _ _ nm (fun x => acc H x nd.length) rk (fun x hx => ⟨bI, 0, rfl, by rw [Nat.zero_add]; exact hI.cell hsG (hnm1 x hx)⟩) hnm2 hTR hTBb hLo hinj hn (by omega) htot).mono ?_) ?_
  · rintro e w' ⟨pb, rfl, hb, N, wN, G', src, reads, writes, writers, initial, readers, next, succ, pin, rv, wv, wsv, rdv, nv, sv, ib, nb, hN, h2⟩
    exact ⟨_, rfl, pb, rfl, hbel.trans (hb.mono hbase), N, wN, G', src, reads, writes, writers, initial, readers, next, succ, pin, rv, wv, wsv, rdv, nv, sv, ib, nb, by omega, h2⟩
  rintro cv w3 ⟨pb, rfl, hpr⟩
  refine sq rfl (do_extract (tm rfl hit) rfl) ?_
  refine sq rfl (do_extract (tm rfl (nx rfl hit)) rfl) ?_
  refine sq rfl (do_assign (tm rfl (nx rfl hit))) ?_
  refine sq rfl (do_assign (tm rfl (nx rfl hit))) ?_
  refine cutL ?_
  intro τ53 e53
  have c53_10 := (congrFun e53 10).trans (nx rfl hit)
  have c53_11 := (congrFun e53 11).trans hit
  have c53_12 := (congrFun e53 12).trans (nx rfl (nx rfl (nx rfl (nx rfl (nx rfl (nx rfl (nx rfl (nx rfl (nx rfl t12)))))))))
  have c53_14 := (congrFun e53 14).trans (nx rfl (nx rfl (nx rfl (nx rfl (nx rfl (nx rfl (nx rfl (nx rfl (nx rfl t14)))))))))
  have c53_19 := (congrFun e53 19).trans (nx rfl (nx rfl (nx rfl (nx rfl (nx rfl (nx rfl (nx rfl (nx rfl (nx rfl t19)))))))))
  have c53_20 := (congrFun e53 20).trans (nx rfl (nx rfl (nx rfl (nx rfl (nx rfl (nx rfl (nx rfl (nx rfl (nx rfl t20)))))))))
  clear e53
  refine wnil ?_
  refine hK52 _ _ ?_
  clear hK52
  refine wp_ret ?_
  rw [← hQ]
  exact ret2 rfl rfl rfl c53_10 c53_11 ⟨pb, rfl, hpr⟩
end Go.Proofs.Qxb6001364a
