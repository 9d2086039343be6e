/-
  forceOrders.
-/
import Derived.Test.Qxb6001364aV8h
import Derived.Test.Qxb6001364aM2
namespace Go.Proofs.Qxb6001364a
open Go.Fra Go.RowKit Pl
set_option maxRecDepth 100000
set_option linter.unusedVariables false

theorem ints_flat (zs : List Int) : ints zs = zs.flatMap encI := (flat_I zs).symm
/-- The writers and items by source. -/
def WI (n : Nat) (itm : Nat → Nat) (wtr : Nat → Int) (wl il : List Int) : Prop := ∀ i, i < wl.length → wl[i]? = some (-1) ∨ ∃ a : Nat, a < n ∧ wl[i]? = some (a : Int) ∧ wtr i = (a : Int) ∧ il[i]? = some (itm i : Int)
def MW (n : Nat) (Wr : Nat → Nat → Prop) (l : List ((Int × Int) × Value)) : Prop := ∀ q ∈ l, q.2 = .bool true ∧ ∃ a x : Nat, q.1 = ((a : Int), (x : Int)) ∧ a < n ∧ Wr x a
def PE (n : Nat) (rk : Nat → Nat) (pend : List (Int × Int)) : Prop := ∀ p ∈ pend, ∃ a b : Nat, p = ((a : Int), (b : Int)) ∧ a < n ∧ b < n ∧ rk a < rk b

set_option maxHeartbeats 4000000 in
theorem force34 {N : Nat} {w0 w : World} {H : Nat → Part} (hs : Split N w0 w H) (pb n C : Nat) (rv wv wsv iv rdv nv sv pv : Value) (rk : Nat → Nat) (Wr : Nat → Nat → Prop) (itm : Nat → Nat) (wtr : Nat → Int) (reads : List (List Int)) (writes : List (List (Int × Int))) (readers succ : List (List Int))
    (hp : VB (H 1) pb 58 [rv, wv, wsv, iv, rdv, nv, sv, pv]) (hR : TabV (H 2) 22 3 1 encI rv reads) (hW : TabV (H 3) 61 63 2 encP wv writes) (hRd : TabV (H 6) 22 3 1 encI rdv readers) (hS : TabV (H 8) 22 3 1 encI sv succ)
    (F : PF n rk Wr itm wtr reads writes readers) (hn : n ≤ 65536) (l1 : sumLen reads ≤ 65536) (l2 : sumLen writes ≤ 65536) (l3 : sumLen readers ≤ 65536) (l4 : readers.length ≤ 65536) (l5 : sumLen succ ≤ C) (hC : C ≤ 10000000000) (hsl : succ.length = n) (hed : ∀ v (h : v < succ.length), ∀ u ∈ succ[v], Ed n rk v u) :
    Calls Try.prog 34 #[.pointer (some ⟨pb, 0, none⟩)] w fun e w' => ∃ v, e = .returned v ∧ ∃ H' succ', Split N w0 w' H' ∧ Same [8, 20, 21, 22, 23, 24, 25, 26, 27, 28] H H' ∧ TabV (H' 8) 22 3 1 encI sv succ' ∧ succ'.length = n ∧ (∀ v (h : v < succ'.length), ∀ u ∈ succ'[v], Ed n rk v u) ∧ sumLen succ' ≤ 9 * C + 8589934592 := by
  obtain ⟨ra, rc, rfl⟩ := hR.slice
  obtain ⟨wa, wc, rfl⟩ := hW.slice
  obtain ⟨da, dc, rfl⟩ := hRd.slice
  obtain ⟨sa, sc, rfl⟩ := hS.slice
  rw [F.rl] at hp hR
  rw [F.wl] at hp hW
  rw [hsl] at hp hS ⊢
  refine enter (args := [.pointer (some ⟨pb, 0, none⟩)]) Try.func34 rfl Try.ntmps34 rfl ?_
  generalize hQ : bodyPost Try.prog Try.f34 _ = Q
  have s0 : frame0 [Value.pointer (some ⟨pb, 0, none⟩)] 0 = .pointer (some ⟨pb, 0, none⟩) := rfl
  generalize frame0 [Value.pointer (some ⟨pb, 0, none⟩)] = σ at *
  have hRl := F.rl
  have hWl := F.wl
  generalize hM : readers.length = M at *
  refine wp_seq_k (fun K1 hK1 => ?_)
  refine reg ?_
  refine sq rfl (do_box (tm rfl s0)) ?_
  refine cutW ?_
  intro τ2 e2 xa hxa
  have c2_0 := (congrFun e2 0).trans (nx rfl s0)
  have c2_1 := (congrFun e2 1).trans hit
  clear e2
  refine wnil ?_
  refine hK1 _ _ ?_
  clear hK1
  obtain ⟨H1, k1, hs1, hpv⟩ := var0 hs 20 33 (.pointer (some ⟨pb, 0, none⟩))
  have hs1 : Split N w0 xa H1 := by rw [hxa]; exact hs1
  clear hxa
  generalize w.heap.size = bV at *
  have hp1 := k1.vb (t := 1) (by decide) hp
  refine wp_seq_k (fun K3 hK3 => ?_)
  refine reg ?_
  refine sq rfl (do_load T33 rfl (tm rfl c2_1) (hpv.cell hs1 (i := 0) rfl)) ?_
  refine sq rfl (do_nilCheck (tm rfl hit)) ?_
  refine sq rfl (fa58_4 (tm rfl hit)) ?_
  refine sq rfl (do_load T37 rfl (tm rfl hit) (hp1.cell hs1 (i := 4) rfl)) ?_
  refine sq rfl (do_len Try.underlying37 (tm rfl hit)) ?_
  refine sq rfl (mk22 (tm rfl hit) (tm rfl hit) (by omega)) ?_
  refine sq rfl (do_assign (tm rfl hit)) ?_
  refine cutW ?_
  intro τ4 e4 xb hxb
  have c4_0 := (congrFun e4 0).trans (nx rfl (nx rfl (nx rfl (nx rfl (nx rfl (nx rfl (nx rfl c2_0)))))))
  have c4_1 := (congrFun e4 1).trans (nx rfl (nx rfl (nx rfl (nx rfl (nx rfl (nx rfl (nx rfl c2_1)))))))
  have c4_2 := (congrFun e4 2).trans hit
  clear e4
  refine wnil ?_
  refine hK3 _ _ ?_
  clear hK3
  obtain ⟨H2, k2, hs2, hwl⟩ := blkN hs1 21 3 (madeCells #[.int .i64 0] M)
  have hs2 : Split N w0 xb H2 := by rw [hxb]; exact hs2
  rw [made_ints] at hwl
  clear hxb
  generalize xa.heap.size = bW at *
  have hp2 := k2.vb (t := 1) (by decide) hp1
  have hpv2 := k2.vb (t := 20) (by decide) hpv
  refine wp_seq_k (fun K5 hK5 => ?_)
  refine reg ?_
  refine sq rfl (do_load T33 rfl (tm rfl c4_1) (hpv2.cell hs2 (i := 0) rfl)) ?_
  refine sq rfl (do_nilCheck (tm rfl hit)) ?_
  refine sq rfl (fa58_4 (tm rfl hit)) ?_
  refine sq rfl (do_load T37 rfl (tm rfl hit) (hp2.cell hs2 (i := 4) rfl)) ?_
  refine sq rfl (do_len Try.underlying37 (tm rfl hit)) ?_
  refine sq rfl (mk22 (tm rfl hit) (tm rfl hit) (by omega)) ?_
  refine sq rfl (do_assign (tm rfl hit)) ?_
  refine cutW ?_
  intro τ6 e6 xc hxc
  have c6_0 := (congrFun e6 0).trans (nx rfl (nx rfl (nx rfl (nx rfl (nx rfl (nx rfl (nx rfl c4_0)))))))
  have c6_1 := (congrFun e6 1).trans (nx rfl (nx rfl (nx rfl (nx rfl (nx rfl (nx rfl (nx rfl c4_1)))))))
  have c6_2 := (congrFun e6 2).trans (nx rfl (nx rfl (nx rfl (nx rfl (nx rfl (nx rfl (nx rfl c4_2)))))))
  have c6_3 := (congrFun e6 3).trans hit
  clear e6
  refine wnil ?_
  refine hK5 _ _ ?_
  clear hK5
  obtain ⟨H3, k3, hs3, hil⟩ := blkN hs2 22 3 (madeCells #[.int .i64 0] M)
  have hs3 : Split N w0 xc H3 := by rw [hxc]; exact hs3
  rw [made_ints] at hil
  clear hxc
  generalize xb.heap.size = bI at *
  have hp3 := k3.vb (t := 1) (by decide) hp2
  have hpv3 := k3.vb (t := 20) (by decide) hpv2
  have hwl3 := k3.vb (t := 21) (by decide) hwl
  have kk3 : Same [8, 20, 21, 22, 23, 24, 25, 26, 27, 28] H H3 := (k1.mono (by decide)).trans ((k2.mono (by decide)).trans (k3.mono (by decide)))
  clear hs1 hs2 hpv hpv2 hp1 hp2 hwl
  refine wp_seq_k (fun K7 hK7 => ?_)
  refine wp_seq_k (fun K8 hK8 => ?_)
  refine reg ?_
  refine sq rfl (do_move (tm rfl c6_2)) ?_
  refine sq rfl (do_len Try.underlying22 (tm rfl hit)) ?_
  refine sq rfl (do_move (v := .int .i64 ((0 : Nat) : Int)) rfl) ?_
  refine wnil ?_
  refine hK8 _ _ ?_
  clear hK8
  refine forLoop (N := 248) (fun r τ wi => ∃ (i : Nat) (G : Nat → Part) (wl : List Int), r = M - i ∧ i ≤ M ∧ τ 1 = .pointer (some ⟨bV, 0, none⟩) ∧ τ 2 = .slice (some ⟨bW, 0, none⟩) M M ∧ τ 3 = .slice (some ⟨bI, 0, none⟩) M M ∧ τ 43 = .slice (some ⟨bW, 0, none⟩) M M ∧ τ 44 = .int .i64 (M : Int) ∧ τ 45 = .int .i64 (i : Int) ∧
      Split N w0 wi G ∧ Same [21] H3 G ∧ VB (G 21) bW 3 (ints wl) ∧ wl.length = M ∧ (∀ j, j < i → wl[j]? = some (-1)))
    (fun τ wi => ∃ (G : Nat → Part) (wl : List Int), τ 1 = .pointer (some ⟨bV, 0, none⟩) ∧ τ 2 = .slice (some ⟨bW, 0, none⟩) M M ∧ τ 3 = .slice (some ⟨bI, 0, none⟩) M M ∧
      Split N w0 wi G ∧ Same [21] H3 G ∧ VB (G 21) bW 3 (ints wl) ∧ wl.length = M ∧ (∀ j, j < M → wl[j]? = some (-1))) M ?_ ?_ ?_
  · exact ⟨0, H3, _, rfl, Nat.zero_le _, (nx rfl (nx rfl (nx rfl c6_1))), (nx rfl (nx rfl (nx rfl c6_2))), (nx rfl (nx rfl (nx rfl c6_3))), (nx rfl (nx rfl hit)), (nx rfl hit), hit, hs3, Same.refl _ _, hwl3, by simp, fun j hj => by omega⟩
  · clear s0
    rintro Q' r τ wi hnn hx hr ⟨i, G, wl, rfl, hi, t1, t2, t3, t43, t44, t45, hsG, kG, hwG, hwll, hwv⟩
    refine wp_seq_k (fun K9 hK9 => ?_)
    refine reg ?_
    refine sq rfl (do_lss (tm rfl t45) (tm rfl t44)) ?_
    refine wnil ?_
    refine hK9 _ _ ?_
    clear hK9
    by_cases h : i < M
    · refine wp_seq_k (fun K10 hK10 => ?_)
      refine cT rfl hit (by simpa using h) ?_
      refine wp_skip ?_
      refine hK10 _ _ ?_
      clear hK10
      refine wp_seq_k (fun K11 hK11 => ?_)
      refine wp_block ?_
      refine wp_seq_k (fun K12 hK12 => ?_)
      refine reg ?_
      refine sq rfl (do_move (tm rfl (nx rfl t45))) ?_
      refine sq rfl (do_assign (tm rfl hit)) ?_
      refine wnil ?_
      refine hK12 _ _ ?_
      clear hK12
      refine reg ?_
      refine sq rfl (do_move (tm rfl (nx rfl (nx rfl (nx rfl t2))))) ?_
      refine sq rfl (do_move (tm rfl (nx rfl hit))) ?_
      refine sq rfl (ix22 (tm rfl (nx rfl hit)) (tm rfl hit) (by omega)) ?_
      refine sqn (do_store T3 (tm rfl hit) ck rfl (hwG.cell hsG (ints_get wl i (by omega))) (hwG.frozen hsG _)) ?_
      refine cutW ?_
      intro τ13 e13 w2 hw2
      have c13_1 := (congrFun e13 1).trans (nx rfl (nx rfl (nx rfl (nx rfl (nx rfl (nx rfl t1))))))
      have c13_2 := (congrFun e13 2).trans (nx rfl (nx rfl (nx rfl (nx rfl (nx rfl (nx rfl t2))))))
      have c13_3 := (congrFun e13 3).trans (nx rfl (nx rfl (nx rfl (nx rfl (nx rfl (nx rfl t3))))))
      have c13_4 := (congrFun e13 4).trans (nx rfl (nx rfl (nx rfl hit)))
      have c13_43 := (congrFun e13 43).trans (nx rfl (nx rfl (nx rfl (nx rfl (nx rfl (nx rfl t43))))))
      have c13_44 := (congrFun e13 44).trans (nx rfl (nx rfl (nx rfl (nx rfl (nx rfl (nx rfl t44))))))
      have c13_45 := (congrFun e13 45).trans (nx rfl (nx rfl (nx rfl (nx rfl (nx rfl (nx rfl t45))))))
      clear e13
      refine wnil ?_
      refine inBN ?_
      refine hK11 _ _ ?_
      clear hK11
      obtain ⟨G', kG', hsG', hwG'⟩ := hwG.put hsG i (.int .i64 (-1))
      refine reg ?_
      refine sq rfl (do_inc (tm rfl c13_45) ck (by omega)) ?_
      refine sq rfl (do_move (tm rfl hit)) ?_
      refine wnil ?_
      refine hnn (M - (i + 1)) _ _ (by omega) ⟨i + 1, G', wl.set i (-1), rfl, by omega, (nx rfl (nx rfl c13_1)), (nx rfl (nx rfl c13_2)), (nx rfl (nx rfl c13_3)), (nx rfl (nx rfl c13_43)), (nx rfl (nx rfl c13_44)), hit, by rw [hw2]; exact hsG', kG.trans kG', by rw [← ints_set]; exact hwG', by simp [hwll], ?_⟩
      intro j hj
      by_cases hij : i = j
      · subst hij; exact List.getElem?_set_self (by omega)
      · rw [List.getElem?_set_ne hij]; exact hwv j (by omega)
    · refine wp_seq_k (fun K14 hK14 => ?_)
      refine cF rfl hit (by simpa using h) ?_
      refine wp_exit ?_
      refine thenE ?_
      exact hx _ _ ⟨G, wl, (nx rfl t1), (nx rfl t2), (nx rfl t3), hsG, kG, hwG, hwll, fun j hj => hwv j (by omega)⟩
  clear s0 hs3 hwl3
  rintro τ wi ⟨H4, wl, t1, t2, t3, hs4, k4, hwl4, hwll, hwv⟩
  refine hK7 _ _ ?_
  clear hK7
  have hp4 := k4.vb (t := 1) (by decide) hp3
  have hpv4 := k4.vb (t := 20) (by decide) hpv3
  have hil4 := k4.vb (t := 22) (by decide) hil
  refine wp_seq_k (fun K15 hK15 => ?_)
  refine reg ?_
  refine sq rfl do_makeMap ?_
  refine sq rfl (do_assign (tm rfl hit)) ?_
  refine cutW ?_
  intro τ16 e16 xa hxa
  have c16_1 := (congrFun e16 1).trans (nx rfl (nx rfl t1))
  have c16_2 := (congrFun e16 2).trans (nx rfl (nx rfl t2))
  have c16_3 := (congrFun e16 3).trans (nx rfl (nx rfl t3))
  have c16_5 := (congrFun e16 5).trans hit
  clear e16
  refine wnil ?_
  refine hK15 _ _ ?_
  clear hK15
  obtain ⟨H5, k5, hs5, hmw⟩ := mapN hs4 23 pk
  have hs5 : Split N w0 xa H5 := by rw [hxa]; exact hs5
  clear hxa
  generalize wi.heap.size = bM at *
  have hp5 := k5.vb (t := 1) (by decide) hp4
  have hpv5 := k5.vb (t := 20) (by decide) hpv4
  have hil5 := k5.vb (t := 22) (by decide) hil4
  have hwl5 := k5.vb (t := 21) (by decide) hwl4
  have kk5 : Same [8, 20, 21, 22, 23, 24, 25, 26, 27, 28] H H5 := kk3.trans ((k4.mono (by decide)).trans (k5.mono (by decide)))
  clear hp3 hp4 hpv3 hpv4 hil hil4 hwl4 hs4
  have hW5 : TabV (H5 3) 61 63 2 encP (.slice wa n wc) writes := by rw [kk5 3 (by decide)]; exact hW
  refine wp_seq_k (fun K17 hK17 => ?_)
  refine wp_seq_k (fun K18 hK18 => ?_)
  refine reg ?_
  refine sq rfl (do_load T33 rfl (tm rfl c16_1) (hpv5.cell hs5 (i := 0) rfl)) ?_
  refine sq rfl (do_nilCheck (tm rfl hit)) ?_
  refine sq rfl (fa58_1 (tm rfl hit)) ?_
  refine sq rfl (do_load T56 rfl (tm rfl hit) (hp5.cell hs5 (i := 1) rfl)) ?_
  refine sq rfl (do_len Try.underlying56 (tm rfl hit)) ?_
  refine sq rfl (do_move (v := .int .i64 ((0 : Nat) : Int)) rfl) ?_
  refine cutL ?_
  intro τ19 e19
  have c19_1 := (congrFun e19 1).trans (nx rfl (nx rfl (nx rfl (nx rfl (nx rfl (nx rfl c16_1))))))
  have c19_2 := (congrFun e19 2).trans (nx rfl (nx rfl (nx rfl (nx rfl (nx rfl (nx rfl c16_2))))))
  have c19_3 := (congrFun e19 3).trans (nx rfl (nx rfl (nx rfl (nx rfl (nx rfl (nx rfl c16_3))))))
  have c19_5 := (congrFun e19 5).trans (nx rfl (nx rfl (nx rfl (nx rfl (nx rfl (nx rfl c16_5))))))
  have c19_56 := (congrFun e19 56).trans (nx rfl (nx rfl hit))
  have c19_57 := (congrFun e19 57).trans (nx rfl hit)
  have c19_58 := (congrFun e19 58).trans hit
  clear e19
  refine wnil ?_
  refine hK18 _ _ ?_
  clear hK18
  refine forLoop (N := 248) (fun r τ wi => ∃ (v : Nat) (G : Nat → Part) (wl il : List Int) (l : List ((Int × Int) × Value)), r = n - v ∧ v ≤ n ∧ τ 1 = .pointer (some ⟨bV, 0, none⟩) ∧ τ 2 = .slice (some ⟨bW, 0, none⟩) M M ∧ τ 3 = .slice (some ⟨bI, 0, none⟩) M M ∧ τ 5 = .map (some bM) ∧ τ 56 = .slice wa n wc ∧ τ 57 = .int .i64 (n : Int) ∧ τ 58 = .int .i64 (v : Int) ∧
      Split N w0 wi G ∧ Same [21, 22, 23, 28] H5 G ∧ VB (G 21) bW 3 (ints wl) ∧ VB (G 22) bI 3 (ints il) ∧ wl.length = M ∧ il.length = M ∧ WI n itm wtr wl il ∧ MapV (G 23) bM pk l ∧ MW n Wr l ∧ l.length ≤ sumLen (writes.take v))
    (fun τ wi => ∃ (G : Nat → Part) (wl il : List Int) (l : List ((Int × Int) × Value)), τ 1 = .pointer (some ⟨bV, 0, none⟩) ∧ τ 2 = .slice (some ⟨bW, 0, none⟩) M M ∧ τ 3 = .slice (some ⟨bI, 0, none⟩) M M ∧ τ 5 = .map (some bM) ∧
      Split N w0 wi G ∧ Same [21, 22, 23, 28] H5 G ∧ VB (G 21) bW 3 (ints wl) ∧ VB (G 22) bI 3 (ints il) ∧ wl.length = M ∧ il.length = M ∧ WI n itm wtr wl il ∧ MapV (G 23) bM pk l ∧ MW n Wr l ∧ l.length ≤ 65536) n ?_ ?_ ?_
  · exact ⟨0, H5, wl, _, [], rfl, Nat.zero_le _, c19_1, c19_2, c19_3, c19_5, c19_56, c19_57, c19_58, hs5, Same.refl _ _, hwl5, hil5, hwll, by simp, fun i hi => .inl (hwv i (by omega)), hmw, fun q hq => (by cases hq), Nat.zero_le _⟩
  · clear t1 t2 t3 hwv hwll hwl5 hs5 hil5 hmw wl
    rintro Q' r τ wi hnn hx hr ⟨v, G, wl, il, l, rfl, hi, t1, t2, t3, t5, t56, t57, t58, hsG, kG, hwG, hiG, hwll, hill, hWI, hmG, hMW, hll⟩
    refine wp_seq_k (fun K20 hK20 => ?_)
    refine reg ?_
    refine sq rfl (do_lss (tm rfl t58) (tm rfl t57)) ?_
    refine wnil ?_
    refine hK20 _ _ ?_
    clear hK20
    by_cases h : v < n
    · refine wp_seq_k (fun K21 hK21 => ?_)
      refine cT rfl hit (by simpa using h) ?_
      refine wp_skip ?_
      refine hK21 _ _ ?_
      clear hK21
      have hWG : TabV (G 3) 61 63 2 encP (.slice wa n wc) writes := by rw [kG 3 (by decide)]; exact hW5
      obtain ⟨g, c, rfl, hc, _, hrow⟩ := hWG.getS hsG (i := v) (by omega)
      obtain ⟨ia, ic, rfl⟩ := hrow.slice
      rw [kG 3 (by decide)] at hrow
      have hrl := len_le_sum writes v (by omega)
      have hts := sumLen_take writes v (by omega)
      have htl := sumLen_take_le writes (v + 1)
      refine wp_seq_k (fun K22 hK22 => ?_)
      refine wp_block ?_
      refine wp_seq_k (fun K23 hK23 => ?_)
      refine reg ?_
      refine sq rfl (do_move (tm rfl (nx rfl t58))) ?_
      refine sq rfl (ix56 (tm rfl (nx rfl (nx rfl t56))) (tm rfl (nx rfl (nx rfl t58))) (by omega)) ?_
      refine sq rfl (do_load T61 rfl (tm rfl hit) hc) ?_
      refine sq rfl (do_assign (tm rfl (nx rfl (nx rfl hit)))) ?_
      refine sq rfl (do_assign (tm rfl (nx rfl hit))) ?_
      refine cutL ?_
      intro τ24 e24
      have c24_1 := (congrFun e24 1).trans (nx rfl (nx rfl (nx rfl (nx rfl (nx rfl (nx rfl t1))))))
      have c24_2 := (congrFun e24 2).trans (nx rfl (nx rfl (nx rfl (nx rfl (nx rfl (nx rfl t2))))))
      have c24_3 := (congrFun e24 3).trans (nx rfl (nx rfl (nx rfl (nx rfl (nx rfl (nx rfl t3))))))
      have c24_5 := (congrFun e24 5).trans (nx rfl (nx rfl (nx rfl (nx rfl (nx rfl (nx rfl t5))))))
      have c24_6 := (congrFun e24 6).trans (nx rfl hit)
      have c24_7 := (congrFun e24 7).trans hit
      have c24_56 := (congrFun e24 56).trans (nx rfl (nx rfl (nx rfl (nx rfl (nx rfl (nx rfl t56))))))
      have c24_57 := (congrFun e24 57).trans (nx rfl (nx rfl (nx rfl (nx rfl (nx rfl (nx rfl t57))))))
      have c24_58 := (congrFun e24 58).trans (nx rfl (nx rfl (nx rfl (nx rfl (nx rfl (nx rfl t58))))))
      clear e24
      refine wnil ?_
      refine hK23 _ _ ?_
      clear hK23
      refine wp_seq_k (fun K25 hK25 => ?_)
      refine reg ?_
      refine sq rfl (do_move (tm rfl c24_7)) ?_
      refine sq rfl (do_len Try.underlying61 (tm rfl hit)) ?_
      refine sq rfl (do_move (v := .int .i64 ((0 : Nat) : Int)) rfl) ?_
      refine wnil ?_
      refine hK25 _ _ ?_
      clear hK25
      refine forLoop (N := 248) (fun r τ wi => ∃ (j : Nat) (G : Nat → Part) (wl il : List Int) (l : List ((Int × Int) × Value)), r = writes[v].length - j ∧ j ≤ writes[v].length ∧ τ 1 = .pointer (some ⟨bV, 0, none⟩) ∧ τ 2 = .slice (some ⟨bW, 0, none⟩) M M ∧ τ 3 = .slice (some ⟨bI, 0, none⟩) M M ∧ τ 5 = .map (some bM) ∧ τ 56 = .slice (some ⟨g, 0, none⟩) n wc ∧ τ 57 = .int .i64 (n : Int) ∧ τ 58 = .int .i64 (v : Int) ∧ τ 6 = .int .i64 (v : Int) ∧
          τ 63 = .slice ia writes[v].length ic ∧ τ 64 = .int .i64 (writes[v].length : Int) ∧ τ 65 = .int .i64 (j : Int) ∧
          Split N w0 wi G ∧ Same [21, 22, 23, 28] H5 G ∧ VB (G 21) bW 3 (ints wl) ∧ VB (G 22) bI 3 (ints il) ∧ wl.length = M ∧ il.length = M ∧ WI n itm wtr wl il ∧ MapV (G 23) bM pk l ∧ MW n Wr l ∧ l.length ≤ sumLen (writes.take v) + j)
        (fun τ wi => ∃ (G : Nat → Part) (wl il : List Int) (l : List ((Int × Int) × Value)), τ 1 = .pointer (some ⟨bV, 0, none⟩) ∧ τ 2 = .slice (some ⟨bW, 0, none⟩) M M ∧ τ 3 = .slice (some ⟨bI, 0, none⟩) M M ∧ τ 5 = .map (some bM) ∧ τ 56 = .slice (some ⟨g, 0, none⟩) n wc ∧ τ 57 = .int .i64 (n : Int) ∧ τ 58 = .int .i64 (v : Int) ∧
          Split N w0 wi G ∧ Same [21, 22, 23, 28] H5 G ∧ VB (G 21) bW 3 (ints wl) ∧ VB (G 22) bI 3 (ints il) ∧ wl.length = M ∧ il.length = M ∧ WI n itm wtr wl il ∧ MapV (G 23) bM pk l ∧ MW n Wr l ∧ l.length ≤ sumLen (writes.take v) + writes[v].length) writes[v].length ?_ ?_ ?_
      · exact ⟨0, G, wl, il, l, rfl, Nat.zero_le _, (nx rfl (nx rfl (nx rfl c24_1))), (nx rfl (nx rfl (nx rfl c24_2))), (nx rfl (nx rfl (nx rfl c24_3))), (nx rfl (nx rfl (nx rfl c24_5))), (nx rfl (nx rfl (nx rfl c24_56))), (nx rfl (nx rfl (nx rfl c24_57))), (nx rfl (nx rfl (nx rfl c24_58))), (nx rfl (nx rfl (nx rfl c24_6))), (nx rfl (nx rfl hit)), (nx rfl hit), hit, hsG, kG, hwG, hiG, hwll, hill, hWI, hmG, hMW, hll⟩
      · clear t1 t2 t3 t5 t56 t57 t58 hsG kG hwG hiG hwll hill hWI hmG hMW hll hWG hc
        rintro Q'' r τ wi hnn' hx' hr' ⟨j, G, wl, il, l, rfl, hj, t1, t2, t3, t5, t56, t57, t58, t6, t63, t64, t65, hsG, kG, hwG, hiG, hwll, hill, hWI, hmG, hMW, hll⟩
        refine wp_seq_k (fun K26 hK26 => ?_)
        refine reg ?_
        refine sq rfl (do_lss (tm rfl t65) (tm rfl t64)) ?_
        refine wnil ?_
        refine hK26 _ _ ?_
        clear hK26
        by_cases h' : j < writes[v].length
        · refine wp_seq_k (fun K27 hK27 => ?_)
          refine cT rfl hit (by simpa using h') ?_
          refine wp_skip ?_
          refine hK27 _ _ ?_
          clear hK27
          have hrG : RowV (G 3) 63 2 (.slice ia writes[v].length ic) writes[v].length (writes[v].flatMap encP) := by rw [kG 3 (by decide)]; exact hrow
          obtain ⟨e1, e2⟩ := flatP_get writes[v] j h'
          obtain ⟨g1, rfl, f1, _⟩ := hrG.cellS hsG e1
          obtain ⟨g2, hg2, f2, _⟩ := hrG.cellS hsG e2
          cases hg2
          obtain ⟨x, hx1, hWx, hsrc⟩ := F.wr v (by omega) writes[v][j] (List.getElem_mem _)
          generalize writes[v][j].1 = p1 at *
          generalize writes[v][j].2 = p2 at *
          subst hx1
          refine wp_seq_k (fun K28 hK28 => ?_)
          refine wp_block ?_
          refine wp_seq_k (fun K29 hK29 => ?_)
          refine reg ?_
          refine sq rfl (ix61 (tm rfl (nx rfl t63)) (tm rfl (nx rfl t65)) (by omega)) ?_
          refine sq rfl (do_load2 T63 fl63 (tm rfl hit) f1 f2) ?_
          refine sq rfl (do_alloc T63) ?_
          refine sqn (do_store2 T63 (tm rfl hit) (tm rfl (nx rfl hit)) rfl rfl (new_cell wi _ _ 0 rfl) (new_cell wi _ _ 1 rfl) (new_frozen wi _ _ 0) (new_frozen wi _ _ 1)) ?_
          refine cutW ?_
          intro τ30 e30 xa hxa
          have c30_1 := (congrFun e30 1).trans (nx rfl (nx rfl (nx rfl (nx rfl t1))))
          have c30_2 := (congrFun e30 2).trans (nx rfl (nx rfl (nx rfl (nx rfl t2))))
          have c30_3 := (congrFun e30 3).trans (nx rfl (nx rfl (nx rfl (nx rfl t3))))
          have c30_5 := (congrFun e30 5).trans (nx rfl (nx rfl (nx rfl (nx rfl t5))))
          have c30_6 := (congrFun e30 6).trans (nx rfl (nx rfl (nx rfl (nx rfl t6))))
          have c30_9 := (congrFun e30 9).trans hit
          have c30_56 := (congrFun e30 56).trans (nx rfl (nx rfl (nx rfl (nx rfl t56))))
          have c30_57 := (congrFun e30 57).trans (nx rfl (nx rfl (nx rfl (nx rfl t57))))
          have c30_58 := (congrFun e30 58).trans (nx rfl (nx rfl (nx rfl (nx rfl t58))))
          have c30_63 := (congrFun e30 63).trans (nx rfl (nx rfl (nx rfl (nx rfl t63))))
          have c30_64 := (congrFun e30 64).trans (nx rfl (nx rfl (nx rfl (nx rfl t64))))
          have c30_65 := (congrFun e30 65).trans (nx rfl (nx rfl (nx rfl (nx rfl t65))))
          clear e30
          refine wnil ?_
          refine hK29 _ _ ?_
          clear hK29
          obtain ⟨G1, kG1, hraw, hE⟩ := var2 hsG 28 63 (.int .i64 0) (.int .i64 0) (.int .i64 (x : Int)) (.int .i64 p2)
          have hsG1 : Split N w0 xa G1 := by rw [hxa]; exact hraw
          clear hxa hraw
          generalize wi.heap.size = bL at *
          have hmG1 : MapV (G1 23) bM pk l := by rw [kG1 23 (by decide)]; exact hmG
          obtain ⟨xb, V23, hm2, hs2, hput⟩ := hmG1.put key60 Try.underlying84 hsG1 ((v : Int), (x : Int)) (.bool true)
          refine wp_seq_k (fun K31 hK31 => ?_)
          refine reg ?_
          refine sq rfl (do_move (tm rfl c30_5)) ?_
          refine sq rfl (do_move (tm rfl (nx rfl c30_6))) ?_
          refine sq rfl (fa63_0 (tm rfl (nx rfl (nx rfl c30_9)))) ?_
          refine sq rfl (do_load T3 rfl (tm rfl hit) (hE.cell hsG1 (i := 0) rfl)) ?_
          refine sq rfl (do_build60 (tm rfl (nx rfl (nx rfl hit))) (tm rfl hit)) ?_
          refine sqn (hput _ _ _ _ _ _ _ _ _ (tm rfl (nx rfl (nx rfl (nx rfl (nx rfl hit))))) (tm rfl hit) rfl) ?_
          refine cutL ?_
          intro τ32 e32
          have c32_1 := (congrFun e32 1).trans (nx rfl (nx rfl (nx rfl (nx rfl (nx rfl c30_1)))))
          have c32_2 := (congrFun e32 2).trans (nx rfl (nx rfl (nx rfl (nx rfl (nx rfl c30_2)))))
          have c32_3 := (congrFun e32 3).trans (nx rfl (nx rfl (nx rfl (nx rfl (nx rfl c30_3)))))
          have c32_5 := (congrFun e32 5).trans (nx rfl (nx rfl (nx rfl (nx rfl (nx rfl c30_5)))))
          have c32_6 := (congrFun e32 6).trans (nx rfl (nx rfl (nx rfl (nx rfl (nx rfl c30_6)))))
          have c32_9 := (congrFun e32 9).trans (nx rfl (nx rfl (nx rfl (nx rfl (nx rfl c30_9)))))
          have c32_56 := (congrFun e32 56).trans (nx rfl (nx rfl (nx rfl (nx rfl (nx rfl c30_56)))))
          have c32_57 := (congrFun e32 57).trans (nx rfl (nx rfl (nx rfl (nx rfl (nx rfl c30_57)))))
          have c32_58 := (congrFun e32 58).trans (nx rfl (nx rfl (nx rfl (nx rfl (nx rfl c30_58)))))
          have c32_63 := (congrFun e32 63).trans (nx rfl (nx rfl (nx rfl (nx rfl (nx rfl c30_63)))))
          have c32_64 := (congrFun e32 64).trans (nx rfl (nx rfl (nx rfl (nx rfl (nx rfl c30_64)))))
          have c32_65 := (congrFun e32 65).trans (nx rfl (nx rfl (nx rfl (nx rfl (nx rfl c30_65)))))
          clear e32
          refine wnil ?_
          refine hK31 _ _ ?_
          clear hK31
          have hE2 : VB (updH G1 23 V23 28) bL 63 [.int .i64 (x : Int), .int .i64 p2] := hE
          have hw2 : VB (updH G1 23 V23 21) bW 3 (ints wl) := kG1.vb (t := 21) (by decide) hwG
          have hi2 : VB (updH G1 23 V23 22) bI 3 (ints il) := kG1.vb (t := 22) (by decide) hiG
          have kG2 : Same [21, 22, 23, 28] H5 (updH G1 23 V23) := kG.trans ((kG1.mono (by decide)).trans (Same.upd (by decide)))
          have hm2' : MapV (updH G1 23 V23 23) bM pk (putL (fun a b => a == b) ((v : Int), (x : Int)) (.bool true) l) := hm2
          have hMW2 : MW n Wr (putL (fun a b => a == b) ((v : Int), (x : Int)) (.bool true) l) := by
            intro q hq
            unfold putL at hq
            split at hq
            · rcases List.mem_or_eq_of_mem_set hq with h1 | h1
              · exact hMW q h1
              · rw [h1]; exact ⟨rfl, v, x, rfl, h, hWx⟩
            · rcases List.mem_append.1 hq with h1 | h1
              · exact hMW q h1
              · have : q = (((v : Int), (x : Int)), .bool true) := by simpa using h1
                rw [this]; exact ⟨rfl, v, x, rfl, h, hWx⟩
          have hl2 := putL_length (same := fun a b => a == b) ((v : Int), (x : Int)) (.bool true) l
          clear hm2
          generalize updH G1 23 V23 = G2 at *
          generalize putL (fun a b => a == b) ((v : Int), (x : Int)) (Value.bool true) l = l' at *
          clear hsG kG hwG hiG hmG hMW hsG1 kG1 hE hmG1 hrG f1 f2
          refine wp_seq_k (fun K33 hK33 => ?_)
          refine reg ?_
          refine sq rfl (fa63_1 (tm rfl c32_9)) ?_
          refine sq rfl (do_load T3 rfl (tm rfl hit) (hE2.cell hs2 (i := 1) rfl)) ?_
          refine sq rfl (do_geq (tm rfl hit) ck) ?_
          refine wnil ?_
          refine hK33 _ _ ?_
          clear hK33
          by_cases hp2 : p2 < 0
          · refine cF rfl hit (by simpa using hp2) ?_
            refine wp_skip ?_
            refine inBN ?_
            refine hK28 _ _ ?_
            clear hK28
            refine reg ?_
            refine sq rfl (do_inc (tm rfl (nx rfl (nx rfl (nx rfl c32_65)))) ck (by omega)) ?_
            refine sq rfl (do_move (tm rfl hit)) ?_
            refine cutL ?_
            intro τ34 e34
            have c34_1 := (congrFun e34 1).trans (nx rfl (nx rfl (nx rfl (nx rfl (nx rfl c32_1)))))
            have c34_2 := (congrFun e34 2).trans (nx rfl (nx rfl (nx rfl (nx rfl (nx rfl c32_2)))))
            have c34_3 := (congrFun e34 3).trans (nx rfl (nx rfl (nx rfl (nx rfl (nx rfl c32_3)))))
            have c34_5 := (congrFun e34 5).trans (nx rfl (nx rfl (nx rfl (nx rfl (nx rfl c32_5)))))
            have c34_6 := (congrFun e34 6).trans (nx rfl (nx rfl (nx rfl (nx rfl (nx rfl c32_6)))))
            have c34_9 := (congrFun e34 9).trans (nx rfl (nx rfl (nx rfl (nx rfl (nx rfl c32_9)))))
            have c34_56 := (congrFun e34 56).trans (nx rfl (nx rfl (nx rfl (nx rfl (nx rfl c32_56)))))
            have c34_57 := (congrFun e34 57).trans (nx rfl (nx rfl (nx rfl (nx rfl (nx rfl c32_57)))))
            have c34_58 := (congrFun e34 58).trans (nx rfl (nx rfl (nx rfl (nx rfl (nx rfl c32_58)))))
            have c34_63 := (congrFun e34 63).trans (nx rfl (nx rfl (nx rfl (nx rfl (nx rfl c32_63)))))
            have c34_64 := (congrFun e34 64).trans (nx rfl (nx rfl (nx rfl (nx rfl (nx rfl c32_64)))))
            have c34_65 := (congrFun e34 65).trans hit
            clear e34
            refine wnil ?_
            exact hnn' (writes[v].length - (j + 1)) _ _ (by omega) ⟨j + 1, G2, wl, il, l', rfl, by omega, c34_1, c34_2, c34_3, c34_5, c34_56, c34_57, c34_58, c34_6, c34_63, c34_64, c34_65, hs2, kG2, hw2, hi2, hwll, hill, hWI, hm2', hMW2, by omega⟩
          · refine cT rfl hit (by simp; omega) ?_
            obtain ⟨i, rfl, hiM, hitm, hwtr⟩ : ∃ i : Nat, p2 = (i : Int) ∧ i < M ∧ itm i = x ∧ wtr i = (v : Int) := by
              rcases hsrc with h1 | ⟨i, h1, h2, h3, h4⟩
              · exact absurd h1 hp2
              · exact ⟨i, h1, by omega, h3, h4⟩
            obtain ⟨G3, kG3, hs3, hw3⟩ := hw2.put hs2.drew i (.int .i64 (v : Int))
            have hE3 := kG3.vb (t := 28) (by decide) hE2
            have hi3 := kG3.vb (t := 22) (by decide) hi2
            obtain ⟨G4, kG4, hs4, hi4⟩ := hi3.put hs3 i (.int .i64 (x : Int))
            have hw4 := kG4.vb (t := 21) (by decide) hw3
            have L1 : ∀ j, j ≤ 1 → (stg xb.drew [xb.drew.setCell ⟨bW, i, none⟩ (.int .i64 (v : Int)), (xb.drew.setCell ⟨bW, i, none⟩ (.int .i64 (v : Int))).setCell ⟨bI, i, none⟩ (.int .i64 (x : Int))] j).cell? ⟨bL, 1, none⟩ = some (.int .i64 (i : Int)) :=
              le1 (p := fun j => (stg xb.drew [xb.drew.setCell ⟨bW, i, none⟩ (.int .i64 (v : Int)), (xb.drew.setCell ⟨bW, i, none⟩ (.int .i64 (v : Int))).setCell ⟨bI, i, none⟩ (.int .i64 (x : Int))] j).cell? ⟨bL, 1, none⟩ = some (.int .i64 (i : Int))) (hE2.cell hs2.drew (i := 1) rfl) (hE3.cell hs3 (i := 1) rfl)
            have L0 : ∀ j, j ≤ 1 → (stg xb.drew [xb.drew.setCell ⟨bW, i, none⟩ (.int .i64 (v : Int)), (xb.drew.setCell ⟨bW, i, none⟩ (.int .i64 (v : Int))).setCell ⟨bI, i, none⟩ (.int .i64 (x : Int))] j).cell? ⟨bL, 0, none⟩ = some (.int .i64 (x : Int)) :=
              le1 (p := fun j => (stg xb.drew [xb.drew.setCell ⟨bW, i, none⟩ (.int .i64 (v : Int)), (xb.drew.setCell ⟨bW, i, none⟩ (.int .i64 (v : Int))).setCell ⟨bI, i, none⟩ (.int .i64 (x : Int))] j).cell? ⟨bL, 0, none⟩ = some (.int .i64 (x : Int))) (hE2.cell hs2.drew (i := 0) rfl) (hE3.cell hs3 (i := 0) rfl)
            refine draw mixed [10, 12] [(0, 0), (0, 0), (0, 0), (0, 1), (0, 1), (0, 1), (0, 0), (0, 1), (0, 1), (0, 0), (0, 0), (1, 1), (1, 1)] [xb.drew.setCell ⟨bW, i, none⟩ (.int .i64 (v : Int)), (xb.drew.setCell ⟨bW, i, none⟩ (.int .i64 (v : Int))).setCell ⟨bI, i, none⟩ (.int .i64 (x : Int))] ((xb.drew.setCell ⟨bW, i, none⟩ (.int .i64 (v : Int))).setCell ⟨bI, i, none⟩ (.int .i64 (x : Int))) (upd (upd (upd (upd (upd (upd (upd (upd (upd (upd (upd _ 77 _) 78 _) 79 _) 80 _) 81 _) 82 _) 83 _) 84 _) 85 _) 86 _) 87 _) (by kernel_rfl) (fun s hs => ovr_off [(77, _), (78, _), (79, _), (80, _), (81, _), (82, _), (83, _), (84, _), (85, _), (86, _), (87, _)] _ s hs) ⟨(qa rfl (fun _ => (do_move (tm rfl (nx rfl (nx rfl (nx rfl (nx rfl (nx rfl (nx rfl (nx rfl (nx rfl (nx rfl (nx rfl (nx rfl (nx rfl (nx rfl (nx rfl c32_2))))))))))))))))) (nx rfl (nx rfl (nx rfl (nx rfl (nx rfl (nx rfl (nx rfl (nx rfl (nx rfl (nx rfl hit))))))))))), (qa rfl (fun _ => (fa63_1 (tm rfl (nx rfl (nx rfl (nx rfl (nx rfl (nx rfl (nx rfl (nx rfl (nx rfl (nx rfl (nx rfl (nx rfl (nx rfl (nx rfl (nx rfl c32_9))))))))))))))))) (nx rfl (nx rfl (nx rfl (nx rfl (nx rfl (nx rfl (nx rfl (nx rfl (nx rfl hit)))))))))), (qk rfl (do_load T3 rfl (tm rfl (nx rfl (nx rfl (nx rfl (nx rfl (nx rfl (nx rfl (nx rfl (nx rfl (nx rfl hit)))))))))) (L1 0 (by omega))) (nx rfl (nx rfl (nx rfl (nx rfl (nx rfl (nx rfl (nx rfl (nx rfl hit))))))))), (qa rfl (fun _ => (do_move (tm rfl (nx rfl (nx rfl (nx rfl (nx rfl (nx rfl (nx rfl (nx rfl (nx rfl (nx rfl (nx rfl (nx rfl (nx rfl (nx rfl (nx rfl c32_3))))))))))))))))) (nx rfl (nx rfl (nx rfl (nx rfl (nx rfl (nx rfl (nx rfl hit)))))))), (qa rfl (fun _ => (fa63_1 (tm rfl (nx rfl (nx rfl (nx rfl (nx rfl (nx rfl (nx rfl (nx rfl (nx rfl (nx rfl (nx rfl (nx rfl (nx rfl (nx rfl (nx rfl c32_9))))))))))))))))) (nx rfl (nx rfl (nx rfl (nx rfl (nx rfl (nx rfl hit))))))), (qr rfl (fun j h1 h2 => (do_load T3 rfl (tm rfl (nx rfl (nx rfl (nx rfl (nx rfl (nx rfl (nx rfl hit))))))) (L1 j (by omega)))) (nx rfl (nx rfl (nx rfl (nx rfl (nx rfl hit)))))), (qa rfl (fun _ => (do_move (tm rfl (nx rfl (nx rfl (nx rfl (nx rfl (nx rfl (nx rfl (nx rfl (nx rfl (nx rfl (nx rfl (nx rfl (nx rfl (nx rfl (nx rfl c32_6))))))))))))))))) (nx rfl (nx rfl (nx rfl (nx rfl hit))))), (qa rfl (fun _ => (fa63_0 (tm rfl (nx rfl (nx rfl (nx rfl (nx rfl (nx rfl (nx rfl (nx rfl (nx rfl (nx rfl (nx rfl (nx rfl (nx rfl (nx rfl (nx rfl c32_9))))))))))))))))) (nx rfl (nx rfl (nx rfl hit)))), (qr rfl (fun j h1 h2 => (do_load T3 rfl (tm rfl (nx rfl (nx rfl (nx rfl hit)))) (L0 j (by omega)))) (nx rfl (nx rfl hit))), (qa rfl (fun _ => (ix22 (tm rfl (nx rfl (nx rfl (nx rfl (nx rfl (nx rfl (nx rfl (nx rfl (nx rfl (nx rfl (nx rfl hit))))))))))) (tm rfl (nx rfl (nx rfl (nx rfl (nx rfl (nx rfl (nx rfl (nx rfl (nx rfl hit))))))))) (by omega))) (nx rfl hit)), (en rfl (do_store T3 (tm rfl (nx rfl hit)) (tm rfl (nx rfl (nx rfl (nx rfl (nx rfl hit))))) rfl (hw2.cell hs2.drew (ints_get wl i (by omega))) (hw2.frozen hs2.drew _))), (qa rfl (fun _ => (ix22 (tm rfl (nx rfl (nx rfl (nx rfl (nx rfl (nx rfl (nx rfl (nx rfl hit)))))))) (tm rfl (nx rfl (nx rfl (nx rfl (nx rfl (nx rfl hit)))))) (by omega))) hit), (en rfl (do_store T3 (tm rfl hit) (tm rfl (nx rfl (nx rfl hit))) rfl (hi3.cell hs3 (ints_get il i (by omega))) (hi3.frozen hs3 _))), trivial⟩ rfl ?_
            intro τ35 e35
            have c35_1 := (congrFun e35 1).trans (nx rfl (nx rfl (nx rfl (nx rfl (nx rfl (nx rfl (nx rfl (nx rfl (nx rfl (nx rfl (nx rfl (nx rfl (nx rfl (nx rfl c32_1))))))))))))))
            have c35_2 := (congrFun e35 2).trans (nx rfl (nx rfl (nx rfl (nx rfl (nx rfl (nx rfl (nx rfl (nx rfl (nx rfl (nx rfl (nx rfl (nx rfl (nx rfl (nx rfl c32_2))))))))))))))
            have c35_3 := (congrFun e35 3).trans (nx rfl (nx rfl (nx rfl (nx rfl (nx rfl (nx rfl (nx rfl (nx rfl (nx rfl (nx rfl (nx rfl (nx rfl (nx rfl (nx rfl c32_3))))))))))))))
            have c35_5 := (congrFun e35 5).trans (nx rfl (nx rfl (nx rfl (nx rfl (nx rfl (nx rfl (nx rfl (nx rfl (nx rfl (nx rfl (nx rfl (nx rfl (nx rfl (nx rfl c32_5))))))))))))))
            have c35_6 := (congrFun e35 6).trans (nx rfl (nx rfl (nx rfl (nx rfl (nx rfl (nx rfl (nx rfl (nx rfl (nx rfl (nx rfl (nx rfl (nx rfl (nx rfl (nx rfl c32_6))))))))))))))
            have c35_9 := (congrFun e35 9).trans (nx rfl (nx rfl (nx rfl (nx rfl (nx rfl (nx rfl (nx rfl (nx rfl (nx rfl (nx rfl (nx rfl (nx rfl (nx rfl (nx rfl c32_9))))))))))))))
            have c35_56 := (congrFun e35 56).trans (nx rfl (nx rfl (nx rfl (nx rfl (nx rfl (nx rfl (nx rfl (nx rfl (nx rfl (nx rfl (nx rfl (nx rfl (nx rfl (nx rfl c32_56))))))))))))))
            have c35_57 := (congrFun e35 57).trans (nx rfl (nx rfl (nx rfl (nx rfl (nx rfl (nx rfl (nx rfl (nx rfl (nx rfl (nx rfl (nx rfl (nx rfl (nx rfl (nx rfl c32_57))))))))))))))
            have c35_58 := (congrFun e35 58).trans (nx rfl (nx rfl (nx rfl (nx rfl (nx rfl (nx rfl (nx rfl (nx rfl (nx rfl (nx rfl (nx rfl (nx rfl (nx rfl (nx rfl c32_58))))))))))))))
            have c35_63 := (congrFun e35 63).trans (nx rfl (nx rfl (nx rfl (nx rfl (nx rfl (nx rfl (nx rfl (nx rfl (nx rfl (nx rfl (nx rfl (nx rfl (nx rfl (nx rfl c32_63))))))))))))))
            have c35_64 := (congrFun e35 64).trans (nx rfl (nx rfl (nx rfl (nx rfl (nx rfl (nx rfl (nx rfl (nx rfl (nx rfl (nx rfl (nx rfl (nx rfl (nx rfl (nx rfl c32_64))))))))))))))
            have c35_65 := (congrFun e35 65).trans (nx rfl (nx rfl (nx rfl (nx rfl (nx rfl (nx rfl (nx rfl (nx rfl (nx rfl (nx rfl (nx rfl (nx rfl (nx rfl (nx rfl c32_65))))))))))))))
            clear e35
            refine inBN ?_
            refine hK28 _ _ ?_
            clear hK28
            refine reg ?_
            refine sq rfl (do_inc (tm rfl c35_65) ck (by omega)) ?_
            refine sq rfl (do_move (tm rfl hit)) ?_
            refine wnil ?_
            refine hnn' (writes[v].length - (j + 1)) _ _ (by omega) ⟨j + 1, G4, wl.set i (v : Int), il.set i (x : Int), l', rfl, by omega, (nx rfl (nx rfl c35_1)), (nx rfl (nx rfl c35_2)), (nx rfl (nx rfl c35_3)), (nx rfl (nx rfl c35_5)), (nx rfl (nx rfl c35_56)), (nx rfl (nx rfl c35_57)), (nx rfl (nx rfl c35_58)), (nx rfl (nx rfl c35_6)), (nx rfl (nx rfl c35_63)), (nx rfl (nx rfl c35_64)), hit, hs4, kG2.trans ((kG3.mono (by decide)).trans (kG4.mono (by decide))), by rw [← ints_set]; exact hw4, by rw [← ints_set]; exact hi4, by simp [hwll], by simp [hill], ?_, ?_, hMW2, by omega⟩
            · intro i' hi'
              rw [List.length_set] at hi'
              by_cases hii : i = i'
              · subst hii
                exact .inr ⟨v, h, List.getElem?_set_self hi', hwtr, by rw [List.getElem?_set_self (by omega), hitm]⟩
              · rw [List.getElem?_set_ne hii, List.getElem?_set_ne hii]
                exact hWI i' hi'
            · rw [kG4 23 (by decide), kG3 23 (by decide)]; exact hm2'
        · refine wp_seq_k (fun K36 hK36 => ?_)
          refine cF rfl hit (by simpa using h') ?_
          refine wp_exit ?_
          refine thenE ?_
          exact hx' _ _ ⟨G, wl, il, l, (nx rfl t1), (nx rfl t2), (nx rfl t3), (nx rfl t5), (nx rfl t56), (nx rfl t57), (nx rfl t58), hsG, kG, hwG, hiG, hwll, hill, hWI, hmG, hMW, by omega⟩
      clear t1 t2 t3 t5 t56 t57 t58 hsG kG hwG hiG hwll hill hWI hmG hMW hll hWG hc
      rintro τ wi ⟨G, wl, il, l, t1, t2, t3, t5, t56, t57, t58, hsG, kG, hwG, hiG, hwll, hill, hWI, hmG, hMW, hll⟩
      refine inBN ?_
      refine hK22 _ _ ?_
      clear hK22
      refine reg ?_
      refine sq rfl (do_inc (tm rfl t58) ck (by omega)) ?_
      refine sq rfl (do_move (tm rfl hit)) ?_
      refine wnil ?_
      exact hnn (n - (v + 1)) _ _ (by omega) ⟨v + 1, G, wl, il, l, rfl, by omega, (nx rfl (nx rfl t1)), (nx rfl (nx rfl t2)), (nx rfl (nx rfl t3)), (nx rfl (nx rfl t5)), (nx rfl (nx rfl t56)), (nx rfl (nx rfl t57)), hit, hsG, kG, hwG, hiG, hwll, hill, hWI, hmG, hMW, by omega⟩
    · refine wp_seq_k (fun K37 hK37 => ?_)
      refine cF rfl hit (by simpa using h) ?_
      refine wp_exit ?_
      refine thenE ?_
      have htl := sumLen_take_le writes v
      exact hx _ _ ⟨G, wl, il, l, (nx rfl t1), (nx rfl t2), (nx rfl t3), (nx rfl t5), hsG, kG, hwG, hiG, hwll, hill, hWI, hmG, hMW, by omega⟩
  clear t1 t2 t3 hwv hwll hwl5 hs5 hil5 hmw wl
  rintro τ wi ⟨H6, wl, il, lW, t1, t2, t3, t5, hs6, k6, hwl6, hil6, hwll, hill, hWI, hmw6, hMW, hlW⟩
  refine hK17 _ _ ?_
  clear hK17
  have hp6 := k6.vb (t := 1) (by decide) hp5
  have hpv6 := k6.vb (t := 20) (by decide) hpv5
  have kk6 : Same [8, 20, 21, 22, 23, 24, 25, 26, 27, 28] H H6 := kk5.trans (k6.mono (by decide))
  clear hp5 hpv5 hW5
  refine wp_seq_k (fun K38 hK38 => ?_)
  refine reg ?_
  refine sq rfl do_makeMap ?_
  refine sq rfl (do_alloc T84) ?_
  refine sqn (do_store T84 (tm rfl hit) (tm rfl (nx rfl hit)) rfl (new_cell _ _ _ 0 rfl) (new_frozen _ _ _ 0)) ?_
  refine cutW ?_
  intro τ39 e39 xa hxa
  have c39_1 := (congrFun e39 1).trans (nx rfl (nx rfl t1))
  have c39_2 := (congrFun e39 2).trans (nx rfl (nx rfl t2))
  have c39_3 := (congrFun e39 3).trans (nx rfl (nx rfl t3))
  have c39_5 := (congrFun e39 5).trans (nx rfl (nx rfl t5))
  have c39_10 := (congrFun e39 10).trans hit
  clear e39
  refine wnil ?_
  refine hK38 _ _ ?_
  clear hK38
  obtain ⟨H7, k7, hs7, hmx⟩ := mapN hs6 25 pk
  obtain ⟨H8, k8, hraw, hev⟩ := var1 hs7 24 84 (.map none) (.map (some wi.heap.size))
  have hs8 : Split N w0 xa H8 := by rw [hxa]; exact hraw
  clear hxa hraw hs7
  generalize (wi.alloc (.map #[] 0)).heap.size = bE at *
  generalize wi.heap.size = bX at *
  have kk8 : Same [24, 25] H6 H8 := (k7.mono (by decide)).trans (k8.mono (by decide))
  have hmx8 : MapV (H8 25) bX pk [] := by rw [k8 25 (by decide)]; exact hmx
  refine wp_seq_k (fun K40 hK40 => ?_)
  refine reg ?_
  refine sq rfl (do_alloc T85) ?_
  refine cutW ?_
  intro τ41 e41 xb hxb
  have c41_1 := (congrFun e41 1).trans (nx rfl c39_1)
  have c41_2 := (congrFun e41 2).trans (nx rfl c39_2)
  have c41_3 := (congrFun e41 3).trans (nx rfl c39_3)
  have c41_5 := (congrFun e41 5).trans (nx rfl c39_5)
  have c41_10 := (congrFun e41 10).trans (nx rfl c39_10)
  have c41_11 := (congrFun e41 11).trans hit
  clear e41
  refine wnil ?_
  refine hK40 _ _ ?_
  clear hK40
  obtain ⟨H9, k9, hraw, hqv⟩ := var0 hs8 26 85 (.slice none 0 0)
  have hs9 : Split N w0 xb H9 := by rw [hxb]; exact hraw
  clear hxb hraw
  generalize xa.heap.size = bQ at *
  have kk9 : Same [24, 25, 26] H6 H9 := (kk8.mono (by decide)).trans (k9.mono (by decide))
  have hmx9 : MapV (H9 25) bX pk [] := by rw [k9 25 (by decide)]; exact hmx8
  have hev9 := k9.vb (t := 24) (by decide) hev
  have hp9 := kk9.vb (t := 1) (by decide) hp6
  have hpv9 := kk9.vb (t := 20) (by decide) hpv6
  have hwl9 := kk9.vb (t := 21) (by decide) hwl6
  have hil9 := kk9.vb (t := 22) (by decide) hil6
  have hmw9 : MapV (H9 23) bM pk lW := by rw [kk9 23 (by decide)]; exact hmw6
  have kA : Same [8, 20, 21, 22, 23, 24, 25, 26, 27, 28] H H9 := kk6.trans (kk9.mono (by decide))
  have hS9 : TabV (H9 8) 22 3 1 encI (.slice sa n sc) succ := by
    rw [kk9 8 (by decide), k6 8 (by decide), k5 8 (by decide), k4 8 (by decide), k3 8 (by decide), k2 8 (by decide), k1 8 (by decide)]; exact hS
  have hR9 : TabV (H9 2) 22 3 1 encI (.slice ra n rc) reads := by rw [kA 2 (by decide)]; exact hR
  have hW9 : TabV (H9 3) 61 63 2 encP (.slice wa n wc) writes := by rw [kA 3 (by decide)]; exact hW
  have hD9 : TabV (H9 6) 22 3 1 encI (.slice da M dc) readers := by rw [kA 6 (by decide)]; exact hRd
  clear hmx hmx8 hev hp6 hpv6 hwl6 hil6 hmw6 hs8 hs6 hS hR hW hRd k1 k2 k3 k4 k5 k6 kk3 kk5 kk6 k7 k8 kk8 k9 kk9 hp hs
  refine wp_seq_k (fun K42 hK42 => ?_)
  refine wp_seq_k (fun K43 hK43 => ?_)
  refine reg ?_
  refine sq rfl (do_load T33 rfl (tm rfl c41_1) (hpv9.cell hs9 (i := 0) rfl)) ?_
  refine sq rfl (do_nilCheck (tm rfl hit)) ?_
  refine sq rfl (fa58_6 (tm rfl hit)) ?_
  refine sq rfl (do_load T37 rfl (tm rfl hit) (hp9.cell hs9 (i := 6) rfl)) ?_
  refine sq rfl (do_len Try.underlying37 (tm rfl hit)) ?_
  refine sq rfl (do_move (v := .int .i64 ((0 : Nat) : Int)) rfl) ?_
  refine cutL ?_
  intro τ44 e44
  have c44_1 := (congrFun e44 1).trans (nx rfl (nx rfl (nx rfl (nx rfl (nx rfl (nx rfl c41_1))))))
  have c44_2 := (congrFun e44 2).trans (nx rfl (nx rfl (nx rfl (nx rfl (nx rfl (nx rfl c41_2))))))
  have c44_3 := (congrFun e44 3).trans (nx rfl (nx rfl (nx rfl (nx rfl (nx rfl (nx rfl c41_3))))))
  have c44_5 := (congrFun e44 5).trans (nx rfl (nx rfl (nx rfl (nx rfl (nx rfl (nx rfl c41_5))))))
  have c44_10 := (congrFun e44 10).trans (nx rfl (nx rfl (nx rfl (nx rfl (nx rfl (nx rfl c41_10))))))
  have c44_11 := (congrFun e44 11).trans (nx rfl (nx rfl (nx rfl (nx rfl (nx rfl (nx rfl c41_11))))))
  have c44_94 := (congrFun e44 94).trans (nx rfl (nx rfl hit))
  have c44_95 := (congrFun e44 95).trans (nx rfl hit)
  have c44_96 := (congrFun e44 96).trans hit
  clear e44
  refine wnil ?_
  refine hK43 _ _ ?_
  clear hK43
  refine forLoop (N := 248) (fun r τ wi => ∃ (v : Nat) (G : Nat → Part) (pend : List (Int × Int)) (l : List ((Int × Int) × Value)) (qv : Value), r = n - v ∧ v ≤ n ∧ τ 1 = .pointer (some ⟨bV, 0, none⟩) ∧ τ 2 = .slice (some ⟨bW, 0, none⟩) M M ∧ τ 3 = .slice (some ⟨bI, 0, none⟩) M M ∧ τ 5 = .map (some bM) ∧ τ 10 = .pointer (some ⟨bE, 0, none⟩) ∧ τ 11 = .pointer (some ⟨bQ, 0, none⟩) ∧ τ 94 = .slice sa n sc ∧ τ 95 = .int .i64 (n : Int) ∧ τ 96 = .int .i64 (v : Int) ∧
      Split N w0 wi G ∧ Same [25, 26, 27, 28] H9 G ∧ MapV (G 25) bX pk l ∧ (∀ q ∈ l, ∃ c : Bool, q.2 = .bool c) ∧ VB (G 26) bQ 85 [qv] ∧ RowV (G 27) 60 2 qv pend.length (pend.flatMap encP) ∧ PE n rk pend ∧ pend.length ≤ sumLen (succ.take v))
    (fun τ wi => ∃ (G : Nat → Part) (pend : List (Int × Int)) (l : List ((Int × Int) × Value)) (qv : Value), τ 1 = .pointer (some ⟨bV, 0, none⟩) ∧ τ 2 = .slice (some ⟨bW, 0, none⟩) M M ∧ τ 3 = .slice (some ⟨bI, 0, none⟩) M M ∧ τ 5 = .map (some bM) ∧ τ 10 = .pointer (some ⟨bE, 0, none⟩) ∧ τ 11 = .pointer (some ⟨bQ, 0, none⟩) ∧
      Split N w0 wi G ∧ Same [25, 26, 27, 28] H9 G ∧ MapV (G 25) bX pk l ∧ (∀ q ∈ l, ∃ c : Bool, q.2 = .bool c) ∧ VB (G 26) bQ 85 [qv] ∧ RowV (G 27) 60 2 qv pend.length (pend.flatMap encP) ∧ PE n rk pend ∧ pend.length ≤ C) n ?_ ?_ ?_
  · exact ⟨0, H9, [], [], .slice none 0 0, rfl, Nat.zero_le _, c44_1, c44_2, c44_3, c44_5, c44_10, c44_11, c44_94, c44_95, c44_96, hs9, Same.refl _ _, hmx9, fun q hq => (by cases hq), hqv, RowV.empty, fun q hq => (by cases hq), Nat.zero_le _⟩
  · clear t1 t2 t3 t5 hqv hmx9 hs9
    rintro Q' r τ wi hnn hx hr ⟨v, G, pend, l, qv, rfl, hi, t1, t2, t3, t5, t10, t11, t94, t95, t96, hsG, kG, hmG, hlv, hqG, hrG, hpe, hpl⟩
    refine wp_seq_k (fun K45 hK45 => ?_)
    refine reg ?_
    refine sq rfl (do_lss (tm rfl t96) (tm rfl t95)) ?_
    refine wnil ?_
    refine hK45 _ _ ?_
    clear hK45
    by_cases h : v < n
    · refine wp_seq_k (fun K46 hK46 => ?_)
      refine cT rfl hit (by simpa using h) ?_
      refine wp_skip ?_
      refine hK46 _ _ ?_
      clear hK46
      have hSG : TabV (G 8) 22 3 1 encI (.slice sa n sc) succ := by rw [kG 8 (by decide)]; exact hS9
      obtain ⟨g, c, rfl, hc, _, hrow⟩ := hSG.getS hsG (i := v) (by omega)
      obtain ⟨ia, ic, rfl⟩ := hrow.slice
      rw [kG 8 (by decide)] at hrow
      have hrl := len_le_sum succ v (by omega)
      have hts := sumLen_take succ v (by omega)
      have htl := sumLen_take_le succ (v + 1)
      refine wp_seq_k (fun K47 hK47 => ?_)
      refine wp_block ?_
      refine wp_seq_k (fun K48 hK48 => ?_)
      refine reg ?_
      refine sq rfl (do_move (tm rfl (nx rfl t96))) ?_
      refine sq rfl (ix37 (tm rfl (nx rfl (nx rfl t94))) (tm rfl (nx rfl (nx rfl t96))) (by omega)) ?_
      refine sq rfl (do_load T22 rfl (tm rfl hit) hc) ?_
      refine sq rfl (do_assign (tm rfl (nx rfl (nx rfl hit)))) ?_
      refine sq rfl (do_assign (tm rfl (nx rfl hit))) ?_
      refine cutL ?_
      intro τ49 e49
      have c49_1 := (congrFun e49 1).trans (nx rfl (nx rfl (nx rfl (nx rfl (nx rfl (nx rfl t1))))))
      have c49_2 := (congrFun e49 2).trans (nx rfl (nx rfl (nx rfl (nx rfl (nx rfl (nx rfl t2))))))
      have c49_3 := (congrFun e49 3).trans (nx rfl (nx rfl (nx rfl (nx rfl (nx rfl (nx rfl t3))))))
      have c49_5 := (congrFun e49 5).trans (nx rfl (nx rfl (nx rfl (nx rfl (nx rfl (nx rfl t5))))))
      have c49_10 := (congrFun e49 10).trans (nx rfl (nx rfl (nx rfl (nx rfl (nx rfl (nx rfl t10))))))
      have c49_11 := (congrFun e49 11).trans (nx rfl (nx rfl (nx rfl (nx rfl (nx rfl (nx rfl t11))))))
      have c49_12 := (congrFun e49 12).trans (nx rfl hit)
      have c49_13 := (congrFun e49 13).trans hit
      have c49_94 := (congrFun e49 94).trans (nx rfl (nx rfl (nx rfl (nx rfl (nx rfl (nx rfl t94))))))
      have c49_95 := (congrFun e49 95).trans (nx rfl (nx rfl (nx rfl (nx rfl (nx rfl (nx rfl t95))))))
      have c49_96 := (congrFun e49 96).trans (nx rfl (nx rfl (nx rfl (nx rfl (nx rfl (nx rfl t96))))))
      clear e49
      refine wnil ?_
      refine hK48 _ _ ?_
      clear hK48
      refine wp_seq_k (fun K50 hK50 => ?_)
      refine reg ?_
      refine sq rfl (do_move (tm rfl c49_13)) ?_
      refine sq rfl (do_len Try.underlying22 (tm rfl hit)) ?_
      refine sq rfl (do_move (v := .int .i64 ((0 : Nat) : Int)) rfl) ?_
      refine wnil ?_
      refine hK50 _ _ ?_
      clear hK50
      refine forLoop (N := 248) (fun r τ wi => ∃ (j : Nat) (G : Nat → Part) (pend : List (Int × Int)) (l : List ((Int × Int) × Value)) (qv : Value), r = succ[v].length - j ∧ j ≤ succ[v].length ∧ τ 1 = .pointer (some ⟨bV, 0, none⟩) ∧ τ 2 = .slice (some ⟨bW, 0, none⟩) M M ∧ τ 3 = .slice (some ⟨bI, 0, none⟩) M M ∧ τ 5 = .map (some bM) ∧ τ 10 = .pointer (some ⟨bE, 0, none⟩) ∧ τ 11 = .pointer (some ⟨bQ, 0, none⟩) ∧ τ 94 = .slice (some ⟨g, 0, none⟩) n sc ∧ τ 95 = .int .i64 (n : Int) ∧ τ 96 = .int .i64 (v : Int) ∧ τ 12 = .int .i64 (v : Int) ∧
          τ 101 = .slice ia succ[v].length ic ∧ τ 102 = .int .i64 (succ[v].length : Int) ∧ τ 103 = .int .i64 (j : Int) ∧
          Split N w0 wi G ∧ Same [25, 26, 27, 28] H9 G ∧ MapV (G 25) bX pk l ∧ (∀ q ∈ l, ∃ c : Bool, q.2 = .bool c) ∧ VB (G 26) bQ 85 [qv] ∧ RowV (G 27) 60 2 qv pend.length (pend.flatMap encP) ∧ PE n rk pend ∧ pend.length ≤ sumLen (succ.take v) + j)
        (fun τ wi => ∃ (G : Nat → Part) (pend : List (Int × Int)) (l : List ((Int × Int) × Value)) (qv : Value), τ 1 = .pointer (some ⟨bV, 0, none⟩) ∧ τ 2 = .slice (some ⟨bW, 0, none⟩) M M ∧ τ 3 = .slice (some ⟨bI, 0, none⟩) M M ∧ τ 5 = .map (some bM) ∧ τ 10 = .pointer (some ⟨bE, 0, none⟩) ∧ τ 11 = .pointer (some ⟨bQ, 0, none⟩) ∧ τ 94 = .slice (some ⟨g, 0, none⟩) n sc ∧ τ 95 = .int .i64 (n : Int) ∧ τ 96 = .int .i64 (v : Int) ∧
          Split N w0 wi G ∧ Same [25, 26, 27, 28] H9 G ∧ MapV (G 25) bX pk l ∧ (∀ q ∈ l, ∃ c : Bool, q.2 = .bool c) ∧ VB (G 26) bQ 85 [qv] ∧ RowV (G 27) 60 2 qv pend.length (pend.flatMap encP) ∧ PE n rk pend ∧ pend.length ≤ sumLen (succ.take v) + succ[v].length) succ[v].length ?_ ?_ ?_
      · exact ⟨0, G, pend, l, qv, rfl, Nat.zero_le _, (nx rfl (nx rfl (nx rfl c49_1))), (nx rfl (nx rfl (nx rfl c49_2))), (nx rfl (nx rfl (nx rfl c49_3))), (nx rfl (nx rfl (nx rfl c49_5))), (nx rfl (nx rfl (nx rfl c49_10))), (nx rfl (nx rfl (nx rfl c49_11))), (nx rfl (nx rfl (nx rfl c49_94))), (nx rfl (nx rfl (nx rfl c49_95))), (nx rfl (nx rfl (nx rfl c49_96))), (nx rfl (nx rfl (nx rfl c49_12))), (nx rfl (nx rfl hit)), (nx rfl hit), hit, hsG, kG, hmG, hlv, hqG, hrG, hpe, hpl⟩
      · clear t1 t2 t3 t5 t10 t11 t94 t95 t96 hsG kG hmG hlv hqG hrG hpe hSG hc
        rintro Q'' r τ wi hnn' hx' hr' ⟨j, G, pend, l, qv, rfl, hj, t1, t2, t3, t5, t10, t11, t94, t95, t96, t12, t101, t102, t103, hsG, kG, hmG, hlv, hqG, hrG, hpe, hpl⟩
        refine wp_seq_k (fun K51 hK51 => ?_)
        refine reg ?_
        refine sq rfl (do_lss (tm rfl t103) (tm rfl t102)) ?_
        refine wnil ?_
        refine hK51 _ _ ?_
        clear hK51
        by_cases h' : j < succ[v].length
        · refine wp_seq_k (fun K52 hK52 => ?_)
          refine cT rfl hit (by simpa using h') ?_
          refine wp_skip ?_
          refine hK52 _ _ ?_
          clear hK52
          have hroG : RowV (G 8) 3 1 (.slice ia succ[v].length ic) succ[v].length (succ[v].flatMap encI) := by rw [kG 8 (by decide)]; exact hrow
          obtain ⟨g1, rfl, f1, _⟩ := hroG.cellS hsG (cellI h')
          obtain ⟨u, hu, hun, hlt⟩ := hed v (by omega) succ[v][j] (List.getElem_mem _)
          rw [hu] at f1
          refine wp_seq_k (fun K53 hK53 => ?_)
          refine wp_block ?_
          refine wp_seq_k (fun K54 hK54 => ?_)
          refine reg ?_
          refine sq rfl (ix22 (tm rfl (nx rfl t101)) (tm rfl (nx rfl t103)) (by omega)) ?_
          refine sq rfl (do_load T3 rfl (tm rfl hit) f1) ?_
          refine sq rfl (do_assign (tm rfl hit)) ?_
          refine cutL ?_
          intro τ55 e55
          have c55_1 := (congrFun e55 1).trans (nx rfl (nx rfl (nx rfl (nx rfl t1))))
          have c55_2 := (congrFun e55 2).trans (nx rfl (nx rfl (nx rfl (nx rfl t2))))
          have c55_3 := (congrFun e55 3).trans (nx rfl (nx rfl (nx rfl (nx rfl t3))))
          have c55_5 := (congrFun e55 5).trans (nx rfl (nx rfl (nx rfl (nx rfl t5))))
          have c55_10 := (congrFun e55 10).trans (nx rfl (nx rfl (nx rfl (nx rfl t10))))
          have c55_11 := (congrFun e55 11).trans (nx rfl (nx rfl (nx rfl (nx rfl t11))))
          have c55_12 := (congrFun e55 12).trans (nx rfl (nx rfl (nx rfl (nx rfl t12))))
          have c55_15 := (congrFun e55 15).trans hit
          have c55_94 := (congrFun e55 94).trans (nx rfl (nx rfl (nx rfl (nx rfl t94))))
          have c55_95 := (congrFun e55 95).trans (nx rfl (nx rfl (nx rfl (nx rfl t95))))
          have c55_96 := (congrFun e55 96).trans (nx rfl (nx rfl (nx rfl (nx rfl t96))))
          have c55_101 := (congrFun e55 101).trans (nx rfl (nx rfl (nx rfl (nx rfl t101))))
          have c55_102 := (congrFun e55 102).trans (nx rfl (nx rfl (nx rfl (nx rfl t102))))
          have c55_103 := (congrFun e55 103).trans (nx rfl (nx rfl (nx rfl (nx rfl t103))))
          clear e55
          refine wnil ?_
          refine hK54 _ _ ?_
          clear hK54
          refine wp_seq_k (fun K56 hK56 => ?_)
          refine reg ?_
          refine sq rfl (do_move (tm rfl c55_12)) ?_
          refine sq rfl (do_move (tm rfl (nx rfl c55_15))) ?_
          refine sq rfl (do_build60 (tm rfl (nx rfl hit)) (tm rfl hit)) ?_
          refine sq rfl (do_alloc T60) ?_
          refine sqn (do_store2 T60 (tm rfl hit) (tm rfl (nx rfl hit)) rfl rfl (new_cell wi _ _ 0 rfl) (new_cell wi _ _ 1 rfl) (new_frozen wi _ _ 0) (new_frozen wi _ _ 1)) ?_
          refine cutW ?_
          intro τ57 e57 xa hxa
          have c57_1 := (congrFun e57 1).trans (nx rfl (nx rfl (nx rfl (nx rfl c55_1))))
          have c57_2 := (congrFun e57 2).trans (nx rfl (nx rfl (nx rfl (nx rfl c55_2))))
          have c57_3 := (congrFun e57 3).trans (nx rfl (nx rfl (nx rfl (nx rfl c55_3))))
          have c57_5 := (congrFun e57 5).trans (nx rfl (nx rfl (nx rfl (nx rfl c55_5))))
          have c57_10 := (congrFun e57 10).trans (nx rfl (nx rfl (nx rfl (nx rfl c55_10))))
          have c57_11 := (congrFun e57 11).trans (nx rfl (nx rfl (nx rfl (nx rfl c55_11))))
          have c57_12 := (congrFun e57 12).trans (nx rfl (nx rfl (nx rfl (nx rfl c55_12))))
          have c57_15 := (congrFun e57 15).trans (nx rfl (nx rfl (nx rfl (nx rfl c55_15))))
          have c57_16 := (congrFun e57 16).trans hit
          have c57_94 := (congrFun e57 94).trans (nx rfl (nx rfl (nx rfl (nx rfl c55_94))))
          have c57_95 := (congrFun e57 95).trans (nx rfl (nx rfl (nx rfl (nx rfl c55_95))))
          have c57_96 := (congrFun e57 96).trans (nx rfl (nx rfl (nx rfl (nx rfl c55_96))))
          have c57_101 := (congrFun e57 101).trans (nx rfl (nx rfl (nx rfl (nx rfl c55_101))))
          have c57_102 := (congrFun e57 102).trans (nx rfl (nx rfl (nx rfl (nx rfl c55_102))))
          have c57_103 := (congrFun e57 103).trans (nx rfl (nx rfl (nx rfl (nx rfl c55_103))))
          clear e57
          refine wnil ?_
          refine hK56 _ _ ?_
          clear hK56
          obtain ⟨G1, kG1, hraw, hE⟩ := var2 hsG 28 60 (.int .i64 0) (.int .i64 0) (.int .i64 (v : Int)) (.int .i64 (u : Int))
          have hsG1 : Split N w0 xa G1 := by rw [hxa]; exact hraw
          clear hxa hraw
          generalize wi.heap.size = bL at *
          have hmG1 : MapV (G1 25) bX pk l := by rw [kG1 25 (by decide)]; exact hmG
          have hev1 : VB (G1 24) bE 84 [.map (some bX)] := kG1.vb (t := 24) (by decide) (kG.vb (t := 24) (by decide) hev9)
          have c0 := hE.cell hsG1 (i := 0) rfl
          have c1 := hE.cell hsG1 (i := 1) rfl
          have ce := hev1.cell hsG1 (i := 0) rfl
          have hqG1 := kG1.vb (t := 26) (by decide) hqG
          have hrG1 : RowV (G1 27) 60 2 qv pend.length (pend.flatMap encP) := by rw [kG1 27 (by decide)]; exact hrG
          have kG1' : Same [25, 26, 27, 28] H9 G1 := kG.trans (kG1.mono (by decide))
          obtain ⟨cb, hcb⟩ : ∃ c : Bool, (getL (fun a b => a == b) ((v : Int), (u : Int)) l).getD (.bool false) = .bool c := by
            cases hg : getL (fun a b => a == b) ((v : Int), (u : Int)) l with
            | none => exact ⟨false, rfl⟩
            | some u =>
              obtain ⟨q, hq1, _⟩ := getL_mem hg
              obtain ⟨c, hc⟩ := hlv _ hq1
              exact ⟨c, hc⟩
          refine wp_seq_k (fun K58 hK58 => ?_)
          refine reg ?_
          refine sq rfl (do_load T84 rfl (tm rfl c57_10) ce) ?_
          refine sq rfl (do_load2 T60 fl60 (tm rfl (nx rfl c57_16)) c0 c1) ?_
          refine sq rfl ((MapV.look1 key60 Try.underlying84 zero4 hmG1 hsG1 (k := ((v : Int), (u : Int))) (tm rfl (nx rfl hit)) (tm rfl hit)).cast hcb) ?_
          refine sq rfl (do_not (tm rfl hit)) ?_
          refine cutL ?_
          intro τ59 e59
          have c59_1 := (congrFun e59 1).trans (nx rfl (nx rfl (nx rfl (nx rfl c57_1))))
          have c59_2 := (congrFun e59 2).trans (nx rfl (nx rfl (nx rfl (nx rfl c57_2))))
          have c59_3 := (congrFun e59 3).trans (nx rfl (nx rfl (nx rfl (nx rfl c57_3))))
          have c59_5 := (congrFun e59 5).trans (nx rfl (nx rfl (nx rfl (nx rfl c57_5))))
          have c59_10 := (congrFun e59 10).trans (nx rfl (nx rfl (nx rfl (nx rfl c57_10))))
          have c59_11 := (congrFun e59 11).trans (nx rfl (nx rfl (nx rfl (nx rfl c57_11))))
          have c59_12 := (congrFun e59 12).trans (nx rfl (nx rfl (nx rfl (nx rfl c57_12))))
          have c59_15 := (congrFun e59 15).trans (nx rfl (nx rfl (nx rfl (nx rfl c57_15))))
          have c59_16 := (congrFun e59 16).trans (nx rfl (nx rfl (nx rfl (nx rfl c57_16))))
          have c59_94 := (congrFun e59 94).trans (nx rfl (nx rfl (nx rfl (nx rfl c57_94))))
          have c59_95 := (congrFun e59 95).trans (nx rfl (nx rfl (nx rfl (nx rfl c57_95))))
          have c59_96 := (congrFun e59 96).trans (nx rfl (nx rfl (nx rfl (nx rfl c57_96))))
          have c59_101 := (congrFun e59 101).trans (nx rfl (nx rfl (nx rfl (nx rfl c57_101))))
          have c59_102 := (congrFun e59 102).trans (nx rfl (nx rfl (nx rfl (nx rfl c57_102))))
          have c59_103 := (congrFun e59 103).trans (nx rfl (nx rfl (nx rfl (nx rfl c57_103))))
          have c59_113 := (congrFun e59 113).trans hit
          clear e59
          refine wnil ?_
          refine hK58 _ _ ?_
          clear hK58
          cases cb with
          | true =>
            refine cF rfl c59_113 rfl ?_
            refine wp_skip ?_
            refine inBN ?_
            refine hK53 _ _ ?_
            clear hK53
            refine reg ?_
            refine sq rfl (do_inc (tm rfl c59_103) ck (by omega)) ?_
            refine sq rfl (do_move (tm rfl hit)) ?_
            refine wnil ?_
            exact hnn' (succ[v].length - (j + 1)) _ _ (by omega) ⟨j + 1, G1, pend, l, qv, rfl, by omega, (nx rfl (nx rfl c59_1)), (nx rfl (nx rfl c59_2)), (nx rfl (nx rfl c59_3)), (nx rfl (nx rfl c59_5)), (nx rfl (nx rfl c59_10)), (nx rfl (nx rfl c59_11)), (nx rfl (nx rfl c59_94)), (nx rfl (nx rfl c59_95)), (nx rfl (nx rfl c59_96)), (nx rfl (nx rfl c59_12)), (nx rfl (nx rfl c59_101)), (nx rfl (nx rfl c59_102)), hit, hsG1, kG1', hmG1, hlv, hqG1, hrG1, hpe, by omega⟩
          | false =>
            refine cT rfl c59_113 rfl ?_
            obtain ⟨xb, V25, hm2, hs2, hput⟩ := hmG1.put key60 Try.underlying84 hsG1 ((v : Int), (u : Int)) (.bool true)
            refine wp_seq_k (fun K60 hK60 => ?_)
            refine reg ?_
            refine sq rfl (do_load T84 rfl (tm rfl c59_10) ce) ?_
            refine sq rfl (do_load2 T60 fl60 (tm rfl (nx rfl c59_16)) c0 c1) ?_
            refine sqn (hput _ _ _ _ _ _ _ _ _ (tm rfl (nx rfl hit)) (tm rfl hit) rfl) ?_
            refine wnil ?_
            refine hK60 _ _ ?_
            clear hK60
            have c0 := VB.cell (H := updH G1 25 V25) (t := 28) hE hs2 (i := 0) rfl
            have c1 := VB.cell (H := updH G1 25 V25) (t := 28) hE hs2 (i := 1) rfl
            have hqv2 : VB (updH G1 25 V25 26) bQ 85 [qv] := hqG1
            have hq2 : RowV (updH G1 25 V25 27) 60 2 qv pend.length (pend.flatMap encP) := hrG1
            have cq := hqv2.cell hs2 (i := 0) rfl
            have hs3 := hs2.alloc 28 (.cells #[.int .i64 (v : Int), .int .i64 (u : Int)] 60)
            obtain ⟨qv', wd, V27, hap, hs4, hq4, _, _⟩ := RowV.append (H := updH (updH G1 25 V25) 28 (addV (updH G1 25 V25 28) xb.heap.size (.cells #[.int .i64 (v : Int), .int .i64 (u : Int)] 60))) (t := 27) T85 T60 rfl (by decide) hq2 hs3 (a := ⟨xb.heap.size, 0, none⟩) (m := 1) (c := 1) (news := encP ((v : Int), (u : Int))) rfl (by
              intro j u' hu'
              rw [add_plain, Nat.zero_add]
              exact new_cell xb #[.int .i64 (v : Int), .int .i64 (u : Int)] 60 j hu') (one_P _) (by simp only [maxLen]; omega) (by omega)
            have hqv4 : VB (updH (updH (updH G1 25 V25) 28 (addV (updH G1 25 V25 28) xb.heap.size (.cells #[.int .i64 (v : Int), .int .i64 (u : Int)] 60))) 27 V27 26) bQ 85 [qv] := hqv2
            obtain ⟨G5, k5, hs5, hqv5⟩ := hqv4.put hs4 0 qv'
            refine reg ?_
            refine sq rfl (do_load T85 rfl (tm rfl (nx rfl (nx rfl c59_11))) cq) ?_
            refine sq rfl (do_load2 T60 fl60 (tm rfl (nx rfl (nx rfl (nx rfl c59_16)))) c0 c1) ?_
            refine sq rfl (do_bs2 T85 T60 (tm rfl hit)) ?_
            refine sq rfl (hap _ _ _ _ _ _ _ _ (tm rfl (nx rfl (nx rfl hit))) (tm rfl hit)) ?_
            refine sqn (do_store T85 (tm rfl (nx rfl (nx rfl (nx rfl (nx rfl (nx rfl (nx rfl c59_11))))))) (tm rfl hit) hq4.one (hqv4.cell hs4 (i := 0) rfl) (hqv4.frozen hs4 0)) ?_
            refine cutW ?_
            intro τ61 e61 we hwe
            have c61_1 := (congrFun e61 1).trans (nx rfl (nx rfl (nx rfl (nx rfl (nx rfl (nx rfl c59_1))))))
            have c61_2 := (congrFun e61 2).trans (nx rfl (nx rfl (nx rfl (nx rfl (nx rfl (nx rfl c59_2))))))
            have c61_3 := (congrFun e61 3).trans (nx rfl (nx rfl (nx rfl (nx rfl (nx rfl (nx rfl c59_3))))))
            have c61_5 := (congrFun e61 5).trans (nx rfl (nx rfl (nx rfl (nx rfl (nx rfl (nx rfl c59_5))))))
            have c61_10 := (congrFun e61 10).trans (nx rfl (nx rfl (nx rfl (nx rfl (nx rfl (nx rfl c59_10))))))
            have c61_11 := (congrFun e61 11).trans (nx rfl (nx rfl (nx rfl (nx rfl (nx rfl (nx rfl c59_11))))))
            have c61_12 := (congrFun e61 12).trans (nx rfl (nx rfl (nx rfl (nx rfl (nx rfl (nx rfl c59_12))))))
            have c61_15 := (congrFun e61 15).trans (nx rfl (nx rfl (nx rfl (nx rfl (nx rfl (nx rfl c59_15))))))
            have c61_16 := (congrFun e61 16).trans (nx rfl (nx rfl (nx rfl (nx rfl (nx rfl (nx rfl c59_16))))))
            have c61_94 := (congrFun e61 94).trans (nx rfl (nx rfl (nx rfl (nx rfl (nx rfl (nx rfl c59_94))))))
            have c61_95 := (congrFun e61 95).trans (nx rfl (nx rfl (nx rfl (nx rfl (nx rfl (nx rfl c59_95))))))
            have c61_96 := (congrFun e61 96).trans (nx rfl (nx rfl (nx rfl (nx rfl (nx rfl (nx rfl c59_96))))))
            have c61_101 := (congrFun e61 101).trans (nx rfl (nx rfl (nx rfl (nx rfl (nx rfl (nx rfl c59_101))))))
            have c61_102 := (congrFun e61 102).trans (nx rfl (nx rfl (nx rfl (nx rfl (nx rfl (nx rfl c59_102))))))
            have c61_103 := (congrFun e61 103).trans (nx rfl (nx rfl (nx rfl (nx rfl (nx rfl (nx rfl c59_103))))))
            clear e61
            refine wnil ?_
            refine inBN ?_
            refine hK53 _ _ ?_
            clear hK53
            have hs5' : Split N w0 we G5 := by rw [hwe]; exact hs5
            clear hwe hs5
            refine reg ?_
            refine sq rfl (do_inc (tm rfl c61_103) ck (by omega)) ?_
            refine sq rfl (do_move (tm rfl hit)) ?_
            refine wnil ?_
            refine hnn' (succ[v].length - (j + 1)) _ _ (by omega) ⟨j + 1, G5, pend ++ [((v : Int), (u : Int))], putL (fun a b => a == b) ((v : Int), (u : Int)) (.bool true) l, qv', rfl, by omega, (nx rfl (nx rfl c61_1)), (nx rfl (nx rfl c61_2)), (nx rfl (nx rfl c61_3)), (nx rfl (nx rfl c61_5)), (nx rfl (nx rfl c61_10)), (nx rfl (nx rfl c61_11)), (nx rfl (nx rfl c61_94)), (nx rfl (nx rfl c61_95)), (nx rfl (nx rfl c61_96)), (nx rfl (nx rfl c61_12)), (nx rfl (nx rfl c61_101)), (nx rfl (nx rfl c61_102)), hit, hs5', ?_, ?_, ?_, hqv5, ?_, ?_, ?_⟩
            · refine kG1'.trans (Same.trans ?_ (k5.mono (by decide)))
              exact ((Same.upd (by decide)).trans (Same.upd (by decide))).trans (Same.upd (by decide))
            · rw [k5 25 (by decide)]; exact hm2
            · exact putL_all (p := fun v => ∃ c : Bool, v = .bool c) _ _ l ⟨true, rfl⟩ hlv
            · rw [k5 27 (by decide), updH_hit]
              have : RowV V27 60 2 qv' (pend.length + 1) (pend.flatMap encP ++ encP ((v : Int), (u : Int))) := hq4
              simpa [List.flatMap_append] using this
            · intro p hp'
              rcases List.mem_append.1 hp' with h1 | h1
              · exact hpe p h1
              · have : p = ((v : Int), (u : Int)) := by simpa using h1
                exact ⟨v, u, this, h, hun, hlt⟩
            · simp only [List.length_append, List.length_singleton]; omega
        · refine wp_seq_k (fun K62 hK62 => ?_)
          refine cF rfl hit (by simpa using h') ?_
          refine wp_exit ?_
          refine thenE ?_
          exact hx' _ _ ⟨G, pend, l, qv, (nx rfl t1), (nx rfl t2), (nx rfl t3), (nx rfl t5), (nx rfl t10), (nx rfl t11), (nx rfl t94), (nx rfl t95), (nx rfl t96), hsG, kG, hmG, hlv, hqG, hrG, hpe, by omega⟩
      clear t1 t2 t3 t5 t10 t11 t94 t95 t96 hsG kG hmG hlv hqG hrG hpe hSG hc
      rintro τ wi ⟨G, pend, l, qv, t1, t2, t3, t5, t10, t11, t94, t95, t96, hsG, kG, hmG, hlv, hqG, hrG, hpe, hpl⟩
      refine inBN ?_
      refine hK47 _ _ ?_
      clear hK47
      refine reg ?_
      refine sq rfl (do_inc (tm rfl t96) ck (by omega)) ?_
      refine sq rfl (do_move (tm rfl hit)) ?_
      refine wnil ?_
      exact hnn (n - (v + 1)) _ _ (by omega) ⟨v + 1, G, pend, l, qv, rfl, by omega, (nx rfl (nx rfl t1)), (nx rfl (nx rfl t2)), (nx rfl (nx rfl t3)), (nx rfl (nx rfl t5)), (nx rfl (nx rfl t10)), (nx rfl (nx rfl t11)), (nx rfl (nx rfl t94)), (nx rfl (nx rfl t95)), hit, hsG, kG, hmG, hlv, hqG, hrG, hpe, by omega⟩
    · refine wp_seq_k (fun K63 hK63 => ?_)
      refine cF rfl hit (by simpa using h) ?_
      refine wp_exit ?_
      refine thenE ?_
      have htl := sumLen_take_le succ v
      exact hx _ _ ⟨G, pend, l, qv, (nx rfl t1), (nx rfl t2), (nx rfl t3), (nx rfl t5), (nx rfl t10), (nx rfl t11), hsG, kG, hmG, hlv, hqG, hrG, hpe, by omega⟩
  clear t1 t2 t3 t5 hqv hmx9 hs9
  rintro τ wA ⟨HA, pend, lE, qv, t1, t2, t3, t5, t10, t11, hsA, kB, hmA, hlvA, hqA, hrA, hpeA, hplA⟩
  refine hK42 _ _ ?_
  clear hK42
  have hevA := kB.vb (t := 24) (by decide) hev9
  have hpA := kB.vb (t := 1) (by decide) hp9
  have hpvA := kB.vb (t := 20) (by decide) hpv9
  have hwlA := kB.vb (t := 21) (by decide) hwl9
  have hilA := kB.vb (t := 22) (by decide) hil9
  have hmwA : MapV (HA 23) bM pk lW := by rw [kB 23 (by decide)]; exact hmw9
  have hSA : TabV (HA 8) 22 3 1 encI (.slice sa n sc) succ := by rw [kB 8 (by decide)]; exact hS9
  have hRA : TabV (HA 2) 22 3 1 encI (.slice ra n rc) reads := by rw [kB 2 (by decide)]; exact hR9
  have hWA : TabV (HA 3) 61 63 2 encP (.slice wa n wc) writes := by rw [kB 3 (by decide)]; exact hW9
  have hDA : TabV (HA 6) 22 3 1 encI (.slice da M dc) readers := by rw [kB 6 (by decide)]; exact hD9
  have kC : Same [8, 20, 21, 22, 23, 24, 25, 26, 27, 28] H HA := kA.trans (kB.mono (by decide))
  clear hev9 hp9 hpv9 hwl9 hil9 hmw9 hS9 hR9 hW9 hD9 kA kB
  refine wp_seq_k (fun K64 hK64 => ?_)
  refine reg ?_
  refine sq rfl (do_makeFunc (a := #[]) (by simp) (map3 (tm rfl t10) (tm rfl t11) (tm rfl t1))) ?_
  refine sq rfl (do_assign (tm rfl hit)) ?_
  refine wnil ?_
  refine hK64 _ _ ?_
  clear hK64
  obtain ⟨q0a, q0c, rfl⟩ := hrA.slice
  refine wp_seq_k (fun K65 hK65 => ?_)
  refine reg ?_
  refine sq rfl (do_load T85 rfl (tm rfl (nx rfl (nx rfl t11))) (hqA.cell hsA (i := 0) rfl)) ?_
  refine sq rfl (do_len Try.underlying85 (tm rfl hit)) ?_
  refine sq rfl (do_move (tm rfl (nx rfl (nx rfl (nx rfl (nx rfl t5)))))) ?_
  refine sq rfl (hmwA.len hsA Try.underlying84 (tm rfl hit)) ?_
  refine sq rfl (do_addM (tm rfl (nx rfl (nx rfl hit))) (tm rfl hit) (by omega)) ?_
  refine sq rfl (do_assign (tm rfl hit)) ?_
  refine cutL ?_
  intro τ66 e66
  have c66_1 := (congrFun e66 1).trans (nx rfl (nx rfl (nx rfl (nx rfl (nx rfl (nx rfl (nx rfl (nx rfl t1))))))))
  have c66_2 := (congrFun e66 2).trans (nx rfl (nx rfl (nx rfl (nx rfl (nx rfl (nx rfl (nx rfl (nx rfl t2))))))))
  have c66_3 := (congrFun e66 3).trans (nx rfl (nx rfl (nx rfl (nx rfl (nx rfl (nx rfl (nx rfl (nx rfl t3))))))))
  have c66_5 := (congrFun e66 5).trans (nx rfl (nx rfl (nx rfl (nx rfl (nx rfl (nx rfl (nx rfl (nx rfl t5))))))))
  have c66_10 := (congrFun e66 10).trans (nx rfl (nx rfl (nx rfl (nx rfl (nx rfl (nx rfl (nx rfl (nx rfl t10))))))))
  have c66_11 := (congrFun e66 11).trans (nx rfl (nx rfl (nx rfl (nx rfl (nx rfl (nx rfl (nx rfl (nx rfl t11))))))))
  have c66_17 := (congrFun e66 17).trans (nx rfl (nx rfl (nx rfl (nx rfl (nx rfl (nx rfl hit))))))
  have c66_18 := (congrFun e66 18).trans hit
  clear e66
  refine wnil ?_
  refine hK65 _ _ ?_
  clear hK65
  refine wp_seq_k (fun K67 hK67 => ?_)
  refine wp_seq_k (fun K68 hK68 => ?_)
  refine reg ?_
  refine sq rfl (do_load T33 rfl (tm rfl c66_1) (hpvA.cell hsA (i := 0) rfl)) ?_
  refine sq rfl (do_nilCheck (tm rfl hit)) ?_
  refine sq rfl (fa58_4 (tm rfl hit)) ?_
  refine sq rfl (do_load T37 rfl (tm rfl hit) (hpA.cell hsA (i := 4) rfl)) ?_
  refine sq rfl (do_len Try.underlying37 (tm rfl hit)) ?_
  refine sq rfl (do_move (v := .int .i64 ((0 : Nat) : Int)) rfl) ?_
  refine cutL ?_
  intro τ69 e69
  have c69_1 := (congrFun e69 1).trans (nx rfl (nx rfl (nx rfl (nx rfl (nx rfl (nx rfl c66_1))))))
  have c69_2 := (congrFun e69 2).trans (nx rfl (nx rfl (nx rfl (nx rfl (nx rfl (nx rfl c66_2))))))
  have c69_3 := (congrFun e69 3).trans (nx rfl (nx rfl (nx rfl (nx rfl (nx rfl (nx rfl c66_3))))))
  have c69_5 := (congrFun e69 5).trans (nx rfl (nx rfl (nx rfl (nx rfl (nx rfl (nx rfl c66_5))))))
  have c69_10 := (congrFun e69 10).trans (nx rfl (nx rfl (nx rfl (nx rfl (nx rfl (nx rfl c66_10))))))
  have c69_11 := (congrFun e69 11).trans (nx rfl (nx rfl (nx rfl (nx rfl (nx rfl (nx rfl c66_11))))))
  have c69_17 := (congrFun e69 17).trans (nx rfl (nx rfl (nx rfl (nx rfl (nx rfl (nx rfl c66_17))))))
  have c69_18 := (congrFun e69 18).trans (nx rfl (nx rfl (nx rfl (nx rfl (nx rfl (nx rfl c66_18))))))
  have c69_131 := (congrFun e69 131).trans (nx rfl (nx rfl hit))
  have c69_132 := (congrFun e69 132).trans (nx rfl hit)
  have c69_133 := (congrFun e69 133).trans hit
  clear e69
  refine wnil ?_
  refine hK68 _ _ ?_
  clear hK68
  refine forLoop (N := 248) (fun r τ wi => ∃ (i : Nat), r = M - i ∧ i ≤ M ∧ τ 1 = .pointer (some ⟨bV, 0, none⟩) ∧ τ 2 = .slice (some ⟨bW, 0, none⟩) M M ∧ τ 3 = .slice (some ⟨bI, 0, none⟩) M M ∧ τ 5 = .map (some bM) ∧ τ 11 = .pointer (some ⟨bQ, 0, none⟩) ∧ τ 17 = .func (.func 39) #[] #[.pointer (some ⟨bE, 0, none⟩), .pointer (some ⟨bQ, 0, none⟩), .pointer (some ⟨bV, 0, none⟩)] ∧ τ 131 = .slice da M dc ∧ τ 132 = .int .i64 (M : Int) ∧ τ 133 = .int .i64 (i : Int) ∧ τ 18 = .int .i64 ((pend.length + lW.length + sumLen (readers.take i) : Nat) : Int) ∧ wi = wA)
    (fun τ wi => τ 1 = .pointer (some ⟨bV, 0, none⟩) ∧ τ 2 = .slice (some ⟨bW, 0, none⟩) M M ∧ τ 3 = .slice (some ⟨bI, 0, none⟩) M M ∧ τ 5 = .map (some bM) ∧ τ 11 = .pointer (some ⟨bQ, 0, none⟩) ∧ τ 17 = .func (.func 39) #[] #[.pointer (some ⟨bE, 0, none⟩), .pointer (some ⟨bQ, 0, none⟩), .pointer (some ⟨bV, 0, none⟩)] ∧ τ 18 = .int .i64 ((pend.length + lW.length + sumLen readers : Nat) : Int) ∧ wi = wA) M ?_ ?_ ?_
  · exact ⟨0, rfl, Nat.zero_le _, c69_1, c69_2, c69_3, c69_5, c69_11, c69_17, c69_131, c69_132, c69_133, c69_18, rfl⟩
  · clear t1 t2 t3 t5 t10 t11
    rintro Q' r τ wi hnn hx hr ⟨i, rfl, hi, t1, t2, t3, t5, t11, t17, t131, t132, t133, t18, rfl⟩
    refine wp_seq_k (fun K70 hK70 => ?_)
    refine reg ?_
    refine sq rfl (do_lss (tm rfl t133) (tm rfl t132)) ?_
    refine wnil ?_
    refine hK70 _ _ ?_
    clear hK70
    by_cases h : i < M
    · refine wp_seq_k (fun K71 hK71 => ?_)
      refine cT rfl hit (by simpa using h) ?_
      refine wp_skip ?_
      refine hK71 _ _ ?_
      clear hK71
      obtain ⟨g, c, rfl, hc, _, hrow⟩ := hDA.getS hsA (i := i) (by omega)
      obtain ⟨ia, ic, rfl⟩ := hrow.slice
      have hts := sumLen_take readers i (by omega)
      have htl := sumLen_take_le readers (i + 1)
      refine wp_seq_k (fun K72 hK72 => ?_)
      refine wp_block ?_
      refine wp_seq_k (fun K73 hK73 => ?_)
      refine reg ?_
      refine sq rfl (ix37 (tm rfl (nx rfl t131)) (tm rfl (nx rfl t133)) (by omega)) ?_
      refine sq rfl (do_load T22 rfl (tm rfl hit) hc) ?_
      refine sq rfl (do_assign (tm rfl hit)) ?_
      refine cutL ?_
      intro τ74 e74
      have c74_1 := (congrFun e74 1).trans (nx rfl (nx rfl (nx rfl (nx rfl t1))))
      have c74_2 := (congrFun e74 2).trans (nx rfl (nx rfl (nx rfl (nx rfl t2))))
      have c74_3 := (congrFun e74 3).trans (nx rfl (nx rfl (nx rfl (nx rfl t3))))
      have c74_5 := (congrFun e74 5).trans (nx rfl (nx rfl (nx rfl (nx rfl t5))))
      have c74_11 := (congrFun e74 11).trans (nx rfl (nx rfl (nx rfl (nx rfl t11))))
      have c74_17 := (congrFun e74 17).trans (nx rfl (nx rfl (nx rfl (nx rfl t17))))
      have c74_18 := (congrFun e74 18).trans (nx rfl (nx rfl (nx rfl (nx rfl t18))))
      have c74_20 := (congrFun e74 20).trans hit
      have c74_131 := (congrFun e74 131).trans (nx rfl (nx rfl (nx rfl (nx rfl t131))))
      have c74_132 := (congrFun e74 132).trans (nx rfl (nx rfl (nx rfl (nx rfl t132))))
      have c74_133 := (congrFun e74 133).trans (nx rfl (nx rfl (nx rfl (nx rfl t133))))
      clear e74
      refine wnil ?_
      refine hK73 _ _ ?_
      clear hK73
      refine reg ?_
      refine sq rfl (do_move (tm rfl c74_18)) ?_
      refine sq rfl (do_move (tm rfl (nx rfl c74_20))) ?_
      refine sq rfl (do_len Try.underlying22 (tm rfl hit)) ?_
      refine sq rfl (do_addN (tm rfl (nx rfl (nx rfl hit))) (tm rfl hit) (show pend.length + lW.length + sumLen (readers.take i) + (readers[i]'(by omega)).length = pend.length + lW.length + sumLen (readers.take (i + 1)) by omega) (by omega)) ?_
      refine sq rfl (do_assign (tm rfl hit)) ?_
      refine cutL ?_
      intro τ75 e75
      have c75_1 := (congrFun e75 1).trans (nx rfl (nx rfl (nx rfl (nx rfl (nx rfl c74_1)))))
      have c75_2 := (congrFun e75 2).trans (nx rfl (nx rfl (nx rfl (nx rfl (nx rfl c74_2)))))
      have c75_3 := (congrFun e75 3).trans (nx rfl (nx rfl (nx rfl (nx rfl (nx rfl c74_3)))))
      have c75_5 := (congrFun e75 5).trans (nx rfl (nx rfl (nx rfl (nx rfl (nx rfl c74_5)))))
      have c75_11 := (congrFun e75 11).trans (nx rfl (nx rfl (nx rfl (nx rfl (nx rfl c74_11)))))
      have c75_17 := (congrFun e75 17).trans (nx rfl (nx rfl (nx rfl (nx rfl (nx rfl c74_17)))))
      have c75_18 := (congrFun e75 18).trans hit
      have c75_20 := (congrFun e75 20).trans (nx rfl (nx rfl (nx rfl (nx rfl (nx rfl c74_20)))))
      have c75_131 := (congrFun e75 131).trans (nx rfl (nx rfl (nx rfl (nx rfl (nx rfl c74_131)))))
      have c75_132 := (congrFun e75 132).trans (nx rfl (nx rfl (nx rfl (nx rfl (nx rfl c74_132)))))
      have c75_133 := (congrFun e75 133).trans (nx rfl (nx rfl (nx rfl (nx rfl (nx rfl c74_133)))))
      clear e75
      refine wnil ?_
      refine inBN ?_
      refine hK72 _ _ ?_
      clear hK72
      refine reg ?_
      refine sq rfl (do_inc (tm rfl c75_133) ck (by omega)) ?_
      refine sq rfl (do_move (tm rfl hit)) ?_
      refine wnil ?_
      exact hnn (M - (i + 1)) _ _ (by omega) ⟨i + 1, rfl, by omega, (nx rfl (nx rfl c75_1)), (nx rfl (nx rfl c75_2)), (nx rfl (nx rfl c75_3)), (nx rfl (nx rfl c75_5)), (nx rfl (nx rfl c75_11)), (nx rfl (nx rfl c75_17)), (nx rfl (nx rfl c75_131)), (nx rfl (nx rfl c75_132)), hit, (nx rfl (nx rfl c75_18)), rfl⟩
    · refine wp_seq_k (fun K76 hK76 => ?_)
      refine cF rfl hit (by simpa using h) ?_
      refine wp_exit ?_
      refine thenE ?_
      have : readers.take i = readers := List.take_of_length_le (by omega)
      rw [this] at t18
      exact hx _ _ ⟨(nx rfl t1), (nx rfl t2), (nx rfl t3), (nx rfl t5), (nx rfl t11), (nx rfl t17), (nx rfl t18), rfl⟩
  clear t1 t2 t3 t5 t10 t11
  rintro τ wi ⟨t1, t2, t3, t5, t11, t17, t18, rfl⟩
  refine hK67 _ _ ?_
  clear hK67
  have hWt : pend.length + lW.length + sumLen readers ≤ C + 131072 := by omega
  generalize pend.length + lW.length + sumLen readers = Wt at *
  refine wp_seq_k (fun K77 hK77 => ?_)
  refine reg ?_
  refine sq rfl (do_move (tm rfl t18)) ?_
  refine sq rfl (do_mul (tm rfl hit) ck (by omega)) ?_
  refine sq rfl (do_assign (tm rfl hit)) ?_
  refine wnil ?_
  refine hK77 _ _ ?_
  clear hK77
  have hDyn0 : Dyn N w0 HA (.slice sa n sc) bX bQ n rk wi (sumLen succ) pend.length :=
    ⟨HA, succ, pend, lE, .slice q0a pend.length q0c, hsA, Same.refl _ _, hSA, hmA, hlvA, hqA, hrA, hsl, rfl, rfl, hed, hpeA⟩
  clear hSA hmA hlvA hqA hrA hpeA hsA
  generalize hK2 : pend.length + 8 * Wt = K2 at *
  generalize hK1 : sumLen succ + 8 * Wt = K1 at *
  refine forLoop (N := 248) (fun r τ wi => ∃ (S P : Nat) (W : Int), τ 1 = .pointer (some ⟨bV, 0, none⟩) ∧ τ 2 = .slice (some ⟨bW, 0, none⟩) M M ∧ τ 3 = .slice (some ⟨bI, 0, none⟩) M M ∧ τ 5 = .map (some bM) ∧ τ 11 = .pointer (some ⟨bQ, 0, none⟩) ∧ τ 17 = .func (.func 39) #[] #[.pointer (some ⟨bE, 0, none⟩), .pointer (some ⟨bQ, 0, none⟩), .pointer (some ⟨bV, 0, none⟩)] ∧ τ 18 = .int .i64 W ∧ Dyn N w0 HA (.slice sa n sc) bX bQ n rk wi S P ∧ (P : Int) + W ≤ (r : Int) ∧ r ≤ K2 ∧ (S : Int) + W ≤ (K1 : Int) ∧ -4295098368 ≤ W)
    (fun τ wi => ∃ (S P : Nat) (W : Int), Dyn N w0 HA (.slice sa n sc) bX bQ n rk wi S P ∧ (S : Int) + W ≤ (K1 : Int) ∧ -4295098368 ≤ W) K2 ?_ ?_ ?_
  · exact ⟨_, _, _, (nx rfl (nx rfl (nx rfl t1))), (nx rfl (nx rfl (nx rfl t2))), (nx rfl (nx rfl (nx rfl t3))), (nx rfl (nx rfl (nx rfl t5))), (nx rfl (nx rfl (nx rfl t11))), (nx rfl (nx rfl (nx rfl t17))), hit, hDyn0, by omega, Nat.le_refl _, by omega, by omega⟩
  · clear t1 t2 t3 t5 t11 t17 t18 hDyn0
    rintro Q' r τ wi hnn hx hr ⟨S, P, W, t1, t2, t3, t5, t11, t17, t18, hD, hm1, hm2, hm3, hm4⟩
    obtain ⟨G, rows, pd, l, qv, hsG, kG, hT, hmp, hlv, hqv, hq, hrl, hsum, hpl, hed', hpe⟩ := id hD
    obtain ⟨qa2, qc2, rfl⟩ := hq.slice
    have cq := hqv.cell hsG (i := 0) rfl
    by_cases hP : pd.length = 0
    · refine wp_seq_k (fun K78 hK78 => ?_)
      refine wp_seq_k (fun K79 hK79 => ?_)
      refine reg ?_
      refine sq rfl (do_load T85 rfl (tm rfl t11) cq) ?_
      refine sq rfl (do_len Try.underlying85 (tm rfl hit)) ?_
      refine sq rfl (do_gtrF (tm rfl hit) ck (by omega)) ?_
      refine sq rfl (do_move (tm rfl hit)) ?_
      refine sqs rfl rfl hit rfl rfl ?_
      refine sqs rfl rfl (nx rfl hit) rfl rfl ?_
      refine sq rfl (do_pickF (tm rfl (nx rfl (nx rfl hit))) ck) ?_
      refine cutL ?_
      intro τ80 e80
      have c80_1 := (congrFun e80 1).trans (nx rfl (nx rfl (nx rfl (nx rfl (nx rfl (nx rfl (nx rfl t1)))))))
      have c80_2 := (congrFun e80 2).trans (nx rfl (nx rfl (nx rfl (nx rfl (nx rfl (nx rfl (nx rfl t2)))))))
      have c80_3 := (congrFun e80 3).trans (nx rfl (nx rfl (nx rfl (nx rfl (nx rfl (nx rfl (nx rfl t3)))))))
      have c80_5 := (congrFun e80 5).trans (nx rfl (nx rfl (nx rfl (nx rfl (nx rfl (nx rfl (nx rfl t5)))))))
      have c80_11 := (congrFun e80 11).trans (nx rfl (nx rfl (nx rfl (nx rfl (nx rfl (nx rfl (nx rfl t11)))))))
      have c80_17 := (congrFun e80 17).trans (nx rfl (nx rfl (nx rfl (nx rfl (nx rfl (nx rfl (nx rfl t17)))))))
      have c80_18 := (congrFun e80 18).trans (nx rfl (nx rfl (nx rfl (nx rfl (nx rfl (nx rfl (nx rfl t18)))))))
      have c80_150 := (congrFun e80 150).trans hit
      clear e80
      refine wnil ?_
      refine hK79 _ _ ?_
      clear hK79
      refine cF rfl c80_150 rfl ?_
      refine wp_exit ?_
      refine thenE ?_
      exact hx _ _ ⟨S, P, W, hD, hm3, hm4⟩
    · by_cases hW0 : W ≤ 0
      · refine wp_seq_k (fun K81 hK81 => ?_)
        refine wp_seq_k (fun K82 hK82 => ?_)
        refine reg ?_
        refine sq rfl (do_load T85 rfl (tm rfl t11) cq) ?_
        refine sq rfl (do_len Try.underlying85 (tm rfl hit)) ?_
        refine sq rfl (do_gtrT (tm rfl hit) ck (by omega)) ?_
        refine sq rfl (do_move (tm rfl hit)) ?_
        refine sqg rfl rfl hit rfl (do_move (tm rfl (nx rfl (nx rfl (nx rfl (nx rfl t18)))))) ?_
        refine sqg rfl rfl (nx rfl hit) rfl (do_gtrF (tm rfl hit) ck (by omega)) ?_
        refine sq rfl (do_pickT (tm rfl (nx rfl (nx rfl hit))) (tm rfl hit)) ?_
        refine cutL ?_
        intro τ83 e83
        have c83_1 := (congrFun e83 1).trans (nx rfl (nx rfl (nx rfl (nx rfl (nx rfl (nx rfl (nx rfl t1)))))))
        have c83_2 := (congrFun e83 2).trans (nx rfl (nx rfl (nx rfl (nx rfl (nx rfl (nx rfl (nx rfl t2)))))))
        have c83_3 := (congrFun e83 3).trans (nx rfl (nx rfl (nx rfl (nx rfl (nx rfl (nx rfl (nx rfl t3)))))))
        have c83_5 := (congrFun e83 5).trans (nx rfl (nx rfl (nx rfl (nx rfl (nx rfl (nx rfl (nx rfl t5)))))))
        have c83_11 := (congrFun e83 11).trans (nx rfl (nx rfl (nx rfl (nx rfl (nx rfl (nx rfl (nx rfl t11)))))))
        have c83_17 := (congrFun e83 17).trans (nx rfl (nx rfl (nx rfl (nx rfl (nx rfl (nx rfl (nx rfl t17)))))))
        have c83_18 := (congrFun e83 18).trans (nx rfl (nx rfl (nx rfl (nx rfl (nx rfl (nx rfl (nx rfl t18)))))))
        have c83_150 := (congrFun e83 150).trans hit
        clear e83
        refine wnil ?_
        refine hK82 _ _ ?_
        clear hK82
        refine cF rfl c83_150 rfl ?_
        refine wp_exit ?_
        refine thenE ?_
        exact hx _ _ ⟨S, P, W, hD, hm3, hm4⟩
      · refine wp_seq_k (fun K84 hK84 => ?_)
        refine wp_seq_k (fun K85 hK85 => ?_)
        refine reg ?_
        refine sq rfl (do_load T85 rfl (tm rfl t11) cq) ?_
        refine sq rfl (do_len Try.underlying85 (tm rfl hit)) ?_
        refine sq rfl (do_gtrT (tm rfl hit) ck (by omega)) ?_
        refine sq rfl (do_move (tm rfl hit)) ?_
        refine sqg rfl rfl hit rfl (do_move (tm rfl (nx rfl (nx rfl (nx rfl (nx rfl t18)))))) ?_
        refine sqg rfl rfl (nx rfl hit) rfl (do_gtrT (tm rfl hit) ck (by omega)) ?_
        refine sq rfl (do_pickT (tm rfl (nx rfl (nx rfl hit))) (tm rfl hit)) ?_
        refine cutL ?_
        intro τ86 e86
        have c86_1 := (congrFun e86 1).trans (nx rfl (nx rfl (nx rfl (nx rfl (nx rfl (nx rfl (nx rfl t1)))))))
        have c86_2 := (congrFun e86 2).trans (nx rfl (nx rfl (nx rfl (nx rfl (nx rfl (nx rfl (nx rfl t2)))))))
        have c86_3 := (congrFun e86 3).trans (nx rfl (nx rfl (nx rfl (nx rfl (nx rfl (nx rfl (nx rfl t3)))))))
        have c86_5 := (congrFun e86 5).trans (nx rfl (nx rfl (nx rfl (nx rfl (nx rfl (nx rfl (nx rfl t5)))))))
        have c86_11 := (congrFun e86 11).trans (nx rfl (nx rfl (nx rfl (nx rfl (nx rfl (nx rfl (nx rfl t11)))))))
        have c86_17 := (congrFun e86 17).trans (nx rfl (nx rfl (nx rfl (nx rfl (nx rfl (nx rfl (nx rfl t17)))))))
        have c86_18 := (congrFun e86 18).trans (nx rfl (nx rfl (nx rfl (nx rfl (nx rfl (nx rfl (nx rfl t18)))))))
        have c86_150 := (congrFun e86 150).trans hit
        clear e86
        refine wnil ?_
        refine hK85 _ _ ?_
        clear hK85
        refine cT rfl c86_150 rfl ?_
        refine wp_skip ?_
        refine hK84 _ _ ?_
        clear hK84
        obtain ⟨p', hp'⟩ : ∃ p', pd.length = p' + 1 := ⟨pd.length - 1, by omega⟩
        obtain ⟨e1, e2⟩ := flatP_get pd p' (by omega)
        obtain ⟨g, rfl, f1, _⟩ := hq.cellS hsG e1
        obtain ⟨g2, hg2, f2, _⟩ := hq.cellS hsG e2
        cases hg2
        obtain ⟨a, b, hab, ha, hb, hlt⟩ := hpe (pd[p']'(by omega)) (List.getElem_mem _)
        rw [hab] at f1 f2
        have hcap := hq.capge
        refine wp_block ?_
        refine wp_seq_k (fun K87 hK87 => ?_)
        refine reg ?_
        refine sq rfl (do_load T85 rfl (tm rfl c86_11) cq) ?_
        refine sq rfl (do_load T85 rfl (tm rfl (nx rfl c86_11)) cq) ?_
        refine sq rfl (do_len Try.underlying85 (tm rfl hit)) ?_
        refine sq rfl ((do_sub (tm rfl hit) ck ⟨by omega, by omega⟩).cast (show Value.int .i64 ((pd.length : Int) - 1) = .int .i64 (p' : Int) by rw [hp']; simp)) ?_
        refine sq rfl (ix85 (tm rfl (nx rfl (nx rfl (nx rfl hit)))) (tm rfl hit) (by omega)) ?_
        refine sq rfl (do_load2 T60 fl60 (tm rfl hit) f1 f2) ?_
        refine sq rfl (do_alloc T60) ?_
        refine sqn (do_store2 T60 (tm rfl hit) (tm rfl (nx rfl hit)) rfl rfl (new_cell wi _ _ 0 rfl) (new_cell wi _ _ 1 rfl) (new_frozen wi _ _ 0) (new_frozen wi _ _ 1)) ?_
        refine cutW ?_
        intro τ88 e88 xa hxa
        have c88_1 := (congrFun e88 1).trans (nx rfl (nx rfl (nx rfl (nx rfl (nx rfl (nx rfl (nx rfl c86_1)))))))
        have c88_2 := (congrFun e88 2).trans (nx rfl (nx rfl (nx rfl (nx rfl (nx rfl (nx rfl (nx rfl c86_2)))))))
        have c88_3 := (congrFun e88 3).trans (nx rfl (nx rfl (nx rfl (nx rfl (nx rfl (nx rfl (nx rfl c86_3)))))))
        have c88_5 := (congrFun e88 5).trans (nx rfl (nx rfl (nx rfl (nx rfl (nx rfl (nx rfl (nx rfl c86_5)))))))
        have c88_11 := (congrFun e88 11).trans (nx rfl (nx rfl (nx rfl (nx rfl (nx rfl (nx rfl (nx rfl c86_11)))))))
        have c88_17 := (congrFun e88 17).trans (nx rfl (nx rfl (nx rfl (nx rfl (nx rfl (nx rfl (nx rfl c86_17)))))))
        have c88_18 := (congrFun e88 18).trans (nx rfl (nx rfl (nx rfl (nx rfl (nx rfl (nx rfl (nx rfl c86_18)))))))
        have c88_21 := (congrFun e88 21).trans hit
        clear e88
        refine wnil ?_
        refine hK87 _ _ ?_
        clear hK87
        obtain ⟨G1, kG1, hraw, hE⟩ := var2 hsG 28 60 (.int .i64 0) (.int .i64 0) (.int .i64 (a : Int)) (.int .i64 (b : Int))
        have hsG1 : Split N w0 xa G1 := by rw [hxa]; exact hraw
        clear hxa hraw
        generalize wi.heap.size = bL at *
        have hqv1 := kG1.vb (t := 26) (by decide) hqv
        have cq1 := hqv1.cell hsG1 (i := 0) rfl
        obtain ⟨G2, kG2, hsG2, hqv2⟩ := hqv1.put hsG1 0 (.slice (some ⟨g, 0, none⟩) p' qc2)
        refine wp_seq_k (fun K89 hK89 => ?_)
        refine reg ?_
        refine sq rfl (do_load T85 rfl (tm rfl c88_11) cq1) ?_
        refine sq rfl (do_load T85 rfl (tm rfl (nx rfl c88_11)) cq1) ?_
        refine sq rfl (do_len Try.underlying85 (tm rfl hit)) ?_
        refine sq rfl ((do_sub (tm rfl hit) ck ⟨by omega, by omega⟩).cast (show Value.int .i64 ((pd.length : Int) - 1) = .int .i64 (p' : Int) by rw [hp']; simp)) ?_
        refine sq rfl (do_sliceHi T85 T60 (tm rfl (nx rfl (nx rfl (nx rfl hit)))) (tm rfl hit) (by omega)) ?_
        refine sqn (do_store T85 (tm rfl (nx rfl (nx rfl (nx rfl (nx rfl (nx rfl c88_11)))))) (tm rfl hit) rfl cq1 (hqv1.frozen hsG1 0)) ?_
        refine cutW ?_
        intro τ90 e90 xb hxb
        have c90_1 := (congrFun e90 1).trans (nx rfl (nx rfl (nx rfl (nx rfl (nx rfl c88_1)))))
        have c90_2 := (congrFun e90 2).trans (nx rfl (nx rfl (nx rfl (nx rfl (nx rfl c88_2)))))
        have c90_3 := (congrFun e90 3).trans (nx rfl (nx rfl (nx rfl (nx rfl (nx rfl c88_3)))))
        have c90_5 := (congrFun e90 5).trans (nx rfl (nx rfl (nx rfl (nx rfl (nx rfl c88_5)))))
        have c90_11 := (congrFun e90 11).trans (nx rfl (nx rfl (nx rfl (nx rfl (nx rfl c88_11)))))
        have c90_17 := (congrFun e90 17).trans (nx rfl (nx rfl (nx rfl (nx rfl (nx rfl c88_17)))))
        have c90_18 := (congrFun e90 18).trans (nx rfl (nx rfl (nx rfl (nx rfl (nx rfl c88_18)))))
        have c90_21 := (congrFun e90 21).trans (nx rfl (nx rfl (nx rfl (nx rfl (nx rfl c88_21)))))
        clear e90
        refine wnil ?_
        refine hK89 _ _ ?_
        clear hK89
        have hsG2 : Split N w0 xb G2 := by rw [hxb]; exact hsG2
        clear hxb
        have hE2 := kG2.vb (t := 28) (by decide) hE
        refine wp_seq_k (fun K91 hK91 => ?_)
        refine draw mixed [] [(0, 0), (0, 0), (0, 0), (0, 0), (0, 0), (0, 0)] [] (World.drew _) (upd (upd (upd (upd (upd (upd _ 162 _) 163 _) 164 _) 165 _) 22 _) 23 _) (by kernel_rfl) (fun s hs => ovr_off [(162, _), (163, _), (164, _), (165, _), (22, _), (23, _)] _ s hs) ⟨(qa rfl (fun _ => (ix60 (j := 0) (tm rfl (nx rfl (nx rfl (nx rfl (nx rfl (nx rfl (nx rfl c90_21))))))) rfl (by omega))) (nx rfl (nx rfl (nx rfl (nx rfl (nx rfl hit)))))), (qk rfl (do_load T3 rfl (tm rfl (nx rfl (nx rfl (nx rfl (nx rfl (nx rfl hit)))))) (hE2.cell hsG2.drew (i := 0) rfl)) (nx rfl (nx rfl (nx rfl (nx rfl hit))))), (qa rfl (fun _ => (ix60 (j := 1) (tm rfl (nx rfl (nx rfl (nx rfl (nx rfl (nx rfl (nx rfl c90_21))))))) rfl (by omega))) (nx rfl (nx rfl (nx rfl hit)))), (qk rfl (do_load T3 rfl (tm rfl (nx rfl (nx rfl (nx rfl hit)))) (hE2.cell hsG2.drew (i := 1) rfl)) (nx rfl (nx rfl hit))), (qa rfl (fun _ => (do_assign (tm rfl (nx rfl (nx rfl (nx rfl (nx rfl hit))))))) (nx rfl hit)), (qa rfl (fun _ => (do_assign (tm rfl (nx rfl (nx rfl hit))))) hit), trivial⟩ rfl ?_
        intro τ92 e92
        have c92_1 := (congrFun e92 1).trans (nx rfl (nx rfl (nx rfl (nx rfl (nx rfl (nx rfl c90_1))))))
        have c92_2 := (congrFun e92 2).trans (nx rfl (nx rfl (nx rfl (nx rfl (nx rfl (nx rfl c90_2))))))
        have c92_3 := (congrFun e92 3).trans (nx rfl (nx rfl (nx rfl (nx rfl (nx rfl (nx rfl c90_3))))))
        have c92_5 := (congrFun e92 5).trans (nx rfl (nx rfl (nx rfl (nx rfl (nx rfl (nx rfl c90_5))))))
        have c92_11 := (congrFun e92 11).trans (nx rfl (nx rfl (nx rfl (nx rfl (nx rfl (nx rfl c90_11))))))
        have c92_17 := (congrFun e92 17).trans (nx rfl (nx rfl (nx rfl (nx rfl (nx rfl (nx rfl c90_17))))))
        have c92_18 := (congrFun e92 18).trans (nx rfl (nx rfl (nx rfl (nx rfl (nx rfl (nx rfl c90_18))))))
        have c92_21 := (congrFun e92 21).trans (nx rfl (nx rfl (nx rfl (nx rfl (nx rfl (nx rfl c90_21))))))
        have c92_22 := (congrFun e92 22).trans (nx rfl hit)
        have c92_23 := (congrFun e92 23).trans hit
        clear e92
        refine hK91 _ _ ?_
        clear hK91
        have hD2 : Dyn N w0 HA (.slice sa n sc) bX bQ n rk xb.drew S p' := by
          refine ⟨G2, rows, pd.take p', l, .slice (some ⟨g, 0, none⟩) p' qc2, hsG2.drew, kG.trans ((kG1.mono (by decide)).trans (kG2.mono (by decide))), ?_, ?_, hlv, hqv2, ?_, hrl, hsum, by rw [List.length_take]; omega, hed', fun p hp => hpe p (List.mem_of_mem_take hp)⟩
          · rw [kG2 8 (by decide), kG1 8 (by decide)]; exact hT
          · rw [kG2 25 (by decide), kG1 25 (by decide)]; exact hmp
          · have h1 := hq.pop (m := p') (by omega)
            rw [← flatP_take] at h1
            have h2 : (pd.take p').length = p' := by rw [List.length_take]; omega
            rw [h2, kG2 27 (by decide), kG1 27 (by decide)]
            exact h1
        have hk1 : (p' : Int) + W ≤ (r : Int) - 1 := by omega
        have hr2 : 2 ≤ r := by omega
        clear hD hsG kG hT hmp hlv hqv hq hrl hsum hpl hed' hpe cq e1 e2 f1 f2 hab hcap kG1 hE hsG1 hqv1 cq1 kG2 hsG2 hqv2 hE2 hm1
        generalize xb.drew = xw at *
        obtain ⟨G, _, _, _, _, hsG, kG, _⟩ := id hD2
        have hRG : TabV (G 2) 22 3 1 encI (.slice ra n rc) reads := by rw [kG 2 (by decide)]; exact hRA
        obtain ⟨gr, cr, rfl, hcr, _, hrr⟩ := hRG.getS hsG (i := b) (by omega)
        obtain ⟨ia, ic, rfl⟩ := hrr.slice
        rw [kG 2 (by decide)] at hrr
        have hl1 := len_le_sum reads b (by omega)
        refine wp_seq_k (fun K93 hK93 => ?_)
        refine wp_seq_k (fun K94 hK94 => ?_)
        refine reg ?_
        refine sq rfl (do_load T33 rfl (tm rfl c92_1) ((kG.vb (t := 20) (by decide) hpvA).cell hsG (i := 0) rfl)) ?_
        refine sq rfl (do_nilCheck (tm rfl hit)) ?_
        refine sq rfl (fa58_0 (tm rfl hit)) ?_
        refine sq rfl (do_load T37 rfl (tm rfl hit) ((kG.vb (t := 1) (by decide) hpA).cell hsG (i := 0) rfl)) ?_
        refine sq rfl (do_move (tm rfl (nx rfl (nx rfl (nx rfl (nx rfl c92_23)))))) ?_
        refine sq rfl (ix37 (tm rfl (nx rfl hit)) (tm rfl hit) (by omega)) ?_
        refine sq rfl (do_load T22 rfl (tm rfl hit) hcr) ?_
        refine sq rfl (do_len Try.underlying22 (tm rfl hit)) ?_
        refine sq rfl (do_move (v := .int .i64 ((0 : Nat) : Int)) rfl) ?_
        refine cutL ?_
        intro τ95 e95
        have c95_1 := (congrFun e95 1).trans (nx rfl (nx rfl (nx rfl (nx rfl (nx rfl (nx rfl (nx rfl (nx rfl (nx rfl c92_1)))))))))
        have c95_2 := (congrFun e95 2).trans (nx rfl (nx rfl (nx rfl (nx rfl (nx rfl (nx rfl (nx rfl (nx rfl (nx rfl c92_2)))))))))
        have c95_3 := (congrFun e95 3).trans (nx rfl (nx rfl (nx rfl (nx rfl (nx rfl (nx rfl (nx rfl (nx rfl (nx rfl c92_3)))))))))
        have c95_5 := (congrFun e95 5).trans (nx rfl (nx rfl (nx rfl (nx rfl (nx rfl (nx rfl (nx rfl (nx rfl (nx rfl c92_5)))))))))
        have c95_11 := (congrFun e95 11).trans (nx rfl (nx rfl (nx rfl (nx rfl (nx rfl (nx rfl (nx rfl (nx rfl (nx rfl c92_11)))))))))
        have c95_17 := (congrFun e95 17).trans (nx rfl (nx rfl (nx rfl (nx rfl (nx rfl (nx rfl (nx rfl (nx rfl (nx rfl c92_17)))))))))
        have c95_18 := (congrFun e95 18).trans (nx rfl (nx rfl (nx rfl (nx rfl (nx rfl (nx rfl (nx rfl (nx rfl (nx rfl c92_18)))))))))
        have c95_21 := (congrFun e95 21).trans (nx rfl (nx rfl (nx rfl (nx rfl (nx rfl (nx rfl (nx rfl (nx rfl (nx rfl c92_21)))))))))
        have c95_22 := (congrFun e95 22).trans (nx rfl (nx rfl (nx rfl (nx rfl (nx rfl (nx rfl (nx rfl (nx rfl (nx rfl c92_22)))))))))
        have c95_23 := (congrFun e95 23).trans (nx rfl (nx rfl (nx rfl (nx rfl (nx rfl (nx rfl (nx rfl (nx rfl (nx rfl c92_23)))))))))
        have c95_172 := (congrFun e95 172).trans (nx rfl (nx rfl hit))
        have c95_173 := (congrFun e95 173).trans (nx rfl hit)
        have c95_174 := (congrFun e95 174).trans hit
        clear e95
        refine wnil ?_
        refine hK94 _ _ ?_
        clear hK94
        clear hsG kG hRG hcr
        refine forLoop (N := 248) (fun q τ wi => ∃ (j S P : Nat) (W : Int), q = reads[b].length - j ∧ j ≤ reads[b].length ∧ τ 1 = .pointer (some ⟨bV, 0, none⟩) ∧ τ 2 = .slice (some ⟨bW, 0, none⟩) M M ∧ τ 3 = .slice (some ⟨bI, 0, none⟩) M M ∧ τ 5 = .map (some bM) ∧ τ 11 = .pointer (some ⟨bQ, 0, none⟩) ∧ τ 17 = .func (.func 39) #[] #[.pointer (some ⟨bE, 0, none⟩), .pointer (some ⟨bQ, 0, none⟩), .pointer (some ⟨bV, 0, none⟩)] ∧ τ 18 = .int .i64 W ∧ τ 22 = .int .i64 (a : Int) ∧ τ 23 = .int .i64 (b : Int) ∧ τ 172 = .slice ia reads[b].length ic ∧ τ 173 = .int .i64 (reads[b].length : Int) ∧ τ 174 = .int .i64 (j : Int) ∧
            Dyn N w0 HA (.slice sa n sc) bX bQ n rk wi S P ∧ (P : Int) + W ≤ (r : Int) - 1 ∧ (S : Int) + W ≤ (K1 : Int) ∧ 1 - (j : Int) ≤ W)
          (fun τ wi => ∃ (S P : Nat) (W : Int), τ 1 = .pointer (some ⟨bV, 0, none⟩) ∧ τ 2 = .slice (some ⟨bW, 0, none⟩) M M ∧ τ 3 = .slice (some ⟨bI, 0, none⟩) M M ∧ τ 5 = .map (some bM) ∧ τ 11 = .pointer (some ⟨bQ, 0, none⟩) ∧ τ 17 = .func (.func 39) #[] #[.pointer (some ⟨bE, 0, none⟩), .pointer (some ⟨bQ, 0, none⟩), .pointer (some ⟨bV, 0, none⟩)] ∧ τ 18 = .int .i64 W ∧ τ 22 = .int .i64 (a : Int) ∧ τ 23 = .int .i64 (b : Int) ∧
            Dyn N w0 HA (.slice sa n sc) bX bQ n rk wi S P ∧ (P : Int) + W ≤ (r : Int) - 1 ∧ (S : Int) + W ≤ (K1 : Int) ∧ 1 - (65536 : Int) ≤ W) reads[b].length ?_ ?_ ?_
        · exact ⟨0, S, p', W, rfl, Nat.zero_le _, c95_1, c95_2, c95_3, c95_5, c95_11, c95_17, c95_18, c95_22, c95_23, c95_172, c95_173, c95_174, hD2, hk1, hm3, by omega⟩
        · clear hD2 hk1 hm3 hm4 t1 t2 t3 t5 t11 t17 t18
          rintro Q'' q τ wi hnn' hx' hr' ⟨j, S, P, W, rfl, hj, t1, t2, t3, t5, t11, t17, t18, t22, t23, t172, t173, t174, hD, hn1, hn2, hn3⟩
          refine wp_seq_k (fun K96 hK96 => ?_)
          refine reg ?_
          refine sq rfl (do_lss (tm rfl t174) (tm rfl t173)) ?_
          refine wnil ?_
          refine hK96 _ _ ?_
          clear hK96
          by_cases h' : j < reads[b].length
          · refine wp_seq_k (fun K97 hK97 => ?_)
            refine cT rfl hit (by simpa using h') ?_
            refine wp_skip ?_
            refine hK97 _ _ ?_
            clear hK97
            obtain ⟨G, _, _, _, _, hsG, kG, _⟩ := id hD
            have hrG : RowV (G 2) 3 1 (.slice ia reads[b].length ic) reads[b].length (reads[b].flatMap encI) := by rw [kG 2 (by decide)]; exact hrr
            obtain ⟨g1, rfl, f1, _⟩ := hrG.cellS hsG (cellI h')
            obtain ⟨i, hi, hiM, hBt⟩ := F.rd b (by omega) reads[b][j] (List.getElem_mem _)
            rw [hi] at f1
            refine wp_seq_k (fun K98 hK98 => ?_)
            refine wp_block ?_
            refine wp_seq_k (fun K99 hK99 => ?_)
            refine reg ?_
            refine sq rfl (ix22 (tm rfl (nx rfl t172)) (tm rfl (nx rfl t174)) (by omega)) ?_
            refine sq rfl (do_load T3 rfl (tm rfl hit) f1) ?_
            refine sq rfl (do_assign (tm rfl hit)) ?_
            refine cutL ?_
            intro τ100 e100
            have c100_1 := (congrFun e100 1).trans (nx rfl (nx rfl (nx rfl (nx rfl t1))))
            have c100_2 := (congrFun e100 2).trans (nx rfl (nx rfl (nx rfl (nx rfl t2))))
            have c100_3 := (congrFun e100 3).trans (nx rfl (nx rfl (nx rfl (nx rfl t3))))
            have c100_5 := (congrFun e100 5).trans (nx rfl (nx rfl (nx rfl (nx rfl t5))))
            have c100_11 := (congrFun e100 11).trans (nx rfl (nx rfl (nx rfl (nx rfl t11))))
            have c100_17 := (congrFun e100 17).trans (nx rfl (nx rfl (nx rfl (nx rfl t17))))
            have c100_18 := (congrFun e100 18).trans (nx rfl (nx rfl (nx rfl (nx rfl t18))))
            have c100_22 := (congrFun e100 22).trans (nx rfl (nx rfl (nx rfl (nx rfl t22))))
            have c100_23 := (congrFun e100 23).trans (nx rfl (nx rfl (nx rfl (nx rfl t23))))
            have c100_25 := (congrFun e100 25).trans hit
            have c100_172 := (congrFun e100 172).trans (nx rfl (nx rfl (nx rfl (nx rfl t172))))
            have c100_173 := (congrFun e100 173).trans (nx rfl (nx rfl (nx rfl (nx rfl t173))))
            have c100_174 := (congrFun e100 174).trans (nx rfl (nx rfl (nx rfl (nx rfl t174))))
            clear e100
            refine wnil ?_
            refine hK99 _ _ ?_
            clear hK99
            refine wp_seq_k (fun K101 hK101 => ?_)
            refine reg ?_
            refine sq rfl (do_move (tm rfl c100_18)) ?_
            refine sq rfl (do_sub (tm rfl hit) ck ⟨by omega, by omega⟩) ?_
            refine sq rfl (do_assign (tm rfl hit)) ?_
            refine wnil ?_
            refine hK101 _ _ ?_
            clear hK101
            have hwG := kG.vb (t := 21) (by decide) hwlA
            have hiG := kG.vb (t := 22) (by decide) hilA
            have hmG : MapV (G 23) bM pk lW := by rw [kG 23 (by decide)]; exact hmwA
            rcases hWI i (by omega) with hno | ⟨a', ha', hwa', hwt, hit'⟩
            · refine wp_seq_k (fun K102 hK102 => ?_)
              refine reg ?_
              refine sq rfl (do_move (tm rfl (nx rfl (nx rfl (nx rfl c100_2))))) ?_
              refine sq rfl (do_move (tm rfl (nx rfl (nx rfl (nx rfl (nx rfl c100_25)))))) ?_
              refine sq rfl (ix22 (tm rfl (nx rfl hit)) (tm rfl hit) (by omega)) ?_
              refine sq rfl (do_load T3 rfl (tm rfl hit) (hwG.cell hsG (show (ints wl)[i]? = some (.int .i64 (-1)) by simp [ints, hno]))) ?_
              refine sq rfl (do_assign (tm rfl hit)) ?_
              refine cutL ?_
              intro τ103 e103
              have c103_1 := (congrFun e103 1).trans (nx rfl (nx rfl (nx rfl (nx rfl (nx rfl (nx rfl (nx rfl (nx rfl c100_1))))))))
              have c103_2 := (congrFun e103 2).trans (nx rfl (nx rfl (nx rfl (nx rfl (nx rfl (nx rfl (nx rfl (nx rfl c100_2))))))))
              have c103_3 := (congrFun e103 3).trans (nx rfl (nx rfl (nx rfl (nx rfl (nx rfl (nx rfl (nx rfl (nx rfl c100_3))))))))
              have c103_5 := (congrFun e103 5).trans (nx rfl (nx rfl (nx rfl (nx rfl (nx rfl (nx rfl (nx rfl (nx rfl c100_5))))))))
              have c103_11 := (congrFun e103 11).trans (nx rfl (nx rfl (nx rfl (nx rfl (nx rfl (nx rfl (nx rfl (nx rfl c100_11))))))))
              have c103_17 := (congrFun e103 17).trans (nx rfl (nx rfl (nx rfl (nx rfl (nx rfl (nx rfl (nx rfl (nx rfl c100_17))))))))
              have c103_18 := (congrFun e103 18).trans (nx rfl (nx rfl (nx rfl (nx rfl (nx rfl hit)))))
              have c103_22 := (congrFun e103 22).trans (nx rfl (nx rfl (nx rfl (nx rfl (nx rfl (nx rfl (nx rfl (nx rfl c100_22))))))))
              have c103_23 := (congrFun e103 23).trans (nx rfl (nx rfl (nx rfl (nx rfl (nx rfl (nx rfl (nx rfl (nx rfl c100_23))))))))
              have c103_25 := (congrFun e103 25).trans (nx rfl (nx rfl (nx rfl (nx rfl (nx rfl (nx rfl (nx rfl (nx rfl c100_25))))))))
              have c103_26 := (congrFun e103 26).trans hit
              have c103_172 := (congrFun e103 172).trans (nx rfl (nx rfl (nx rfl (nx rfl (nx rfl (nx rfl (nx rfl (nx rfl c100_172))))))))
              have c103_173 := (congrFun e103 173).trans (nx rfl (nx rfl (nx rfl (nx rfl (nx rfl (nx rfl (nx rfl (nx rfl c100_173))))))))
              have c103_174 := (congrFun e103 174).trans (nx rfl (nx rfl (nx rfl (nx rfl (nx rfl (nx rfl (nx rfl (nx rfl c100_174))))))))
              clear e103
              refine wnil ?_
              refine hK102 _ _ ?_
              clear hK102
              refine wp_seq_k (fun K104 hK104 => ?_)
              refine reg ?_
              refine sq rfl (do_move (tm rfl c103_26)) ?_
              refine sq rfl (do_geqF (tm rfl hit) ck (by omega)) ?_
              refine sq rfl (do_move (tm rfl hit)) ?_
              refine sqs rfl rfl hit rfl rfl ?_
              refine sqs rfl rfl (nx rfl hit) rfl rfl ?_
              refine sqs rfl rfl (nx rfl (nx rfl hit)) rfl rfl ?_
              refine sqs rfl rfl (nx rfl (nx rfl (nx rfl hit))) rfl rfl ?_
              refine sqs rfl rfl (nx rfl (nx rfl (nx rfl (nx rfl hit)))) rfl rfl ?_
              refine sqs rfl rfl (nx rfl (nx rfl (nx rfl (nx rfl (nx rfl hit))))) rfl rfl ?_
              refine sqs rfl rfl (nx rfl (nx rfl (nx rfl (nx rfl (nx rfl (nx rfl hit)))))) rfl rfl ?_
              refine sqs rfl rfl (nx rfl (nx rfl (nx rfl (nx rfl (nx rfl (nx rfl (nx rfl hit))))))) rfl rfl ?_
              refine sq rfl (do_pickF (tm rfl (nx rfl (nx rfl (nx rfl (nx rfl (nx rfl (nx rfl (nx rfl (nx rfl hit))))))))) ck) ?_
              refine cutL ?_
              intro τ105 e105
              have c105_1 := (congrFun e105 1).trans (nx rfl (nx rfl (nx rfl (nx rfl (nx rfl (nx rfl (nx rfl (nx rfl (nx rfl (nx rfl (nx rfl (nx rfl c103_1))))))))))))
              have c105_2 := (congrFun e105 2).trans (nx rfl (nx rfl (nx rfl (nx rfl (nx rfl (nx rfl (nx rfl (nx rfl (nx rfl (nx rfl (nx rfl (nx rfl c103_2))))))))))))
              have c105_3 := (congrFun e105 3).trans (nx rfl (nx rfl (nx rfl (nx rfl (nx rfl (nx rfl (nx rfl (nx rfl (nx rfl (nx rfl (nx rfl (nx rfl c103_3))))))))))))
              have c105_5 := (congrFun e105 5).trans (nx rfl (nx rfl (nx rfl (nx rfl (nx rfl (nx rfl (nx rfl (nx rfl (nx rfl (nx rfl (nx rfl (nx rfl c103_5))))))))))))
              have c105_11 := (congrFun e105 11).trans (nx rfl (nx rfl (nx rfl (nx rfl (nx rfl (nx rfl (nx rfl (nx rfl (nx rfl (nx rfl (nx rfl (nx rfl c103_11))))))))))))
              have c105_17 := (congrFun e105 17).trans (nx rfl (nx rfl (nx rfl (nx rfl (nx rfl (nx rfl (nx rfl (nx rfl (nx rfl (nx rfl (nx rfl (nx rfl c103_17))))))))))))
              have c105_18 := (congrFun e105 18).trans (nx rfl (nx rfl (nx rfl (nx rfl (nx rfl (nx rfl (nx rfl (nx rfl (nx rfl (nx rfl (nx rfl (nx rfl c103_18))))))))))))
              have c105_22 := (congrFun e105 22).trans (nx rfl (nx rfl (nx rfl (nx rfl (nx rfl (nx rfl (nx rfl (nx rfl (nx rfl (nx rfl (nx rfl (nx rfl c103_22))))))))))))
              have c105_23 := (congrFun e105 23).trans (nx rfl (nx rfl (nx rfl (nx rfl (nx rfl (nx rfl (nx rfl (nx rfl (nx rfl (nx rfl (nx rfl (nx rfl c103_23))))))))))))
              have c105_25 := (congrFun e105 25).trans (nx rfl (nx rfl (nx rfl (nx rfl (nx rfl (nx rfl (nx rfl (nx rfl (nx rfl (nx rfl (nx rfl (nx rfl c103_25))))))))))))
              have c105_26 := (congrFun e105 26).trans (nx rfl (nx rfl (nx rfl (nx rfl (nx rfl (nx rfl (nx rfl (nx rfl (nx rfl (nx rfl (nx rfl (nx rfl c103_26))))))))))))
              have c105_172 := (congrFun e105 172).trans (nx rfl (nx rfl (nx rfl (nx rfl (nx rfl (nx rfl (nx rfl (nx rfl (nx rfl (nx rfl (nx rfl (nx rfl c103_172))))))))))))
              have c105_173 := (congrFun e105 173).trans (nx rfl (nx rfl (nx rfl (nx rfl (nx rfl (nx rfl (nx rfl (nx rfl (nx rfl (nx rfl (nx rfl (nx rfl c103_173))))))))))))
              have c105_174 := (congrFun e105 174).trans (nx rfl (nx rfl (nx rfl (nx rfl (nx rfl (nx rfl (nx rfl (nx rfl (nx rfl (nx rfl (nx rfl (nx rfl c103_174))))))))))))
              have c105_195 := (congrFun e105 195).trans hit
              clear e105
              refine wnil ?_
              refine hK104 _ _ ?_
              clear hK104
              refine cF rfl c105_195 rfl ?_
              refine wp_skip ?_
              refine inBN ?_
              refine hK98 _ _ ?_
              clear hK98
              refine reg ?_
              refine sq rfl (do_inc (tm rfl c105_174) ck (by omega)) ?_
              refine sq rfl (do_move (tm rfl hit)) ?_
              refine wnil ?_
              exact hnn' (reads[b].length - (j + 1)) _ _ (by omega) ⟨j + 1, S, P, W - 1, rfl, by omega, (nx rfl (nx rfl c105_1)), (nx rfl (nx rfl c105_2)), (nx rfl (nx rfl c105_3)), (nx rfl (nx rfl c105_5)), (nx rfl (nx rfl c105_11)), (nx rfl (nx rfl c105_17)), (nx rfl (nx rfl c105_18)), (nx rfl (nx rfl c105_22)), (nx rfl (nx rfl c105_23)), (nx rfl (nx rfl c105_172)), (nx rfl (nx rfl c105_173)), hit, hD, by omega, by omega, by omega⟩
            · refine wp_seq_k (fun K106 hK106 => ?_)
              refine reg ?_
              refine sq rfl (do_move (tm rfl (nx rfl (nx rfl (nx rfl c100_2))))) ?_
              refine sq rfl (do_move (tm rfl (nx rfl (nx rfl (nx rfl (nx rfl c100_25)))))) ?_
              refine sq rfl (ix22 (tm rfl (nx rfl hit)) (tm rfl hit) (by omega)) ?_
              refine sq rfl (do_load T3 rfl (tm rfl hit) (hwG.cell hsG (show (ints wl)[i]? = some (.int .i64 (a' : Int)) by simp [ints, hwa']))) ?_
              refine sq rfl (do_assign (tm rfl hit)) ?_
              refine cutL ?_
              intro τ107 e107
              have c107_1 := (congrFun e107 1).trans (nx rfl (nx rfl (nx rfl (nx rfl (nx rfl (nx rfl (nx rfl (nx rfl c100_1))))))))
              have c107_2 := (congrFun e107 2).trans (nx rfl (nx rfl (nx rfl (nx rfl (nx rfl (nx rfl (nx rfl (nx rfl c100_2))))))))
              have c107_3 := (congrFun e107 3).trans (nx rfl (nx rfl (nx rfl (nx rfl (nx rfl (nx rfl (nx rfl (nx rfl c100_3))))))))
              have c107_5 := (congrFun e107 5).trans (nx rfl (nx rfl (nx rfl (nx rfl (nx rfl (nx rfl (nx rfl (nx rfl c100_5))))))))
              have c107_11 := (congrFun e107 11).trans (nx rfl (nx rfl (nx rfl (nx rfl (nx rfl (nx rfl (nx rfl (nx rfl c100_11))))))))
              have c107_17 := (congrFun e107 17).trans (nx rfl (nx rfl (nx rfl (nx rfl (nx rfl (nx rfl (nx rfl (nx rfl c100_17))))))))
              have c107_18 := (congrFun e107 18).trans (nx rfl (nx rfl (nx rfl (nx rfl (nx rfl hit)))))
              have c107_22 := (congrFun e107 22).trans (nx rfl (nx rfl (nx rfl (nx rfl (nx rfl (nx rfl (nx rfl (nx rfl c100_22))))))))
              have c107_23 := (congrFun e107 23).trans (nx rfl (nx rfl (nx rfl (nx rfl (nx rfl (nx rfl (nx rfl (nx rfl c100_23))))))))
              have c107_25 := (congrFun e107 25).trans (nx rfl (nx rfl (nx rfl (nx rfl (nx rfl (nx rfl (nx rfl (nx rfl c100_25))))))))
              have c107_26 := (congrFun e107 26).trans hit
              have c107_172 := (congrFun e107 172).trans (nx rfl (nx rfl (nx rfl (nx rfl (nx rfl (nx rfl (nx rfl (nx rfl c100_172))))))))
              have c107_173 := (congrFun e107 173).trans (nx rfl (nx rfl (nx rfl (nx rfl (nx rfl (nx rfl (nx rfl (nx rfl c100_173))))))))
              have c107_174 := (congrFun e107 174).trans (nx rfl (nx rfl (nx rfl (nx rfl (nx rfl (nx rfl (nx rfl (nx rfl c100_174))))))))
              clear e107
              refine wnil ?_
              refine hK106 _ _ ?_
              clear hK106
              have hlook : (getL (fun a b => a == b) ((a : Int), (itm i : Int)) lW).getD (.bool false) = .bool false ∨ ((getL (fun a b => a == b) ((a : Int), (itm i : Int)) lW).getD (.bool false) = .bool true ∧ Wr (itm i) a) := by
                cases hg : getL (fun a b => a == b) ((a : Int), (itm i : Int)) lW with
                | none => exact .inl rfl
                | some u =>
                  obtain ⟨qq, hq1, hq2⟩ := getL_mem hg
                  obtain ⟨hu, a2, x2, hqe, _, hw2⟩ := hMW _ hq1
                  have : ((a : Int), (itm i : Int)) = qq := by simpa using hq2
                  have hu' : u = .bool true := hu
                  have hqe' : qq = ((a2 : Int), (x2 : Int)) := hqe
                  rw [hqe'] at this
                  simp only [Prod.mk.injEq] at this
                  obtain rfl : a = a2 := by omega
                  obtain rfl : itm i = x2 := by omega
                  exact .inr ⟨hu', hw2⟩
              rcases hlook with hl | ⟨hl, hWa⟩
              · refine wp_seq_k (fun K108 hK108 => ?_)
                refine reg ?_
                refine sq rfl (do_move (tm rfl c107_26)) ?_
                refine sq rfl (do_geqT (tm rfl hit) ck (by omega)) ?_
                refine sq rfl (do_move (tm rfl hit)) ?_
                refine sqg rfl rfl hit rfl (do_move (tm rfl (nx rfl (nx rfl (nx rfl c107_5))))) ?_
                refine sqg rfl rfl (nx rfl hit) rfl (do_move (tm rfl (nx rfl (nx rfl (nx rfl (nx rfl c107_22)))))) ?_
                refine sqg rfl rfl (nx rfl (nx rfl hit)) rfl (do_move (tm rfl (nx rfl (nx rfl (nx rfl (nx rfl (nx rfl c107_3))))))) ?_
                refine sqg rfl rfl (nx rfl (nx rfl (nx rfl hit))) rfl (do_move (tm rfl (nx rfl (nx rfl (nx rfl (nx rfl (nx rfl (nx rfl c107_25)))))))) ?_
                refine sqg rfl rfl (nx rfl (nx rfl (nx rfl (nx rfl hit)))) rfl (ix22 (tm rfl (nx rfl hit)) (tm rfl hit) (by omega)) ?_
                refine sqg rfl rfl (nx rfl (nx rfl (nx rfl (nx rfl (nx rfl hit))))) rfl (do_load T3 rfl (tm rfl hit) (hiG.cell hsG (show (ints il)[i]? = some (.int .i64 (itm i : Int)) by simp [ints, hit']))) ?_
                refine sqg rfl rfl (nx rfl (nx rfl (nx rfl (nx rfl (nx rfl (nx rfl hit)))))) rfl (do_build60 (tm rfl (nx rfl (nx rfl (nx rfl (nx rfl hit))))) (tm rfl hit)) ?_
                refine sqg rfl rfl (nx rfl (nx rfl (nx rfl (nx rfl (nx rfl (nx rfl (nx rfl hit))))))) rfl ((MapV.look1 key60 Try.underlying84 zero4 hmG hsG (k := ((a : Int), (itm i : Int))) (tm rfl (nx rfl (nx rfl (nx rfl (nx rfl (nx rfl (nx rfl hit))))))) (tm rfl hit)).cast hl) ?_
                refine sq rfl (do_pickT (tm rfl (nx rfl (nx rfl (nx rfl (nx rfl (nx rfl (nx rfl (nx rfl (nx rfl hit))))))))) (tm rfl hit)) ?_
                refine cutL ?_
                intro τ109 e109
                have c109_1 := (congrFun e109 1).trans (nx rfl (nx rfl (nx rfl (nx rfl (nx rfl (nx rfl (nx rfl (nx rfl (nx rfl (nx rfl (nx rfl (nx rfl c107_1))))))))))))
                have c109_2 := (congrFun e109 2).trans (nx rfl (nx rfl (nx rfl (nx rfl (nx rfl (nx rfl (nx rfl (nx rfl (nx rfl (nx rfl (nx rfl (nx rfl c107_2))))))))))))
                have c109_3 := (congrFun e109 3).trans (nx rfl (nx rfl (nx rfl (nx rfl (nx rfl (nx rfl (nx rfl (nx rfl (nx rfl (nx rfl (nx rfl (nx rfl c107_3))))))))))))
                have c109_5 := (congrFun e109 5).trans (nx rfl (nx rfl (nx rfl (nx rfl (nx rfl (nx rfl (nx rfl (nx rfl (nx rfl (nx rfl (nx rfl (nx rfl c107_5))))))))))))
                have c109_11 := (congrFun e109 11).trans (nx rfl (nx rfl (nx rfl (nx rfl (nx rfl (nx rfl (nx rfl (nx rfl (nx rfl (nx rfl (nx rfl (nx rfl c107_11))))))))))))
                have c109_17 := (congrFun e109 17).trans (nx rfl (nx rfl (nx rfl (nx rfl (nx rfl (nx rfl (nx rfl (nx rfl (nx rfl (nx rfl (nx rfl (nx rfl c107_17))))))))))))
                have c109_18 := (congrFun e109 18).trans (nx rfl (nx rfl (nx rfl (nx rfl (nx rfl (nx rfl (nx rfl (nx rfl (nx rfl (nx rfl (nx rfl (nx rfl c107_18))))))))))))
                have c109_22 := (congrFun e109 22).trans (nx rfl (nx rfl (nx rfl (nx rfl (nx rfl (nx rfl (nx rfl (nx rfl (nx rfl (nx rfl (nx rfl (nx rfl c107_22))))))))))))
                have c109_23 := (congrFun e109 23).trans (nx rfl (nx rfl (nx rfl (nx rfl (nx rfl (nx rfl (nx rfl (nx rfl (nx rfl (nx rfl (nx rfl (nx rfl c107_23))))))))))))
                have c109_25 := (congrFun e109 25).trans (nx rfl (nx rfl (nx rfl (nx rfl (nx rfl (nx rfl (nx rfl (nx rfl (nx rfl (nx rfl (nx rfl (nx rfl c107_25))))))))))))
                have c109_26 := (congrFun e109 26).trans (nx rfl (nx rfl (nx rfl (nx rfl (nx rfl (nx rfl (nx rfl (nx rfl (nx rfl (nx rfl (nx rfl (nx rfl c107_26))))))))))))
                have c109_172 := (congrFun e109 172).trans (nx rfl (nx rfl (nx rfl (nx rfl (nx rfl (nx rfl (nx rfl (nx rfl (nx rfl (nx rfl (nx rfl (nx rfl c107_172))))))))))))
                have c109_173 := (congrFun e109 173).trans (nx rfl (nx rfl (nx rfl (nx rfl (nx rfl (nx rfl (nx rfl (nx rfl (nx rfl (nx rfl (nx rfl (nx rfl c107_173))))))))))))
                have c109_174 := (congrFun e109 174).trans (nx rfl (nx rfl (nx rfl (nx rfl (nx rfl (nx rfl (nx rfl (nx rfl (nx rfl (nx rfl (nx rfl (nx rfl c107_174))))))))))))
                have c109_195 := (congrFun e109 195).trans hit
                clear e109
                refine wnil ?_
                refine hK108 _ _ ?_
                clear hK108
                refine cF rfl c109_195 rfl ?_
                refine wp_skip ?_
                refine inBN ?_
                refine hK98 _ _ ?_
                clear hK98
                refine reg ?_
                refine sq rfl (do_inc (tm rfl c109_174) ck (by omega)) ?_
                refine sq rfl (do_move (tm rfl hit)) ?_
                refine wnil ?_
                exact hnn' (reads[b].length - (j + 1)) _ _ (by omega) ⟨j + 1, S, P, W - 1, rfl, by omega, (nx rfl (nx rfl c109_1)), (nx rfl (nx rfl c109_2)), (nx rfl (nx rfl c109_3)), (nx rfl (nx rfl c109_5)), (nx rfl (nx rfl c109_11)), (nx rfl (nx rfl c109_17)), (nx rfl (nx rfl c109_18)), (nx rfl (nx rfl c109_22)), (nx rfl (nx rfl c109_23)), (nx rfl (nx rfl c109_172)), (nx rfl (nx rfl c109_173)), hit, hD, by omega, by omega, by omega⟩
              · refine wp_seq_k (fun K110 hK110 => ?_)
                refine reg ?_
                refine sq rfl (do_move (tm rfl c107_26)) ?_
                refine sq rfl (do_geqT (tm rfl hit) ck (by omega)) ?_
                refine sq rfl (do_move (tm rfl hit)) ?_
                refine sqg rfl rfl hit rfl (do_move (tm rfl (nx rfl (nx rfl (nx rfl c107_5))))) ?_
                refine sqg rfl rfl (nx rfl hit) rfl (do_move (tm rfl (nx rfl (nx rfl (nx rfl (nx rfl c107_22)))))) ?_
                refine sqg rfl rfl (nx rfl (nx rfl hit)) rfl (do_move (tm rfl (nx rfl (nx rfl (nx rfl (nx rfl (nx rfl c107_3))))))) ?_
                refine sqg rfl rfl (nx rfl (nx rfl (nx rfl hit))) rfl (do_move (tm rfl (nx rfl (nx rfl (nx rfl (nx rfl (nx rfl (nx rfl c107_25)))))))) ?_
                refine sqg rfl rfl (nx rfl (nx rfl (nx rfl (nx rfl hit)))) rfl (ix22 (tm rfl (nx rfl hit)) (tm rfl hit) (by omega)) ?_
                refine sqg rfl rfl (nx rfl (nx rfl (nx rfl (nx rfl (nx rfl hit))))) rfl (do_load T3 rfl (tm rfl hit) (hiG.cell hsG (show (ints il)[i]? = some (.int .i64 (itm i : Int)) by simp [ints, hit']))) ?_
                refine sqg rfl rfl (nx rfl (nx rfl (nx rfl (nx rfl (nx rfl (nx rfl hit)))))) rfl (do_build60 (tm rfl (nx rfl (nx rfl (nx rfl (nx rfl hit))))) (tm rfl hit)) ?_
                refine sqg rfl rfl (nx rfl (nx rfl (nx rfl (nx rfl (nx rfl (nx rfl (nx rfl hit))))))) rfl ((MapV.look1 key60 Try.underlying84 zero4 hmG hsG (k := ((a : Int), (itm i : Int))) (tm rfl (nx rfl (nx rfl (nx rfl (nx rfl (nx rfl (nx rfl hit))))))) (tm rfl hit)).cast hl) ?_
                refine sq rfl (do_pickT (tm rfl (nx rfl (nx rfl (nx rfl (nx rfl (nx rfl (nx rfl (nx rfl (nx rfl hit))))))))) (tm rfl hit)) ?_
                refine cutL ?_
                intro τ111 e111
                have c111_1 := (congrFun e111 1).trans (nx rfl (nx rfl (nx rfl (nx rfl (nx rfl (nx rfl (nx rfl (nx rfl (nx rfl (nx rfl (nx rfl (nx rfl c107_1))))))))))))
                have c111_2 := (congrFun e111 2).trans (nx rfl (nx rfl (nx rfl (nx rfl (nx rfl (nx rfl (nx rfl (nx rfl (nx rfl (nx rfl (nx rfl (nx rfl c107_2))))))))))))
                have c111_3 := (congrFun e111 3).trans (nx rfl (nx rfl (nx rfl (nx rfl (nx rfl (nx rfl (nx rfl (nx rfl (nx rfl (nx rfl (nx rfl (nx rfl c107_3))))))))))))
                have c111_5 := (congrFun e111 5).trans (nx rfl (nx rfl (nx rfl (nx rfl (nx rfl (nx rfl (nx rfl (nx rfl (nx rfl (nx rfl (nx rfl (nx rfl c107_5))))))))))))
                have c111_11 := (congrFun e111 11).trans (nx rfl (nx rfl (nx rfl (nx rfl (nx rfl (nx rfl (nx rfl (nx rfl (nx rfl (nx rfl (nx rfl (nx rfl c107_11))))))))))))
                have c111_17 := (congrFun e111 17).trans (nx rfl (nx rfl (nx rfl (nx rfl (nx rfl (nx rfl (nx rfl (nx rfl (nx rfl (nx rfl (nx rfl (nx rfl c107_17))))))))))))
                have c111_18 := (congrFun e111 18).trans (nx rfl (nx rfl (nx rfl (nx rfl (nx rfl (nx rfl (nx rfl (nx rfl (nx rfl (nx rfl (nx rfl (nx rfl c107_18))))))))))))
                have c111_22 := (congrFun e111 22).trans (nx rfl (nx rfl (nx rfl (nx rfl (nx rfl (nx rfl (nx rfl (nx rfl (nx rfl (nx rfl (nx rfl (nx rfl c107_22))))))))))))
                have c111_23 := (congrFun e111 23).trans (nx rfl (nx rfl (nx rfl (nx rfl (nx rfl (nx rfl (nx rfl (nx rfl (nx rfl (nx rfl (nx rfl (nx rfl c107_23))))))))))))
                have c111_25 := (congrFun e111 25).trans (nx rfl (nx rfl (nx rfl (nx rfl (nx rfl (nx rfl (nx rfl (nx rfl (nx rfl (nx rfl (nx rfl (nx rfl c107_25))))))))))))
                have c111_26 := (congrFun e111 26).trans (nx rfl (nx rfl (nx rfl (nx rfl (nx rfl (nx rfl (nx rfl (nx rfl (nx rfl (nx rfl (nx rfl (nx rfl c107_26))))))))))))
                have c111_172 := (congrFun e111 172).trans (nx rfl (nx rfl (nx rfl (nx rfl (nx rfl (nx rfl (nx rfl (nx rfl (nx rfl (nx rfl (nx rfl (nx rfl c107_172))))))))))))
                have c111_173 := (congrFun e111 173).trans (nx rfl (nx rfl (nx rfl (nx rfl (nx rfl (nx rfl (nx rfl (nx rfl (nx rfl (nx rfl (nx rfl (nx rfl c107_173))))))))))))
                have c111_174 := (congrFun e111 174).trans (nx rfl (nx rfl (nx rfl (nx rfl (nx rfl (nx rfl (nx rfl (nx rfl (nx rfl (nx rfl (nx rfl (nx rfl c107_174))))))))))))
                have c111_195 := (congrFun e111 195).trans hit
                clear e111
                refine wnil ?_
                refine hK110 _ _ ?_
                clear hK110
                refine cT rfl c111_195 rfl ?_
                have hforce : a = a' ∨ rk a < rk a' := by
                  rcases hBt a hWa with ⟨v2, hv2, hv3⟩ | h1
                  · rw [hwt] at hv2
                    obtain rfl : a' = v2 := by omega
                    exact hv3
                  · omega
                refine reg ?_
                refine sq rfl (do_move (tm rfl c111_17)) ?_
                refine sq rfl (do_move (tm rfl (nx rfl c111_22))) ?_
                refine sq rfl (do_move (tm rfl (nx rfl (nx rfl c111_26)))) ?_
                refine sqc (R := fun _ w' => ∃ S' P', Dyn N w0 HA (.slice sa n sc) bX bQ n rk w' S' P' ∧ S' ≤ S + 1 ∧ P' ≤ P + 1) rfl
                  (run_callV Try.func39 nm39 bd39 (map2 (tm rfl (nx rfl hit)) (tm rfl hit)) (tm rfl (nx rfl (nx rfl hit)))) ((forceD hD hpvA hpA rfl hevA a a' ha ha' hforce (by omega) (by omega)).mono ?_) ?_
                · rintro e w' ⟨v', rfl, h⟩
                  exact ⟨_, rfl, h⟩
                rintro cv w3 ⟨S', P', hD', hS', hP'⟩
                refine cutL ?_
                intro τ112 e112
                have c112_1 := (congrFun e112 1).trans (nx rfl (nx rfl (nx rfl (nx rfl c111_1))))
                have c112_2 := (congrFun e112 2).trans (nx rfl (nx rfl (nx rfl (nx rfl c111_2))))
                have c112_3 := (congrFun e112 3).trans (nx rfl (nx rfl (nx rfl (nx rfl c111_3))))
                have c112_5 := (congrFun e112 5).trans (nx rfl (nx rfl (nx rfl (nx rfl c111_5))))
                have c112_11 := (congrFun e112 11).trans (nx rfl (nx rfl (nx rfl (nx rfl c111_11))))
                have c112_17 := (congrFun e112 17).trans (nx rfl (nx rfl (nx rfl (nx rfl c111_17))))
                have c112_18 := (congrFun e112 18).trans (nx rfl (nx rfl (nx rfl (nx rfl c111_18))))
                have c112_22 := (congrFun e112 22).trans (nx rfl (nx rfl (nx rfl (nx rfl c111_22))))
                have c112_23 := (congrFun e112 23).trans (nx rfl (nx rfl (nx rfl (nx rfl c111_23))))
                have c112_25 := (congrFun e112 25).trans (nx rfl (nx rfl (nx rfl (nx rfl c111_25))))
                have c112_26 := (congrFun e112 26).trans (nx rfl (nx rfl (nx rfl (nx rfl c111_26))))
                have c112_172 := (congrFun e112 172).trans (nx rfl (nx rfl (nx rfl (nx rfl c111_172))))
                have c112_173 := (congrFun e112 173).trans (nx rfl (nx rfl (nx rfl (nx rfl c111_173))))
                have c112_174 := (congrFun e112 174).trans (nx rfl (nx rfl (nx rfl (nx rfl c111_174))))
                clear e112
                refine wnil ?_
                refine inBN ?_
                refine hK98 _ _ ?_
                clear hK98
                refine reg ?_
                refine sq rfl (do_inc (tm rfl c112_174) ck (by omega)) ?_
                refine sq rfl (do_move (tm rfl hit)) ?_
                refine wnil ?_
                exact hnn' (reads[b].length - (j + 1)) _ _ (by omega) ⟨j + 1, S', P', W - 1, rfl, by omega, (nx rfl (nx rfl c112_1)), (nx rfl (nx rfl c112_2)), (nx rfl (nx rfl c112_3)), (nx rfl (nx rfl c112_5)), (nx rfl (nx rfl c112_11)), (nx rfl (nx rfl c112_17)), (nx rfl (nx rfl c112_18)), (nx rfl (nx rfl c112_22)), (nx rfl (nx rfl c112_23)), (nx rfl (nx rfl c112_172)), (nx rfl (nx rfl c112_173)), hit, hD', by omega, by omega, by omega⟩
          · refine wp_seq_k (fun K113 hK113 => ?_)
            refine cF rfl hit (by simpa using h') ?_
            refine wp_exit ?_
            refine thenE ?_
            exact hx' _ _ ⟨S, P, W, (nx rfl t1), (nx rfl t2), (nx rfl t3), (nx rfl t5), (nx rfl t11), (nx rfl t17), (nx rfl t18), (nx rfl t22), (nx rfl t23), hD, hn1, hn2, by omega⟩
        clear hD2 hk1 hm3 hm4 t1 t2 t3 t5 t11 t17 t18 hrr hl1
        rintro τ xw ⟨S, P, W, t1, t2, t3, t5, t11, t17, t18, t22, t23, hD, hn1, hn2, hn3⟩
        refine hK93 _ _ ?_
        clear hK93
        obtain ⟨G, _, _, _, _, hsG, kG, _⟩ := id hD
        have hWG : TabV (G 3) 61 63 2 encP (.slice wa n wc) writes := by rw [kG 3 (by decide)]; exact hWA
        obtain ⟨gr2, cr2, rfl, hcr, _, hrr⟩ := hWG.getS hsG (i := a) (by omega)
        obtain ⟨ia2, ic2, rfl⟩ := hrr.slice
        rw [kG 3 (by decide)] at hrr
        have hl1 := len_le_sum writes a (by omega)
        refine wp_seq_k (fun K114 hK114 => ?_)
        refine reg ?_
        refine sq rfl (do_load T33 rfl (tm rfl t1) ((kG.vb (t := 20) (by decide) hpvA).cell hsG (i := 0) rfl)) ?_
        refine sq rfl (do_nilCheck (tm rfl hit)) ?_
        refine sq rfl (fa58_1 (tm rfl hit)) ?_
        refine sq rfl (do_load T56 rfl (tm rfl hit) ((kG.vb (t := 1) (by decide) hpA).cell hsG (i := 1) rfl)) ?_
        refine sq rfl (do_move (tm rfl (nx rfl (nx rfl (nx rfl (nx rfl t22)))))) ?_
        refine sq rfl (ix56 (tm rfl (nx rfl hit)) (tm rfl hit) (by omega)) ?_
        refine sq rfl (do_load T61 rfl (tm rfl hit) hcr) ?_
        refine sq rfl (do_len Try.underlying61 (tm rfl hit)) ?_
        refine sq rfl (do_move (v := .int .i64 ((0 : Nat) : Int)) rfl) ?_
        refine cutL ?_
        intro τ115 e115
        have c115_1 := (congrFun e115 1).trans (nx rfl (nx rfl (nx rfl (nx rfl (nx rfl (nx rfl (nx rfl (nx rfl (nx rfl t1)))))))))
        have c115_2 := (congrFun e115 2).trans (nx rfl (nx rfl (nx rfl (nx rfl (nx rfl (nx rfl (nx rfl (nx rfl (nx rfl t2)))))))))
        have c115_3 := (congrFun e115 3).trans (nx rfl (nx rfl (nx rfl (nx rfl (nx rfl (nx rfl (nx rfl (nx rfl (nx rfl t3)))))))))
        have c115_5 := (congrFun e115 5).trans (nx rfl (nx rfl (nx rfl (nx rfl (nx rfl (nx rfl (nx rfl (nx rfl (nx rfl t5)))))))))
        have c115_11 := (congrFun e115 11).trans (nx rfl (nx rfl (nx rfl (nx rfl (nx rfl (nx rfl (nx rfl (nx rfl (nx rfl t11)))))))))
        have c115_17 := (congrFun e115 17).trans (nx rfl (nx rfl (nx rfl (nx rfl (nx rfl (nx rfl (nx rfl (nx rfl (nx rfl t17)))))))))
        have c115_18 := (congrFun e115 18).trans (nx rfl (nx rfl (nx rfl (nx rfl (nx rfl (nx rfl (nx rfl (nx rfl (nx rfl t18)))))))))
        have c115_22 := (congrFun e115 22).trans (nx rfl (nx rfl (nx rfl (nx rfl (nx rfl (nx rfl (nx rfl (nx rfl (nx rfl t22)))))))))
        have c115_23 := (congrFun e115 23).trans (nx rfl (nx rfl (nx rfl (nx rfl (nx rfl (nx rfl (nx rfl (nx rfl (nx rfl t23)))))))))
        have c115_207 := (congrFun e115 207).trans (nx rfl (nx rfl hit))
        have c115_208 := (congrFun e115 208).trans (nx rfl hit)
        have c115_209 := (congrFun e115 209).trans hit
        clear e115
        refine wnil ?_
        refine hK114 _ _ ?_
        clear hK114
        clear hsG kG hWG hcr
        refine forLoop (N := 248) (fun q τ wi => ∃ (j S P : Nat) (W : Int), q = writes[a].length - j ∧ j ≤ writes[a].length ∧ τ 1 = .pointer (some ⟨bV, 0, none⟩) ∧ τ 2 = .slice (some ⟨bW, 0, none⟩) M M ∧ τ 3 = .slice (some ⟨bI, 0, none⟩) M M ∧ τ 5 = .map (some bM) ∧ τ 11 = .pointer (some ⟨bQ, 0, none⟩) ∧ τ 17 = .func (.func 39) #[] #[.pointer (some ⟨bE, 0, none⟩), .pointer (some ⟨bQ, 0, none⟩), .pointer (some ⟨bV, 0, none⟩)] ∧ τ 18 = .int .i64 W ∧ τ 22 = .int .i64 (a : Int) ∧ τ 23 = .int .i64 (b : Int) ∧ τ 207 = .slice ia2 writes[a].length ic2 ∧ τ 208 = .int .i64 (writes[a].length : Int) ∧ τ 209 = .int .i64 (j : Int) ∧
            Dyn N w0 HA (.slice sa n sc) bX bQ n rk wi S P ∧ (P : Int) + W ≤ (r : Int) - 1 ∧ (S : Int) + W ≤ (K1 : Int) ∧ 1 - (65536 : Int) - (j : Int) * 65537 ≤ W)
          (fun τ wi => ∃ (S P : Nat) (W : Int), τ 1 = .pointer (some ⟨bV, 0, none⟩) ∧ τ 2 = .slice (some ⟨bW, 0, none⟩) M M ∧ τ 3 = .slice (some ⟨bI, 0, none⟩) M M ∧ τ 5 = .map (some bM) ∧ τ 11 = .pointer (some ⟨bQ, 0, none⟩) ∧ τ 17 = .func (.func 39) #[] #[.pointer (some ⟨bE, 0, none⟩), .pointer (some ⟨bQ, 0, none⟩), .pointer (some ⟨bV, 0, none⟩)] ∧ τ 18 = .int .i64 W ∧
            Dyn N w0 HA (.slice sa n sc) bX bQ n rk wi S P ∧ (P : Int) + W ≤ (r : Int) - 1 ∧ (S : Int) + W ≤ (K1 : Int) ∧ -4295098368 ≤ W) writes[a].length ?_ ?_ ?_
        · exact ⟨0, S, P, W, rfl, Nat.zero_le _, c115_1, c115_2, c115_3, c115_5, c115_11, c115_17, c115_18, c115_22, c115_23, c115_207, c115_208, c115_209, hD, hn1, hn2, by omega⟩
        · clear hD hn1 hn2 hn3 t1 t2 t3 t5 t11 t17 t18 t22 t23
          rintro Q'' q τ wi hnn' hx' hr' ⟨j, S, P, W, rfl, hj, t1, t2, t3, t5, t11, t17, t18, t22, t23, t207, t208, t209, hD, hn1, hn2, hn3⟩
          refine wp_seq_k (fun K116 hK116 => ?_)
          refine reg ?_
          refine sq rfl (do_lss (tm rfl t209) (tm rfl t208)) ?_
          refine wnil ?_
          refine hK116 _ _ ?_
          clear hK116
          by_cases h' : j < writes[a].length
          · refine wp_seq_k (fun K117 hK117 => ?_)
            refine cT rfl hit (by simpa using h') ?_
            refine wp_skip ?_
            refine hK117 _ _ ?_
            clear hK117
            obtain ⟨G, rows, pd, l, qv, hsG, kG, hT, hmp, hlv, hqv, hq, hrl, hsum, hpl, hed', hpe⟩ := hD
            have hrG : RowV (G 3) 63 2 (.slice ia2 writes[a].length ic2) writes[a].length (writes[a].flatMap encP) := by rw [kG 3 (by decide)]; exact hrr
            obtain ⟨e1, e2⟩ := flatP_get writes[a] j h'
            obtain ⟨g1, rfl, f1, _⟩ := hrG.cellS hsG e1
            obtain ⟨g2, hg2, f2, _⟩ := hrG.cellS hsG e2
            cases hg2
            obtain ⟨x, hx1, hWx, hsrc⟩ := F.wr a (by omega) writes[a][j] (List.getElem_mem _)
            generalize writes[a][j].1 = p1 at *
            generalize writes[a][j].2 = p2 at *
            subst hx1
            refine wp_seq_k (fun K118 hK118 => ?_)
            refine wp_block ?_
            refine wp_seq_k (fun K119 hK119 => ?_)
            refine reg ?_
            refine sq rfl (ix61 (tm rfl (nx rfl t207)) (tm rfl (nx rfl t209)) (by omega)) ?_
            refine sq rfl (do_load2 T63 fl63 (tm rfl hit) f1 f2) ?_
            refine sq rfl (do_alloc T63) ?_
            refine sqn (do_store2 T63 (tm rfl hit) (tm rfl (nx rfl hit)) rfl rfl (new_cell wi _ _ 0 rfl) (new_cell wi _ _ 1 rfl) (new_frozen wi _ _ 0) (new_frozen wi _ _ 1)) ?_
            refine cutW ?_
            intro τ120 e120 xa hxa
            have c120_1 := (congrFun e120 1).trans (nx rfl (nx rfl (nx rfl (nx rfl t1))))
            have c120_2 := (congrFun e120 2).trans (nx rfl (nx rfl (nx rfl (nx rfl t2))))
            have c120_3 := (congrFun e120 3).trans (nx rfl (nx rfl (nx rfl (nx rfl t3))))
            have c120_5 := (congrFun e120 5).trans (nx rfl (nx rfl (nx rfl (nx rfl t5))))
            have c120_11 := (congrFun e120 11).trans (nx rfl (nx rfl (nx rfl (nx rfl t11))))
            have c120_17 := (congrFun e120 17).trans (nx rfl (nx rfl (nx rfl (nx rfl t17))))
            have c120_18 := (congrFun e120 18).trans (nx rfl (nx rfl (nx rfl (nx rfl t18))))
            have c120_22 := (congrFun e120 22).trans (nx rfl (nx rfl (nx rfl (nx rfl t22))))
            have c120_23 := (congrFun e120 23).trans (nx rfl (nx rfl (nx rfl (nx rfl t23))))
            have c120_28 := (congrFun e120 28).trans hit
            have c120_207 := (congrFun e120 207).trans (nx rfl (nx rfl (nx rfl (nx rfl t207))))
            have c120_208 := (congrFun e120 208).trans (nx rfl (nx rfl (nx rfl (nx rfl t208))))
            have c120_209 := (congrFun e120 209).trans (nx rfl (nx rfl (nx rfl (nx rfl t209))))
            clear e120
            refine wnil ?_
            refine hK119 _ _ ?_
            clear hK119
            obtain ⟨G1, kG1, hraw, hE⟩ := var2 hsG 28 63 (.int .i64 0) (.int .i64 0) (.int .i64 (x : Int)) (.int .i64 p2)
            have hsG1 : Split N w0 xa G1 := by rw [hxa]; exact hraw
            clear hxa hraw
            generalize wi.heap.size = bL at *
            have kG1' := kG.trans (kG1.mono (by decide))
            have hD1 : ∀ xz, Split N w0 xz G1 → Dyn N w0 HA (.slice sa n sc) bX bQ n rk xz S P := by
              intro xz hsz
              refine ⟨G1, rows, pd, l, qv, hsz, kG1', ?_, ?_, hlv, kG1.vb (t := 26) (by decide) hqv, ?_, hrl, hsum, hpl, hed', hpe⟩
              · rw [kG1 8 (by decide)]; exact hT
              · rw [kG1 25 (by decide)]; exact hmp
              · rw [kG1 27 (by decide)]; exact hq
            clear hsG kG hT hmp hlv hqv hq hrl hsum hpl hed' hpe hrG e1 e2 f1 f2 kG1
            refine wp_seq_k (fun K121 hK121 => ?_)
            refine reg ?_
            refine sq rfl (do_move (tm rfl c120_18)) ?_
            refine sq rfl (do_sub (tm rfl hit) ck ⟨by omega, by omega⟩) ?_
            refine sq rfl (do_assign (tm rfl hit)) ?_
            refine wnil ?_
            refine hK121 _ _ ?_
            clear hK121
            have hmG : MapV (G1 23) bM pk lW := by rw [kG1' 23 (by decide)]; exact hmwA
            have cE0 := hE.cell hsG1 (i := 0) rfl
            have cE1 := hE.cell hsG1 (i := 1) rfl
            by_cases hp2 : p2 < 0
            · refine wp_seq_k (fun K122 hK122 => ?_)
              refine wp_seq_k (fun K123 hK123 => ?_)
              refine reg ?_
              refine sq rfl (fa63_1 (tm rfl (nx rfl (nx rfl (nx rfl c120_28))))) ?_
              refine sq rfl (do_load T3 rfl (tm rfl hit) cE1) ?_
              refine sq rfl (do_lssT (tm rfl hit) ck hp2) ?_
              refine sq rfl (do_move (tm rfl hit)) ?_
              refine sqs rfl rfl hit rfl rfl ?_
              refine sqs rfl rfl (nx rfl hit) rfl rfl ?_
              refine sqs rfl rfl (nx rfl (nx rfl hit)) rfl rfl ?_
              refine sqs rfl rfl (nx rfl (nx rfl (nx rfl hit))) rfl rfl ?_
              refine sqs rfl rfl (nx rfl (nx rfl (nx rfl (nx rfl hit)))) rfl rfl ?_
              refine sqs rfl rfl (nx rfl (nx rfl (nx rfl (nx rfl (nx rfl hit))))) rfl rfl ?_
              refine sqs rfl rfl (nx rfl (nx rfl (nx rfl (nx rfl (nx rfl (nx rfl hit)))))) rfl rfl ?_
              refine sq rfl (do_pickT (tm rfl (nx rfl (nx rfl (nx rfl (nx rfl (nx rfl (nx rfl (nx rfl hit)))))))) rfl) ?_
              refine cutL ?_
              intro τ124 e124
              have c124_1 := (congrFun e124 1).trans (nx rfl (nx rfl (nx rfl (nx rfl (nx rfl (nx rfl (nx rfl (nx rfl (nx rfl (nx rfl (nx rfl (nx rfl (nx rfl (nx rfl (nx rfl c120_1)))))))))))))))
              have c124_2 := (congrFun e124 2).trans (nx rfl (nx rfl (nx rfl (nx rfl (nx rfl (nx rfl (nx rfl (nx rfl (nx rfl (nx rfl (nx rfl (nx rfl (nx rfl (nx rfl (nx rfl c120_2)))))))))))))))
              have c124_3 := (congrFun e124 3).trans (nx rfl (nx rfl (nx rfl (nx rfl (nx rfl (nx rfl (nx rfl (nx rfl (nx rfl (nx rfl (nx rfl (nx rfl (nx rfl (nx rfl (nx rfl c120_3)))))))))))))))
              have c124_5 := (congrFun e124 5).trans (nx rfl (nx rfl (nx rfl (nx rfl (nx rfl (nx rfl (nx rfl (nx rfl (nx rfl (nx rfl (nx rfl (nx rfl (nx rfl (nx rfl (nx rfl c120_5)))))))))))))))
              have c124_11 := (congrFun e124 11).trans (nx rfl (nx rfl (nx rfl (nx rfl (nx rfl (nx rfl (nx rfl (nx rfl (nx rfl (nx rfl (nx rfl (nx rfl (nx rfl (nx rfl (nx rfl c120_11)))))))))))))))
              have c124_17 := (congrFun e124 17).trans (nx rfl (nx rfl (nx rfl (nx rfl (nx rfl (nx rfl (nx rfl (nx rfl (nx rfl (nx rfl (nx rfl (nx rfl (nx rfl (nx rfl (nx rfl c120_17)))))))))))))))
              have c124_18 := (congrFun e124 18).trans (nx rfl (nx rfl (nx rfl (nx rfl (nx rfl (nx rfl (nx rfl (nx rfl (nx rfl (nx rfl (nx rfl (nx rfl hit))))))))))))
              have c124_22 := (congrFun e124 22).trans (nx rfl (nx rfl (nx rfl (nx rfl (nx rfl (nx rfl (nx rfl (nx rfl (nx rfl (nx rfl (nx rfl (nx rfl (nx rfl (nx rfl (nx rfl c120_22)))))))))))))))
              have c124_23 := (congrFun e124 23).trans (nx rfl (nx rfl (nx rfl (nx rfl (nx rfl (nx rfl (nx rfl (nx rfl (nx rfl (nx rfl (nx rfl (nx rfl (nx rfl (nx rfl (nx rfl c120_23)))))))))))))))
              have c124_28 := (congrFun e124 28).trans (nx rfl (nx rfl (nx rfl (nx rfl (nx rfl (nx rfl (nx rfl (nx rfl (nx rfl (nx rfl (nx rfl (nx rfl (nx rfl (nx rfl (nx rfl c120_28)))))))))))))))
              have c124_207 := (congrFun e124 207).trans (nx rfl (nx rfl (nx rfl (nx rfl (nx rfl (nx rfl (nx rfl (nx rfl (nx rfl (nx rfl (nx rfl (nx rfl (nx rfl (nx rfl (nx rfl c120_207)))))))))))))))
              have c124_208 := (congrFun e124 208).trans (nx rfl (nx rfl (nx rfl (nx rfl (nx rfl (nx rfl (nx rfl (nx rfl (nx rfl (nx rfl (nx rfl (nx rfl (nx rfl (nx rfl (nx rfl c120_208)))))))))))))))
              have c124_209 := (congrFun e124 209).trans (nx rfl (nx rfl (nx rfl (nx rfl (nx rfl (nx rfl (nx rfl (nx rfl (nx rfl (nx rfl (nx rfl (nx rfl (nx rfl (nx rfl (nx rfl c120_209)))))))))))))))
              have c124_226 := (congrFun e124 226).trans hit
              clear e124
              refine wnil ?_
              refine hK123 _ _ ?_
              clear hK123
              refine cT rfl c124_226 rfl ?_
              refine wp_exit ?_
              refine thenE ?_
              refine inB ?_
              refine hK118 _ _ ?_
              clear hK118
              refine reg ?_
              refine sq rfl (do_inc (tm rfl c124_209) ck (by omega)) ?_
              refine sq rfl (do_move (tm rfl hit)) ?_
              refine wnil ?_
              exact hnn' (writes[a].length - (j + 1)) _ _ (by omega) ⟨j + 1, S, P, W - 1, rfl, by omega, (nx rfl (nx rfl c124_1)), (nx rfl (nx rfl c124_2)), (nx rfl (nx rfl c124_3)), (nx rfl (nx rfl c124_5)), (nx rfl (nx rfl c124_11)), (nx rfl (nx rfl c124_17)), (nx rfl (nx rfl c124_18)), (nx rfl (nx rfl c124_22)), (nx rfl (nx rfl c124_23)), (nx rfl (nx rfl c124_207)), (nx rfl (nx rfl c124_208)), hit, hD1 _ hsG1, by omega, by omega, by omega⟩
            · obtain ⟨i, rfl, hiM, hitm, hwt⟩ : ∃ i : Nat, p2 = (i : Int) ∧ i < M ∧ itm i = x ∧ wtr i = (a : Int) := by
                rcases hsrc with h1 | ⟨i, h1, h2, h3, h4⟩
                · exact absurd h1 hp2
                · exact ⟨i, h1, by omega, h3, h4⟩
              have hlook : (getL (fun a b => a == b) ((b : Int), (x : Int)) lW).getD (.bool false) = .bool false ∨ ((getL (fun a b => a == b) ((b : Int), (x : Int)) lW).getD (.bool false) = .bool true ∧ Wr x b) := by
                cases hg : getL (fun a b => a == b) ((b : Int), (x : Int)) lW with
                | none => exact .inl rfl
                | some u =>
                  obtain ⟨qq, hq1, hq2⟩ := getL_mem hg
                  obtain ⟨hu, a2, x2, hqe, _, hw2⟩ := hMW _ hq1
                  have : ((b : Int), (x : Int)) = qq := by simpa using hq2
                  have hu' : u = .bool true := hu
                  have hqe' : qq = ((a2 : Int), (x2 : Int)) := hqe
                  rw [hqe'] at this
                  simp only [Prod.mk.injEq] at this
                  obtain rfl : b = a2 := by omega
                  obtain rfl : x = x2 := by omega
                  exact .inr ⟨hu', hw2⟩
              rcases hlook with hl | ⟨hl, hWb⟩
              · refine wp_seq_k (fun K125 hK125 => ?_)
                refine wp_seq_k (fun K126 hK126 => ?_)
                refine reg ?_
                refine sq rfl (fa63_1 (tm rfl (nx rfl (nx rfl (nx rfl c120_28))))) ?_
                refine sq rfl (do_load T3 rfl (tm rfl hit) cE1) ?_
                refine sq rfl (do_lssF (tm rfl hit) ck hp2) ?_
                refine sq rfl (do_move (tm rfl hit)) ?_
                refine sqg rfl rfl hit rfl (do_move (tm rfl (nx rfl (nx rfl (nx rfl (nx rfl (nx rfl (nx rfl (nx rfl c120_5))))))))) ?_
                refine sqg rfl rfl (nx rfl hit) rfl (do_move (tm rfl (nx rfl (nx rfl (nx rfl (nx rfl (nx rfl (nx rfl (nx rfl (nx rfl c120_23)))))))))) ?_
                refine sqg rfl rfl (nx rfl (nx rfl hit)) rfl (fa63_0 (tm rfl (nx rfl (nx rfl (nx rfl (nx rfl (nx rfl (nx rfl (nx rfl (nx rfl (nx rfl c120_28))))))))))) ?_
                refine sqg rfl rfl (nx rfl (nx rfl (nx rfl hit))) rfl (do_load T3 rfl (tm rfl hit) cE0) ?_
                refine sqg rfl rfl (nx rfl (nx rfl (nx rfl (nx rfl hit)))) rfl (do_build60 (tm rfl (nx rfl (nx rfl hit))) (tm rfl hit)) ?_
                refine sqg rfl rfl (nx rfl (nx rfl (nx rfl (nx rfl (nx rfl hit))))) rfl ((MapV.look1 key60 Try.underlying84 zero4 hmG hsG1 (k := ((b : Int), (x : Int))) (tm rfl (nx rfl (nx rfl (nx rfl (nx rfl hit))))) (tm rfl hit)).cast hl) ?_
                refine sqg rfl rfl (nx rfl (nx rfl (nx rfl (nx rfl (nx rfl (nx rfl hit)))))) rfl (do_not (tm rfl hit)) ?_
                refine sq rfl (do_pickF (tm rfl (nx rfl (nx rfl (nx rfl (nx rfl (nx rfl (nx rfl (nx rfl hit)))))))) (tm rfl hit)) ?_
                refine cutL ?_
                intro τ127 e127
                have c127_1 := (congrFun e127 1).trans (nx rfl (nx rfl (nx rfl (nx rfl (nx rfl (nx rfl (nx rfl (nx rfl (nx rfl (nx rfl (nx rfl (nx rfl (nx rfl (nx rfl (nx rfl c120_1)))))))))))))))
                have c127_2 := (congrFun e127 2).trans (nx rfl (nx rfl (nx rfl (nx rfl (nx rfl (nx rfl (nx rfl (nx rfl (nx rfl (nx rfl (nx rfl (nx rfl (nx rfl (nx rfl (nx rfl c120_2)))))))))))))))
                have c127_3 := (congrFun e127 3).trans (nx rfl (nx rfl (nx rfl (nx rfl (nx rfl (nx rfl (nx rfl (nx rfl (nx rfl (nx rfl (nx rfl (nx rfl (nx rfl (nx rfl (nx rfl c120_3)))))))))))))))
                have c127_5 := (congrFun e127 5).trans (nx rfl (nx rfl (nx rfl (nx rfl (nx rfl (nx rfl (nx rfl (nx rfl (nx rfl (nx rfl (nx rfl (nx rfl (nx rfl (nx rfl (nx rfl c120_5)))))))))))))))
                have c127_11 := (congrFun e127 11).trans (nx rfl (nx rfl (nx rfl (nx rfl (nx rfl (nx rfl (nx rfl (nx rfl (nx rfl (nx rfl (nx rfl (nx rfl (nx rfl (nx rfl (nx rfl c120_11)))))))))))))))
                have c127_17 := (congrFun e127 17).trans (nx rfl (nx rfl (nx rfl (nx rfl (nx rfl (nx rfl (nx rfl (nx rfl (nx rfl (nx rfl (nx rfl (nx rfl (nx rfl (nx rfl (nx rfl c120_17)))))))))))))))
                have c127_18 := (congrFun e127 18).trans (nx rfl (nx rfl (nx rfl (nx rfl (nx rfl (nx rfl (nx rfl (nx rfl (nx rfl (nx rfl (nx rfl (nx rfl hit))))))))))))
                have c127_22 := (congrFun e127 22).trans (nx rfl (nx rfl (nx rfl (nx rfl (nx rfl (nx rfl (nx rfl (nx rfl (nx rfl (nx rfl (nx rfl (nx rfl (nx rfl (nx rfl (nx rfl c120_22)))))))))))))))
                have c127_23 := (congrFun e127 23).trans (nx rfl (nx rfl (nx rfl (nx rfl (nx rfl (nx rfl (nx rfl (nx rfl (nx rfl (nx rfl (nx rfl (nx rfl (nx rfl (nx rfl (nx rfl c120_23)))))))))))))))
                have c127_28 := (congrFun e127 28).trans (nx rfl (nx rfl (nx rfl (nx rfl (nx rfl (nx rfl (nx rfl (nx rfl (nx rfl (nx rfl (nx rfl (nx rfl (nx rfl (nx rfl (nx rfl c120_28)))))))))))))))
                have c127_207 := (congrFun e127 207).trans (nx rfl (nx rfl (nx rfl (nx rfl (nx rfl (nx rfl (nx rfl (nx rfl (nx rfl (nx rfl (nx rfl (nx rfl (nx rfl (nx rfl (nx rfl c120_207)))))))))))))))
                have c127_208 := (congrFun e127 208).trans (nx rfl (nx rfl (nx rfl (nx rfl (nx rfl (nx rfl (nx rfl (nx rfl (nx rfl (nx rfl (nx rfl (nx rfl (nx rfl (nx rfl (nx rfl c120_208)))))))))))))))
                have c127_209 := (congrFun e127 209).trans (nx rfl (nx rfl (nx rfl (nx rfl (nx rfl (nx rfl (nx rfl (nx rfl (nx rfl (nx rfl (nx rfl (nx rfl (nx rfl (nx rfl (nx rfl c120_209)))))))))))))))
                have c127_226 := (congrFun e127 226).trans hit
                clear e127
                refine wnil ?_
                refine hK126 _ _ ?_
                clear hK126
                refine cT rfl c127_226 rfl ?_
                refine wp_exit ?_
                refine thenE ?_
                refine inB ?_
                refine hK118 _ _ ?_
                clear hK118
                refine reg ?_
                refine sq rfl (do_inc (tm rfl c127_209) ck (by omega)) ?_
                refine sq rfl (do_move (tm rfl hit)) ?_
                refine wnil ?_
                exact hnn' (writes[a].length - (j + 1)) _ _ (by omega) ⟨j + 1, S, P, W - 1, rfl, by omega, (nx rfl (nx rfl c127_1)), (nx rfl (nx rfl c127_2)), (nx rfl (nx rfl c127_3)), (nx rfl (nx rfl c127_5)), (nx rfl (nx rfl c127_11)), (nx rfl (nx rfl c127_17)), (nx rfl (nx rfl c127_18)), (nx rfl (nx rfl c127_22)), (nx rfl (nx rfl c127_23)), (nx rfl (nx rfl c127_207)), (nx rfl (nx rfl c127_208)), hit, hD1 _ hsG1, by omega, by omega, by omega⟩
              · refine wp_seq_k (fun K128 hK128 => ?_)
                refine wp_seq_k (fun K129 hK129 => ?_)
                refine reg ?_
                refine sq rfl (fa63_1 (tm rfl (nx rfl (nx rfl (nx rfl c120_28))))) ?_
                refine sq rfl (do_load T3 rfl (tm rfl hit) cE1) ?_
                refine sq rfl (do_lssF (tm rfl hit) ck hp2) ?_
                refine sq rfl (do_move (tm rfl hit)) ?_
                refine sqg rfl rfl hit rfl (do_move (tm rfl (nx rfl (nx rfl (nx rfl (nx rfl (nx rfl (nx rfl (nx rfl c120_5))))))))) ?_
                refine sqg rfl rfl (nx rfl hit) rfl (do_move (tm rfl (nx rfl (nx rfl (nx rfl (nx rfl (nx rfl (nx rfl (nx rfl (nx rfl c120_23)))))))))) ?_
                refine sqg rfl rfl (nx rfl (nx rfl hit)) rfl (fa63_0 (tm rfl (nx rfl (nx rfl (nx rfl (nx rfl (nx rfl (nx rfl (nx rfl (nx rfl (nx rfl c120_28))))))))))) ?_
                refine sqg rfl rfl (nx rfl (nx rfl (nx rfl hit))) rfl (do_load T3 rfl (tm rfl hit) cE0) ?_
                refine sqg rfl rfl (nx rfl (nx rfl (nx rfl (nx rfl hit)))) rfl (do_build60 (tm rfl (nx rfl (nx rfl hit))) (tm rfl hit)) ?_
                refine sqg rfl rfl (nx rfl (nx rfl (nx rfl (nx rfl (nx rfl hit))))) rfl ((MapV.look1 key60 Try.underlying84 zero4 hmG hsG1 (k := ((b : Int), (x : Int))) (tm rfl (nx rfl (nx rfl (nx rfl (nx rfl hit))))) (tm rfl hit)).cast hl) ?_
                refine sqg rfl rfl (nx rfl (nx rfl (nx rfl (nx rfl (nx rfl (nx rfl hit)))))) rfl (do_not (tm rfl hit)) ?_
                refine sq rfl (do_pickF (tm rfl (nx rfl (nx rfl (nx rfl (nx rfl (nx rfl (nx rfl (nx rfl hit)))))))) (tm rfl hit)) ?_
                refine cutL ?_
                intro τ130 e130
                have c130_1 := (congrFun e130 1).trans (nx rfl (nx rfl (nx rfl (nx rfl (nx rfl (nx rfl (nx rfl (nx rfl (nx rfl (nx rfl (nx rfl (nx rfl (nx rfl (nx rfl (nx rfl c120_1)))))))))))))))
                have c130_2 := (congrFun e130 2).trans (nx rfl (nx rfl (nx rfl (nx rfl (nx rfl (nx rfl (nx rfl (nx rfl (nx rfl (nx rfl (nx rfl (nx rfl (nx rfl (nx rfl (nx rfl c120_2)))))))))))))))
                have c130_3 := (congrFun e130 3).trans (nx rfl (nx rfl (nx rfl (nx rfl (nx rfl (nx rfl (nx rfl (nx rfl (nx rfl (nx rfl (nx rfl (nx rfl (nx rfl (nx rfl (nx rfl c120_3)))))))))))))))
                have c130_5 := (congrFun e130 5).trans (nx rfl (nx rfl (nx rfl (nx rfl (nx rfl (nx rfl (nx rfl (nx rfl (nx rfl (nx rfl (nx rfl (nx rfl (nx rfl (nx rfl (nx rfl c120_5)))))))))))))))
                have c130_11 := (congrFun e130 11).trans (nx rfl (nx rfl (nx rfl (nx rfl (nx rfl (nx rfl (nx rfl (nx rfl (nx rfl (nx rfl (nx rfl (nx rfl (nx rfl (nx rfl (nx rfl c120_11)))))))))))))))
                have c130_17 := (congrFun e130 17).trans (nx rfl (nx rfl (nx rfl (nx rfl (nx rfl (nx rfl (nx rfl (nx rfl (nx rfl (nx rfl (nx rfl (nx rfl (nx rfl (nx rfl (nx rfl c120_17)))))))))))))))
                have c130_18 := (congrFun e130 18).trans (nx rfl (nx rfl (nx rfl (nx rfl (nx rfl (nx rfl (nx rfl (nx rfl (nx rfl (nx rfl (nx rfl (nx rfl hit))))))))))))
                have c130_22 := (congrFun e130 22).trans (nx rfl (nx rfl (nx rfl (nx rfl (nx rfl (nx rfl (nx rfl (nx rfl (nx rfl (nx rfl (nx rfl (nx rfl (nx rfl (nx rfl (nx rfl c120_22)))))))))))))))
                have c130_23 := (congrFun e130 23).trans (nx rfl (nx rfl (nx rfl (nx rfl (nx rfl (nx rfl (nx rfl (nx rfl (nx rfl (nx rfl (nx rfl (nx rfl (nx rfl (nx rfl (nx rfl c120_23)))))))))))))))
                have c130_28 := (congrFun e130 28).trans (nx rfl (nx rfl (nx rfl (nx rfl (nx rfl (nx rfl (nx rfl (nx rfl (nx rfl (nx rfl (nx rfl (nx rfl (nx rfl (nx rfl (nx rfl c120_28)))))))))))))))
                have c130_207 := (congrFun e130 207).trans (nx rfl (nx rfl (nx rfl (nx rfl (nx rfl (nx rfl (nx rfl (nx rfl (nx rfl (nx rfl (nx rfl (nx rfl (nx rfl (nx rfl (nx rfl c120_207)))))))))))))))
                have c130_208 := (congrFun e130 208).trans (nx rfl (nx rfl (nx rfl (nx rfl (nx rfl (nx rfl (nx rfl (nx rfl (nx rfl (nx rfl (nx rfl (nx rfl (nx rfl (nx rfl (nx rfl c120_208)))))))))))))))
                have c130_209 := (congrFun e130 209).trans (nx rfl (nx rfl (nx rfl (nx rfl (nx rfl (nx rfl (nx rfl (nx rfl (nx rfl (nx rfl (nx rfl (nx rfl (nx rfl (nx rfl (nx rfl c120_209)))))))))))))))
                have c130_226 := (congrFun e130 226).trans hit
                clear e130
                refine wnil ?_
                refine hK129 _ _ ?_
                clear hK129
                refine cF rfl c130_226 rfl ?_
                refine wp_skip ?_
                refine hK128 _ _ ?_
                clear hK128
                have hDG : TabV (G1 6) 22 3 1 encI (.slice da M dc) readers := by rw [kG1' 6 (by decide)]; exact hDA
                obtain ⟨g3, c3, rfl, hc3, _, hr3⟩ := hDG.getS hsG1.drew (i := i) (by omega)
                obtain ⟨ia3, ic3, rfl⟩ := hr3.slice
                rw [kG1' 6 (by decide)] at hr3
                have hl3 := len_le_sum readers i (by omega)
                refine wp_seq_k (fun K131 hK131 => ?_)
                refine draw mixed [] [(0, 0), (0, 0), (0, 0), (0, 0), (0, 0), (0, 0), (0, 0), (0, 0), (0, 0), (0, 0)] [] (World.drew _) (upd (upd (upd (upd (upd (upd (upd (upd (upd (upd _ 227 _) 228 _) 229 _) 230 _) 231 _) 232 _) 233 _) 234 _) 235 _) 236 _) (by kernel_rfl) (fun s hs => ovr_off [(227, _), (228, _), (229, _), (230, _), (231, _), (232, _), (233, _), (234, _), (235, _), (236, _)] _ s hs) ⟨(qk rfl (do_load T33 rfl (tm rfl (nx rfl (nx rfl (nx rfl (nx rfl (nx rfl (nx rfl (nx rfl (nx rfl (nx rfl (nx rfl c130_1))))))))))) ((kG1'.vb (t := 20) (by decide) hpvA).cell hsG1.drew (i := 0) rfl)) (nx rfl (nx rfl (nx rfl (nx rfl (nx rfl (nx rfl (nx rfl (nx rfl (nx rfl hit)))))))))), (qa rfl (fun _ => (do_nilCheck (tm rfl (nx rfl (nx rfl (nx rfl (nx rfl (nx rfl (nx rfl (nx rfl (nx rfl (nx rfl hit)))))))))))) (nx rfl (nx rfl (nx rfl (nx rfl (nx rfl (nx rfl (nx rfl (nx rfl hit))))))))), (qa rfl (fun _ => (fa58_4 (tm rfl (nx rfl (nx rfl (nx rfl (nx rfl (nx rfl (nx rfl (nx rfl (nx rfl hit))))))))))) (nx rfl (nx rfl (nx rfl (nx rfl (nx rfl (nx rfl (nx rfl hit)))))))), (qk rfl (do_load T37 rfl (tm rfl (nx rfl (nx rfl (nx rfl (nx rfl (nx rfl (nx rfl (nx rfl hit)))))))) ((kG1'.vb (t := 1) (by decide) hpA).cell hsG1.drew (i := 4) rfl)) (nx rfl (nx rfl (nx rfl (nx rfl (nx rfl (nx rfl hit))))))), (qa rfl (fun _ => (fa63_1 (tm rfl (nx rfl (nx rfl (nx rfl (nx rfl (nx rfl (nx rfl (nx rfl (nx rfl (nx rfl (nx rfl c130_28))))))))))))) (nx rfl (nx rfl (nx rfl (nx rfl (nx rfl hit)))))), (qk rfl (do_load T3 rfl (tm rfl (nx rfl (nx rfl (nx rfl (nx rfl (nx rfl hit)))))) (hE.cell hsG1.drew (i := 1) rfl)) (nx rfl (nx rfl (nx rfl (nx rfl hit))))), (qa rfl (fun _ => (ix37 (tm rfl (nx rfl (nx rfl (nx rfl (nx rfl (nx rfl (nx rfl hit))))))) (tm rfl (nx rfl (nx rfl (nx rfl (nx rfl hit))))) (by omega))) (nx rfl (nx rfl (nx rfl hit)))), (qk rfl (do_load T22 rfl (tm rfl (nx rfl (nx rfl (nx rfl hit)))) hc3) (nx rfl (nx rfl hit))), (qa rfl (fun _ => (do_len Try.underlying22 (tm rfl (nx rfl (nx rfl hit))))) (nx rfl hit)), (qa rfl (fun _ => (do_move (v := .int .i64 ((0 : Nat) : Int)) rfl)) hit), trivial⟩ rfl ?_
                intro τ132 e132
                have c132_1 := (congrFun e132 1).trans (nx rfl (nx rfl (nx rfl (nx rfl (nx rfl (nx rfl (nx rfl (nx rfl (nx rfl (nx rfl c130_1))))))))))
                have c132_2 := (congrFun e132 2).trans (nx rfl (nx rfl (nx rfl (nx rfl (nx rfl (nx rfl (nx rfl (nx rfl (nx rfl (nx rfl c130_2))))))))))
                have c132_3 := (congrFun e132 3).trans (nx rfl (nx rfl (nx rfl (nx rfl (nx rfl (nx rfl (nx rfl (nx rfl (nx rfl (nx rfl c130_3))))))))))
                have c132_5 := (congrFun e132 5).trans (nx rfl (nx rfl (nx rfl (nx rfl (nx rfl (nx rfl (nx rfl (nx rfl (nx rfl (nx rfl c130_5))))))))))
                have c132_11 := (congrFun e132 11).trans (nx rfl (nx rfl (nx rfl (nx rfl (nx rfl (nx rfl (nx rfl (nx rfl (nx rfl (nx rfl c130_11))))))))))
                have c132_17 := (congrFun e132 17).trans (nx rfl (nx rfl (nx rfl (nx rfl (nx rfl (nx rfl (nx rfl (nx rfl (nx rfl (nx rfl c130_17))))))))))
                have c132_18 := (congrFun e132 18).trans (nx rfl (nx rfl (nx rfl (nx rfl (nx rfl (nx rfl (nx rfl (nx rfl (nx rfl (nx rfl c130_18))))))))))
                have c132_22 := (congrFun e132 22).trans (nx rfl (nx rfl (nx rfl (nx rfl (nx rfl (nx rfl (nx rfl (nx rfl (nx rfl (nx rfl c130_22))))))))))
                have c132_23 := (congrFun e132 23).trans (nx rfl (nx rfl (nx rfl (nx rfl (nx rfl (nx rfl (nx rfl (nx rfl (nx rfl (nx rfl c130_23))))))))))
                have c132_28 := (congrFun e132 28).trans (nx rfl (nx rfl (nx rfl (nx rfl (nx rfl (nx rfl (nx rfl (nx rfl (nx rfl (nx rfl c130_28))))))))))
                have c132_207 := (congrFun e132 207).trans (nx rfl (nx rfl (nx rfl (nx rfl (nx rfl (nx rfl (nx rfl (nx rfl (nx rfl (nx rfl c130_207))))))))))
                have c132_208 := (congrFun e132 208).trans (nx rfl (nx rfl (nx rfl (nx rfl (nx rfl (nx rfl (nx rfl (nx rfl (nx rfl (nx rfl c130_208))))))))))
                have c132_209 := (congrFun e132 209).trans (nx rfl (nx rfl (nx rfl (nx rfl (nx rfl (nx rfl (nx rfl (nx rfl (nx rfl (nx rfl c130_209))))))))))
                have c132_234 := (congrFun e132 234).trans (nx rfl (nx rfl hit))
                have c132_235 := (congrFun e132 235).trans (nx rfl hit)
                have c132_236 := (congrFun e132 236).trans hit
                clear e132
                refine hK131 _ _ ?_
                clear hK131
                have hD2 := hD1 _ hsG1.drew
                clear hD1 hsG1 kG1' hmG cE0 cE1 hE hc3 hDG
                refine forLoop (N := 248) (fun q τ wi => ∃ (u S P : Nat) (W : Int), q = (readers[i]'(by omega)).length - u ∧ u ≤ (readers[i]'(by omega)).length ∧ τ 1 = .pointer (some ⟨bV, 0, none⟩) ∧ τ 2 = .slice (some ⟨bW, 0, none⟩) M M ∧ τ 3 = .slice (some ⟨bI, 0, none⟩) M M ∧ τ 5 = .map (some bM) ∧ τ 11 = .pointer (some ⟨bQ, 0, none⟩) ∧ τ 17 = .func (.func 39) #[] #[.pointer (some ⟨bE, 0, none⟩), .pointer (some ⟨bQ, 0, none⟩), .pointer (some ⟨bV, 0, none⟩)] ∧ τ 18 = .int .i64 W ∧ τ 22 = .int .i64 (a : Int) ∧ τ 23 = .int .i64 (b : Int) ∧ τ 207 = .slice (some ⟨g1, 0, none⟩) writes[a].length ic2 ∧ τ 208 = .int .i64 (writes[a].length : Int) ∧ τ 209 = .int .i64 (j : Int) ∧
                    τ 234 = .slice ia3 (readers[i]'(by omega)).length ic3 ∧ τ 235 = .int .i64 ((readers[i]'(by omega)).length : Int) ∧ τ 236 = .int .i64 (u : Int) ∧
                    Dyn N w0 HA (.slice sa n sc) bX bQ n rk wi S P ∧ (P : Int) + W ≤ (r : Int) - 1 ∧ (S : Int) + W ≤ (K1 : Int) ∧ 1 - (65536 : Int) - (j : Int) * 65537 - 1 - (u : Int) ≤ W)
                  (fun τ wi => ∃ (S P : Nat) (W : Int), τ 1 = .pointer (some ⟨bV, 0, none⟩) ∧ τ 2 = .slice (some ⟨bW, 0, none⟩) M M ∧ τ 3 = .slice (some ⟨bI, 0, none⟩) M M ∧ τ 5 = .map (some bM) ∧ τ 11 = .pointer (some ⟨bQ, 0, none⟩) ∧ τ 17 = .func (.func 39) #[] #[.pointer (some ⟨bE, 0, none⟩), .pointer (some ⟨bQ, 0, none⟩), .pointer (some ⟨bV, 0, none⟩)] ∧ τ 18 = .int .i64 W ∧ τ 22 = .int .i64 (a : Int) ∧ τ 23 = .int .i64 (b : Int) ∧ τ 207 = .slice (some ⟨g1, 0, none⟩) writes[a].length ic2 ∧ τ 208 = .int .i64 (writes[a].length : Int) ∧ τ 209 = .int .i64 (j : Int) ∧
                    Dyn N w0 HA (.slice sa n sc) bX bQ n rk wi S P ∧ (P : Int) + W ≤ (r : Int) - 1 ∧ (S : Int) + W ≤ (K1 : Int) ∧ 1 - (65536 : Int) - ((j + 1 : Nat) : Int) * 65537 ≤ W) (readers[i]'(by omega)).length ?_ ?_ ?_
                · exact ⟨0, S, P, W - 1, rfl, Nat.zero_le _, c132_1, c132_2, c132_3, c132_5, c132_11, c132_17, c132_18, c132_22, c132_23, c132_207, c132_208, c132_209, c132_234, c132_235, c132_236, hD2, by omega, by omega, by omega⟩
                · clear hD2 hn1 hn2 hn3 t1 t2 t3 t5 t11 t17 t18 t22 t23 t207 t208 t209
                  rintro Q3 q τ wi hnn3 hx3 hr3' ⟨u, S, P, W, rfl, hu, t1, t2, t3, t5, t11, t17, t18, t22, t23, t207, t208, t209, t234, t235, t236, hD, hn1, hn2, hn3⟩
                  refine wp_seq_k (fun K133 hK133 => ?_)
                  refine reg ?_
                  refine sq rfl (do_lss (tm rfl t236) (tm rfl t235)) ?_
                  refine wnil ?_
                  refine hK133 _ _ ?_
                  clear hK133
                  by_cases h3 : u < (readers[i]'(by omega)).length
                  · refine wp_seq_k (fun K134 hK134 => ?_)
                    refine cT rfl hit (by simpa using h3) ?_
                    refine wp_skip ?_
                    refine hK134 _ _ ?_
                    clear hK134
                    obtain ⟨G, _, _, _, _, hsG, kG, _⟩ := id hD
                    have hrG : RowV (G 6) 3 1 (.slice ia3 (readers[i]'(by omega)).length ic3) (readers[i]'(by omega)).length ((readers[i]'(by omega)).flatMap encI) := by rw [kG 6 (by decide)]; exact hr3
                    obtain ⟨g4, rfl, f1, _⟩ := hrG.cellS hsG (cellI h3)
                    obtain ⟨y, hy, hyn, hBt⟩ := F.rs i (by omega) ((readers[i]'(by omega))[u]) (List.getElem_mem _)
                    rw [hy] at f1
                    have hforce : y = b ∨ rk y < rk b := by
                      rw [hitm, hwt] at hBt
                      rcases hBt b hWb with ⟨v2, hv2, hv3⟩ | h1
                      · obtain rfl : a = v2 := by omega
                        rcases hv3 with rfl | h2 <;> omega
                      · rcases Nat.lt_or_ge (rk y) (rk b) with h2 | h2
                        · exact .inr h2
                        · exact .inl (F.inj y b hyn hb (by omega))
                    refine wp_seq_k (fun K135 hK135 => ?_)
                    refine wp_block ?_
                    refine wp_seq_k (fun K136 hK136 => ?_)
                    refine reg ?_
                    refine sq rfl (ix22 (tm rfl (nx rfl t234)) (tm rfl (nx rfl t236)) (by omega)) ?_
                    refine sq rfl (do_load T3 rfl (tm rfl hit) f1) ?_
                    refine sq rfl (do_assign (tm rfl hit)) ?_
                    refine cutL ?_
                    intro τ137 e137
                    have c137_1 := (congrFun e137 1).trans (nx rfl (nx rfl (nx rfl (nx rfl t1))))
                    have c137_2 := (congrFun e137 2).trans (nx rfl (nx rfl (nx rfl (nx rfl t2))))
                    have c137_3 := (congrFun e137 3).trans (nx rfl (nx rfl (nx rfl (nx rfl t3))))
                    have c137_5 := (congrFun e137 5).trans (nx rfl (nx rfl (nx rfl (nx rfl t5))))
                    have c137_11 := (congrFun e137 11).trans (nx rfl (nx rfl (nx rfl (nx rfl t11))))
                    have c137_17 := (congrFun e137 17).trans (nx rfl (nx rfl (nx rfl (nx rfl t17))))
                    have c137_18 := (congrFun e137 18).trans (nx rfl (nx rfl (nx rfl (nx rfl t18))))
                    have c137_22 := (congrFun e137 22).trans (nx rfl (nx rfl (nx rfl (nx rfl t22))))
                    have c137_23 := (congrFun e137 23).trans (nx rfl (nx rfl (nx rfl (nx rfl t23))))
                    have c137_30 := (congrFun e137 30).trans hit
                    have c137_207 := (congrFun e137 207).trans (nx rfl (nx rfl (nx rfl (nx rfl t207))))
                    have c137_208 := (congrFun e137 208).trans (nx rfl (nx rfl (nx rfl (nx rfl t208))))
                    have c137_209 := (congrFun e137 209).trans (nx rfl (nx rfl (nx rfl (nx rfl t209))))
                    have c137_234 := (congrFun e137 234).trans (nx rfl (nx rfl (nx rfl (nx rfl t234))))
                    have c137_235 := (congrFun e137 235).trans (nx rfl (nx rfl (nx rfl (nx rfl t235))))
                    have c137_236 := (congrFun e137 236).trans (nx rfl (nx rfl (nx rfl (nx rfl t236))))
                    clear e137
                    refine wnil ?_
                    refine hK136 _ _ ?_
                    clear hK136
                    refine wp_seq_k (fun K138 hK138 => ?_)
                    refine reg ?_
                    refine sq rfl (do_move (tm rfl c137_18)) ?_
                    refine sq rfl (do_sub (tm rfl hit) ck ⟨by omega, by omega⟩) ?_
                    refine sq rfl (do_assign (tm rfl hit)) ?_
                    refine wnil ?_
                    refine hK138 _ _ ?_
                    clear hK138
                    refine reg ?_
                    refine sq rfl (do_move (tm rfl (nx rfl (nx rfl (nx rfl c137_17))))) ?_
                    refine sq rfl (do_move (tm rfl (nx rfl (nx rfl (nx rfl (nx rfl c137_30)))))) ?_
                    refine sq rfl (do_move (tm rfl (nx rfl (nx rfl (nx rfl (nx rfl (nx rfl c137_23))))))) ?_
                    refine sqc (R := fun _ w' => ∃ S' P', Dyn N w0 HA (.slice sa n sc) bX bQ n rk w' S' P' ∧ S' ≤ S + 1 ∧ P' ≤ P + 1) rfl
                      (run_callV Try.func39 nm39 bd39 (map2 (tm rfl (nx rfl hit)) (tm rfl hit)) (tm rfl (nx rfl (nx rfl hit)))) ((forceD hD hpvA hpA rfl hevA y b hyn hb hforce (by omega) (by omega)).mono ?_) ?_
                    · rintro e w' ⟨v', rfl, h⟩
                      exact ⟨_, rfl, h⟩
                    rintro cv w3 ⟨S', P', hD', hS', hP'⟩
                    refine cutL ?_
                    intro τ139 e139
                    have c139_1 := (congrFun e139 1).trans (nx rfl (nx rfl (nx rfl (nx rfl (nx rfl (nx rfl (nx rfl c137_1)))))))
                    have c139_2 := (congrFun e139 2).trans (nx rfl (nx rfl (nx rfl (nx rfl (nx rfl (nx rfl (nx rfl c137_2)))))))
                    have c139_3 := (congrFun e139 3).trans (nx rfl (nx rfl (nx rfl (nx rfl (nx rfl (nx rfl (nx rfl c137_3)))))))
                    have c139_5 := (congrFun e139 5).trans (nx rfl (nx rfl (nx rfl (nx rfl (nx rfl (nx rfl (nx rfl c137_5)))))))
                    have c139_11 := (congrFun e139 11).trans (nx rfl (nx rfl (nx rfl (nx rfl (nx rfl (nx rfl (nx rfl c137_11)))))))
                    have c139_17 := (congrFun e139 17).trans (nx rfl (nx rfl (nx rfl (nx rfl (nx rfl (nx rfl (nx rfl c137_17)))))))
                    have c139_18 := (congrFun e139 18).trans (nx rfl (nx rfl (nx rfl (nx rfl hit))))
                    have c139_22 := (congrFun e139 22).trans (nx rfl (nx rfl (nx rfl (nx rfl (nx rfl (nx rfl (nx rfl c137_22)))))))
                    have c139_23 := (congrFun e139 23).trans (nx rfl (nx rfl (nx rfl (nx rfl (nx rfl (nx rfl (nx rfl c137_23)))))))
                    have c139_30 := (congrFun e139 30).trans (nx rfl (nx rfl (nx rfl (nx rfl (nx rfl (nx rfl (nx rfl c137_30)))))))
                    have c139_207 := (congrFun e139 207).trans (nx rfl (nx rfl (nx rfl (nx rfl (nx rfl (nx rfl (nx rfl c137_207)))))))
                    have c139_208 := (congrFun e139 208).trans (nx rfl (nx rfl (nx rfl (nx rfl (nx rfl (nx rfl (nx rfl c137_208)))))))
                    have c139_209 := (congrFun e139 209).trans (nx rfl (nx rfl (nx rfl (nx rfl (nx rfl (nx rfl (nx rfl c137_209)))))))
                    have c139_234 := (congrFun e139 234).trans (nx rfl (nx rfl (nx rfl (nx rfl (nx rfl (nx rfl (nx rfl c137_234)))))))
                    have c139_235 := (congrFun e139 235).trans (nx rfl (nx rfl (nx rfl (nx rfl (nx rfl (nx rfl (nx rfl c137_235)))))))
                    have c139_236 := (congrFun e139 236).trans (nx rfl (nx rfl (nx rfl (nx rfl (nx rfl (nx rfl (nx rfl c137_236)))))))
                    clear e139
                    refine wnil ?_
                    refine inBN ?_
                    refine hK135 _ _ ?_
                    clear hK135
                    refine reg ?_
                    refine sq rfl (do_inc (tm rfl c139_236) ck (by omega)) ?_
                    refine sq rfl (do_move (tm rfl hit)) ?_
                    refine wnil ?_
                    exact hnn3 ((readers[i]'(by omega)).length - (u + 1)) _ _ (by omega) ⟨u + 1, S', P', W - 1, rfl, by omega, (nx rfl (nx rfl c139_1)), (nx rfl (nx rfl c139_2)), (nx rfl (nx rfl c139_3)), (nx rfl (nx rfl c139_5)), (nx rfl (nx rfl c139_11)), (nx rfl (nx rfl c139_17)), (nx rfl (nx rfl c139_18)), (nx rfl (nx rfl c139_22)), (nx rfl (nx rfl c139_23)), (nx rfl (nx rfl c139_207)), (nx rfl (nx rfl c139_208)), (nx rfl (nx rfl c139_209)), (nx rfl (nx rfl c139_234)), (nx rfl (nx rfl c139_235)), hit, hD', by omega, by omega, by omega⟩
                  · refine wp_seq_k (fun K140 hK140 => ?_)
                    refine cF rfl hit (by simpa using h3) ?_
                    refine wp_exit ?_
                    refine thenE ?_
                    exact hx3 _ _ ⟨S, P, W, (nx rfl t1), (nx rfl t2), (nx rfl t3), (nx rfl t5), (nx rfl t11), (nx rfl t17), (nx rfl t18), (nx rfl t22), (nx rfl t23), (nx rfl t207), (nx rfl t208), (nx rfl t209), hD, hn1, hn2, by omega⟩
                clear hD2 hn1 hn2 hn3 t1 t2 t3 t5 t11 t17 t18 t22 t23 t207 t208 t209
                rintro τ wi ⟨S, P, W, t1, t2, t3, t5, t11, t17, t18, t22, t23, t207, t208, t209, hD, hn1, hn2, hn3⟩
                refine inBN ?_
                refine hK118 _ _ ?_
                clear hK118
                refine reg ?_
                refine sq rfl (do_inc (tm rfl t209) ck (by omega)) ?_
                refine sq rfl (do_move (tm rfl hit)) ?_
                refine wnil ?_
                exact hnn' (writes[a].length - (j + 1)) _ _ (by omega) ⟨j + 1, S, P, W, rfl, by omega, (nx rfl (nx rfl t1)), (nx rfl (nx rfl t2)), (nx rfl (nx rfl t3)), (nx rfl (nx rfl t5)), (nx rfl (nx rfl t11)), (nx rfl (nx rfl t17)), (nx rfl (nx rfl t18)), (nx rfl (nx rfl t22)), (nx rfl (nx rfl t23)), (nx rfl (nx rfl t207)), (nx rfl (nx rfl t208)), hit, hD, by omega, by omega, by omega⟩
          · refine wp_seq_k (fun K141 hK141 => ?_)
            refine cF rfl hit (by simpa using h') ?_
            refine wp_exit ?_
            refine thenE ?_
            exact hx' _ _ ⟨S, P, W, (nx rfl t1), (nx rfl t2), (nx rfl t3), (nx rfl t5), (nx rfl t11), (nx rfl t17), (nx rfl t18), hD, hn1, hn2, by omega⟩
        clear hD hn1 hn2 hn3 t1 t2 t3 t5 t11 t17 t18 t22 t23
        rintro τ wi ⟨S, P, W, t1, t2, t3, t5, t11, t17, t18, hD, hn1, hn2, hn3⟩
        refine inBN ?_
        exact hnn (r - 1) _ _ (by omega) ⟨S, P, W, t1, t2, t3, t5, t11, t17, t18, hD, by omega, by omega, hn2, hn3⟩
  clear t1 t2 t3 t5 t11 t17 t18 hDyn0
  rintro τ wi ⟨S, P, W, hD, hm3, hm4⟩
  obtain ⟨G, rows, pd, l, qv, hsG, kG, hT, hmp, hlv, hqv, hq, hrl, hsum, hpl, hed', hpe⟩ := hD
  rw [← hQ]
  exact ret0 rfl fun v => ⟨v, rfl, G, rows, hsG, kC.trans (kG.mono (by decide)), hT, hrl, hed', by omega⟩
end Go.Proofs.Qxb6001364a
