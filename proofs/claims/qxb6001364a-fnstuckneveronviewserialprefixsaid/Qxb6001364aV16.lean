/-
  ZZWriteItems.
-/
import Derived.Test.Qxb6001364aV16h
namespace Go.Proofs.Qxb6001364a
open Go.Fra Go.RowKit Pl
set_option maxRecDepth 100000
set_option linter.unusedVariables false

theorem take_rep (m : Nat) : (madeCells #[.int .i64 0] m).toList.take ((List.replicate m (0 : Int)).length * 1) = (List.replicate m (0 : Int)).flatMap encI := by
  rw [made_ints, flat_I]
  simp [ints]

set_option maxHeartbeats 1000000 in
theorem items26 {N : Nat} {w0 w : World} {H : Nat → Part} (hs : Split N w0 w H) (pb n : Nat) (wa : Option Addr) (wc : Nat) (pcs : List Value) (writes : List (List (Int × Int))) (hp : VB (H 1) pb 58 pcs) (hp1 : pcs[1]? = some (.slice wa n wc)) (hW : TabV (H 3) 61 63 2 encP (.slice wa n wc) writes) (hwl : writes.length = n) (hn : n ≤ 65536) (hsum : sumLen writes ≤ 65536) :
    Calls Try.prog 26 #[.pointer (some ⟨pb, 0, none⟩)] w fun e w' => ∃ (vI vS : Value) (H' : Nat → Part), e = .returned (.tuple #[vI, vS]) ∧ Split N w0 w' H' ∧ Same [51, 52] H H' ∧ TabV (H' 51) 22 3 1 encI vI (writes.map fun r => r.map Prod.fst) ∧ TabV (H' 52) 22 3 1 encI vS (writes.map fun r => r.map Prod.snd) := by
  refine enter (args := [.pointer (some ⟨pb, 0, none⟩)]) Try.func26 rfl Try.ntmps26 rfl ?_
  generalize hQ : bodyPost Try.prog Try.f26 _ = Q
  have s0 : frame0 [Value.pointer (some ⟨pb, 0, none⟩)] 0 = .pointer (some ⟨pb, 0, none⟩) := rfl
  generalize frame0 [Value.pointer (some ⟨pb, 0, none⟩)] = σ at *
  refine wp_seq_k (fun K1 hK1 => ?_)
  refine reg ?_
  refine sq rfl (do_assign ck) ?_
  refine sq rfl (do_assign ck) ?_
  refine wnil ?_
  refine hK1 _ _ ?_
  clear hK1
  refine wp_seq_k (fun K2 hK2 => ?_)
  refine reg ?_
  refine sq rfl (do_move (tm rfl (nx rfl (nx rfl s0)))) ?_
  refine sq rfl (do_nilCheck (tm rfl hit)) ?_
  refine sq rfl (fa58_1 (tm rfl hit)) ?_
  refine sq rfl (do_load T56 rfl (tm rfl hit) (hp.cell hs hp1)) ?_
  refine sq rfl (do_len Try.underlying56 (tm rfl hit)) ?_
  refine sq rfl (mk37 (tm rfl hit) (tm rfl hit) (by omega)) ?_
  refine sq rfl (do_assign (tm rfl hit)) ?_
  refine cutW ?_
  intro τ3 e3 xa hxa
  have c3_0 := (congrFun e3 0).trans (nx rfl (nx rfl (nx rfl (nx rfl (nx rfl (nx rfl (nx rfl (nx rfl (nx rfl s0)))))))))
  have c3_2 := (congrFun e3 2).trans (nx rfl (nx rfl (nx rfl (nx rfl (nx rfl (nx rfl (nx rfl (nx rfl hit))))))))
  have c3_3 := (congrFun e3 3).trans (nx rfl (nx rfl (nx rfl (nx rfl (nx rfl (nx rfl (nx rfl hit)))))))
  have c3_4 := (congrFun e3 4).trans hit
  clear e3
  refine wnil ?_
  refine hK2 _ _ ?_
  clear hK2
  obtain ⟨G1, k1, hraw, hA1⟩ := blkN hs 51 22 (madeCells #[.slice none 0 0] n)
  have hs1 : Split N w0 xa G1 := by rw [hxa]; exact hraw
  rw [made_list] at hA1
  have hT1 : TabV (G1 51) 22 3 1 encI (.slice (some ⟨w.heap.size, 0, none⟩) n n) (List.replicate n []) := TabV.ofVB hA1 (by omega)
  have hp' := k1.vb (t := 1) (by decide) hp
  clear hxa hraw hA1
  generalize w.heap.size = bI at *
  refine wp_seq_k (fun K4 hK4 => ?_)
  refine reg ?_
  refine sq rfl (do_move (tm rfl c3_0)) ?_
  refine sq rfl (do_nilCheck (tm rfl hit)) ?_
  refine sq rfl (fa58_1 (tm rfl hit)) ?_
  refine sq rfl (do_load T56 rfl (tm rfl hit) (hp'.cell hs1 hp1)) ?_
  refine sq rfl (do_len Try.underlying56 (tm rfl hit)) ?_
  refine sq rfl (mk37 (tm rfl hit) (tm rfl hit) (by omega)) ?_
  refine sq rfl (do_assign (tm rfl hit)) ?_
  refine cutW ?_
  intro τ5 e5 xb hxb
  have c5_0 := (congrFun e5 0).trans (nx rfl (nx rfl (nx rfl (nx rfl (nx rfl (nx rfl (nx rfl c3_0)))))))
  have c5_2 := (congrFun e5 2).trans (nx rfl (nx rfl (nx rfl (nx rfl (nx rfl (nx rfl (nx rfl c3_2)))))))
  have c5_3 := (congrFun e5 3).trans (nx rfl (nx rfl (nx rfl (nx rfl (nx rfl (nx rfl (nx rfl c3_3)))))))
  have c5_4 := (congrFun e5 4).trans (nx rfl (nx rfl (nx rfl (nx rfl (nx rfl (nx rfl (nx rfl c3_4)))))))
  have c5_5 := (congrFun e5 5).trans hit
  clear e5
  refine wnil ?_
  refine hK4 _ _ ?_
  clear hK4
  obtain ⟨G2, k2, hraw, hA2⟩ := blkN hs1 52 22 (madeCells #[.slice none 0 0] n)
  have hs2 : Split N w0 xb G2 := by rw [hxb]; exact hraw
  rw [made_list] at hA2
  have hT2 : TabV (G2 52) 22 3 1 encI (.slice (some ⟨xa.heap.size, 0, none⟩) n n) (List.replicate n []) := TabV.ofVB hA2 (by omega)
  have hT1' : TabV (G2 51) 22 3 1 encI (.slice (some ⟨bI, 0, none⟩) n n) (List.replicate n []) := by rw [k2 51 (by decide)]; exact hT1
  have hp2 := k2.vb (t := 1) (by decide) hp'
  have kk : Same [51, 52] H G2 := (k1.mono (by decide)).trans (k2.mono (by decide))
  clear hxb hraw hA2 hT1 hp' hs1 k1 k2
  generalize xa.heap.size = bS at *
  refine wp_seq_k (fun K6 hK6 => ?_)
  refine wp_seq_k (fun K7 hK7 => ?_)
  refine reg ?_
  refine sq rfl (do_move (tm rfl c5_0)) ?_
  refine sq rfl (do_nilCheck (tm rfl hit)) ?_
  refine sq rfl (fa58_1 (tm rfl hit)) ?_
  refine sq rfl (do_load T56 rfl (tm rfl hit) (hp2.cell hs2 hp1)) ?_
  refine sq rfl (do_len Try.underlying56 (tm rfl hit)) ?_
  refine sq rfl (do_move (v := .int .i64 ((0 : Nat) : Int)) rfl) ?_
  refine cutL ?_
  intro τ8 e8
  have c8_0 := (congrFun e8 0).trans (nx rfl (nx rfl (nx rfl (nx rfl (nx rfl (nx rfl c5_0))))))
  have c8_2 := (congrFun e8 2).trans (nx rfl (nx rfl (nx rfl (nx rfl (nx rfl (nx rfl c5_2))))))
  have c8_3 := (congrFun e8 3).trans (nx rfl (nx rfl (nx rfl (nx rfl (nx rfl (nx rfl c5_3))))))
  have c8_4 := (congrFun e8 4).trans (nx rfl (nx rfl (nx rfl (nx rfl (nx rfl (nx rfl c5_4))))))
  have c8_5 := (congrFun e8 5).trans (nx rfl (nx rfl (nx rfl (nx rfl (nx rfl (nx rfl c5_5))))))
  have c8_24 := (congrFun e8 24).trans (nx rfl hit)
  have c8_25 := (congrFun e8 25).trans hit
  clear e8
  refine wnil ?_
  refine hK7 _ _ ?_
  clear hK7
  refine forLoop (N := 101) (fun r τ wi => ∃ (x : Nat) (G : Nat → Part) (ri rs : List (List Int)), r = n - x ∧ x ≤ n ∧ τ 0 = .pointer (some ⟨pb, 0, none⟩) ∧ τ 4 = .slice (some ⟨bI, 0, none⟩) n n ∧ τ 5 = .slice (some ⟨bS, 0, none⟩) n n ∧ τ 24 = .int .i64 (n : Int) ∧ τ 25 = .int .i64 (x : Int) ∧ Split N w0 wi G ∧ Same [51, 52] H G ∧ TabV (G 51) 22 3 1 encI (.slice (some ⟨bI, 0, none⟩) n n) ri ∧ TabV (G 52) 22 3 1 encI (.slice (some ⟨bS, 0, none⟩) n n) rs ∧ ri.length = n ∧ rs.length = n ∧ (∀ y (h : y < writes.length), y < x → ri[y]? = some (writes[y].map Prod.fst) ∧ rs[y]? = some (writes[y].map Prod.snd)))
    (fun τ wi => ∃ (G : Nat → Part) (ri rs : List (List Int)), τ 0 = .pointer (some ⟨pb, 0, none⟩) ∧ τ 4 = .slice (some ⟨bI, 0, none⟩) n n ∧ τ 5 = .slice (some ⟨bS, 0, none⟩) n n ∧ Split N w0 wi G ∧ Same [51, 52] H G ∧ TabV (G 51) 22 3 1 encI (.slice (some ⟨bI, 0, none⟩) n n) ri ∧ TabV (G 52) 22 3 1 encI (.slice (some ⟨bS, 0, none⟩) n n) rs ∧ ri = writes.map (fun r => r.map Prod.fst) ∧ rs = writes.map (fun r => r.map Prod.snd)) n ?_ ?_ ?_
  · exact ⟨0, G2, _, _, rfl, Nat.zero_le _, c8_0, c8_4, c8_5, c8_24, c8_25, hs2, kk, hT1', hT2, by simp, by simp, fun y _ hy => by omega⟩
  · clear s0 hs2 kk hT1' hT2 hp2
    rintro Q' r τ wi hnn hx hr ⟨x, G, ri, rs, rfl, hi, t0, t4, t5, t24, t25, hsG, kG, hTI, hTS, hil, hsl, hdone⟩
    refine wp_seq_k (fun K9 hK9 => ?_)
    refine reg ?_
    refine sq rfl (do_lss (tm rfl t25) (tm rfl t24)) ?_
    refine wnil ?_
    refine hK9 _ _ ?_
    clear hK9
    by_cases h : x < n
    · refine wp_seq_k (fun K10 hK10 => ?_)
      refine cT rfl hit (by simpa using h) ?_
      refine wp_skip ?_
      refine hK10 _ _ ?_
      clear hK10
      have hWG : TabV (G 3) 61 63 2 encP (.slice wa n wc) writes := by rw [kG 3 (by decide)]; exact hW
      obtain ⟨gw, cw, rfl, hcw, _, hrw⟩ := hWG.getS hsG (i := x) (by omega)
      obtain ⟨ra, rc, rfl⟩ := hrw.slice
      have hxw : x < writes.length := by omega
      have hlm := len_le_sum writes x hxw
      have hpG := kG.vb (t := 1) (by decide) hp
      refine wp_seq_k (fun K11 hK11 => ?_)
      refine wp_block ?_
      refine wp_seq_k (fun K12 hK12 => ?_)
      refine reg ?_
      refine sq rfl (do_move (tm rfl (nx rfl t25))) ?_
      refine sq rfl (do_assign (tm rfl hit)) ?_
      refine wnil ?_
      refine hK12 _ _ ?_
      clear hK12
      obtain ⟨g, vc, J1, J2, cell, hv, j1, j2, g1, hce, hfe, g2, hTI'⟩ := hTI.putRowG hsG (i := x) (by omega) (List.replicate (writes[x]'hxw).length 0) (madeCells #[.int .i64 0] (writes[x]'hxw).length) (writes[x]'hxw).length (made_size _ _) (by simp only [maxLen]; omega) (by rw [flat_I]; simp [ints]) (by simp) (take_rep _)
      rw [List.length_replicate] at g2
      have hgA : g = bI := by injection hv with e1; injection e1 with e1; injection e1 with e1; exact e1.symm
      subst hgA
      refine wp_seq_k (fun K13 hK13 => ?_)
      refine reg ?_
      refine sq rfl (do_move (tm rfl (nx rfl (nx rfl (nx rfl t4))))) ?_
      refine sq rfl (do_move (tm rfl (nx rfl hit))) ?_
      refine sq rfl (do_move (tm rfl (nx rfl (nx rfl (nx rfl (nx rfl (nx rfl t0))))))) ?_
      refine sq rfl (do_nilCheck (tm rfl hit)) ?_
      refine sq rfl (fa58_1 (tm rfl hit)) ?_
      refine sq rfl (do_load T56 rfl (tm rfl hit) (hpG.cell hsG hp1)) ?_
      refine sq rfl (do_move (tm rfl (nx rfl (nx rfl (nx rfl (nx rfl (nx rfl (nx rfl hit)))))))) ?_
      refine sq rfl (ix56 (tm rfl (nx rfl hit)) (tm rfl hit) (by omega)) ?_
      refine sq rfl (do_load T61 rfl (tm rfl hit) hcw) ?_
      refine sq rfl (do_len Try.underlying61 (tm rfl hit)) ?_
      refine sq rfl (mk22 (tm rfl hit) (tm rfl hit) (by omega)) ?_
      refine sq rfl (ix37 (tm rfl (nx rfl (nx rfl (nx rfl (nx rfl (nx rfl (nx rfl (nx rfl (nx rfl (nx rfl (nx rfl hit))))))))))) (tm rfl (nx rfl (nx rfl (nx rfl (nx rfl (nx rfl (nx rfl (nx rfl (nx rfl (nx rfl hit)))))))))) (by omega)) ?_
      refine sqn (do_store T22 (tm rfl hit) (tm rfl (nx rfl hit)) rfl hce hfe) ?_
      refine cutW ?_
      intro τ14 e14 x2 hx2
      have c14_0 := (congrFun e14 0).trans (nx rfl (nx rfl (nx rfl (nx rfl (nx rfl (nx rfl (nx rfl (nx rfl (nx rfl (nx rfl (nx rfl (nx rfl (nx rfl (nx rfl (nx rfl t0)))))))))))))))
      have c14_4 := (congrFun e14 4).trans (nx rfl (nx rfl (nx rfl (nx rfl (nx rfl (nx rfl (nx rfl (nx rfl (nx rfl (nx rfl (nx rfl (nx rfl (nx rfl (nx rfl (nx rfl t4)))))))))))))))
      have c14_5 := (congrFun e14 5).trans (nx rfl (nx rfl (nx rfl (nx rfl (nx rfl (nx rfl (nx rfl (nx rfl (nx rfl (nx rfl (nx rfl (nx rfl (nx rfl (nx rfl (nx rfl t5)))))))))))))))
      have c14_6 := (congrFun e14 6).trans (nx rfl (nx rfl (nx rfl (nx rfl (nx rfl (nx rfl (nx rfl (nx rfl (nx rfl (nx rfl (nx rfl (nx rfl hit))))))))))))
      have c14_24 := (congrFun e14 24).trans (nx rfl (nx rfl (nx rfl (nx rfl (nx rfl (nx rfl (nx rfl (nx rfl (nx rfl (nx rfl (nx rfl (nx rfl (nx rfl (nx rfl (nx rfl t24)))))))))))))))
      have c14_25 := (congrFun e14 25).trans (nx rfl (nx rfl (nx rfl (nx rfl (nx rfl (nx rfl (nx rfl (nx rfl (nx rfl (nx rfl (nx rfl (nx rfl (nx rfl (nx rfl (nx rfl t25)))))))))))))))
      clear e14
      refine wnil ?_
      refine hK13 _ _ ?_
      clear hK13
      have hs2 : Split N w0 x2 J2 := by rw [hx2]; exact g2
      have hTS2 : TabV (J2 52) 22 3 1 encI (.slice (some ⟨bS, 0, none⟩) n n) rs := by rw [j2 52 (by decide)]; exact hTS
      have hpJ := j2.vb (t := 1) (by decide) hpG
      have hW2 : TabV (J2 3) 61 63 2 encP (.slice (some ⟨gw, 0, none⟩) n wc) writes := by rw [j2 3 (by decide)]; exact hWG
      have kJ : Same [51, 52] H J2 := kG.trans (j2.mono (by decide))
      clear hx2 g1 hce hfe g2 hTI hsG hTS j1 j2 hpG hcw hrw kG hWG
      obtain ⟨gw1, cw1, hgw1, hcw1, _, hrw1⟩ := hW2.getS hs2 (i := x) (by omega)
      cases hgw1
      obtain ⟨ra1, rc1, rfl⟩ := hrw1.slice
      obtain ⟨g', vc', J3, J4, cell', hv', j3, j4, g3, hce, hfe, g4, hTS'⟩ := hTS2.putRowG hs2 (i := x) (by omega) (List.replicate (writes[x]'hxw).length 0) (madeCells #[.int .i64 0] (writes[x]'hxw).length) (writes[x]'hxw).length (made_size _ _) (by simp only [maxLen]; omega) (by rw [flat_I]; simp [ints]) (by simp) (take_rep _)
      rw [List.length_replicate] at g4
      have hgB : g' = bS := by injection hv' with e1; injection e1 with e1; injection e1 with e1; exact e1.symm
      subst hgB
      refine wp_seq_k (fun K15 hK15 => ?_)
      refine reg ?_
      refine sq rfl (do_move (tm rfl c14_5)) ?_
      refine sq rfl (do_move (tm rfl (nx rfl c14_6))) ?_
      refine sq rfl (do_move (tm rfl (nx rfl (nx rfl c14_0)))) ?_
      refine sq rfl (do_nilCheck (tm rfl hit)) ?_
      refine sq rfl (fa58_1 (tm rfl hit)) ?_
      refine sq rfl (do_load T56 rfl (tm rfl hit) (hpJ.cell hs2 hp1)) ?_
      refine sq rfl (do_move (tm rfl (nx rfl (nx rfl (nx rfl (nx rfl (nx rfl (nx rfl c14_6)))))))) ?_
      refine sq rfl (ix56 (tm rfl (nx rfl hit)) (tm rfl hit) (by omega)) ?_
      refine sq rfl (do_load T61 rfl (tm rfl hit) hcw1) ?_
      refine sq rfl (do_len Try.underlying61 (tm rfl hit)) ?_
      refine sq rfl (mk22 (tm rfl hit) (tm rfl hit) (by omega)) ?_
      refine sq rfl (ix37 (tm rfl (nx rfl (nx rfl (nx rfl (nx rfl (nx rfl (nx rfl (nx rfl (nx rfl (nx rfl (nx rfl hit))))))))))) (tm rfl (nx rfl (nx rfl (nx rfl (nx rfl (nx rfl (nx rfl (nx rfl (nx rfl (nx rfl hit)))))))))) (by omega)) ?_
      refine sqn (do_store T22 (tm rfl hit) (tm rfl (nx rfl hit)) rfl hce hfe) ?_
      refine cutW ?_
      intro τ16 e16 x3 hx3
      have c16_0 := (congrFun e16 0).trans (nx rfl (nx rfl (nx rfl (nx rfl (nx rfl (nx rfl (nx rfl (nx rfl (nx rfl (nx rfl (nx rfl (nx rfl c14_0))))))))))))
      have c16_4 := (congrFun e16 4).trans (nx rfl (nx rfl (nx rfl (nx rfl (nx rfl (nx rfl (nx rfl (nx rfl (nx rfl (nx rfl (nx rfl (nx rfl c14_4))))))))))))
      have c16_5 := (congrFun e16 5).trans (nx rfl (nx rfl (nx rfl (nx rfl (nx rfl (nx rfl (nx rfl (nx rfl (nx rfl (nx rfl (nx rfl (nx rfl c14_5))))))))))))
      have c16_6 := (congrFun e16 6).trans (nx rfl (nx rfl (nx rfl (nx rfl (nx rfl (nx rfl (nx rfl (nx rfl (nx rfl (nx rfl (nx rfl (nx rfl c14_6))))))))))))
      have c16_24 := (congrFun e16 24).trans (nx rfl (nx rfl (nx rfl (nx rfl (nx rfl (nx rfl (nx rfl (nx rfl (nx rfl (nx rfl (nx rfl (nx rfl c14_24))))))))))))
      have c16_25 := (congrFun e16 25).trans (nx rfl (nx rfl (nx rfl (nx rfl (nx rfl (nx rfl (nx rfl (nx rfl (nx rfl (nx rfl (nx rfl (nx rfl c14_25))))))))))))
      clear e16
      refine wnil ?_
      refine hK15 _ _ ?_
      clear hK15
      have hs4 : Split N w0 x3 J4 := by rw [hx3]; exact g4
      have hTI4 : TabV (J4 51) 22 3 1 encI (.slice (some ⟨g, 0, none⟩) n n) (ri.set x (List.replicate (writes[x]'hxw).length 0)) := by rw [j4 51 (by decide)]; exact hTI'
      have hp4 := j4.vb (t := 1) (by decide) hpJ
      have hW4 : TabV (J4 3) 61 63 2 encP (.slice (some ⟨gw, 0, none⟩) n wc) writes := by rw [j4 3 (by decide)]; exact hW2
      have k4 : Same [51, 52] H J4 := kJ.trans (j4.mono (by decide))
      clear hx3 g3 hce hfe g4 hTI' hs2 hTS2 j3 j4 hpJ hcw1 hrw1 kJ hW2
      obtain ⟨gw1, cw1, hgw1, hcw1, _, hrw1⟩ := hW4.getS hs4 (i := x) (by omega)
      cases hgw1
      obtain ⟨ra1, rc1, rfl⟩ := hrw1.slice
      refine wp_seq_k (fun K17 hK17 => ?_)
      refine reg ?_
      refine sq rfl (do_move (tm rfl c16_0)) ?_
      refine sq rfl (do_nilCheck (tm rfl hit)) ?_
      refine sq rfl (fa58_1 (tm rfl hit)) ?_
      refine sq rfl (do_load T56 rfl (tm rfl hit) (hp4.cell hs4 hp1)) ?_
      refine sq rfl (do_move (tm rfl (nx rfl (nx rfl (nx rfl (nx rfl c16_6)))))) ?_
      refine sq rfl (ix56 (tm rfl (nx rfl hit)) (tm rfl hit) (by omega)) ?_
      refine sq rfl (do_load T61 rfl (tm rfl hit) hcw1) ?_
      refine sq rfl (do_len Try.underlying61 (tm rfl hit)) ?_
      refine sq rfl (do_move (v := .int .i64 ((0 : Nat) : Int)) rfl) ?_
      refine cutL ?_
      intro τ18 e18
      have c18_0 := (congrFun e18 0).trans (nx rfl (nx rfl (nx rfl (nx rfl (nx rfl (nx rfl (nx rfl (nx rfl (nx rfl c16_0)))))))))
      have c18_4 := (congrFun e18 4).trans (nx rfl (nx rfl (nx rfl (nx rfl (nx rfl (nx rfl (nx rfl (nx rfl (nx rfl c16_4)))))))))
      have c18_5 := (congrFun e18 5).trans (nx rfl (nx rfl (nx rfl (nx rfl (nx rfl (nx rfl (nx rfl (nx rfl (nx rfl c16_5)))))))))
      have c18_6 := (congrFun e18 6).trans (nx rfl (nx rfl (nx rfl (nx rfl (nx rfl (nx rfl (nx rfl (nx rfl (nx rfl c16_6)))))))))
      have c18_24 := (congrFun e18 24).trans (nx rfl (nx rfl (nx rfl (nx rfl (nx rfl (nx rfl (nx rfl (nx rfl (nx rfl c16_24)))))))))
      have c18_25 := (congrFun e18 25).trans (nx rfl (nx rfl (nx rfl (nx rfl (nx rfl (nx rfl (nx rfl (nx rfl (nx rfl c16_25)))))))))
      have c18_59 := (congrFun e18 59).trans (nx rfl hit)
      have c18_60 := (congrFun e18 60).trans hit
      clear e18
      refine wnil ?_
      refine hK17 _ _ ?_
      clear hK17
      refine forLoop (N := 101) (fun r τ wi => ∃ (j : Nat) (G : Nat → Part) (ri rs : List (List Int)) (rI rS : List Int), r = (writes[x]'hxw).length - j ∧ j ≤ (writes[x]'hxw).length ∧ τ 0 = .pointer (some ⟨pb, 0, none⟩) ∧ τ 4 = .slice (some ⟨g, 0, none⟩) n n ∧ τ 5 = .slice (some ⟨g', 0, none⟩) n n ∧ τ 24 = .int .i64 (n : Int) ∧ τ 25 = .int .i64 (x : Int) ∧ τ 6 = .int .i64 (x : Int) ∧ τ 59 = .int .i64 ((writes[x]'hxw).length : Int) ∧ τ 60 = .int .i64 (j : Int) ∧ Split N w0 wi G ∧ Same [51, 52] H G ∧ TabV (G 51) 22 3 1 encI (.slice (some ⟨g, 0, none⟩) n n) ri ∧ TabV (G 52) 22 3 1 encI (.slice (some ⟨g', 0, none⟩) n n) rs ∧ ri.length = n ∧ rs.length = n ∧ (∀ y (h : y < writes.length), y < x → ri[y]? = some (writes[y].map Prod.fst) ∧ rs[y]? = some (writes[y].map Prod.snd)) ∧ ri[x]? = some rI ∧ rs[x]? = some rS ∧ rI.length = (writes[x]'hxw).length ∧ rS.length = (writes[x]'hxw).length ∧ (∀ i (h : i < (writes[x]'hxw).length), i < j → rI[i]? = some (writes[x]'hxw)[i].1 ∧ rS[i]? = some (writes[x]'hxw)[i].2))
        (fun τ wi => ∃ (G : Nat → Part) (ri rs : List (List Int)), τ 0 = .pointer (some ⟨pb, 0, none⟩) ∧ τ 4 = .slice (some ⟨g, 0, none⟩) n n ∧ τ 5 = .slice (some ⟨g', 0, none⟩) n n ∧ τ 24 = .int .i64 (n : Int) ∧ τ 25 = .int .i64 (x : Int) ∧ Split N w0 wi G ∧ Same [51, 52] H G ∧ TabV (G 51) 22 3 1 encI (.slice (some ⟨g, 0, none⟩) n n) ri ∧ TabV (G 52) 22 3 1 encI (.slice (some ⟨g', 0, none⟩) n n) rs ∧ ri.length = n ∧ rs.length = n ∧ (∀ y (h : y < writes.length), y < x → ri[y]? = some (writes[y].map Prod.fst) ∧ rs[y]? = some (writes[y].map Prod.snd)) ∧ ri[x]? = some ((writes[x]'hxw).map Prod.fst) ∧ rs[x]? = some ((writes[x]'hxw).map Prod.snd)) (writes[x]'hxw).length ?_ ?_ ?_
      · refine ⟨0, J4, _, _, _, _, rfl, Nat.zero_le _, c18_0, c18_4, c18_5, c18_24, c18_25, c18_6, c18_59, c18_60, hs4, k4, hTI4, hTS', by simp [hil], by simp [hsl], ?_, List.getElem?_set_self (by omega), List.getElem?_set_self (by omega), by simp, by simp, fun i _ hi => by omega⟩
        intro y hy hyx
        rw [List.getElem?_set_ne (by omega), List.getElem?_set_ne (by omega)]
        exact hdone y hy hyx
      · clear t0 t4 t5 t24 t25 hs4 k4 hTI4 hTS' hdone hil hsl hp4 hcw1 hrw1 hW4 hv hv'
        rintro Q'' r τ wi hnn' hx' hr' ⟨j, G, ri, rs, rI, rS, rfl, hj, t0, t4, t5, t24, t25, t6, t59, t60, hsG, kG, hTI, hTS, hil, hsl, hdone, hrI, hrS, hlI, hlS, hpre⟩
        refine wp_seq_k (fun K19 hK19 => ?_)
        refine reg ?_
        refine sq rfl (do_lss (tm rfl t60) (tm rfl t59)) ?_
        refine wnil ?_
        refine hK19 _ _ ?_
        clear hK19
        by_cases h' : j < (writes[x]'hxw).length
        · refine wp_seq_k (fun K20 hK20 => ?_)
          refine cT rfl hit (by simpa using h') ?_
          refine wp_skip ?_
          refine hK20 _ _ ?_
          clear hK20
          have hWG : TabV (G 3) 61 63 2 encP (.slice (some ⟨gw, 0, none⟩) n wc) writes := by rw [kG 3 (by decide)]; exact hW
          obtain ⟨gw1, cw1, hgw1, hcw1, _, hrw1⟩ := hWG.getS hsG.drew (i := x) (by omega)
          cases hgw1
          obtain ⟨ra1, rc1, rfl⟩ := hrw1.slice
          obtain ⟨e1, e2⟩ := flatP_get (writes[x]'hxw) j h'
          obtain ⟨gq, rfl, f1, _⟩ := hrw1.cellS hsG.drew e1
          have hpG := kG.vb (t := 1) (by decide) hp
          have hxi : x < ri.length := by omega
          have hxs : x < rs.length := by omega
          have hrI' : ri[x]'hxi = rI := by rw [List.getElem?_eq_getElem hxi] at hrI; injection hrI
          have hrS' : rs[x]'hxs = rS := by rw [List.getElem?_eq_getElem hxs] at hrS; injection hrS
          refine wp_seq_k (fun K21 hK21 => ?_)
          refine wp_block ?_
          refine wp_seq_k (fun K22 hK22 => ?_)
          refine reg ?_
          refine sq rfl (do_move (tm rfl (nx rfl t60))) ?_
          refine sq rfl (do_assign (tm rfl hit)) ?_
          refine wnil ?_
          refine hK22 _ _ ?_
          clear hK22
          obtain ⟨g5, vc5, gr, rcx, J2, hv5, hc5, hcj, hfj, j2, g2, hTI2⟩ := hTI.setE hsG.drew hxi (j := j) (by rw [hrI', hlI]; exact h') (writes[x]'hxw)[j].1
          have hgA : g5 = g := by injection hv5 with e1; injection e1 with e1; injection e1 with e1; exact e1.symm
          subst hgA
          rw [hrI'] at hTI2
          have hlen5 : (ri[x]'hxi).length = (writes[x]'hxw).length := by rw [hrI']; exact hlI
          rw [hlen5] at hc5
          refine wp_seq_k (fun K23 hK23 => ?_)
          refine draw mixed [17] [(0, 0), (0, 0), (0, 0), (0, 0), (0, 0), (0, 0), (0, 0), (0, 0), (0, 0), (0, 0), (0, 0), (0, 0), (0, 0), (0, 0), (0, 0), (0, 0), (0, 0), (0, 0)] [wi.drew.setCell ⟨gr, j, none⟩ (.int .i64 (writes[x]'hxw)[j].1)] (wi.drew.setCell ⟨gr, j, none⟩ (.int .i64 (writes[x]'hxw)[j].1)) (upd (upd (upd (upd (upd (upd (upd (upd (upd (upd (upd (upd (upd (upd (upd (upd (upd _ 63 _) 64 _) 65 _) 66 _) 67 _) 68 _) 69 _) 70 _) 71 _) 72 _) 73 _) 74 _) 75 _) 76 _) 77 _) 78 _) 79 _) (by kernel_rfl) (fun s hs => ovr_off [(63, _), (64, _), (65, _), (66, _), (67, _), (68, _), (69, _), (70, _), (71, _), (72, _), (73, _), (74, _), (75, _), (76, _), (77, _), (78, _), (79, _)] _ s hs) ⟨(qa rfl (fun _ => (do_move (tm rfl (nx rfl (nx rfl (nx rfl (nx rfl (nx rfl (nx rfl (nx rfl (nx rfl (nx rfl (nx rfl (nx rfl (nx rfl (nx rfl (nx rfl (nx rfl (nx rfl (nx rfl (nx rfl (nx rfl (nx rfl t4))))))))))))))))))))))) (nx rfl (nx rfl (nx rfl (nx rfl (nx rfl (nx rfl (nx rfl (nx rfl (nx rfl (nx rfl (nx rfl (nx rfl (nx rfl (nx rfl (nx rfl (nx rfl hit))))))))))))))))), (qa rfl (fun _ => (do_move (tm rfl (nx rfl (nx rfl (nx rfl (nx rfl (nx rfl (nx rfl (nx rfl (nx rfl (nx rfl (nx rfl (nx rfl (nx rfl (nx rfl (nx rfl (nx rfl (nx rfl (nx rfl (nx rfl (nx rfl (nx rfl t6))))))))))))))))))))))) (nx rfl (nx rfl (nx rfl (nx rfl (nx rfl (nx rfl (nx rfl (nx rfl (nx rfl (nx rfl (nx rfl (nx rfl (nx rfl (nx rfl (nx rfl hit)))))))))))))))), (qa rfl (fun _ => (ix37 (tm rfl (nx rfl (nx rfl (nx rfl (nx rfl (nx rfl (nx rfl (nx rfl (nx rfl (nx rfl (nx rfl (nx rfl (nx rfl (nx rfl (nx rfl (nx rfl (nx rfl hit))))))))))))))))) (tm rfl (nx rfl (nx rfl (nx rfl (nx rfl (nx rfl (nx rfl (nx rfl (nx rfl (nx rfl (nx rfl (nx rfl (nx rfl (nx rfl (nx rfl (nx rfl hit)))))))))))))))) (by omega))) (nx rfl (nx rfl (nx rfl (nx rfl (nx rfl (nx rfl (nx rfl (nx rfl (nx rfl (nx rfl (nx rfl (nx rfl (nx rfl (nx rfl hit))))))))))))))), (qk rfl (do_load T22 rfl (tm rfl (nx rfl (nx rfl (nx rfl (nx rfl (nx rfl (nx rfl (nx rfl (nx rfl (nx rfl (nx rfl (nx rfl (nx rfl (nx rfl (nx rfl hit))))))))))))))) hc5) (nx rfl (nx rfl (nx rfl (nx rfl (nx rfl (nx rfl (nx rfl (nx rfl (nx rfl (nx rfl (nx rfl (nx rfl (nx rfl hit)))))))))))))), (qa rfl (fun _ => (do_move (tm rfl (nx rfl (nx rfl (nx rfl (nx rfl (nx rfl (nx rfl (nx rfl (nx rfl (nx rfl (nx rfl (nx rfl (nx rfl (nx rfl (nx rfl (nx rfl (nx rfl (nx rfl hit)))))))))))))))))))) (nx rfl (nx rfl (nx rfl (nx rfl (nx rfl (nx rfl (nx rfl (nx rfl (nx rfl (nx rfl (nx rfl (nx rfl hit))))))))))))), (qa rfl (fun _ => (do_move (tm rfl (nx rfl (nx rfl (nx rfl (nx rfl (nx rfl (nx rfl (nx rfl (nx rfl (nx rfl (nx rfl (nx rfl (nx rfl (nx rfl (nx rfl (nx rfl (nx rfl (nx rfl (nx rfl (nx rfl (nx rfl t0))))))))))))))))))))))) (nx rfl (nx rfl (nx rfl (nx rfl (nx rfl (nx rfl (nx rfl (nx rfl (nx rfl (nx rfl (nx rfl hit)))))))))))), (qa rfl (fun _ => (do_nilCheck (tm rfl (nx rfl (nx rfl (nx rfl (nx rfl (nx rfl (nx rfl (nx rfl (nx rfl (nx rfl (nx rfl (nx rfl hit)))))))))))))) (nx rfl (nx rfl (nx rfl (nx rfl (nx rfl (nx rfl (nx rfl (nx rfl (nx rfl (nx rfl hit))))))))))), (qa rfl (fun _ => (fa58_1 (tm rfl (nx rfl (nx rfl (nx rfl (nx rfl (nx rfl (nx rfl (nx rfl (nx rfl (nx rfl (nx rfl hit))))))))))))) (nx rfl (nx rfl (nx rfl (nx rfl (nx rfl (nx rfl (nx rfl (nx rfl (nx rfl hit)))))))))), (qk rfl (do_load T56 rfl (tm rfl (nx rfl (nx rfl (nx rfl (nx rfl (nx rfl (nx rfl (nx rfl (nx rfl (nx rfl hit)))))))))) (hpG.cell hsG.drew hp1)) (nx rfl (nx rfl (nx rfl (nx rfl (nx rfl (nx rfl (nx rfl (nx rfl hit))))))))), (qa rfl (fun _ => (do_move (tm rfl (nx rfl (nx rfl (nx rfl (nx rfl (nx rfl (nx rfl (nx rfl (nx rfl (nx rfl (nx rfl (nx rfl (nx rfl (nx rfl (nx rfl (nx rfl (nx rfl (nx rfl (nx rfl (nx rfl (nx rfl t6))))))))))))))))))))))) (nx rfl (nx rfl (nx rfl (nx rfl (nx rfl (nx rfl (nx rfl hit)))))))), (qa rfl (fun _ => (ix56 (tm rfl (nx rfl (nx rfl (nx rfl (nx rfl (nx rfl (nx rfl (nx rfl (nx rfl hit))))))))) (tm rfl (nx rfl (nx rfl (nx rfl (nx rfl (nx rfl (nx rfl (nx rfl hit)))))))) (by omega))) (nx rfl (nx rfl (nx rfl (nx rfl (nx rfl (nx rfl hit))))))), (qk rfl (do_load T61 rfl (tm rfl (nx rfl (nx rfl (nx rfl (nx rfl (nx rfl (nx rfl hit))))))) hcw1) (nx rfl (nx rfl (nx rfl (nx rfl (nx rfl hit)))))), (qa rfl (fun _ => (do_move (tm rfl (nx rfl (nx rfl (nx rfl (nx rfl (nx rfl (nx rfl (nx rfl (nx rfl (nx rfl (nx rfl (nx rfl (nx rfl (nx rfl (nx rfl (nx rfl (nx rfl (nx rfl hit)))))))))))))))))))) (nx rfl (nx rfl (nx rfl (nx rfl hit))))), (qa rfl (fun _ => (ix61 (tm rfl (nx rfl (nx rfl (nx rfl (nx rfl (nx rfl hit)))))) (tm rfl (nx rfl (nx rfl (nx rfl (nx rfl hit))))) (by omega))) (nx rfl (nx rfl (nx rfl hit)))), (qa rfl (fun _ => (fo63_0 (tm rfl (nx rfl (nx rfl (nx rfl hit)))))) (nx rfl (nx rfl hit))), (qk rfl (do_load T3 rfl (tm rfl (nx rfl (nx rfl hit))) f1) (nx rfl hit)), (qa rfl (fun _ => (ix22 (tm rfl (nx rfl (nx rfl (nx rfl (nx rfl (nx rfl (nx rfl (nx rfl (nx rfl (nx rfl (nx rfl (nx rfl (nx rfl (nx rfl hit)))))))))))))) (tm rfl (nx rfl (nx rfl (nx rfl (nx rfl (nx rfl (nx rfl (nx rfl (nx rfl (nx rfl (nx rfl (nx rfl (nx rfl hit))))))))))))) (by omega))) hit), (en rfl (do_store T3 (tm rfl hit) (tm rfl (nx rfl hit)) rfl hcj hfj)), trivial⟩ rfl ?_
          intro τ24 e24
          have c24_0 := (congrFun e24 0).trans (nx rfl (nx rfl (nx rfl (nx rfl (nx rfl (nx rfl (nx rfl (nx rfl (nx rfl (nx rfl (nx rfl (nx rfl (nx rfl (nx rfl (nx rfl (nx rfl (nx rfl (nx rfl (nx rfl (nx rfl t0))))))))))))))))))))
          have c24_4 := (congrFun e24 4).trans (nx rfl (nx rfl (nx rfl (nx rfl (nx rfl (nx rfl (nx rfl (nx rfl (nx rfl (nx rfl (nx rfl (nx rfl (nx rfl (nx rfl (nx rfl (nx rfl (nx rfl (nx rfl (nx rfl (nx rfl t4))))))))))))))))))))
          have c24_5 := (congrFun e24 5).trans (nx rfl (nx rfl (nx rfl (nx rfl (nx rfl (nx rfl (nx rfl (nx rfl (nx rfl (nx rfl (nx rfl (nx rfl (nx rfl (nx rfl (nx rfl (nx rfl (nx rfl (nx rfl (nx rfl (nx rfl t5))))))))))))))))))))
          have c24_6 := (congrFun e24 6).trans (nx rfl (nx rfl (nx rfl (nx rfl (nx rfl (nx rfl (nx rfl (nx rfl (nx rfl (nx rfl (nx rfl (nx rfl (nx rfl (nx rfl (nx rfl (nx rfl (nx rfl (nx rfl (nx rfl (nx rfl t6))))))))))))))))))))
          have c24_7 := (congrFun e24 7).trans (nx rfl (nx rfl (nx rfl (nx rfl (nx rfl (nx rfl (nx rfl (nx rfl (nx rfl (nx rfl (nx rfl (nx rfl (nx rfl (nx rfl (nx rfl (nx rfl (nx rfl hit)))))))))))))))))
          have c24_24 := (congrFun e24 24).trans (nx rfl (nx rfl (nx rfl (nx rfl (nx rfl (nx rfl (nx rfl (nx rfl (nx rfl (nx rfl (nx rfl (nx rfl (nx rfl (nx rfl (nx rfl (nx rfl (nx rfl (nx rfl (nx rfl (nx rfl t24))))))))))))))))))))
          have c24_25 := (congrFun e24 25).trans (nx rfl (nx rfl (nx rfl (nx rfl (nx rfl (nx rfl (nx rfl (nx rfl (nx rfl (nx rfl (nx rfl (nx rfl (nx rfl (nx rfl (nx rfl (nx rfl (nx rfl (nx rfl (nx rfl (nx rfl t25))))))))))))))))))))
          have c24_59 := (congrFun e24 59).trans (nx rfl (nx rfl (nx rfl (nx rfl (nx rfl (nx rfl (nx rfl (nx rfl (nx rfl (nx rfl (nx rfl (nx rfl (nx rfl (nx rfl (nx rfl (nx rfl (nx rfl (nx rfl (nx rfl (nx rfl t59))))))))))))))))))))
          have c24_60 := (congrFun e24 60).trans (nx rfl (nx rfl (nx rfl (nx rfl (nx rfl (nx rfl (nx rfl (nx rfl (nx rfl (nx rfl (nx rfl (nx rfl (nx rfl (nx rfl (nx rfl (nx rfl (nx rfl (nx rfl (nx rfl (nx rfl t60))))))))))))))))))))
          clear e24
          refine hK23 _ _ ?_
          clear hK23
          have hTS2 : TabV (J2 52) 22 3 1 encI (.slice (some ⟨g', 0, none⟩) n n) rs := by rw [j2 52 (by decide)]; exact hTS
          have kJ : Same [51, 52] H J2 := kG.trans (j2.mono (by decide))
          have hpJ := j2.vb (t := 1) (by decide) hpG
          have hW2 : TabV (J2 3) 61 63 2 encP (.slice (some ⟨gw, 0, none⟩) n wc) writes := by rw [j2 3 (by decide)]; exact hWG
          clear hTI hTS hsG hcw1 hrw1 f1 hc5 hcj hfj hpG hWG kG j2 hv5
          generalize wi.drew.setCell ⟨gr, j, none⟩ (.int .i64 (writes[x]'hxw)[j].1) = xw at *
          obtain ⟨gw1, cw1, hgw1, hcw1, _, hrw1⟩ := hW2.getS g2.drew (i := x) (by omega)
          cases hgw1
          obtain ⟨ra1, rc1, rfl⟩ := hrw1.slice
          obtain ⟨gq2, hgq2, f2, _⟩ := hrw1.cellS g2.drew e2
          subst hgq2
          obtain ⟨g6, vc6, gr6, rc6, J4, hv6, hc6, hcj, hfj, j4, g4, hTS4⟩ := hTS2.setE g2.drew hxs (j := j) (by rw [hrS', hlS]; exact h') (writes[x]'hxw)[j].2
          have hgB : g6 = g' := by injection hv6 with e1; injection e1 with e1; injection e1 with e1; exact e1.symm
          subst hgB
          rw [hrS'] at hTS4
          have hlen6 : (rs[x]'hxs).length = (writes[x]'hxw).length := by rw [hrS']; exact hlS
          rw [hlen6] at hc6
          refine draw mixed [17] [(0, 0), (0, 0), (0, 0), (0, 0), (0, 0), (0, 0), (0, 0), (0, 0), (0, 0), (0, 0), (0, 0), (0, 0), (0, 0), (0, 0), (0, 0), (0, 0), (0, 0), (0, 0)] [xw.drew.setCell ⟨gr6, j, none⟩ (.int .i64 (writes[x]'hxw)[j].2)] (xw.drew.setCell ⟨gr6, j, none⟩ (.int .i64 (writes[x]'hxw)[j].2)) (upd (upd (upd (upd (upd (upd (upd (upd (upd (upd (upd (upd (upd (upd (upd (upd (upd _ 80 _) 81 _) 82 _) 83 _) 84 _) 85 _) 86 _) 87 _) 88 _) 89 _) 90 _) 91 _) 92 _) 93 _) 94 _) 95 _) 96 _) (by kernel_rfl) (fun s hs => ovr_off [(80, _), (81, _), (82, _), (83, _), (84, _), (85, _), (86, _), (87, _), (88, _), (89, _), (90, _), (91, _), (92, _), (93, _), (94, _), (95, _), (96, _)] _ s hs) ⟨(qa rfl (fun _ => (do_move (tm rfl (nx rfl (nx rfl (nx rfl (nx rfl (nx rfl (nx rfl (nx rfl (nx rfl (nx rfl (nx rfl (nx rfl (nx rfl (nx rfl (nx rfl (nx rfl (nx rfl (nx rfl c24_5)))))))))))))))))))) (nx rfl (nx rfl (nx rfl (nx rfl (nx rfl (nx rfl (nx rfl (nx rfl (nx rfl (nx rfl (nx rfl (nx rfl (nx rfl (nx rfl (nx rfl (nx rfl hit))))))))))))))))), (qa rfl (fun _ => (do_move (tm rfl (nx rfl (nx rfl (nx rfl (nx rfl (nx rfl (nx rfl (nx rfl (nx rfl (nx rfl (nx rfl (nx rfl (nx rfl (nx rfl (nx rfl (nx rfl (nx rfl (nx rfl c24_6)))))))))))))))))))) (nx rfl (nx rfl (nx rfl (nx rfl (nx rfl (nx rfl (nx rfl (nx rfl (nx rfl (nx rfl (nx rfl (nx rfl (nx rfl (nx rfl (nx rfl hit)))))))))))))))), (qa rfl (fun _ => (ix37 (tm rfl (nx rfl (nx rfl (nx rfl (nx rfl (nx rfl (nx rfl (nx rfl (nx rfl (nx rfl (nx rfl (nx rfl (nx rfl (nx rfl (nx rfl (nx rfl (nx rfl hit))))))))))))))))) (tm rfl (nx rfl (nx rfl (nx rfl (nx rfl (nx rfl (nx rfl (nx rfl (nx rfl (nx rfl (nx rfl (nx rfl (nx rfl (nx rfl (nx rfl (nx rfl hit)))))))))))))))) (by omega))) (nx rfl (nx rfl (nx rfl (nx rfl (nx rfl (nx rfl (nx rfl (nx rfl (nx rfl (nx rfl (nx rfl (nx rfl (nx rfl (nx rfl hit))))))))))))))), (qk rfl (do_load T22 rfl (tm rfl (nx rfl (nx rfl (nx rfl (nx rfl (nx rfl (nx rfl (nx rfl (nx rfl (nx rfl (nx rfl (nx rfl (nx rfl (nx rfl (nx rfl hit))))))))))))))) hc6) (nx rfl (nx rfl (nx rfl (nx rfl (nx rfl (nx rfl (nx rfl (nx rfl (nx rfl (nx rfl (nx rfl (nx rfl (nx rfl hit)))))))))))))), (qa rfl (fun _ => (do_move (tm rfl (nx rfl (nx rfl (nx rfl (nx rfl (nx rfl (nx rfl (nx rfl (nx rfl (nx rfl (nx rfl (nx rfl (nx rfl (nx rfl (nx rfl (nx rfl (nx rfl (nx rfl c24_7)))))))))))))))))))) (nx rfl (nx rfl (nx rfl (nx rfl (nx rfl (nx rfl (nx rfl (nx rfl (nx rfl (nx rfl (nx rfl (nx rfl hit))))))))))))), (qa rfl (fun _ => (do_move (tm rfl (nx rfl (nx rfl (nx rfl (nx rfl (nx rfl (nx rfl (nx rfl (nx rfl (nx rfl (nx rfl (nx rfl (nx rfl (nx rfl (nx rfl (nx rfl (nx rfl (nx rfl c24_0)))))))))))))))))))) (nx rfl (nx rfl (nx rfl (nx rfl (nx rfl (nx rfl (nx rfl (nx rfl (nx rfl (nx rfl (nx rfl hit)))))))))))), (qa rfl (fun _ => (do_nilCheck (tm rfl (nx rfl (nx rfl (nx rfl (nx rfl (nx rfl (nx rfl (nx rfl (nx rfl (nx rfl (nx rfl (nx rfl hit)))))))))))))) (nx rfl (nx rfl (nx rfl (nx rfl (nx rfl (nx rfl (nx rfl (nx rfl (nx rfl (nx rfl hit))))))))))), (qa rfl (fun _ => (fa58_1 (tm rfl (nx rfl (nx rfl (nx rfl (nx rfl (nx rfl (nx rfl (nx rfl (nx rfl (nx rfl (nx rfl hit))))))))))))) (nx rfl (nx rfl (nx rfl (nx rfl (nx rfl (nx rfl (nx rfl (nx rfl (nx rfl hit)))))))))), (qk rfl (do_load T56 rfl (tm rfl (nx rfl (nx rfl (nx rfl (nx rfl (nx rfl (nx rfl (nx rfl (nx rfl (nx rfl hit)))))))))) (hpJ.cell g2.drew hp1)) (nx rfl (nx rfl (nx rfl (nx rfl (nx rfl (nx rfl (nx rfl (nx rfl hit))))))))), (qa rfl (fun _ => (do_move (tm rfl (nx rfl (nx rfl (nx rfl (nx rfl (nx rfl (nx rfl (nx rfl (nx rfl (nx rfl (nx rfl (nx rfl (nx rfl (nx rfl (nx rfl (nx rfl (nx rfl (nx rfl c24_6)))))))))))))))))))) (nx rfl (nx rfl (nx rfl (nx rfl (nx rfl (nx rfl (nx rfl hit)))))))), (qa rfl (fun _ => (ix56 (tm rfl (nx rfl (nx rfl (nx rfl (nx rfl (nx rfl (nx rfl (nx rfl (nx rfl hit))))))))) (tm rfl (nx rfl (nx rfl (nx rfl (nx rfl (nx rfl (nx rfl (nx rfl hit)))))))) (by omega))) (nx rfl (nx rfl (nx rfl (nx rfl (nx rfl (nx rfl hit))))))), (qk rfl (do_load T61 rfl (tm rfl (nx rfl (nx rfl (nx rfl (nx rfl (nx rfl (nx rfl hit))))))) hcw1) (nx rfl (nx rfl (nx rfl (nx rfl (nx rfl hit)))))), (qa rfl (fun _ => (do_move (tm rfl (nx rfl (nx rfl (nx rfl (nx rfl (nx rfl (nx rfl (nx rfl (nx rfl (nx rfl (nx rfl (nx rfl (nx rfl (nx rfl (nx rfl (nx rfl (nx rfl (nx rfl c24_7)))))))))))))))))))) (nx rfl (nx rfl (nx rfl (nx rfl hit))))), (qa rfl (fun _ => (ix61 (tm rfl (nx rfl (nx rfl (nx rfl (nx rfl (nx rfl hit)))))) (tm rfl (nx rfl (nx rfl (nx rfl (nx rfl hit))))) (by omega))) (nx rfl (nx rfl (nx rfl hit)))), (qa rfl (fun _ => (fo63_1 (tm rfl (nx rfl (nx rfl (nx rfl hit)))))) (nx rfl (nx rfl hit))), (qk rfl (do_load T3 rfl (tm rfl (nx rfl (nx rfl hit))) f2) (nx rfl hit)), (qa rfl (fun _ => (ix22 (tm rfl (nx rfl (nx rfl (nx rfl (nx rfl (nx rfl (nx rfl (nx rfl (nx rfl (nx rfl (nx rfl (nx rfl (nx rfl (nx rfl hit)))))))))))))) (tm rfl (nx rfl (nx rfl (nx rfl (nx rfl (nx rfl (nx rfl (nx rfl (nx rfl (nx rfl (nx rfl (nx rfl (nx rfl hit))))))))))))) (by omega))) hit), (en rfl (do_store T3 (tm rfl hit) (tm rfl (nx rfl hit)) rfl hcj hfj)), trivial⟩ rfl ?_
          intro τ25 e25
          have c25_0 := (congrFun e25 0).trans (nx rfl (nx rfl (nx rfl (nx rfl (nx rfl (nx rfl (nx rfl (nx rfl (nx rfl (nx rfl (nx rfl (nx rfl (nx rfl (nx rfl (nx rfl (nx rfl (nx rfl c24_0)))))))))))))))))
          have c25_4 := (congrFun e25 4).trans (nx rfl (nx rfl (nx rfl (nx rfl (nx rfl (nx rfl (nx rfl (nx rfl (nx rfl (nx rfl (nx rfl (nx rfl (nx rfl (nx rfl (nx rfl (nx rfl (nx rfl c24_4)))))))))))))))))
          have c25_5 := (congrFun e25 5).trans (nx rfl (nx rfl (nx rfl (nx rfl (nx rfl (nx rfl (nx rfl (nx rfl (nx rfl (nx rfl (nx rfl (nx rfl (nx rfl (nx rfl (nx rfl (nx rfl (nx rfl c24_5)))))))))))))))))
          have c25_6 := (congrFun e25 6).trans (nx rfl (nx rfl (nx rfl (nx rfl (nx rfl (nx rfl (nx rfl (nx rfl (nx rfl (nx rfl (nx rfl (nx rfl (nx rfl (nx rfl (nx rfl (nx rfl (nx rfl c24_6)))))))))))))))))
          have c25_7 := (congrFun e25 7).trans (nx rfl (nx rfl (nx rfl (nx rfl (nx rfl (nx rfl (nx rfl (nx rfl (nx rfl (nx rfl (nx rfl (nx rfl (nx rfl (nx rfl (nx rfl (nx rfl (nx rfl c24_7)))))))))))))))))
          have c25_24 := (congrFun e25 24).trans (nx rfl (nx rfl (nx rfl (nx rfl (nx rfl (nx rfl (nx rfl (nx rfl (nx rfl (nx rfl (nx rfl (nx rfl (nx rfl (nx rfl (nx rfl (nx rfl (nx rfl c24_24)))))))))))))))))
          have c25_25 := (congrFun e25 25).trans (nx rfl (nx rfl (nx rfl (nx rfl (nx rfl (nx rfl (nx rfl (nx rfl (nx rfl (nx rfl (nx rfl (nx rfl (nx rfl (nx rfl (nx rfl (nx rfl (nx rfl c24_25)))))))))))))))))
          have c25_59 := (congrFun e25 59).trans (nx rfl (nx rfl (nx rfl (nx rfl (nx rfl (nx rfl (nx rfl (nx rfl (nx rfl (nx rfl (nx rfl (nx rfl (nx rfl (nx rfl (nx rfl (nx rfl (nx rfl c24_59)))))))))))))))))
          have c25_60 := (congrFun e25 60).trans (nx rfl (nx rfl (nx rfl (nx rfl (nx rfl (nx rfl (nx rfl (nx rfl (nx rfl (nx rfl (nx rfl (nx rfl (nx rfl (nx rfl (nx rfl (nx rfl (nx rfl c24_60)))))))))))))))))
          clear e25
          refine inBN ?_
          refine hK21 _ _ ?_
          clear hK21
          refine reg ?_
          refine sq rfl (do_inc (tm rfl c25_60) ck (by omega)) ?_
          refine sq rfl (do_move (tm rfl hit)) ?_
          refine wnil ?_
          refine hnn' ((writes[x]'hxw).length - (j + 1)) _ _ (by omega) ⟨j + 1, J4, _, _, _, _, rfl, by omega, (nx rfl (nx rfl c25_0)), (nx rfl (nx rfl c25_4)), (nx rfl (nx rfl c25_5)), (nx rfl (nx rfl c25_24)), (nx rfl (nx rfl c25_25)), (nx rfl (nx rfl c25_6)), (nx rfl (nx rfl c25_59)), hit, g4, kJ.trans (j4.mono (by decide)), by rw [j4 51 (by decide)]; exact hTI2, hTS4, by simp [hil], by simp [hsl], ?_, List.getElem?_set_self hxi, List.getElem?_set_self hxs, by simp [hlI], by simp [hlS], ?_⟩
          · intro y hy hyx
            rw [List.getElem?_set_ne (by omega), List.getElem?_set_ne (by omega)]
            exact hdone y hy hyx
          · intro i hi hij
            by_cases hjj : j = i
            · subst hjj
              exact ⟨List.getElem?_set_self (by omega), List.getElem?_set_self (by omega)⟩
            · rw [List.getElem?_set_ne hjj, List.getElem?_set_ne hjj]
              exact hpre i hi (by omega)
        · refine wp_seq_k (fun K26 hK26 => ?_)
          refine cF rfl hit (by simpa using h') ?_
          refine wp_exit ?_
          refine thenE ?_
          have eI : rI = (writes[x]'hxw).map Prod.fst := by
            apply List.ext_getElem?
            intro i
            rcases Nat.lt_or_ge i (writes[x]'hxw).length with hi | hi
            · rw [(hpre i hi (by omega)).1]; simp [hi]
            · rw [List.getElem?_eq_none (by omega), List.getElem?_eq_none (by simpa using hi)]
          have eS : rS = (writes[x]'hxw).map Prod.snd := by
            apply List.ext_getElem?
            intro i
            rcases Nat.lt_or_ge i (writes[x]'hxw).length with hi | hi
            · rw [(hpre i hi (by omega)).2]; simp [hi]
            · rw [List.getElem?_eq_none (by omega), List.getElem?_eq_none (by simpa using hi)]
          exact hx' _ _ ⟨G, ri, rs, (nx rfl t0), (nx rfl t4), (nx rfl t5), (nx rfl t24), (nx rfl t25), hsG, kG, hTI, hTS, hil, hsl, hdone, by rw [← eI]; exact hrI, by rw [← eS]; exact hrS⟩
      clear t0 t4 t5 t24 t25 hs4 k4 hTI4 hTS' hdone hil hsl hp4 hcw1 hrw1 hW4 hv hv'
      rintro τ wi ⟨G, ri, rs, t0, t4, t5, t24, t25, hsG, kG, hTI, hTS, hil, hsl, hdone, hxI, hxS⟩
      refine inBN ?_
      refine hK11 _ _ ?_
      clear hK11
      refine reg ?_
      refine sq rfl (do_inc (tm rfl t25) ck (by omega)) ?_
      refine sq rfl (do_move (tm rfl hit)) ?_
      refine wnil ?_
      refine hnn (n - (x + 1)) _ _ (by omega) ⟨x + 1, G, ri, rs, rfl, by omega, (nx rfl (nx rfl t0)), (nx rfl (nx rfl t4)), (nx rfl (nx rfl t5)), (nx rfl (nx rfl t24)), hit, hsG, kG, hTI, hTS, hil, hsl, ?_⟩
      intro y hy hyx
      by_cases hyy : y = x
      · subst hyy; exact ⟨hxI, hxS⟩
      · exact hdone y hy (by omega)
    · refine wp_seq_k (fun K27 hK27 => ?_)
      refine cF rfl hit (by simpa using h) ?_
      refine wp_exit ?_
      refine thenE ?_
      refine hx _ _ ⟨G, ri, rs, (nx rfl t0), (nx rfl t4), (nx rfl t5), hsG, kG, hTI, hTS, ?_, ?_⟩
      · apply List.ext_getElem?
        intro y
        rcases Nat.lt_or_ge y writes.length with hy | hy
        · rw [(hdone y hy (by omega)).1]; simp [hy]
        · rw [List.getElem?_eq_none (by omega), List.getElem?_eq_none (by simpa using hy)]
      · apply List.ext_getElem?
        intro y
        rcases Nat.lt_or_ge y writes.length with hy | hy
        · rw [(hdone y hy (by omega)).2]; simp [hy]
        · rw [List.getElem?_eq_none (by omega), List.getElem?_eq_none (by simpa using hy)]
  clear s0 hs2 kk hT1' hT2 hp2
  rintro τ wi ⟨G, ri, rs, t0, t4, t5, hsG, kG, hTI, hTS, rfl, rfl⟩
  refine hK6 _ _ ?_
  clear hK6
  refine wp_seq_k (fun K28 hK28 => ?_)
  refine reg ?_
  refine sq rfl (do_move (tm rfl t4)) ?_
  refine sq rfl (do_move (tm rfl (nx rfl t5))) ?_
  refine sq rfl (do_assign (tm rfl (nx rfl hit))) ?_
  refine sq rfl (do_assign (tm rfl (nx rfl hit))) ?_
  refine cutL ?_
  intro τ29 e29
  have c29_0 := (congrFun e29 0).trans (nx rfl (nx rfl (nx rfl (nx rfl t0))))
  have c29_2 := (congrFun e29 2).trans (nx rfl hit)
  have c29_3 := (congrFun e29 3).trans hit
  have c29_4 := (congrFun e29 4).trans (nx rfl (nx rfl (nx rfl (nx rfl t4))))
  have c29_5 := (congrFun e29 5).trans (nx rfl (nx rfl (nx rfl (nx rfl t5))))
  clear e29
  refine wnil ?_
  refine hK28 _ _ ?_
  clear hK28
  refine wp_ret ?_
  rw [← hQ]
  exact ret2 rfl rfl rfl c29_2 c29_3 ⟨_, _, G, rfl, hsG, kG, hTI, hTS⟩
end Go.Proofs.Qxb6001364a
