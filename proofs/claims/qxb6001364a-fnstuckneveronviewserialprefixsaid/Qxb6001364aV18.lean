/-
  searchB1.
-/
import Derived.Test.Qxb6001364aV17
namespace Go.Proofs.Qxb6001364a
open Go.Fra Go.RowKit Pl
set_option maxRecDepth 100000
set_option linter.unusedVariables false
theorem map7 {ρ : Operand → Value} {x0 x1 x2 x3 x4 x5 x6 : Operand} {v0 v1 v2 v3 v4 v5 v6 : Value} (h0 : ρ x0 = v0) (h1 : ρ x1 = v1) (h2 : ρ x2 = v2) (h3 : ρ x3 = v3) (h4 : ρ x4 = v4) (h5 : ρ x5 = v5) (h6 : ρ x6 = v6) :
    #[x0, x1, x2, x3, x4, x5, x6].map ρ = #[v0, v1, v2, v3, v4, v5, v6] := by simp [h0, h1, h2, h3, h4, h5, h6]
def rng (n : Nat) : List Int := (List.range n).map fun (v : Nat) => (v : Int)
theorem rng_get {n v : Nat} (h : v < n) : (ints (rng n))[v]? = some (.int .i64 (v : Int)) := by simp [rng, ints, h]
set_option maxHeartbeats 1000000 in
theorem search27 {N : Nat} {w0 w : World} {H : Nat → Part} (hs : Split N w0 w H) (pb n k bP bSo : Nat) (wsa : Option Addr) (wsc : Nat) (pcs : List Value) (writers : List (List Int)) (pn : List Bool) (hp : VB (H 1) pb 58 pcs) (hp2 : pcs[2]? = some (.slice wsa k wsc)) (hT : TabV (H 4) 22 3 1 encI (.slice wsa k wsc) writers) (hwl : writers.length = k)
    (hpn : VB (H 53) bP 4 (bools pn)) (hpl : pn.length = n) (hn : n ≤ 65536) (hk : k ≤ 65536) (hsum : ∀ r ∈ writers, r.length ≤ 17592186044416) :
    Calls Try.prog 27 #[.pointer (some ⟨pb, 0, none⟩), .int .i64 (n : Int), .slice (some ⟨bP, 0, none⟩) n n, .slice (some ⟨bSo, 0, none⟩) k k] w fun e w' => ∃ (sb bNo bLo bW : Nat) (ita : Option Addr) (itc : Nat) (its : List Int) (ws : List Nat) (H' : Nat → Part), e = .returned (.pointer (some ⟨sb, 0, none⟩)) ∧ Split N w0 w' H' ∧ Same [28, 40, 54, 55, 56, 57, 58] H H' ∧
      VB (H' 40) sb 72 [.pointer (some ⟨pb, 0, none⟩), .slice none 0 0, .slice (some ⟨bSo, 0, none⟩) k k, .slice none 0 0, .slice (some ⟨bLo, 0, none⟩) n n, .slice (some ⟨bNo, 0, none⟩) n n, .slice ita its.length itc, .slice (some ⟨bW, 0, none⟩) ((n + 63) / 64) ((n + 63) / 64), .slice none 0 0, .slice none 0 0, .slice none 0 0, .pointer none, .int .i64 1073741824, .bool false, .slice none 0 0, .slice none 0 0, .slice none 0 0] ∧
      VB (H' 54) bNo 3 (ints (rng n)) ∧ VB (H' 55) bLo 3 (ints (rng n)) ∧ RowV (H' 56) 3 1 (.slice ita its.length itc) its.length (its.flatMap encI) ∧ (∀ x ∈ its, ∃ y : Nat, x = (y : Int) ∧ y < k) ∧ its.length ≤ k ∧ VB (H' 57) bW 65 (u64s ws) ∧ ws.length = (n + 63) / 64 ∧ Bits ws n (fun v => pn.getD v false) := by
  refine enter (args := [Value.pointer (some ⟨pb, 0, none⟩), .int .i64 (n : Int), .slice (some ⟨bP, 0, none⟩) n n, .slice (some ⟨bSo, 0, none⟩) k k]) Try.func27 rfl Try.ntmps27 rfl ?_
  generalize hQ : bodyPost Try.prog Try.f27 _ = Q
  have s0 : frame0 [Value.pointer (some ⟨pb, 0, none⟩), .int .i64 (n : Int), .slice (some ⟨bP, 0, none⟩) n n, .slice (some ⟨bSo, 0, none⟩) k k] 0 = .pointer (some ⟨pb, 0, none⟩) := rfl
  have s1 : frame0 [Value.pointer (some ⟨pb, 0, none⟩), .int .i64 (n : Int), .slice (some ⟨bP, 0, none⟩) n n, .slice (some ⟨bSo, 0, none⟩) k k] 1 = .int .i64 (n : Int) := rfl
  have s2 : frame0 [Value.pointer (some ⟨pb, 0, none⟩), .int .i64 (n : Int), .slice (some ⟨bP, 0, none⟩) n n, .slice (some ⟨bSo, 0, none⟩) k k] 2 = .slice (some ⟨bP, 0, none⟩) n n := rfl
  have s3 : frame0 [Value.pointer (some ⟨pb, 0, none⟩), .int .i64 (n : Int), .slice (some ⟨bP, 0, none⟩) n n, .slice (some ⟨bSo, 0, none⟩) k k] 3 = .slice (some ⟨bSo, 0, none⟩) k k := rfl
  generalize frame0 [Value.pointer (some ⟨pb, 0, none⟩), .int .i64 (n : Int), .slice (some ⟨bP, 0, none⟩) n n, .slice (some ⟨bSo, 0, none⟩) k k] = σ at *
  refine wp_seq_k (fun K1 hK1 => ?_)
  refine reg ?_
  refine sq rfl (do_assign ck) ?_
  refine wnil ?_
  refine hK1 _ _ ?_
  clear hK1
  refine wp_seq_k (fun K2 hK2 => ?_)
  refine reg ?_
  refine sq rfl (do_move (tm rfl (nx rfl s0))) ?_
  have hTR := TabV.tabR hT hs
  refine sqc (R := fun v w' => v = .slice (some ⟨w.heap.size, 0, none⟩) k k ∧ (∃ vs, Blk w' w.heap.size 22 vs ∧ ∀ x (h : x < writers.length), ∃ a c, vs[x]? = some (.slice a writers[x].length c)) ∧ Below w.heap.size w w') rfl
    (run_callF Try.func35 nm35 bd35 (map1 (tm rfl hit)) rfl) ((writers35 w pb _ writers (hp.cell hs hp2) hTR (by omega) hsum).mono ?_) ?_
  · rintro e w' ⟨rfl, h⟩
    exact ⟨_, rfl, by rw [hwl], h⟩
  rintro cv w1 ⟨rfl, ⟨vs, hvB, hvs⟩, hbb⟩
  obtain ⟨G1, k1, hs1, hjB⟩ := hs.junkB hbb 58
  have hT1 := hjB _ _ _ (Nat.le_refl _) hvB
  refine sq rfl (do_assign (tm rfl hit)) ?_
  refine cutL ?_
  intro τ3 e3
  have c3_0 := (congrFun e3 0).trans (nx rfl (nx rfl (nx rfl (nx rfl s0))))
  have c3_1 := (congrFun e3 1).trans (nx rfl (nx rfl (nx rfl (nx rfl s1))))
  have c3_2 := (congrFun e3 2).trans (nx rfl (nx rfl (nx rfl (nx rfl s2))))
  have c3_3 := (congrFun e3 3).trans (nx rfl (nx rfl (nx rfl (nx rfl s3))))
  have c3_8 := (congrFun e3 8).trans (nx rfl (nx rfl (nx rfl hit)))
  have c3_9 := (congrFun e3 9).trans hit
  clear e3
  refine wnil ?_
  refine hK2 _ _ ?_
  clear hK2
  clear hbb hjB hvB hTR
  generalize w.heap.size = bT at *
  refine wp_seq_k (fun K4 hK4 => ?_)
  refine reg ?_
  refine sq rfl (do_move (tm rfl c3_1)) ?_
  refine sq rfl (mk22 (tm rfl hit) (tm rfl hit) (by omega)) ?_
  refine sq rfl (do_assign (tm rfl hit)) ?_
  refine cutW ?_
  intro τ5 e5 xa hxa
  have c5_0 := (congrFun e5 0).trans (nx rfl (nx rfl (nx rfl c3_0)))
  have c5_1 := (congrFun e5 1).trans (nx rfl (nx rfl (nx rfl c3_1)))
  have c5_2 := (congrFun e5 2).trans (nx rfl (nx rfl (nx rfl c3_2)))
  have c5_3 := (congrFun e5 3).trans (nx rfl (nx rfl (nx rfl c3_3)))
  have c5_8 := (congrFun e5 8).trans (nx rfl (nx rfl (nx rfl c3_8)))
  have c5_9 := (congrFun e5 9).trans (nx rfl (nx rfl (nx rfl c3_9)))
  have c5_10 := (congrFun e5 10).trans hit
  clear e5
  refine wnil ?_
  refine hK4 _ _ ?_
  clear hK4
  obtain ⟨G2, k2, hraw, hNo⟩ := blkN hs1 54 3 (madeCells #[.int .i64 0] n)
  have hs2 : Split N w0 xa G2 := by rw [hxa]; exact hraw
  rw [made_ints] at hNo
  clear hxa hraw
  generalize w1.heap.size = bNo at *
  refine wp_seq_k (fun K6 hK6 => ?_)
  refine reg ?_
  refine sq rfl (do_move (tm rfl c5_1)) ?_
  refine sq rfl (mk22 (tm rfl hit) (tm rfl hit) (by omega)) ?_
  refine sq rfl (do_assign (tm rfl hit)) ?_
  refine cutW ?_
  intro τ7 e7 xb hxb
  have c7_0 := (congrFun e7 0).trans (nx rfl (nx rfl (nx rfl c5_0)))
  have c7_1 := (congrFun e7 1).trans (nx rfl (nx rfl (nx rfl c5_1)))
  have c7_2 := (congrFun e7 2).trans (nx rfl (nx rfl (nx rfl c5_2)))
  have c7_3 := (congrFun e7 3).trans (nx rfl (nx rfl (nx rfl c5_3)))
  have c7_8 := (congrFun e7 8).trans (nx rfl (nx rfl (nx rfl c5_8)))
  have c7_9 := (congrFun e7 9).trans (nx rfl (nx rfl (nx rfl c5_9)))
  have c7_10 := (congrFun e7 10).trans (nx rfl (nx rfl (nx rfl c5_10)))
  have c7_11 := (congrFun e7 11).trans hit
  clear e7
  refine wnil ?_
  refine hK6 _ _ ?_
  clear hK6
  obtain ⟨G3, k3, hraw, hLo⟩ := blkN hs2 55 3 (madeCells #[.int .i64 0] n)
  have hs3 : Split N w0 xb G3 := by rw [hxb]; exact hraw
  rw [made_ints] at hLo
  have hNo3 := k3.vb (t := 54) (by decide) hNo
  have kk3 : Same [28, 40, 54, 55, 56, 57, 58] H G3 := (k1.mono (by decide)).trans ((k2.mono (by decide)).trans (k3.mono (by decide)))
  have hT3 := k3.vb (t := 58) (by decide) (k2.vb (t := 58) (by decide) hT1)
  clear hxb hraw hs1 hs2 hNo k1 k2 k3 hT1
  generalize xa.heap.size = bLo at *
  refine wp_seq_k (fun K8 hK8 => ?_)
  refine wp_seq_k (fun K9 hK9 => ?_)
  refine reg ?_
  refine sq rfl (do_assign (v := .int .i64 ((0 : Nat) : Int)) rfl) ?_
  refine wnil ?_
  refine hK9 _ _ ?_
  clear hK9
  refine forLoop (N := 83) (fun r τ wi => ∃ (v : Nat) (G : Nat → Part) (no lo : List Int), r = n - v ∧ v ≤ n ∧ τ 0 = .pointer (some ⟨pb, 0, none⟩) ∧ τ 1 = .int .i64 (n : Int) ∧ τ 2 = .slice (some ⟨bP, 0, none⟩) n n ∧ τ 3 = .slice (some ⟨bSo, 0, none⟩) k k ∧ τ 9 = .slice (some ⟨bT, 0, none⟩) k k ∧ τ 10 = .slice (some ⟨bNo, 0, none⟩) n n ∧ τ 11 = .slice (some ⟨bLo, 0, none⟩) n n ∧ τ 12 = .int .i64 (v : Int) ∧ Split N w0 wi G ∧ Same [28, 40, 54, 55, 56, 57, 58] H G ∧ VB (G 58) bT 22 vs ∧ VB (G 54) bNo 3 (ints no) ∧ VB (G 55) bLo 3 (ints lo) ∧ no.length = n ∧ lo.length = n ∧ (∀ u, u < v → no[u]? = some (u : Int) ∧ lo[u]? = some (u : Int)))
    (fun τ wi => ∃ (G : Nat → Part), τ 0 = .pointer (some ⟨pb, 0, none⟩) ∧ τ 1 = .int .i64 (n : Int) ∧ τ 2 = .slice (some ⟨bP, 0, none⟩) n n ∧ τ 3 = .slice (some ⟨bSo, 0, none⟩) k k ∧ τ 9 = .slice (some ⟨bT, 0, none⟩) k k ∧ τ 10 = .slice (some ⟨bNo, 0, none⟩) n n ∧ τ 11 = .slice (some ⟨bLo, 0, none⟩) n n ∧ Split N w0 wi G ∧ Same [28, 40, 54, 55, 56, 57, 58] H G ∧ VB (G 58) bT 22 vs ∧ VB (G 54) bNo 3 (ints (rng n)) ∧ VB (G 55) bLo 3 (ints (rng n))) n ?_ ?_ ?_
  · exact ⟨0, G3, _, _, rfl, Nat.zero_le _, (nx rfl c7_0), (nx rfl c7_1), (nx rfl c7_2), (nx rfl c7_3), (nx rfl c7_9), (nx rfl c7_10), (nx rfl c7_11), hit, hs3, kk3, hT3, hNo3, hLo, by simp, by simp, fun u hu => by omega⟩
  · clear s0 s1 s2 s3 hs3 kk3 hT3 hNo3 hLo
    rintro Q' r τ wi hnn hx hr ⟨v, G, no, lo, rfl, hi, t0, t1, t2, t3, t9, t10, t11, t12, hsG, kG, hTv, hN, hL, hnl, hll, hpre⟩
    refine wp_seq_k (fun K10 hK10 => ?_)
    refine wp_seq_k (fun K11 hK11 => ?_)
    refine reg ?_
    refine sq rfl (do_move (tm rfl t12)) ?_
    refine sq rfl (do_move (tm rfl (nx rfl t1))) ?_
    refine sq rfl (do_lss (tm rfl (nx rfl hit)) (tm rfl hit)) ?_
    refine wnil ?_
    refine hK11 _ _ ?_
    clear hK11
    by_cases h : v < n
    · refine cT rfl hit (by simpa using h) ?_
      refine wp_skip ?_
      refine hK10 _ _ ?_
      clear hK10
      obtain ⟨J1, j1, g1, hN1⟩ := hN.put hsG v (.int .i64 (v : Int))
      rw [ints_set] at hN1
      refine wp_seq_k (fun K12 hK12 => ?_)
      refine wp_block ?_
      refine wp_seq_k (fun K13 hK13 => ?_)
      refine reg ?_
      refine sq rfl (do_move (tm rfl (nx rfl (nx rfl (nx rfl t10))))) ?_
      refine sq rfl (do_move (tm rfl (nx rfl (nx rfl (nx rfl (nx rfl t12)))))) ?_
      refine sq rfl (do_move (tm rfl (nx rfl (nx rfl (nx rfl (nx rfl (nx rfl t12))))))) ?_
      refine sq rfl (ix22 (tm rfl (nx rfl (nx rfl hit))) (tm rfl (nx rfl hit)) (by omega)) ?_
      refine sqn (do_store T3 (tm rfl hit) (tm rfl (nx rfl hit)) rfl (hN.cell hsG (ints_get no v (by omega))) (hN.frozen hsG v)) ?_
      refine cutW ?_
      intro τ14 e14 x1 hx1
      have c14_0 := (congrFun e14 0).trans (nx rfl (nx rfl (nx rfl (nx rfl (nx rfl (nx rfl (nx rfl t0)))))))
      have c14_1 := (congrFun e14 1).trans (nx rfl (nx rfl (nx rfl (nx rfl (nx rfl (nx rfl (nx rfl t1)))))))
      have c14_2 := (congrFun e14 2).trans (nx rfl (nx rfl (nx rfl (nx rfl (nx rfl (nx rfl (nx rfl t2)))))))
      have c14_3 := (congrFun e14 3).trans (nx rfl (nx rfl (nx rfl (nx rfl (nx rfl (nx rfl (nx rfl t3)))))))
      have c14_9 := (congrFun e14 9).trans (nx rfl (nx rfl (nx rfl (nx rfl (nx rfl (nx rfl (nx rfl t9)))))))
      have c14_10 := (congrFun e14 10).trans (nx rfl (nx rfl (nx rfl (nx rfl (nx rfl (nx rfl (nx rfl t10)))))))
      have c14_11 := (congrFun e14 11).trans (nx rfl (nx rfl (nx rfl (nx rfl (nx rfl (nx rfl (nx rfl t11)))))))
      have c14_12 := (congrFun e14 12).trans (nx rfl (nx rfl (nx rfl (nx rfl (nx rfl (nx rfl (nx rfl t12)))))))
      clear e14
      refine wnil ?_
      refine hK13 _ _ ?_
      clear hK13
      have g1' : Split N w0 x1 J1 := by rw [hx1]; exact g1
      have hL1 := j1.vb (t := 55) (by decide) hL
      obtain ⟨J2, j2, g2, hL2⟩ := hL1.put g1' v (.int .i64 (v : Int))
      rw [ints_set] at hL2
      refine reg ?_
      refine sq rfl (do_move (tm rfl c14_11)) ?_
      refine sq rfl (do_move (tm rfl (nx rfl c14_12))) ?_
      refine sq rfl (do_move (tm rfl (nx rfl (nx rfl c14_12)))) ?_
      refine sq rfl (ix22 (tm rfl (nx rfl (nx rfl hit))) (tm rfl (nx rfl hit)) (by omega)) ?_
      refine sqn (do_store T3 (tm rfl hit) (tm rfl (nx rfl hit)) rfl (hL1.cell g1' (ints_get lo v (by omega))) (hL1.frozen g1' v)) ?_
      refine cutW ?_
      intro τ15 e15 x2 hx2
      have c15_0 := (congrFun e15 0).trans (nx rfl (nx rfl (nx rfl (nx rfl c14_0))))
      have c15_1 := (congrFun e15 1).trans (nx rfl (nx rfl (nx rfl (nx rfl c14_1))))
      have c15_2 := (congrFun e15 2).trans (nx rfl (nx rfl (nx rfl (nx rfl c14_2))))
      have c15_3 := (congrFun e15 3).trans (nx rfl (nx rfl (nx rfl (nx rfl c14_3))))
      have c15_9 := (congrFun e15 9).trans (nx rfl (nx rfl (nx rfl (nx rfl c14_9))))
      have c15_10 := (congrFun e15 10).trans (nx rfl (nx rfl (nx rfl (nx rfl c14_10))))
      have c15_11 := (congrFun e15 11).trans (nx rfl (nx rfl (nx rfl (nx rfl c14_11))))
      have c15_12 := (congrFun e15 12).trans (nx rfl (nx rfl (nx rfl (nx rfl c14_12))))
      clear e15
      refine wnil ?_
      refine inBN ?_
      refine hK12 _ _ ?_
      clear hK12
      have g2' : Split N w0 x2 J2 := by rw [hx2]; exact g2
      refine reg ?_
      refine sq rfl (do_move (tm rfl c15_12)) ?_
      refine sq rfl (do_inc (tm rfl hit) ck (by omega)) ?_
      refine sq rfl (do_assign (tm rfl hit)) ?_
      refine wnil ?_
      refine hnn (n - (v + 1)) _ _ (by omega) ⟨v + 1, J2, _, _, rfl, by omega, (nx rfl (nx rfl (nx rfl c15_0))), (nx rfl (nx rfl (nx rfl c15_1))), (nx rfl (nx rfl (nx rfl c15_2))), (nx rfl (nx rfl (nx rfl c15_3))), (nx rfl (nx rfl (nx rfl c15_9))), (nx rfl (nx rfl (nx rfl c15_10))), (nx rfl (nx rfl (nx rfl c15_11))), hit, g2', kG.trans ((j1.mono (by decide)).trans (j2.mono (by decide))), j2.vb (t := 58) (by decide) (j1.vb (t := 58) (by decide) hTv), j2.vb (t := 54) (by decide) hN1, hL2, by simp [hnl], by simp [hll], ?_⟩
      intro u hu
      by_cases huv : v = u
      · subst huv
        exact ⟨List.getElem?_set_self (by omega), List.getElem?_set_self (by omega)⟩
      · rw [List.getElem?_set_ne huv, List.getElem?_set_ne huv]
        exact hpre u (by omega)
    · refine cF rfl hit (by simpa using h) ?_
      refine wp_exit ?_
      refine thenE ?_
      have e1 : no = rng n := by
        apply List.ext_getElem?
        intro u
        rcases Nat.lt_or_ge u n with hu | hu
        · rw [(hpre u (by omega)).1]; simp [rng, hu]
        · rw [List.getElem?_eq_none (by omega), List.getElem?_eq_none (by simpa [rng] using hu)]
      have e2 : lo = rng n := by
        apply List.ext_getElem?
        intro u
        rcases Nat.lt_or_ge u n with hu | hu
        · rw [(hpre u (by omega)).2]; simp [rng, hu]
        · rw [List.getElem?_eq_none (by omega), List.getElem?_eq_none (by simpa [rng] using hu)]
      subst e1
      subst e2
      exact hx _ _ ⟨G, (nx rfl (nx rfl (nx rfl t0))), (nx rfl (nx rfl (nx rfl t1))), (nx rfl (nx rfl (nx rfl t2))), (nx rfl (nx rfl (nx rfl t3))), (nx rfl (nx rfl (nx rfl t9))), (nx rfl (nx rfl (nx rfl t10))), (nx rfl (nx rfl (nx rfl t11))), hsG, kG, hTv, hN, hL⟩
  clear s0 s1 s2 s3 hs3 kk3 hT3 hNo3 hLo
  rintro τ wi ⟨G, t0, t1, t2, t3, t9, t10, t11, hsG, kG, hTv, hN, hL⟩
  refine hK8 _ _ ?_
  clear hK8
  refine wp_seq_k (fun K16 hK16 => ?_)
  refine reg ?_
  refine sq rfl (do_assign ck) ?_
  refine wnil ?_
  refine hK16 _ _ ?_
  clear hK16
  refine wp_seq_k (fun K17 hK17 => ?_)
  refine wp_seq_k (fun K18 hK18 => ?_)
  refine reg ?_
  refine sq rfl (do_assign (v := .int .i64 ((0 : Nat) : Int)) rfl) ?_
  refine wnil ?_
  refine hK18 _ _ ?_
  clear hK18
  refine forLoop (N := 83) (fun r τ wi => ∃ (x : Nat) (G : Nat → Part) (its : List Int) (iv : Value), r = k - x ∧ x ≤ k ∧ τ 0 = .pointer (some ⟨pb, 0, none⟩) ∧ τ 1 = .int .i64 (n : Int) ∧ τ 2 = .slice (some ⟨bP, 0, none⟩) n n ∧ τ 3 = .slice (some ⟨bSo, 0, none⟩) k k ∧ τ 9 = .slice (some ⟨bT, 0, none⟩) k k ∧ τ 10 = .slice (some ⟨bNo, 0, none⟩) n n ∧ τ 11 = .slice (some ⟨bLo, 0, none⟩) n n ∧ τ 13 = iv ∧ τ 14 = .int .i64 (x : Int) ∧ Split N w0 wi G ∧ Same [28, 40, 54, 55, 56, 57, 58] H G ∧ VB (G 58) bT 22 vs ∧ VB (G 54) bNo 3 (ints (rng n)) ∧ VB (G 55) bLo 3 (ints (rng n)) ∧ RowV (G 56) 3 1 iv its.length (its.flatMap encI) ∧ its.length ≤ x ∧ (∀ z ∈ its, ∃ y : Nat, z = (y : Int) ∧ y < k))
    (fun τ wi => ∃ (G : Nat → Part) (its : List Int) (iv : Value), τ 0 = .pointer (some ⟨pb, 0, none⟩) ∧ τ 1 = .int .i64 (n : Int) ∧ τ 2 = .slice (some ⟨bP, 0, none⟩) n n ∧ τ 3 = .slice (some ⟨bSo, 0, none⟩) k k ∧ τ 9 = .slice (some ⟨bT, 0, none⟩) k k ∧ τ 10 = .slice (some ⟨bNo, 0, none⟩) n n ∧ τ 11 = .slice (some ⟨bLo, 0, none⟩) n n ∧ τ 13 = iv ∧ Split N w0 wi G ∧ Same [28, 40, 54, 55, 56, 57, 58] H G ∧ VB (G 54) bNo 3 (ints (rng n)) ∧ VB (G 55) bLo 3 (ints (rng n)) ∧ RowV (G 56) 3 1 iv its.length (its.flatMap encI) ∧ its.length ≤ k ∧ (∀ z ∈ its, ∃ y : Nat, z = (y : Int) ∧ y < k)) k ?_ ?_ ?_
  · exact ⟨0, G, [], _, rfl, Nat.zero_le _, (nx rfl (nx rfl t0)), (nx rfl (nx rfl t1)), (nx rfl (nx rfl t2)), (nx rfl (nx rfl t3)), (nx rfl (nx rfl t9)), (nx rfl (nx rfl t10)), (nx rfl (nx rfl t11)), (nx rfl hit), hit, hsG, kG, hTv, hN, hL, RowV.empty, Nat.le_refl _, fun z hz => (by cases hz)⟩
  · clear t0 t1 t2 t3 t9 t10 t11 hsG kG hTv hN hL
    rintro Q' r τ wi hnn hx hr ⟨x, G, its, iv, rfl, hi, t0, t1, t2, t3, t9, t10, t11, t13, t14, hsG, kG, hTv, hN, hL, hR, hil, hip⟩
    refine wp_seq_k (fun K19 hK19 => ?_)
    refine wp_seq_k (fun K20 hK20 => ?_)
    refine reg ?_
    refine sq rfl (do_move (tm rfl t14)) ?_
    refine sq rfl (do_move (tm rfl (nx rfl t9))) ?_
    refine sq rfl (do_len Try.underlying37 (tm rfl hit)) ?_
    refine sq rfl (do_lss (tm rfl (nx rfl (nx rfl hit))) (tm rfl hit)) ?_
    refine cutL ?_
    intro τ21 e21
    have c21_0 := (congrFun e21 0).trans (nx rfl (nx rfl (nx rfl (nx rfl t0))))
    have c21_1 := (congrFun e21 1).trans (nx rfl (nx rfl (nx rfl (nx rfl t1))))
    have c21_2 := (congrFun e21 2).trans (nx rfl (nx rfl (nx rfl (nx rfl t2))))
    have c21_3 := (congrFun e21 3).trans (nx rfl (nx rfl (nx rfl (nx rfl t3))))
    have c21_9 := (congrFun e21 9).trans (nx rfl (nx rfl (nx rfl (nx rfl t9))))
    have c21_10 := (congrFun e21 10).trans (nx rfl (nx rfl (nx rfl (nx rfl t10))))
    have c21_11 := (congrFun e21 11).trans (nx rfl (nx rfl (nx rfl (nx rfl t11))))
    have c21_13 := (congrFun e21 13).trans (nx rfl (nx rfl (nx rfl (nx rfl t13))))
    have c21_14 := (congrFun e21 14).trans (nx rfl (nx rfl (nx rfl (nx rfl t14))))
    have c21_39 := (congrFun e21 39).trans hit
    clear e21
    refine wnil ?_
    refine hK20 _ _ ?_
    clear hK20
    by_cases h : x < k
    · refine cT rfl c21_39 (by simpa using h) ?_
      refine wp_skip ?_
      refine hK19 _ _ ?_
      clear hK19
      obtain ⟨ra, rc, hvx⟩ := hvs x (by omega)
      refine wp_seq_k (fun K22 hK22 => ?_)
      refine wp_block ?_
      refine wp_seq_k (fun K23 hK23 => ?_)
      refine reg ?_
      refine sq rfl (do_move (tm rfl c21_9)) ?_
      refine sq rfl (do_move (tm rfl (nx rfl c21_14))) ?_
      refine sq rfl (ix37 (tm rfl (nx rfl hit)) (tm rfl hit) (by omega)) ?_
      refine sq rfl (do_load T22 rfl (tm rfl hit) (hTv.cell hsG hvx)) ?_
      refine sq rfl (do_len Try.underlying22 (tm rfl hit)) ?_
      refine sq rfl (do_gtr (tm rfl hit) ck) ?_
      refine cutL ?_
      intro τ24 e24
      have c24_0 := (congrFun e24 0).trans (nx rfl (nx rfl (nx rfl (nx rfl (nx rfl (nx rfl c21_0))))))
      have c24_1 := (congrFun e24 1).trans (nx rfl (nx rfl (nx rfl (nx rfl (nx rfl (nx rfl c21_1))))))
      have c24_2 := (congrFun e24 2).trans (nx rfl (nx rfl (nx rfl (nx rfl (nx rfl (nx rfl c21_2))))))
      have c24_3 := (congrFun e24 3).trans (nx rfl (nx rfl (nx rfl (nx rfl (nx rfl (nx rfl c21_3))))))
      have c24_9 := (congrFun e24 9).trans (nx rfl (nx rfl (nx rfl (nx rfl (nx rfl (nx rfl c21_9))))))
      have c24_10 := (congrFun e24 10).trans (nx rfl (nx rfl (nx rfl (nx rfl (nx rfl (nx rfl c21_10))))))
      have c24_11 := (congrFun e24 11).trans (nx rfl (nx rfl (nx rfl (nx rfl (nx rfl (nx rfl c21_11))))))
      have c24_13 := (congrFun e24 13).trans (nx rfl (nx rfl (nx rfl (nx rfl (nx rfl (nx rfl c21_13))))))
      have c24_14 := (congrFun e24 14).trans (nx rfl (nx rfl (nx rfl (nx rfl (nx rfl (nx rfl c21_14))))))
      have c24_47 := (congrFun e24 47).trans hit
      clear e24
      refine wnil ?_
      refine hK23 _ _ ?_
      clear hK23
      by_cases h0 : 0 < (writers[x]'(by omega)).length
      · refine cT rfl c24_47 (by simpa using h0) ?_
        obtain ⟨J1, j1, g1, _⟩ := blkN hsG 28 3 #[.int .i64 (x : Int)]
        have hR1 : RowV (J1 56) 3 1 iv its.length (its.flatMap encI) := by rw [j1 56 (by decide)]; exact hR
        obtain ⟨iv', wd, V56, hap, g2, hR2, _, _⟩ := RowV.append T22 T3 rfl (by decide) hR1 g1 (a := ⟨wi.heap.size, 0, none⟩) (m := 1) (c := 1) (news := encI (x : Int)) rfl (by
          intro j u hu
          rw [add_plain, Nat.zero_add]
          exact new_cell wi #[.int .i64 (x : Int)] 3 j hu) (one_I _) (by simp only [maxLen]; omega) (by omega)
        refine reg ?_
        refine sq rfl (do_move (tm rfl c24_13)) ?_
        refine sq rfl (do_move (tm rfl (nx rfl c24_14))) ?_
        refine sq rfl (do_bs1 T22 T3 rfl (tm rfl hit) rfl) ?_
        refine sq rfl (hap _ _ _ _ _ _ _ _ (tm rfl (nx rfl (nx rfl hit))) (tm rfl hit)) ?_
        refine sq rfl (do_assign (tm rfl hit)) ?_
        refine cutL ?_
        intro τ25 e25
        have c25_0 := (congrFun e25 0).trans (nx rfl (nx rfl (nx rfl (nx rfl (nx rfl c24_0)))))
        have c25_1 := (congrFun e25 1).trans (nx rfl (nx rfl (nx rfl (nx rfl (nx rfl c24_1)))))
        have c25_2 := (congrFun e25 2).trans (nx rfl (nx rfl (nx rfl (nx rfl (nx rfl c24_2)))))
        have c25_3 := (congrFun e25 3).trans (nx rfl (nx rfl (nx rfl (nx rfl (nx rfl c24_3)))))
        have c25_9 := (congrFun e25 9).trans (nx rfl (nx rfl (nx rfl (nx rfl (nx rfl c24_9)))))
        have c25_10 := (congrFun e25 10).trans (nx rfl (nx rfl (nx rfl (nx rfl (nx rfl c24_10)))))
        have c25_11 := (congrFun e25 11).trans (nx rfl (nx rfl (nx rfl (nx rfl (nx rfl c24_11)))))
        have c25_13 := (congrFun e25 13).trans hit
        have c25_14 := (congrFun e25 14).trans (nx rfl (nx rfl (nx rfl (nx rfl (nx rfl c24_14)))))
        clear e25
        refine wnil ?_
        refine inBN ?_
        refine hK22 _ _ ?_
        clear hK22
        have j2 : Same [56] J1 (updH J1 56 V56) := Same.upd (by decide)
        refine reg ?_
        refine sq rfl (do_move (tm rfl c25_14)) ?_
        refine sq rfl (do_inc (tm rfl hit) ck (by omega)) ?_
        refine sq rfl (do_assign (tm rfl hit)) ?_
        refine wnil ?_
        refine hnn (k - (x + 1)) _ _ (by omega) ⟨x + 1, updH J1 56 V56, its ++ [(x : Int)], iv', rfl, by omega, (nx rfl (nx rfl (nx rfl c25_0))), (nx rfl (nx rfl (nx rfl c25_1))), (nx rfl (nx rfl (nx rfl c25_2))), (nx rfl (nx rfl (nx rfl c25_3))), (nx rfl (nx rfl (nx rfl c25_9))), (nx rfl (nx rfl (nx rfl c25_10))), (nx rfl (nx rfl (nx rfl c25_11))), (nx rfl (nx rfl (nx rfl c25_13))), hit, g2, kG.trans ((j1.mono (by decide)).trans (j2.mono (by decide))), j2.vb (t := 58) (by decide) (j1.vb (t := 58) (by decide) hTv), j2.vb (t := 54) (by decide) (j1.vb (t := 54) (by decide) hN), j2.vb (t := 55) (by decide) (j1.vb (t := 55) (by decide) hL), ?_, by simp; omega, ?_⟩
        · rw [updH_hit]
          simpa [List.flatMap_append] using hR2
        · intro z hz
          rcases List.mem_append.1 hz with h1 | h1
          · exact hip z h1
          · exact ⟨x, by simpa using h1, h⟩
      · refine cF rfl c24_47 (by simpa using h0) ?_
        refine wp_skip ?_
        refine inBN ?_
        refine hK22 _ _ ?_
        clear hK22
        refine reg ?_
        refine sq rfl (do_move (tm rfl c24_14)) ?_
        refine sq rfl (do_inc (tm rfl hit) ck (by omega)) ?_
        refine sq rfl (do_assign (tm rfl hit)) ?_
        refine wnil ?_
        exact hnn (k - (x + 1)) _ _ (by omega) ⟨x + 1, G, its, iv, rfl, by omega, (nx rfl (nx rfl (nx rfl c24_0))), (nx rfl (nx rfl (nx rfl c24_1))), (nx rfl (nx rfl (nx rfl c24_2))), (nx rfl (nx rfl (nx rfl c24_3))), (nx rfl (nx rfl (nx rfl c24_9))), (nx rfl (nx rfl (nx rfl c24_10))), (nx rfl (nx rfl (nx rfl c24_11))), (nx rfl (nx rfl (nx rfl c24_13))), hit, hsG, kG, hTv, hN, hL, hR, by omega, hip⟩
    · refine cF rfl c21_39 (by simpa using h) ?_
      refine wp_exit ?_
      refine thenE ?_
      exact hx _ _ ⟨G, its, iv, c21_0, c21_1, c21_2, c21_3, c21_9, c21_10, c21_11, c21_13, hsG, kG, hN, hL, hR, by omega, hip⟩
  clear t0 t1 t2 t3 t9 t10 t11 hsG kG hTv hN hL hvs
  rintro τ wi ⟨G, its, iv, t0, t1, t2, t3, t9, t10, t11, t13, hsG, kG, hN, hL, hR, hil, hip⟩
  refine hK17 _ _ ?_
  clear hK17
  obtain ⟨ita, itc, rfl⟩ := hR.slice
  refine wp_seq_k (fun K26 hK26 => ?_)
  refine reg ?_
  refine sq rfl (do_move (tm rfl t1)) ?_
  refine sq rfl (do_addM (b := 63) (tm rfl hit) rfl (by omega)) ?_
  refine sq rfl (do_quo (b := 64) (tm rfl hit) rfl (by decide) rfl (by omega)) ?_
  refine sq rfl (mk64 (tm rfl hit) (tm rfl hit) (by omega)) ?_
  refine sq rfl (do_assign (tm rfl hit)) ?_
  refine cutW ?_
  intro τ27 e27 xa hxa
  have c27_0 := (congrFun e27 0).trans (nx rfl (nx rfl (nx rfl (nx rfl (nx rfl t0)))))
  have c27_1 := (congrFun e27 1).trans (nx rfl (nx rfl (nx rfl (nx rfl (nx rfl t1)))))
  have c27_2 := (congrFun e27 2).trans (nx rfl (nx rfl (nx rfl (nx rfl (nx rfl t2)))))
  have c27_3 := (congrFun e27 3).trans (nx rfl (nx rfl (nx rfl (nx rfl (nx rfl t3)))))
  have c27_9 := (congrFun e27 9).trans (nx rfl (nx rfl (nx rfl (nx rfl (nx rfl t9)))))
  have c27_10 := (congrFun e27 10).trans (nx rfl (nx rfl (nx rfl (nx rfl (nx rfl t10)))))
  have c27_11 := (congrFun e27 11).trans (nx rfl (nx rfl (nx rfl (nx rfl (nx rfl t11)))))
  have c27_13 := (congrFun e27 13).trans (nx rfl (nx rfl (nx rfl (nx rfl (nx rfl t13)))))
  have c27_15 := (congrFun e27 15).trans hit
  clear e27
  refine wnil ?_
  refine hK26 _ _ ?_
  clear hK26
  obtain ⟨G2, k2, hraw, hW0⟩ := blkN hsG 57 65 (madeCells #[.int .u64 0] ((n + 63) / 64))
  have hs2 : Split N w0 xa G2 := by rw [hxa]; exact hraw
  have hW1 : VB (G2 57) wi.heap.size 65 (u64s (List.replicate ((n + 63) / 64) 0)) := by
    rw [made_list] at hW0
    simpa [u64s] using hW0
  have kk2 : Same [28, 40, 54, 55, 56, 57, 58] H G2 := kG.trans (k2.mono (by decide))
  have hN2 := k2.vb (t := 54) (by decide) hN
  have hL2 := k2.vb (t := 55) (by decide) hL
  have hR2 : RowV (G2 56) 3 1 (.slice ita its.length itc) its.length (its.flatMap encI) := by rw [k2 56 (by decide)]; exact hR
  clear hxa hraw hW0 hsG kG hN hL hR k2
  generalize wi.heap.size = bW at *
  refine wp_seq_k (fun K28 hK28 => ?_)
  refine wp_seq_k (fun K29 hK29 => ?_)
  refine reg ?_
  refine sq rfl (do_assign (v := .int .i64 ((0 : Nat) : Int)) rfl) ?_
  refine wnil ?_
  refine hK29 _ _ ?_
  clear hK29
  refine forLoop (N := 83) (fun r τ wi => ∃ (v : Nat) (G : Nat → Part) (ws : List Nat), r = n - v ∧ v ≤ n ∧ τ 0 = .pointer (some ⟨pb, 0, none⟩) ∧ τ 1 = .int .i64 (n : Int) ∧ τ 2 = .slice (some ⟨bP, 0, none⟩) n n ∧ τ 3 = .slice (some ⟨bSo, 0, none⟩) k k ∧ τ 9 = .slice (some ⟨bT, 0, none⟩) k k ∧ τ 10 = .slice (some ⟨bNo, 0, none⟩) n n ∧ τ 11 = .slice (some ⟨bLo, 0, none⟩) n n ∧ τ 13 = .slice ita its.length itc ∧ τ 15 = .slice (some ⟨bW, 0, none⟩) ((n + 63) / 64) ((n + 63) / 64) ∧ τ 16 = .int .i64 (v : Int) ∧ Split N w0 wi G ∧ Same [57] G2 G ∧ VB (G 57) bW 65 (u64s ws) ∧ ws.length = (n + 63) / 64 ∧ Bits ws n (fun u => decide (u < v) && pn.getD u false))
    (fun τ wi => ∃ (G : Nat → Part) (ws : List Nat), τ 0 = .pointer (some ⟨pb, 0, none⟩) ∧ τ 1 = .int .i64 (n : Int) ∧ τ 2 = .slice (some ⟨bP, 0, none⟩) n n ∧ τ 3 = .slice (some ⟨bSo, 0, none⟩) k k ∧ τ 9 = .slice (some ⟨bT, 0, none⟩) k k ∧ τ 10 = .slice (some ⟨bNo, 0, none⟩) n n ∧ τ 11 = .slice (some ⟨bLo, 0, none⟩) n n ∧ τ 13 = .slice ita its.length itc ∧ τ 15 = .slice (some ⟨bW, 0, none⟩) ((n + 63) / 64) ((n + 63) / 64) ∧ Split N w0 wi G ∧ Same [57] G2 G ∧ VB (G 57) bW 65 (u64s ws) ∧ ws.length = (n + 63) / 64 ∧ Bits ws n (fun u => pn.getD u false)) n ?_ ?_ ?_
  · refine ⟨0, G2, _, rfl, Nat.zero_le _, (nx rfl c27_0), (nx rfl c27_1), (nx rfl c27_2), (nx rfl c27_3), (nx rfl c27_9), (nx rfl c27_10), (nx rfl c27_11), (nx rfl c27_13), (nx rfl c27_15), hit, hs2, Same.refl _ _, hW1, by simp, fun z hz => ?_, fun u hu => ⟨0, ?_, ?_⟩⟩
    · rw [List.eq_of_mem_replicate hz]; decide
    · rw [List.getElem?_replicate, if_pos (by omega)]
    · rw [Nat.zero_testBit]; simp
  · clear t0 t1 t2 t3 t9 t10 t11 t13 hs2 hW1
    rintro Q' r τ wi hnn hx hr ⟨v, G, ws, rfl, hi, t0, t1, t2, t3, t9, t10, t11, t13, t15, t16, hsG, kG, hW, hwl2, hbits⟩
    refine wp_seq_k (fun K30 hK30 => ?_)
    refine wp_seq_k (fun K31 hK31 => ?_)
    refine reg ?_
    refine sq rfl (do_move (tm rfl t16)) ?_
    refine sq rfl (do_move (tm rfl (nx rfl t1))) ?_
    refine sq rfl (do_lss (tm rfl (nx rfl hit)) (tm rfl hit)) ?_
    refine wnil ?_
    refine hK31 _ _ ?_
    clear hK31
    by_cases h : v < n
    · refine cT rfl hit (by simpa using h) ?_
      refine wp_skip ?_
      refine hK30 _ _ ?_
      clear hK30
      have hpG : VB (G 53) bP 4 (bools pn) := kG.vb (t := 53) (by decide) (kk2.vb (t := 53) (by decide) hpn)
      refine wp_seq_k (fun K32 hK32 => ?_)
      refine wp_block ?_
      refine wp_seq_k (fun K33 hK33 => ?_)
      refine reg ?_
      refine sq rfl (do_move (tm rfl (nx rfl (nx rfl (nx rfl t2))))) ?_
      refine sq rfl (do_move (tm rfl (nx rfl (nx rfl (nx rfl (nx rfl t16)))))) ?_
      refine sq rfl (ix23 (tm rfl (nx rfl hit)) (tm rfl hit) (by omega)) ?_
      refine sq rfl (do_load T4 rfl (tm rfl hit) (hpG.cell hsG (bools_get pn v (by omega)))) ?_
      refine cutL ?_
      intro τ34 e34
      have c34_0 := (congrFun e34 0).trans (nx rfl (nx rfl (nx rfl (nx rfl (nx rfl (nx rfl (nx rfl t0)))))))
      have c34_1 := (congrFun e34 1).trans (nx rfl (nx rfl (nx rfl (nx rfl (nx rfl (nx rfl (nx rfl t1)))))))
      have c34_2 := (congrFun e34 2).trans (nx rfl (nx rfl (nx rfl (nx rfl (nx rfl (nx rfl (nx rfl t2)))))))
      have c34_3 := (congrFun e34 3).trans (nx rfl (nx rfl (nx rfl (nx rfl (nx rfl (nx rfl (nx rfl t3)))))))
      have c34_9 := (congrFun e34 9).trans (nx rfl (nx rfl (nx rfl (nx rfl (nx rfl (nx rfl (nx rfl t9)))))))
      have c34_10 := (congrFun e34 10).trans (nx rfl (nx rfl (nx rfl (nx rfl (nx rfl (nx rfl (nx rfl t10)))))))
      have c34_11 := (congrFun e34 11).trans (nx rfl (nx rfl (nx rfl (nx rfl (nx rfl (nx rfl (nx rfl t11)))))))
      have c34_13 := (congrFun e34 13).trans (nx rfl (nx rfl (nx rfl (nx rfl (nx rfl (nx rfl (nx rfl t13)))))))
      have c34_15 := (congrFun e34 15).trans (nx rfl (nx rfl (nx rfl (nx rfl (nx rfl (nx rfl (nx rfl t15)))))))
      have c34_16 := (congrFun e34 16).trans (nx rfl (nx rfl (nx rfl (nx rfl (nx rfl (nx rfl (nx rfl t16)))))))
      have c34_64 := (congrFun e34 64).trans hit
      clear e34
      refine wnil ?_
      refine hK33 _ _ ?_
      clear hK33
      have hgd : pn.getD v false = pn[v]'(by omega) := by simp [List.getD_eq_getElem?_getD, List.getElem?_eq_getElem (show v < pn.length by omega)]
      by_cases hb : pn[v]'(by omega) = true
      · refine cT rfl c34_64 hb ?_
        obtain ⟨z, hz, hzb⟩ := hbits.2 v h
        have hz64 : z < 2 ^ 64 := hbits.1 z (List.mem_of_getElem? hz)
        have hmod : v % 64 < 64 := Nat.mod_lt _ (by decide)
        have hlt := (List.getElem?_eq_some_iff.1 hz).1
        have ccell := hW.cell hsG (show (u64s ws)[v / 64]? = some (.int .u64 (z : Int)) by simp [u64s, hz])
        obtain ⟨J1, j1, g1, hW1⟩ := hW.put hsG (v / 64) (.int .u64 ((z ||| 2 ^ (v % 64) : Nat) : Int))
        refine reg ?_
        refine sq rfl (do_move (tm rfl c34_15)) ?_
        refine sq rfl (do_move (tm rfl (nx rfl c34_16))) ?_
        refine sq rfl (do_quo (b := 64) (tm rfl hit) rfl (by decide) rfl (by omega)) ?_
        refine sq rfl (do_index T64 T65 (tm rfl (nx rfl (nx rfl hit))) (tm rfl hit) (by omega) (show 0 + v / 64 * 1 = v / 64 by omega)) ?_
        refine sq rfl (do_load T65 rfl (tm rfl hit) ccell) ?_
        refine sq rfl (do_move (tm rfl (nx rfl (nx rfl (nx rfl (nx rfl (nx rfl c34_16))))))) ?_
        refine sq rfl (do_rem (b := 64) (tm rfl hit) rfl (by decide) rfl (by omega)) ?_
        refine sq rfl (do_conv (k := .u64) (m := ((v % 64 : Nat) : Int)) Try.underlying3 Try.underlying66 (tm rfl hit) (by rw [wrap_u64]; omega)) ?_
        refine sq rfl (do_shl (k := .u64) (a := 1) rfl (tm rfl hit) (show v % 64 ≤ 64 by omega) (shl_u64 hmod)) ?_
        refine sq rfl (do_or (tm rfl (nx rfl (nx rfl (nx rfl (nx rfl hit))))) (tm rfl hit) (or_u64 z (2 ^ (v % 64)) hz64 (pow_lt64 hmod))) ?_
        refine sq rfl (do_index T64 T65 (tm rfl (nx rfl (nx rfl (nx rfl (nx rfl (nx rfl (nx rfl (nx rfl (nx rfl (nx rfl hit)))))))))) (tm rfl (nx rfl (nx rfl (nx rfl (nx rfl (nx rfl (nx rfl (nx rfl hit)))))))) (by omega) (show 0 + v / 64 * 1 = v / 64 by omega)) ?_
        refine sqn (do_store T65 (tm rfl hit) (tm rfl (nx rfl hit)) rfl ccell (hW.frozen hsG _)) ?_
        refine cutW ?_
        intro τ35 e35 x2 hx2
        have c35_0 := (congrFun e35 0).trans (nx rfl (nx rfl (nx rfl (nx rfl (nx rfl (nx rfl (nx rfl (nx rfl (nx rfl (nx rfl (nx rfl c34_0)))))))))))
        have c35_1 := (congrFun e35 1).trans (nx rfl (nx rfl (nx rfl (nx rfl (nx rfl (nx rfl (nx rfl (nx rfl (nx rfl (nx rfl (nx rfl c34_1)))))))))))
        have c35_2 := (congrFun e35 2).trans (nx rfl (nx rfl (nx rfl (nx rfl (nx rfl (nx rfl (nx rfl (nx rfl (nx rfl (nx rfl (nx rfl c34_2)))))))))))
        have c35_3 := (congrFun e35 3).trans (nx rfl (nx rfl (nx rfl (nx rfl (nx rfl (nx rfl (nx rfl (nx rfl (nx rfl (nx rfl (nx rfl c34_3)))))))))))
        have c35_9 := (congrFun e35 9).trans (nx rfl (nx rfl (nx rfl (nx rfl (nx rfl (nx rfl (nx rfl (nx rfl (nx rfl (nx rfl (nx rfl c34_9)))))))))))
        have c35_10 := (congrFun e35 10).trans (nx rfl (nx rfl (nx rfl (nx rfl (nx rfl (nx rfl (nx rfl (nx rfl (nx rfl (nx rfl (nx rfl c34_10)))))))))))
        have c35_11 := (congrFun e35 11).trans (nx rfl (nx rfl (nx rfl (nx rfl (nx rfl (nx rfl (nx rfl (nx rfl (nx rfl (nx rfl (nx rfl c34_11)))))))))))
        have c35_13 := (congrFun e35 13).trans (nx rfl (nx rfl (nx rfl (nx rfl (nx rfl (nx rfl (nx rfl (nx rfl (nx rfl (nx rfl (nx rfl c34_13)))))))))))
        have c35_15 := (congrFun e35 15).trans (nx rfl (nx rfl (nx rfl (nx rfl (nx rfl (nx rfl (nx rfl (nx rfl (nx rfl (nx rfl (nx rfl c34_15)))))))))))
        have c35_16 := (congrFun e35 16).trans (nx rfl (nx rfl (nx rfl (nx rfl (nx rfl (nx rfl (nx rfl (nx rfl (nx rfl (nx rfl (nx rfl c34_16)))))))))))
        clear e35
        refine wnil ?_
        refine inBN ?_
        refine hK32 _ _ ?_
        clear hK32
        have g1' : Split N w0 x2 J1 := by rw [hx2]; exact g1
        refine reg ?_
        refine sq rfl (do_move (tm rfl c35_16)) ?_
        refine sq rfl (do_inc (tm rfl hit) ck (by omega)) ?_
        refine sq rfl (do_assign (tm rfl hit)) ?_
        refine wnil ?_
        refine hnn (n - (v + 1)) _ _ (by omega) ⟨v + 1, J1, ws.set (v / 64) (z ||| 2 ^ (v % 64)), rfl, by omega, (nx rfl (nx rfl (nx rfl c35_0))), (nx rfl (nx rfl (nx rfl c35_1))), (nx rfl (nx rfl (nx rfl c35_2))), (nx rfl (nx rfl (nx rfl c35_3))), (nx rfl (nx rfl (nx rfl c35_9))), (nx rfl (nx rfl (nx rfl c35_10))), (nx rfl (nx rfl (nx rfl c35_11))), (nx rfl (nx rfl (nx rfl c35_13))), (nx rfl (nx rfl (nx rfl c35_15))), hit, g1', kG.trans j1, ?_, by simp [hwl2], ?_, ?_⟩
        · rw [show u64s (ws.set (v / 64) (z ||| 2 ^ (v % 64))) = (u64s ws).set (v / 64) (.int .u64 ((z ||| 2 ^ (v % 64) : Nat) : Int)) by simp [u64s, List.map_set]]
          exact hW1
        · intro y hy
          rcases List.mem_or_eq_of_mem_set hy with h1 | h1
          · exact hbits.1 y h1
          · rw [h1]; exact Nat.or_lt_two_pow hz64 (pow_lt64 hmod)
        · intro u hu
          by_cases huw : v / 64 = u / 64
          · refine ⟨z ||| 2 ^ (v % 64), by rw [← huw]; exact List.getElem?_set_self hlt, ?_⟩
            obtain ⟨z', hz', hzb'⟩ := hbits.2 u hu
            rw [← huw, hz] at hz'
            injection hz' with hz'
            subst hz'
            rw [Nat.testBit_or, hzb', Nat.testBit_two_pow]
            by_cases huv : u = v
            · subst huv
              show ((decide (u < u) && pn.getD u false) || decide (u % 64 = u % 64)) = (decide (u < u + 1) && pn.getD u false)
              rw [hgd, hb]; simp
            · have hne : ¬ v % 64 = u % 64 := by omega
              have h3 : decide (u < v + 1) = decide (u < v) := by
                apply decide_eq_decide.2
                omega
              show ((decide (u < v) && pn.getD u false) || decide (v % 64 = u % 64)) = (decide (u < v + 1) && pn.getD u false)
              rw [h3]; simp [hne]
          · rw [List.getElem?_set_ne huw]
            obtain ⟨z', hz', hzb'⟩ := hbits.2 u hu
            refine ⟨z', hz', ?_⟩
            rw [hzb']
            have h3 : decide (u < v + 1) = decide (u < v) := by
              apply decide_eq_decide.2
              constructor
              · intro h4
                rcases Nat.lt_or_ge u v with h5 | h5
                · exact h5
                · exact absurd (by rw [show u = v by omega]) huw
              · intro h4; omega
            show (decide (u < v) && pn.getD u false) = (decide (u < v + 1) && pn.getD u false)
            rw [h3]
      · have hbf : pn[v]'(by omega) = false := by simpa using hb
        refine cF rfl c34_64 hbf ?_
        refine wp_skip ?_
        refine inBN ?_
        refine hK32 _ _ ?_
        clear hK32
        refine reg ?_
        refine sq rfl (do_move (tm rfl c34_16)) ?_
        refine sq rfl (do_inc (tm rfl hit) ck (by omega)) ?_
        refine sq rfl (do_assign (tm rfl hit)) ?_
        refine wnil ?_
        refine hnn (n - (v + 1)) _ _ (by omega) ⟨v + 1, G, ws, rfl, by omega, (nx rfl (nx rfl (nx rfl c34_0))), (nx rfl (nx rfl (nx rfl c34_1))), (nx rfl (nx rfl (nx rfl c34_2))), (nx rfl (nx rfl (nx rfl c34_3))), (nx rfl (nx rfl (nx rfl c34_9))), (nx rfl (nx rfl (nx rfl c34_10))), (nx rfl (nx rfl (nx rfl c34_11))), (nx rfl (nx rfl (nx rfl c34_13))), (nx rfl (nx rfl (nx rfl c34_15))), hit, hsG, kG, hW, hwl2, hbits.1, fun u hu => ?_⟩
        obtain ⟨z', hz', hzb'⟩ := hbits.2 u hu
        refine ⟨z', hz', ?_⟩
        rw [hzb']
        by_cases huv : u = v
        · subst huv
          show (decide (u < u) && pn.getD u false) = (decide (u < u + 1) && pn.getD u false)
          rw [hgd, hbf]; simp
        · have h3 : decide (u < v + 1) = decide (u < v) := by
            apply decide_eq_decide.2
            omega
          show (decide (u < v) && pn.getD u false) = (decide (u < v + 1) && pn.getD u false)
          rw [h3]
    · refine cF rfl hit (by simpa using h) ?_
      refine wp_exit ?_
      refine thenE ?_
      refine hx _ _ ⟨G, ws, (nx rfl (nx rfl (nx rfl t0))), (nx rfl (nx rfl (nx rfl t1))), (nx rfl (nx rfl (nx rfl t2))), (nx rfl (nx rfl (nx rfl t3))), (nx rfl (nx rfl (nx rfl t9))), (nx rfl (nx rfl (nx rfl t10))), (nx rfl (nx rfl (nx rfl t11))), (nx rfl (nx rfl (nx rfl t13))), (nx rfl (nx rfl (nx rfl t15))), hsG, kG, hW, hwl2, hbits.1, fun u hu => ?_⟩
      obtain ⟨z', hz', hzb'⟩ := hbits.2 u hu
      refine ⟨z', hz', ?_⟩
      rw [hzb']
      have : u < v := by omega
      simp [this]
  clear t0 t1 t2 t3 t9 t10 t11 t13 hs2 hW1
  rintro τ wi ⟨G, ws, t0, t1, t2, t3, t9, t10, t11, t13, t15, hsG, kG, hW, hwl2, hbits⟩
  refine hK28 _ _ ?_
  clear hK28
  obtain ⟨G5, k5, g5, hSb⟩ := blkN hsG 40 72 #[.pointer (some ⟨pb, 0, none⟩), .slice none 0 0, .slice (some ⟨bSo, 0, none⟩) k k, .slice none 0 0, .slice (some ⟨bLo, 0, none⟩) n n, .slice (some ⟨bNo, 0, none⟩) n n, .slice ita its.length itc, .slice (some ⟨bW, 0, none⟩) ((n + 63) / 64) ((n + 63) / 64), .slice none 0 0, .slice none 0 0, .slice none 0 0, .pointer none, .int .i64 1073741824, .bool false, .slice none 0 0, .slice none 0 0, .slice none 0 0]
  refine wp_seq_k (fun K36 hK36 => ?_)
  refine reg ?_
  refine sq rfl (do_move (tm rfl t0)) ?_
  refine sq rfl (do_move (tm rfl (nx rfl t10))) ?_
  refine sq rfl (do_move (tm rfl (nx rfl (nx rfl t13)))) ?_
  refine sq rfl (do_move (tm rfl (nx rfl (nx rfl (nx rfl t3))))) ?_
  refine sq rfl (do_move (tm rfl (nx rfl (nx rfl (nx rfl (nx rfl t11)))))) ?_
  refine sq rfl (do_move (tm rfl (nx rfl (nx rfl (nx rfl (nx rfl (nx rfl t15))))))) ?_
  refine sq rfl (do_call (run_callF Try.func36 nm36 bd36 (map7 (tm rfl (nx rfl (nx rfl (nx rfl (nx rfl (nx rfl hit)))))) (tm rfl (nx rfl (nx rfl (nx rfl (nx rfl hit))))) (tm rfl (nx rfl (nx rfl (nx rfl hit)))) (tm rfl (nx rfl (nx rfl hit))) (tm rfl (nx rfl hit)) (tm rfl hit) rfl) rfl) (search36 wi _ _ _ _ _ _ _ _ _ _ _ _ _ _ _ _ _)) ?_
  refine sq rfl (do_assign (tm rfl hit)) ?_
  refine cutL ?_
  intro τ37 e37
  have c37_0 := (congrFun e37 0).trans (nx rfl (nx rfl (nx rfl (nx rfl (nx rfl (nx rfl (nx rfl (nx rfl t0))))))))
  have c37_1 := (congrFun e37 1).trans (nx rfl (nx rfl (nx rfl (nx rfl (nx rfl (nx rfl (nx rfl (nx rfl t1))))))))
  have c37_2 := (congrFun e37 2).trans (nx rfl (nx rfl (nx rfl (nx rfl (nx rfl (nx rfl (nx rfl (nx rfl t2))))))))
  have c37_3 := (congrFun e37 3).trans (nx rfl (nx rfl (nx rfl (nx rfl (nx rfl (nx rfl (nx rfl (nx rfl t3))))))))
  have c37_8 := (congrFun e37 8).trans hit
  have c37_9 := (congrFun e37 9).trans (nx rfl (nx rfl (nx rfl (nx rfl (nx rfl (nx rfl (nx rfl (nx rfl t9))))))))
  have c37_10 := (congrFun e37 10).trans (nx rfl (nx rfl (nx rfl (nx rfl (nx rfl (nx rfl (nx rfl (nx rfl t10))))))))
  have c37_11 := (congrFun e37 11).trans (nx rfl (nx rfl (nx rfl (nx rfl (nx rfl (nx rfl (nx rfl (nx rfl t11))))))))
  have c37_13 := (congrFun e37 13).trans (nx rfl (nx rfl (nx rfl (nx rfl (nx rfl (nx rfl (nx rfl (nx rfl t13))))))))
  have c37_15 := (congrFun e37 15).trans (nx rfl (nx rfl (nx rfl (nx rfl (nx rfl (nx rfl (nx rfl (nx rfl t15))))))))
  clear e37
  refine wnil ?_
  refine hK36 _ _ ?_
  clear hK36
  refine wp_ret ?_
  rw [← hQ]
  have kT : Same [28, 40, 54, 55, 56, 57, 58] H G5 := kk2.trans ((kG.mono (by decide)).trans (k5.mono (by decide)))
  exact ret1 rfl rfl c37_8 ⟨wi.heap.size, bNo, bLo, bW, ita, itc, its, ws, G5, rfl, g5, kT, hSb, k5.vb (t := 54) (by decide) (kG.vb (t := 54) (by decide) hN2), k5.vb (t := 55) (by decide) (kG.vb (t := 55) (by decide) hL2), by rw [k5 56 (by decide), kG 56 (by decide)]; exact hR2, hip, hil, k5.vb (t := 57) (by decide) hW, hwl2, hbits⟩
end Go.Proofs.Qxb6001364a
