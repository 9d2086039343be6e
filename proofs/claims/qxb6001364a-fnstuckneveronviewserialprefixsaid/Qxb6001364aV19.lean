/-
  stuck.
-/
import Derived.Test.Qxb6001364aV19h
namespace Go.Proofs.Qxb6001364a
open Go.Fra Go.RowKit Pl
set_option maxRecDepth 100000
set_option linter.unusedVariables false
def SCs (pb bSo bLo bNo bW k n m itl itc : Nat) (ita : Option Addr) (l : Int) (gS gP : Value) : List Value := [.pointer (some ⟨pb, 0, none⟩), .slice none 0 0, .slice (some ⟨bSo, 0, none⟩) k k, .slice none 0 0, .slice (some ⟨bLo, 0, none⟩) n n, .slice (some ⟨bNo, 0, none⟩) n n, .slice ita itl itc, .slice (some ⟨bW, 0, none⟩) m m, .slice none 0 0, .slice none 0 0, .slice none 0 0, .pointer none, .int .i64 l, .bool false, gS, gP, .slice none 0 0]
def I4 (N : Nat) (w0 : World) (H : Nat → Part) (sb bv size n : Nat) (sc : Value → Value → List Value) (L : Nat → Bool) (τ : Nat → Value) (w' : World) : Prop :=
  ∃ (G : Nat → Part) (gS gP : Value), Split N w0 w' G ∧ Same [40, 61, 63] H G ∧ VB (G 64) bv 45 [.pointer (some ⟨sb, 0, none⟩)] ∧ VB (G 40) sb 72 (sc gS gP) ∧ τ 1 = .pointer (some ⟨bv, 0, none⟩) ∧ τ 3 = .int .i64 (n : Int) ∧ τ 4 = .int .i64 (size : Int) ∧
    (L 0 = true → τ 47 = .pointer (some ⟨sb, 0, none⟩)) ∧
    (L 1 = true → τ 48 = .pointer (some ⟨sb, 0, none⟩)) ∧
    (L 2 = true → τ 49 = .int .i64 (size : Int)) ∧
    (L 3 = true → ∃ b, τ 50 = .slice (some ⟨b, 0, none⟩) size size ∧ VB (G 61) b 22 (List.replicate size (.slice none 0 0))) ∧
    (L 4 = true → τ 51 = .int .i64 (size : Int)) ∧
    (L 5 = true → ∃ b, τ 52 = .slice (some ⟨b, 0, none⟩) size size ∧ VB (G 63) b 3 (ints (List.replicate size 0))) ∧
    (L 6 = true → τ 53 = .pointer (some ⟨sb, 0, none⟩)) ∧
    (L 7 = true → τ 54 = .pointer (some ⟨sb, 14, none⟩)) ∧
    (L 8 = true → L 3 = true ∧ gS = τ 50) ∧
    (L 9 = true → τ 55 = .pointer (some ⟨sb, 0, none⟩)) ∧
    (L 10 = true → τ 56 = .pointer (some ⟨sb, 15, none⟩)) ∧
    (L 11 = true → L 5 = true ∧ gP = τ 52)
def I5 (N : Nat) (w0 : World) (H : Nat → Part) (sb bv size n : Nat) (scs : List Value) (gS gP : Value) (L : Nat → Bool) (τ : Nat → Value) (w' : World) : Prop :=
  ∃ (G : Nat → Part), Split N w0 w' G ∧ Same [60, 62] H G ∧ VB (G 64) bv 45 [.pointer (some ⟨sb, 0, none⟩)] ∧ VB (G 40) sb 72 scs ∧ τ 1 = .pointer (some ⟨bv, 0, none⟩) ∧ τ 3 = .int .i64 (n : Int) ∧ τ 4 = .int .i64 (size : Int) ∧
    (L 0 = true → τ 57 = .pointer (some ⟨sb, 0, none⟩)) ∧
    (L 1 = true → τ 58 = .pointer (some ⟨sb, 0, none⟩)) ∧
    (L 2 = true → τ 59 = .pointer (some ⟨sb, 14, none⟩)) ∧
    (L 3 = true → τ 60 = gS) ∧
    (L 4 = true → τ 61 = .int .i64 (size : Int)) ∧
    (L 5 = true → τ 62 = gS) ∧
    (L 6 = true → τ 63 = .pointer (some ⟨sb, 0, none⟩)) ∧
    (L 7 = true → τ 64 = .pointer (some ⟨sb, 0, none⟩)) ∧
    (L 8 = true → τ 65 = .pointer (some ⟨sb, 15, none⟩)) ∧
    (L 9 = true → τ 66 = gP) ∧
    (L 10 = true → τ 67 = .int .i64 (size : Int)) ∧
    (L 11 = true → τ 68 = gP) ∧
    (L 12 = true → ∃ b x, τ 5 = .pointer (some ⟨b, 0, none⟩) ∧ VB (G 60) b 37 [x] ∧ (L 14 = true → x = gS)) ∧
    (L 13 = true → ∃ b x, τ 6 = .pointer (some ⟨b, 0, none⟩) ∧ VB (G 62) b 22 [x] ∧ (L 15 = true → x = gP)) ∧
    (L 14 = true → L 12 = true) ∧
    (L 15 = true → L 13 = true)
theorem do_sliceNil {P : Program} {ρ : Operand → Value} {w : World} {dst : Option Tmp} {ty : TypeId} {pos : String} {aft : Array Edge} {g : Option (Nat × Bool)} {t e : TypeId} {x y : Operand} {zt : Value} {s1 b1 : Nat} {d : TypeDesc} {z : Value} {sz by_ : Nat} (T : TyI P t (.slice e) zt s1 b1) (TE : TyI P e d z sz by_)
    (hx : ρ x = .slice none 0 0) (hy : ρ y = .int .i64 0) : Does P ⟨dst, .slice t x none (some y) none, ty, pos, aft, g⟩ ρ w (.slice none 0 0) w := by
  refine .inl ?_
  have hs := TE.run_size w
  simp [execOp, hx, hy, Instr.sliceAt, Instr.slice, Instr.sliceBounds, Instr.sliceBound, asIntOf, underlying, T.u, hs]
/-- What is made for the graph. -/
def Made (G : Nat → Part) (size : Nat) (gS gP : Value) : Prop :=
  (size = 0 ∧ gS = .slice none 0 0 ∧ gP = .slice none 0 0) ∨ ∃ bS bP, gS = .slice (some ⟨bS, 0, none⟩) size size ∧ gP = .slice (some ⟨bP, 0, none⟩) size size ∧ VB (G 61) bS 22 (List.replicate size (.slice none 0 0)) ∧ VB (G 63) bP 3 (ints (List.replicate size 0))
theorem remC_rep (n : Nat) (b : Int) : ∀ i, remC (List.replicate n []) [] b i = 0
  | 0 => rfl
  | i + 1 => by
    simp only [remC, remC_rep n b i]
    have : (List.replicate n ([] : List Int)).getD i [] = [] := by
      simp only [List.getD_eq_getElem?_getD, List.getElem?_replicate]
      split <;> rfl
    rw [this]; simp
theorem pigI {q : List Int} {n : Nat} (hq : q.Nodup) (h : ∀ z ∈ q, ∃ b : Nat, z = (b : Int) ∧ b < n) : q.length ≤ n := by
  have h1 : (q.map Int.toNat).Nodup := by
    induction q with
    | nil => simp
    | cons z q ih =>
      rw [List.map_cons, List.nodup_cons]
      obtain ⟨h1, h2⟩ := List.nodup_cons.1 hq
      refine ⟨fun hm => ?_, ih h2 (fun z hz => h z (List.mem_cons_of_mem _ hz))⟩
      obtain ⟨y, hy, hye⟩ := List.mem_map.1 hm
      obtain ⟨a, ha, _⟩ := h z (List.mem_cons_self ..)
      obtain ⟨b, hb, _⟩ := h y (List.mem_cons_of_mem _ hy)
      have : y = z := by omega
      exact h1 (this ▸ hy)
  have h2 := pig n _ h1 (fun x hx => by
    obtain ⟨z, hz, rfl⟩ := List.mem_map.1 hx
    obtain ⟨b, rfl, hb⟩ := h z hz
    simpa using hb)
  simpa using h2
set_option maxHeartbeats 10000000 in
theorem stuck37 {N : Nat} {w0 w : World} {H : Nat → Part} (hs : Split N w0 w H) (pb sb n k M m bSo bLo bNo bW itc wsc dc nxc sc0 : Nat) (ita wsa da nxa sa : Option Addr) (pcs : List Value) (its so next : List Int) (ws : List Nat) (pl : Nat → Bool) (R : Nat → Nat) (writers readers succ : List (List Int))
    (hp : VB (H 1) pb 58 pcs) (hp2 : pcs[2]? = some (.slice wsa k wsc)) (hp4 : pcs[4]? = some (.slice da M dc)) (hp5 : pcs[5]? = some (.slice nxa M nxc)) (hp6 : pcs[6]? = some (.slice sa n sc0))
    (hWr : TabV (H 4) 22 3 1 encI (.slice wsa k wsc) writers) (hRd : TabV (H 6) 22 3 1 encI (.slice da M dc) readers) (hNx : RowV (H 7) 3 1 (.slice nxa M nxc) next.length (next.flatMap encI)) (hSu : TabV (H 8) 22 3 1 encI (.slice sa n sc0) succ)
    (hsb : VB (H 40) sb 72 ((SCs pb bSo bLo bNo bW k n m its.length itc ita 1073741824) (.slice none 0 0) (.slice none 0 0))) (hSo : VB (H 50) bSo 3 (ints so)) (hNo : VB (H 54) bNo 3 (ints (rng n))) (hLo : VB (H 55) bLo 3 (ints (rng n))) (hIt : RowV (H 56) 3 1 (.slice ita its.length itc) its.length (its.flatMap encI)) (hBw : VB (H 57) bW 65 (u64s ws))
    (hwl : ws.length = m) (hbits : Bits ws n pl) (hsol : so.length = k) (hwrl : writers.length = k) (hrdl : readers.length = M) (hnxl : next.length = M) (hsul : succ.length = n)
    (hn : n ≤ 65536) (hk : k ≤ 65536) (hil : its.length ≤ k) (hs1 : sumLen succ ≤ 10000000000) (hs2 : sumLen readers ≤ 65536) (hs3 : ∀ r ∈ writers, r.length ≤ 65536)
    (hA : ∀ v (h : v < succ.length), pl v = false → ∀ u ∈ succ[v], ∃ u' : Nat, u = (u' : Int) ∧ u' < n ∧ (pl u' = false → R v < R u'))
    (hB : ∀ j (h : j < its.length), ∃ x : Nat, its[j] = (x : Int) ∧ x < k ∧ ∃ s : Int, so[x]? = some s ∧ (s < 0 ∨ ∃ i : Nat, s = (i : Int) ∧ i < M ∧ (∀ r ∈ readers.getD i [], ∃ r' : Nat, r = (r' : Int) ∧ r' < n ∧ (pl r' = false → R r' < R (n + j))) ∧ (∀ y ∈ writers.getD x [], ∃ y' : Nat, y = (y' : Int) ∧ y' < n ∧ (pl y' = false → next[i]? ≠ some (y' : Int) → R (n + j) < R y')))) :
    Calls Try.prog 37 #[.pointer (some ⟨sb, 0, none⟩)] w fun e w' => e = .returned (.bool false) ∧ ∃ G', Split N w0 w' G' := by
  refine enter (args := [.pointer (some ⟨sb, 0, none⟩)]) Try.func37 rfl Try.ntmps37 rfl ?_
  generalize hQ : bodyPost Try.prog Try.f37 _ = Q
  have s0 : frame0 [Value.pointer (some ⟨sb, 0, none⟩)] 0 = .pointer (some ⟨sb, 0, none⟩) := rfl
  generalize frame0 [Value.pointer (some ⟨sb, 0, none⟩)] = σ at *
  have hset14 : ∀ gS gP x, ((SCs pb bSo bLo bNo bW k n m its.length itc ita 1073741824) gS gP).set 14 x = (SCs pb bSo bLo bNo bW k n m its.length itc ita 1073741824) x gP := fun _ _ _ => rfl
  have hset15 : ∀ gS gP x, ((SCs pb bSo bLo bNo bW k n m its.length itc ita 1073741824) gS gP).set 15 x = (SCs pb bSo bLo bNo bW k n m its.length itc ita 1073741824) gS x := fun _ _ _ => rfl
  have hg14 : ∀ gS gP, ((SCs pb bSo bLo bNo bW k n m its.length itc ita 1073741824) gS gP)[14]? = some gS := fun _ _ => rfl
  have hg15 : ∀ gS gP, ((SCs pb bSo bLo bNo bW k n m its.length itc ita 1073741824) gS gP)[15]? = some gP := fun _ _ => rfl
  refine wp_seq_k (fun K1 hK1 => ?_)
  refine reg ?_
  refine sq rfl (do_box (tm rfl s0)) ?_
  refine sq rfl (do_assign ck) ?_
  refine cutW ?_
  intro τ2 e2 xa hxa
  have c2_1 := (congrFun e2 1).trans (nx rfl hit)
  have c2_2 := (congrFun e2 2).trans hit
  clear e2
  refine wnil ?_
  refine hK1 _ _ ?_
  clear hK1
  obtain ⟨H1, k1, hraw, hv⟩ := var0 hs 64 45 (.pointer (some ⟨sb, 0, none⟩))
  have hsA : Split N w0 xa H1 := by rw [hxa]; exact hraw
  clear hxa hraw
  generalize w.heap.size = bv at *
  have hsb1 := k1.vb (t := 40) (by decide) hsb
  refine wp_seq_k (fun K3 hK3 => ?_)
  refine reg ?_
  refine sq rfl (do_load T45 rfl (tm rfl c2_1) (hv.cell hsA (i := 0) rfl)) ?_
  refine sq rfl (do_nilCheck (tm rfl hit)) ?_
  refine sq rfl (fa72_5 (tm rfl hit)) ?_
  refine sq rfl (do_load T22 rfl (tm rfl hit) (hsb1.cell hsA (i := 5) rfl)) ?_
  refine sq rfl (do_len Try.underlying22 (tm rfl hit)) ?_
  refine sq rfl (do_assign (tm rfl hit)) ?_
  refine cutL ?_
  intro τ4 e4
  have c4_1 := (congrFun e4 1).trans (nx rfl (nx rfl (nx rfl (nx rfl (nx rfl (nx rfl c2_1))))))
  have c4_2 := (congrFun e4 2).trans (nx rfl (nx rfl (nx rfl (nx rfl (nx rfl (nx rfl c2_2))))))
  have c4_3 := (congrFun e4 3).trans hit
  clear e4
  refine wnil ?_
  refine hK3 _ _ ?_
  clear hK3
  generalize hsize : n + its.length = size at *
  refine wp_seq_k (fun K5 hK5 => ?_)
  refine reg ?_
  refine sq rfl (do_move (tm rfl c4_3)) ?_
  refine sq rfl (do_load T45 rfl (tm rfl (nx rfl c4_1)) (hv.cell hsA (i := 0) rfl)) ?_
  refine sq rfl (do_nilCheck (tm rfl hit)) ?_
  refine sq rfl (fa72_6 (tm rfl hit)) ?_
  refine sq rfl (do_load T22 rfl (tm rfl hit) (hsb1.cell hsA (i := 6) rfl)) ?_
  refine sq rfl (do_len Try.underlying22 (tm rfl hit)) ?_
  refine sq rfl (do_addN (tm rfl (nx rfl (nx rfl (nx rfl (nx rfl (nx rfl hit)))))) (tm rfl hit) hsize (by omega)) ?_
  refine sq rfl (do_assign (tm rfl hit)) ?_
  refine cutL ?_
  intro τ6 e6
  have c6_1 := (congrFun e6 1).trans (nx rfl (nx rfl (nx rfl (nx rfl (nx rfl (nx rfl (nx rfl (nx rfl c4_1))))))))
  have c6_2 := (congrFun e6 2).trans (nx rfl (nx rfl (nx rfl (nx rfl (nx rfl (nx rfl (nx rfl (nx rfl c4_2))))))))
  have c6_3 := (congrFun e6 3).trans (nx rfl (nx rfl (nx rfl (nx rfl (nx rfl (nx rfl (nx rfl (nx rfl c4_3))))))))
  have c6_4 := (congrFun e6 4).trans hit
  clear e6
  refine wnil ?_
  refine hK5 _ _ ?_
  clear hK5
  refine seqJ (N := 304) (fun τ wi => ∃ (G : Nat → Part) (gS gP : Value), τ 1 = .pointer (some ⟨bv, 0, none⟩) ∧ τ 3 = .int .i64 (n : Int) ∧ τ 4 = .int .i64 (size : Int) ∧ Split N w0 wi G ∧ Same [40, 61, 63] H1 G ∧ VB (G 64) bv 45 [.pointer (some ⟨sb, 0, none⟩)] ∧ VB (G 40) sb 72 ((SCs pb bSo bLo bNo bW k n m its.length itc ita 1073741824) gS gP) ∧ Made G size gS gP) ?_ ?_
  · intro QJ hJ hE'
    refine wp_seq_k (fun K7 hK7 => ?_)
    refine reg ?_
    refine sq rfl (do_load T45 rfl (tm rfl c6_1) (hv.cell hsA (i := 0) rfl)) ?_
    refine sq rfl (do_nilCheck (tm rfl hit)) ?_
    refine sq rfl (fa72_14 (tm rfl hit)) ?_
    refine sq rfl (do_load T37 rfl (tm rfl hit) (hsb1.cell hsA (i := 14) rfl)) ?_
    refine sq rfl (do_len Try.underlying37 (tm rfl hit)) ?_
    refine sq rfl (do_move (tm rfl (nx rfl (nx rfl (nx rfl (nx rfl (nx rfl c6_4))))))) ?_
    refine sq rfl (do_lss (tm rfl (nx rfl hit)) (tm rfl hit)) ?_
    refine cutL ?_
    intro τ8 e8
    have c8_1 := (congrFun e8 1).trans (nx rfl (nx rfl (nx rfl (nx rfl (nx rfl (nx rfl (nx rfl c6_1)))))))
    have c8_2 := (congrFun e8 2).trans (nx rfl (nx rfl (nx rfl (nx rfl (nx rfl (nx rfl (nx rfl c6_2)))))))
    have c8_3 := (congrFun e8 3).trans (nx rfl (nx rfl (nx rfl (nx rfl (nx rfl (nx rfl (nx rfl c6_3)))))))
    have c8_4 := (congrFun e8 4).trans (nx rfl (nx rfl (nx rfl (nx rfl (nx rfl (nx rfl (nx rfl c6_4)))))))
    have c8_46 := (congrFun e8 46).trans hit
    clear e8
    refine wnil ?_
    refine hK7 _ _ ?_
    clear hK7
    by_cases hz : size = 0
    · refine cF rfl c8_46 (by simp; omega) ?_
      refine wp_skip ?_
      exact hJ _ _ ⟨H1, _, _, c8_1, c8_3, c8_4, hsA, Same.refl _ _, hv, hsb1, .inl ⟨hz, rfl, rfl⟩⟩
    · refine cT rfl c8_46 (by simp; omega) ?_
      refine drawN mixed (I4 N w0 H1 sb bv size n (SCs pb bSo bLo bNo bW k n m its.length itc ita 1073741824)) (by kernel_rfl) ?_ ?_ ?_
      · refine ⟨H1, _, _, hsA.drew, Same.refl _ _, hv, hsb1, c8_1, c8_3, c8_4, ?_⟩
        refine ⟨?_, ?_, ?_, ?_, ?_, ?_, ?_, ?_, ?_, ?_, ?_, ?_⟩ <;> exact fun h => by cases h
      · intro i L τ w' o ho hi0 hI he
        obtain ⟨G, gS, gP, hsG, kG, hv, hsb, f1, f3, f4, p0, p1, p2, p3, p4, p5, p6, p7, p8, p9, p10, p11⟩ := hI
        match i, ho, hi0, he with
        | 0, ho, hi0, he =>
          cases ho
          exact ⟨_, _, do_load T45 rfl (tm rfl f1) (hv.cell hsG (i := 0) rfl), G, gS, gP, hsG, kG, hv, hsb, nx rfl f1, nx rfl f3, nx rfl f4, (fun _ => hit), (fun h => nx rfl (p1 h)), (fun h => nx rfl (p2 h)), (fun h => (p3 h).elim fun b x => ⟨b, nx rfl x.1, x.2⟩), (fun h => nx rfl (p4 h)), (fun h => (p5 h).elim fun b x => ⟨b, nx rfl x.1, x.2⟩), (fun h => nx rfl (p6 h)), (fun h => nx rfl (p7 h)), (fun h => ⟨(p8 h).1, (p8 h).2.trans (nx rfl rfl).symm⟩), (fun h => nx rfl (p9 h)), (fun h => nx rfl (p10 h)), (fun h => ⟨(p11 h).1, (p11 h).2.trans (nx rfl rfl).symm⟩)⟩
        | 1, ho, hi0, he =>
          cases ho
          exact ⟨_, _, do_load T45 rfl (tm rfl f1) (hv.cell hsG (i := 0) rfl), G, gS, gP, hsG, kG, hv, hsb, nx rfl f1, nx rfl f3, nx rfl f4, (fun h => nx rfl (p0 h)), (fun _ => hit), (fun h => nx rfl (p2 h)), (fun h => (p3 h).elim fun b x => ⟨b, nx rfl x.1, x.2⟩), (fun h => nx rfl (p4 h)), (fun h => (p5 h).elim fun b x => ⟨b, nx rfl x.1, x.2⟩), (fun h => nx rfl (p6 h)), (fun h => nx rfl (p7 h)), (fun h => ⟨(p8 h).1, (p8 h).2.trans (nx rfl rfl).symm⟩), (fun h => nx rfl (p9 h)), (fun h => nx rfl (p10 h)), (fun h => ⟨(p11 h).1, (p11 h).2.trans (nx rfl rfl).symm⟩)⟩
        | 2, ho, hi0, he =>
          cases ho
          exact ⟨_, _, do_move (tm rfl f4), G, gS, gP, hsG, kG, hv, hsb, nx rfl f1, nx rfl f3, nx rfl f4, (fun h => nx rfl (p0 h)), (fun h => nx rfl (p1 h)), (fun _ => hit), (fun h => (p3 h).elim fun b x => ⟨b, nx rfl x.1, x.2⟩), (fun h => nx rfl (p4 h)), (fun h => (p5 h).elim fun b x => ⟨b, nx rfl x.1, x.2⟩), (fun h => nx rfl (p6 h)), (fun h => nx rfl (p7 h)), (fun h => ⟨(p8 h).1, (p8 h).2.trans (nx rfl rfl).symm⟩), (fun h => nx rfl (p9 h)), (fun h => nx rfl (p10 h)), (fun h => ⟨(p11 h).1, (p11 h).2.trans (nx rfl rfl).symm⟩)⟩
        | 3, ho, hi0, he =>
          cases ho
          obtain ⟨G', kk, hs', hb⟩ := blkN hsG 61 22 (madeCells #[.slice none 0 0] size)
          rw [made_list] at hb
          exact ⟨_, _, mk37 (tm rfl (p2 (he ⟨2, .data⟩ (by simp) rfl))) (tm rfl (p2 (he ⟨2, .data⟩ (by simp) rfl))) (by omega), G', gS, gP, hs', kG.trans (kk.mono (by decide)), kk.vb (by decide) hv, kk.vb (by decide) hsb, nx rfl f1, nx rfl f3, nx rfl f4, (fun h => nx rfl (p0 h)), (fun h => nx rfl (p1 h)), (fun h => nx rfl (p2 h)), (fun _ => ⟨_, hit, hb⟩), (fun h => nx rfl (p4 h)), (fun h => (p5 h).elim fun b x => ⟨b, nx rfl x.1, kk.vb (by decide) x.2⟩), (fun h => nx rfl (p6 h)), (fun h => nx rfl (p7 h)), (fun h => absurd (p8 h).1 (by rw [hi0]; decide)), (fun h => nx rfl (p9 h)), (fun h => nx rfl (p10 h)), (fun h => ⟨(p11 h).1, (p11 h).2.trans (nx rfl rfl).symm⟩)⟩
        | 4, ho, hi0, he =>
          cases ho
          exact ⟨_, _, do_move (tm rfl f4), G, gS, gP, hsG, kG, hv, hsb, nx rfl f1, nx rfl f3, nx rfl f4, (fun h => nx rfl (p0 h)), (fun h => nx rfl (p1 h)), (fun h => nx rfl (p2 h)), (fun h => (p3 h).elim fun b x => ⟨b, nx rfl x.1, x.2⟩), (fun _ => hit), (fun h => (p5 h).elim fun b x => ⟨b, nx rfl x.1, x.2⟩), (fun h => nx rfl (p6 h)), (fun h => nx rfl (p7 h)), (fun h => ⟨(p8 h).1, (p8 h).2.trans (nx rfl rfl).symm⟩), (fun h => nx rfl (p9 h)), (fun h => nx rfl (p10 h)), (fun h => ⟨(p11 h).1, (p11 h).2.trans (nx rfl rfl).symm⟩)⟩
        | 5, ho, hi0, he =>
          cases ho
          obtain ⟨G', kk, hs', hb⟩ := blkN hsG 63 3 (madeCells #[.int .i64 0] size)
          rw [made_ints] at hb
          exact ⟨_, _, mk22 (tm rfl (p4 (he ⟨4, .data⟩ (by simp) rfl))) (tm rfl (p4 (he ⟨4, .data⟩ (by simp) rfl))) (by omega), G', gS, gP, hs', kG.trans (kk.mono (by decide)), kk.vb (by decide) hv, kk.vb (by decide) hsb, nx rfl f1, nx rfl f3, nx rfl f4, (fun h => nx rfl (p0 h)), (fun h => nx rfl (p1 h)), (fun h => nx rfl (p2 h)), (fun h => (p3 h).elim fun b x => ⟨b, nx rfl x.1, kk.vb (by decide) x.2⟩), (fun h => nx rfl (p4 h)), (fun _ => ⟨_, hit, hb⟩), (fun h => nx rfl (p6 h)), (fun h => nx rfl (p7 h)), (fun h => ⟨(p8 h).1, (p8 h).2.trans (nx rfl rfl).symm⟩), (fun h => nx rfl (p9 h)), (fun h => nx rfl (p10 h)), (fun h => absurd (p11 h).1 (by rw [hi0]; decide))⟩
        | 6, ho, hi0, he =>
          cases ho
          exact ⟨_, _, do_nilCheck (tm rfl (p0 (he ⟨0, .data⟩ (by simp) rfl))), G, gS, gP, hsG, kG, hv, hsb, nx rfl f1, nx rfl f3, nx rfl f4, (fun h => nx rfl (p0 h)), (fun h => nx rfl (p1 h)), (fun h => nx rfl (p2 h)), (fun h => (p3 h).elim fun b x => ⟨b, nx rfl x.1, x.2⟩), (fun h => nx rfl (p4 h)), (fun h => (p5 h).elim fun b x => ⟨b, nx rfl x.1, x.2⟩), (fun _ => hit), (fun h => nx rfl (p7 h)), (fun h => ⟨(p8 h).1, (p8 h).2.trans (nx rfl rfl).symm⟩), (fun h => nx rfl (p9 h)), (fun h => nx rfl (p10 h)), (fun h => ⟨(p11 h).1, (p11 h).2.trans (nx rfl rfl).symm⟩)⟩
        | 7, ho, hi0, he =>
          cases ho
          exact ⟨_, _, fa72_14 (tm rfl (p6 (he ⟨6, .data⟩ (by simp) rfl))), G, gS, gP, hsG, kG, hv, hsb, nx rfl f1, nx rfl f3, nx rfl f4, (fun h => nx rfl (p0 h)), (fun h => nx rfl (p1 h)), (fun h => nx rfl (p2 h)), (fun h => (p3 h).elim fun b x => ⟨b, nx rfl x.1, x.2⟩), (fun h => nx rfl (p4 h)), (fun h => (p5 h).elim fun b x => ⟨b, nx rfl x.1, x.2⟩), (fun h => nx rfl (p6 h)), (fun _ => hit), (fun h => ⟨(p8 h).1, (p8 h).2.trans (nx rfl rfl).symm⟩), (fun h => nx rfl (p9 h)), (fun h => nx rfl (p10 h)), (fun h => ⟨(p11 h).1, (p11 h).2.trans (nx rfl rfl).symm⟩)⟩
        | 8, ho, hi0, he =>
          cases ho
          obtain ⟨bq, ex, evb⟩ := p3 (he ⟨3, .data⟩ (by simp) rfl)
          obtain ⟨G', kk, hs', hb⟩ := hsb.put hsG 14 (τ 50)
          rw [hset14] at hb
          exact ⟨undef, _, do_store T37 (tm rfl (p7 (he ⟨7, .data⟩ (by simp) rfl))) (tm rfl rfl) (by rw [ex]; rfl) (hsb.cell hsG (hg14 gS gP)) (hsb.frozen hsG 14), G', (τ 50), gP, hs', kG.trans (kk.mono (by decide)), kk.vb (by decide) hv, hb, f1, f3, f4, (p0), (p1), (p2), (fun h => (p3 h).elim fun b x => ⟨b, x.1, kk.vb (by decide) x.2⟩), (p4), (fun h => (p5 h).elim fun b x => ⟨b, x.1, kk.vb (by decide) x.2⟩), (p6), (p7), (fun _ => ⟨he ⟨3, .data⟩ (by simp) rfl, rfl⟩), (p9), (p10), (p11)⟩
        | 9, ho, hi0, he =>
          cases ho
          exact ⟨_, _, do_nilCheck (tm rfl (p1 (he ⟨1, .data⟩ (by simp) rfl))), G, gS, gP, hsG, kG, hv, hsb, nx rfl f1, nx rfl f3, nx rfl f4, (fun h => nx rfl (p0 h)), (fun h => nx rfl (p1 h)), (fun h => nx rfl (p2 h)), (fun h => (p3 h).elim fun b x => ⟨b, nx rfl x.1, x.2⟩), (fun h => nx rfl (p4 h)), (fun h => (p5 h).elim fun b x => ⟨b, nx rfl x.1, x.2⟩), (fun h => nx rfl (p6 h)), (fun h => nx rfl (p7 h)), (fun h => ⟨(p8 h).1, (p8 h).2.trans (nx rfl rfl).symm⟩), (fun _ => hit), (fun h => nx rfl (p10 h)), (fun h => ⟨(p11 h).1, (p11 h).2.trans (nx rfl rfl).symm⟩)⟩
        | 10, ho, hi0, he =>
          cases ho
          exact ⟨_, _, fa72_15 (tm rfl (p9 (he ⟨9, .data⟩ (by simp) rfl))), G, gS, gP, hsG, kG, hv, hsb, nx rfl f1, nx rfl f3, nx rfl f4, (fun h => nx rfl (p0 h)), (fun h => nx rfl (p1 h)), (fun h => nx rfl (p2 h)), (fun h => (p3 h).elim fun b x => ⟨b, nx rfl x.1, x.2⟩), (fun h => nx rfl (p4 h)), (fun h => (p5 h).elim fun b x => ⟨b, nx rfl x.1, x.2⟩), (fun h => nx rfl (p6 h)), (fun h => nx rfl (p7 h)), (fun h => ⟨(p8 h).1, (p8 h).2.trans (nx rfl rfl).symm⟩), (fun h => nx rfl (p9 h)), (fun _ => hit), (fun h => ⟨(p11 h).1, (p11 h).2.trans (nx rfl rfl).symm⟩)⟩
        | 11, ho, hi0, he =>
          cases ho
          obtain ⟨bq, ex, evb⟩ := p5 (he ⟨5, .data⟩ (by simp) rfl)
          obtain ⟨G', kk, hs', hb⟩ := hsb.put hsG 15 (τ 52)
          rw [hset15] at hb
          exact ⟨undef, _, do_store T22 (tm rfl (p10 (he ⟨10, .data⟩ (by simp) rfl))) (tm rfl rfl) (by rw [ex]; rfl) (hsb.cell hsG (hg15 gS gP)) (hsb.frozen hsG 15), G', gS, (τ 52), hs', kG.trans (kk.mono (by decide)), kk.vb (by decide) hv, hb, f1, f3, f4, (p0), (p1), (p2), (fun h => (p3 h).elim fun b x => ⟨b, x.1, kk.vb (by decide) x.2⟩), (p4), (fun h => (p5 h).elim fun b x => ⟨b, x.1, kk.vb (by decide) x.2⟩), (p6), (p7), (p8), (p9), (p10), (fun _ => ⟨he ⟨5, .data⟩ (by simp) rfl, rfl⟩)⟩
        | q + 12, ho, hi0, he => simp at ho
      intro L τ w' hall hI
      obtain ⟨G, gS, gP, hsG, kG, hv', hsb', f1, f3, f4, _, _, _, p3, _, p5, _, _, p8, _, _, p11⟩ := hI
      obtain ⟨bS, e1, e2⟩ := p3 (hall 3 (by decide))
      obtain ⟨bP, e3, e4⟩ := p5 (hall 5 (by decide))
      have e5 := (p8 (hall 8 (by decide))).2
      have e6 := (p11 (hall 11 (by decide))).2
      rw [e1] at e5
      rw [e3] at e6
      exact hJ _ _ ⟨G, gS, gP, f1, f3, f4, hsG, kG, hv', hsb', .inr ⟨bS, bP, e5, e6, e2, e4⟩⟩
  clear hsA hv hsb1
  rintro τ wi ⟨H2, gS, gP, t1, t3, t4, hsB, k2, hv, hsb2, hmd⟩
  refine wp_seq_k (fun KA hKA => ?_)
  have hslS : ∀ {w : World} (ρ : Operand → Value) (dst : Option Tmp) (ty : TypeId) (pos : String) (aft : Array Edge) (gg : Option (Nat × Bool)) (x y : Operand), ρ x = gS → ρ y = .int .i64 (size : Int) → Does Try.prog ⟨dst, .slice 37 x none (some y) none, ty, pos, aft, gg⟩ ρ w gS w := by
    intro w ρ dst ty pos aft gg x y h1 h2
    rcases hmd with ⟨hz, e1, e2⟩ | ⟨bS, bP, e1, e2, _⟩
    · rw [e1] at h1 ⊢
      rw [hz] at h2
      exact do_sliceNil T37 T22 h1 h2
    · rw [e1] at h1 ⊢
      exact do_sliceHi T37 T22 h1 h2 (Nat.le_refl _)
  have hslP : ∀ {w : World} (ρ : Operand → Value) (dst : Option Tmp) (ty : TypeId) (pos : String) (aft : Array Edge) (gg : Option (Nat × Bool)) (x y : Operand), ρ x = gP → ρ y = .int .i64 (size : Int) → Does Try.prog ⟨dst, .slice 22 x none (some y) none, ty, pos, aft, gg⟩ ρ w gP w := by
    intro w ρ dst ty pos aft gg x y h1 h2
    rcases hmd with ⟨hz, e1, e2⟩ | ⟨bS, bP, e1, e2, _⟩
    · rw [e2] at h1 ⊢
      rw [hz] at h2
      exact do_sliceNil T22 T3 h1 h2
    · rw [e2] at h1 ⊢
      exact do_sliceHi T22 T3 h1 h2 (Nat.le_refl _)
  have hone1 : gS.oneCell' = true := by rcases hmd with ⟨_, e1, e2⟩ | ⟨bS, bP, e1, e2, _⟩ <;> rw [e1] <;> rfl
  have hone2 : gP.oneCell' = true := by rcases hmd with ⟨_, e1, e2⟩ | ⟨bS, bP, e1, e2, _⟩ <;> rw [e2] <;> rfl
  have hc14 := hg14 gS gP
  have hc15 := hg15 gS gP
  refine drawN mixed (I5 N w0 H2 sb bv size n ((SCs pb bSo bLo bNo bW k n m its.length itc ita 1073741824) gS gP) gS gP) (by kernel_rfl) ?_ ?_ ?_
  · refine ⟨H2, hsB.drew, Same.refl _ _, hv, hsb2, t1, t3, t4, ?_⟩
    refine ⟨?_, ?_, ?_, ?_, ?_, ?_, ?_, ?_, ?_, ?_, ?_, ?_, ?_, ?_, ?_, ?_⟩ <;> exact fun h => by cases h
  · intro i L τ w' o ho hi0 hI he
    obtain ⟨G, hsG, kG, hv, hsb, f1, f3, f4, p0, p1, p2, p3, p4, p5, p6, p7, p8, p9, p10, p11, p12, p13, p14, p15⟩ := hI
    match i, ho, hi0, he with
    | 0, ho, hi0, he =>
      cases ho
      exact ⟨_, _, do_load T45 rfl (tm rfl f1) (hv.cell hsG (i := 0) rfl), G, hsG, kG, hv, hsb, nx rfl f1, nx rfl f3, nx rfl f4, (fun _ => hit), (fun h => nx rfl (p1 h)), (fun h => nx rfl (p2 h)), (fun h => nx rfl (p3 h)), (fun h => nx rfl (p4 h)), (fun h => nx rfl (p5 h)), (fun h => nx rfl (p6 h)), (fun h => nx rfl (p7 h)), (fun h => nx rfl (p8 h)), (fun h => nx rfl (p9 h)), (fun h => nx rfl (p10 h)), (fun h => nx rfl (p11 h)), (fun h => match p12 h with | ⟨b, x, e1, e2, e3⟩ => ⟨b, x, nx rfl e1, e2, e3⟩), (fun h => match p13 h with | ⟨b, x, e1, e2, e3⟩ => ⟨b, x, nx rfl e1, e2, e3⟩), (p14), (p15)⟩
    | 1, ho, hi0, he =>
      cases ho
      exact ⟨_, _, do_nilCheck (tm rfl (p0 (he ⟨0, .data⟩ (by simp) rfl))), G, hsG, kG, hv, hsb, nx rfl f1, nx rfl f3, nx rfl f4, (fun h => nx rfl (p0 h)), (fun _ => hit), (fun h => nx rfl (p2 h)), (fun h => nx rfl (p3 h)), (fun h => nx rfl (p4 h)), (fun h => nx rfl (p5 h)), (fun h => nx rfl (p6 h)), (fun h => nx rfl (p7 h)), (fun h => nx rfl (p8 h)), (fun h => nx rfl (p9 h)), (fun h => nx rfl (p10 h)), (fun h => nx rfl (p11 h)), (fun h => match p12 h with | ⟨b, x, e1, e2, e3⟩ => ⟨b, x, nx rfl e1, e2, e3⟩), (fun h => match p13 h with | ⟨b, x, e1, e2, e3⟩ => ⟨b, x, nx rfl e1, e2, e3⟩), (p14), (p15)⟩
    | 2, ho, hi0, he =>
      cases ho
      exact ⟨_, _, fa72_14 (tm rfl (p1 (he ⟨1, .data⟩ (by simp) rfl))), G, hsG, kG, hv, hsb, nx rfl f1, nx rfl f3, nx rfl f4, (fun h => nx rfl (p0 h)), (fun h => nx rfl (p1 h)), (fun _ => hit), (fun h => nx rfl (p3 h)), (fun h => nx rfl (p4 h)), (fun h => nx rfl (p5 h)), (fun h => nx rfl (p6 h)), (fun h => nx rfl (p7 h)), (fun h => nx rfl (p8 h)), (fun h => nx rfl (p9 h)), (fun h => nx rfl (p10 h)), (fun h => nx rfl (p11 h)), (fun h => match p12 h with | ⟨b, x, e1, e2, e3⟩ => ⟨b, x, nx rfl e1, e2, e3⟩), (fun h => match p13 h with | ⟨b, x, e1, e2, e3⟩ => ⟨b, x, nx rfl e1, e2, e3⟩), (p14), (p15)⟩
    | 3, ho, hi0, he =>
      cases ho
      exact ⟨_, _, do_load T37 rfl (tm rfl (p2 (he ⟨2, .data⟩ (by simp) rfl))) (hsb.cell hsG hc14), G, hsG, kG, hv, hsb, nx rfl f1, nx rfl f3, nx rfl f4, (fun h => nx rfl (p0 h)), (fun h => nx rfl (p1 h)), (fun h => nx rfl (p2 h)), (fun _ => hit), (fun h => nx rfl (p4 h)), (fun h => nx rfl (p5 h)), (fun h => nx rfl (p6 h)), (fun h => nx rfl (p7 h)), (fun h => nx rfl (p8 h)), (fun h => nx rfl (p9 h)), (fun h => nx rfl (p10 h)), (fun h => nx rfl (p11 h)), (fun h => match p12 h with | ⟨b, x, e1, e2, e3⟩ => ⟨b, x, nx rfl e1, e2, e3⟩), (fun h => match p13 h with | ⟨b, x, e1, e2, e3⟩ => ⟨b, x, nx rfl e1, e2, e3⟩), (p14), (p15)⟩
    | 4, ho, hi0, he =>
      cases ho
      exact ⟨_, _, do_move (tm rfl f4), G, hsG, kG, hv, hsb, nx rfl f1, nx rfl f3, nx rfl f4, (fun h => nx rfl (p0 h)), (fun h => nx rfl (p1 h)), (fun h => nx rfl (p2 h)), (fun h => nx rfl (p3 h)), (fun _ => hit), (fun h => nx rfl (p5 h)), (fun h => nx rfl (p6 h)), (fun h => nx rfl (p7 h)), (fun h => nx rfl (p8 h)), (fun h => nx rfl (p9 h)), (fun h => nx rfl (p10 h)), (fun h => nx rfl (p11 h)), (fun h => match p12 h with | ⟨b, x, e1, e2, e3⟩ => ⟨b, x, nx rfl e1, e2, e3⟩), (fun h => match p13 h with | ⟨b, x, e1, e2, e3⟩ => ⟨b, x, nx rfl e1, e2, e3⟩), (p14), (p15)⟩
    | 5, ho, hi0, he =>
      cases ho
      exact ⟨_, _, hslS _ _ _ _ _ _ _ _ (tm rfl (p3 (he ⟨3, .data⟩ (by simp) rfl))) (tm rfl (p4 (he ⟨4, .data⟩ (by simp) rfl))), G, hsG, kG, hv, hsb, nx rfl f1, nx rfl f3, nx rfl f4, (fun h => nx rfl (p0 h)), (fun h => nx rfl (p1 h)), (fun h => nx rfl (p2 h)), (fun h => nx rfl (p3 h)), (fun h => nx rfl (p4 h)), (fun _ => hit), (fun h => nx rfl (p6 h)), (fun h => nx rfl (p7 h)), (fun h => nx rfl (p8 h)), (fun h => nx rfl (p9 h)), (fun h => nx rfl (p10 h)), (fun h => nx rfl (p11 h)), (fun h => match p12 h with | ⟨b, x, e1, e2, e3⟩ => ⟨b, x, nx rfl e1, e2, e3⟩), (fun h => match p13 h with | ⟨b, x, e1, e2, e3⟩ => ⟨b, x, nx rfl e1, e2, e3⟩), (p14), (p15)⟩
    | 6, ho, hi0, he =>
      cases ho
      exact ⟨_, _, do_load T45 rfl (tm rfl f1) (hv.cell hsG (i := 0) rfl), G, hsG, kG, hv, hsb, nx rfl f1, nx rfl f3, nx rfl f4, (fun h => nx rfl (p0 h)), (fun h => nx rfl (p1 h)), (fun h => nx rfl (p2 h)), (fun h => nx rfl (p3 h)), (fun h => nx rfl (p4 h)), (fun h => nx rfl (p5 h)), (fun _ => hit), (fun h => nx rfl (p7 h)), (fun h => nx rfl (p8 h)), (fun h => nx rfl (p9 h)), (fun h => nx rfl (p10 h)), (fun h => nx rfl (p11 h)), (fun h => match p12 h with | ⟨b, x, e1, e2, e3⟩ => ⟨b, x, nx rfl e1, e2, e3⟩), (fun h => match p13 h with | ⟨b, x, e1, e2, e3⟩ => ⟨b, x, nx rfl e1, e2, e3⟩), (p14), (p15)⟩
    | 7, ho, hi0, he =>
      cases ho
      exact ⟨_, _, do_nilCheck (tm rfl (p6 (he ⟨6, .data⟩ (by simp) rfl))), G, hsG, kG, hv, hsb, nx rfl f1, nx rfl f3, nx rfl f4, (fun h => nx rfl (p0 h)), (fun h => nx rfl (p1 h)), (fun h => nx rfl (p2 h)), (fun h => nx rfl (p3 h)), (fun h => nx rfl (p4 h)), (fun h => nx rfl (p5 h)), (fun h => nx rfl (p6 h)), (fun _ => hit), (fun h => nx rfl (p8 h)), (fun h => nx rfl (p9 h)), (fun h => nx rfl (p10 h)), (fun h => nx rfl (p11 h)), (fun h => match p12 h with | ⟨b, x, e1, e2, e3⟩ => ⟨b, x, nx rfl e1, e2, e3⟩), (fun h => match p13 h with | ⟨b, x, e1, e2, e3⟩ => ⟨b, x, nx rfl e1, e2, e3⟩), (p14), (p15)⟩
    | 8, ho, hi0, he =>
      cases ho
      exact ⟨_, _, fa72_15 (tm rfl (p7 (he ⟨7, .data⟩ (by simp) rfl))), G, hsG, kG, hv, hsb, nx rfl f1, nx rfl f3, nx rfl f4, (fun h => nx rfl (p0 h)), (fun h => nx rfl (p1 h)), (fun h => nx rfl (p2 h)), (fun h => nx rfl (p3 h)), (fun h => nx rfl (p4 h)), (fun h => nx rfl (p5 h)), (fun h => nx rfl (p6 h)), (fun h => nx rfl (p7 h)), (fun _ => hit), (fun h => nx rfl (p9 h)), (fun h => nx rfl (p10 h)), (fun h => nx rfl (p11 h)), (fun h => match p12 h with | ⟨b, x, e1, e2, e3⟩ => ⟨b, x, nx rfl e1, e2, e3⟩), (fun h => match p13 h with | ⟨b, x, e1, e2, e3⟩ => ⟨b, x, nx rfl e1, e2, e3⟩), (p14), (p15)⟩
    | 9, ho, hi0, he =>
      cases ho
      exact ⟨_, _, do_load T22 rfl (tm rfl (p8 (he ⟨8, .data⟩ (by simp) rfl))) (hsb.cell hsG hc15), G, hsG, kG, hv, hsb, nx rfl f1, nx rfl f3, nx rfl f4, (fun h => nx rfl (p0 h)), (fun h => nx rfl (p1 h)), (fun h => nx rfl (p2 h)), (fun h => nx rfl (p3 h)), (fun h => nx rfl (p4 h)), (fun h => nx rfl (p5 h)), (fun h => nx rfl (p6 h)), (fun h => nx rfl (p7 h)), (fun h => nx rfl (p8 h)), (fun _ => hit), (fun h => nx rfl (p10 h)), (fun h => nx rfl (p11 h)), (fun h => match p12 h with | ⟨b, x, e1, e2, e3⟩ => ⟨b, x, nx rfl e1, e2, e3⟩), (fun h => match p13 h with | ⟨b, x, e1, e2, e3⟩ => ⟨b, x, nx rfl e1, e2, e3⟩), (p14), (p15)⟩
    | 10, ho, hi0, he =>
      cases ho
      exact ⟨_, _, do_move (tm rfl f4), G, hsG, kG, hv, hsb, nx rfl f1, nx rfl f3, nx rfl f4, (fun h => nx rfl (p0 h)), (fun h => nx rfl (p1 h)), (fun h => nx rfl (p2 h)), (fun h => nx rfl (p3 h)), (fun h => nx rfl (p4 h)), (fun h => nx rfl (p5 h)), (fun h => nx rfl (p6 h)), (fun h => nx rfl (p7 h)), (fun h => nx rfl (p8 h)), (fun h => nx rfl (p9 h)), (fun _ => hit), (fun h => nx rfl (p11 h)), (fun h => match p12 h with | ⟨b, x, e1, e2, e3⟩ => ⟨b, x, nx rfl e1, e2, e3⟩), (fun h => match p13 h with | ⟨b, x, e1, e2, e3⟩ => ⟨b, x, nx rfl e1, e2, e3⟩), (p14), (p15)⟩
    | 11, ho, hi0, he =>
      cases ho
      exact ⟨_, _, hslP _ _ _ _ _ _ _ _ (tm rfl (p9 (he ⟨9, .data⟩ (by simp) rfl))) (tm rfl (p10 (he ⟨10, .data⟩ (by simp) rfl))), G, hsG, kG, hv, hsb, nx rfl f1, nx rfl f3, nx rfl f4, (fun h => nx rfl (p0 h)), (fun h => nx rfl (p1 h)), (fun h => nx rfl (p2 h)), (fun h => nx rfl (p3 h)), (fun h => nx rfl (p4 h)), (fun h => nx rfl (p5 h)), (fun h => nx rfl (p6 h)), (fun h => nx rfl (p7 h)), (fun h => nx rfl (p8 h)), (fun h => nx rfl (p9 h)), (fun h => nx rfl (p10 h)), (fun _ => hit), (fun h => match p12 h with | ⟨b, x, e1, e2, e3⟩ => ⟨b, x, nx rfl e1, e2, e3⟩), (fun h => match p13 h with | ⟨b, x, e1, e2, e3⟩ => ⟨b, x, nx rfl e1, e2, e3⟩), (p14), (p15)⟩
    | 12, ho, hi0, he =>
      cases ho
      obtain ⟨G', kk, hs', hb⟩ := var0 hsG 60 37 (.slice none 0 0)
      exact ⟨_, _, do_alloc T37, G', hs', kG.trans (kk.mono (by decide)), kk.vb (by decide) hv, kk.vb (by decide) hsb, nx rfl f1, nx rfl f3, nx rfl f4, (fun h => nx rfl (p0 h)), (fun h => nx rfl (p1 h)), (fun h => nx rfl (p2 h)), (fun h => nx rfl (p3 h)), (fun h => nx rfl (p4 h)), (fun h => nx rfl (p5 h)), (fun h => nx rfl (p6 h)), (fun h => nx rfl (p7 h)), (fun h => nx rfl (p8 h)), (fun h => nx rfl (p9 h)), (fun h => nx rfl (p10 h)), (fun h => nx rfl (p11 h)), (fun _ => ⟨_, _, hit, hb, fun h => absurd (p14 h) (by rw [hi0]; decide)⟩), (fun h => match p13 h with | ⟨b, x, e1, e2, e3⟩ => ⟨b, x, nx rfl e1, kk.vb (by decide) e2, e3⟩), (fun h => absurd (p14 h) (by rw [hi0]; decide)), (p15)⟩
    | 13, ho, hi0, he =>
      cases ho
      obtain ⟨G', kk, hs', hb⟩ := var0 hsG 62 22 (.slice none 0 0)
      exact ⟨_, _, do_alloc T22, G', hs', kG.trans (kk.mono (by decide)), kk.vb (by decide) hv, kk.vb (by decide) hsb, nx rfl f1, nx rfl f3, nx rfl f4, (fun h => nx rfl (p0 h)), (fun h => nx rfl (p1 h)), (fun h => nx rfl (p2 h)), (fun h => nx rfl (p3 h)), (fun h => nx rfl (p4 h)), (fun h => nx rfl (p5 h)), (fun h => nx rfl (p6 h)), (fun h => nx rfl (p7 h)), (fun h => nx rfl (p8 h)), (fun h => nx rfl (p9 h)), (fun h => nx rfl (p10 h)), (fun h => nx rfl (p11 h)), (fun h => match p12 h with | ⟨b, x, e1, e2, e3⟩ => ⟨b, x, nx rfl e1, kk.vb (by decide) e2, e3⟩), (fun _ => ⟨_, _, hit, hb, fun h => absurd (p15 h) (by rw [hi0]; decide)⟩), (p14), (fun h => absurd (p15 h) (by rw [hi0]; decide))⟩
    | 14, ho, hi0, he =>
      cases ho
      have h12 := he ⟨12, .data⟩ (by simp) rfl
      obtain ⟨b, x, e1, e2, e3⟩ := p12 h12
      obtain ⟨G', kk, hs', hb⟩ := e2.put hsG 0 gS
      exact ⟨undef, _, do_store T37 (tm rfl e1) (tm rfl (p5 (he ⟨5, .data⟩ (by simp) rfl))) hone1 (e2.cell hsG (i := 0) rfl) (e2.frozen hsG 0), G', hs', kG.trans (kk.mono (by decide)), kk.vb (by decide) hv, kk.vb (by decide) hsb, f1, f3, f4, (p0), (p1), (p2), (p3), (p4), (p5), (p6), (p7), (p8), (p9), (p10), (p11), (fun _ => ⟨b, gS, e1, hb, fun _ => rfl⟩), (fun h => match p13 h with | ⟨b, x, e1, e2, e3⟩ => ⟨b, x, e1, kk.vb (by decide) e2, e3⟩), (fun _ => h12), (p15)⟩
    | 15, ho, hi0, he =>
      cases ho
      have h12 := he ⟨13, .data⟩ (by simp) rfl
      obtain ⟨b, x, e1, e2, e3⟩ := p13 h12
      obtain ⟨G', kk, hs', hb⟩ := e2.put hsG 0 gP
      exact ⟨undef, _, do_store T22 (tm rfl e1) (tm rfl (p11 (he ⟨11, .data⟩ (by simp) rfl))) hone2 (e2.cell hsG (i := 0) rfl) (e2.frozen hsG 0), G', hs', kG.trans (kk.mono (by decide)), kk.vb (by decide) hv, kk.vb (by decide) hsb, f1, f3, f4, (p0), (p1), (p2), (p3), (p4), (p5), (p6), (p7), (p8), (p9), (p10), (p11), (fun h => match p12 h with | ⟨b, x, e1, e2, e3⟩ => ⟨b, x, e1, kk.vb (by decide) e2, e3⟩), (fun _ => ⟨b, gP, e1, hb, fun _ => rfl⟩), (p14), (fun _ => h12)⟩
    | q + 16, ho, hi0, he => simp at ho
  intro L τ w' hall hI
  clear t1 t3 t4
  obtain ⟨H3, hs3', k3, hv3, hsb3, t1, t3, t4, _, _, _, _, _, _, _, _, _, _, _, _, p12, p13, _, _⟩ := hI
  obtain ⟨bsv, x1, t5, hsv, ex1⟩ := p12 (hall 12 (by decide))
  obtain ⟨bpv, x2, t6, hpv, ex2⟩ := p13 (hall 13 (by decide))
  have ex1 := ex1 (hall 14 (by decide))
  have ex2 := ex2 (hall 15 (by decide))
  subst ex1
  subst ex2
  refine hKA _ _ ?_
  clear hKA p12 p13 hall hslS hslP
  have hmd3 : Made H3 size x1 x2 := by
    rcases hmd with h | ⟨bS, bP, e1, e2, e3, e4⟩
    · exact .inl h
    · exact .inr ⟨bS, bP, e1, e2, k3.vb (by decide) e3, k3.vb (by decide) e4⟩
  have kk3 : Same [40, 60, 61, 62, 63, 64] H H3 := (k1.mono (by decide)).trans ((k2.mono (by decide)).trans (k3.mono (by decide)))
  clear hmd hsB hv hsb2 k2 k3 k1 hs
  obtain ⟨ga, gc, rfl⟩ : ∃ ga gc, x1 = .slice ga size gc := by
    rcases hmd3 with ⟨hz, e1, e2⟩ | ⟨bS, bP, e1, e2, _⟩
    · exact ⟨none, 0, by rw [e1, hz]⟩
    · exact ⟨_, _, e1⟩
  obtain ⟨pa, pc, rfl⟩ : ∃ pa pc, x2 = .slice pa size pc := by
    rcases hmd3 with ⟨hz, e1, e2⟩ | ⟨bS, bP, e1, e2, _⟩
    · exact ⟨none, 0, by rw [e2, hz]⟩
    · exact ⟨_, _, e2⟩
  refine wp_seq_k (fun K9 hK9 => ?_)
  refine wp_seq_k (fun K10 hK10 => ?_)
  refine reg ?_
  refine sq rfl (do_load T37 rfl (tm rfl t5) (hsv.cell hs3' (i := 0) rfl)) ?_
  refine sq rfl (do_len Try.underlying37 (tm rfl hit)) ?_
  refine sq rfl (do_move (v := .int .i64 ((0 : Nat) : Int)) rfl) ?_
  refine wnil ?_
  refine hK10 _ _ ?_
  clear hK10
  refine forLoop (N := 304) (fun r τ wi => ∃ (v : Nat) (G : Nat → Part), r = size - v ∧ v ≤ size ∧ τ 1 = .pointer (some ⟨bv, 0, none⟩) ∧ τ 3 = .int .i64 (n : Int) ∧ τ 4 = .int .i64 (size : Int) ∧ τ 5 = .pointer (some ⟨bsv, 0, none⟩) ∧ τ 6 = .pointer (some ⟨bpv, 0, none⟩) ∧ τ 70 = .int .i64 (size : Int) ∧ τ 71 = .int .i64 (v : Int) ∧ Split N w0 wi G ∧ Same [61, 63] H3 G ∧ Made G size (.slice ga size gc) (.slice pa size pc))
    (fun τ wi => ∃ (G : Nat → Part), τ 1 = .pointer (some ⟨bv, 0, none⟩) ∧ τ 3 = .int .i64 (n : Int) ∧ τ 4 = .int .i64 (size : Int) ∧ τ 5 = .pointer (some ⟨bsv, 0, none⟩) ∧ τ 6 = .pointer (some ⟨bpv, 0, none⟩) ∧ Split N w0 wi G ∧ Same [61, 63] H3 G ∧ Made G size (.slice ga size gc) (.slice pa size pc)) size ?_ ?_ ?_
  · exact ⟨0, H3, rfl, Nat.zero_le _, (nx rfl (nx rfl (nx rfl t1))), (nx rfl (nx rfl (nx rfl t3))), (nx rfl (nx rfl (nx rfl t4))), (nx rfl (nx rfl (nx rfl t5))), (nx rfl (nx rfl (nx rfl t6))), (nx rfl hit), hit, hs3', Same.refl _ _, hmd3⟩
  · clear t1 t3 t4 t5 t6 hs3' hmd3
    rintro Q' r τ wi hnn hx hr ⟨v, G, rfl, hi, t1, t3, t4, t5, t6, t70, t71, hsG, kG, hmd⟩
    refine wp_seq_k (fun K11 hK11 => ?_)
    refine reg ?_
    refine sq rfl (do_lss (tm rfl t71) (tm rfl t70)) ?_
    refine wnil ?_
    refine hK11 _ _ ?_
    clear hK11
    by_cases h : v < size
    · refine wp_seq_k (fun K12 hK12 => ?_)
      refine cT rfl hit (by simpa using h) ?_
      refine wp_skip ?_
      refine hK12 _ _ ?_
      clear hK12
      rcases hmd with ⟨hz, _⟩ | ⟨bS, bP, e1, e2, hbS, hbP⟩
      · omega
      injection e1 with e1 e1a e1b
      injection e2 with e2 e2a e2b
      subst e1
      subst e2
      obtain rfl := e1b.symm
      obtain rfl := e2b.symm
      have hsvG := kG.vb (t := 60) (by decide) hsv
      have hpvG := kG.vb (t := 62) (by decide) hpv
      obtain ⟨J1, j1, g1, hbS1⟩ := hbS.put hsG.drew v (.slice none 0 0)
      rw [show (List.replicate size (Value.slice none 0 0)).set v (.slice none 0 0) = List.replicate size (.slice none 0 0) by simp] at hbS1
      have hbP1 := j1.vb (t := 63) (by decide) hbP
      obtain ⟨J2, j2, g2, hbP2⟩ := hbP1.put g1 v (.int .i64 0)
      rw [ints_set, show (List.replicate size (0 : Int)).set v 0 = List.replicate size 0 by simp] at hbP2
      have hbS2 := j2.vb (t := 61) (by decide) hbS1
      have cS : (List.replicate size (Value.slice none 0 0))[v]? = some (.slice none 0 0) := by rw [List.getElem?_replicate, if_pos h]
      have cP : (ints (List.replicate size 0))[v]? = some (.int .i64 0) := by simp [ints, h]
      have LP : ∀ j, j ≤ 1 → (stg wi.drew [wi.drew.setCell ⟨bS, v, none⟩ (.slice none 0 0), (wi.drew.setCell ⟨bS, v, none⟩ (.slice none 0 0)).setCell ⟨bP, v, none⟩ (.int .i64 0)] j).cell? ⟨bpv, 0, none⟩ = some (.slice (some ⟨bP, 0, none⟩) size size) :=
        le1 (p := fun j => (stg wi.drew [wi.drew.setCell ⟨bS, v, none⟩ (.slice none 0 0), (wi.drew.setCell ⟨bS, v, none⟩ (.slice none 0 0)).setCell ⟨bP, v, none⟩ (.int .i64 0)] j).cell? ⟨bpv, 0, none⟩ = some (.slice (some ⟨bP, 0, none⟩) size size)) (hpvG.cell hsG.drew (i := 0) rfl) ((j1.vb (t := 62) (by decide) hpvG).cell g1 (i := 0) rfl)
      refine wp_seq_k (fun K13 hK13 => ?_)
      refine wp_block ?_
      refine wp_seq_k (fun K14 hK14 => ?_)
      refine reg ?_
      refine sq rfl (do_move (tm rfl (nx rfl t71))) ?_
      refine sq rfl (do_assign (tm rfl hit)) ?_
      refine wnil ?_
      refine hK14 _ _ ?_
      clear hK14
      refine draw mixed [10, 12] [(0, 0), (0, 0), (0, 1), (0, 1), (0, 0), (0, 0), (0, 0), (0, 0), (0, 0), (0, 0), (0, 0), (1, 1), (1, 1)] [wi.drew.setCell ⟨bS, v, none⟩ (.slice none 0 0), (wi.drew.setCell ⟨bS, v, none⟩ (.slice none 0 0)).setCell ⟨bP, v, none⟩ (.int .i64 0)] ((wi.drew.setCell ⟨bS, v, none⟩ (.slice none 0 0)).setCell ⟨bP, v, none⟩ (.int .i64 0)) (upd (upd (upd (upd (upd (upd (upd (upd (upd (upd (upd _ 74 _) 75 _) 76 _) 77 _) 78 _) 79 _) 80 _) 81 _) 82 _) 83 _) 84 _) (by kernel_rfl) (fun s hs => ovr_off [(74, _), (75, _), (76, _), (77, _), (78, _), (79, _), (80, _), (81, _), (82, _), (83, _), (84, _)] _ s hs) ⟨(qk rfl (do_load T37 rfl (tm rfl (nx rfl (nx rfl (nx rfl (nx rfl (nx rfl (nx rfl (nx rfl (nx rfl (nx rfl (nx rfl (nx rfl (nx rfl (nx rfl (nx rfl t5))))))))))))))) (hsvG.cell hsG.drew (i := 0) rfl)) (nx rfl (nx rfl (nx rfl (nx rfl (nx rfl (nx rfl (nx rfl (nx rfl (nx rfl (nx rfl hit))))))))))), (qa rfl (fun _ => (do_move (tm rfl (nx rfl (nx rfl (nx rfl (nx rfl (nx rfl (nx rfl (nx rfl (nx rfl (nx rfl (nx rfl (nx rfl hit)))))))))))))) (nx rfl (nx rfl (nx rfl (nx rfl (nx rfl (nx rfl (nx rfl (nx rfl (nx rfl hit)))))))))), (qr rfl (fun j h1 h2 => (do_load T22 rfl (tm rfl (nx rfl (nx rfl (nx rfl (nx rfl (nx rfl (nx rfl (nx rfl (nx rfl (nx rfl (nx rfl (nx rfl (nx rfl (nx rfl (nx rfl t6))))))))))))))) (LP j (by omega)))) (nx rfl (nx rfl (nx rfl (nx rfl (nx rfl (nx rfl (nx rfl (nx rfl hit))))))))), (qa rfl (fun _ => (do_move (tm rfl (nx rfl (nx rfl (nx rfl (nx rfl (nx rfl (nx rfl (nx rfl (nx rfl (nx rfl (nx rfl (nx rfl hit)))))))))))))) (nx rfl (nx rfl (nx rfl (nx rfl (nx rfl (nx rfl (nx rfl hit)))))))), (qk rfl (do_load T37 rfl (tm rfl (nx rfl (nx rfl (nx rfl (nx rfl (nx rfl (nx rfl (nx rfl (nx rfl (nx rfl (nx rfl (nx rfl (nx rfl (nx rfl (nx rfl t5))))))))))))))) (hsvG.cell hsG.drew (i := 0) rfl)) (nx rfl (nx rfl (nx rfl (nx rfl (nx rfl (nx rfl hit))))))), (qa rfl (fun _ => (do_move (tm rfl (nx rfl (nx rfl (nx rfl (nx rfl (nx rfl (nx rfl (nx rfl (nx rfl (nx rfl (nx rfl (nx rfl hit)))))))))))))) (nx rfl (nx rfl (nx rfl (nx rfl (nx rfl hit)))))), (qa rfl (fun _ => (ix37 (tm rfl (nx rfl (nx rfl (nx rfl (nx rfl (nx rfl (nx rfl hit))))))) (tm rfl (nx rfl (nx rfl (nx rfl (nx rfl (nx rfl hit)))))) (by omega))) (nx rfl (nx rfl (nx rfl (nx rfl hit))))), (qk rfl (do_load T22 rfl (tm rfl (nx rfl (nx rfl (nx rfl (nx rfl hit))))) (hbS.cell hsG.drew cS)) (nx rfl (nx rfl (nx rfl hit)))), (qa rfl (fun _ => (do_sliceNil T22 T3 (tm rfl (nx rfl (nx rfl (nx rfl hit)))) rfl)) (nx rfl (nx rfl hit))), (qa rfl (fun _ => (ix37 (tm rfl (nx rfl (nx rfl (nx rfl (nx rfl (nx rfl (nx rfl (nx rfl (nx rfl (nx rfl (nx rfl hit))))))))))) (tm rfl (nx rfl (nx rfl (nx rfl (nx rfl (nx rfl (nx rfl (nx rfl (nx rfl (nx rfl hit)))))))))) (by omega))) (nx rfl hit)), (en rfl (do_store T22 (tm rfl (nx rfl hit)) (tm rfl (nx rfl (nx rfl hit))) rfl (hbS.cell hsG.drew cS) (hbS.frozen hsG.drew v))), (qa rfl (fun _ => (ix22 (tm rfl (nx rfl (nx rfl (nx rfl (nx rfl (nx rfl (nx rfl (nx rfl (nx rfl hit))))))))) (tm rfl (nx rfl (nx rfl (nx rfl (nx rfl (nx rfl (nx rfl (nx rfl hit)))))))) (by omega))) hit), (en rfl (do_store T3 (tm rfl hit) rfl rfl (hbP1.cell g1 cP) (hbP1.frozen g1 v))), trivial⟩ rfl ?_
      intro τ15 e15
      have c15_1 := (congrFun e15 1).trans (nx rfl (nx rfl (nx rfl (nx rfl (nx rfl (nx rfl (nx rfl (nx rfl (nx rfl (nx rfl (nx rfl (nx rfl (nx rfl (nx rfl t1))))))))))))))
      have c15_3 := (congrFun e15 3).trans (nx rfl (nx rfl (nx rfl (nx rfl (nx rfl (nx rfl (nx rfl (nx rfl (nx rfl (nx rfl (nx rfl (nx rfl (nx rfl (nx rfl t3))))))))))))))
      have c15_4 := (congrFun e15 4).trans (nx rfl (nx rfl (nx rfl (nx rfl (nx rfl (nx rfl (nx rfl (nx rfl (nx rfl (nx rfl (nx rfl (nx rfl (nx rfl (nx rfl t4))))))))))))))
      have c15_5 := (congrFun e15 5).trans (nx rfl (nx rfl (nx rfl (nx rfl (nx rfl (nx rfl (nx rfl (nx rfl (nx rfl (nx rfl (nx rfl (nx rfl (nx rfl (nx rfl t5))))))))))))))
      have c15_6 := (congrFun e15 6).trans (nx rfl (nx rfl (nx rfl (nx rfl (nx rfl (nx rfl (nx rfl (nx rfl (nx rfl (nx rfl (nx rfl (nx rfl (nx rfl (nx rfl t6))))))))))))))
      have c15_7 := (congrFun e15 7).trans (nx rfl (nx rfl (nx rfl (nx rfl (nx rfl (nx rfl (nx rfl (nx rfl (nx rfl (nx rfl (nx rfl hit)))))))))))
      have c15_70 := (congrFun e15 70).trans (nx rfl (nx rfl (nx rfl (nx rfl (nx rfl (nx rfl (nx rfl (nx rfl (nx rfl (nx rfl (nx rfl (nx rfl (nx rfl (nx rfl t70))))))))))))))
      have c15_71 := (congrFun e15 71).trans (nx rfl (nx rfl (nx rfl (nx rfl (nx rfl (nx rfl (nx rfl (nx rfl (nx rfl (nx rfl (nx rfl (nx rfl (nx rfl (nx rfl t71))))))))))))))
      clear e15
      refine inBN ?_
      refine hK13 _ _ ?_
      clear hK13
      refine reg ?_
      refine sq rfl (do_inc (tm rfl c15_71) ck (by omega)) ?_
      refine sq rfl (do_move (tm rfl hit)) ?_
      refine wnil ?_
      exact hnn (size - (v + 1)) _ _ (by omega) ⟨v + 1, J2, rfl, by omega, (nx rfl (nx rfl c15_1)), (nx rfl (nx rfl c15_3)), (nx rfl (nx rfl c15_4)), (nx rfl (nx rfl c15_5)), (nx rfl (nx rfl c15_6)), (nx rfl (nx rfl c15_70)), hit, g2, kG.trans ((j1.mono (by decide)).trans (j2.mono (by decide))), .inr ⟨bS, bP, rfl, rfl, hbS2, hbP2⟩⟩
    · refine wp_seq_k (fun K16 hK16 => ?_)
      refine cF rfl hit (by simpa using h) ?_
      refine wp_exit ?_
      refine thenE ?_
      exact hx _ _ ⟨G, (nx rfl t1), (nx rfl t3), (nx rfl t4), (nx rfl t5), (nx rfl t6), hsG, kG, hmd⟩
  clear t1 t3 t4 t5 t6 hs3' hmd3
  rintro τ wi ⟨G, t1, t3, t4, t5, t6, hsG, kG, hmd⟩
  refine hK9 _ _ ?_
  clear hK9
  have hsbG := kG.vb (t := 40) (by decide) hsb3
  have hvG := kG.vb (t := 64) (by decide) hv3
  obtain ⟨H0, j0, g0, hsb0⟩ := hsbG.put hsG 12 (.int .i64 (1073741824 - (size : Int)))
  refine wp_seq_k (fun K17 hK17 => ?_)
  refine reg ?_
  refine sq rfl (do_load T45 rfl (tm rfl t1) (hvG.cell hsG (i := 0) rfl)) ?_
  refine sq rfl (do_nilCheck (tm rfl hit)) ?_
  refine sq rfl (fa72_12 (tm rfl hit)) ?_
  refine sq rfl (do_load T3 rfl (tm rfl hit) (hsbG.cell hsG (i := 12) rfl)) ?_
  refine sq rfl (do_move (tm rfl (nx rfl (nx rfl (nx rfl (nx rfl t4)))))) ?_
  refine sq rfl (do_sub (tm rfl (nx rfl hit)) (tm rfl hit) ⟨by omega, by omega⟩) ?_
  refine sq rfl (do_nilCheck (tm rfl (nx rfl (nx rfl (nx rfl (nx rfl (nx rfl hit))))))) ?_
  refine sq rfl (fa72_12 (tm rfl hit)) ?_
  refine sqn (do_store T3 (tm rfl hit) (tm rfl (nx rfl (nx rfl hit))) rfl (hsbG.cell hsG (i := 12) rfl) (hsbG.frozen hsG 12)) ?_
  refine cutW ?_
  intro τ18 e18 xz hxz
  have c18_1 := (congrFun e18 1).trans (nx rfl (nx rfl (nx rfl (nx rfl (nx rfl (nx rfl (nx rfl (nx rfl t1))))))))
  have c18_3 := (congrFun e18 3).trans (nx rfl (nx rfl (nx rfl (nx rfl (nx rfl (nx rfl (nx rfl (nx rfl t3))))))))
  have c18_4 := (congrFun e18 4).trans (nx rfl (nx rfl (nx rfl (nx rfl (nx rfl (nx rfl (nx rfl (nx rfl t4))))))))
  have c18_5 := (congrFun e18 5).trans (nx rfl (nx rfl (nx rfl (nx rfl (nx rfl (nx rfl (nx rfl (nx rfl t5))))))))
  have c18_6 := (congrFun e18 6).trans (nx rfl (nx rfl (nx rfl (nx rfl (nx rfl (nx rfl (nx rfl (nx rfl t6))))))))
  clear e18
  refine wnil ?_
  refine hK17 _ _ ?_
  clear hK17
  have g0' : Split N w0 xz H0 := by rw [hxz]; exact g0
  clear g0 hxz
  refine wp_seq_k (fun K19 hK19 => ?_)
  refine reg ?_
  refine sq rfl (do_makeFunc (a := #[]) (by simp) (map3 (tm rfl c18_5) (tm rfl c18_6) (tm rfl c18_1))) ?_
  refine sq rfl (do_assign (tm rfl hit)) ?_
  refine wnil ?_
  refine hK19 _ _ ?_
  clear hK19
  refine wp_seq_k (fun K20 hK20 => ?_)
  refine reg ?_
  refine sq rfl (do_makeFunc (a := #[]) (by simp) (map1 (tm rfl (nx rfl (nx rfl c18_1))))) ?_
  refine sq rfl (do_assign (tm rfl hit)) ?_
  refine cutL ?_
  intro τ21 e21
  have c21_1 := (congrFun e21 1).trans (nx rfl (nx rfl (nx rfl (nx rfl c18_1))))
  have c21_3 := (congrFun e21 3).trans (nx rfl (nx rfl (nx rfl (nx rfl c18_3))))
  have c21_4 := (congrFun e21 4).trans (nx rfl (nx rfl (nx rfl (nx rfl c18_4))))
  have c21_5 := (congrFun e21 5).trans (nx rfl (nx rfl (nx rfl (nx rfl c18_5))))
  have c21_6 := (congrFun e21 6).trans (nx rfl (nx rfl (nx rfl (nx rfl c18_6))))
  have c21_8 := (congrFun e21 8).trans (nx rfl (nx rfl hit))
  have c21_9 := (congrFun e21 9).trans hit
  clear e21
  refine wnil ?_
  refine hK20 _ _ ?_
  clear hK20
  have kH : Same [40, 60, 61, 62, 63, 64] H H0 := kk3.trans ((kG.mono (by decide)).trans (j0.mono (by decide)))
  have hsv0 := j0.vb (t := 60) (by decide) (kG.vb (t := 60) (by decide) hsv)
  have hpv0 := j0.vb (t := 62) (by decide) (kG.vb (t := 62) (by decide) hpv)
  have hv0 := j0.vb (t := 64) (by decide) hvG
  have hp0 := kH.vb (t := 1) (by decide) hp
  have hWr0 : TabV (H0 4) 22 3 1 encI (.slice wsa k wsc) writers := by rw [kH 4 (by decide)]; exact hWr
  have hRd0 : TabV (H0 6) 22 3 1 encI (.slice da M dc) readers := by rw [kH 6 (by decide)]; exact hRd
  have hNx0 : RowV (H0 7) 3 1 (.slice nxa M nxc) next.length (next.flatMap encI) := by rw [kH 7 (by decide)]; exact hNx
  have hSu0 : TabV (H0 8) 22 3 1 encI (.slice sa n sc0) succ := by rw [kH 8 (by decide)]; exact hSu
  have hSo0 := kH.vb (t := 50) (by decide) hSo
  have hNo0 := kH.vb (t := 54) (by decide) hNo
  have hLo0 := kH.vb (t := 55) (by decide) hLo
  have hIt0 : RowV (H0 56) 3 1 (.slice ita its.length itc) its.length (its.flatMap encI) := by rw [kH 56 (by decide)]; exact hIt
  have hBw0 := kH.vb (t := 57) (by decide) hBw
  have hGr0 : Gr N w0 H0 (.slice ga size gc) pa pc sb size ((SCs pb bSo bLo bNo bW k n m its.length itc ita 1073741824) (.slice ga size gc) (.slice pa size pc)) R xz 0 := by
    refine ⟨H0, List.replicate size [], List.replicate size 0, g0', Same.refl _ _, ?_, ?_, ?_, by simp, by simp, sumLen_rep _, fun a h u hu => by simp at hu, fun b hb => ?_⟩
    · rw [j0 61 (by decide)]
      rcases hmd with ⟨hz, e1, e2⟩ | ⟨bS, bP, e1, e2, hbS, hbP⟩
      · rw [e1, hz]; exact TabV.nil
      · rw [e1]; exact TabV.ofVB hbS (by omega)
    · rw [j0 63 (by decide)]
      rcases hmd with ⟨hz, e1, e2⟩ | ⟨bS, bP, e1, e2, hbS, hbP⟩
      · rw [e2, hz]; exact RowV.empty
      · rw [e2, flat_I]
        have := RowV.of_blk hbP (by simp [ints, maxLen]; omega)
        simpa [ints] using this
    · simpa using hsb0
    · simp [hb, cnt, remC_rep]
  clear hmd hsG kG hsb3 hv3 hsv hpv kk3 hsbG hvG hsb0 j0 g0' hp hWr hRd hNx hSu hSo hNo hLo hIt hBw hsb
  have hscl : ((SCs pb bSo bLo bNo bW k n m its.length itc ita 1073741824) (.slice ga size gc) (.slice pa size pc)).length = 17 := rfl
  have UP : ∀ (wi : World) (S v : Nat), v < n → Gr N w0 H0 (.slice ga size gc) pa pc sb size ((SCs pb bSo bLo bNo bW k n m its.length itc ita 1073741824) (.slice ga size gc) (.slice pa size pc)) R wi S → Calls Try.prog 41 (#[.int .i64 (v : Int)] ++ #[.pointer (some ⟨bv, 0, none⟩)]) wi fun e w' => e = .returned (.bool (!pl v)) ∧ w' = wi.drew.drew := by
    intro wi S v hv hG
    obtain ⟨G, rows, preds, hsG, kG, _, _, hsbG, _⟩ := hG
    obtain ⟨z, hz, hzb⟩ := hbits.2 v hv
    rw [← hzb]
    exact unpl41 wi bv sb bW m m bLo n n v ws z (rng n) ((kG.vb (t := 64) (by decide) hv0).cell hsG (i := 0) rfl) (hsbG.cell hsG (i := 7) rfl) (hsbG.cell hsG (i := 4) rfl) ((kG.vb (t := 57) (by decide) hBw0).blk hsG) hwl hz (hbits.1 z (List.mem_of_getElem? hz)) (by omega) hv ((kG.vb (t := 55) (by decide) hLo0).cell hsG (rng_get hv))
  obtain ⟨G, _, _, hsG, kG, _, _, hsbG, _⟩ := id hGr0
  refine wp_seq_k (fun K22 hK22 => ?_)
  refine wp_seq_k (fun K23 hK23 => ?_)
  refine reg ?_
  refine sq rfl (do_load T45 rfl (tm rfl c21_1) ((kG.vb (t := 64) (by decide) hv0).cell hsG (i := 0) rfl)) ?_
  refine sq rfl (do_nilCheck (tm rfl hit)) ?_
  refine sq rfl (fa72_5 (tm rfl hit)) ?_
  refine sq rfl (do_load T22 rfl (tm rfl hit) (hsbG.cell hsG (i := 5) rfl)) ?_
  refine sq rfl (do_len Try.underlying22 (tm rfl hit)) ?_
  refine sq rfl (do_move (v := .int .i64 ((0 : Nat) : Int)) rfl) ?_
  refine cutL ?_
  intro τ24 e24
  have c24_1 := (congrFun e24 1).trans (nx rfl (nx rfl (nx rfl (nx rfl (nx rfl (nx rfl c21_1))))))
  have c24_3 := (congrFun e24 3).trans (nx rfl (nx rfl (nx rfl (nx rfl (nx rfl (nx rfl c21_3))))))
  have c24_4 := (congrFun e24 4).trans (nx rfl (nx rfl (nx rfl (nx rfl (nx rfl (nx rfl c21_4))))))
  have c24_5 := (congrFun e24 5).trans (nx rfl (nx rfl (nx rfl (nx rfl (nx rfl (nx rfl c21_5))))))
  have c24_6 := (congrFun e24 6).trans (nx rfl (nx rfl (nx rfl (nx rfl (nx rfl (nx rfl c21_6))))))
  have c24_8 := (congrFun e24 8).trans (nx rfl (nx rfl (nx rfl (nx rfl (nx rfl (nx rfl c21_8))))))
  have c24_9 := (congrFun e24 9).trans (nx rfl (nx rfl (nx rfl (nx rfl (nx rfl (nx rfl c21_9))))))
  have c24_99 := (congrFun e24 99).trans (nx rfl (nx rfl hit))
  have c24_100 := (congrFun e24 100).trans (nx rfl hit)
  have c24_101 := (congrFun e24 101).trans hit
  clear e24
  refine wnil ?_
  refine hK23 _ _ ?_
  clear hK23
  clear hsG kG hsbG
  refine forLoop (N := 304) (fun r τ wi => ∃ (i S : Nat), r = n - i ∧ i ≤ n ∧ τ 1 = .pointer (some ⟨bv, 0, none⟩) ∧ τ 3 = .int .i64 (n : Int) ∧ τ 4 = .int .i64 (size : Int) ∧ τ 5 = .pointer (some ⟨bsv, 0, none⟩) ∧ τ 6 = .pointer (some ⟨bpv, 0, none⟩) ∧ τ 8 = .func (.func 40) #[] #[.pointer (some ⟨bsv, 0, none⟩), .pointer (some ⟨bpv, 0, none⟩), .pointer (some ⟨bv, 0, none⟩)] ∧ τ 9 = .func (.func 41) #[] #[.pointer (some ⟨bv, 0, none⟩)] ∧ τ 99 = .slice (some ⟨bNo, 0, none⟩) n n ∧ τ 100 = .int .i64 (n : Int) ∧ τ 101 = .int .i64 (i : Int) ∧ Gr N w0 H0 (.slice ga size gc) pa pc sb size ((SCs pb bSo bLo bNo bW k n m its.length itc ita 1073741824) (.slice ga size gc) (.slice pa size pc)) R wi S ∧ S ≤ sumLen (succ.take i))
    (fun τ wi => ∃ (S : Nat), τ 1 = .pointer (some ⟨bv, 0, none⟩) ∧ τ 3 = .int .i64 (n : Int) ∧ τ 4 = .int .i64 (size : Int) ∧ τ 5 = .pointer (some ⟨bsv, 0, none⟩) ∧ τ 6 = .pointer (some ⟨bpv, 0, none⟩) ∧ τ 8 = .func (.func 40) #[] #[.pointer (some ⟨bsv, 0, none⟩), .pointer (some ⟨bpv, 0, none⟩), .pointer (some ⟨bv, 0, none⟩)] ∧ τ 9 = .func (.func 41) #[] #[.pointer (some ⟨bv, 0, none⟩)] ∧ Gr N w0 H0 (.slice ga size gc) pa pc sb size ((SCs pb bSo bLo bNo bW k n m its.length itc ita 1073741824) (.slice ga size gc) (.slice pa size pc)) R wi S ∧ S ≤ 10000000000) n ?_ ?_ ?_
  · exact ⟨0, 0, rfl, Nat.zero_le _, c24_1, c24_3, c24_4, c24_5, c24_6, c24_8, c24_9, c24_99, c24_100, c24_101, hGr0, Nat.zero_le _⟩
  · clear t1 t3 t4 t5 t6 hGr0
    rintro Q' r τ wi hnn hx hr ⟨i, S, rfl, hi, t1, t3, t4, t5, t6, t8, t9, t99, t100, t101, hGr, hSb⟩
    refine wp_seq_k (fun K25 hK25 => ?_)
    refine reg ?_
    refine sq rfl (do_lss (tm rfl t101) (tm rfl t100)) ?_
    refine wnil ?_
    refine hK25 _ _ ?_
    clear hK25
    by_cases h : i < n
    · refine wp_seq_k (fun K26 hK26 => ?_)
      refine cT rfl hit (by simpa using h) ?_
      refine wp_skip ?_
      refine hK26 _ _ ?_
      clear hK26
      have hst := sumLen_take succ i (by omega)
      have hsle := sumLen_take_le succ (i + 1)
      obtain ⟨G, _, _, hsG, kG, _⟩ := id hGr
      refine wp_seq_k (fun K27 hK27 => ?_)
      refine wp_block ?_
      refine wp_seq_k (fun K28 hK28 => ?_)
      refine reg ?_
      refine sq rfl (do_move (tm rfl (nx rfl t101))) ?_
      refine sq rfl (ix22 (tm rfl (nx rfl (nx rfl t99))) (tm rfl (nx rfl (nx rfl t101))) (by omega)) ?_
      refine sq rfl (do_load T3 rfl (tm rfl hit) ((kG.vb (t := 54) (by decide) hNo0).cell hsG (rng_get h))) ?_
      refine sq rfl (do_assign (tm rfl (nx rfl (nx rfl hit)))) ?_
      refine sq rfl (do_assign (tm rfl (nx rfl hit))) ?_
      refine cutL ?_
      intro τ29 e29
      have c29_1 := (congrFun e29 1).trans (nx rfl (nx rfl (nx rfl (nx rfl (nx rfl (nx rfl t1))))))
      have c29_3 := (congrFun e29 3).trans (nx rfl (nx rfl (nx rfl (nx rfl (nx rfl (nx rfl t3))))))
      have c29_4 := (congrFun e29 4).trans (nx rfl (nx rfl (nx rfl (nx rfl (nx rfl (nx rfl t4))))))
      have c29_5 := (congrFun e29 5).trans (nx rfl (nx rfl (nx rfl (nx rfl (nx rfl (nx rfl t5))))))
      have c29_6 := (congrFun e29 6).trans (nx rfl (nx rfl (nx rfl (nx rfl (nx rfl (nx rfl t6))))))
      have c29_8 := (congrFun e29 8).trans (nx rfl (nx rfl (nx rfl (nx rfl (nx rfl (nx rfl t8))))))
      have c29_9 := (congrFun e29 9).trans (nx rfl (nx rfl (nx rfl (nx rfl (nx rfl (nx rfl t9))))))
      have c29_10 := (congrFun e29 10).trans (nx rfl hit)
      have c29_11 := (congrFun e29 11).trans hit
      have c29_99 := (congrFun e29 99).trans (nx rfl (nx rfl (nx rfl (nx rfl (nx rfl (nx rfl t99))))))
      have c29_100 := (congrFun e29 100).trans (nx rfl (nx rfl (nx rfl (nx rfl (nx rfl (nx rfl t100))))))
      have c29_101 := (congrFun e29 101).trans (nx rfl (nx rfl (nx rfl (nx rfl (nx rfl (nx rfl t101))))))
      clear e29
      refine wnil ?_
      refine hK28 _ _ ?_
      clear hK28
      clear hsG kG
      refine wp_seq_k (fun K30 hK30 => ?_)
      refine wp_seq_k (fun K31 hK31 => ?_)
      refine reg ?_
      refine sq rfl (do_move (tm rfl c29_9)) ?_
      refine sq rfl (do_move (tm rfl (nx rfl c29_11))) ?_
      refine sqc (R := fun cv w' => cv = .bool (!pl i) ∧ Gr N w0 H0 (.slice ga size gc) pa pc sb size ((SCs pb bSo bLo bNo bW k n m its.length itc ita 1073741824) (.slice ga size gc) (.slice pa size pc)) R w' S) rfl (run_callV Try.func41 nm41 bd41 (map1 (tm rfl hit)) (tm rfl (nx rfl hit))) ((UP wi S i h hGr).mono ?_) ?_
      · rintro e w' ⟨rfl, rfl⟩
        exact ⟨_, rfl, rfl, hGr.drew.drew⟩
      rintro cv xw ⟨rfl, hGrx⟩
      refine sq rfl (do_not (tm rfl hit)) ?_
      refine cutL ?_
      intro τ32 e32
      have c32_1 := (congrFun e32 1).trans (nx rfl (nx rfl (nx rfl (nx rfl c29_1))))
      have c32_3 := (congrFun e32 3).trans (nx rfl (nx rfl (nx rfl (nx rfl c29_3))))
      have c32_4 := (congrFun e32 4).trans (nx rfl (nx rfl (nx rfl (nx rfl c29_4))))
      have c32_5 := (congrFun e32 5).trans (nx rfl (nx rfl (nx rfl (nx rfl c29_5))))
      have c32_6 := (congrFun e32 6).trans (nx rfl (nx rfl (nx rfl (nx rfl c29_6))))
      have c32_8 := (congrFun e32 8).trans (nx rfl (nx rfl (nx rfl (nx rfl c29_8))))
      have c32_9 := (congrFun e32 9).trans (nx rfl (nx rfl (nx rfl (nx rfl c29_9))))
      have c32_10 := (congrFun e32 10).trans (nx rfl (nx rfl (nx rfl (nx rfl c29_10))))
      have c32_11 := (congrFun e32 11).trans (nx rfl (nx rfl (nx rfl (nx rfl c29_11))))
      have c32_99 := (congrFun e32 99).trans (nx rfl (nx rfl (nx rfl (nx rfl c29_99))))
      have c32_100 := (congrFun e32 100).trans (nx rfl (nx rfl (nx rfl (nx rfl c29_100))))
      have c32_101 := (congrFun e32 101).trans (nx rfl (nx rfl (nx rfl (nx rfl c29_101))))
      have c32_109 := (congrFun e32 109).trans hit
      clear e32
      refine wnil ?_
      refine hK31 _ _ ?_
      clear hK31
      clear hGr
      by_cases hp1 : pl i = true
      · refine cT rfl c32_109 (by simp [hp1]) ?_
        refine wp_exit ?_
        refine thenE ?_
        refine inB ?_
        refine hK27 _ _ ?_
        clear hK27
        refine reg ?_
        refine sq rfl (do_inc (tm rfl c32_101) ck (by omega)) ?_
        refine sq rfl (do_move (tm rfl hit)) ?_
        refine wnil ?_
        exact hnn (n - (i + 1)) _ _ (by omega) ⟨i + 1, S, rfl, by omega, (nx rfl (nx rfl c32_1)), (nx rfl (nx rfl c32_3)), (nx rfl (nx rfl c32_4)), (nx rfl (nx rfl c32_5)), (nx rfl (nx rfl c32_6)), (nx rfl (nx rfl c32_8)), (nx rfl (nx rfl c32_9)), (nx rfl (nx rfl c32_99)), (nx rfl (nx rfl c32_100)), hit, hGrx, by omega⟩
      · have hpf : pl i = false := by simpa using hp1
        refine cF rfl c32_109 (by simp [hpf]) ?_
        refine wp_skip ?_
        refine hK30 _ _ ?_
        clear hK30
        obtain ⟨G, _, _, hsG, kG, _, _, hsbG, _⟩ := id hGrx
        have hSuG : TabV (G 8) 22 3 1 encI (.slice sa n sc0) succ := by rw [kG 8 (by decide)]; exact hSu0
        obtain ⟨gs, cs, hgs, hcs, _, hrs⟩ := hSuG.getS hsG (i := i) (by omega)
        subst hgs
        obtain ⟨ra, rc, rfl⟩ := hrs.slice
        refine wp_seq_k (fun K33 hK33 => ?_)
        refine reg ?_
        refine sq rfl (do_load T45 rfl (tm rfl c32_1) ((kG.vb (t := 64) (by decide) hv0).cell hsG (i := 0) rfl)) ?_
        refine sq rfl (do_nilCheck (tm rfl hit)) ?_
        refine sq rfl (fa72_0 (tm rfl hit)) ?_
        refine sq rfl (do_load T33 rfl (tm rfl hit) (hsbG.cell hsG (i := 0) rfl)) ?_
        refine sq rfl (do_nilCheck (tm rfl hit)) ?_
        refine sq rfl (fa58_6 (tm rfl hit)) ?_
        refine sq rfl (do_load T37 rfl (tm rfl hit) ((kG.vb (t := 1) (by decide) hp0).cell hsG hp6)) ?_
        refine sq rfl (do_move (tm rfl (nx rfl (nx rfl (nx rfl (nx rfl (nx rfl (nx rfl (nx rfl c32_11))))))))) ?_
        refine sq rfl (ix37 (tm rfl (nx rfl hit)) (tm rfl hit) (by omega)) ?_
        refine sq rfl (do_load T22 rfl (tm rfl hit) hcs) ?_
        refine sq rfl (do_len Try.underlying22 (tm rfl hit)) ?_
        refine sq rfl (do_move (v := .int .i64 ((0 : Nat) : Int)) rfl) ?_
        refine cutL ?_
        intro τ34 e34
        have c34_1 := (congrFun e34 1).trans (nx rfl (nx rfl (nx rfl (nx rfl (nx rfl (nx rfl (nx rfl (nx rfl (nx rfl (nx rfl (nx rfl (nx rfl c32_1))))))))))))
        have c34_3 := (congrFun e34 3).trans (nx rfl (nx rfl (nx rfl (nx rfl (nx rfl (nx rfl (nx rfl (nx rfl (nx rfl (nx rfl (nx rfl (nx rfl c32_3))))))))))))
        have c34_4 := (congrFun e34 4).trans (nx rfl (nx rfl (nx rfl (nx rfl (nx rfl (nx rfl (nx rfl (nx rfl (nx rfl (nx rfl (nx rfl (nx rfl c32_4))))))))))))
        have c34_5 := (congrFun e34 5).trans (nx rfl (nx rfl (nx rfl (nx rfl (nx rfl (nx rfl (nx rfl (nx rfl (nx rfl (nx rfl (nx rfl (nx rfl c32_5))))))))))))
        have c34_6 := (congrFun e34 6).trans (nx rfl (nx rfl (nx rfl (nx rfl (nx rfl (nx rfl (nx rfl (nx rfl (nx rfl (nx rfl (nx rfl (nx rfl c32_6))))))))))))
        have c34_8 := (congrFun e34 8).trans (nx rfl (nx rfl (nx rfl (nx rfl (nx rfl (nx rfl (nx rfl (nx rfl (nx rfl (nx rfl (nx rfl (nx rfl c32_8))))))))))))
        have c34_9 := (congrFun e34 9).trans (nx rfl (nx rfl (nx rfl (nx rfl (nx rfl (nx rfl (nx rfl (nx rfl (nx rfl (nx rfl (nx rfl (nx rfl c32_9))))))))))))
        have c34_10 := (congrFun e34 10).trans (nx rfl (nx rfl (nx rfl (nx rfl (nx rfl (nx rfl (nx rfl (nx rfl (nx rfl (nx rfl (nx rfl (nx rfl c32_10))))))))))))
        have c34_11 := (congrFun e34 11).trans (nx rfl (nx rfl (nx rfl (nx rfl (nx rfl (nx rfl (nx rfl (nx rfl (nx rfl (nx rfl (nx rfl (nx rfl c32_11))))))))))))
        have c34_99 := (congrFun e34 99).trans (nx rfl (nx rfl (nx rfl (nx rfl (nx rfl (nx rfl (nx rfl (nx rfl (nx rfl (nx rfl (nx rfl (nx rfl c32_99))))))))))))
        have c34_100 := (congrFun e34 100).trans (nx rfl (nx rfl (nx rfl (nx rfl (nx rfl (nx rfl (nx rfl (nx rfl (nx rfl (nx rfl (nx rfl (nx rfl c32_100))))))))))))
        have c34_101 := (congrFun e34 101).trans (nx rfl (nx rfl (nx rfl (nx rfl (nx rfl (nx rfl (nx rfl (nx rfl (nx rfl (nx rfl (nx rfl (nx rfl c32_101))))))))))))
        have c34_119 := (congrFun e34 119).trans (nx rfl (nx rfl hit))
        have c34_120 := (congrFun e34 120).trans (nx rfl hit)
        have c34_121 := (congrFun e34 121).trans hit
        clear e34
        refine wnil ?_
        refine hK33 _ _ ?_
        clear hK33
        rw [kG 8 (by decide)] at hrs
        clear hsG kG hsbG hSuG hcs
        refine forLoop (N := 304) (fun r τ wi => ∃ (j S : Nat), r = succ[i].length - j ∧ j ≤ succ[i].length ∧ τ 1 = .pointer (some ⟨bv, 0, none⟩) ∧ τ 3 = .int .i64 (n : Int) ∧ τ 4 = .int .i64 (size : Int) ∧ τ 5 = .pointer (some ⟨bsv, 0, none⟩) ∧ τ 6 = .pointer (some ⟨bpv, 0, none⟩) ∧ τ 8 = .func (.func 40) #[] #[.pointer (some ⟨bsv, 0, none⟩), .pointer (some ⟨bpv, 0, none⟩), .pointer (some ⟨bv, 0, none⟩)] ∧ τ 9 = .func (.func 41) #[] #[.pointer (some ⟨bv, 0, none⟩)] ∧ τ 99 = .slice (some ⟨bNo, 0, none⟩) n n ∧ τ 100 = .int .i64 (n : Int) ∧ τ 101 = .int .i64 (i : Int) ∧ τ 10 = .int .i64 (i : Int) ∧ τ 119 = .slice ra succ[i].length rc ∧ τ 120 = .int .i64 (succ[i].length : Int) ∧ τ 121 = .int .i64 (j : Int) ∧ Gr N w0 H0 (.slice ga size gc) pa pc sb size ((SCs pb bSo bLo bNo bW k n m its.length itc ita 1073741824) (.slice ga size gc) (.slice pa size pc)) R wi S ∧ S ≤ sumLen (succ.take i) + j)
          (fun τ wi => ∃ (S : Nat), τ 1 = .pointer (some ⟨bv, 0, none⟩) ∧ τ 3 = .int .i64 (n : Int) ∧ τ 4 = .int .i64 (size : Int) ∧ τ 5 = .pointer (some ⟨bsv, 0, none⟩) ∧ τ 6 = .pointer (some ⟨bpv, 0, none⟩) ∧ τ 8 = .func (.func 40) #[] #[.pointer (some ⟨bsv, 0, none⟩), .pointer (some ⟨bpv, 0, none⟩), .pointer (some ⟨bv, 0, none⟩)] ∧ τ 9 = .func (.func 41) #[] #[.pointer (some ⟨bv, 0, none⟩)] ∧ τ 99 = .slice (some ⟨bNo, 0, none⟩) n n ∧ τ 100 = .int .i64 (n : Int) ∧ τ 101 = .int .i64 (i : Int) ∧ Gr N w0 H0 (.slice ga size gc) pa pc sb size ((SCs pb bSo bLo bNo bW k n m its.length itc ita 1073741824) (.slice ga size gc) (.slice pa size pc)) R wi S ∧ S ≤ sumLen (succ.take i) + succ[i].length) succ[i].length ?_ ?_ ?_
        · exact ⟨0, S, rfl, Nat.zero_le _, c34_1, c34_3, c34_4, c34_5, c34_6, c34_8, c34_9, c34_99, c34_100, c34_101, c34_10, c34_119, c34_120, c34_121, hGrx, by omega⟩
        · clear t1 t3 t4 t5 t6 t8 t9 t99 t100 t101 hGrx hSb
          rintro Q'' r τ wi hnn' hx' hr' ⟨j, S, rfl, hj, t1, t3, t4, t5, t6, t8, t9, t99, t100, t101, t10, t119, t120, t121, hGr, hSb⟩
          refine wp_seq_k (fun K35 hK35 => ?_)
          refine reg ?_
          refine sq rfl (do_lss (tm rfl t121) (tm rfl t120)) ?_
          refine wnil ?_
          refine hK35 _ _ ?_
          clear hK35
          by_cases h' : j < succ[i].length
          · refine wp_seq_k (fun K36 hK36 => ?_)
            refine cT rfl hit (by simpa using h') ?_
            refine wp_skip ?_
            refine hK36 _ _ ?_
            clear hK36
            obtain ⟨G, _, _, hsG, kG, _⟩ := id hGr
            have hrG : RowV (G 8) 3 1 (.slice ra succ[i].length rc) succ[i].length (succ[i].flatMap encI) := by rw [kG 8 (by decide)]; exact hrs
            obtain ⟨gu, rfl, hcu, _⟩ := hrG.cellS hsG (cellI h')
            obtain ⟨u, hue, hun, hur⟩ := hA i (by omega) hpf succ[i][j] (List.getElem_mem _)
            rw [hue] at hcu
            refine wp_seq_k (fun K37 hK37 => ?_)
            refine wp_block ?_
            refine wp_seq_k (fun K38 hK38 => ?_)
            refine reg ?_
            refine sq rfl (ix22 (tm rfl (nx rfl t119)) (tm rfl (nx rfl t121)) (by omega)) ?_
            refine sq rfl (do_load T3 rfl (tm rfl hit) hcu) ?_
            refine sq rfl (do_assign (tm rfl hit)) ?_
            refine cutL ?_
            intro τ39 e39
            have c39_1 := (congrFun e39 1).trans (nx rfl (nx rfl (nx rfl (nx rfl t1))))
            have c39_3 := (congrFun e39 3).trans (nx rfl (nx rfl (nx rfl (nx rfl t3))))
            have c39_4 := (congrFun e39 4).trans (nx rfl (nx rfl (nx rfl (nx rfl t4))))
            have c39_5 := (congrFun e39 5).trans (nx rfl (nx rfl (nx rfl (nx rfl t5))))
            have c39_6 := (congrFun e39 6).trans (nx rfl (nx rfl (nx rfl (nx rfl t6))))
            have c39_8 := (congrFun e39 8).trans (nx rfl (nx rfl (nx rfl (nx rfl t8))))
            have c39_9 := (congrFun e39 9).trans (nx rfl (nx rfl (nx rfl (nx rfl t9))))
            have c39_10 := (congrFun e39 10).trans (nx rfl (nx rfl (nx rfl (nx rfl t10))))
            have c39_13 := (congrFun e39 13).trans hit
            have c39_99 := (congrFun e39 99).trans (nx rfl (nx rfl (nx rfl (nx rfl t99))))
            have c39_100 := (congrFun e39 100).trans (nx rfl (nx rfl (nx rfl (nx rfl t100))))
            have c39_101 := (congrFun e39 101).trans (nx rfl (nx rfl (nx rfl (nx rfl t101))))
            have c39_119 := (congrFun e39 119).trans (nx rfl (nx rfl (nx rfl (nx rfl t119))))
            have c39_120 := (congrFun e39 120).trans (nx rfl (nx rfl (nx rfl (nx rfl t120))))
            have c39_121 := (congrFun e39 121).trans (nx rfl (nx rfl (nx rfl (nx rfl t121))))
            clear e39
            refine wnil ?_
            refine hK38 _ _ ?_
            clear hK38
            clear hsG kG hrG hcu
            refine wp_seq_k (fun K40 hK40 => ?_)
            refine reg ?_
            refine sq rfl (do_move (tm rfl c39_9)) ?_
            refine sq rfl (do_move (tm rfl (nx rfl c39_13))) ?_
            refine sqc (R := fun cv w' => cv = .bool (!pl u) ∧ Gr N w0 H0 (.slice ga size gc) pa pc sb size ((SCs pb bSo bLo bNo bW k n m its.length itc ita 1073741824) (.slice ga size gc) (.slice pa size pc)) R w' S) rfl (run_callV Try.func41 nm41 bd41 (map1 (tm rfl hit)) (tm rfl (nx rfl hit))) ((UP wi S u hun hGr).mono ?_) ?_
            · rintro e w' ⟨rfl, rfl⟩
              exact ⟨_, rfl, rfl, hGr.drew.drew⟩
            rintro cv xw ⟨rfl, hGrx⟩
            refine wnil ?_
            refine hK40 _ _ ?_
            clear hK40
            by_cases hpu : pl u = true
            · refine cF rfl hit (by simp [hpu]) ?_
              refine wp_skip ?_
              refine inBN ?_
              refine hK37 _ _ ?_
              clear hK37
              refine reg ?_
              refine sq rfl (do_inc (tm rfl (nx rfl (nx rfl (nx rfl c39_121)))) ck (by omega)) ?_
              refine sq rfl (do_move (tm rfl hit)) ?_
              refine cutL ?_
              intro τ41 e41
              have c41_1 := (congrFun e41 1).trans (nx rfl (nx rfl (nx rfl (nx rfl (nx rfl c39_1)))))
              have c41_3 := (congrFun e41 3).trans (nx rfl (nx rfl (nx rfl (nx rfl (nx rfl c39_3)))))
              have c41_4 := (congrFun e41 4).trans (nx rfl (nx rfl (nx rfl (nx rfl (nx rfl c39_4)))))
              have c41_5 := (congrFun e41 5).trans (nx rfl (nx rfl (nx rfl (nx rfl (nx rfl c39_5)))))
              have c41_6 := (congrFun e41 6).trans (nx rfl (nx rfl (nx rfl (nx rfl (nx rfl c39_6)))))
              have c41_8 := (congrFun e41 8).trans (nx rfl (nx rfl (nx rfl (nx rfl (nx rfl c39_8)))))
              have c41_9 := (congrFun e41 9).trans (nx rfl (nx rfl (nx rfl (nx rfl (nx rfl c39_9)))))
              have c41_10 := (congrFun e41 10).trans (nx rfl (nx rfl (nx rfl (nx rfl (nx rfl c39_10)))))
              have c41_13 := (congrFun e41 13).trans (nx rfl (nx rfl (nx rfl (nx rfl (nx rfl c39_13)))))
              have c41_99 := (congrFun e41 99).trans (nx rfl (nx rfl (nx rfl (nx rfl (nx rfl c39_99)))))
              have c41_100 := (congrFun e41 100).trans (nx rfl (nx rfl (nx rfl (nx rfl (nx rfl c39_100)))))
              have c41_101 := (congrFun e41 101).trans (nx rfl (nx rfl (nx rfl (nx rfl (nx rfl c39_101)))))
              have c41_119 := (congrFun e41 119).trans (nx rfl (nx rfl (nx rfl (nx rfl (nx rfl c39_119)))))
              have c41_120 := (congrFun e41 120).trans (nx rfl (nx rfl (nx rfl (nx rfl (nx rfl c39_120)))))
              have c41_121 := (congrFun e41 121).trans hit
              clear e41
              refine wnil ?_
              exact hnn' (succ[i].length - (j + 1)) _ _ (by omega) ⟨j + 1, S, rfl, by omega, c41_1, c41_3, c41_4, c41_5, c41_6, c41_8, c41_9, c41_99, c41_100, c41_101, c41_10, c41_119, c41_120, c41_121, hGrx, by omega⟩
            · have hpuf : pl u = false := by simpa using hpu
              refine cT rfl hit (by simp [hpuf]) ?_
              obtain ⟨G, _, _, hsG, kG, _, _, hsbG, _⟩ := id hGrx
              refine reg ?_
              refine sq rfl (do_move (tm rfl (nx rfl (nx rfl (nx rfl c39_8))))) ?_
              refine sq rfl (do_move (tm rfl (nx rfl (nx rfl (nx rfl (nx rfl c39_10)))))) ?_
              refine sq rfl (do_load T45 rfl (tm rfl (nx rfl (nx rfl (nx rfl (nx rfl (nx rfl c39_1)))))) ((kG.vb (t := 64) (by decide) hv0).cell hsG (i := 0) rfl)) ?_
              refine sq rfl (do_nilCheck (tm rfl hit)) ?_
              refine sq rfl (fa72_4 (tm rfl hit)) ?_
              refine sq rfl (do_load T22 rfl (tm rfl hit) (hsbG.cell hsG (i := 4) rfl)) ?_
              refine sq rfl (do_move (tm rfl (nx rfl (nx rfl (nx rfl (nx rfl (nx rfl (nx rfl (nx rfl (nx rfl (nx rfl c39_13))))))))))) ?_
              refine sq rfl (ix22 (tm rfl (nx rfl hit)) (tm rfl hit) (by omega)) ?_
              refine sq rfl (do_load T3 rfl (tm rfl hit) ((kG.vb (t := 55) (by decide) hLo0).cell hsG (rng_get hun))) ?_
              clear hsG kG hsbG
              refine sqc (R := fun _ w' => Gr N w0 H0 (.slice ga size gc) pa pc sb size ((SCs pb bSo bLo bNo bW k n m its.length itc ita 1073741824) (.slice ga size gc) (.slice pa size pc)) R w' (S + 1)) rfl (run_callV Try.func40 nm40 bd40 (map2 (tm rfl (nx rfl (nx rfl (nx rfl (nx rfl (nx rfl (nx rfl (nx rfl hit)))))))) (tm rfl hit)) (tm rfl (nx rfl (nx rfl (nx rfl (nx rfl (nx rfl (nx rfl (nx rfl (nx rfl hit)))))))))) ((edgeD hGrx hsv0 hpv0 hv0 hscl i u (by omega) (by omega) (hur hpuf) (by omega) (by omega)).mono ?_) ?_
              · rintro e w' ⟨v', rfl, hh⟩
                exact ⟨_, rfl, hh⟩
              rintro cv xw2 hGr2
              refine cutL ?_
              intro τ42 e42
              have c42_1 := (congrFun e42 1).trans (nx rfl (nx rfl (nx rfl (nx rfl (nx rfl (nx rfl (nx rfl (nx rfl (nx rfl (nx rfl (nx rfl (nx rfl (nx rfl c39_1)))))))))))))
              have c42_3 := (congrFun e42 3).trans (nx rfl (nx rfl (nx rfl (nx rfl (nx rfl (nx rfl (nx rfl (nx rfl (nx rfl (nx rfl (nx rfl (nx rfl (nx rfl c39_3)))))))))))))
              have c42_4 := (congrFun e42 4).trans (nx rfl (nx rfl (nx rfl (nx rfl (nx rfl (nx rfl (nx rfl (nx rfl (nx rfl (nx rfl (nx rfl (nx rfl (nx rfl c39_4)))))))))))))
              have c42_5 := (congrFun e42 5).trans (nx rfl (nx rfl (nx rfl (nx rfl (nx rfl (nx rfl (nx rfl (nx rfl (nx rfl (nx rfl (nx rfl (nx rfl (nx rfl c39_5)))))))))))))
              have c42_6 := (congrFun e42 6).trans (nx rfl (nx rfl (nx rfl (nx rfl (nx rfl (nx rfl (nx rfl (nx rfl (nx rfl (nx rfl (nx rfl (nx rfl (nx rfl c39_6)))))))))))))
              have c42_8 := (congrFun e42 8).trans (nx rfl (nx rfl (nx rfl (nx rfl (nx rfl (nx rfl (nx rfl (nx rfl (nx rfl (nx rfl (nx rfl (nx rfl (nx rfl c39_8)))))))))))))
              have c42_9 := (congrFun e42 9).trans (nx rfl (nx rfl (nx rfl (nx rfl (nx rfl (nx rfl (nx rfl (nx rfl (nx rfl (nx rfl (nx rfl (nx rfl (nx rfl c39_9)))))))))))))
              have c42_10 := (congrFun e42 10).trans (nx rfl (nx rfl (nx rfl (nx rfl (nx rfl (nx rfl (nx rfl (nx rfl (nx rfl (nx rfl (nx rfl (nx rfl (nx rfl c39_10)))))))))))))
              have c42_13 := (congrFun e42 13).trans (nx rfl (nx rfl (nx rfl (nx rfl (nx rfl (nx rfl (nx rfl (nx rfl (nx rfl (nx rfl (nx rfl (nx rfl (nx rfl c39_13)))))))))))))
              have c42_99 := (congrFun e42 99).trans (nx rfl (nx rfl (nx rfl (nx rfl (nx rfl (nx rfl (nx rfl (nx rfl (nx rfl (nx rfl (nx rfl (nx rfl (nx rfl c39_99)))))))))))))
              have c42_100 := (congrFun e42 100).trans (nx rfl (nx rfl (nx rfl (nx rfl (nx rfl (nx rfl (nx rfl (nx rfl (nx rfl (nx rfl (nx rfl (nx rfl (nx rfl c39_100)))))))))))))
              have c42_101 := (congrFun e42 101).trans (nx rfl (nx rfl (nx rfl (nx rfl (nx rfl (nx rfl (nx rfl (nx rfl (nx rfl (nx rfl (nx rfl (nx rfl (nx rfl c39_101)))))))))))))
              have c42_119 := (congrFun e42 119).trans (nx rfl (nx rfl (nx rfl (nx rfl (nx rfl (nx rfl (nx rfl (nx rfl (nx rfl (nx rfl (nx rfl (nx rfl (nx rfl c39_119)))))))))))))
              have c42_120 := (congrFun e42 120).trans (nx rfl (nx rfl (nx rfl (nx rfl (nx rfl (nx rfl (nx rfl (nx rfl (nx rfl (nx rfl (nx rfl (nx rfl (nx rfl c39_120)))))))))))))
              have c42_121 := (congrFun e42 121).trans (nx rfl (nx rfl (nx rfl (nx rfl (nx rfl (nx rfl (nx rfl (nx rfl (nx rfl (nx rfl (nx rfl (nx rfl (nx rfl c39_121)))))))))))))
              clear e42
              refine wnil ?_
              refine inBN ?_
              refine hK37 _ _ ?_
              clear hK37
              refine reg ?_
              refine sq rfl (do_inc (tm rfl c42_121) ck (by omega)) ?_
              refine sq rfl (do_move (tm rfl hit)) ?_
              refine wnil ?_
              exact hnn' (succ[i].length - (j + 1)) _ _ (by omega) ⟨j + 1, S + 1, rfl, by omega, (nx rfl (nx rfl c42_1)), (nx rfl (nx rfl c42_3)), (nx rfl (nx rfl c42_4)), (nx rfl (nx rfl c42_5)), (nx rfl (nx rfl c42_6)), (nx rfl (nx rfl c42_8)), (nx rfl (nx rfl c42_9)), (nx rfl (nx rfl c42_99)), (nx rfl (nx rfl c42_100)), (nx rfl (nx rfl c42_101)), (nx rfl (nx rfl c42_10)), (nx rfl (nx rfl c42_119)), (nx rfl (nx rfl c42_120)), hit, hGr2, by omega⟩
          · refine wp_seq_k (fun K43 hK43 => ?_)
            refine cF rfl hit (by simpa using h') ?_
            refine wp_exit ?_
            refine thenE ?_
            exact hx' _ _ ⟨S, (nx rfl t1), (nx rfl t3), (nx rfl t4), (nx rfl t5), (nx rfl t6), (nx rfl t8), (nx rfl t9), (nx rfl t99), (nx rfl t100), (nx rfl t101), hGr, by omega⟩
        clear t1 t3 t4 t5 t6 t8 t9 t99 t100 t101 hGrx hSb
        rintro τ wi ⟨S, t1, t3, t4, t5, t6, t8, t9, t99, t100, t101, hGr, hSb⟩
        refine inBN ?_
        refine hK27 _ _ ?_
        clear hK27
        refine reg ?_
        refine sq rfl (do_inc (tm rfl t101) ck (by omega)) ?_
        refine sq rfl (do_move (tm rfl hit)) ?_
        refine wnil ?_
        exact hnn (n - (i + 1)) _ _ (by omega) ⟨i + 1, S, rfl, by omega, (nx rfl (nx rfl t1)), (nx rfl (nx rfl t3)), (nx rfl (nx rfl t4)), (nx rfl (nx rfl t5)), (nx rfl (nx rfl t6)), (nx rfl (nx rfl t8)), (nx rfl (nx rfl t9)), (nx rfl (nx rfl t99)), (nx rfl (nx rfl t100)), hit, hGr, by omega⟩
    · refine wp_seq_k (fun K44 hK44 => ?_)
      refine cF rfl hit (by simpa using h) ?_
      refine wp_exit ?_
      refine thenE ?_
      have := sumLen_take_le succ i
      exact hx _ _ ⟨S, (nx rfl t1), (nx rfl t3), (nx rfl t4), (nx rfl t5), (nx rfl t6), (nx rfl t8), (nx rfl t9), hGr, by omega⟩
  clear t1 t3 t4 t5 t6 hGr0
  rintro τ wi ⟨S, t1, t3, t4, t5, t6, t8, t9, hGr, hSb⟩
  refine hK22 _ _ ?_
  clear hK22
  obtain ⟨G, _, _, hsG, kG, _, _, hsbG, _⟩ := id hGr
  obtain ⟨Bd, hB0, hBs, hBm⟩ : ∃ Bd : Nat → Nat, Bd 0 = 10000000000 ∧ (∀ j, Bd (j + 1) = Bd j + 131072) ∧ (∀ j, j ≤ 65536 → Bd j ≤ 20000000000) :=
    ⟨fun j => 10000000000 + j * 131072, by simp, fun j => by show 10000000000 + (j + 1) * 131072 = 10000000000 + j * 131072 + 131072; rw [Nat.add_mul]; omega, fun j hj => by show 10000000000 + j * 131072 ≤ 20000000000; omega⟩
  obtain ⟨C, hC⟩ : ∃ C : Nat, C = 65536 := ⟨_, rfl⟩
  refine wp_seq_k (fun K45 hK45 => ?_)
  refine wp_seq_k (fun K46 hK46 => ?_)
  refine reg ?_
  refine sq rfl (do_load T45 rfl (tm rfl t1) ((kG.vb (t := 64) (by decide) hv0).cell hsG (i := 0) rfl)) ?_
  refine sq rfl (do_nilCheck (tm rfl hit)) ?_
  refine sq rfl (fa72_6 (tm rfl hit)) ?_
  refine sq rfl (do_load T22 rfl (tm rfl hit) (hsbG.cell hsG (i := 6) rfl)) ?_
  refine sq rfl (do_len Try.underlying22 (tm rfl hit)) ?_
  refine sq rfl (do_move (v := .int .i64 ((0 : Nat) : Int)) rfl) ?_
  refine cutL ?_
  intro τ47 e47
  have c47_1 := (congrFun e47 1).trans (nx rfl (nx rfl (nx rfl (nx rfl (nx rfl (nx rfl t1))))))
  have c47_3 := (congrFun e47 3).trans (nx rfl (nx rfl (nx rfl (nx rfl (nx rfl (nx rfl t3))))))
  have c47_4 := (congrFun e47 4).trans (nx rfl (nx rfl (nx rfl (nx rfl (nx rfl (nx rfl t4))))))
  have c47_5 := (congrFun e47 5).trans (nx rfl (nx rfl (nx rfl (nx rfl (nx rfl (nx rfl t5))))))
  have c47_6 := (congrFun e47 6).trans (nx rfl (nx rfl (nx rfl (nx rfl (nx rfl (nx rfl t6))))))
  have c47_8 := (congrFun e47 8).trans (nx rfl (nx rfl (nx rfl (nx rfl (nx rfl (nx rfl t8))))))
  have c47_9 := (congrFun e47 9).trans (nx rfl (nx rfl (nx rfl (nx rfl (nx rfl (nx rfl t9))))))
  have c47_143 := (congrFun e47 143).trans (nx rfl (nx rfl hit))
  have c47_144 := (congrFun e47 144).trans (nx rfl hit)
  have c47_145 := (congrFun e47 145).trans hit
  clear e47
  refine wnil ?_
  refine hK46 _ _ ?_
  clear hK46
  clear hsG kG hsbG
  refine forLoop (N := 304) (fun r τ wi => ∃ (j S : Nat), r = its.length - j ∧ j ≤ its.length ∧ τ 1 = .pointer (some ⟨bv, 0, none⟩) ∧ τ 3 = .int .i64 (n : Int) ∧ τ 4 = .int .i64 (size : Int) ∧ τ 5 = .pointer (some ⟨bsv, 0, none⟩) ∧ τ 6 = .pointer (some ⟨bpv, 0, none⟩) ∧ τ 8 = .func (.func 40) #[] #[.pointer (some ⟨bsv, 0, none⟩), .pointer (some ⟨bpv, 0, none⟩), .pointer (some ⟨bv, 0, none⟩)] ∧ τ 9 = .func (.func 41) #[] #[.pointer (some ⟨bv, 0, none⟩)] ∧ τ 143 = .slice ita its.length itc ∧ τ 144 = .int .i64 (its.length : Int) ∧ τ 145 = .int .i64 (j : Int) ∧ Gr N w0 H0 (.slice ga size gc) pa pc sb size ((SCs pb bSo bLo bNo bW k n m its.length itc ita 1073741824) (.slice ga size gc) (.slice pa size pc)) R wi S ∧ S ≤ Bd j)
    (fun τ wi => ∃ (S : Nat), τ 1 = .pointer (some ⟨bv, 0, none⟩) ∧ τ 3 = .int .i64 (n : Int) ∧ τ 4 = .int .i64 (size : Int) ∧ τ 5 = .pointer (some ⟨bsv, 0, none⟩) ∧ τ 6 = .pointer (some ⟨bpv, 0, none⟩) ∧ τ 8 = .func (.func 40) #[] #[.pointer (some ⟨bsv, 0, none⟩), .pointer (some ⟨bpv, 0, none⟩), .pointer (some ⟨bv, 0, none⟩)] ∧ τ 9 = .func (.func 41) #[] #[.pointer (some ⟨bv, 0, none⟩)] ∧ Gr N w0 H0 (.slice ga size gc) pa pc sb size ((SCs pb bSo bLo bNo bW k n m its.length itc ita 1073741824) (.slice ga size gc) (.slice pa size pc)) R wi S ∧ S ≤ 20000000000) its.length ?_ ?_ ?_
  · exact ⟨0, S, rfl, Nat.zero_le _, c47_1, c47_3, c47_4, c47_5, c47_6, c47_8, c47_9, c47_143, c47_144, c47_145, hGr, by rw [hB0]; exact hSb⟩
  · clear t1 t3 t4 t5 t6 t8 t9 hGr hSb
    rintro Q' r τ wi hnn hx hr ⟨j, S, rfl, hj, t1, t3, t4, t5, t6, t8, t9, t143, t144, t145, hGr, hSb⟩
    refine wp_seq_k (fun K48 hK48 => ?_)
    refine reg ?_
    refine sq rfl (do_lss (tm rfl t145) (tm rfl t144)) ?_
    refine wnil ?_
    refine hK48 _ _ ?_
    clear hK48
    by_cases h : j < its.length
    · refine wp_seq_k (fun K49 hK49 => ?_)
      refine cT rfl hit (by simpa using h) ?_
      refine wp_skip ?_
      refine hK49 _ _ ?_
      clear hK49
      obtain ⟨x, hxe, hxk, s, hso, hsd⟩ := hB j h
      have hbs := hBs j
      have hbm := hBm j (by omega)
      obtain ⟨G, _, _, hsG, kG, _, _, hsbG, _⟩ := id hGr
      have hrI : RowV (G 56) 3 1 (.slice ita its.length itc) its.length (its.flatMap encI) := by rw [kG 56 (by decide)]; exact hIt0
      obtain ⟨gi, hgi, hci, _⟩ := hrI.cellS hsG (cellI h)
      rw [hxe] at hci
      refine wp_seq_k (fun K50 hK50 => ?_)
      refine wp_block ?_
      refine wp_seq_k (fun K51 hK51 => ?_)
      refine reg ?_
      refine sq rfl (do_move (tm rfl (nx rfl t145))) ?_
      refine sq rfl (ix22 ((tm rfl (nx rfl (nx rfl t143))).trans (congrArg (fun z => Value.slice z its.length itc) hgi)) (tm rfl (nx rfl (nx rfl t145))) h) ?_
      refine sq rfl (do_load T3 rfl (tm rfl hit) hci) ?_
      refine sq rfl (do_assign (tm rfl (nx rfl (nx rfl hit)))) ?_
      refine sq rfl (do_assign (tm rfl (nx rfl hit))) ?_
      refine cutL ?_
      intro τ52 e52
      have c52_1 := (congrFun e52 1).trans (nx rfl (nx rfl (nx rfl (nx rfl (nx rfl (nx rfl t1))))))
      have c52_3 := (congrFun e52 3).trans (nx rfl (nx rfl (nx rfl (nx rfl (nx rfl (nx rfl t3))))))
      have c52_4 := (congrFun e52 4).trans (nx rfl (nx rfl (nx rfl (nx rfl (nx rfl (nx rfl t4))))))
      have c52_5 := (congrFun e52 5).trans (nx rfl (nx rfl (nx rfl (nx rfl (nx rfl (nx rfl t5))))))
      have c52_6 := (congrFun e52 6).trans (nx rfl (nx rfl (nx rfl (nx rfl (nx rfl (nx rfl t6))))))
      have c52_8 := (congrFun e52 8).trans (nx rfl (nx rfl (nx rfl (nx rfl (nx rfl (nx rfl t8))))))
      have c52_9 := (congrFun e52 9).trans (nx rfl (nx rfl (nx rfl (nx rfl (nx rfl (nx rfl t9))))))
      have c52_14 := (congrFun e52 14).trans (nx rfl hit)
      have c52_15 := (congrFun e52 15).trans hit
      have c52_143 := (congrFun e52 143).trans (nx rfl (nx rfl (nx rfl (nx rfl (nx rfl (nx rfl t143))))))
      have c52_144 := (congrFun e52 144).trans (nx rfl (nx rfl (nx rfl (nx rfl (nx rfl (nx rfl t144))))))
      have c52_145 := (congrFun e52 145).trans (nx rfl (nx rfl (nx rfl (nx rfl (nx rfl (nx rfl t145))))))
      clear e52
      refine wnil ?_
      refine hK51 _ _ ?_
      clear hK51
      refine wp_seq_k (fun K53 hK53 => ?_)
      refine reg ?_
      refine sq rfl (do_load T45 rfl (tm rfl c52_1) ((kG.vb (t := 64) (by decide) hv0).cell hsG (i := 0) rfl)) ?_
      refine sq rfl (do_nilCheck (tm rfl hit)) ?_
      refine sq rfl (fa72_2 (tm rfl hit)) ?_
      refine sq rfl (do_load T22 rfl (tm rfl hit) (hsbG.cell hsG (i := 2) rfl)) ?_
      refine sq rfl (do_move (tm rfl (nx rfl (nx rfl (nx rfl (nx rfl c52_15)))))) ?_
      refine sq rfl (ix22 (tm rfl (nx rfl hit)) (tm rfl hit) (by omega)) ?_
      refine sq rfl (do_load T3 rfl (tm rfl hit) ((kG.vb (t := 50) (by decide) hSo0).cell hsG (show (ints so)[x]? = some (.int .i64 s) by simp [ints, hso]))) ?_
      refine sq rfl (do_assign (tm rfl hit)) ?_
      refine cutL ?_
      intro τ54 e54
      have c54_1 := (congrFun e54 1).trans (nx rfl (nx rfl (nx rfl (nx rfl (nx rfl (nx rfl (nx rfl (nx rfl c52_1))))))))
      have c54_3 := (congrFun e54 3).trans (nx rfl (nx rfl (nx rfl (nx rfl (nx rfl (nx rfl (nx rfl (nx rfl c52_3))))))))
      have c54_4 := (congrFun e54 4).trans (nx rfl (nx rfl (nx rfl (nx rfl (nx rfl (nx rfl (nx rfl (nx rfl c52_4))))))))
      have c54_5 := (congrFun e54 5).trans (nx rfl (nx rfl (nx rfl (nx rfl (nx rfl (nx rfl (nx rfl (nx rfl c52_5))))))))
      have c54_6 := (congrFun e54 6).trans (nx rfl (nx rfl (nx rfl (nx rfl (nx rfl (nx rfl (nx rfl (nx rfl c52_6))))))))
      have c54_8 := (congrFun e54 8).trans (nx rfl (nx rfl (nx rfl (nx rfl (nx rfl (nx rfl (nx rfl (nx rfl c52_8))))))))
      have c54_9 := (congrFun e54 9).trans (nx rfl (nx rfl (nx rfl (nx rfl (nx rfl (nx rfl (nx rfl (nx rfl c52_9))))))))
      have c54_14 := (congrFun e54 14).trans (nx rfl (nx rfl (nx rfl (nx rfl (nx rfl (nx rfl (nx rfl (nx rfl c52_14))))))))
      have c54_15 := (congrFun e54 15).trans (nx rfl (nx rfl (nx rfl (nx rfl (nx rfl (nx rfl (nx rfl (nx rfl c52_15))))))))
      have c54_16 := (congrFun e54 16).trans hit
      have c54_143 := (congrFun e54 143).trans (nx rfl (nx rfl (nx rfl (nx rfl (nx rfl (nx rfl (nx rfl (nx rfl c52_143))))))))
      have c54_144 := (congrFun e54 144).trans (nx rfl (nx rfl (nx rfl (nx rfl (nx rfl (nx rfl (nx rfl (nx rfl c52_144))))))))
      have c54_145 := (congrFun e54 145).trans (nx rfl (nx rfl (nx rfl (nx rfl (nx rfl (nx rfl (nx rfl (nx rfl c52_145))))))))
      clear e54
      refine wnil ?_
      refine hK53 _ _ ?_
      clear hK53
      clear hsG kG hsbG hrI hci
      refine wp_seq_k (fun K55 hK55 => ?_)
      refine wp_seq_k (fun K56 hK56 => ?_)
      refine reg ?_
      refine sq rfl (do_move (tm rfl c54_16)) ?_
      refine sq rfl (do_lss (tm rfl hit) ck) ?_
      refine wnil ?_
      refine hK56 _ _ ?_
      clear hK56
      by_cases hs0 : s < 0
      · refine cT rfl hit (by simpa using hs0) ?_
        refine wp_exit ?_
        refine thenE ?_
        refine inB ?_
        refine hK50 _ _ ?_
        clear hK50
        refine reg ?_
        refine sq rfl (do_inc (tm rfl (nx rfl (nx rfl c54_145))) ck (by omega)) ?_
        refine sq rfl (do_move (tm rfl hit)) ?_
        refine cutL ?_
        intro τ57 e57
        have c57_1 := (congrFun e57 1).trans (nx rfl (nx rfl (nx rfl (nx rfl c54_1))))
        have c57_3 := (congrFun e57 3).trans (nx rfl (nx rfl (nx rfl (nx rfl c54_3))))
        have c57_4 := (congrFun e57 4).trans (nx rfl (nx rfl (nx rfl (nx rfl c54_4))))
        have c57_5 := (congrFun e57 5).trans (nx rfl (nx rfl (nx rfl (nx rfl c54_5))))
        have c57_6 := (congrFun e57 6).trans (nx rfl (nx rfl (nx rfl (nx rfl c54_6))))
        have c57_8 := (congrFun e57 8).trans (nx rfl (nx rfl (nx rfl (nx rfl c54_8))))
        have c57_9 := (congrFun e57 9).trans (nx rfl (nx rfl (nx rfl (nx rfl c54_9))))
        have c57_14 := (congrFun e57 14).trans (nx rfl (nx rfl (nx rfl (nx rfl c54_14))))
        have c57_15 := (congrFun e57 15).trans (nx rfl (nx rfl (nx rfl (nx rfl c54_15))))
        have c57_16 := (congrFun e57 16).trans (nx rfl (nx rfl (nx rfl (nx rfl c54_16))))
        have c57_143 := (congrFun e57 143).trans (nx rfl (nx rfl (nx rfl (nx rfl c54_143))))
        have c57_144 := (congrFun e57 144).trans (nx rfl (nx rfl (nx rfl (nx rfl c54_144))))
        have c57_145 := (congrFun e57 145).trans hit
        clear e57
        refine wnil ?_
        exact hnn (its.length - (j + 1)) _ _ (by omega) ⟨j + 1, S, rfl, by omega, c57_1, c57_3, c57_4, c57_5, c57_6, c57_8, c57_9, c57_143, c57_144, c57_145, hGr, by omega⟩
      · refine cF rfl hit (by simpa using hs0) ?_
        refine wp_skip ?_
        refine hK55 _ _ ?_
        clear hK55
        obtain ⟨i, rfl, hiM, hBr, hBw2⟩ := hsd.resolve_left hs0
        have hir : i < readers.length := by omega
        have hxw : x < writers.length := by omega
        rw [show readers.getD i [] = readers[i] by simp [List.getD_eq_getElem?_getD, List.getElem?_eq_getElem hir]] at hBr
        rw [show writers.getD x [] = writers[x] by simp [List.getD_eq_getElem?_getD, List.getElem?_eq_getElem hxw]] at hBw2
        obtain ⟨G, _, _, hsG, kG, _, _, hsbG, _⟩ := id hGr
        have hRdG : TabV (G 6) 22 3 1 encI (.slice da M dc) readers := by rw [kG 6 (by decide)]; exact hRd0
        obtain ⟨gs, cs, hgs, hcs, _, hrs⟩ := hRdG.getS hsG (i := i) hir
        subst hgs
        obtain ⟨ra, rc, rfl⟩ := hrs.slice
        have hlr := len_le_sum readers i hir
        refine wp_seq_k (fun K58 hK58 => ?_)
        refine wp_seq_k (fun K59 hK59 => ?_)
        refine reg ?_
        refine sq rfl (do_load T45 rfl (tm rfl (nx rfl (nx rfl c54_1))) ((kG.vb (t := 64) (by decide) hv0).cell hsG (i := 0) rfl)) ?_
        refine sq rfl (do_nilCheck (tm rfl hit)) ?_
        refine sq rfl (fa72_0 (tm rfl hit)) ?_
        refine sq rfl (do_load T33 rfl (tm rfl hit) (hsbG.cell hsG (i := 0) rfl)) ?_
        refine sq rfl (do_nilCheck (tm rfl hit)) ?_
        refine sq rfl (fa58_4 (tm rfl hit)) ?_
        refine sq rfl (do_load T37 rfl (tm rfl hit) ((kG.vb (t := 1) (by decide) hp0).cell hsG hp4)) ?_
        refine sq rfl (do_move (tm rfl (nx rfl (nx rfl (nx rfl (nx rfl (nx rfl (nx rfl (nx rfl (nx rfl (nx rfl c54_16))))))))))) ?_
        refine sq rfl (ix37 (tm rfl (nx rfl hit)) (tm rfl hit) (by omega)) ?_
        refine sq rfl (do_load T22 rfl (tm rfl hit) hcs) ?_
        refine sq rfl (do_len Try.underlying22 (tm rfl hit)) ?_
        refine sq rfl (do_move (v := .int .i64 ((0 : Nat) : Int)) rfl) ?_
        refine cutL ?_
        intro τ60 e60
        have c60_1 := (congrFun e60 1).trans (nx rfl (nx rfl (nx rfl (nx rfl (nx rfl (nx rfl (nx rfl (nx rfl (nx rfl (nx rfl (nx rfl (nx rfl (nx rfl (nx rfl c54_1))))))))))))))
        have c60_3 := (congrFun e60 3).trans (nx rfl (nx rfl (nx rfl (nx rfl (nx rfl (nx rfl (nx rfl (nx rfl (nx rfl (nx rfl (nx rfl (nx rfl (nx rfl (nx rfl c54_3))))))))))))))
        have c60_4 := (congrFun e60 4).trans (nx rfl (nx rfl (nx rfl (nx rfl (nx rfl (nx rfl (nx rfl (nx rfl (nx rfl (nx rfl (nx rfl (nx rfl (nx rfl (nx rfl c54_4))))))))))))))
        have c60_5 := (congrFun e60 5).trans (nx rfl (nx rfl (nx rfl (nx rfl (nx rfl (nx rfl (nx rfl (nx rfl (nx rfl (nx rfl (nx rfl (nx rfl (nx rfl (nx rfl c54_5))))))))))))))
        have c60_6 := (congrFun e60 6).trans (nx rfl (nx rfl (nx rfl (nx rfl (nx rfl (nx rfl (nx rfl (nx rfl (nx rfl (nx rfl (nx rfl (nx rfl (nx rfl (nx rfl c54_6))))))))))))))
        have c60_8 := (congrFun e60 8).trans (nx rfl (nx rfl (nx rfl (nx rfl (nx rfl (nx rfl (nx rfl (nx rfl (nx rfl (nx rfl (nx rfl (nx rfl (nx rfl (nx rfl c54_8))))))))))))))
        have c60_9 := (congrFun e60 9).trans (nx rfl (nx rfl (nx rfl (nx rfl (nx rfl (nx rfl (nx rfl (nx rfl (nx rfl (nx rfl (nx rfl (nx rfl (nx rfl (nx rfl c54_9))))))))))))))
        have c60_14 := (congrFun e60 14).trans (nx rfl (nx rfl (nx rfl (nx rfl (nx rfl (nx rfl (nx rfl (nx rfl (nx rfl (nx rfl (nx rfl (nx rfl (nx rfl (nx rfl c54_14))))))))))))))
        have c60_15 := (congrFun e60 15).trans (nx rfl (nx rfl (nx rfl (nx rfl (nx rfl (nx rfl (nx rfl (nx rfl (nx rfl (nx rfl (nx rfl (nx rfl (nx rfl (nx rfl c54_15))))))))))))))
        have c60_16 := (congrFun e60 16).trans (nx rfl (nx rfl (nx rfl (nx rfl (nx rfl (nx rfl (nx rfl (nx rfl (nx rfl (nx rfl (nx rfl (nx rfl (nx rfl (nx rfl c54_16))))))))))))))
        have c60_143 := (congrFun e60 143).trans (nx rfl (nx rfl (nx rfl (nx rfl (nx rfl (nx rfl (nx rfl (nx rfl (nx rfl (nx rfl (nx rfl (nx rfl (nx rfl (nx rfl c54_143))))))))))))))
        have c60_144 := (congrFun e60 144).trans (nx rfl (nx rfl (nx rfl (nx rfl (nx rfl (nx rfl (nx rfl (nx rfl (nx rfl (nx rfl (nx rfl (nx rfl (nx rfl (nx rfl c54_144))))))))))))))
        have c60_145 := (congrFun e60 145).trans (nx rfl (nx rfl (nx rfl (nx rfl (nx rfl (nx rfl (nx rfl (nx rfl (nx rfl (nx rfl (nx rfl (nx rfl (nx rfl (nx rfl c54_145))))))))))))))
        have c60_168 := (congrFun e60 168).trans (nx rfl (nx rfl hit))
        have c60_169 := (congrFun e60 169).trans (nx rfl hit)
        have c60_170 := (congrFun e60 170).trans hit
        clear e60
        refine wnil ?_
        refine hK59 _ _ ?_
        clear hK59
        rw [kG 6 (by decide)] at hrs
        clear hsG kG hsbG hRdG hcs
        refine forLoop (N := 304) (fun r τ wi => ∃ (p S : Nat), r = readers[i].length - p ∧ p ≤ readers[i].length ∧ τ 1 = .pointer (some ⟨bv, 0, none⟩) ∧ τ 3 = .int .i64 (n : Int) ∧ τ 4 = .int .i64 (size : Int) ∧ τ 5 = .pointer (some ⟨bsv, 0, none⟩) ∧ τ 6 = .pointer (some ⟨bpv, 0, none⟩) ∧ τ 8 = .func (.func 40) #[] #[.pointer (some ⟨bsv, 0, none⟩), .pointer (some ⟨bpv, 0, none⟩), .pointer (some ⟨bv, 0, none⟩)] ∧ τ 9 = .func (.func 41) #[] #[.pointer (some ⟨bv, 0, none⟩)] ∧ τ 143 = .slice ita its.length itc ∧ τ 144 = .int .i64 (its.length : Int) ∧ τ 145 = .int .i64 (j : Int) ∧ τ 14 = .int .i64 (j : Int) ∧ τ 15 = .int .i64 (x : Int) ∧ τ 16 = .int .i64 (i : Int) ∧ τ 168 = .slice ra readers[i].length rc ∧ τ 169 = .int .i64 (readers[i].length : Int) ∧ τ 170 = .int .i64 (p : Int) ∧ Gr N w0 H0 (.slice ga size gc) pa pc sb size ((SCs pb bSo bLo bNo bW k n m its.length itc ita 1073741824) (.slice ga size gc) (.slice pa size pc)) R wi S ∧ S ≤ Bd j + p)
          (fun τ wi => ∃ (S : Nat), τ 1 = .pointer (some ⟨bv, 0, none⟩) ∧ τ 3 = .int .i64 (n : Int) ∧ τ 4 = .int .i64 (size : Int) ∧ τ 5 = .pointer (some ⟨bsv, 0, none⟩) ∧ τ 6 = .pointer (some ⟨bpv, 0, none⟩) ∧ τ 8 = .func (.func 40) #[] #[.pointer (some ⟨bsv, 0, none⟩), .pointer (some ⟨bpv, 0, none⟩), .pointer (some ⟨bv, 0, none⟩)] ∧ τ 9 = .func (.func 41) #[] #[.pointer (some ⟨bv, 0, none⟩)] ∧ τ 143 = .slice ita its.length itc ∧ τ 144 = .int .i64 (its.length : Int) ∧ τ 145 = .int .i64 (j : Int) ∧ τ 14 = .int .i64 (j : Int) ∧ τ 15 = .int .i64 (x : Int) ∧ τ 16 = .int .i64 (i : Int) ∧ Gr N w0 H0 (.slice ga size gc) pa pc sb size ((SCs pb bSo bLo bNo bW k n m its.length itc ita 1073741824) (.slice ga size gc) (.slice pa size pc)) R wi S ∧ S ≤ Bd j + C) readers[i].length ?_ ?_ ?_
        · exact ⟨0, S, rfl, Nat.zero_le _, c60_1, c60_3, c60_4, c60_5, c60_6, c60_8, c60_9, c60_143, c60_144, c60_145, c60_14, c60_15, c60_16, c60_168, c60_169, c60_170, hGr, by omega⟩
        · clear t1 t3 t4 t5 t6 t8 t9 t143 t144 t145 hGr hSb
          rintro Q'' r τ wi hnn' hx' hr' ⟨p, S, rfl, hpp, t1, t3, t4, t5, t6, t8, t9, t143, t144, t145, t14, t15, t16, t168, t169, t170, hGr, hSb⟩
          refine wp_seq_k (fun K61 hK61 => ?_)
          refine reg ?_
          refine sq rfl (do_lss (tm rfl t170) (tm rfl t169)) ?_
          refine wnil ?_
          refine hK61 _ _ ?_
          clear hK61
          by_cases h' : p < readers[i].length
          · refine wp_seq_k (fun K62 hK62 => ?_)
            refine cT rfl hit (by simpa using h') ?_
            refine wp_skip ?_
            refine hK62 _ _ ?_
            clear hK62
            obtain ⟨G, _, _, hsG, kG, _⟩ := id hGr
            have hrG : RowV (G 6) 3 1 (.slice ra readers[i].length rc) readers[i].length (readers[i].flatMap encI) := by rw [kG 6 (by decide)]; exact hrs
            obtain ⟨gu, rfl, hcu, _⟩ := hrG.cellS hsG (cellI h')
            obtain ⟨u, hue, hun, hur⟩ := hBr readers[i][p] (List.getElem_mem _)
            rw [hue] at hcu
            refine wp_seq_k (fun K63 hK63 => ?_)
            refine wp_block ?_
            refine wp_seq_k (fun K64 hK64 => ?_)
            refine reg ?_
            refine sq rfl (ix22 (tm rfl (nx rfl t168)) (tm rfl (nx rfl t170)) (by omega)) ?_
            refine sq rfl (do_load T3 rfl (tm rfl hit) hcu) ?_
            refine sq rfl (do_assign (tm rfl hit)) ?_
            refine cutL ?_
            intro τ65 e65
            have c65_1 := (congrFun e65 1).trans (nx rfl (nx rfl (nx rfl (nx rfl t1))))
            have c65_3 := (congrFun e65 3).trans (nx rfl (nx rfl (nx rfl (nx rfl t3))))
            have c65_4 := (congrFun e65 4).trans (nx rfl (nx rfl (nx rfl (nx rfl t4))))
            have c65_5 := (congrFun e65 5).trans (nx rfl (nx rfl (nx rfl (nx rfl t5))))
            have c65_6 := (congrFun e65 6).trans (nx rfl (nx rfl (nx rfl (nx rfl t6))))
            have c65_8 := (congrFun e65 8).trans (nx rfl (nx rfl (nx rfl (nx rfl t8))))
            have c65_9 := (congrFun e65 9).trans (nx rfl (nx rfl (nx rfl (nx rfl t9))))
            have c65_14 := (congrFun e65 14).trans (nx rfl (nx rfl (nx rfl (nx rfl t14))))
            have c65_15 := (congrFun e65 15).trans (nx rfl (nx rfl (nx rfl (nx rfl t15))))
            have c65_16 := (congrFun e65 16).trans (nx rfl (nx rfl (nx rfl (nx rfl t16))))
            have c65_18 := (congrFun e65 18).trans hit
            have c65_143 := (congrFun e65 143).trans (nx rfl (nx rfl (nx rfl (nx rfl t143))))
            have c65_144 := (congrFun e65 144).trans (nx rfl (nx rfl (nx rfl (nx rfl t144))))
            have c65_145 := (congrFun e65 145).trans (nx rfl (nx rfl (nx rfl (nx rfl t145))))
            have c65_168 := (congrFun e65 168).trans (nx rfl (nx rfl (nx rfl (nx rfl t168))))
            have c65_169 := (congrFun e65 169).trans (nx rfl (nx rfl (nx rfl (nx rfl t169))))
            have c65_170 := (congrFun e65 170).trans (nx rfl (nx rfl (nx rfl (nx rfl t170))))
            clear e65
            refine wnil ?_
            refine hK64 _ _ ?_
            clear hK64
            clear hsG kG hrG hcu
            refine wp_seq_k (fun K66 hK66 => ?_)
            refine reg ?_
            refine sq rfl (do_move (tm rfl c65_9)) ?_
            refine sq rfl (do_move (tm rfl (nx rfl c65_18))) ?_
            refine sqc (R := fun cv w' => cv = .bool (!pl u) ∧ Gr N w0 H0 (.slice ga size gc) pa pc sb size ((SCs pb bSo bLo bNo bW k n m its.length itc ita 1073741824) (.slice ga size gc) (.slice pa size pc)) R w' S) rfl (run_callV Try.func41 nm41 bd41 (map1 (tm rfl hit)) (tm rfl (nx rfl hit))) ((UP wi S u hun hGr).mono ?_) ?_
            · rintro e w' ⟨rfl, rfl⟩
              exact ⟨_, rfl, rfl, hGr.drew.drew⟩
            rintro cv xw ⟨rfl, hGrx⟩
            refine wnil ?_
            refine hK66 _ _ ?_
            clear hK66
            by_cases hpu : pl u = true
            · refine cF rfl hit (by simp [hpu]) ?_
              refine wp_skip ?_
              refine inBN ?_
              refine hK63 _ _ ?_
              clear hK63
              refine reg ?_
              refine sq rfl (do_inc (tm rfl (nx rfl (nx rfl (nx rfl c65_170)))) ck (by omega)) ?_
              refine sq rfl (do_move (tm rfl hit)) ?_
              refine cutL ?_
              intro τ67 e67
              have c67_1 := (congrFun e67 1).trans (nx rfl (nx rfl (nx rfl (nx rfl (nx rfl c65_1)))))
              have c67_3 := (congrFun e67 3).trans (nx rfl (nx rfl (nx rfl (nx rfl (nx rfl c65_3)))))
              have c67_4 := (congrFun e67 4).trans (nx rfl (nx rfl (nx rfl (nx rfl (nx rfl c65_4)))))
              have c67_5 := (congrFun e67 5).trans (nx rfl (nx rfl (nx rfl (nx rfl (nx rfl c65_5)))))
              have c67_6 := (congrFun e67 6).trans (nx rfl (nx rfl (nx rfl (nx rfl (nx rfl c65_6)))))
              have c67_8 := (congrFun e67 8).trans (nx rfl (nx rfl (nx rfl (nx rfl (nx rfl c65_8)))))
              have c67_9 := (congrFun e67 9).trans (nx rfl (nx rfl (nx rfl (nx rfl (nx rfl c65_9)))))
              have c67_14 := (congrFun e67 14).trans (nx rfl (nx rfl (nx rfl (nx rfl (nx rfl c65_14)))))
              have c67_15 := (congrFun e67 15).trans (nx rfl (nx rfl (nx rfl (nx rfl (nx rfl c65_15)))))
              have c67_16 := (congrFun e67 16).trans (nx rfl (nx rfl (nx rfl (nx rfl (nx rfl c65_16)))))
              have c67_18 := (congrFun e67 18).trans (nx rfl (nx rfl (nx rfl (nx rfl (nx rfl c65_18)))))
              have c67_143 := (congrFun e67 143).trans (nx rfl (nx rfl (nx rfl (nx rfl (nx rfl c65_143)))))
              have c67_144 := (congrFun e67 144).trans (nx rfl (nx rfl (nx rfl (nx rfl (nx rfl c65_144)))))
              have c67_145 := (congrFun e67 145).trans (nx rfl (nx rfl (nx rfl (nx rfl (nx rfl c65_145)))))
              have c67_168 := (congrFun e67 168).trans (nx rfl (nx rfl (nx rfl (nx rfl (nx rfl c65_168)))))
              have c67_169 := (congrFun e67 169).trans (nx rfl (nx rfl (nx rfl (nx rfl (nx rfl c65_169)))))
              have c67_170 := (congrFun e67 170).trans hit
              clear e67
              refine wnil ?_
              exact hnn' (readers[i].length - (p + 1)) _ _ (by omega) ⟨p + 1, S, rfl, by omega, c67_1, c67_3, c67_4, c67_5, c67_6, c67_8, c67_9, c67_143, c67_144, c67_145, c67_14, c67_15, c67_16, c67_168, c67_169, c67_170, hGrx, by omega⟩
            · have hpuf : pl u = false := by simpa using hpu
              refine cT rfl hit (by simp [hpuf]) ?_
              obtain ⟨G, _, _, hsG, kG, _, _, hsbG, _⟩ := id hGrx
              refine reg ?_
              refine sq rfl (do_move (tm rfl (nx rfl (nx rfl (nx rfl c65_8))))) ?_
              refine sq rfl (do_load T45 rfl (tm rfl (nx rfl (nx rfl (nx rfl (nx rfl c65_1))))) ((kG.vb (t := 64) (by decide) hv0).cell hsG (i := 0) rfl)) ?_
              refine sq rfl (do_nilCheck (tm rfl hit)) ?_
              refine sq rfl (fa72_4 (tm rfl hit)) ?_
              refine sq rfl (do_load T22 rfl (tm rfl hit) (hsbG.cell hsG (i := 4) rfl)) ?_
              refine sq rfl (do_move (tm rfl (nx rfl (nx rfl (nx rfl (nx rfl (nx rfl (nx rfl (nx rfl (nx rfl c65_18)))))))))) ?_
              refine sq rfl (ix22 (tm rfl (nx rfl hit)) (tm rfl hit) (by omega)) ?_
              refine sq rfl (do_load T3 rfl (tm rfl hit) ((kG.vb (t := 55) (by decide) hLo0).cell hsG (rng_get hun))) ?_
              refine sq rfl (do_move (tm rfl (nx rfl (nx rfl (nx rfl (nx rfl (nx rfl (nx rfl (nx rfl (nx rfl (nx rfl (nx rfl (nx rfl c65_3))))))))))))) ?_
              refine sq rfl (do_move (tm rfl (nx rfl (nx rfl (nx rfl (nx rfl (nx rfl (nx rfl (nx rfl (nx rfl (nx rfl (nx rfl (nx rfl (nx rfl c65_14)))))))))))))) ?_
              refine sq rfl (do_addN (tm rfl (nx rfl hit)) (tm rfl hit) rfl (by omega)) ?_
              clear hsG kG hsbG
              refine sqc (R := fun _ w' => Gr N w0 H0 (.slice ga size gc) pa pc sb size ((SCs pb bSo bLo bNo bW k n m its.length itc ita 1073741824) (.slice ga size gc) (.slice pa size pc)) R w' (S + 1)) rfl (run_callV Try.func40 nm40 bd40 (map2 (tm rfl (nx rfl (nx rfl (nx rfl hit)))) (tm rfl hit)) (tm rfl (nx rfl (nx rfl (nx rfl (nx rfl (nx rfl (nx rfl (nx rfl (nx rfl (nx rfl (nx rfl hit)))))))))))) ((edgeD hGrx hsv0 hpv0 hv0 hscl u (n + j) (by omega) (by omega) (hur hpuf) (by omega) (by omega)).mono ?_) ?_
              · rintro e w' ⟨v', rfl, hh⟩
                exact ⟨_, rfl, hh⟩
              rintro cv xw2 hGr2
              refine cutL ?_
              intro τ68 e68
              have c68_1 := (congrFun e68 1).trans (nx rfl (nx rfl (nx rfl (nx rfl (nx rfl (nx rfl (nx rfl (nx rfl (nx rfl (nx rfl (nx rfl (nx rfl (nx rfl (nx rfl (nx rfl c65_1)))))))))))))))
              have c68_3 := (congrFun e68 3).trans (nx rfl (nx rfl (nx rfl (nx rfl (nx rfl (nx rfl (nx rfl (nx rfl (nx rfl (nx rfl (nx rfl (nx rfl (nx rfl (nx rfl (nx rfl c65_3)))))))))))))))
              have c68_4 := (congrFun e68 4).trans (nx rfl (nx rfl (nx rfl (nx rfl (nx rfl (nx rfl (nx rfl (nx rfl (nx rfl (nx rfl (nx rfl (nx rfl (nx rfl (nx rfl (nx rfl c65_4)))))))))))))))
              have c68_5 := (congrFun e68 5).trans (nx rfl (nx rfl (nx rfl (nx rfl (nx rfl (nx rfl (nx rfl (nx rfl (nx rfl (nx rfl (nx rfl (nx rfl (nx rfl (nx rfl (nx rfl c65_5)))))))))))))))
              have c68_6 := (congrFun e68 6).trans (nx rfl (nx rfl (nx rfl (nx rfl (nx rfl (nx rfl (nx rfl (nx rfl (nx rfl (nx rfl (nx rfl (nx rfl (nx rfl (nx rfl (nx rfl c65_6)))))))))))))))
              have c68_8 := (congrFun e68 8).trans (nx rfl (nx rfl (nx rfl (nx rfl (nx rfl (nx rfl (nx rfl (nx rfl (nx rfl (nx rfl (nx rfl (nx rfl (nx rfl (nx rfl (nx rfl c65_8)))))))))))))))
              have c68_9 := (congrFun e68 9).trans (nx rfl (nx rfl (nx rfl (nx rfl (nx rfl (nx rfl (nx rfl (nx rfl (nx rfl (nx rfl (nx rfl (nx rfl (nx rfl (nx rfl (nx rfl c65_9)))))))))))))))
              have c68_14 := (congrFun e68 14).trans (nx rfl (nx rfl (nx rfl (nx rfl (nx rfl (nx rfl (nx rfl (nx rfl (nx rfl (nx rfl (nx rfl (nx rfl (nx rfl (nx rfl (nx rfl c65_14)))))))))))))))
              have c68_15 := (congrFun e68 15).trans (nx rfl (nx rfl (nx rfl (nx rfl (nx rfl (nx rfl (nx rfl (nx rfl (nx rfl (nx rfl (nx rfl (nx rfl (nx rfl (nx rfl (nx rfl c65_15)))))))))))))))
              have c68_16 := (congrFun e68 16).trans (nx rfl (nx rfl (nx rfl (nx rfl (nx rfl (nx rfl (nx rfl (nx rfl (nx rfl (nx rfl (nx rfl (nx rfl (nx rfl (nx rfl (nx rfl c65_16)))))))))))))))
              have c68_18 := (congrFun e68 18).trans (nx rfl (nx rfl (nx rfl (nx rfl (nx rfl (nx rfl (nx rfl (nx rfl (nx rfl (nx rfl (nx rfl (nx rfl (nx rfl (nx rfl (nx rfl c65_18)))))))))))))))
              have c68_143 := (congrFun e68 143).trans (nx rfl (nx rfl (nx rfl (nx rfl (nx rfl (nx rfl (nx rfl (nx rfl (nx rfl (nx rfl (nx rfl (nx rfl (nx rfl (nx rfl (nx rfl c65_143)))))))))))))))
              have c68_144 := (congrFun e68 144).trans (nx rfl (nx rfl (nx rfl (nx rfl (nx rfl (nx rfl (nx rfl (nx rfl (nx rfl (nx rfl (nx rfl (nx rfl (nx rfl (nx rfl (nx rfl c65_144)))))))))))))))
              have c68_145 := (congrFun e68 145).trans (nx rfl (nx rfl (nx rfl (nx rfl (nx rfl (nx rfl (nx rfl (nx rfl (nx rfl (nx rfl (nx rfl (nx rfl (nx rfl (nx rfl (nx rfl c65_145)))))))))))))))
              have c68_168 := (congrFun e68 168).trans (nx rfl (nx rfl (nx rfl (nx rfl (nx rfl (nx rfl (nx rfl (nx rfl (nx rfl (nx rfl (nx rfl (nx rfl (nx rfl (nx rfl (nx rfl c65_168)))))))))))))))
              have c68_169 := (congrFun e68 169).trans (nx rfl (nx rfl (nx rfl (nx rfl (nx rfl (nx rfl (nx rfl (nx rfl (nx rfl (nx rfl (nx rfl (nx rfl (nx rfl (nx rfl (nx rfl c65_169)))))))))))))))
              have c68_170 := (congrFun e68 170).trans (nx rfl (nx rfl (nx rfl (nx rfl (nx rfl (nx rfl (nx rfl (nx rfl (nx rfl (nx rfl (nx rfl (nx rfl (nx rfl (nx rfl (nx rfl c65_170)))))))))))))))
              clear e68
              refine wnil ?_
              refine inBN ?_
              refine hK63 _ _ ?_
              clear hK63
              refine reg ?_
              refine sq rfl (do_inc (tm rfl c68_170) ck (by omega)) ?_
              refine sq rfl (do_move (tm rfl hit)) ?_
              refine wnil ?_
              exact hnn' (readers[i].length - (p + 1)) _ _ (by omega) ⟨p + 1, S + 1, rfl, by omega, (nx rfl (nx rfl c68_1)), (nx rfl (nx rfl c68_3)), (nx rfl (nx rfl c68_4)), (nx rfl (nx rfl c68_5)), (nx rfl (nx rfl c68_6)), (nx rfl (nx rfl c68_8)), (nx rfl (nx rfl c68_9)), (nx rfl (nx rfl c68_143)), (nx rfl (nx rfl c68_144)), (nx rfl (nx rfl c68_145)), (nx rfl (nx rfl c68_14)), (nx rfl (nx rfl c68_15)), (nx rfl (nx rfl c68_16)), (nx rfl (nx rfl c68_168)), (nx rfl (nx rfl c68_169)), hit, hGr2, by omega⟩
          · refine wp_seq_k (fun K69 hK69 => ?_)
            refine cF rfl hit (by simpa using h') ?_
            refine wp_exit ?_
            refine thenE ?_
            exact hx' _ _ ⟨S, (nx rfl t1), (nx rfl t3), (nx rfl t4), (nx rfl t5), (nx rfl t6), (nx rfl t8), (nx rfl t9), (nx rfl t143), (nx rfl t144), (nx rfl t145), (nx rfl t14), (nx rfl t15), (nx rfl t16), hGr, by omega⟩
        clear t1 t3 t4 t5 t6 t8 t9 t143 t144 t145 hGr hSb hrs
        rintro τ wi ⟨S, t1, t3, t4, t5, t6, t8, t9, t143, t144, t145, t14, t15, t16, hGr, hSb⟩
        refine hK58 _ _ ?_
        clear hK58
        obtain ⟨G, _, _, hsG, kG, _, _, hsbG, _⟩ := id hGr
        have hWrG : TabV (G 4) 22 3 1 encI (.slice wsa k wsc) writers := by rw [kG 4 (by decide)]; exact hWr0
        obtain ⟨gs, cs, hgs, hcs, _, hrs⟩ := hWrG.getS hsG (i := x) hxw
        subst hgs
        obtain ⟨ra, rc, rfl⟩ := hrs.slice
        have hlw := hs3 writers[x] (List.getElem_mem _)
        refine wp_seq_k (fun K70 hK70 => ?_)
        refine reg ?_
        refine sq rfl (do_load T45 rfl (tm rfl t1) ((kG.vb (t := 64) (by decide) hv0).cell hsG (i := 0) rfl)) ?_
        refine sq rfl (do_nilCheck (tm rfl hit)) ?_
        refine sq rfl (fa72_0 (tm rfl hit)) ?_
        refine sq rfl (do_load T33 rfl (tm rfl hit) (hsbG.cell hsG (i := 0) rfl)) ?_
        refine sq rfl (do_nilCheck (tm rfl hit)) ?_
        refine sq rfl (fa58_2 (tm rfl hit)) ?_
        refine sq rfl (do_load T37 rfl (tm rfl hit) ((kG.vb (t := 1) (by decide) hp0).cell hsG hp2)) ?_
        refine sq rfl (do_move (tm rfl (nx rfl (nx rfl (nx rfl (nx rfl (nx rfl (nx rfl (nx rfl t15))))))))) ?_
        refine sq rfl (ix37 (tm rfl (nx rfl hit)) (tm rfl hit) (by omega)) ?_
        refine sq rfl (do_load T22 rfl (tm rfl hit) hcs) ?_
        refine sq rfl (do_len Try.underlying22 (tm rfl hit)) ?_
        refine sq rfl (do_move (v := .int .i64 ((0 : Nat) : Int)) rfl) ?_
        refine cutL ?_
        intro τ71 e71
        have c71_1 := (congrFun e71 1).trans (nx rfl (nx rfl (nx rfl (nx rfl (nx rfl (nx rfl (nx rfl (nx rfl (nx rfl (nx rfl (nx rfl (nx rfl t1))))))))))))
        have c71_3 := (congrFun e71 3).trans (nx rfl (nx rfl (nx rfl (nx rfl (nx rfl (nx rfl (nx rfl (nx rfl (nx rfl (nx rfl (nx rfl (nx rfl t3))))))))))))
        have c71_4 := (congrFun e71 4).trans (nx rfl (nx rfl (nx rfl (nx rfl (nx rfl (nx rfl (nx rfl (nx rfl (nx rfl (nx rfl (nx rfl (nx rfl t4))))))))))))
        have c71_5 := (congrFun e71 5).trans (nx rfl (nx rfl (nx rfl (nx rfl (nx rfl (nx rfl (nx rfl (nx rfl (nx rfl (nx rfl (nx rfl (nx rfl t5))))))))))))
        have c71_6 := (congrFun e71 6).trans (nx rfl (nx rfl (nx rfl (nx rfl (nx rfl (nx rfl (nx rfl (nx rfl (nx rfl (nx rfl (nx rfl (nx rfl t6))))))))))))
        have c71_8 := (congrFun e71 8).trans (nx rfl (nx rfl (nx rfl (nx rfl (nx rfl (nx rfl (nx rfl (nx rfl (nx rfl (nx rfl (nx rfl (nx rfl t8))))))))))))
        have c71_9 := (congrFun e71 9).trans (nx rfl (nx rfl (nx rfl (nx rfl (nx rfl (nx rfl (nx rfl (nx rfl (nx rfl (nx rfl (nx rfl (nx rfl t9))))))))))))
        have c71_14 := (congrFun e71 14).trans (nx rfl (nx rfl (nx rfl (nx rfl (nx rfl (nx rfl (nx rfl (nx rfl (nx rfl (nx rfl (nx rfl (nx rfl t14))))))))))))
        have c71_15 := (congrFun e71 15).trans (nx rfl (nx rfl (nx rfl (nx rfl (nx rfl (nx rfl (nx rfl (nx rfl (nx rfl (nx rfl (nx rfl (nx rfl t15))))))))))))
        have c71_16 := (congrFun e71 16).trans (nx rfl (nx rfl (nx rfl (nx rfl (nx rfl (nx rfl (nx rfl (nx rfl (nx rfl (nx rfl (nx rfl (nx rfl t16))))))))))))
        have c71_143 := (congrFun e71 143).trans (nx rfl (nx rfl (nx rfl (nx rfl (nx rfl (nx rfl (nx rfl (nx rfl (nx rfl (nx rfl (nx rfl (nx rfl t143))))))))))))
        have c71_144 := (congrFun e71 144).trans (nx rfl (nx rfl (nx rfl (nx rfl (nx rfl (nx rfl (nx rfl (nx rfl (nx rfl (nx rfl (nx rfl (nx rfl t144))))))))))))
        have c71_145 := (congrFun e71 145).trans (nx rfl (nx rfl (nx rfl (nx rfl (nx rfl (nx rfl (nx rfl (nx rfl (nx rfl (nx rfl (nx rfl (nx rfl t145))))))))))))
        have c71_199 := (congrFun e71 199).trans (nx rfl (nx rfl hit))
        have c71_200 := (congrFun e71 200).trans (nx rfl hit)
        have c71_201 := (congrFun e71 201).trans hit
        clear e71
        refine wnil ?_
        refine hK70 _ _ ?_
        clear hK70
        rw [kG 4 (by decide)] at hrs
        clear hsG kG hsbG hWrG hcs
        have hinx : i < next.length := by omega
        refine forLoop (N := 304) (fun r τ wi => ∃ (p S : Nat), r = writers[x].length - p ∧ p ≤ writers[x].length ∧ τ 1 = .pointer (some ⟨bv, 0, none⟩) ∧ τ 3 = .int .i64 (n : Int) ∧ τ 4 = .int .i64 (size : Int) ∧ τ 5 = .pointer (some ⟨bsv, 0, none⟩) ∧ τ 6 = .pointer (some ⟨bpv, 0, none⟩) ∧ τ 8 = .func (.func 40) #[] #[.pointer (some ⟨bsv, 0, none⟩), .pointer (some ⟨bpv, 0, none⟩), .pointer (some ⟨bv, 0, none⟩)] ∧ τ 9 = .func (.func 41) #[] #[.pointer (some ⟨bv, 0, none⟩)] ∧ τ 143 = .slice ita its.length itc ∧ τ 144 = .int .i64 (its.length : Int) ∧ τ 145 = .int .i64 (j : Int) ∧ τ 14 = .int .i64 (j : Int) ∧ τ 15 = .int .i64 (x : Int) ∧ τ 16 = .int .i64 (i : Int) ∧ τ 199 = .slice ra writers[x].length rc ∧ τ 200 = .int .i64 (writers[x].length : Int) ∧ τ 201 = .int .i64 (p : Int) ∧ Gr N w0 H0 (.slice ga size gc) pa pc sb size ((SCs pb bSo bLo bNo bW k n m its.length itc ita 1073741824) (.slice ga size gc) (.slice pa size pc)) R wi S ∧ S ≤ Bd j + C + p)
          (fun τ wi => ∃ (S : Nat), τ 1 = .pointer (some ⟨bv, 0, none⟩) ∧ τ 3 = .int .i64 (n : Int) ∧ τ 4 = .int .i64 (size : Int) ∧ τ 5 = .pointer (some ⟨bsv, 0, none⟩) ∧ τ 6 = .pointer (some ⟨bpv, 0, none⟩) ∧ τ 8 = .func (.func 40) #[] #[.pointer (some ⟨bsv, 0, none⟩), .pointer (some ⟨bpv, 0, none⟩), .pointer (some ⟨bv, 0, none⟩)] ∧ τ 9 = .func (.func 41) #[] #[.pointer (some ⟨bv, 0, none⟩)] ∧ τ 143 = .slice ita its.length itc ∧ τ 144 = .int .i64 (its.length : Int) ∧ τ 145 = .int .i64 (j : Int) ∧ τ 14 = .int .i64 (j : Int) ∧ τ 15 = .int .i64 (x : Int) ∧ τ 16 = .int .i64 (i : Int) ∧ Gr N w0 H0 (.slice ga size gc) pa pc sb size ((SCs pb bSo bLo bNo bW k n m its.length itc ita 1073741824) (.slice ga size gc) (.slice pa size pc)) R wi S ∧ S ≤ Bd j + C + C) writers[x].length ?_ ?_ ?_
        · exact ⟨0, S, rfl, Nat.zero_le _, c71_1, c71_3, c71_4, c71_5, c71_6, c71_8, c71_9, c71_143, c71_144, c71_145, c71_14, c71_15, c71_16, c71_199, c71_200, c71_201, hGr, by omega⟩
        · clear t1 t3 t4 t5 t6 t8 t9 t143 t144 t145 t14 t15 t16 hGr hSb
          rintro Q'' r τ wi hnn' hx' hr' ⟨p, S, rfl, hpp, t1, t3, t4, t5, t6, t8, t9, t143, t144, t145, t14, t15, t16, t199, t200, t201, hGr, hSb⟩
          refine wp_seq_k (fun K72 hK72 => ?_)
          refine reg ?_
          refine sq rfl (do_lss (tm rfl t201) (tm rfl t200)) ?_
          refine wnil ?_
          refine hK72 _ _ ?_
          clear hK72
          by_cases h' : p < writers[x].length
          · refine wp_seq_k (fun K73 hK73 => ?_)
            refine cT rfl hit (by simpa using h') ?_
            refine wp_skip ?_
            refine hK73 _ _ ?_
            clear hK73
            obtain ⟨G, _, _, hsG, kG, _⟩ := id hGr
            have hrG : RowV (G 4) 3 1 (.slice ra writers[x].length rc) writers[x].length (writers[x].flatMap encI) := by rw [kG 4 (by decide)]; exact hrs
            obtain ⟨gu, rfl, hcu, _⟩ := hrG.cellS hsG (cellI h')
            have z1 : n + j < 9223372036854775808 := by omega
            have z2 : n + j < size := by omega
            have z3 : S ≤ 500000000000 := by omega
            have z4 : size ≤ 1000000 := by omega
            have z5 : writers[x].length - (p + 1) < writers[x].length - p := by omega
            have z6 : p + 1 ≤ writers[x].length := by omega
            have z7 : S + 1 ≤ Bd j + C + (p + 1) := by omega
            have z8 : p + 1 < 9223372036854775808 := by omega
            obtain ⟨u, hue, hun, hur⟩ := hBw2 writers[x][p] (List.getElem_mem _)
            rw [hue] at hcu
            have z9 : u < size := by omega
            refine wp_seq_k (fun K74 hK74 => ?_)
            refine wp_block ?_
            refine wp_seq_k (fun K75 hK75 => ?_)
            refine reg ?_
            refine sq rfl (ix22 (tm rfl (nx rfl t199)) (tm rfl (nx rfl t201)) (by omega)) ?_
            refine sq rfl (do_load T3 rfl (tm rfl hit) hcu) ?_
            refine sq rfl (do_assign (tm rfl hit)) ?_
            refine cutL ?_
            intro τ76 e76
            have c76_1 := (congrFun e76 1).trans (nx rfl (nx rfl (nx rfl (nx rfl t1))))
            have c76_3 := (congrFun e76 3).trans (nx rfl (nx rfl (nx rfl (nx rfl t3))))
            have c76_4 := (congrFun e76 4).trans (nx rfl (nx rfl (nx rfl (nx rfl t4))))
            have c76_5 := (congrFun e76 5).trans (nx rfl (nx rfl (nx rfl (nx rfl t5))))
            have c76_6 := (congrFun e76 6).trans (nx rfl (nx rfl (nx rfl (nx rfl t6))))
            have c76_8 := (congrFun e76 8).trans (nx rfl (nx rfl (nx rfl (nx rfl t8))))
            have c76_9 := (congrFun e76 9).trans (nx rfl (nx rfl (nx rfl (nx rfl t9))))
            have c76_14 := (congrFun e76 14).trans (nx rfl (nx rfl (nx rfl (nx rfl t14))))
            have c76_15 := (congrFun e76 15).trans (nx rfl (nx rfl (nx rfl (nx rfl t15))))
            have c76_16 := (congrFun e76 16).trans (nx rfl (nx rfl (nx rfl (nx rfl t16))))
            have c76_20 := (congrFun e76 20).trans hit
            have c76_143 := (congrFun e76 143).trans (nx rfl (nx rfl (nx rfl (nx rfl t143))))
            have c76_144 := (congrFun e76 144).trans (nx rfl (nx rfl (nx rfl (nx rfl t144))))
            have c76_145 := (congrFun e76 145).trans (nx rfl (nx rfl (nx rfl (nx rfl t145))))
            have c76_199 := (congrFun e76 199).trans (nx rfl (nx rfl (nx rfl (nx rfl t199))))
            have c76_200 := (congrFun e76 200).trans (nx rfl (nx rfl (nx rfl (nx rfl t200))))
            have c76_201 := (congrFun e76 201).trans (nx rfl (nx rfl (nx rfl (nx rfl t201))))
            clear e76
            refine wnil ?_
            refine hK75 _ _ ?_
            clear hK75
            clear hsG kG hrG hcu
            refine wp_seq_k (fun K77 hK77 => ?_)
            refine reg ?_
            refine sq rfl (do_move (tm rfl c76_9)) ?_
            refine sq rfl (do_move (tm rfl (nx rfl c76_20))) ?_
            refine sqc (R := fun cv w' => cv = .bool (!pl u) ∧ Gr N w0 H0 (.slice ga size gc) pa pc sb size ((SCs pb bSo bLo bNo bW k n m its.length itc ita 1073741824) (.slice ga size gc) (.slice pa size pc)) R w' S) rfl (run_callV Try.func41 nm41 bd41 (map1 (tm rfl hit)) (tm rfl (nx rfl hit))) ((UP wi S u hun hGr).mono ?_) ?_
            · rintro e w' ⟨rfl, rfl⟩
              exact ⟨_, rfl, rfl, hGr.drew.drew⟩
            rintro cv xw ⟨hcv, hGrx⟩
            by_cases hpu : pl u = true
            · obtain rfl : cv = .bool false := by rw [hcv, hpu]; rfl
              refine sq rfl (do_move (tm rfl hit)) ?_
              refine sqs rfl rfl hit rfl rfl ?_
              refine sqs rfl rfl (nx rfl hit) rfl rfl ?_
              refine sqs rfl rfl (nx rfl (nx rfl hit)) rfl rfl ?_
              refine sqs rfl rfl (nx rfl (nx rfl (nx rfl hit))) rfl rfl ?_
              refine sqs rfl rfl (nx rfl (nx rfl (nx rfl (nx rfl hit)))) rfl rfl ?_
              refine sqs rfl rfl (nx rfl (nx rfl (nx rfl (nx rfl (nx rfl hit))))) rfl rfl ?_
              refine sqs rfl rfl (nx rfl (nx rfl (nx rfl (nx rfl (nx rfl (nx rfl hit)))))) rfl rfl ?_
              refine sqs rfl rfl (nx rfl (nx rfl (nx rfl (nx rfl (nx rfl (nx rfl (nx rfl hit))))))) rfl rfl ?_
              refine sqs rfl rfl (nx rfl (nx rfl (nx rfl (nx rfl (nx rfl (nx rfl (nx rfl (nx rfl hit)))))))) rfl rfl ?_
              refine sqs rfl rfl (nx rfl (nx rfl (nx rfl (nx rfl (nx rfl (nx rfl (nx rfl (nx rfl (nx rfl hit))))))))) rfl rfl ?_
              refine sqs rfl rfl (nx rfl (nx rfl (nx rfl (nx rfl (nx rfl (nx rfl (nx rfl (nx rfl (nx rfl (nx rfl hit)))))))))) rfl rfl ?_
              refine sqs rfl rfl (nx rfl (nx rfl (nx rfl (nx rfl (nx rfl (nx rfl (nx rfl (nx rfl (nx rfl (nx rfl (nx rfl hit))))))))))) rfl rfl ?_
              refine sq rfl (do_pickF (tm rfl (nx rfl (nx rfl (nx rfl (nx rfl (nx rfl (nx rfl (nx rfl (nx rfl (nx rfl (nx rfl (nx rfl (nx rfl hit))))))))))))) ck) ?_
              refine cutL ?_
              intro τ78 e78
              have c78_1 := (congrFun e78 1).trans (nx rfl (nx rfl (nx rfl (nx rfl (nx rfl (nx rfl (nx rfl (nx rfl (nx rfl (nx rfl (nx rfl (nx rfl (nx rfl (nx rfl (nx rfl (nx rfl (nx rfl c76_1)))))))))))))))))
              have c78_3 := (congrFun e78 3).trans (nx rfl (nx rfl (nx rfl (nx rfl (nx rfl (nx rfl (nx rfl (nx rfl (nx rfl (nx rfl (nx rfl (nx rfl (nx rfl (nx rfl (nx rfl (nx rfl (nx rfl c76_3)))))))))))))))))
              have c78_4 := (congrFun e78 4).trans (nx rfl (nx rfl (nx rfl (nx rfl (nx rfl (nx rfl (nx rfl (nx rfl (nx rfl (nx rfl (nx rfl (nx rfl (nx rfl (nx rfl (nx rfl (nx rfl (nx rfl c76_4)))))))))))))))))
              have c78_5 := (congrFun e78 5).trans (nx rfl (nx rfl (nx rfl (nx rfl (nx rfl (nx rfl (nx rfl (nx rfl (nx rfl (nx rfl (nx rfl (nx rfl (nx rfl (nx rfl (nx rfl (nx rfl (nx rfl c76_5)))))))))))))))))
              have c78_6 := (congrFun e78 6).trans (nx rfl (nx rfl (nx rfl (nx rfl (nx rfl (nx rfl (nx rfl (nx rfl (nx rfl (nx rfl (nx rfl (nx rfl (nx rfl (nx rfl (nx rfl (nx rfl (nx rfl c76_6)))))))))))))))))
              have c78_8 := (congrFun e78 8).trans (nx rfl (nx rfl (nx rfl (nx rfl (nx rfl (nx rfl (nx rfl (nx rfl (nx rfl (nx rfl (nx rfl (nx rfl (nx rfl (nx rfl (nx rfl (nx rfl (nx rfl c76_8)))))))))))))))))
              have c78_9 := (congrFun e78 9).trans (nx rfl (nx rfl (nx rfl (nx rfl (nx rfl (nx rfl (nx rfl (nx rfl (nx rfl (nx rfl (nx rfl (nx rfl (nx rfl (nx rfl (nx rfl (nx rfl (nx rfl c76_9)))))))))))))))))
              have c78_14 := (congrFun e78 14).trans (nx rfl (nx rfl (nx rfl (nx rfl (nx rfl (nx rfl (nx rfl (nx rfl (nx rfl (nx rfl (nx rfl (nx rfl (nx rfl (nx rfl (nx rfl (nx rfl (nx rfl c76_14)))))))))))))))))
              have c78_15 := (congrFun e78 15).trans (nx rfl (nx rfl (nx rfl (nx rfl (nx rfl (nx rfl (nx rfl (nx rfl (nx rfl (nx rfl (nx rfl (nx rfl (nx rfl (nx rfl (nx rfl (nx rfl (nx rfl c76_15)))))))))))))))))
              have c78_16 := (congrFun e78 16).trans (nx rfl (nx rfl (nx rfl (nx rfl (nx rfl (nx rfl (nx rfl (nx rfl (nx rfl (nx rfl (nx rfl (nx rfl (nx rfl (nx rfl (nx rfl (nx rfl (nx rfl c76_16)))))))))))))))))
              have c78_20 := (congrFun e78 20).trans (nx rfl (nx rfl (nx rfl (nx rfl (nx rfl (nx rfl (nx rfl (nx rfl (nx rfl (nx rfl (nx rfl (nx rfl (nx rfl (nx rfl (nx rfl (nx rfl (nx rfl c76_20)))))))))))))))))
              have c78_143 := (congrFun e78 143).trans (nx rfl (nx rfl (nx rfl (nx rfl (nx rfl (nx rfl (nx rfl (nx rfl (nx rfl (nx rfl (nx rfl (nx rfl (nx rfl (nx rfl (nx rfl (nx rfl (nx rfl c76_143)))))))))))))))))
              have c78_144 := (congrFun e78 144).trans (nx rfl (nx rfl (nx rfl (nx rfl (nx rfl (nx rfl (nx rfl (nx rfl (nx rfl (nx rfl (nx rfl (nx rfl (nx rfl (nx rfl (nx rfl (nx rfl (nx rfl c76_144)))))))))))))))))
              have c78_145 := (congrFun e78 145).trans (nx rfl (nx rfl (nx rfl (nx rfl (nx rfl (nx rfl (nx rfl (nx rfl (nx rfl (nx rfl (nx rfl (nx rfl (nx rfl (nx rfl (nx rfl (nx rfl (nx rfl c76_145)))))))))))))))))
              have c78_199 := (congrFun e78 199).trans (nx rfl (nx rfl (nx rfl (nx rfl (nx rfl (nx rfl (nx rfl (nx rfl (nx rfl (nx rfl (nx rfl (nx rfl (nx rfl (nx rfl (nx rfl (nx rfl (nx rfl c76_199)))))))))))))))))
              have c78_200 := (congrFun e78 200).trans (nx rfl (nx rfl (nx rfl (nx rfl (nx rfl (nx rfl (nx rfl (nx rfl (nx rfl (nx rfl (nx rfl (nx rfl (nx rfl (nx rfl (nx rfl (nx rfl (nx rfl c76_200)))))))))))))))))
              have c78_201 := (congrFun e78 201).trans (nx rfl (nx rfl (nx rfl (nx rfl (nx rfl (nx rfl (nx rfl (nx rfl (nx rfl (nx rfl (nx rfl (nx rfl (nx rfl (nx rfl (nx rfl (nx rfl (nx rfl c76_201)))))))))))))))))
              have c78_221 := (congrFun e78 221).trans hit
              clear e78
              refine wnil ?_
              refine hK77 _ _ ?_
              clear hK77
              refine cF rfl c78_221 rfl ?_
              refine wp_skip ?_
              refine inBN ?_
              refine hK74 _ _ ?_
              clear hK74
              refine reg ?_
              refine sq rfl (do_inc (tm rfl c78_201) ck (by omega)) ?_
              refine sq rfl (do_move (tm rfl hit)) ?_
              refine wnil ?_
              exact hnn' (writers[x].length - (p + 1)) _ _ (by omega) ⟨p + 1, S, rfl, by omega, (nx rfl (nx rfl c78_1)), (nx rfl (nx rfl c78_3)), (nx rfl (nx rfl c78_4)), (nx rfl (nx rfl c78_5)), (nx rfl (nx rfl c78_6)), (nx rfl (nx rfl c78_8)), (nx rfl (nx rfl c78_9)), (nx rfl (nx rfl c78_143)), (nx rfl (nx rfl c78_144)), (nx rfl (nx rfl c78_145)), (nx rfl (nx rfl c78_14)), (nx rfl (nx rfl c78_15)), (nx rfl (nx rfl c78_16)), (nx rfl (nx rfl c78_199)), (nx rfl (nx rfl c78_200)), hit, hGrx, by omega⟩
            · have hpuf : pl u = false := by simpa using hpu
              obtain rfl : cv = .bool true := by rw [hcv, hpuf]; rfl
              obtain ⟨G, _, _, hsG, kG, _, _, hsbG, _⟩ := id hGrx
              have hNxG : RowV (G 7) 3 1 (.slice nxa M nxc) next.length (next.flatMap encI) := by rw [kG 7 (by decide)]; exact hNx0
              obtain ⟨gn, rfl, hcn, _⟩ := hNxG.cellS hsG (cellI hinx)
              have hne : next[i]? = some next[i] := List.getElem?_eq_getElem _
              by_cases hnu : (u : Int) = next[i]
              · refine sq rfl (do_move (tm rfl hit)) ?_
                refine sqg rfl rfl hit rfl (do_move (tm rfl (nx rfl (nx rfl (nx rfl (nx rfl c76_20)))))) ?_
                refine sqg rfl rfl (nx rfl hit) rfl (do_load T45 rfl (tm rfl (nx rfl (nx rfl (nx rfl (nx rfl (nx rfl c76_1)))))) ((kG.vb (t := 64) (by decide) hv0).cell hsG (i := 0) rfl)) ?_
                refine sqg rfl rfl (nx rfl (nx rfl hit)) rfl (do_nilCheck (tm rfl hit)) ?_
                refine sqg rfl rfl (nx rfl (nx rfl (nx rfl hit))) rfl (fa72_0 (tm rfl hit)) ?_
                refine sqg rfl rfl (nx rfl (nx rfl (nx rfl (nx rfl hit)))) rfl (do_load T33 rfl (tm rfl hit) (hsbG.cell hsG (i := 0) rfl)) ?_
                refine sqg rfl rfl (nx rfl (nx rfl (nx rfl (nx rfl (nx rfl hit))))) rfl (do_nilCheck (tm rfl hit)) ?_
                refine sqg rfl rfl (nx rfl (nx rfl (nx rfl (nx rfl (nx rfl (nx rfl hit)))))) rfl (fa58_5 (tm rfl hit)) ?_
                refine sqg rfl rfl (nx rfl (nx rfl (nx rfl (nx rfl (nx rfl (nx rfl (nx rfl hit))))))) rfl (do_load T22 rfl (tm rfl hit) ((kG.vb (t := 1) (by decide) hp0).cell hsG hp5)) ?_
                refine sqg rfl rfl (nx rfl (nx rfl (nx rfl (nx rfl (nx rfl (nx rfl (nx rfl (nx rfl hit)))))))) rfl (do_move (tm rfl (nx rfl (nx rfl (nx rfl (nx rfl (nx rfl (nx rfl (nx rfl (nx rfl (nx rfl (nx rfl (nx rfl (nx rfl c76_16)))))))))))))) ?_
                refine sqg rfl rfl (nx rfl (nx rfl (nx rfl (nx rfl (nx rfl (nx rfl (nx rfl (nx rfl (nx rfl hit))))))))) rfl (ix22 (tm rfl (nx rfl hit)) (tm rfl hit) (by omega)) ?_
                refine sqg rfl rfl (nx rfl (nx rfl (nx rfl (nx rfl (nx rfl (nx rfl (nx rfl (nx rfl (nx rfl (nx rfl hit)))))))))) rfl (do_load T3 rfl (tm rfl hit) hcn) ?_
                refine sqg rfl rfl (nx rfl (nx rfl (nx rfl (nx rfl (nx rfl (nx rfl (nx rfl (nx rfl (nx rfl (nx rfl (nx rfl hit))))))))))) rfl (do_neqF (tm rfl (nx rfl (nx rfl (nx rfl (nx rfl (nx rfl (nx rfl (nx rfl (nx rfl (nx rfl (nx rfl hit))))))))))) (tm rfl hit) (by simpa using hnu)) ?_
                refine sq rfl (do_pickT (tm rfl (nx rfl (nx rfl (nx rfl (nx rfl (nx rfl (nx rfl (nx rfl (nx rfl (nx rfl (nx rfl (nx rfl (nx rfl hit))))))))))))) (tm rfl hit)) ?_
                refine cutL ?_
                intro τ79 e79
                have c79_1 := (congrFun e79 1).trans (nx rfl (nx rfl (nx rfl (nx rfl (nx rfl (nx rfl (nx rfl (nx rfl (nx rfl (nx rfl (nx rfl (nx rfl (nx rfl (nx rfl (nx rfl (nx rfl (nx rfl c76_1)))))))))))))))))
                have c79_3 := (congrFun e79 3).trans (nx rfl (nx rfl (nx rfl (nx rfl (nx rfl (nx rfl (nx rfl (nx rfl (nx rfl (nx rfl (nx rfl (nx rfl (nx rfl (nx rfl (nx rfl (nx rfl (nx rfl c76_3)))))))))))))))))
                have c79_4 := (congrFun e79 4).trans (nx rfl (nx rfl (nx rfl (nx rfl (nx rfl (nx rfl (nx rfl (nx rfl (nx rfl (nx rfl (nx rfl (nx rfl (nx rfl (nx rfl (nx rfl (nx rfl (nx rfl c76_4)))))))))))))))))
                have c79_5 := (congrFun e79 5).trans (nx rfl (nx rfl (nx rfl (nx rfl (nx rfl (nx rfl (nx rfl (nx rfl (nx rfl (nx rfl (nx rfl (nx rfl (nx rfl (nx rfl (nx rfl (nx rfl (nx rfl c76_5)))))))))))))))))
                have c79_6 := (congrFun e79 6).trans (nx rfl (nx rfl (nx rfl (nx rfl (nx rfl (nx rfl (nx rfl (nx rfl (nx rfl (nx rfl (nx rfl (nx rfl (nx rfl (nx rfl (nx rfl (nx rfl (nx rfl c76_6)))))))))))))))))
                have c79_8 := (congrFun e79 8).trans (nx rfl (nx rfl (nx rfl (nx rfl (nx rfl (nx rfl (nx rfl (nx rfl (nx rfl (nx rfl (nx rfl (nx rfl (nx rfl (nx rfl (nx rfl (nx rfl (nx rfl c76_8)))))))))))))))))
                have c79_9 := (congrFun e79 9).trans (nx rfl (nx rfl (nx rfl (nx rfl (nx rfl (nx rfl (nx rfl (nx rfl (nx rfl (nx rfl (nx rfl (nx rfl (nx rfl (nx rfl (nx rfl (nx rfl (nx rfl c76_9)))))))))))))))))
                have c79_14 := (congrFun e79 14).trans (nx rfl (nx rfl (nx rfl (nx rfl (nx rfl (nx rfl (nx rfl (nx rfl (nx rfl (nx rfl (nx rfl (nx rfl (nx rfl (nx rfl (nx rfl (nx rfl (nx rfl c76_14)))))))))))))))))
                have c79_15 := (congrFun e79 15).trans (nx rfl (nx rfl (nx rfl (nx rfl (nx rfl (nx rfl (nx rfl (nx rfl (nx rfl (nx rfl (nx rfl (nx rfl (nx rfl (nx rfl (nx rfl (nx rfl (nx rfl c76_15)))))))))))))))))
                have c79_16 := (congrFun e79 16).trans (nx rfl (nx rfl (nx rfl (nx rfl (nx rfl (nx rfl (nx rfl (nx rfl (nx rfl (nx rfl (nx rfl (nx rfl (nx rfl (nx rfl (nx rfl (nx rfl (nx rfl c76_16)))))))))))))))))
                have c79_20 := (congrFun e79 20).trans (nx rfl (nx rfl (nx rfl (nx rfl (nx rfl (nx rfl (nx rfl (nx rfl (nx rfl (nx rfl (nx rfl (nx rfl (nx rfl (nx rfl (nx rfl (nx rfl (nx rfl c76_20)))))))))))))))))
                have c79_143 := (congrFun e79 143).trans (nx rfl (nx rfl (nx rfl (nx rfl (nx rfl (nx rfl (nx rfl (nx rfl (nx rfl (nx rfl (nx rfl (nx rfl (nx rfl (nx rfl (nx rfl (nx rfl (nx rfl c76_143)))))))))))))))))
                have c79_144 := (congrFun e79 144).trans (nx rfl (nx rfl (nx rfl (nx rfl (nx rfl (nx rfl (nx rfl (nx rfl (nx rfl (nx rfl (nx rfl (nx rfl (nx rfl (nx rfl (nx rfl (nx rfl (nx rfl c76_144)))))))))))))))))
                have c79_145 := (congrFun e79 145).trans (nx rfl (nx rfl (nx rfl (nx rfl (nx rfl (nx rfl (nx rfl (nx rfl (nx rfl (nx rfl (nx rfl (nx rfl (nx rfl (nx rfl (nx rfl (nx rfl (nx rfl c76_145)))))))))))))))))
                have c79_199 := (congrFun e79 199).trans (nx rfl (nx rfl (nx rfl (nx rfl (nx rfl (nx rfl (nx rfl (nx rfl (nx rfl (nx rfl (nx rfl (nx rfl (nx rfl (nx rfl (nx rfl (nx rfl (nx rfl c76_199)))))))))))))))))
                have c79_200 := (congrFun e79 200).trans (nx rfl (nx rfl (nx rfl (nx rfl (nx rfl (nx rfl (nx rfl (nx rfl (nx rfl (nx rfl (nx rfl (nx rfl (nx rfl (nx rfl (nx rfl (nx rfl (nx rfl c76_200)))))))))))))))))
                have c79_201 := (congrFun e79 201).trans (nx rfl (nx rfl (nx rfl (nx rfl (nx rfl (nx rfl (nx rfl (nx rfl (nx rfl (nx rfl (nx rfl (nx rfl (nx rfl (nx rfl (nx rfl (nx rfl (nx rfl c76_201)))))))))))))))))
                have c79_221 := (congrFun e79 221).trans hit
                clear e79
                refine wnil ?_
                refine hK77 _ _ ?_
                clear hK77
                refine cF rfl c79_221 rfl ?_
                refine wp_skip ?_
                refine inBN ?_
                refine hK74 _ _ ?_
                clear hK74
                refine reg ?_
                refine sq rfl (do_inc (tm rfl c79_201) ck (by omega)) ?_
                refine sq rfl (do_move (tm rfl hit)) ?_
                refine wnil ?_
                exact hnn' (writers[x].length - (p + 1)) _ _ (by omega) ⟨p + 1, S, rfl, by omega, (nx rfl (nx rfl c79_1)), (nx rfl (nx rfl c79_3)), (nx rfl (nx rfl c79_4)), (nx rfl (nx rfl c79_5)), (nx rfl (nx rfl c79_6)), (nx rfl (nx rfl c79_8)), (nx rfl (nx rfl c79_9)), (nx rfl (nx rfl c79_143)), (nx rfl (nx rfl c79_144)), (nx rfl (nx rfl c79_145)), (nx rfl (nx rfl c79_14)), (nx rfl (nx rfl c79_15)), (nx rfl (nx rfl c79_16)), (nx rfl (nx rfl c79_199)), (nx rfl (nx rfl c79_200)), hit, hGrx, by omega⟩
              · refine sq rfl (do_move (tm rfl hit)) ?_
                refine sqg rfl rfl hit rfl (do_move (tm rfl (nx rfl (nx rfl (nx rfl (nx rfl c76_20)))))) ?_
                refine sqg rfl rfl (nx rfl hit) rfl (do_load T45 rfl (tm rfl (nx rfl (nx rfl (nx rfl (nx rfl (nx rfl c76_1)))))) ((kG.vb (t := 64) (by decide) hv0).cell hsG (i := 0) rfl)) ?_
                refine sqg rfl rfl (nx rfl (nx rfl hit)) rfl (do_nilCheck (tm rfl hit)) ?_
                refine sqg rfl rfl (nx rfl (nx rfl (nx rfl hit))) rfl (fa72_0 (tm rfl hit)) ?_
                refine sqg rfl rfl (nx rfl (nx rfl (nx rfl (nx rfl hit)))) rfl (do_load T33 rfl (tm rfl hit) (hsbG.cell hsG (i := 0) rfl)) ?_
                refine sqg rfl rfl (nx rfl (nx rfl (nx rfl (nx rfl (nx rfl hit))))) rfl (do_nilCheck (tm rfl hit)) ?_
                refine sqg rfl rfl (nx rfl (nx rfl (nx rfl (nx rfl (nx rfl (nx rfl hit)))))) rfl (fa58_5 (tm rfl hit)) ?_
                refine sqg rfl rfl (nx rfl (nx rfl (nx rfl (nx rfl (nx rfl (nx rfl (nx rfl hit))))))) rfl (do_load T22 rfl (tm rfl hit) ((kG.vb (t := 1) (by decide) hp0).cell hsG hp5)) ?_
                refine sqg rfl rfl (nx rfl (nx rfl (nx rfl (nx rfl (nx rfl (nx rfl (nx rfl (nx rfl hit)))))))) rfl (do_move (tm rfl (nx rfl (nx rfl (nx rfl (nx rfl (nx rfl (nx rfl (nx rfl (nx rfl (nx rfl (nx rfl (nx rfl (nx rfl c76_16)))))))))))))) ?_
                refine sqg rfl rfl (nx rfl (nx rfl (nx rfl (nx rfl (nx rfl (nx rfl (nx rfl (nx rfl (nx rfl hit))))))))) rfl (ix22 (tm rfl (nx rfl hit)) (tm rfl hit) (by omega)) ?_
                refine sqg rfl rfl (nx rfl (nx rfl (nx rfl (nx rfl (nx rfl (nx rfl (nx rfl (nx rfl (nx rfl (nx rfl hit)))))))))) rfl (do_load T3 rfl (tm rfl hit) hcn) ?_
                refine sqg rfl rfl (nx rfl (nx rfl (nx rfl (nx rfl (nx rfl (nx rfl (nx rfl (nx rfl (nx rfl (nx rfl (nx rfl hit))))))))))) rfl (do_neqT (tm rfl (nx rfl (nx rfl (nx rfl (nx rfl (nx rfl (nx rfl (nx rfl (nx rfl (nx rfl (nx rfl hit))))))))))) (tm rfl hit) hnu) ?_
                refine sq rfl (do_pickT (tm rfl (nx rfl (nx rfl (nx rfl (nx rfl (nx rfl (nx rfl (nx rfl (nx rfl (nx rfl (nx rfl (nx rfl (nx rfl hit))))))))))))) (tm rfl hit)) ?_
                refine cutL ?_
                intro τ80 e80
                have c80_1 := (congrFun e80 1).trans (nx rfl (nx rfl (nx rfl (nx rfl (nx rfl (nx rfl (nx rfl (nx rfl (nx rfl (nx rfl (nx rfl (nx rfl (nx rfl (nx rfl (nx rfl (nx rfl (nx rfl c76_1)))))))))))))))))
                have c80_3 := (congrFun e80 3).trans (nx rfl (nx rfl (nx rfl (nx rfl (nx rfl (nx rfl (nx rfl (nx rfl (nx rfl (nx rfl (nx rfl (nx rfl (nx rfl (nx rfl (nx rfl (nx rfl (nx rfl c76_3)))))))))))))))))
                have c80_4 := (congrFun e80 4).trans (nx rfl (nx rfl (nx rfl (nx rfl (nx rfl (nx rfl (nx rfl (nx rfl (nx rfl (nx rfl (nx rfl (nx rfl (nx rfl (nx rfl (nx rfl (nx rfl (nx rfl c76_4)))))))))))))))))
                have c80_5 := (congrFun e80 5).trans (nx rfl (nx rfl (nx rfl (nx rfl (nx rfl (nx rfl (nx rfl (nx rfl (nx rfl (nx rfl (nx rfl (nx rfl (nx rfl (nx rfl (nx rfl (nx rfl (nx rfl c76_5)))))))))))))))))
                have c80_6 := (congrFun e80 6).trans (nx rfl (nx rfl (nx rfl (nx rfl (nx rfl (nx rfl (nx rfl (nx rfl (nx rfl (nx rfl (nx rfl (nx rfl (nx rfl (nx rfl (nx rfl (nx rfl (nx rfl c76_6)))))))))))))))))
                have c80_8 := (congrFun e80 8).trans (nx rfl (nx rfl (nx rfl (nx rfl (nx rfl (nx rfl (nx rfl (nx rfl (nx rfl (nx rfl (nx rfl (nx rfl (nx rfl (nx rfl (nx rfl (nx rfl (nx rfl c76_8)))))))))))))))))
                have c80_9 := (congrFun e80 9).trans (nx rfl (nx rfl (nx rfl (nx rfl (nx rfl (nx rfl (nx rfl (nx rfl (nx rfl (nx rfl (nx rfl (nx rfl (nx rfl (nx rfl (nx rfl (nx rfl (nx rfl c76_9)))))))))))))))))
                have c80_14 := (congrFun e80 14).trans (nx rfl (nx rfl (nx rfl (nx rfl (nx rfl (nx rfl (nx rfl (nx rfl (nx rfl (nx rfl (nx rfl (nx rfl (nx rfl (nx rfl (nx rfl (nx rfl (nx rfl c76_14)))))))))))))))))
                have c80_15 := (congrFun e80 15).trans (nx rfl (nx rfl (nx rfl (nx rfl (nx rfl (nx rfl (nx rfl (nx rfl (nx rfl (nx rfl (nx rfl (nx rfl (nx rfl (nx rfl (nx rfl (nx rfl (nx rfl c76_15)))))))))))))))))
                have c80_16 := (congrFun e80 16).trans (nx rfl (nx rfl (nx rfl (nx rfl (nx rfl (nx rfl (nx rfl (nx rfl (nx rfl (nx rfl (nx rfl (nx rfl (nx rfl (nx rfl (nx rfl (nx rfl (nx rfl c76_16)))))))))))))))))
                have c80_20 := (congrFun e80 20).trans (nx rfl (nx rfl (nx rfl (nx rfl (nx rfl (nx rfl (nx rfl (nx rfl (nx rfl (nx rfl (nx rfl (nx rfl (nx rfl (nx rfl (nx rfl (nx rfl (nx rfl c76_20)))))))))))))))))
                have c80_143 := (congrFun e80 143).trans (nx rfl (nx rfl (nx rfl (nx rfl (nx rfl (nx rfl (nx rfl (nx rfl (nx rfl (nx rfl (nx rfl (nx rfl (nx rfl (nx rfl (nx rfl (nx rfl (nx rfl c76_143)))))))))))))))))
                have c80_144 := (congrFun e80 144).trans (nx rfl (nx rfl (nx rfl (nx rfl (nx rfl (nx rfl (nx rfl (nx rfl (nx rfl (nx rfl (nx rfl (nx rfl (nx rfl (nx rfl (nx rfl (nx rfl (nx rfl c76_144)))))))))))))))))
                have c80_145 := (congrFun e80 145).trans (nx rfl (nx rfl (nx rfl (nx rfl (nx rfl (nx rfl (nx rfl (nx rfl (nx rfl (nx rfl (nx rfl (nx rfl (nx rfl (nx rfl (nx rfl (nx rfl (nx rfl c76_145)))))))))))))))))
                have c80_199 := (congrFun e80 199).trans (nx rfl (nx rfl (nx rfl (nx rfl (nx rfl (nx rfl (nx rfl (nx rfl (nx rfl (nx rfl (nx rfl (nx rfl (nx rfl (nx rfl (nx rfl (nx rfl (nx rfl c76_199)))))))))))))))))
                have c80_200 := (congrFun e80 200).trans (nx rfl (nx rfl (nx rfl (nx rfl (nx rfl (nx rfl (nx rfl (nx rfl (nx rfl (nx rfl (nx rfl (nx rfl (nx rfl (nx rfl (nx rfl (nx rfl (nx rfl c76_200)))))))))))))))))
                have c80_201 := (congrFun e80 201).trans (nx rfl (nx rfl (nx rfl (nx rfl (nx rfl (nx rfl (nx rfl (nx rfl (nx rfl (nx rfl (nx rfl (nx rfl (nx rfl (nx rfl (nx rfl (nx rfl (nx rfl c76_201)))))))))))))))))
                have c80_221 := (congrFun e80 221).trans hit
                clear e80
                refine wnil ?_
                refine hK77 _ _ ?_
                clear hK77
                refine cT rfl c80_221 rfl ?_
                have hRx : R (n + j) < R u := hur hpuf (by rw [hne]; intro hc; injection hc with hc; exact hnu hc.symm)
                clear hnu hne
                refine reg ?_
                refine sq rfl (do_move (tm rfl c80_8)) ?_
                refine sq rfl (do_move (tm rfl (nx rfl c80_3))) ?_
                refine sq rfl (do_move (tm rfl (nx rfl (nx rfl c80_14)))) ?_
                refine sq rfl (do_addN (tm rfl (nx rfl hit)) (tm rfl hit) rfl z1) ?_
                refine sq rfl (do_load T45 rfl (tm rfl (nx rfl (nx rfl (nx rfl (nx rfl c80_1))))) ((kG.vb (t := 64) (by decide) hv0).cell hsG (i := 0) rfl)) ?_
                refine sq rfl (do_nilCheck (tm rfl hit)) ?_
                refine sq rfl (fa72_4 (tm rfl hit)) ?_
                refine sq rfl (do_load T22 rfl (tm rfl hit) (hsbG.cell hsG (i := 4) rfl)) ?_
                refine sq rfl (do_move (tm rfl (nx rfl (nx rfl (nx rfl (nx rfl (nx rfl (nx rfl (nx rfl (nx rfl c80_20)))))))))) ?_
                refine sq rfl (ix22 (tm rfl (nx rfl hit)) (tm rfl hit) hun) ?_
                refine sq rfl (do_load T3 rfl (tm rfl hit) ((kG.vb (t := 55) (by decide) hLo0).cell hsG (rng_get hun))) ?_
                clear hsG kG hsbG hNxG hcn
                refine sqc (R := fun _ w' => Gr N w0 H0 (.slice ga size gc) pa pc sb size ((SCs pb bSo bLo bNo bW k n m its.length itc ita 1073741824) (.slice ga size gc) (.slice pa size pc)) R w' (S + 1)) rfl (run_callV Try.func40 nm40 bd40 (map2 (tm rfl (nx rfl (nx rfl (nx rfl (nx rfl (nx rfl (nx rfl (nx rfl hit)))))))) (tm rfl hit)) (tm rfl (nx rfl (nx rfl (nx rfl (nx rfl (nx rfl (nx rfl (nx rfl (nx rfl (nx rfl (nx rfl hit)))))))))))) ((edgeD hGrx hsv0 hpv0 hv0 hscl (n + j) u z2 z9 hRx z3 z4).mono ?_) ?_
                · rintro e w' ⟨v', rfl, hh⟩
                  exact ⟨_, rfl, hh⟩
                rintro cv xw2 hGr2
                refine cutL ?_
                intro τ81 e81
                have c81_1 := (congrFun e81 1).trans (nx rfl (nx rfl (nx rfl (nx rfl (nx rfl (nx rfl (nx rfl (nx rfl (nx rfl (nx rfl (nx rfl (nx rfl c80_1))))))))))))
                have c81_3 := (congrFun e81 3).trans (nx rfl (nx rfl (nx rfl (nx rfl (nx rfl (nx rfl (nx rfl (nx rfl (nx rfl (nx rfl (nx rfl (nx rfl c80_3))))))))))))
                have c81_4 := (congrFun e81 4).trans (nx rfl (nx rfl (nx rfl (nx rfl (nx rfl (nx rfl (nx rfl (nx rfl (nx rfl (nx rfl (nx rfl (nx rfl c80_4))))))))))))
                have c81_5 := (congrFun e81 5).trans (nx rfl (nx rfl (nx rfl (nx rfl (nx rfl (nx rfl (nx rfl (nx rfl (nx rfl (nx rfl (nx rfl (nx rfl c80_5))))))))))))
                have c81_6 := (congrFun e81 6).trans (nx rfl (nx rfl (nx rfl (nx rfl (nx rfl (nx rfl (nx rfl (nx rfl (nx rfl (nx rfl (nx rfl (nx rfl c80_6))))))))))))
                have c81_8 := (congrFun e81 8).trans (nx rfl (nx rfl (nx rfl (nx rfl (nx rfl (nx rfl (nx rfl (nx rfl (nx rfl (nx rfl (nx rfl (nx rfl c80_8))))))))))))
                have c81_9 := (congrFun e81 9).trans (nx rfl (nx rfl (nx rfl (nx rfl (nx rfl (nx rfl (nx rfl (nx rfl (nx rfl (nx rfl (nx rfl (nx rfl c80_9))))))))))))
                have c81_14 := (congrFun e81 14).trans (nx rfl (nx rfl (nx rfl (nx rfl (nx rfl (nx rfl (nx rfl (nx rfl (nx rfl (nx rfl (nx rfl (nx rfl c80_14))))))))))))
                have c81_15 := (congrFun e81 15).trans (nx rfl (nx rfl (nx rfl (nx rfl (nx rfl (nx rfl (nx rfl (nx rfl (nx rfl (nx rfl (nx rfl (nx rfl c80_15))))))))))))
                have c81_16 := (congrFun e81 16).trans (nx rfl (nx rfl (nx rfl (nx rfl (nx rfl (nx rfl (nx rfl (nx rfl (nx rfl (nx rfl (nx rfl (nx rfl c80_16))))))))))))
                have c81_20 := (congrFun e81 20).trans (nx rfl (nx rfl (nx rfl (nx rfl (nx rfl (nx rfl (nx rfl (nx rfl (nx rfl (nx rfl (nx rfl (nx rfl c80_20))))))))))))
                have c81_143 := (congrFun e81 143).trans (nx rfl (nx rfl (nx rfl (nx rfl (nx rfl (nx rfl (nx rfl (nx rfl (nx rfl (nx rfl (nx rfl (nx rfl c80_143))))))))))))
                have c81_144 := (congrFun e81 144).trans (nx rfl (nx rfl (nx rfl (nx rfl (nx rfl (nx rfl (nx rfl (nx rfl (nx rfl (nx rfl (nx rfl (nx rfl c80_144))))))))))))
                have c81_145 := (congrFun e81 145).trans (nx rfl (nx rfl (nx rfl (nx rfl (nx rfl (nx rfl (nx rfl (nx rfl (nx rfl (nx rfl (nx rfl (nx rfl c80_145))))))))))))
                have c81_199 := (congrFun e81 199).trans (nx rfl (nx rfl (nx rfl (nx rfl (nx rfl (nx rfl (nx rfl (nx rfl (nx rfl (nx rfl (nx rfl (nx rfl c80_199))))))))))))
                have c81_200 := (congrFun e81 200).trans (nx rfl (nx rfl (nx rfl (nx rfl (nx rfl (nx rfl (nx rfl (nx rfl (nx rfl (nx rfl (nx rfl (nx rfl c80_200))))))))))))
                have c81_201 := (congrFun e81 201).trans (nx rfl (nx rfl (nx rfl (nx rfl (nx rfl (nx rfl (nx rfl (nx rfl (nx rfl (nx rfl (nx rfl (nx rfl c80_201))))))))))))
                clear e81
                refine wnil ?_
                refine inBN ?_
                refine hK74 _ _ ?_
                clear hK74
                refine reg ?_
                refine sq rfl (do_inc (tm rfl c81_201) ck z8) ?_
                refine sq rfl (do_move (tm rfl hit)) ?_
                refine wnil ?_
                exact hnn' (writers[x].length - (p + 1)) _ _ z5 ⟨p + 1, S + 1, rfl, z6, (nx rfl (nx rfl c81_1)), (nx rfl (nx rfl c81_3)), (nx rfl (nx rfl c81_4)), (nx rfl (nx rfl c81_5)), (nx rfl (nx rfl c81_6)), (nx rfl (nx rfl c81_8)), (nx rfl (nx rfl c81_9)), (nx rfl (nx rfl c81_143)), (nx rfl (nx rfl c81_144)), (nx rfl (nx rfl c81_145)), (nx rfl (nx rfl c81_14)), (nx rfl (nx rfl c81_15)), (nx rfl (nx rfl c81_16)), (nx rfl (nx rfl c81_199)), (nx rfl (nx rfl c81_200)), hit, hGr2, z7⟩
          · refine wp_seq_k (fun K82 hK82 => ?_)
            refine cF rfl hit (by simpa using h') ?_
            refine wp_exit ?_
            refine thenE ?_
            exact hx' _ _ ⟨S, (nx rfl t1), (nx rfl t3), (nx rfl t4), (nx rfl t5), (nx rfl t6), (nx rfl t8), (nx rfl t9), (nx rfl t143), (nx rfl t144), (nx rfl t145), (nx rfl t14), (nx rfl t15), (nx rfl t16), hGr, by omega⟩
        clear t1 t3 t4 t5 t6 t8 t9 t143 t144 t145 t14 t15 t16 hGr hSb hrs
        rintro τ wi ⟨S, t1, t3, t4, t5, t6, t8, t9, t143, t144, t145, t14, t15, t16, hGr, hSb⟩
        refine inBN ?_
        refine hK50 _ _ ?_
        clear hK50
        refine reg ?_
        refine sq rfl (do_inc (tm rfl t145) ck (by omega)) ?_
        refine sq rfl (do_move (tm rfl hit)) ?_
        refine wnil ?_
        exact hnn (its.length - (j + 1)) _ _ (by omega) ⟨j + 1, S, rfl, by omega, (nx rfl (nx rfl t1)), (nx rfl (nx rfl t3)), (nx rfl (nx rfl t4)), (nx rfl (nx rfl t5)), (nx rfl (nx rfl t6)), (nx rfl (nx rfl t8)), (nx rfl (nx rfl t9)), (nx rfl (nx rfl t143)), (nx rfl (nx rfl t144)), hit, hGr, by omega⟩
    · refine wp_seq_k (fun K83 hK83 => ?_)
      refine cF rfl hit (by simpa using h) ?_
      refine wp_exit ?_
      refine thenE ?_
      have hbm := hBm j (by omega)
      exact hx _ _ ⟨S, (nx rfl t1), (nx rfl t3), (nx rfl t4), (nx rfl t5), (nx rfl t6), (nx rfl t8), (nx rfl t9), hGr, by omega⟩
  clear t1 t3 t4 t5 t6 t8 t9 hGr hSb
  rintro τ wi ⟨S, t1, t3, t4, t5, t6, t8, t9, hGr, hSb⟩
  refine hK45 _ _ ?_
  clear hK45
  obtain ⟨GB, rows, preds, hsB, kB, hTB, hprB, hsbB, hrl, hpl, hsum, hed, hcnt⟩ := hGr
  have hvB := kB.vb (t := 64) (by decide) hv0
  have hpvB := kB.vb (t := 62) (by decide) hpv0
  have hsvB := kB.vb (t := 60) (by decide) hsv0
  refine wp_seq_k (fun K84 hK84 => ?_)
  refine reg ?_
  refine sq rfl (do_load T45 rfl (tm rfl t1) (hvB.cell hsB (i := 0) rfl)) ?_
  refine sq rfl (do_nilCheck (tm rfl hit)) ?_
  refine sq rfl (fa72_16 (tm rfl hit)) ?_
  refine sq rfl (do_load T22 rfl (tm rfl hit) (hsbB.cell hsB (i := 16) rfl)) ?_
  refine sq rfl (do_sliceNil T22 T3 (tm rfl hit) rfl) ?_
  refine sq rfl (do_assign (tm rfl hit)) ?_
  refine cutL ?_
  intro τ85 e85
  have c85_1 := (congrFun e85 1).trans (nx rfl (nx rfl (nx rfl (nx rfl (nx rfl (nx rfl t1))))))
  have c85_3 := (congrFun e85 3).trans (nx rfl (nx rfl (nx rfl (nx rfl (nx rfl (nx rfl t3))))))
  have c85_4 := (congrFun e85 4).trans (nx rfl (nx rfl (nx rfl (nx rfl (nx rfl (nx rfl t4))))))
  have c85_5 := (congrFun e85 5).trans (nx rfl (nx rfl (nx rfl (nx rfl (nx rfl (nx rfl t5))))))
  have c85_6 := (congrFun e85 6).trans (nx rfl (nx rfl (nx rfl (nx rfl (nx rfl (nx rfl t6))))))
  have c85_8 := (congrFun e85 8).trans (nx rfl (nx rfl (nx rfl (nx rfl (nx rfl (nx rfl t8))))))
  have c85_9 := (congrFun e85 9).trans (nx rfl (nx rfl (nx rfl (nx rfl (nx rfl (nx rfl t9))))))
  have c85_21 := (congrFun e85 21).trans hit
  clear e85
  refine wnil ?_
  refine hK84 _ _ ?_
  clear hK84
  refine wp_seq_k (fun K86 hK86 => ?_)
  refine wp_seq_k (fun K87 hK87 => ?_)
  refine reg ?_
  refine sq rfl (do_load T22 rfl (tm rfl c85_6) (hpvB.cell hsB (i := 0) rfl)) ?_
  refine sq rfl (do_len Try.underlying22 (tm rfl hit)) ?_
  refine sq rfl (do_move (v := .int .i64 ((0 : Nat) : Int)) rfl) ?_
  refine wnil ?_
  refine hK87 _ _ ?_
  clear hK87
  refine forLoop (N := 304) (fun r τ wi => ∃ (v : Nat) (G : Nat → Part) (q : List Int) (qv : Value), r = size - v ∧ v ≤ size ∧ τ 1 = .pointer (some ⟨bv, 0, none⟩) ∧ τ 3 = .int .i64 (n : Int) ∧ τ 4 = .int .i64 (size : Int) ∧ τ 5 = .pointer (some ⟨bsv, 0, none⟩) ∧ τ 6 = .pointer (some ⟨bpv, 0, none⟩) ∧ τ 8 = .func (.func 40) #[] #[.pointer (some ⟨bsv, 0, none⟩), .pointer (some ⟨bpv, 0, none⟩), .pointer (some ⟨bv, 0, none⟩)] ∧ τ 9 = .func (.func 41) #[] #[.pointer (some ⟨bv, 0, none⟩)] ∧ τ 21 = qv ∧ τ 241 = .slice pa size pc ∧ τ 242 = .int .i64 (size : Int) ∧ τ 243 = .int .i64 (v : Int) ∧ Split N w0 wi G ∧ Same [28, 65] GB G ∧ RowV (G 65) 3 1 qv q.length (q.flatMap encI) ∧ q.length ≤ v ∧ q.Nodup ∧ (∀ z ∈ q, ∃ b : Nat, z = (b : Int) ∧ b < v) ∧ (∀ b, b < v → (preds[b]? = some 0 ↔ (b : Int) ∈ q)))
    (fun τ wi => ∃ (G : Nat → Part) (q : List Int) (qv : Value), τ 1 = .pointer (some ⟨bv, 0, none⟩) ∧ τ 3 = .int .i64 (n : Int) ∧ τ 4 = .int .i64 (size : Int) ∧ τ 5 = .pointer (some ⟨bsv, 0, none⟩) ∧ τ 6 = .pointer (some ⟨bpv, 0, none⟩) ∧ τ 8 = .func (.func 40) #[] #[.pointer (some ⟨bsv, 0, none⟩), .pointer (some ⟨bpv, 0, none⟩), .pointer (some ⟨bv, 0, none⟩)] ∧ τ 9 = .func (.func 41) #[] #[.pointer (some ⟨bv, 0, none⟩)] ∧ τ 21 = qv ∧ Split N w0 wi G ∧ Same [28, 65] GB G ∧ RowV (G 65) 3 1 qv q.length (q.flatMap encI) ∧ q.length ≤ size ∧ q.Nodup ∧ (∀ z ∈ q, ∃ b : Nat, z = (b : Int) ∧ b < size) ∧ (∀ b, b < size → (preds[b]? = some 0 ↔ (b : Int) ∈ q))) size ?_ ?_ ?_
  · exact ⟨0, GB, [], _, rfl, Nat.zero_le _, (nx rfl (nx rfl (nx rfl c85_1))), (nx rfl (nx rfl (nx rfl c85_3))), (nx rfl (nx rfl (nx rfl c85_4))), (nx rfl (nx rfl (nx rfl c85_5))), (nx rfl (nx rfl (nx rfl c85_6))), (nx rfl (nx rfl (nx rfl c85_8))), (nx rfl (nx rfl (nx rfl c85_9))), (nx rfl (nx rfl (nx rfl c85_21))), (nx rfl (nx rfl hit)), (nx rfl hit), hit, hsB, Same.refl _ _, RowV.empty, Nat.le_refl _, List.nodup_nil, fun z hz => (by cases hz), fun b hb => by omega⟩
  · clear t1 t3 t4 t5 t6 t8 t9 hsB
    rintro Q' r τ wi hnn hx hr ⟨v, G, q, qv, rfl, hi, t1, t3, t4, t5, t6, t8, t9, t21, t241, t242, t243, hsG, kG, hqr, hql, hqn, hqp, hqi⟩
    refine wp_seq_k (fun K88 hK88 => ?_)
    refine reg ?_
    refine sq rfl (do_lss (tm rfl t243) (tm rfl t242)) ?_
    refine wnil ?_
    refine hK88 _ _ ?_
    clear hK88
    by_cases h : v < size
    · refine wp_seq_k (fun K89 hK89 => ?_)
      refine cT rfl hit (by simpa using h) ?_
      refine wp_skip ?_
      refine hK89 _ _ ?_
      clear hK89
      have hvp : v < preds.length := by omega
      have hprG : RowV (G 63) 3 1 (.slice pa size pc) preds.length (preds.flatMap encI) := by rw [kG 63 (by decide)]; exact hprB
      obtain ⟨gp, rfl, hcp, _⟩ := hprG.cellS hsG (cellI hvp)
      refine wp_seq_k (fun K90 hK90 => ?_)
      refine wp_block ?_
      refine wp_seq_k (fun K91 hK91 => ?_)
      refine reg ?_
      refine sq rfl (do_move (tm rfl (nx rfl t243))) ?_
      refine sq rfl (ix22 (tm rfl (nx rfl (nx rfl t241))) (tm rfl (nx rfl (nx rfl t243))) (by omega)) ?_
      refine sq rfl (do_load T3 rfl (tm rfl hit) hcp) ?_
      refine sq rfl (do_assign (tm rfl (nx rfl (nx rfl hit)))) ?_
      refine sq rfl (do_assign (tm rfl (nx rfl hit))) ?_
      refine cutL ?_
      intro τ92 e92
      have c92_1 := (congrFun e92 1).trans (nx rfl (nx rfl (nx rfl (nx rfl (nx rfl (nx rfl t1))))))
      have c92_3 := (congrFun e92 3).trans (nx rfl (nx rfl (nx rfl (nx rfl (nx rfl (nx rfl t3))))))
      have c92_4 := (congrFun e92 4).trans (nx rfl (nx rfl (nx rfl (nx rfl (nx rfl (nx rfl t4))))))
      have c92_5 := (congrFun e92 5).trans (nx rfl (nx rfl (nx rfl (nx rfl (nx rfl (nx rfl t5))))))
      have c92_6 := (congrFun e92 6).trans (nx rfl (nx rfl (nx rfl (nx rfl (nx rfl (nx rfl t6))))))
      have c92_8 := (congrFun e92 8).trans (nx rfl (nx rfl (nx rfl (nx rfl (nx rfl (nx rfl t8))))))
      have c92_9 := (congrFun e92 9).trans (nx rfl (nx rfl (nx rfl (nx rfl (nx rfl (nx rfl t9))))))
      have c92_21 := (congrFun e92 21).trans (nx rfl (nx rfl (nx rfl (nx rfl (nx rfl (nx rfl t21))))))
      have c92_22 := (congrFun e92 22).trans (nx rfl hit)
      have c92_23 := (congrFun e92 23).trans hit
      have c92_241 := (congrFun e92 241).trans (nx rfl (nx rfl (nx rfl (nx rfl (nx rfl (nx rfl t241))))))
      have c92_242 := (congrFun e92 242).trans (nx rfl (nx rfl (nx rfl (nx rfl (nx rfl (nx rfl t242))))))
      have c92_243 := (congrFun e92 243).trans (nx rfl (nx rfl (nx rfl (nx rfl (nx rfl (nx rfl t243))))))
      clear e92
      refine wnil ?_
      refine hK91 _ _ ?_
      clear hK91
      refine wp_seq_k (fun K93 hK93 => ?_)
      refine reg ?_
      refine sq rfl (do_move (tm rfl c92_23)) ?_
      refine sq rfl (do_eql (tm rfl hit) ck) ?_
      refine wnil ?_
      refine hK93 _ _ ?_
      clear hK93
      have hpe : preds[v]? = some (preds[v]'hvp) := List.getElem?_eq_getElem _
      by_cases h0 : preds[v]'hvp = 0
      · refine cT rfl hit (by simpa using h0) ?_
        obtain ⟨J1, j1, g1, _⟩ := blkN hsG 28 3 #[.int .i64 (v : Int)]
        have hR1 : RowV (J1 65) 3 1 qv q.length (q.flatMap encI) := by rw [j1 65 (by decide)]; exact hqr
        obtain ⟨qv', wd, V65, hap, g2, hR2, _, _⟩ := RowV.append T22 T3 rfl (by decide) hR1 g1 (a := ⟨wi.heap.size, 0, none⟩) (m := 1) (c := 1) (news := encI (v : Int)) rfl (by
          intro j u hu
          rw [add_plain, Nat.zero_add]
          exact new_cell wi #[.int .i64 (v : Int)] 3 j hu) (one_I _) (by simp only [maxLen]; omega) (by omega)
        refine reg ?_
        refine sq rfl (do_move (tm rfl (nx rfl (nx rfl c92_21)))) ?_
        refine sq rfl (do_move (tm rfl (nx rfl (nx rfl (nx rfl c92_22))))) ?_
        refine sq rfl (do_bs1 T22 T3 rfl (tm rfl hit) rfl) ?_
        refine sq rfl (hap _ _ _ _ _ _ _ _ (tm rfl (nx rfl (nx rfl hit))) (tm rfl hit)) ?_
        refine sq rfl (do_assign (tm rfl hit)) ?_
        refine cutL ?_
        intro τ94 e94
        have c94_1 := (congrFun e94 1).trans (nx rfl (nx rfl (nx rfl (nx rfl (nx rfl (nx rfl (nx rfl c92_1)))))))
        have c94_3 := (congrFun e94 3).trans (nx rfl (nx rfl (nx rfl (nx rfl (nx rfl (nx rfl (nx rfl c92_3)))))))
        have c94_4 := (congrFun e94 4).trans (nx rfl (nx rfl (nx rfl (nx rfl (nx rfl (nx rfl (nx rfl c92_4)))))))
        have c94_5 := (congrFun e94 5).trans (nx rfl (nx rfl (nx rfl (nx rfl (nx rfl (nx rfl (nx rfl c92_5)))))))
        have c94_6 := (congrFun e94 6).trans (nx rfl (nx rfl (nx rfl (nx rfl (nx rfl (nx rfl (nx rfl c92_6)))))))
        have c94_8 := (congrFun e94 8).trans (nx rfl (nx rfl (nx rfl (nx rfl (nx rfl (nx rfl (nx rfl c92_8)))))))
        have c94_9 := (congrFun e94 9).trans (nx rfl (nx rfl (nx rfl (nx rfl (nx rfl (nx rfl (nx rfl c92_9)))))))
        have c94_21 := (congrFun e94 21).trans hit
        have c94_22 := (congrFun e94 22).trans (nx rfl (nx rfl (nx rfl (nx rfl (nx rfl (nx rfl (nx rfl c92_22)))))))
        have c94_23 := (congrFun e94 23).trans (nx rfl (nx rfl (nx rfl (nx rfl (nx rfl (nx rfl (nx rfl c92_23)))))))
        have c94_241 := (congrFun e94 241).trans (nx rfl (nx rfl (nx rfl (nx rfl (nx rfl (nx rfl (nx rfl c92_241)))))))
        have c94_242 := (congrFun e94 242).trans (nx rfl (nx rfl (nx rfl (nx rfl (nx rfl (nx rfl (nx rfl c92_242)))))))
        have c94_243 := (congrFun e94 243).trans (nx rfl (nx rfl (nx rfl (nx rfl (nx rfl (nx rfl (nx rfl c92_243)))))))
        clear e94
        refine wnil ?_
        refine inBN ?_
        refine hK90 _ _ ?_
        clear hK90
        have j2 : Same [65] J1 (updH J1 65 V65) := Same.upd (by decide)
        refine reg ?_
        refine sq rfl (do_inc (tm rfl c94_243) ck (by omega)) ?_
        refine sq rfl (do_move (tm rfl hit)) ?_
        refine wnil ?_
        refine hnn (size - (v + 1)) _ _ (by omega) ⟨v + 1, updH J1 65 V65, q ++ [(v : Int)], qv', rfl, by omega, (nx rfl (nx rfl c94_1)), (nx rfl (nx rfl c94_3)), (nx rfl (nx rfl c94_4)), (nx rfl (nx rfl c94_5)), (nx rfl (nx rfl c94_6)), (nx rfl (nx rfl c94_8)), (nx rfl (nx rfl c94_9)), (nx rfl (nx rfl c94_21)), (nx rfl (nx rfl c94_241)), (nx rfl (nx rfl c94_242)), hit, g2, kG.trans ((j1.mono (by decide)).trans (j2.mono (by decide))), ?_, by simp; omega, ?_, ?_, ?_⟩
        · rw [updH_hit]
          simpa [List.flatMap_append] using hR2
        · rw [List.nodup_append]
          refine ⟨hqn, by simp, ?_⟩
          intro z hz b hb hzb
          obtain ⟨b', h1, h2⟩ := hqp z hz
          have : b = (v : Int) := by simpa using hb
          omega
        · intro z hz
          rcases List.mem_append.1 hz with h1 | h1
          · obtain ⟨b, h2, h3⟩ := hqp z h1
            exact ⟨b, h2, by omega⟩
          · exact ⟨v, by simpa using h1, by omega⟩
        · intro b hb
          by_cases hbv : b = v
          · subst hbv
            rw [hpe, h0]; simp
          · rw [hqi b (by omega)]
            have : ¬ (b : Int) = (v : Int) := by omega
            simp [this]
      · refine cF rfl hit (by simpa using h0) ?_
        refine wp_skip ?_
        refine inBN ?_
        refine hK90 _ _ ?_
        clear hK90
        refine reg ?_
        refine sq rfl (do_inc (tm rfl (nx rfl (nx rfl c92_243))) ck (by omega)) ?_
        refine sq rfl (do_move (tm rfl hit)) ?_
        refine cutL ?_
        intro τ95 e95
        have c95_1 := (congrFun e95 1).trans (nx rfl (nx rfl (nx rfl (nx rfl c92_1))))
        have c95_3 := (congrFun e95 3).trans (nx rfl (nx rfl (nx rfl (nx rfl c92_3))))
        have c95_4 := (congrFun e95 4).trans (nx rfl (nx rfl (nx rfl (nx rfl c92_4))))
        have c95_5 := (congrFun e95 5).trans (nx rfl (nx rfl (nx rfl (nx rfl c92_5))))
        have c95_6 := (congrFun e95 6).trans (nx rfl (nx rfl (nx rfl (nx rfl c92_6))))
        have c95_8 := (congrFun e95 8).trans (nx rfl (nx rfl (nx rfl (nx rfl c92_8))))
        have c95_9 := (congrFun e95 9).trans (nx rfl (nx rfl (nx rfl (nx rfl c92_9))))
        have c95_21 := (congrFun e95 21).trans (nx rfl (nx rfl (nx rfl (nx rfl c92_21))))
        have c95_22 := (congrFun e95 22).trans (nx rfl (nx rfl (nx rfl (nx rfl c92_22))))
        have c95_23 := (congrFun e95 23).trans (nx rfl (nx rfl (nx rfl (nx rfl c92_23))))
        have c95_241 := (congrFun e95 241).trans (nx rfl (nx rfl (nx rfl (nx rfl c92_241))))
        have c95_242 := (congrFun e95 242).trans (nx rfl (nx rfl (nx rfl (nx rfl c92_242))))
        have c95_243 := (congrFun e95 243).trans hit
        clear e95
        refine wnil ?_
        refine hnn (size - (v + 1)) _ _ (by omega) ⟨v + 1, G, q, qv, rfl, by omega, c95_1, c95_3, c95_4, c95_5, c95_6, c95_8, c95_9, c95_21, c95_241, c95_242, c95_243, hsG, kG, hqr, by omega, hqn, ?_, ?_⟩
        · intro z hz
          obtain ⟨b, h2, h3⟩ := hqp z hz
          exact ⟨b, h2, by omega⟩
        · intro b hb
          by_cases hbv : b = v
          · subst hbv
            rw [hpe]
            constructor
            · intro hc
              injection hc with hc
              exact absurd hc h0
            · intro hc
              obtain ⟨b', h2, h3⟩ := hqp _ hc
              omega
          · exact hqi b (by omega)
    · refine wp_seq_k (fun K96 hK96 => ?_)
      refine cF rfl hit (by simpa using h) ?_
      refine wp_exit ?_
      refine thenE ?_
      obtain rfl : v = size := by omega
      exact hx _ _ ⟨G, q, qv, (nx rfl t1), (nx rfl t3), (nx rfl t4), (nx rfl t5), (nx rfl t6), (nx rfl t8), (nx rfl t9), (nx rfl t21), hsG, kG, hqr, hql, hqn, hqp, hqi⟩
  clear t1 t3 t4 t5 t6 t8 t9 hsB
  rintro τ wi ⟨G, q, qv, t1, t3, t4, t5, t6, t8, t9, t21, hsG, kG, hqr, hql, hqn, hqp, hqi⟩
  refine hK86 _ _ ?_
  clear hK86
  refine wp_seq_k (fun K97 hK97 => ?_)
  refine reg ?_
  refine sq rfl (do_assign (v := .int .i64 ((0 : Nat) : Int)) rfl) ?_
  refine wnil ?_
  refine hK97 _ _ ?_
  clear hK97
  refine wp_seq_k (fun K98 hK98 => ?_)
  refine forLoop (N := 304) (fun r τ wi => ∃ (done : List Nat) (G : Nat → Part) (q preds : List Int) (qv : Value), r = size - done.length ∧ τ 1 = .pointer (some ⟨bv, 0, none⟩) ∧ τ 3 = .int .i64 (n : Int) ∧ τ 4 = .int .i64 (size : Int) ∧ τ 5 = .pointer (some ⟨bsv, 0, none⟩) ∧ τ 6 = .pointer (some ⟨bpv, 0, none⟩) ∧ τ 8 = .func (.func 40) #[] #[.pointer (some ⟨bsv, 0, none⟩), .pointer (some ⟨bpv, 0, none⟩), .pointer (some ⟨bv, 0, none⟩)] ∧ τ 9 = .func (.func 41) #[] #[.pointer (some ⟨bv, 0, none⟩)] ∧ τ 21 = qv ∧ τ 24 = .int .i64 (done.length : Int) ∧ Split N w0 wi G ∧ Same [28, 63, 65] GB G ∧ RowV (G 63) 3 1 (.slice pa size pc) preds.length (preds.flatMap encI) ∧ preds.length = size ∧ RowV (G 65) 3 1 qv q.length (q.flatMap encI) ∧ q.Nodup ∧ done.Nodup ∧ (∀ d ∈ done, d < size) ∧ (∀ z ∈ q, ∃ b : Nat, z = (b : Int) ∧ b < size ∧ b ∉ done) ∧ (∀ b, b < size → preds[b]? = some ((remC rows done (b : Int) size : Nat) : Int)) ∧ (∀ b, b < size → (preds[b]? = some 0 ↔ b ∈ done ∨ (b : Int) ∈ q)))
    (fun τ wi => ∃ (done : List Nat) (G : Nat → Part) (qv : Value) (q : List Int), τ 1 = .pointer (some ⟨bv, 0, none⟩) ∧ τ 3 = .int .i64 (n : Int) ∧ τ 4 = .int .i64 (size : Int) ∧ τ 5 = .pointer (some ⟨bsv, 0, none⟩) ∧ τ 6 = .pointer (some ⟨bpv, 0, none⟩) ∧ τ 8 = .func (.func 40) #[] #[.pointer (some ⟨bsv, 0, none⟩), .pointer (some ⟨bpv, 0, none⟩), .pointer (some ⟨bv, 0, none⟩)] ∧ τ 9 = .func (.func 41) #[] #[.pointer (some ⟨bv, 0, none⟩)] ∧ τ 21 = qv ∧ τ 24 = .int .i64 (done.length : Int) ∧ size ≤ done.length ∧ Split N w0 wi G ∧ Same [28, 63, 65] GB G ∧ RowV (G 65) 3 1 qv q.length (q.flatMap encI)) (size - 0) ?_ ?_ ?_
  · refine ⟨[], G, q, preds, qv, rfl, (nx rfl t1), (nx rfl t3), (nx rfl t4), (nx rfl t5), (nx rfl t6), (nx rfl t8), (nx rfl t9), (nx rfl t21), hit, hsG, kG.mono (by decide), by rw [kG 63 (by decide)]; exact hprB, hpl, hqr, hqn, List.nodup_nil, fun d hd => (by cases hd), fun z hz => ?_, fun b hb => ?_, fun b hb => ?_⟩
    · obtain ⟨b, h1, h2⟩ := hqp z hz
      exact ⟨b, h1, h2, by simp⟩
    · rw [hcnt b hb]; unfold cnt; rw [hrl]
    · rw [hqi b hb]; simp
  · clear t1 t3 t4 t5 t6 t8 t9 t21 hsG kG hqr hql hqn hqp hqi hcnt
    rintro Q' r τ wi hnn hx hr ⟨done, G, q, pr, qv, rfl, t1, t3, t4, t5, t6, t8, t9, t21, t24, hsG, kG, hpr, hprl, hqr, hqn, hdn, hdb, hqd, hrem, hiff⟩
    obtain ⟨qa, qc, rfl⟩ := hqr.slice
    refine wp_seq_k (fun K99 hK99 => ?_)
    refine wp_seq_k (fun K100 hK100 => ?_)
    refine reg ?_
    refine sq rfl (do_move (tm rfl t21)) ?_
    refine sq rfl (do_len Try.underlying22 (tm rfl hit)) ?_
    refine sq rfl (do_gtr (tm rfl hit) ck) ?_
    refine wnil ?_
    refine hK100 _ _ ?_
    clear hK100
    by_cases h : 0 < q.length
    · refine cT rfl hit (by simpa using h) ?_
      refine wp_skip ?_
      refine hK99 _ _ ?_
      clear hK99
      obtain ⟨q0, v, rfl, hvs, hvd⟩ : ∃ (q0 : List Int) (v : Nat), q = q0 ++ [(v : Int)] ∧ v < size ∧ v ∉ done := by
        rcases List.eq_nil_or_concat q with h1 | ⟨q0, z, h1⟩
        · rw [h1] at h; simp at h
        · obtain ⟨v, h2, h3, h4⟩ := hqd z (by rw [h1]; simp)
          exact ⟨q0, v, by rw [h1, h2, List.concat_eq_append], h3, h4⟩
      have hql : (q0 ++ [(v : Int)]).length = q0.length + 1 := by simp
      have hdl : (v :: done).length ≤ size := pig size (v :: done) (List.nodup_cons.2 ⟨hvd, hdn⟩) (fun d hd => by
        rcases List.mem_cons.1 hd with h1 | h1
        · omega
        · exact hdb d h1)
      simp only [List.length_cons] at hdl
      have hqs : (q0 ++ [(v : Int)]).length ≤ size := pigI hqn (fun z hz => by obtain ⟨b', h1, h2, _⟩ := hqd z hz; exact ⟨b', h1, h2⟩)
      obtain ⟨gq, rfl, hcq, _⟩ := hqr.cellS hsG (cellI (show q0.length < (q0 ++ [(v : Int)]).length by omega))
      rw [show (q0 ++ [(v : Int)])[q0.length]'(by omega) = (v : Int) by simp] at hcq
      have hq0 := hqr.pop (m := q0.length) (by omega)
      rw [show ((q0 ++ [(v : Int)]).flatMap encI).take (q0.length * 1) = q0.flatMap encI by rw [flat_I, flat_I]; simp [ints]] at hq0
      have hcap := hqr.capge
      refine wp_seq_k (fun K101 hK101 => ?_)
      refine wp_block ?_
      refine wp_seq_k (fun K102 hK102 => ?_)
      refine reg ?_
      refine sq rfl (do_move (tm rfl (nx rfl (nx rfl (nx rfl t21))))) ?_
      refine sq rfl (do_move (tm rfl (nx rfl (nx rfl (nx rfl (nx rfl t21)))))) ?_
      refine sq rfl (do_len Try.underlying22 (tm rfl hit)) ?_
      refine sq rfl ((do_sub (tm rfl hit) ck ⟨by omega, by omega⟩).cast (show Value.int .i64 (((q0 ++ [(v : Int)]).length : Int) - 1) = .int .i64 (q0.length : Int) by rw [hql]; simp)) ?_
      refine sq rfl (ix22 (tm rfl (nx rfl (nx rfl (nx rfl hit)))) (tm rfl hit) (by omega)) ?_
      refine sq rfl (do_load T3 rfl (tm rfl hit) hcq) ?_
      refine sq rfl (do_assign (tm rfl hit)) ?_
      refine cutL ?_
      intro τ103 e103
      have c103_1 := (congrFun e103 1).trans (nx rfl (nx rfl (nx rfl (nx rfl (nx rfl (nx rfl (nx rfl (nx rfl (nx rfl (nx rfl t1))))))))))
      have c103_3 := (congrFun e103 3).trans (nx rfl (nx rfl (nx rfl (nx rfl (nx rfl (nx rfl (nx rfl (nx rfl (nx rfl (nx rfl t3))))))))))
      have c103_4 := (congrFun e103 4).trans (nx rfl (nx rfl (nx rfl (nx rfl (nx rfl (nx rfl (nx rfl (nx rfl (nx rfl (nx rfl t4))))))))))
      have c103_5 := (congrFun e103 5).trans (nx rfl (nx rfl (nx rfl (nx rfl (nx rfl (nx rfl (nx rfl (nx rfl (nx rfl (nx rfl t5))))))))))
      have c103_6 := (congrFun e103 6).trans (nx rfl (nx rfl (nx rfl (nx rfl (nx rfl (nx rfl (nx rfl (nx rfl (nx rfl (nx rfl t6))))))))))
      have c103_8 := (congrFun e103 8).trans (nx rfl (nx rfl (nx rfl (nx rfl (nx rfl (nx rfl (nx rfl (nx rfl (nx rfl (nx rfl t8))))))))))
      have c103_9 := (congrFun e103 9).trans (nx rfl (nx rfl (nx rfl (nx rfl (nx rfl (nx rfl (nx rfl (nx rfl (nx rfl (nx rfl t9))))))))))
      have c103_21 := (congrFun e103 21).trans (nx rfl (nx rfl (nx rfl (nx rfl (nx rfl (nx rfl (nx rfl (nx rfl (nx rfl (nx rfl t21))))))))))
      have c103_24 := (congrFun e103 24).trans (nx rfl (nx rfl (nx rfl (nx rfl (nx rfl (nx rfl (nx rfl (nx rfl (nx rfl (nx rfl t24))))))))))
      have c103_25 := (congrFun e103 25).trans hit
      clear e103
      refine wnil ?_
      refine hK102 _ _ ?_
      clear hK102
      refine wp_seq_k (fun K104 hK104 => ?_)
      refine reg ?_
      refine sq rfl (do_move (tm rfl c103_21)) ?_
      refine sq rfl (do_move (tm rfl (nx rfl c103_21))) ?_
      refine sq rfl (do_len Try.underlying22 (tm rfl hit)) ?_
      refine sq rfl ((do_sub (tm rfl hit) ck ⟨by omega, by omega⟩).cast (show Value.int .i64 (((q0 ++ [(v : Int)]).length : Int) - 1) = .int .i64 (q0.length : Int) by rw [hql]; simp)) ?_
      refine sq rfl (do_sliceHi T22 T3 (tm rfl (nx rfl (nx rfl (nx rfl hit)))) (tm rfl hit) (by omega)) ?_
      refine sq rfl (do_assign (tm rfl hit)) ?_
      refine cutL ?_
      intro τ105 e105
      have c105_1 := (congrFun e105 1).trans (nx rfl (nx rfl (nx rfl (nx rfl (nx rfl (nx rfl c103_1))))))
      have c105_3 := (congrFun e105 3).trans (nx rfl (nx rfl (nx rfl (nx rfl (nx rfl (nx rfl c103_3))))))
      have c105_4 := (congrFun e105 4).trans (nx rfl (nx rfl (nx rfl (nx rfl (nx rfl (nx rfl c103_4))))))
      have c105_5 := (congrFun e105 5).trans (nx rfl (nx rfl (nx rfl (nx rfl (nx rfl (nx rfl c103_5))))))
      have c105_6 := (congrFun e105 6).trans (nx rfl (nx rfl (nx rfl (nx rfl (nx rfl (nx rfl c103_6))))))
      have c105_8 := (congrFun e105 8).trans (nx rfl (nx rfl (nx rfl (nx rfl (nx rfl (nx rfl c103_8))))))
      have c105_9 := (congrFun e105 9).trans (nx rfl (nx rfl (nx rfl (nx rfl (nx rfl (nx rfl c103_9))))))
      have c105_21 := (congrFun e105 21).trans hit
      have c105_24 := (congrFun e105 24).trans (nx rfl (nx rfl (nx rfl (nx rfl (nx rfl (nx rfl c103_24))))))
      have c105_25 := (congrFun e105 25).trans (nx rfl (nx rfl (nx rfl (nx rfl (nx rfl (nx rfl c103_25))))))
      clear e105
      refine wnil ?_
      refine hK104 _ _ ?_
      clear hK104
      have hsvG := kG.vb (t := 60) (by decide) hsvB
      have hTG : TabV (G 61) 22 3 1 encI (.slice ga size gc) rows := by rw [kG 61 (by decide)]; exact hTB
      have hvr : v < rows.length := by omega
      obtain ⟨gr, cr, hgr, hcr, _, hrr⟩ := hTG.getS hsG (i := v) hvr
      subst hgr
      obtain ⟨ra, rc, rfl⟩ := hrr.slice
      rw [kG 61 (by decide)] at hrr
      refine wp_seq_k (fun K106 hK106 => ?_)
      refine reg ?_
      refine sq rfl (do_load T37 rfl (tm rfl c105_5) (hsvG.cell hsG (i := 0) rfl)) ?_
      refine sq rfl (do_move (tm rfl (nx rfl c105_25))) ?_
      refine sq rfl (ix37 (tm rfl (nx rfl hit)) (tm rfl hit) (by omega)) ?_
      refine sq rfl (do_load T22 rfl (tm rfl hit) hcr) ?_
      refine sq rfl (do_len Try.underlying22 (tm rfl hit)) ?_
      refine sq rfl (do_move (v := .int .i64 ((0 : Nat) : Int)) rfl) ?_
      refine cutL ?_
      intro τ107 e107
      have c107_1 := (congrFun e107 1).trans (nx rfl (nx rfl (nx rfl (nx rfl (nx rfl (nx rfl c105_1))))))
      have c107_3 := (congrFun e107 3).trans (nx rfl (nx rfl (nx rfl (nx rfl (nx rfl (nx rfl c105_3))))))
      have c107_4 := (congrFun e107 4).trans (nx rfl (nx rfl (nx rfl (nx rfl (nx rfl (nx rfl c105_4))))))
      have c107_5 := (congrFun e107 5).trans (nx rfl (nx rfl (nx rfl (nx rfl (nx rfl (nx rfl c105_5))))))
      have c107_6 := (congrFun e107 6).trans (nx rfl (nx rfl (nx rfl (nx rfl (nx rfl (nx rfl c105_6))))))
      have c107_8 := (congrFun e107 8).trans (nx rfl (nx rfl (nx rfl (nx rfl (nx rfl (nx rfl c105_8))))))
      have c107_9 := (congrFun e107 9).trans (nx rfl (nx rfl (nx rfl (nx rfl (nx rfl (nx rfl c105_9))))))
      have c107_21 := (congrFun e107 21).trans (nx rfl (nx rfl (nx rfl (nx rfl (nx rfl (nx rfl c105_21))))))
      have c107_24 := (congrFun e107 24).trans (nx rfl (nx rfl (nx rfl (nx rfl (nx rfl (nx rfl c105_24))))))
      have c107_25 := (congrFun e107 25).trans (nx rfl (nx rfl (nx rfl (nx rfl (nx rfl (nx rfl c105_25))))))
      have c107_274 := (congrFun e107 274).trans (nx rfl (nx rfl hit))
      have c107_275 := (congrFun e107 275).trans (nx rfl hit)
      have c107_276 := (congrFun e107 276).trans hit
      clear e107
      refine wnil ?_
      refine hK106 _ _ ?_
      clear hK106
      have hlv := len_le_sum rows v hvr
      have egd : rows.getD v [] = rows[v] := by simp [List.getD_eq_getElem?_getD, List.getElem?_eq_getElem hvr]
      refine forLoop (N := 304) (fun r τ wi => ∃ (j : Nat) (G : Nat → Part) (q pr : List Int) (qv : Value), r = rows[v].length - j ∧ j ≤ rows[v].length ∧ τ 1 = .pointer (some ⟨bv, 0, none⟩) ∧ τ 3 = .int .i64 (n : Int) ∧ τ 4 = .int .i64 (size : Int) ∧ τ 5 = .pointer (some ⟨bsv, 0, none⟩) ∧ τ 6 = .pointer (some ⟨bpv, 0, none⟩) ∧ τ 8 = .func (.func 40) #[] #[.pointer (some ⟨bsv, 0, none⟩), .pointer (some ⟨bpv, 0, none⟩), .pointer (some ⟨bv, 0, none⟩)] ∧ τ 9 = .func (.func 41) #[] #[.pointer (some ⟨bv, 0, none⟩)] ∧ τ 21 = qv ∧ τ 24 = .int .i64 (done.length : Int) ∧ τ 274 = .slice ra rows[v].length rc ∧ τ 275 = .int .i64 (rows[v].length : Int) ∧ τ 276 = .int .i64 (j : Int) ∧ Split N w0 wi G ∧ Same [28, 63, 65] GB G ∧ RowV (G 63) 3 1 (.slice pa size pc) pr.length (pr.flatMap encI) ∧ pr.length = size ∧ RowV (G 65) 3 1 qv q.length (q.flatMap encI) ∧ q.Nodup ∧ (∀ z ∈ q, ∃ b : Nat, z = (b : Int) ∧ b < size ∧ b ∉ v :: done) ∧ (∀ b, b < size → pr[b]? = some ((remC rows (v :: done) (b : Int) size + (rows[v].drop j).count (b : Int) : Nat) : Int)) ∧ (∀ b, b < size → (pr[b]? = some 0 ↔ b ∈ v :: done ∨ (b : Int) ∈ q)))
        (fun τ wi => ∃ (G : Nat → Part) (q pr : List Int) (qv : Value), τ 1 = .pointer (some ⟨bv, 0, none⟩) ∧ τ 3 = .int .i64 (n : Int) ∧ τ 4 = .int .i64 (size : Int) ∧ τ 5 = .pointer (some ⟨bsv, 0, none⟩) ∧ τ 6 = .pointer (some ⟨bpv, 0, none⟩) ∧ τ 8 = .func (.func 40) #[] #[.pointer (some ⟨bsv, 0, none⟩), .pointer (some ⟨bpv, 0, none⟩), .pointer (some ⟨bv, 0, none⟩)] ∧ τ 9 = .func (.func 41) #[] #[.pointer (some ⟨bv, 0, none⟩)] ∧ τ 21 = qv ∧ τ 24 = .int .i64 (done.length : Int) ∧ Split N w0 wi G ∧ Same [28, 63, 65] GB G ∧ RowV (G 63) 3 1 (.slice pa size pc) pr.length (pr.flatMap encI) ∧ pr.length = size ∧ RowV (G 65) 3 1 qv q.length (q.flatMap encI) ∧ q.Nodup ∧ (∀ z ∈ q, ∃ b : Nat, z = (b : Int) ∧ b < size ∧ b ∉ v :: done) ∧ (∀ b, b < size → pr[b]? = some ((remC rows (v :: done) (b : Int) size : Nat) : Int)) ∧ (∀ b, b < size → (pr[b]? = some 0 ↔ b ∈ v :: done ∨ (b : Int) ∈ q))) rows[v].length ?_ ?_ ?_
      · rw [List.nodup_append] at hqn
        refine ⟨0, G, q0, pr, _, rfl, Nat.zero_le _, c107_1, c107_3, c107_4, c107_5, c107_6, c107_8, c107_9, c107_21, c107_24, c107_274, c107_275, c107_276, hsG, kG, hpr, hprl, hq0, hqn.1, ?_, ?_, ?_⟩
        · intro z hz
          obtain ⟨b, h1, h2, h3⟩ := hqd z (by simp [hz])
          refine ⟨b, h1, h2, ?_⟩
          intro hb
          rcases List.mem_cons.1 hb with h4 | h4
          · exact hqn.2.2 z hz (v : Int) (by simp) (by rw [h1, h4])
          · exact h3 h4
        · intro b hb
          rw [hrem b hb, remC_done hvd (b : Int) size, if_pos hvs, egd]
          simp
        · intro b hb
          rw [hiff b hb]
          simp only [List.mem_cons, List.mem_append, List.not_mem_nil, or_false]
          constructor
          · rintro (h1 | h1 | h1)
            · exact .inl (.inr h1)
            · exact .inr h1
            · exact .inl (.inl (by omega))
          · rintro ((h1 | h1) | h1)
            · exact .inr (.inr (by omega))
            · exact .inl h1
            · exact .inr (.inl h1)
      · clear t1 t3 t4 t5 t6 t8 t9 t21 t24 hsG kG hpr hprl hqr hqn hqd hrem hiff hq0 hcq hcap hsvG hTG hcr
        rintro Q'' r τ wi hnn' hx' hr' ⟨j, G, q, pr, qv, rfl, hj, t1, t3, t4, t5, t6, t8, t9, t21, t24, t274, t275, t276, hsG, kG, hpr, hprl, hqr, hqn, hqd, hrem, hiff⟩
        refine wp_seq_k (fun K108 hK108 => ?_)
        refine reg ?_
        refine sq rfl (do_lss (tm rfl t276) (tm rfl t275)) ?_
        refine wnil ?_
        refine hK108 _ _ ?_
        clear hK108
        by_cases h' : j < rows[v].length
        · refine wp_seq_k (fun K109 hK109 => ?_)
          refine cT rfl hit (by simpa using h') ?_
          refine wp_skip ?_
          refine hK109 _ _ ?_
          clear hK109
          have hrG : RowV (G 61) 3 1 (.slice ra rows[v].length rc) rows[v].length (rows[v].flatMap encI) := by rw [kG 61 (by decide)]; exact hrr
          obtain ⟨gu, rfl, hcu, _⟩ := hrG.cellS hsG (cellI h')
          obtain ⟨b, hbe, hbs, _⟩ := hed v hvr rows[v][j] (List.getElem_mem _)
          have hdrop : rows[v].drop j = (b : Int) :: rows[v].drop (j + 1) := by rw [List.drop_eq_getElem_cons h', hbe]
          rw [hbe] at hcu
          refine wp_seq_k (fun K110 hK110 => ?_)
          refine wp_block ?_
          refine wp_seq_k (fun K111 hK111 => ?_)
          refine reg ?_
          refine sq rfl (ix22 (tm rfl (nx rfl t274)) (tm rfl (nx rfl t276)) (by omega)) ?_
          refine sq rfl (do_load T3 rfl (tm rfl hit) hcu) ?_
          refine sq rfl (do_assign (tm rfl hit)) ?_
          refine cutL ?_
          intro τ112 e112
          have c112_1 := (congrFun e112 1).trans (nx rfl (nx rfl (nx rfl (nx rfl t1))))
          have c112_3 := (congrFun e112 3).trans (nx rfl (nx rfl (nx rfl (nx rfl t3))))
          have c112_4 := (congrFun e112 4).trans (nx rfl (nx rfl (nx rfl (nx rfl t4))))
          have c112_5 := (congrFun e112 5).trans (nx rfl (nx rfl (nx rfl (nx rfl t5))))
          have c112_6 := (congrFun e112 6).trans (nx rfl (nx rfl (nx rfl (nx rfl t6))))
          have c112_8 := (congrFun e112 8).trans (nx rfl (nx rfl (nx rfl (nx rfl t8))))
          have c112_9 := (congrFun e112 9).trans (nx rfl (nx rfl (nx rfl (nx rfl t9))))
          have c112_21 := (congrFun e112 21).trans (nx rfl (nx rfl (nx rfl (nx rfl t21))))
          have c112_24 := (congrFun e112 24).trans (nx rfl (nx rfl (nx rfl (nx rfl t24))))
          have c112_27 := (congrFun e112 27).trans hit
          have c112_274 := (congrFun e112 274).trans (nx rfl (nx rfl (nx rfl (nx rfl t274))))
          have c112_275 := (congrFun e112 275).trans (nx rfl (nx rfl (nx rfl (nx rfl t275))))
          have c112_276 := (congrFun e112 276).trans (nx rfl (nx rfl (nx rfl (nx rfl t276))))
          clear e112
          refine wnil ?_
          refine hK111 _ _ ?_
          clear hK111
          have hcb : pr[b]? = some ((remC rows (v :: done) (b : Int) size + (rows[v].drop (j + 1)).count (b : Int) + 1 : Nat) : Int) := by
            rw [hrem b hbs, hdrop, List.count_cons_self]; rfl
          have hcle : remC rows (v :: done) (b : Int) size + (rows[v].drop (j + 1)).count (b : Int) ≤ 100000000000 := by
            have h1 := remC_le rows (v :: done) (b : Int) size (by omega)
            have h2 := sumLen_take_le rows size
            have h3 := List.count_le_length (a := (b : Int)) (l := rows[v].drop (j + 1))
            rw [List.length_drop] at h3
            omega
          generalize hc' : remC rows (v :: done) (b : Int) size + (rows[v].drop (j + 1)).count (b : Int) = c at hcb hcle
          have hbl : b < pr.length := by omega
          have hpb : pr[b]'hbl = ((c + 1 : Nat) : Int) := by
            rw [List.getElem?_eq_getElem hbl] at hcb
            injection hcb
          have hnz : ¬ (b ∈ v :: done ∨ (b : Int) ∈ q) := by
            rw [← hiff b hbs, hcb]
            intro hc
            injection hc with hc
            omega
          obtain ⟨gp, J1, hgp, hpc, hpf, j1, g1, hpr1⟩ := rowPutI hpr hsG hbl (c : Int)
          rw [hpb] at hpc
          have hpvG := kG.vb (t := 62) (by decide) hpvB
          subst hgp
          refine wp_seq_k (fun K113 hK113 => ?_)
          refine reg ?_
          refine sq rfl (do_load T22 rfl (tm rfl c112_6) (hpvG.cell hsG (i := 0) rfl)) ?_
          refine sq rfl (do_move (tm rfl (nx rfl c112_27))) ?_
          refine sq rfl (ix22 (tm rfl (nx rfl hit)) (tm rfl hit) (by omega)) ?_
          refine sq rfl (do_load T3 rfl (tm rfl hit) hpc) ?_
          refine sq rfl ((do_sub (tm rfl hit) ck ⟨by omega, by omega⟩).cast (show Value.int .i64 (((c + 1 : Nat) : Int) - 1) = .int .i64 (c : Int) by congr 1; omega)) ?_
          refine sq rfl (ix22 (tm rfl (nx rfl (nx rfl (nx rfl (nx rfl hit))))) (tm rfl (nx rfl (nx rfl (nx rfl hit)))) (by omega)) ?_
          refine sqn (do_store T3 (tm rfl hit) (tm rfl (nx rfl hit)) rfl hpc hpf) ?_
          refine cutW ?_
          intro τ114 e114 xa hxa
          have c114_1 := (congrFun e114 1).trans (nx rfl (nx rfl (nx rfl (nx rfl (nx rfl (nx rfl c112_1))))))
          have c114_3 := (congrFun e114 3).trans (nx rfl (nx rfl (nx rfl (nx rfl (nx rfl (nx rfl c112_3))))))
          have c114_4 := (congrFun e114 4).trans (nx rfl (nx rfl (nx rfl (nx rfl (nx rfl (nx rfl c112_4))))))
          have c114_5 := (congrFun e114 5).trans (nx rfl (nx rfl (nx rfl (nx rfl (nx rfl (nx rfl c112_5))))))
          have c114_6 := (congrFun e114 6).trans (nx rfl (nx rfl (nx rfl (nx rfl (nx rfl (nx rfl c112_6))))))
          have c114_8 := (congrFun e114 8).trans (nx rfl (nx rfl (nx rfl (nx rfl (nx rfl (nx rfl c112_8))))))
          have c114_9 := (congrFun e114 9).trans (nx rfl (nx rfl (nx rfl (nx rfl (nx rfl (nx rfl c112_9))))))
          have c114_21 := (congrFun e114 21).trans (nx rfl (nx rfl (nx rfl (nx rfl (nx rfl (nx rfl c112_21))))))
          have c114_24 := (congrFun e114 24).trans (nx rfl (nx rfl (nx rfl (nx rfl (nx rfl (nx rfl c112_24))))))
          have c114_27 := (congrFun e114 27).trans (nx rfl (nx rfl (nx rfl (nx rfl (nx rfl (nx rfl c112_27))))))
          have c114_274 := (congrFun e114 274).trans (nx rfl (nx rfl (nx rfl (nx rfl (nx rfl (nx rfl c112_274))))))
          have c114_275 := (congrFun e114 275).trans (nx rfl (nx rfl (nx rfl (nx rfl (nx rfl (nx rfl c112_275))))))
          have c114_276 := (congrFun e114 276).trans (nx rfl (nx rfl (nx rfl (nx rfl (nx rfl (nx rfl c112_276))))))
          clear e114
          refine wnil ?_
          refine hK113 _ _ ?_
          clear hK113
          have g1' : Split N w0 xa J1 := by rw [hxa]; exact g1
          clear hxa g1
          have hpv1 := j1.vb (t := 62) (by decide) hpvG
          have kJ : Same [28, 63, 65] GB J1 := kG.trans (j1.mono (by decide))
          have hqr1 : RowV (J1 65) 3 1 qv q.length (q.flatMap encI) := by rw [j1 65 (by decide)]; exact hqr
          have hbl1 : b < (pr.set b (c : Int)).length := by simpa using hbl
          obtain ⟨gp2, hgp2, hpc2, _⟩ := hpr1.cellS g1' (cellI hbl1)
          cases hgp2
          rw [List.getElem_set_self] at hpc2
          refine wp_seq_k (fun K115 hK115 => ?_)
          refine reg ?_
          refine sq rfl (do_load T22 rfl (tm rfl c114_6) (hpv1.cell g1' (i := 0) rfl)) ?_
          refine sq rfl (do_move (tm rfl (nx rfl c114_27))) ?_
          refine sq rfl (ix22 (tm rfl (nx rfl hit)) (tm rfl hit) (by omega)) ?_
          refine sq rfl (do_load T3 rfl (tm rfl hit) hpc2) ?_
          refine sq rfl (do_eql (tm rfl hit) ck) ?_
          refine cutL ?_
          intro τ116 e116
          have c116_1 := (congrFun e116 1).trans (nx rfl (nx rfl (nx rfl (nx rfl (nx rfl c114_1)))))
          have c116_3 := (congrFun e116 3).trans (nx rfl (nx rfl (nx rfl (nx rfl (nx rfl c114_3)))))
          have c116_4 := (congrFun e116 4).trans (nx rfl (nx rfl (nx rfl (nx rfl (nx rfl c114_4)))))
          have c116_5 := (congrFun e116 5).trans (nx rfl (nx rfl (nx rfl (nx rfl (nx rfl c114_5)))))
          have c116_6 := (congrFun e116 6).trans (nx rfl (nx rfl (nx rfl (nx rfl (nx rfl c114_6)))))
          have c116_8 := (congrFun e116 8).trans (nx rfl (nx rfl (nx rfl (nx rfl (nx rfl c114_8)))))
          have c116_9 := (congrFun e116 9).trans (nx rfl (nx rfl (nx rfl (nx rfl (nx rfl c114_9)))))
          have c116_21 := (congrFun e116 21).trans (nx rfl (nx rfl (nx rfl (nx rfl (nx rfl c114_21)))))
          have c116_24 := (congrFun e116 24).trans (nx rfl (nx rfl (nx rfl (nx rfl (nx rfl c114_24)))))
          have c116_27 := (congrFun e116 27).trans (nx rfl (nx rfl (nx rfl (nx rfl (nx rfl c114_27)))))
          have c116_274 := (congrFun e116 274).trans (nx rfl (nx rfl (nx rfl (nx rfl (nx rfl c114_274)))))
          have c116_275 := (congrFun e116 275).trans (nx rfl (nx rfl (nx rfl (nx rfl (nx rfl c114_275)))))
          have c116_276 := (congrFun e116 276).trans (nx rfl (nx rfl (nx rfl (nx rfl (nx rfl c114_276)))))
          have c116_290 := (congrFun e116 290).trans hit
          clear e116
          refine wnil ?_
          refine hK115 _ _ ?_
          clear hK115
          have hrem1 : ∀ b', b' < size → (pr.set b (c : Int))[b']? = some ((remC rows (v :: done) (b' : Int) size + (rows[v].drop (j + 1)).count (b' : Int) : Nat) : Int) := by
            intro b' hb'
            by_cases hbb : b = b'
            · subst hbb
              rw [List.getElem?_set_self hbl, hc']
            · rw [List.getElem?_set_ne hbb, hrem b' hb', hdrop, List.count_cons_of_ne (by omega)]
          have hql1 : q.length ≤ size := pigI hqn (fun z hz => by obtain ⟨b', h1, h2, _⟩ := hqd z hz; exact ⟨b', h1, h2⟩)
          by_cases h0 : c = 0
          · refine cT rfl c116_290 (by simp [h0]) ?_
            obtain ⟨J2, j2, g2, _⟩ := blkN g1' 28 3 #[.int .i64 (b : Int)]
            have hqr2 : RowV (J2 65) 3 1 qv q.length (q.flatMap encI) := by rw [j2 65 (by decide)]; exact hqr1
            obtain ⟨qv', wd, V65, hap, g3, hqr3, _, _⟩ := RowV.append T22 T3 rfl (by decide) hqr2 g2 (a := ⟨xa.heap.size, 0, none⟩) (m := 1) (c := 1) (news := encI (b : Int)) rfl (by
              intro j u hu
              rw [add_plain, Nat.zero_add]
              exact new_cell xa #[.int .i64 (b : Int)] 3 j hu) (one_I _) (by simp only [maxLen]; omega) (by omega)
            refine reg ?_
            refine sq rfl (do_move (tm rfl c116_21)) ?_
            refine sq rfl (do_move (tm rfl (nx rfl c116_27))) ?_
            refine sq rfl (do_bs1 T22 T3 rfl (tm rfl hit) rfl) ?_
            refine sq rfl (hap _ _ _ _ _ _ _ _ (tm rfl (nx rfl (nx rfl hit))) (tm rfl hit)) ?_
            refine sq rfl (do_assign (tm rfl hit)) ?_
            refine cutL ?_
            intro τ117 e117
            have c117_1 := (congrFun e117 1).trans (nx rfl (nx rfl (nx rfl (nx rfl (nx rfl c116_1)))))
            have c117_3 := (congrFun e117 3).trans (nx rfl (nx rfl (nx rfl (nx rfl (nx rfl c116_3)))))
            have c117_4 := (congrFun e117 4).trans (nx rfl (nx rfl (nx rfl (nx rfl (nx rfl c116_4)))))
            have c117_5 := (congrFun e117 5).trans (nx rfl (nx rfl (nx rfl (nx rfl (nx rfl c116_5)))))
            have c117_6 := (congrFun e117 6).trans (nx rfl (nx rfl (nx rfl (nx rfl (nx rfl c116_6)))))
            have c117_8 := (congrFun e117 8).trans (nx rfl (nx rfl (nx rfl (nx rfl (nx rfl c116_8)))))
            have c117_9 := (congrFun e117 9).trans (nx rfl (nx rfl (nx rfl (nx rfl (nx rfl c116_9)))))
            have c117_21 := (congrFun e117 21).trans hit
            have c117_24 := (congrFun e117 24).trans (nx rfl (nx rfl (nx rfl (nx rfl (nx rfl c116_24)))))
            have c117_27 := (congrFun e117 27).trans (nx rfl (nx rfl (nx rfl (nx rfl (nx rfl c116_27)))))
            have c117_274 := (congrFun e117 274).trans (nx rfl (nx rfl (nx rfl (nx rfl (nx rfl c116_274)))))
            have c117_275 := (congrFun e117 275).trans (nx rfl (nx rfl (nx rfl (nx rfl (nx rfl c116_275)))))
            have c117_276 := (congrFun e117 276).trans (nx rfl (nx rfl (nx rfl (nx rfl (nx rfl c116_276)))))
            clear e117
            refine wnil ?_
            refine inBN ?_
            refine hK110 _ _ ?_
            clear hK110
            have j3 : Same [65] J2 (updH J2 65 V65) := Same.upd (by decide)
            refine reg ?_
            refine sq rfl (do_inc (tm rfl c117_276) ck (by omega)) ?_
            refine sq rfl (do_move (tm rfl hit)) ?_
            refine wnil ?_
            refine hnn' (rows[v].length - (j + 1)) _ _ (by omega) ⟨j + 1, updH J2 65 V65, q ++ [(b : Int)], pr.set b (c : Int), qv', rfl, by omega, (nx rfl (nx rfl c117_1)), (nx rfl (nx rfl c117_3)), (nx rfl (nx rfl c117_4)), (nx rfl (nx rfl c117_5)), (nx rfl (nx rfl c117_6)), (nx rfl (nx rfl c117_8)), (nx rfl (nx rfl c117_9)), (nx rfl (nx rfl c117_21)), (nx rfl (nx rfl c117_24)), (nx rfl (nx rfl c117_274)), (nx rfl (nx rfl c117_275)), hit, g3, kJ.trans ((j2.mono (by decide)).trans (j3.mono (by decide))), ?_, by simpa using hprl, ?_, ?_, ?_, hrem1, ?_⟩
            · rw [j3 63 (by decide), j2 63 (by decide)]; exact hpr1
            · rw [updH_hit]
              simpa [List.flatMap_append] using hqr3
            · rw [List.nodup_append]
              refine ⟨hqn, by simp, ?_⟩
              intro z hz y hy hzy
              have : y = (b : Int) := by simpa using hy
              rw [hzy, this] at hz
              exact hnz (.inr hz)
            · intro z hz
              rcases List.mem_append.1 hz with h1 | h1
              · exact hqd z h1
              · exact ⟨b, by simpa using h1, hbs, fun h2 => hnz (.inl h2)⟩
            · intro b' hb'
              by_cases hbb : b = b'
              · subst hbb
                rw [List.getElem?_set_self hbl, h0]; simp
              · rw [List.getElem?_set_ne hbb, hiff b' hb']
                have : ¬ (b' : Int) = (b : Int) := by omega
                simp [this]
          · refine cF rfl c116_290 (by simpa using h0) ?_
            refine wp_skip ?_
            refine inBN ?_
            refine hK110 _ _ ?_
            clear hK110
            refine reg ?_
            refine sq rfl (do_inc (tm rfl c116_276) ck (by omega)) ?_
            refine sq rfl (do_move (tm rfl hit)) ?_
            refine wnil ?_
            refine hnn' (rows[v].length - (j + 1)) _ _ (by omega) ⟨j + 1, J1, q, pr.set b (c : Int), qv, rfl, by omega, (nx rfl (nx rfl c116_1)), (nx rfl (nx rfl c116_3)), (nx rfl (nx rfl c116_4)), (nx rfl (nx rfl c116_5)), (nx rfl (nx rfl c116_6)), (nx rfl (nx rfl c116_8)), (nx rfl (nx rfl c116_9)), (nx rfl (nx rfl c116_21)), (nx rfl (nx rfl c116_24)), (nx rfl (nx rfl c116_274)), (nx rfl (nx rfl c116_275)), hit, g1', kJ, hpr1, by simpa using hprl, hqr1, hqn, hqd, hrem1, ?_⟩
            intro b' hb'
            by_cases hbb : b = b'
            · subst hbb
              rw [List.getElem?_set_self hbl]
              constructor
              · intro hc
                injection hc with hc
                omega
              · intro hc
                exact absurd hc hnz
            · rw [List.getElem?_set_ne hbb, hiff b' hb']
        · refine wp_seq_k (fun K118 hK118 => ?_)
          refine cF rfl hit (by simpa using h') ?_
          refine wp_exit ?_
          refine thenE ?_
          refine hx' _ _ ⟨G, q, pr, qv, (nx rfl t1), (nx rfl t3), (nx rfl t4), (nx rfl t5), (nx rfl t6), (nx rfl t8), (nx rfl t9), (nx rfl t21), (nx rfl t24), hsG, kG, hpr, hprl, hqr, hqn, hqd, fun b hb => ?_, hiff⟩
          rw [hrem b hb, List.drop_eq_nil_of_le (by omega)]
          simp
      clear t1 t3 t4 t5 t6 t8 t9 t21 t24 hsG kG hpr hprl hqr hqn hqd hrem hiff hq0 hcq hcap hsvG hTG hcr
      rintro τ wi ⟨G, q, pr, qv, t1, t3, t4, t5, t6, t8, t9, t21, t24, hsG, kG, hpr, hprl, hqr, hqn, hqd, hrem, hiff⟩
      refine inBN ?_
      refine hK101 _ _ ?_
      clear hK101
      refine reg ?_
      refine sq rfl (do_move (tm rfl t24)) ?_
      refine sq rfl (do_inc (tm rfl hit) ck (by omega)) ?_
      refine sq rfl (do_assign (tm rfl hit)) ?_
      refine wnil ?_
      exact hnn (size - (done.length + 1)) _ _ (by omega) ⟨v :: done, G, q, pr, qv, rfl, (nx rfl (nx rfl (nx rfl t1))), (nx rfl (nx rfl (nx rfl t3))), (nx rfl (nx rfl (nx rfl t4))), (nx rfl (nx rfl (nx rfl t5))), (nx rfl (nx rfl (nx rfl t6))), (nx rfl (nx rfl (nx rfl t8))), (nx rfl (nx rfl (nx rfl t9))), (nx rfl (nx rfl (nx rfl t21))), hit, hsG, kG, hpr, hprl, hqr, hqn, List.nodup_cons.2 ⟨hvd, hdn⟩, (fun d hd => by
        rcases List.mem_cons.1 hd with h1 | h1
        · omega
        · exact hdb d h1), hqd, hrem, hiff⟩
    · refine cF rfl hit (by simpa using h) ?_
      refine wp_exit ?_
      refine thenE ?_
      have hq0 : q = [] := List.eq_nil_of_length_eq_zero (by omega)
      have hke : size ≤ done.length := kahn_end hrl hed (preds := pr) (fun b hb => ⟨_, hrem b hb, rfl⟩) (fun b hb hbd hc => by
        rcases (hiff b hb).1 hc with h1 | h1
        · exact hbd h1
        · rw [hq0] at h1; cases h1)
      exact hx _ _ ⟨done, G, _, q, (nx rfl (nx rfl (nx rfl t1))), (nx rfl (nx rfl (nx rfl t3))), (nx rfl (nx rfl (nx rfl t4))), (nx rfl (nx rfl (nx rfl t5))), (nx rfl (nx rfl (nx rfl t6))), (nx rfl (nx rfl (nx rfl t8))), (nx rfl (nx rfl (nx rfl t9))), (nx rfl (nx rfl (nx rfl t21))), (nx rfl (nx rfl (nx rfl t24))), hke, hsG, kG, hqr⟩
  clear t1 t3 t4 t5 t6 t8 t9 t21 hsG kG hqr hql hqn hqp hqi
  rintro τ wi ⟨done, G, qv, q, t1, t3, t4, t5, t6, t8, t9, t21, t24, hdl, hsG, kG, hqr⟩
  refine hK98 _ _ ?_
  clear hK98
  have hsbG := kG.vb (t := 40) (by decide) hsbB
  have hvG := kG.vb (t := 64) (by decide) hvB
  have hpvG := kG.vb (t := 62) (by decide) hpvB
  obtain ⟨G9, k9, g9, _⟩ := hsbG.put hsG 16 qv
  refine wp_seq_k (fun K119 hK119 => ?_)
  refine reg ?_
  refine sq rfl (do_load T45 rfl (tm rfl t1) (hvG.cell hsG (i := 0) rfl)) ?_
  refine sq rfl (do_move (tm rfl (nx rfl t21))) ?_
  refine sq rfl (do_nilCheck (tm rfl (nx rfl hit))) ?_
  refine sq rfl (fa72_16 (tm rfl hit)) ?_
  refine sqn (do_store T22 (tm rfl hit) (tm rfl (nx rfl (nx rfl hit))) hqr.one (hsbG.cell hsG (i := 16) rfl) (hsbG.frozen hsG 16)) ?_
  refine cutW ?_
  intro τ120 e120 xz2 hxz2
  have c120_1 := (congrFun e120 1).trans (nx rfl (nx rfl (nx rfl (nx rfl t1))))
  have c120_3 := (congrFun e120 3).trans (nx rfl (nx rfl (nx rfl (nx rfl t3))))
  have c120_4 := (congrFun e120 4).trans (nx rfl (nx rfl (nx rfl (nx rfl t4))))
  have c120_5 := (congrFun e120 5).trans (nx rfl (nx rfl (nx rfl (nx rfl t5))))
  have c120_6 := (congrFun e120 6).trans (nx rfl (nx rfl (nx rfl (nx rfl t6))))
  have c120_8 := (congrFun e120 8).trans (nx rfl (nx rfl (nx rfl (nx rfl t8))))
  have c120_9 := (congrFun e120 9).trans (nx rfl (nx rfl (nx rfl (nx rfl t9))))
  have c120_21 := (congrFun e120 21).trans (nx rfl (nx rfl (nx rfl (nx rfl t21))))
  have c120_24 := (congrFun e120 24).trans (nx rfl (nx rfl (nx rfl (nx rfl t24))))
  clear e120
  refine wnil ?_
  refine hK119 _ _ ?_
  clear hK119
  have g9' : Split N w0 xz2 G9 := by rw [hxz2]; exact g9
  refine wp_seq_k (fun K121 hK121 => ?_)
  refine reg ?_
  refine sq rfl (do_move (tm rfl c120_24)) ?_
  refine sq rfl (do_load T22 rfl (tm rfl (nx rfl c120_6)) ((k9.vb (t := 62) (by decide) hpvG).cell g9' (i := 0) rfl)) ?_
  refine sq rfl (do_len Try.underlying22 (tm rfl hit)) ?_
  refine sq rfl (do_lssF (tm rfl (nx rfl (nx rfl hit))) (tm rfl hit) (by omega)) ?_
  refine sq rfl (do_assign (tm rfl hit)) ?_
  refine cutL ?_
  intro τ122 e122
  have c122_1 := (congrFun e122 1).trans (nx rfl (nx rfl (nx rfl (nx rfl (nx rfl c120_1)))))
  have c122_2 := (congrFun e122 2).trans hit
  have c122_3 := (congrFun e122 3).trans (nx rfl (nx rfl (nx rfl (nx rfl (nx rfl c120_3)))))
  have c122_4 := (congrFun e122 4).trans (nx rfl (nx rfl (nx rfl (nx rfl (nx rfl c120_4)))))
  have c122_5 := (congrFun e122 5).trans (nx rfl (nx rfl (nx rfl (nx rfl (nx rfl c120_5)))))
  have c122_6 := (congrFun e122 6).trans (nx rfl (nx rfl (nx rfl (nx rfl (nx rfl c120_6)))))
  have c122_8 := (congrFun e122 8).trans (nx rfl (nx rfl (nx rfl (nx rfl (nx rfl c120_8)))))
  have c122_9 := (congrFun e122 9).trans (nx rfl (nx rfl (nx rfl (nx rfl (nx rfl c120_9)))))
  have c122_21 := (congrFun e122 21).trans (nx rfl (nx rfl (nx rfl (nx rfl (nx rfl c120_21)))))
  have c122_24 := (congrFun e122 24).trans (nx rfl (nx rfl (nx rfl (nx rfl (nx rfl c120_24)))))
  clear e122
  refine wnil ?_
  refine hK121 _ _ ?_
  clear hK121
  refine wp_ret ?_
  rw [← hQ]
  exact ret1 rfl rfl c122_2 ⟨rfl, G9, g9'⟩
end Go.Proofs.Qxb6001364a
