/-
  ZZInitial, ZZWriters.
-/
import Derived.Test.Qxb6001364aV14
namespace Go.Proofs.Qxb6001364a
open Go.Fra Go.RowKit Pl
set_option maxRecDepth 100000
set_option linter.unusedVariables false
theorem clone33s (w : World) (q : Addr) (c : Nat) (zs : List Int) (hc : ∀ i (h : i < zs.length), ∃ b o, some q = some ⟨b, o, none⟩ ∧ w.cell? ⟨b, o + i, none⟩ = some (.int .i64 zs[i])) (hl : zs.length ≤ 17592186044416) :
    Calls Try.prog 33 #[.slice (some q) zs.length c] w fun e w' => e = .returned (.slice (some ⟨w.heap.size, 0, none⟩) zs.length zs.length) ∧ Blk w' w.heap.size 3 (ints zs) ∧ Below w.heap.size w w' := by
  refine enter (args := [.slice (some q) zs.length c]) Try.func33 rfl Try.ntmps33 rfl ?_
  generalize hQ : bodyPost Try.prog Try.f33 _ = Q
  have s0 : frame0 [Value.slice (some q) zs.length c] 0 = .slice (some q) zs.length c := rfl
  generalize frame0 [Value.slice (some q) zs.length c] = σ at *
  refine wp_seq_k (fun K1 hK1 => ?_)
  refine reg ?_
  refine sq rfl (do_assign ck) ?_
  refine wnil ?_
  refine hK1 _ _ ?_
  clear hK1
  refine wp_seq_k (fun K2 hK2 => ?_)
  refine wp_seq_k (fun K3 hK3 => ?_)
  refine reg ?_
  refine sq rfl (do_move (tm rfl (nx rfl s0))) ?_
  refine sq rfl (do_nilS Try.underlying22 (tm rfl hit) ck) ?_
  refine wnil ?_
  refine hK3 _ _ ?_
  clear hK3
  refine cF rfl hit rfl ?_
  refine wp_skip ?_
  refine hK2 _ _ ?_
  clear hK2
  refine wp_seq_k (fun K4 hK4 => ?_)
  refine reg ?_
  refine sq rfl (do_move (tm rfl (nx rfl (nx rfl (nx rfl s0))))) ?_
  refine sq rfl (do_len Try.underlying22 (tm rfl hit)) ?_
  refine sq rfl (mk22b (tm rfl hit) (tm rfl hit) hl) ?_
  refine sq rfl (do_assign (tm rfl hit)) ?_
  refine cutW ?_
  intro τ5 e5 w2 hw2
  have c5_0 := (congrFun e5 0).trans (nx rfl (nx rfl (nx rfl (nx rfl (nx rfl (nx rfl (nx rfl s0)))))))
  have c5_2 := (congrFun e5 2).trans (nx rfl (nx rfl (nx rfl (nx rfl (nx rfl (nx rfl hit))))))
  have c5_3 := (congrFun e5 3).trans hit
  clear e5
  refine wnil ?_
  refine hK4 _ _ ?_
  clear hK4
  have hB2 : Blk w2 w.heap.size 3 (List.replicate zs.length (.int .i64 0)) := by
    have := Blk.new w (madeCells #[.int .i64 0] zs.length) 3
    rw [made_list] at this
    rw [hw2]; exact this
  have hbel2 : Below w.heap.size w w2 := by rw [hw2]; exact (Below.refl _ _).alloc (Nat.le_refl _) _
  clear hw2
  have hsrc : ∀ (j : Nat) (v : Value), (ints zs)[j]? = some v → w2.cell? (q.add j) = some v := by
    intro j v hv
    rw [ints, List.getElem?_map] at hv
    rcases Nat.lt_or_ge j zs.length with hj | hj
    · rw [List.getElem?_eq_getElem hj] at hv
      cases hv
      obtain ⟨b, o, e, hcc⟩ := hc j hj
      cases e
      rw [add_plain, hbel2.cell (World.block_lt_of_cell? w _ hcc), hcc]
    · rw [List.getElem?_eq_none hj] at hv
      cases hv
  refine wp_seq_k (fun K6 hK6 => ?_)
  refine reg ?_
  refine sq rfl (do_move (tm rfl c5_3)) ?_
  refine sq rfl (do_move (tm rfl (nx rfl c5_0))) ?_
  refine sq rfl (do_copyNew Try.underlying22 T3 hB2 (tm rfl (nx rfl hit)) (tm rfl hit) (ints_length zs) hsrc (by intro v hv; simp [ints] at hv; obtain ⟨z, _, rfl⟩ := hv; rfl)) ?_
  refine cutW ?_
  intro τ7 e7 w3 hw3
  have c7_0 := (congrFun e7 0).trans (nx rfl (nx rfl (nx rfl c5_0)))
  have c7_2 := (congrFun e7 2).trans (nx rfl (nx rfl (nx rfl c5_2)))
  have c7_3 := (congrFun e7 3).trans (nx rfl (nx rfl (nx rfl c5_3)))
  clear e7
  refine wnil ?_
  refine hK6 _ _ ?_
  clear hK6
  refine wp_seq_k (fun K8 hK8 => ?_)
  refine reg ?_
  refine sq rfl (do_move (tm rfl c7_3)) ?_
  refine sq rfl (do_assign (tm rfl hit)) ?_
  refine wnil ?_
  refine hK8 _ _ ?_
  clear hK8
  refine wp_ret ?_
  have hB3 : Blk w3 w.heap.size 3 (ints zs) := by rw [hw3]; exact copied_blk hB2 (ints_length zs)
  have hbel3 : Below w.heap.size w w3 := by rw [hw3]; exact Below_setCells (Nat.le_refl _) _ _ _ hbel2
  rw [← hQ]
  exact ret1 rfl rfl hit ⟨rfl, hB3, hbel3⟩


theorem initial25 (w : World) (pb ib k : Nat) (zs : List Int) (hz : zs.length = k) (hcell : w.cell? ⟨pb, 3, none⟩ = some (.slice (some ⟨ib, 0, none⟩) k k)) (hB : Blk w ib 3 (ints zs)) (hl : k ≤ 65536) :
    Calls Try.prog 25 #[.pointer (some ⟨pb, 0, none⟩)] w fun e w' => e = .returned (.slice (some ⟨w.heap.size, 0, none⟩) k k) ∧ Blk w' w.heap.size 3 (ints zs) ∧ Below w.heap.size w w' := by
  subst hz
  refine enter (args := [.pointer (some ⟨pb, 0, none⟩)]) Try.func25 rfl Try.ntmps25 rfl ?_
  generalize hQ : bodyPost Try.prog Try.f25 _ = Q
  have s0 : frame0 [Value.pointer (some ⟨pb, 0, none⟩)] 0 = .pointer (some ⟨pb, 0, none⟩) := rfl
  generalize frame0 [Value.pointer (some ⟨pb, 0, none⟩)] = σ at *
  refine wp_seq_k (fun K9 hK9 => ?_)
  refine reg ?_
  refine sq rfl (do_assign ck) ?_
  refine wnil ?_
  refine hK9 _ _ ?_
  clear hK9
  refine wp_seq_k (fun K10 hK10 => ?_)
  refine reg ?_
  refine sq rfl (do_move (tm rfl (nx rfl s0))) ?_
  refine sq rfl (do_nilCheck (tm rfl hit)) ?_
  refine sq rfl (fa58_3 (tm rfl hit)) ?_
  refine sq rfl (do_load T22 rfl (tm rfl hit) hcell) ?_
  refine sqc (R := fun v w' => v = .slice (some ⟨w.heap.size, 0, none⟩) zs.length zs.length ∧ Blk w' w.heap.size 3 (ints zs) ∧ Below w.heap.size w w') rfl
    (run_callF Try.func33 nm33 bd33 (map1 (tm rfl hit)) rfl) ((clone33s w _ _ zs (fun i hi => ⟨ib, 0, rfl, by rw [Nat.zero_add]; exact hB.cell (ints_get zs i hi)⟩) (by omega)).mono ?_) ?_
  · rintro e w' ⟨rfl, h⟩
    exact ⟨_, rfl, rfl, h⟩
  rintro cv w3 ⟨rfl, h1, h2⟩
  refine sq rfl (do_assign (tm rfl hit)) ?_
  refine cutL ?_
  intro τ11 e11
  have c11_0 := (congrFun e11 0).trans (nx rfl (nx rfl (nx rfl (nx rfl (nx rfl (nx rfl (nx rfl s0)))))))
  have c11_2 := (congrFun e11 2).trans hit
  clear e11
  refine wnil ?_
  refine hK10 _ _ ?_
  clear hK10
  refine wp_ret ?_
  rw [← hQ]
  exact ret1 rfl rfl c11_2 ⟨rfl, h1, h2⟩
theorem writers35 (w : World) (pb : Nat) (sv : Value) (rows : List (List Int)) (hcell : w.cell? ⟨pb, 2, none⟩ = some sv) (hT : TabR w sv rows) (l1 : rows.length ≤ 1048576) (l2 : ∀ r ∈ rows, r.length ≤ 17592186044416) :
    Calls Try.prog 35 #[.pointer (some ⟨pb, 0, none⟩)] w fun e w' => e = .returned (.slice (some ⟨w.heap.size, 0, none⟩) rows.length rows.length) ∧ (∃ vs, Blk w' w.heap.size 22 vs ∧ ∀ x (h : x < rows.length), ∃ a c, vs[x]? = some (.slice a rows[x].length c)) ∧ Below w.heap.size w w' := by
  obtain ⟨a, c, rfl, hTc⟩ := hT
  refine enter (args := [.pointer (some ⟨pb, 0, none⟩)]) Try.func35 rfl Try.ntmps35 rfl ?_
  generalize hQ : bodyPost Try.prog Try.f35 _ = Q
  have s0 : frame0 [Value.pointer (some ⟨pb, 0, none⟩)] 0 = .pointer (some ⟨pb, 0, none⟩) := rfl
  generalize frame0 [Value.pointer (some ⟨pb, 0, none⟩)] = σ at *
  have hpl := World.block_lt_of_cell? w _ hcell
  refine wp_seq_k (fun K12 hK12 => ?_)
  refine reg ?_
  refine sq rfl (do_assign ck) ?_
  refine wnil ?_
  refine hK12 _ _ ?_
  clear hK12
  refine wp_seq_k (fun K13 hK13 => ?_)
  refine reg ?_
  refine sq rfl (do_move (tm rfl (nx rfl s0))) ?_
  refine sq rfl (do_nilCheck (tm rfl hit)) ?_
  refine sq rfl (fa58_2 (tm rfl hit)) ?_
  refine sq rfl (do_load T37 rfl (tm rfl hit) hcell) ?_
  refine sq rfl (do_len Try.underlying37 (tm rfl hit)) ?_
  refine sq rfl (mk37 (tm rfl hit) (tm rfl hit) (by omega)) ?_
  refine sq rfl (do_assign (tm rfl hit)) ?_
  refine cutL ?_
  intro τ14 e14
  have c14_0 := (congrFun e14 0).trans (nx rfl (nx rfl (nx rfl (nx rfl (nx rfl (nx rfl (nx rfl (nx rfl s0))))))))
  have c14_2 := (congrFun e14 2).trans (nx rfl (nx rfl (nx rfl (nx rfl (nx rfl (nx rfl (nx rfl hit)))))))
  have c14_3 := (congrFun e14 3).trans hit
  clear e14
  refine wnil ?_
  refine hK13 _ _ ?_
  clear hK13
  have hc2 : (w.alloc (.cells (madeCells #[.slice none 0 0] rows.length) 22)).cell? ⟨pb, 2, none⟩ = some (.slice a rows.length c) := by rw [World.cell?_alloc_past _ _ _ hpl]; exact hcell
  refine wp_seq_k (fun K15 hK15 => ?_)
  refine wp_seq_k (fun K16 hK16 => ?_)
  refine reg ?_
  refine sq rfl (do_move (tm rfl c14_0)) ?_
  refine sq rfl (do_nilCheck (tm rfl hit)) ?_
  refine sq rfl (fa58_2 (tm rfl hit)) ?_
  refine sq rfl (do_load T37 rfl (tm rfl hit) hc2) ?_
  refine sq rfl (do_len Try.underlying37 (tm rfl hit)) ?_
  refine sq rfl (do_move (v := .int .i64 ((0 : Nat) : Int)) rfl) ?_
  refine cutL ?_
  intro τ17 e17
  have c17_0 := (congrFun e17 0).trans (nx rfl (nx rfl (nx rfl (nx rfl (nx rfl (nx rfl c14_0))))))
  have c17_2 := (congrFun e17 2).trans (nx rfl (nx rfl (nx rfl (nx rfl (nx rfl (nx rfl c14_2))))))
  have c17_3 := (congrFun e17 3).trans (nx rfl (nx rfl (nx rfl (nx rfl (nx rfl (nx rfl c14_3))))))
  have c17_14 := (congrFun e17 14).trans (nx rfl (nx rfl hit))
  have c17_15 := (congrFun e17 15).trans (nx rfl hit)
  have c17_16 := (congrFun e17 16).trans hit
  clear e17
  refine wnil ?_
  refine hK16 _ _ ?_
  clear hK16
  refine forLoop (N := 32) (fun k τ wi => ∃ i vs, k = rows.length - i ∧ i ≤ rows.length ∧ τ 0 = .pointer (some ⟨pb, 0, none⟩) ∧ τ 3 = .slice (some ⟨w.heap.size, 0, none⟩) rows.length rows.length ∧ τ 15 = .int .i64 (rows.length : Int) ∧ τ 16 = .int .i64 (i : Int) ∧
      Blk wi w.heap.size 22 vs ∧ vs.length = rows.length ∧ (∀ j (h : j < rows.length), j < i → ∃ v, vs[j]? = some v ∧ IntR wi v rows[j] ∧ v.ownBlock ≠ some w.heap.size) ∧ Below w.heap.size w wi)
    (fun τ wi => ∃ vs, τ 3 = .slice (some ⟨w.heap.size, 0, none⟩) rows.length rows.length ∧
      Blk wi w.heap.size 22 vs ∧ vs.length = rows.length ∧ (∀ j (h : j < rows.length), ∃ v, vs[j]? = some v ∧ IntR wi v rows[j]) ∧ Below w.heap.size w wi) rows.length ?_ ?_ ?_
  · exact ⟨0, _, rfl, Nat.zero_le _, c17_0, c17_3, c17_15, c17_16, Blk.new w _ 22, by simp [made_list], fun j _ h => by omega, (Below.refl _ _).alloc (Nat.le_refl _) _⟩
  · clear s0
    rintro Q' k τ wi hnn hx hr ⟨i, vs, rfl, hi, t0, t3, t15, t16, hB, hvl, hdone, hbel⟩
    refine wp_seq_k (fun K18 hK18 => ?_)
    refine reg ?_
    refine sq rfl (do_lss (tm rfl t16) (tm rfl t15)) ?_
    refine wnil ?_
    refine hK18 _ _ ?_
    clear hK18
    by_cases h : i < rows.length
    · refine wp_seq_k (fun K19 hK19 => ?_)
      refine cT rfl hit (by simpa using h) ?_
      refine wp_skip ?_
      refine hK19 _ _ ?_
      clear hK19
      obtain ⟨b, o, rv, rfl, hcc, hrow⟩ := hTc i h
      have hcw : wi.cell? ⟨b, o + i, none⟩ = some rv := by rw [hbel.cell (World.block_lt_of_cell? w _ hcc)]; exact hcc
      have hrw := hrow.below hbel
      have hpc : wi.cell? ⟨pb, 2, none⟩ = some (.slice (some ⟨b, o, none⟩) rows.length c) := by rw [hbel.cell hpl]; exact hcell
      have hBlt := hB.lt
      refine wp_seq_k (fun K20 hK20 => ?_)
      refine wp_block ?_
      refine wp_seq_k (fun K21 hK21 => ?_)
      refine reg ?_
      refine sq rfl (do_move (tm rfl (nx rfl t16))) ?_
      refine sq rfl (do_assign (tm rfl hit)) ?_
      refine wnil ?_
      refine hK21 _ _ ?_
      clear hK21
      refine reg ?_
      refine sq rfl (do_move (tm rfl (nx rfl (nx rfl (nx rfl t3))))) ?_
      refine sq rfl (do_move (tm rfl (nx rfl hit))) ?_
      refine sq rfl (do_move (tm rfl (nx rfl (nx rfl (nx rfl (nx rfl (nx rfl t0))))))) ?_
      refine sq rfl (do_nilCheck (tm rfl hit)) ?_
      refine sq rfl (fa58_2 (tm rfl hit)) ?_
      refine sq rfl (do_load T37 rfl (tm rfl hit) hpc) ?_
      refine sq rfl (do_move (tm rfl (nx rfl (nx rfl (nx rfl (nx rfl (nx rfl (nx rfl hit)))))))) ?_
      refine sq rfl (io37 (tm rfl (nx rfl hit)) (tm rfl hit) (by omega)) ?_
      refine sq rfl (do_load T22 rfl (tm rfl hit) hcw) ?_
      refine sqc (R := fun v' w' => IntR w' v' rows[i] ∧ Below wi.heap.size wi w' ∧ v'.oneCell' = true ∧ ∀ b, v'.ownBlock = some b → wi.heap.size ≤ b) rfl
        (run_callF Try.func33 nm33 bd33 (map1 (tm rfl hit)) rfl) ((clone33 wi rv rows[i] hrw (l2 _ (List.getElem_mem _))).mono ?_) ?_
      · rintro e w' ⟨v', rfl, h⟩
        exact ⟨_, rfl, h⟩
      rintro cv w3 ⟨hr3, hb3, hone, hown⟩
      have hB3 : Blk w3 w.heap.size 22 vs := hB.of_eq (hb3.block _ hBlt)
      refine sq rfl (ix37 (tm rfl (nx rfl (nx rfl (nx rfl (nx rfl (nx rfl (nx rfl (nx rfl (nx rfl (nx rfl hit)))))))))) (tm rfl (nx rfl (nx rfl (nx rfl (nx rfl (nx rfl (nx rfl (nx rfl (nx rfl hit))))))))) (by omega)) ?_
      refine sqn (do_store T22 (tm rfl hit) (tm rfl (nx rfl hit)) hone (hB3.cell (List.getElem?_eq_getElem (by omega))) (hB3.frozen _)) ?_
      refine cutW ?_
      intro τ22 e22 w4 hw4
      have c22_0 := (congrFun e22 0).trans (nx rfl (nx rfl (nx rfl (nx rfl (nx rfl (nx rfl (nx rfl (nx rfl (nx rfl (nx rfl (nx rfl (nx rfl (nx rfl (nx rfl t0))))))))))))))
      have c22_3 := (congrFun e22 3).trans (nx rfl (nx rfl (nx rfl (nx rfl (nx rfl (nx rfl (nx rfl (nx rfl (nx rfl (nx rfl (nx rfl (nx rfl (nx rfl (nx rfl t3))))))))))))))
      have c22_4 := (congrFun e22 4).trans (nx rfl (nx rfl (nx rfl (nx rfl (nx rfl (nx rfl (nx rfl (nx rfl (nx rfl (nx rfl (nx rfl hit)))))))))))
      have c22_15 := (congrFun e22 15).trans (nx rfl (nx rfl (nx rfl (nx rfl (nx rfl (nx rfl (nx rfl (nx rfl (nx rfl (nx rfl (nx rfl (nx rfl (nx rfl (nx rfl t15))))))))))))))
      have c22_16 := (congrFun e22 16).trans (nx rfl (nx rfl (nx rfl (nx rfl (nx rfl (nx rfl (nx rfl (nx rfl (nx rfl (nx rfl (nx rfl (nx rfl (nx rfl (nx rfl t16))))))))))))))
      clear e22
      refine wnil ?_
      refine inBN ?_
      refine hK20 _ _ ?_
      clear hK20
      refine reg ?_
      refine sq rfl (do_inc (tm rfl c22_16) ck (by omega)) ?_
      refine sq rfl (do_move (tm rfl hit)) ?_
      refine wnil ?_
      have hk4 : ∀ k, k ≠ w.heap.size → w4.heap[k]? = w3.heap[k]? := by intro k hk; rw [hw4, heap_set (by simpa using hk)]
      refine hnn (rows.length - (i + 1)) _ _ (by omega) ⟨i + 1, vs.set i cv, rfl, by omega, (nx rfl (nx rfl c22_0)), (nx rfl (nx rfl c22_3)), (nx rfl (nx rfl c22_15)), hit, by rw [hw4]; exact hB3.set _ _, by simp [hvl], ?_, by rw [hw4]; exact (hbel.trans (hb3.mono (by omega))).setCell (Nat.le_refl _) _⟩
      intro j hj hji
      rcases Nat.lt_or_ge j i with h' | h'
      · obtain ⟨v, f1, f2, f3⟩ := hdone j hj h'
        refine ⟨v, by rw [List.getElem?_set_ne (by omega)]; exact f1, ?_, f3⟩
        refine f2.keep (fun b hb hlt => ?_)
        rw [hk4 b (by rintro rfl; exact f3 hb), hb3.block b hlt]
      · obtain rfl : j = i := by omega
        refine ⟨cv, List.getElem?_set_self (by omega), ?_, ?_⟩
        · exact hr3.keep (fun b hb hlt => hk4 b (by have := hown b hb; omega))
        · intro hb
          have := hown _ hb
          omega
    · refine wp_seq_k (fun K23 hK23 => ?_)
      refine cF rfl hit (by simpa using h) ?_
      refine wp_exit ?_
      refine thenE ?_
      refine hx _ _ ⟨vs, (nx rfl t3), hB, hvl, fun j hj => ?_, hbel⟩
      obtain ⟨v, f1, f2, _⟩ := hdone j hj (by omega)
      exact ⟨v, f1, f2⟩
  clear s0
  rintro τ wi ⟨vs, t3, hB, hvl, hdone, hbel⟩
  refine hK15 _ _ ?_
  clear hK15
  refine wp_seq_k (fun K24 hK24 => ?_)
  refine reg ?_
  refine sq rfl (do_move (tm rfl t3)) ?_
  refine sq rfl (do_assign (tm rfl hit)) ?_
  refine wnil ?_
  refine hK24 _ _ ?_
  clear hK24
  refine wp_ret ?_
  rw [← hQ]
  refine ret1 rfl rfl hit ⟨rfl, ⟨vs, hB, fun x hx => ?_⟩, hbel⟩
  obtain ⟨v, f1, f2⟩ := hdone x hx
  obtain ⟨a, c, rfl, _⟩ := f2
  exact ⟨a, c, f1⟩

end Go.Proofs.Qxb6001364a
