/-
  zzCloneArgs.
-/
import Derived.Test.Qxb6000003aW5
namespace Go.Proofs.Qxb6000003a
open Go.Fra Go.RowKit
set_option maxRecDepth 100000
set_option linter.unusedVariables false

/-- A copy that zzCloneArgs has made. -/
def OrigRow (w : World) (B : Nat) (v : Value) (ss : List ByteArray) : Prop :=
  (v = .slice none 0 0 ∧ ss = []) ∨ ∃ g, v = .slice (some ⟨g, 0, none⟩) ss.length ss.length ∧ B < g ∧ Blk w g 9 (strs ss)

theorem OrigRow.strS {w : World} {B : Nat} {v : Value} {ss : List ByteArray} (h : OrigRow w B v ss) : StrS w v ss := by
  rcases h with ⟨rfl, rfl⟩ | ⟨g, rfl, _, hb⟩
  · exact ⟨none, 0, rfl, fun i hi => by simp at hi⟩
  · refine ⟨some ⟨g, 0, none⟩, ss.length, rfl, fun i hi => ⟨g, 0, rfl, ?_⟩⟩
    rw [Nat.zero_add]
    exact hb.cell (by simp [strs, hi])
theorem OrigRow.keep {w w' : World} {B : Nat} {v : Value} {ss : List ByteArray} (h : OrigRow w B v ss) (hk : ∀ k, B < k → k < w.heap.size → w'.heap[k]? = w.heap[k]?) : OrigRow w' B v ss := by
  rcases h with h | ⟨g, hv, hg, hb⟩
  · exact .inl h
  · exact .inr ⟨g, hv, hg, hb.of_eq (hk g hg hb.lt)⟩

theorem part_get (ss : List ByteArray) (j n : Nat) (hl : ss.length = n) (h : j < n) : (strs (ss.take j) ++ List.replicate (n - j) (Value.string ⟨#[]⟩))[j]? = some (.string ⟨#[]⟩) := by
  have e : (strs (ss.take j)).length = j := by simp [strs]; omega
  rw [List.getElem?_append_right (by omega), e, Nat.sub_self, List.getElem?_replicate, if_pos (by omega)]
theorem part_set (ss : List ByteArray) (j n : Nat) (hl : ss.length = n) (h : j < n) : (strs (ss.take j) ++ List.replicate (n - j) (Value.string ⟨#[]⟩)).set j (.string (ss[j]'(by omega))) = strs (ss.take (j + 1)) ++ List.replicate (n - (j + 1)) (Value.string ⟨#[]⟩) := by
  have e : (strs (ss.take j)).length = j := by simp [strs]; omega
  rw [List.set_append_right _ _ (by omega), e, Nat.sub_self, strs, strs, List.take_succ_eq_append_getElem (by omega), List.map_append]
  rw [show n - j = (n - (j + 1)) + 1 by omega, List.replicate_succ, List.set_cons_zero]
  simp [List.map_take]

theorem cloneArgs21 (w : World) (va : Value) (avs : List Value) (rows : List (List ByteArray)) (hA : ArgS w va avs rows) (l2 : rows.length ≤ 1048576) (l4 : ∀ r ∈ rows, r.length ≤ 1048576) :
    Calls Try.prog 21 #[va] w fun e w' => ∃ v ovs, e = .returned v ∧ ArgS w' v ovs rows ∧ Below w.heap.size w w' := by
  obtain ⟨hal, a1, c1, rfl, hAc⟩ := id hA
  cases a1 with
  | none =>
    have h0 : rows = [] := by
      cases rows with
      | nil => rfl
      | cons r rs => obtain ⟨b, o, h, _⟩ := hAc 0 (by simp) (by rw [hal]; simp); cases h
    subst h0
    refine enter (args := [.slice none 0 c1]) Try.func21 rfl Try.ntmps21 rfl ?_
    have s0 : frame0 [Value.slice none 0 c1] 0 = .slice none 0 c1 := rfl
    generalize frame0 [Value.slice none 0 c1] = σ at *
    refine wp_seq_k (fun K1 hK1 => ?_)
    refine reg ?_
    refine sq rfl (do_assign ck) ?_
    refine wnil ?_
    refine hK1 _ _ ?_
    clear hK1
    refine wp_seq_k (fun K2 hK2 => ?_)
    refine wp_seq_k (fun K3 hK3 => ?_)
    refine reg ?_
    refine sq rfl (do_move (tm rfl (nx rfl s0))) ?_
    refine sq rfl (do_nilS Try.underlying31 (tm rfl hit) ck) ?_
    refine wnil ?_
    refine hK3 _ _ ?_
    clear hK3
    refine cT rfl hit rfl ?_
    refine wp_seq_k (fun K4 hK4 => ?_)
    refine reg ?_
    refine sq rfl (do_assign ck) ?_
    refine cutL ?_
    intro τ5 e5
    have c5_0 := (congrFun e5 0).trans (nx rfl (nx rfl (nx rfl (nx rfl s0))))
    have c5_2 := (congrFun e5 2).trans hit
    clear e5
    refine wnil ?_
    refine hK4 _ _ ?_
    clear hK4
    refine wp_ret ?_
    refine thenR ?_
    exact ret1 rfl rfl c5_2 ⟨_, [], rfl, ⟨rfl, none, 0, rfl, fun i hi => by simp at hi⟩, Below.refl _ _⟩
  | some q =>
    refine enter (args := [.slice (some q) rows.length c1]) Try.func21 rfl Try.ntmps21 rfl ?_
    generalize hQ : bodyPost Try.prog Try.f21 _ = Q
    have s0 : frame0 [Value.slice (some q) rows.length c1] 0 = .slice (some q) rows.length c1 := rfl
    generalize frame0 [Value.slice (some q) rows.length c1] = σ at *
    refine wp_seq_k (fun K6 hK6 => ?_)
    refine reg ?_
    refine sq rfl (do_assign ck) ?_
    refine wnil ?_
    refine hK6 _ _ ?_
    clear hK6
    refine wp_seq_k (fun K7 hK7 => ?_)
    refine wp_seq_k (fun K8 hK8 => ?_)
    refine reg ?_
    refine sq rfl (do_move (tm rfl (nx rfl s0))) ?_
    refine sq rfl (do_nilS Try.underlying31 (tm rfl hit) ck) ?_
    refine wnil ?_
    refine hK8 _ _ ?_
    clear hK8
    refine cF rfl hit rfl ?_
    refine wp_skip ?_
    refine hK7 _ _ ?_
    clear hK7
    refine wp_seq_k (fun K9 hK9 => ?_)
    refine reg ?_
    refine sq rfl (do_move (tm rfl (nx rfl (nx rfl (nx rfl s0))))) ?_
    refine sq rfl (do_len Try.underlying31 (tm rfl hit)) ?_
    refine sq rfl (mk31 (tm rfl hit) (tm rfl hit) (by omega)) ?_
    refine sq rfl (do_assign (tm rfl hit)) ?_
    refine cutL ?_
    intro τ10 e10
    have c10_0 := (congrFun e10 0).trans (nx rfl (nx rfl (nx rfl (nx rfl (nx rfl (nx rfl (nx rfl s0)))))))
    have c10_2 := (congrFun e10 2).trans (nx rfl (nx rfl (nx rfl (nx rfl (nx rfl (nx rfl hit))))))
    have c10_3 := (congrFun e10 3).trans hit
    clear e10
    refine wnil ?_
    refine hK9 _ _ ?_
    clear hK9
    refine wp_seq_k (fun K11 hK11 => ?_)
    refine wp_seq_k (fun K12 hK12 => ?_)
    refine reg ?_
    refine sq rfl (do_assign (v := .int .i64 ((0 : Nat) : Int)) rfl) ?_
    refine wnil ?_
    refine hK12 _ _ ?_
    clear hK12
    refine forLoop (N := 54) (fun k τ wi => ∃ i ovs, k = rows.length - i ∧ i ≤ rows.length ∧ τ 0 = .slice (some q) rows.length c1 ∧ τ 3 = .slice (some ⟨w.heap.size, 0, none⟩) rows.length rows.length ∧ τ 4 = .int .i64 (i : Int) ∧
        Blk wi w.heap.size 30 ovs ∧ ovs.length = rows.length ∧ (∀ k, k < i → ∃ v r, ovs[k]? = some v ∧ rows[k]? = some r ∧ OrigRow wi w.heap.size v r) ∧ (∀ k, i ≤ k → k < rows.length → ovs[k]? = some (.slice none 0 0)) ∧ Below w.heap.size w wi)
      (fun τ wi => ∃ ovs, τ 3 = .slice (some ⟨w.heap.size, 0, none⟩) rows.length rows.length ∧ Blk wi w.heap.size 30 ovs ∧ ovs.length = rows.length ∧
        (∀ k, k < rows.length → ∃ v r, ovs[k]? = some v ∧ rows[k]? = some r ∧ OrigRow wi w.heap.size v r) ∧ Below w.heap.size w wi) rows.length ?_ ?_ ?_
    · refine ⟨0, _, rfl, Nat.zero_le _, (nx rfl c10_0), (nx rfl c10_3), hit, Blk.new w _ 30, by simp [made_list], fun k h => by omega, fun k _ hk => ?_, (Below.refl _ _).alloc (Nat.le_refl _) _⟩
      rw [made_list, List.getElem?_replicate, if_pos hk]
    · clear s0
      rintro Q' k τ wi hnn hx hr ⟨i, ovs, rfl, hi, t0, t3, t4, hB, hol, hdone, hzero, hbel⟩
      refine wp_seq_k (fun K13 hK13 => ?_)
      refine wp_seq_k (fun K14 hK14 => ?_)
      refine reg ?_
      refine sq rfl (do_move (tm rfl t4)) ?_
      refine sq rfl (do_move (tm rfl (nx rfl t0))) ?_
      refine sq rfl (do_len Try.underlying31 (tm rfl hit)) ?_
      refine sq rfl (do_lss (tm rfl (nx rfl (nx rfl hit))) (tm rfl hit)) ?_
      refine cutL ?_
      intro τ15 e15
      have c15_0 := (congrFun e15 0).trans (nx rfl (nx rfl (nx rfl (nx rfl t0))))
      have c15_3 := (congrFun e15 3).trans (nx rfl (nx rfl (nx rfl (nx rfl t3))))
      have c15_4 := (congrFun e15 4).trans (nx rfl (nx rfl (nx rfl (nx rfl t4))))
      have c15_14 := (congrFun e15 14).trans hit
      clear e15
      refine wnil ?_
      refine hK14 _ _ ?_
      clear hK14
      by_cases h : i < rows.length
      · refine cT rfl c15_14 (by simpa using h) ?_
        refine wp_skip ?_
        refine hK13 _ _ ?_
        clear hK13
        obtain ⟨b1, o1, e1, hc1, hr1⟩ := hAc i h (by omega)
        cases e1
        obtain ⟨ra, rc, hre, hrc⟩ := hr1
        have hli := l4 rows[i] (List.getElem_mem _)
        rw [← hbel.cell (World.block_lt_of_cell? w _ hc1)] at hc1
        rw [hre] at hc1
        have hBlt := hB.lt
        refine wp_seq_k (fun K16 hK16 => ?_)
        refine wp_block ?_
        refine wp_seq_k (fun K17 hK17 => ?_)
        refine wp_seq_k (fun K18 hK18 => ?_)
        refine reg ?_
        refine sq rfl (do_move (tm rfl c15_0)) ?_
        refine sq rfl (do_move (tm rfl (nx rfl c15_4))) ?_
        refine sq rfl (io31 (tm rfl (nx rfl hit)) (tm rfl hit) (by omega)) ?_
        refine sq rfl (do_load T30 rfl (tm rfl hit) hc1) ?_
        refine sq rfl (do_nilS Try.underlying30 (tm rfl hit) ck) ?_
        refine cutL ?_
        intro τ19 e19
        have c19_0 := (congrFun e19 0).trans (nx rfl (nx rfl (nx rfl (nx rfl (nx rfl c15_0)))))
        have c19_3 := (congrFun e19 3).trans (nx rfl (nx rfl (nx rfl (nx rfl (nx rfl c15_3)))))
        have c19_4 := (congrFun e19 4).trans (nx rfl (nx rfl (nx rfl (nx rfl (nx rfl c15_4)))))
        have c19_21 := (congrFun e19 21).trans hit
        clear e19
        refine wnil ?_
        refine hK18 _ _ ?_
        clear hK18
        cases ra with
        | none =>
          have hr0 : rows[i] = [] := by
            cases hh : rows[i] with
            | nil => rfl
            | cons r rs => obtain ⟨b, o, h', _⟩ := hrc 0 (by rw [hh]; simp); cases h'
          refine cT rfl c19_21 rfl ?_
          refine wp_exit ?_
          refine thenE ?_
          refine inB ?_
          refine hK16 _ _ ?_
          clear hK16
          refine reg ?_
          refine sq rfl (do_move (tm rfl c19_4)) ?_
          refine sq rfl (do_inc (tm rfl hit) ck (by omega)) ?_
          refine sq rfl (do_assign (tm rfl hit)) ?_
          refine wnil ?_
          refine hnn (rows.length - (i + 1)) _ _ (by omega) ⟨i + 1, ovs, rfl, by omega, (nx rfl (nx rfl (nx rfl c19_0))), (nx rfl (nx rfl (nx rfl c19_3))), hit, hB, hol, ?_, fun k h1 h2 => hzero k (by omega) h2, hbel⟩
          intro k hk
          rcases Nat.lt_or_ge k i with hki | hki
          · exact hdone k hki
          · obtain rfl : k = i := by omega
            exact ⟨_, _, hzero k (Nat.le_refl _) h, List.getElem?_eq_getElem h, .inl ⟨rfl, hr0⟩⟩
        | some rp =>
          refine cF rfl c19_21 rfl ?_
          refine wp_skip ?_
          refine hK17 _ _ ?_
          clear hK17
          refine wp_seq_k (fun K20 hK20 => ?_)
          refine reg ?_
          refine sq rfl (do_move (tm rfl c19_3)) ?_
          refine sq rfl (do_move (tm rfl (nx rfl c19_4))) ?_
          refine sq rfl (do_move (tm rfl (nx rfl (nx rfl c19_0)))) ?_
          refine sq rfl (do_move (tm rfl (nx rfl (nx rfl (nx rfl c19_4))))) ?_
          refine sq rfl (io31 (tm rfl (nx rfl hit)) (tm rfl hit) (by omega)) ?_
          refine sq rfl (do_load T30 rfl (tm rfl hit) hc1) ?_
          refine sq rfl (do_len Try.underlying30 (tm rfl hit)) ?_
          refine sq rfl (mk30 (tm rfl hit) (tm rfl hit) (by omega)) ?_
          refine sq rfl (ix31 (tm rfl (nx rfl (nx rfl (nx rfl (nx rfl (nx rfl (nx rfl (nx rfl hit)))))))) (tm rfl (nx rfl (nx rfl (nx rfl (nx rfl (nx rfl (nx rfl hit))))))) (by omega)) ?_
          have hBa : Blk (wi.alloc (.cells (madeCells #[.string ⟨#[]⟩] rows[i].length) 9)) w.heap.size 30 ovs := hB.of_eq (heap_al hBlt)
          refine sqn (do_store T30 (tm rfl hit) (tm rfl (nx rfl hit)) rfl (hBa.cell (hzero i (Nat.le_refl _) h)) (hBa.frozen _)) ?_
          refine cutW ?_
          intro τ21 e21 w2 hw2
          have c21_0 := (congrFun e21 0).trans (nx rfl (nx rfl (nx rfl (nx rfl (nx rfl (nx rfl (nx rfl (nx rfl (nx rfl c19_0)))))))))
          have c21_3 := (congrFun e21 3).trans (nx rfl (nx rfl (nx rfl (nx rfl (nx rfl (nx rfl (nx rfl (nx rfl (nx rfl c19_3)))))))))
          have c21_4 := (congrFun e21 4).trans (nx rfl (nx rfl (nx rfl (nx rfl (nx rfl (nx rfl (nx rfl (nx rfl (nx rfl c19_4)))))))))
          clear e21
          refine wnil ?_
          refine hK20 _ _ ?_
          clear hK20
          have hg : Blk w2 wi.heap.size 9 (List.replicate rows[i].length (.string ⟨#[]⟩)) := by
            have := Blk.new wi (madeCells #[.string ⟨#[]⟩] rows[i].length) 9
            rw [made_list] at this
            rw [hw2]
            exact this.of_eq (heap_set (by simp; omega))
          have hB2 : Blk w2 w.heap.size 30 (ovs.set i (.slice (some ⟨wi.heap.size, 0, none⟩) rows[i].length rows[i].length)) := by rw [hw2]; exact hBa.set _ _
          have hk2 : ∀ k, k < wi.heap.size → k ≠ w.heap.size → w2.heap[k]? = wi.heap[k]? := by
            intro k h1 h2
            rw [hw2, heap_set (by simpa using h2), heap_al h1]
          have hbel2 : Below w.heap.size w w2 := by
            rw [hw2]; exact (hbel.alloc (by omega) _).setCell (Nat.le_refl _) _
          have hs2 : w2.heap.size = wi.heap.size + 1 := by rw [hw2, size_set, size_alloc]
          clear hw2 hBa
          refine wp_seq_k (fun K22 hK22 => ?_)
          refine reg ?_
          refine sq rfl (do_assign (v := .int .i64 ((0 : Nat) : Int)) rfl) ?_
          refine wnil ?_
          refine hK22 _ _ ?_
          clear hK22
          refine forLoop (N := 54) (fun k τ wj => ∃ j, k = rows[i].length - j ∧ j ≤ rows[i].length ∧ τ 0 = .slice (some ⟨b1, o1, none⟩) rows.length c1 ∧ τ 3 = .slice (some ⟨w.heap.size, 0, none⟩) rows.length rows.length ∧ τ 4 = .int .i64 (i : Int) ∧ τ 5 = .int .i64 (j : Int) ∧
              Blk wj w.heap.size 30 (ovs.set i (.slice (some ⟨wi.heap.size, 0, none⟩) rows[i].length rows[i].length)) ∧ Blk wj wi.heap.size 9 (strs (rows[i].take j) ++ List.replicate (rows[i].length - j) (.string ⟨#[]⟩)) ∧
              (∀ k, k < wi.heap.size → wj.heap[k]? = w2.heap[k]?) ∧ Below w.heap.size w wj)
            (fun τ wj => τ 0 = .slice (some ⟨b1, o1, none⟩) rows.length c1 ∧ τ 3 = .slice (some ⟨w.heap.size, 0, none⟩) rows.length rows.length ∧ τ 4 = .int .i64 (i : Int) ∧
              Blk wj w.heap.size 30 (ovs.set i (.slice (some ⟨wi.heap.size, 0, none⟩) rows[i].length rows[i].length)) ∧ Blk wj wi.heap.size 9 (strs rows[i]) ∧
              (∀ k, k < wi.heap.size → wj.heap[k]? = w2.heap[k]?) ∧ Below w.heap.size w wj) rows[i].length ?_ ?_ ?_
          · exact ⟨0, rfl, Nat.zero_le _, (nx rfl c21_0), (nx rfl c21_3), (nx rfl c21_4), hit, hB2, by simpa [strs] using hg, fun _ _ => rfl, hbel2⟩
          · clear t0 t3 t4
            rintro Q'' k ξ wj hnn' hx' hr' ⟨j, rfl, hj, x0, x3, x4, x5, hBj, hgj, hkj, hbj⟩
            have hc1j : wj.cell? ⟨b1, o1 + i, none⟩ = some (.slice (some rp) rows[i].length rc) := by
              obtain ⟨b1', o1', e1', hc1', _⟩ := hAc i h (by omega)
              cases e1'
              rw [hbj.cell (World.block_lt_of_cell? w _ hc1'), hc1', hre]
            refine wp_seq_k (fun K23 hK23 => ?_)
            refine wp_seq_k (fun K24 hK24 => ?_)
            refine reg ?_
            refine sq rfl (do_move (tm rfl x5)) ?_
            refine sq rfl (do_move (tm rfl (nx rfl x0))) ?_
            refine sq rfl (do_move (tm rfl (nx rfl (nx rfl x4)))) ?_
            refine sq rfl (io31 (tm rfl (nx rfl hit)) (tm rfl hit) (by omega)) ?_
            refine sq rfl (do_load T30 rfl (tm rfl hit) hc1j) ?_
            refine sq rfl (do_len Try.underlying30 (tm rfl hit)) ?_
            refine sq rfl (do_lss (tm rfl (nx rfl (nx rfl (nx rfl (nx rfl (nx rfl hit)))))) (tm rfl hit)) ?_
            refine cutL ?_
            intro τ25 e25
            have c25_0 := (congrFun e25 0).trans (nx rfl (nx rfl (nx rfl (nx rfl (nx rfl (nx rfl (nx rfl x0)))))))
            have c25_3 := (congrFun e25 3).trans (nx rfl (nx rfl (nx rfl (nx rfl (nx rfl (nx rfl (nx rfl x3)))))))
            have c25_4 := (congrFun e25 4).trans (nx rfl (nx rfl (nx rfl (nx rfl (nx rfl (nx rfl (nx rfl x4)))))))
            have c25_5 := (congrFun e25 5).trans (nx rfl (nx rfl (nx rfl (nx rfl (nx rfl (nx rfl (nx rfl x5)))))))
            have c25_37 := (congrFun e25 37).trans hit
            clear e25
            refine wnil ?_
            refine hK24 _ _ ?_
            clear hK24
            by_cases h' : j < rows[i].length
            · refine cT rfl c25_37 (by simpa using h') ?_
              refine wp_skip ?_
              refine hK23 _ _ ?_
              clear hK23
              obtain ⟨rb, ro, e2, hrj⟩ := hrc j h'
              cases e2
              have R1 : wj.cell? ⟨rb, ro + j, none⟩ = some (.string rows[i][j]) := by rw [hbj.cell (World.block_lt_of_cell? w _ hrj)]; exact hrj
              have R2 : wj.cell? ⟨w.heap.size, i, none⟩ = some (.slice (some ⟨wi.heap.size, 0, none⟩) rows[i].length rows[i].length) := hBj.cell (List.getElem?_set_self (by omega))
              obtain ⟨w4, hw4⟩ : ∃ w4, w4 = wj.drew.setCell ⟨wi.heap.size, j, none⟩ (.string rows[i][j]) := ⟨_, rfl⟩
              have hst : ∀ (ρ : Operand → Value) (ty : TypeId) (pos : String) (aft : Array Edge) (x y : Operand), ρ x = .pointer (some ⟨wi.heap.size, j, none⟩) → ρ y = .string rows[i][j] →
                  Does Try.prog ⟨none, .store 9 x y, ty, pos, aft, none⟩ ρ (stg wj.drew [w4] 0) undef (stg wj.drew [w4] (0 + 1)) := by
                intro ρ ty pos aft x y h1 h2
                show Does Try.prog _ ρ wj.drew undef w4
                rw [hw4]
                exact do_store T9 h1 h2 rfl (hgj.drew.cell (part_get rows[i] j _ rfl h')) (hgj.drew.frozen _)
              refine wp_seq_k (fun K26 hK26 => ?_)
              refine wp_block ?_
              refine draw mixed [13] [(0, 0), (0, 0), (0, 0), (0, 0), (0, 0), (0, 0), (0, 0), (0, 0), (0, 0), (0, 0), (0, 0), (0, 0), (0, 0), (0, 0)] [w4] (w4) (upd (upd (upd (upd (upd (upd (upd (upd (upd (upd (upd (upd (upd _ 40 _) 41 _) 42 _) 43 _) 44 _) 45 _) 46 _) 47 _) 48 _) 49 _) 50 _) 51 _) 52 _) (by kernel_rfl) (fun s hs => ovr_off [(40, _), (41, _), (42, _), (43, _), (44, _), (45, _), (46, _), (47, _), (48, _), (49, _), (50, _), (51, _), (52, _)] _ s hs) ⟨(qa rfl (fun _ => (do_move (tm rfl (nx rfl (nx rfl (nx rfl (nx rfl (nx rfl (nx rfl (nx rfl (nx rfl (nx rfl (nx rfl (nx rfl (nx rfl (nx rfl c25_3)))))))))))))))) (nx rfl (nx rfl (nx rfl (nx rfl (nx rfl (nx rfl (nx rfl (nx rfl (nx rfl (nx rfl (nx rfl (nx rfl hit))))))))))))), (qa rfl (fun _ => (do_move (tm rfl (nx rfl (nx rfl (nx rfl (nx rfl (nx rfl (nx rfl (nx rfl (nx rfl (nx rfl (nx rfl (nx rfl (nx rfl (nx rfl c25_4)))))))))))))))) (nx rfl (nx rfl (nx rfl (nx rfl (nx rfl (nx rfl (nx rfl (nx rfl (nx rfl (nx rfl (nx rfl hit)))))))))))), (qa rfl (fun _ => (ix31 (tm rfl (nx rfl (nx rfl (nx rfl (nx rfl (nx rfl (nx rfl (nx rfl (nx rfl (nx rfl (nx rfl (nx rfl (nx rfl hit))))))))))))) (tm rfl (nx rfl (nx rfl (nx rfl (nx rfl (nx rfl (nx rfl (nx rfl (nx rfl (nx rfl (nx rfl (nx rfl hit)))))))))))) (by omega))) (nx rfl (nx rfl (nx rfl (nx rfl (nx rfl (nx rfl (nx rfl (nx rfl (nx rfl (nx rfl hit))))))))))), (qk rfl (do_load T30 rfl (tm rfl (nx rfl (nx rfl (nx rfl (nx rfl (nx rfl (nx rfl (nx rfl (nx rfl (nx rfl (nx rfl hit))))))))))) R2) (nx rfl (nx rfl (nx rfl (nx rfl (nx rfl (nx rfl (nx rfl (nx rfl (nx rfl hit)))))))))), (qa rfl (fun _ => (do_move (tm rfl (nx rfl (nx rfl (nx rfl (nx rfl (nx rfl (nx rfl (nx rfl (nx rfl (nx rfl (nx rfl (nx rfl (nx rfl (nx rfl c25_5)))))))))))))))) (nx rfl (nx rfl (nx rfl (nx rfl (nx rfl (nx rfl (nx rfl (nx rfl hit))))))))), (qa rfl (fun _ => (do_move (tm rfl (nx rfl (nx rfl (nx rfl (nx rfl (nx rfl (nx rfl (nx rfl (nx rfl (nx rfl (nx rfl (nx rfl (nx rfl (nx rfl c25_0)))))))))))))))) (nx rfl (nx rfl (nx rfl (nx rfl (nx rfl (nx rfl (nx rfl hit)))))))), (qa rfl (fun _ => (do_move (tm rfl (nx rfl (nx rfl (nx rfl (nx rfl (nx rfl (nx rfl (nx rfl (nx rfl (nx rfl (nx rfl (nx rfl (nx rfl (nx rfl c25_4)))))))))))))))) (nx rfl (nx rfl (nx rfl (nx rfl (nx rfl (nx rfl hit))))))), (qa rfl (fun _ => (io31 (tm rfl (nx rfl (nx rfl (nx rfl (nx rfl (nx rfl (nx rfl (nx rfl hit)))))))) (tm rfl (nx rfl (nx rfl (nx rfl (nx rfl (nx rfl (nx rfl hit))))))) (by omega))) (nx rfl (nx rfl (nx rfl (nx rfl (nx rfl hit)))))), (qk rfl (do_load T30 rfl (tm rfl (nx rfl (nx rfl (nx rfl (nx rfl (nx rfl hit)))))) hc1j) (nx rfl (nx rfl (nx rfl (nx rfl hit))))), (qa rfl (fun _ => (do_move (tm rfl (nx rfl (nx rfl (nx rfl (nx rfl (nx rfl (nx rfl (nx rfl (nx rfl (nx rfl (nx rfl (nx rfl (nx rfl (nx rfl c25_5)))))))))))))))) (nx rfl (nx rfl (nx rfl hit)))), (qa rfl (fun _ => (io30 (tm rfl (nx rfl (nx rfl (nx rfl (nx rfl hit))))) (tm rfl (nx rfl (nx rfl (nx rfl hit)))) (by omega))) (nx rfl (nx rfl hit))), (qk rfl (do_load T9 rfl (tm rfl (nx rfl (nx rfl hit))) R1) (nx rfl hit)), (qa rfl (fun _ => (ix30 (tm rfl (nx rfl (nx rfl (nx rfl (nx rfl (nx rfl (nx rfl (nx rfl (nx rfl (nx rfl hit)))))))))) (tm rfl (nx rfl (nx rfl (nx rfl (nx rfl (nx rfl (nx rfl (nx rfl (nx rfl hit))))))))) (by omega))) hit), (en rfl (hst _ _ _ _ _ _ (tm rfl hit) (tm rfl (nx rfl hit)))), trivial⟩ rfl ?_
              intro τ27 e27
              have c27_0 := (congrFun e27 0).trans (nx rfl (nx rfl (nx rfl (nx rfl (nx rfl (nx rfl (nx rfl (nx rfl (nx rfl (nx rfl (nx rfl (nx rfl (nx rfl c25_0)))))))))))))
              have c27_3 := (congrFun e27 3).trans (nx rfl (nx rfl (nx rfl (nx rfl (nx rfl (nx rfl (nx rfl (nx rfl (nx rfl (nx rfl (nx rfl (nx rfl (nx rfl c25_3)))))))))))))
              have c27_4 := (congrFun e27 4).trans (nx rfl (nx rfl (nx rfl (nx rfl (nx rfl (nx rfl (nx rfl (nx rfl (nx rfl (nx rfl (nx rfl (nx rfl (nx rfl c25_4)))))))))))))
              have c27_5 := (congrFun e27 5).trans (nx rfl (nx rfl (nx rfl (nx rfl (nx rfl (nx rfl (nx rfl (nx rfl (nx rfl (nx rfl (nx rfl (nx rfl (nx rfl c25_5)))))))))))))
              clear e27
              refine inBN ?_
              refine hK26 _ _ ?_
              clear hK26
              refine reg ?_
              refine sq rfl (do_move (tm rfl c27_5)) ?_
              refine sq rfl (do_inc (tm rfl hit) ck (by omega)) ?_
              refine sq rfl (do_assign (tm rfl hit)) ?_
              refine wnil ?_
              refine hnn' (rows[i].length - (j + 1)) _ _ (by omega) ⟨j + 1, rfl, by omega, (nx rfl (nx rfl (nx rfl c27_0))), (nx rfl (nx rfl (nx rfl c27_3))), (nx rfl (nx rfl (nx rfl c27_4))), hit, ?_, ?_, ?_, ?_⟩
              · rw [hw4]; exact hBj.drew.of_eq (heap_set (by simp; omega))
              · rw [hw4, ← part_set rows[i] j _ rfl h']; exact hgj.drew.set _ _
              · intro k hk; rw [hw4, heap_set (by simp; omega)]; exact hkj k hk
              · rw [hw4]; exact hbj.drew.setCell (by simp; omega) _
            · refine cF rfl c25_37 (by simpa using h') ?_
              refine wp_exit ?_
              refine thenE ?_
              have ej : j = rows[i].length := by omega
              refine hx' _ _ ⟨c25_0, c25_3, c25_4, hBj, ?_, hkj, hbj⟩
              rw [ej] at hgj
              simpa using hgj
          clear t0 t3 t4
          rintro τ wj ⟨t0, t3, t4, hBj, hgj, hkj, hbj⟩
          refine inBN ?_
          refine hK16 _ _ ?_
          clear hK16
          refine reg ?_
          refine sq rfl (do_move (tm rfl t4)) ?_
          refine sq rfl (do_inc (tm rfl hit) ck (by omega)) ?_
          refine sq rfl (do_assign (tm rfl hit)) ?_
          refine wnil ?_
          refine hnn (rows.length - (i + 1)) _ _ (by omega) ⟨i + 1, _, rfl, by omega, (nx rfl (nx rfl (nx rfl t0))), (nx rfl (nx rfl (nx rfl t3))), hit, hBj, by simpa using hol, ?_, ?_, hbj⟩
          · intro k hk
            rcases Nat.lt_or_ge k i with hki | hki
            · obtain ⟨v, r, f1, f2, f3⟩ := hdone k hki
              refine ⟨v, r, by rw [List.getElem?_set_ne (by omega)]; exact f1, f2, f3.keep ?_⟩
              intro m hm1 hm2
              rw [hkj m hm2, hk2 m hm2 (by omega)]
            · obtain rfl : k = i := by omega
              exact ⟨_, _, List.getElem?_set_self (by omega), List.getElem?_eq_getElem h, .inr ⟨_, rfl, hBlt, hgj⟩⟩
          · intro k h1 h2
            rw [List.getElem?_set_ne (by omega)]
            exact hzero k (by omega) h2
      · refine cF rfl c15_14 (by simpa using h) ?_
        refine wp_exit ?_
        refine thenE ?_
        obtain rfl : i = rows.length := by omega
        exact hx _ _ ⟨ovs, c15_3, hB, hol, hdone, hbel⟩
    clear s0
    rintro τ wi ⟨ovs, t3, hB, hol, hdone, hbel⟩
    refine hK11 _ _ ?_
    clear hK11
    refine wp_seq_k (fun K28 hK28 => ?_)
    refine reg ?_
    refine sq rfl (do_move (tm rfl t3)) ?_
    refine sq rfl (do_assign (tm rfl hit)) ?_
    refine wnil ?_
    refine hK28 _ _ ?_
    clear hK28
    refine wp_ret ?_
    rw [← hQ]
    refine ret1 rfl rfl hit ⟨_, ovs, rfl, ⟨hol, some ⟨w.heap.size, 0, none⟩, rows.length, rfl, ?_⟩, hbel⟩
    intro k hk hk'
    obtain ⟨v, r, f1, f2, f3⟩ := hdone k hk
    rw [List.getElem?_eq_getElem hk'] at f1
    rw [List.getElem?_eq_getElem hk] at f2
    cases f1
    cases f2
    refine ⟨w.heap.size, 0, rfl, ?_, f3.strS⟩
    rw [Nat.zero_add]
    exact hB.cell (List.getElem?_eq_getElem hk')
end Go.Proofs.Qxb6000003a
