/-
  items.
-/
import Derived.Test.Qxb6001364aHm
namespace Go.Proofs.Qxb6001364a
open Go.Fra Go.RowKit
set_option maxRecDepth 100000
set_option linter.unusedVariables false

theorem putL_all {κ : Type} {same : κ → κ → Bool} {p : Value → Prop} (k : κ) (v : Value) (l : List (κ × Value)) (hv : p v) (hl : ∀ q ∈ l, p q.2) : ∀ q ∈ putL same k v l, p q.2 := by
  intro q hq
  unfold putL at hq
  split at hq
  · rcases List.mem_or_eq_of_mem_set hq with h | h
    · exact hl q h
    · rw [h]; exact hv
  · rcases List.mem_append.1 hq with h | h
    · exact hl q h
    · have : q = (k, v) := by simpa using h
      rw [this]; exact hv

theorem items14 (w : World) (v : Value) (hi : List Int) (hv : IntR w v hi) (hl : hi.length ≤ 1048576) :
    Calls Try.prog 14 #[v] w fun e w' => ∃ (xs : List Int) (k : Nat), e = .returned (.tuple #[.slice (some ⟨w.heap.size + 1, 0, none⟩) hi.length hi.length, .int .i64 (k : Int)]) ∧
      xs.length = hi.length ∧ Blk w' (w.heap.size + 1) 3 (ints xs) ∧ (∀ x ∈ xs, 0 ≤ x ∧ x < (k : Int)) ∧ k ≤ hi.length ∧ Below w.heap.size w w' := by
  obtain ⟨a, c, rfl, hc⟩ := hv
  refine enter (args := [.slice a hi.length c]) Try.func14 rfl Try.ntmps14 rfl ?_
  generalize hQ : bodyPost Try.prog Try.f14 _ = Q
  have s0 : frame0 [Value.slice a hi.length c] 0 = .slice a hi.length c := rfl
  generalize frame0 [Value.slice a hi.length c] = σ at *
  refine wp_seq_k (fun K1 hK1 => ?_)
  refine reg ?_
  refine sq rfl (do_assign ck) ?_
  refine sq rfl (do_assign (v := .int .i64 ((0 : Nat) : Int)) rfl) ?_
  refine wnil ?_
  refine hK1 _ _ ?_
  clear hK1
  refine wp_seq_k (fun K2 hK2 => ?_)
  refine reg ?_
  refine sq rfl do_makeMap ?_
  refine sq rfl (do_assign (tm rfl hit)) ?_
  refine cutW ?_
  intro τ3 e3 wa hwa
  have c3_0 := (congrFun e3 0).trans (nx rfl (nx rfl (nx rfl (nx rfl s0))))
  have c3_2 := (congrFun e3 2).trans (nx rfl (nx rfl (nx rfl hit)))
  have c3_3 := (congrFun e3 3).trans (nx rfl (nx rfl hit))
  have c3_4 := (congrFun e3 4).trans hit
  clear e3
  refine wnil ?_
  refine hK2 _ _ ?_
  clear hK2
  have hM0 : MapAt wa w.heap.size ik [] := by rw [hwa]; exact ⟨#[], 0, heap_alloc_new _ _, rfl⟩
  have hba : Below w.heap.size w wa := by rw [hwa]; exact (Below.refl _ _).alloc (Nat.le_refl _) _
  have hsa : wa.heap.size = w.heap.size + 1 := by rw [hwa, size_alloc]
  clear hwa
  refine wp_seq_k (fun K4 hK4 => ?_)
  refine reg ?_
  refine sq rfl (do_move (tm rfl c3_0)) ?_
  refine sq rfl (do_len Try.underlying22 (tm rfl hit)) ?_
  refine sq rfl (mk22 (tm rfl hit) (tm rfl hit) (by omega)) ?_
  refine sq rfl (do_assign (tm rfl hit)) ?_
  refine cutW ?_
  intro τ5 e5 wb hwb
  have c5_0 := (congrFun e5 0).trans (nx rfl (nx rfl (nx rfl (nx rfl c3_0))))
  have c5_2 := (congrFun e5 2).trans (nx rfl (nx rfl (nx rfl (nx rfl c3_2))))
  have c5_3 := (congrFun e5 3).trans (nx rfl (nx rfl (nx rfl (nx rfl c3_3))))
  have c5_4 := (congrFun e5 4).trans (nx rfl (nx rfl (nx rfl (nx rfl c3_4))))
  have c5_5 := (congrFun e5 5).trans hit
  clear e5
  refine wnil ?_
  refine hK4 _ _ ?_
  clear hK4
  have hBb : Blk wb (wa.heap.size) 3 (ints (List.replicate hi.length 0)) := by
    have := Blk.new wa (madeCells #[.int .i64 0] hi.length) 3
    rw [made_list] at this
    rw [hwb]
    simpa [ints] using this
  have hMb : MapAt wb w.heap.size ik [] := hM0.of_eq (by rw [hwb, heap_al (by omega)])
  have hbb : Below w.heap.size w wb := by rw [hwb]; exact hba.alloc (by omega) _
  clear hwb
  refine wp_seq_k (fun K6 hK6 => ?_)
  refine reg ?_
  refine sq rfl (do_assign (v := .int .i64 ((0 : Nat) : Int)) rfl) ?_
  refine wnil ?_
  refine hK6 _ _ ?_
  clear hK6
  refine wp_seq_k (fun K7 hK7 => ?_)
  refine wp_seq_k (fun K8 hK8 => ?_)
  refine reg ?_
  refine sq rfl (do_move (tm rfl (nx rfl c5_0))) ?_
  refine sq rfl (do_len Try.underlying22 (tm rfl hit)) ?_
  refine sq rfl (do_move (v := .int .i64 ((0 : Nat) : Int)) rfl) ?_
  refine cutL ?_
  intro τ9 e9
  have c9_0 := (congrFun e9 0).trans (nx rfl (nx rfl (nx rfl (nx rfl c5_0))))
  have c9_2 := (congrFun e9 2).trans (nx rfl (nx rfl (nx rfl (nx rfl c5_2))))
  have c9_3 := (congrFun e9 3).trans (nx rfl (nx rfl (nx rfl (nx rfl c5_3))))
  have c9_4 := (congrFun e9 4).trans (nx rfl (nx rfl (nx rfl (nx rfl c5_4))))
  have c9_5 := (congrFun e9 5).trans (nx rfl (nx rfl (nx rfl (nx rfl c5_5))))
  have c9_6 := (congrFun e9 6).trans (nx rfl (nx rfl (nx rfl hit)))
  have c9_15 := (congrFun e9 15).trans (nx rfl (nx rfl hit))
  have c9_16 := (congrFun e9 16).trans (nx rfl hit)
  have c9_17 := (congrFun e9 17).trans hit
  clear e9
  refine wnil ?_
  refine hK8 _ _ ?_
  clear hK8
  refine forLoop (N := 43) (fun r τ wi => ∃ (i k : Nat) (xs : List Int) (l : List (Int × Value)), r = hi.length - i ∧ i ≤ hi.length ∧ k ≤ i ∧ τ 4 = .map (some w.heap.size) ∧ τ 5 = .slice (some ⟨wa.heap.size, 0, none⟩) hi.length hi.length ∧ τ 6 = .int .i64 (k : Int) ∧
      τ 15 = .slice a hi.length c ∧ τ 16 = .int .i64 (hi.length : Int) ∧ τ 17 = .int .i64 (i : Int) ∧ xs.length = hi.length ∧ Blk wi (wa.heap.size) 3 (ints xs) ∧ (∀ j (h : j < xs.length), j < i → 0 ≤ xs[j] ∧ xs[j] < (k : Int)) ∧
      MapAt wi w.heap.size ik l ∧ (∀ q ∈ l, ∃ z : Nat, q.2 = .int .i64 (z : Int) ∧ z < k) ∧ Below w.heap.size w wi)
    (fun τ wi => ∃ (k : Nat) (xs : List Int), k ≤ hi.length ∧ τ 5 = .slice (some ⟨wa.heap.size, 0, none⟩) hi.length hi.length ∧ τ 6 = .int .i64 (k : Int) ∧ xs.length = hi.length ∧ Blk wi (wa.heap.size) 3 (ints xs) ∧ (∀ x ∈ xs, 0 ≤ x ∧ x < (k : Int)) ∧ Below w.heap.size w wi) hi.length ?_ ?_ ?_
  · exact ⟨0, 0, _, [], rfl, Nat.zero_le _, Nat.le_refl _, c9_4, c9_5, c9_6, c9_15, c9_16, c9_17, by simp, hBb, fun j _ h => by omega, hMb, fun q hq => (by cases hq), hbb⟩
  · clear s0
    rintro Q' r τ wi hnn hx hr ⟨i, k, xs, l, rfl, hi', hki, t4, t5, t6, t15, t16, t17, hxl, hB, hxs, hM, hMv, hbel⟩
    refine wp_seq_k (fun K10 hK10 => ?_)
    refine reg ?_
    refine sq rfl (do_lss (tm rfl t17) (tm rfl t16)) ?_
    refine wnil ?_
    refine hK10 _ _ ?_
    clear hK10
    by_cases h : i < hi.length
    · refine wp_seq_k (fun K11 hK11 => ?_)
      refine cT rfl hit (by simpa using h) ?_
      refine wp_skip ?_
      refine hK11 _ _ ?_
      clear hK11
      obtain ⟨b, o, rfl, hcc⟩ := hc i h
      rw [← hbel.cell (World.block_lt_of_cell? w _ hcc)] at hcc
      refine wp_seq_k (fun K12 hK12 => ?_)
      refine wp_block ?_
      refine wp_seq_k (fun K13 hK13 => ?_)
      refine reg ?_
      refine sq rfl (do_move (tm rfl (nx rfl t17))) ?_
      refine sq rfl (io22 (tm rfl (nx rfl (nx rfl t15))) (tm rfl (nx rfl (nx rfl t17))) (by omega)) ?_
      refine sq rfl (do_load T3 rfl (tm rfl hit) hcc) ?_
      refine sq rfl (do_assign (tm rfl (nx rfl (nx rfl hit)))) ?_
      refine sq rfl (do_assign (tm rfl (nx rfl hit))) ?_
      refine cutL ?_
      intro τ14 e14
      have c14_4 := (congrFun e14 4).trans (nx rfl (nx rfl (nx rfl (nx rfl (nx rfl (nx rfl t4))))))
      have c14_5 := (congrFun e14 5).trans (nx rfl (nx rfl (nx rfl (nx rfl (nx rfl (nx rfl t5))))))
      have c14_6 := (congrFun e14 6).trans (nx rfl (nx rfl (nx rfl (nx rfl (nx rfl (nx rfl t6))))))
      have c14_7 := (congrFun e14 7).trans (nx rfl hit)
      have c14_8 := (congrFun e14 8).trans hit
      have c14_15 := (congrFun e14 15).trans (nx rfl (nx rfl (nx rfl (nx rfl (nx rfl (nx rfl t15))))))
      have c14_16 := (congrFun e14 16).trans (nx rfl (nx rfl (nx rfl (nx rfl (nx rfl (nx rfl t16))))))
      have c14_17 := (congrFun e14 17).trans (nx rfl (nx rfl (nx rfl (nx rfl (nx rfl (nx rfl t17))))))
      clear e14
      refine wnil ?_
      refine hK13 _ _ ?_
      clear hK13
      obtain ⟨es, clock, hh, he⟩ := id hM
      have hf := run_findKey_int (P := Try.prog) (w := wi) Try.underlying3 hi[i] es.toList l he
      have hck := fun e => run_checkKey_int (P := Try.prog) (w := wi) Try.underlying3 hi[i] e
      have hz := T3.run_zero wi
      cases hr2 : findL (· == ·) hi[i] l 0 with
      | none =>
        rw [hr2] at hf
        refine wp_seq_k (fun K15 hK15 => ?_)
        refine reg ?_
        refine sq rfl (do_move (tm rfl c14_4)) ?_
        refine sq rfl (do_move (tm rfl (nx rfl c14_8))) ?_
        refine sq rfl (do_lookup2 (kv := ik hi[i]) Try.underlying50 (tm rfl (nx rfl hit)) (tm rfl hit) hh hck hf hz) ?_
        refine sq rfl (do_move (tm rfl hit)) ?_
        refine sq rfl (do_extract (tm rfl hit) rfl) ?_
        refine sq rfl (do_extract (tm rfl (nx rfl hit)) rfl) ?_
        refine sq rfl (do_assign (tm rfl (nx rfl hit))) ?_
        refine sq rfl (do_assign (tm rfl (nx rfl hit))) ?_
        refine cutL ?_
        intro τ16 e16
        have c16_4 := (congrFun e16 4).trans (nx rfl (nx rfl (nx rfl (nx rfl (nx rfl (nx rfl (nx rfl (nx rfl c14_4))))))))
        have c16_5 := (congrFun e16 5).trans (nx rfl (nx rfl (nx rfl (nx rfl (nx rfl (nx rfl (nx rfl (nx rfl c14_5))))))))
        have c16_6 := (congrFun e16 6).trans (nx rfl (nx rfl (nx rfl (nx rfl (nx rfl (nx rfl (nx rfl (nx rfl c14_6))))))))
        have c16_7 := (congrFun e16 7).trans (nx rfl (nx rfl (nx rfl (nx rfl (nx rfl (nx rfl (nx rfl (nx rfl c14_7))))))))
        have c16_8 := (congrFun e16 8).trans (nx rfl (nx rfl (nx rfl (nx rfl (nx rfl (nx rfl (nx rfl (nx rfl c14_8))))))))
        have c16_9 := (congrFun e16 9).trans (nx rfl hit)
        have c16_10 := (congrFun e16 10).trans hit
        have c16_15 := (congrFun e16 15).trans (nx rfl (nx rfl (nx rfl (nx rfl (nx rfl (nx rfl (nx rfl (nx rfl c14_15))))))))
        have c16_16 := (congrFun e16 16).trans (nx rfl (nx rfl (nx rfl (nx rfl (nx rfl (nx rfl (nx rfl (nx rfl c14_16))))))))
        have c16_17 := (congrFun e16 17).trans (nx rfl (nx rfl (nx rfl (nx rfl (nx rfl (nx rfl (nx rfl (nx rfl c14_17))))))))
        clear e16
        refine wnil ?_
        refine hK15 _ _ ?_
        clear hK15
        refine wp_seq_k (fun K17 hK17 => ?_)
        refine wp_seq_k (fun K18 hK18 => ?_)
        refine reg ?_
        refine sq rfl (do_move (tm rfl c16_10)) ?_
        refine sq rfl (do_not (tm rfl hit)) ?_
        refine wnil ?_
        refine hK18 _ _ ?_
        clear hK18
        refine cT rfl hit rfl ?_
        refine wp_seq_k (fun K19 hK19 => ?_)
        refine reg ?_
        refine sq rfl (do_move (tm rfl (nx rfl (nx rfl c16_6)))) ?_
        refine sq rfl (do_assign (tm rfl hit)) ?_
        refine cutL ?_
        intro τ20 e20
        have c20_4 := (congrFun e20 4).trans (nx rfl (nx rfl (nx rfl (nx rfl c16_4))))
        have c20_5 := (congrFun e20 5).trans (nx rfl (nx rfl (nx rfl (nx rfl c16_5))))
        have c20_6 := (congrFun e20 6).trans (nx rfl (nx rfl (nx rfl (nx rfl c16_6))))
        have c20_7 := (congrFun e20 7).trans (nx rfl (nx rfl (nx rfl (nx rfl c16_7))))
        have c20_8 := (congrFun e20 8).trans (nx rfl (nx rfl (nx rfl (nx rfl c16_8))))
        have c20_9 := (congrFun e20 9).trans hit
        have c20_10 := (congrFun e20 10).trans (nx rfl (nx rfl (nx rfl (nx rfl c16_10))))
        have c20_15 := (congrFun e20 15).trans (nx rfl (nx rfl (nx rfl (nx rfl c16_15))))
        have c20_16 := (congrFun e20 16).trans (nx rfl (nx rfl (nx rfl (nx rfl c16_16))))
        have c20_17 := (congrFun e20 17).trans (nx rfl (nx rfl (nx rfl (nx rfl c16_17))))
        clear e20
        refine wnil ?_
        refine hK19 _ _ ?_
        clear hK19
        obtain ⟨w2, hM2, hk2, hs2, hb2, hdo⟩ := mapPut_int (P := Try.prog) (t := 50) Try.underlying50 Try.underlying3 hM hi[i] (.int .i64 (k : Int))
        refine wp_seq_k (fun K21 hK21 => ?_)
        refine reg ?_
        refine sq rfl (do_move (tm rfl c20_4)) ?_
        refine sq rfl (do_move (tm rfl (nx rfl c20_8))) ?_
        refine sq rfl (do_move (tm rfl (nx rfl (nx rfl c20_9)))) ?_
        refine sqn (hdo _ _ _ _ _ _ _ _ _ (tm rfl (nx rfl (nx rfl hit))) (tm rfl (nx rfl hit)) (tm rfl hit)) ?_
        refine wnil ?_
        refine hK21 _ _ ?_
        clear hK21
        refine reg ?_
        refine sq rfl (do_move (tm rfl (nx rfl (nx rfl (nx rfl c20_6))))) ?_
        refine sq rfl (do_inc (tm rfl hit) ck (by omega)) ?_
        refine sq rfl (do_assign (tm rfl hit)) ?_
        refine cutL ?_
        intro τ22 e22
        have c22_4 := (congrFun e22 4).trans (nx rfl (nx rfl (nx rfl (nx rfl (nx rfl (nx rfl c20_4))))))
        have c22_5 := (congrFun e22 5).trans (nx rfl (nx rfl (nx rfl (nx rfl (nx rfl (nx rfl c20_5))))))
        have c22_6 := (congrFun e22 6).trans hit
        have c22_7 := (congrFun e22 7).trans (nx rfl (nx rfl (nx rfl (nx rfl (nx rfl (nx rfl c20_7))))))
        have c22_8 := (congrFun e22 8).trans (nx rfl (nx rfl (nx rfl (nx rfl (nx rfl (nx rfl c20_8))))))
        have c22_9 := (congrFun e22 9).trans (nx rfl (nx rfl (nx rfl (nx rfl (nx rfl (nx rfl c20_9))))))
        have c22_10 := (congrFun e22 10).trans (nx rfl (nx rfl (nx rfl (nx rfl (nx rfl (nx rfl c20_10))))))
        have c22_15 := (congrFun e22 15).trans (nx rfl (nx rfl (nx rfl (nx rfl (nx rfl (nx rfl c20_15))))))
        have c22_16 := (congrFun e22 16).trans (nx rfl (nx rfl (nx rfl (nx rfl (nx rfl (nx rfl c20_16))))))
        have c22_17 := (congrFun e22 17).trans (nx rfl (nx rfl (nx rfl (nx rfl (nx rfl (nx rfl c20_17))))))
        clear e22
        refine wnil ?_
        refine hK17 _ _ ?_
        clear hK17
        have hB2 : Blk w2 (wa.heap.size) 3 (ints xs) := hB.of_eq (hk2 _ (by omega))
        refine reg ?_
        refine sq rfl (do_move (tm rfl c22_5)) ?_
        refine sq rfl (do_move (tm rfl (nx rfl c22_7))) ?_
        refine sq rfl (do_move (tm rfl (nx rfl (nx rfl c22_9)))) ?_
        refine sq rfl (ix22 (tm rfl (nx rfl (nx rfl hit))) (tm rfl (nx rfl hit)) (by omega)) ?_
        refine sqn (do_store T3 (tm rfl hit) (tm rfl (nx rfl hit)) rfl (hB2.cell (ints_get xs i (by omega))) (hB2.frozen _)) ?_
        refine cutW ?_
        intro τ23 e23 w3 hw3
        have c23_4 := (congrFun e23 4).trans (nx rfl (nx rfl (nx rfl (nx rfl c22_4))))
        have c23_5 := (congrFun e23 5).trans (nx rfl (nx rfl (nx rfl (nx rfl c22_5))))
        have c23_6 := (congrFun e23 6).trans (nx rfl (nx rfl (nx rfl (nx rfl c22_6))))
        have c23_7 := (congrFun e23 7).trans (nx rfl (nx rfl (nx rfl (nx rfl c22_7))))
        have c23_8 := (congrFun e23 8).trans (nx rfl (nx rfl (nx rfl (nx rfl c22_8))))
        have c23_9 := (congrFun e23 9).trans (nx rfl (nx rfl (nx rfl (nx rfl c22_9))))
        have c23_10 := (congrFun e23 10).trans (nx rfl (nx rfl (nx rfl (nx rfl c22_10))))
        have c23_15 := (congrFun e23 15).trans (nx rfl (nx rfl (nx rfl (nx rfl c22_15))))
        have c23_16 := (congrFun e23 16).trans (nx rfl (nx rfl (nx rfl (nx rfl c22_16))))
        have c23_17 := (congrFun e23 17).trans (nx rfl (nx rfl (nx rfl (nx rfl c22_17))))
        clear e23
        refine wnil ?_
        refine inBN ?_
        refine hK12 _ _ ?_
        clear hK12
        refine reg ?_
        refine sq rfl (do_inc (tm rfl c23_17) ck (by omega)) ?_
        refine sq rfl (do_move (tm rfl hit)) ?_
        refine wnil ?_
        refine hnn (hi.length - (i + 1)) _ _ (by omega) ⟨i + 1, k + 1, xs.set i (k : Int), _, rfl, by omega, by omega, (nx rfl (nx rfl c23_4)), (nx rfl (nx rfl c23_5)), (nx rfl (nx rfl c23_6)), (nx rfl (nx rfl c23_15)), (nx rfl (nx rfl c23_16)), hit, by simp [hxl], ?_, ?_, hM2.of_eq ?_, ?_, ?_⟩
        · rw [hw3]
          have := hB2.set i (.int .i64 (k : Int))
          rwa [show (ints xs).set i (.int .i64 (k : Int)) = ints (xs.set i (k : Int)) by simp [ints, List.map_set]] at this
        · intro j hj hji
          rw [List.length_set] at hj
          by_cases hij : i = j
          · subst hij
            rw [List.getElem_set_self]
            omega
          · rw [List.getElem_set_ne hij]
            have := hxs j hj (by omega)
            omega
        · rw [hw3, heap_set (by simp; omega)]
        · exact putL_all (p := fun v => ∃ z : Nat, v = .int .i64 (z : Int) ∧ z < k + 1) hi[i] _ l ⟨k, rfl, by omega⟩ (fun q hq => by obtain ⟨z, h1, h2⟩ := hMv q hq; exact ⟨z, h1, by omega⟩)
        · rw [hw3]; exact (hb2 _ _ (Nat.le_refl _) hbel).setCell (by simp; omega) _
      | some rr =>
        obtain ⟨jj, v0⟩ := rr
        obtain ⟨x0, _, q, hq, _⟩ := findL_some l 0 jj v0 hr2
        obtain ⟨z, hz0, hzk⟩ := hMv _ (List.mem_of_getElem? hq)
        simp only [] at hz0
        subst hz0
        rw [hr2] at hf
        refine wp_seq_k (fun K24 hK24 => ?_)
        refine reg ?_
        refine sq rfl (do_move (tm rfl c14_4)) ?_
        refine sq rfl (do_move (tm rfl (nx rfl c14_8))) ?_
        refine sq rfl (do_lookup2 (kv := ik hi[i]) Try.underlying50 (tm rfl (nx rfl hit)) (tm rfl hit) hh hck hf hz) ?_
        refine sq rfl (do_move (tm rfl hit)) ?_
        refine sq rfl (do_extract (tm rfl hit) rfl) ?_
        refine sq rfl (do_extract (tm rfl (nx rfl hit)) rfl) ?_
        refine sq rfl (do_assign (tm rfl (nx rfl hit))) ?_
        refine sq rfl (do_assign (tm rfl (nx rfl hit))) ?_
        refine cutL ?_
        intro τ25 e25
        have c25_4 := (congrFun e25 4).trans (nx rfl (nx rfl (nx rfl (nx rfl (nx rfl (nx rfl (nx rfl (nx rfl c14_4))))))))
        have c25_5 := (congrFun e25 5).trans (nx rfl (nx rfl (nx rfl (nx rfl (nx rfl (nx rfl (nx rfl (nx rfl c14_5))))))))
        have c25_6 := (congrFun e25 6).trans (nx rfl (nx rfl (nx rfl (nx rfl (nx rfl (nx rfl (nx rfl (nx rfl c14_6))))))))
        have c25_7 := (congrFun e25 7).trans (nx rfl (nx rfl (nx rfl (nx rfl (nx rfl (nx rfl (nx rfl (nx rfl c14_7))))))))
        have c25_8 := (congrFun e25 8).trans (nx rfl (nx rfl (nx rfl (nx rfl (nx rfl (nx rfl (nx rfl (nx rfl c14_8))))))))
        have c25_9 := (congrFun e25 9).trans (nx rfl hit)
        have c25_10 := (congrFun e25 10).trans hit
        have c25_15 := (congrFun e25 15).trans (nx rfl (nx rfl (nx rfl (nx rfl (nx rfl (nx rfl (nx rfl (nx rfl c14_15))))))))
        have c25_16 := (congrFun e25 16).trans (nx rfl (nx rfl (nx rfl (nx rfl (nx rfl (nx rfl (nx rfl (nx rfl c14_16))))))))
        have c25_17 := (congrFun e25 17).trans (nx rfl (nx rfl (nx rfl (nx rfl (nx rfl (nx rfl (nx rfl (nx rfl c14_17))))))))
        clear e25
        refine wnil ?_
        refine hK24 _ _ ?_
        clear hK24
        refine wp_seq_k (fun K26 hK26 => ?_)
        refine wp_seq_k (fun K27 hK27 => ?_)
        refine reg ?_
        refine sq rfl (do_move (tm rfl c25_10)) ?_
        refine sq rfl (do_not (tm rfl hit)) ?_
        refine wnil ?_
        refine hK27 _ _ ?_
        clear hK27
        refine cF rfl hit rfl ?_
        refine wp_skip ?_
        refine hK26 _ _ ?_
        clear hK26
        refine reg ?_
        refine sq rfl (do_move (tm rfl (nx rfl (nx rfl c25_5)))) ?_
        refine sq rfl (do_move (tm rfl (nx rfl (nx rfl (nx rfl c25_7))))) ?_
        refine sq rfl (do_move (tm rfl (nx rfl (nx rfl (nx rfl (nx rfl c25_9)))))) ?_
        refine sq rfl (ix22 (tm rfl (nx rfl (nx rfl hit))) (tm rfl (nx rfl hit)) (by omega)) ?_
        refine sqn (do_store T3 (tm rfl hit) (tm rfl (nx rfl hit)) rfl (hB.cell (ints_get xs i (by omega))) (hB.frozen _)) ?_
        refine cutW ?_
        intro τ28 e28 w3 hw3
        have c28_4 := (congrFun e28 4).trans (nx rfl (nx rfl (nx rfl (nx rfl (nx rfl (nx rfl c25_4))))))
        have c28_5 := (congrFun e28 5).trans (nx rfl (nx rfl (nx rfl (nx rfl (nx rfl (nx rfl c25_5))))))
        have c28_6 := (congrFun e28 6).trans (nx rfl (nx rfl (nx rfl (nx rfl (nx rfl (nx rfl c25_6))))))
        have c28_7 := (congrFun e28 7).trans (nx rfl (nx rfl (nx rfl (nx rfl (nx rfl (nx rfl c25_7))))))
        have c28_8 := (congrFun e28 8).trans (nx rfl (nx rfl (nx rfl (nx rfl (nx rfl (nx rfl c25_8))))))
        have c28_9 := (congrFun e28 9).trans (nx rfl (nx rfl (nx rfl (nx rfl (nx rfl (nx rfl c25_9))))))
        have c28_10 := (congrFun e28 10).trans (nx rfl (nx rfl (nx rfl (nx rfl (nx rfl (nx rfl c25_10))))))
        have c28_15 := (congrFun e28 15).trans (nx rfl (nx rfl (nx rfl (nx rfl (nx rfl (nx rfl c25_15))))))
        have c28_16 := (congrFun e28 16).trans (nx rfl (nx rfl (nx rfl (nx rfl (nx rfl (nx rfl c25_16))))))
        have c28_17 := (congrFun e28 17).trans (nx rfl (nx rfl (nx rfl (nx rfl (nx rfl (nx rfl c25_17))))))
        clear e28
        refine wnil ?_
        refine inBN ?_
        refine hK12 _ _ ?_
        clear hK12
        refine reg ?_
        refine sq rfl (do_inc (tm rfl c28_17) ck (by omega)) ?_
        refine sq rfl (do_move (tm rfl hit)) ?_
        refine wnil ?_
        refine hnn (hi.length - (i + 1)) _ _ (by omega) ⟨i + 1, k, xs.set i (z : Int), l, rfl, by omega, by omega, (nx rfl (nx rfl c28_4)), (nx rfl (nx rfl c28_5)), (nx rfl (nx rfl c28_6)), (nx rfl (nx rfl c28_15)), (nx rfl (nx rfl c28_16)), hit, by simp [hxl], ?_, ?_, hM.of_eq ?_, hMv, ?_⟩
        · rw [hw3]
          have := hB.set i (.int .i64 (z : Int))
          rwa [show (ints xs).set i (.int .i64 (z : Int)) = ints (xs.set i (z : Int)) by simp [ints, List.map_set]] at this
        · intro j hj hji
          rw [List.length_set] at hj
          by_cases hij : i = j
          · subst hij
            rw [List.getElem_set_self]
            omega
          · rw [List.getElem_set_ne hij]
            exact hxs j hj (by omega)
        · rw [hw3, heap_set (by simp; omega)]
        · rw [hw3]; exact hbel.setCell (by simp; omega) _
    · refine wp_seq_k (fun K29 hK29 => ?_)
      refine cF rfl hit (by simpa using h) ?_
      refine wp_exit ?_
      refine thenE ?_
      refine hx _ _ ⟨k, xs, by omega, (nx rfl t5), (nx rfl t6), hxl, hB, fun x hx => ?_, hbel⟩
      obtain ⟨j, hj, rfl⟩ := List.mem_iff_getElem.1 hx
      exact hxs j hj (by omega)
  clear s0
  rintro τ wi ⟨k, xs, hk, t5, t6, hxl, hB, hxs, hbel⟩
  refine hK7 _ _ ?_
  clear hK7
  refine wp_seq_k (fun K30 hK30 => ?_)
  refine reg ?_
  refine sq rfl (do_move (tm rfl t5)) ?_
  refine sq rfl (do_move (tm rfl (nx rfl t6))) ?_
  refine sq rfl (do_assign (tm rfl (nx rfl hit))) ?_
  refine sq rfl (do_assign (tm rfl (nx rfl hit))) ?_
  refine cutL ?_
  intro τ31 e31
  have c31_2 := (congrFun e31 2).trans (nx rfl hit)
  have c31_3 := (congrFun e31 3).trans hit
  have c31_5 := (congrFun e31 5).trans (nx rfl (nx rfl (nx rfl (nx rfl t5))))
  have c31_6 := (congrFun e31 6).trans (nx rfl (nx rfl (nx rfl (nx rfl t6))))
  clear e31
  refine wnil ?_
  refine hK30 _ _ ?_
  clear hK30
  refine wp_ret ?_
  rw [← hQ]
  exact ret2 rfl rfl rfl c31_2 c31_3 ⟨xs, k, by rw [hsa], hxl, by rw [← hsa]; exact hB, hxs, hk, hbel⟩
end Go.Proofs.Qxb6001364a
