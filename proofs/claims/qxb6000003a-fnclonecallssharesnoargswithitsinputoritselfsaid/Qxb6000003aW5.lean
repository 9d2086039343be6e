/-
  THE LAW FnCloneCallsCopiesEveryField: the walk.
-/
import Derived.Test.Qxb6000003aW4
namespace Go.Proofs.Qxb6000003a
open Go.Fra Go.RowKit
set_option maxRecDepth 100000
set_option linter.unusedVariables false

theorem nm15 : (Try.f15.name == "runtime.NumGoroutine") = false := by kernel_rfl
theorem bd15 : Try.f15.body.isNone = false := by kernel_rfl
theorem nm16 : (Try.f16.name == "runtime.NumGoroutine") = false := by kernel_rfl
theorem bd16 : Try.f16.body.isNone = false := by kernel_rfl
theorem nm17 : (Try.f17.name == "runtime.NumGoroutine") = false := by kernel_rfl
theorem bd17 : Try.f17.body.isNone = false := by kernel_rfl
theorem nm18 : (Try.f18.name == "runtime.NumGoroutine") = false := by kernel_rfl
theorem bd18 : Try.f18.body.isNone = false := by kernel_rfl
theorem nm19 : (Try.f19.name == "runtime.NumGoroutine") = false := by kernel_rfl
theorem bd19 : Try.f19.body.isNone = false := by kernel_rfl

theorem walk5 (w : World) (vp va vs : Value) (ps : List ByteArray) (avs : List Value) (rows : List (List ByteArray)) (zs : List Int) (hP : StrS w vp ps) (hA : ArgS w va avs rows) (hS : I64S w vs zs) :
    Calls Try.prog 5 #[vp, va, vs] w fun e w' => e = .returned (.bool true) ∧ Below w.heap.size w w' := by
  obtain ⟨a0, c0, rfl, hPc⟩ := id hP
  obtain ⟨hal, a1, c1, rfl, hAc⟩ := id hA
  obtain ⟨a2, c2, rfl, hSc⟩ := id hS
  refine enter (args := [.slice a0 ps.length c0, .slice a1 rows.length c1, .slice a2 zs.length c2]) Try.func5 rfl Try.ntmps5 rfl ?_
  generalize hQ : bodyPost Try.prog Try.f5 _ = Q
  have hF : ∀ τ w', τ 6 = .bool true → Below w.heap.size w w' → Q .ret (Fr 117 τ) w' := by
    intro τ w' h hb
    rw [← hQ]
    exact ret1 rfl rfl h ⟨rfl, hb⟩
  clear hQ
  have s0 : frame0 [Value.slice a0 ps.length c0, .slice a1 rows.length c1, .slice a2 zs.length c2] 0 = .slice a0 ps.length c0 := rfl
  have s1 : frame0 [Value.slice a0 ps.length c0, .slice a1 rows.length c1, .slice a2 zs.length c2] 1 = .slice a1 rows.length c1 := rfl
  have s2 : frame0 [Value.slice a0 ps.length c0, .slice a1 rows.length c1, .slice a2 zs.length c2] 2 = .slice a2 zs.length c2 := rfl
  generalize frame0 [Value.slice a0 ps.length c0, .slice a1 rows.length c1, .slice a2 zs.length c2] = σ at *
  refine wp_seq_k (fun K1 hK1 => ?_)
  refine reg ?_
  refine sq rfl (do_assign ck) ?_
  refine wnil ?_
  refine hK1 _ _ ?_
  clear hK1 K1
  refine wp_seq_k (fun K2 hK2 => ?_)
  refine wp_seq_k (fun K3 hK3 => ?_)
  refine reg ?_
  refine sq rfl (do_move (tm rfl (nx rfl s0))) ?_
  refine sq rfl (do_move (tm rfl (nx rfl (nx rfl s1)))) ?_
  refine sq rfl (do_move (tm rfl (nx rfl (nx rfl (nx rfl s2))))) ?_
  refine sqc (R := fun v w' => ∃ b, v = .bool b ∧ w = w' ∧ (b = true → ps.length ≤ 1048576 ∧ rows.length ≤ 1048576 ∧ zs.length ≤ 1048576 ∧ ∀ r ∈ rows, r.length ≤ 1048576 ∧ ∀ s ∈ r, s.size ≤ 1048576)) rfl
    (run_callF Try.func15 nm15 bd15 (map3 (tm rfl (nx rfl (nx rfl hit))) (tm rfl (nx rfl hit)) (tm rfl hit)) rfl) ((bytes15 w _ _ _ ps avs rows zs hP hA hS).mono ?_) ?_
  · rintro e w' ⟨b, rfl, rfl, hb⟩
    exact ⟨_, rfl, b, rfl, rfl, hb⟩
  rintro v _ ⟨b, rfl, rfl, hb⟩
  refine sq rfl (do_not (tm rfl hit)) ?_
  refine cutL ?_
  intro τ4 e4
  have c4_0 := (congrFun e4 0).trans (nx rfl (nx rfl (nx rfl (nx rfl (nx rfl (nx rfl s0))))))
  have c4_1 := (congrFun e4 1).trans (nx rfl (nx rfl (nx rfl (nx rfl (nx rfl (nx rfl s1))))))
  have c4_2 := (congrFun e4 2).trans (nx rfl (nx rfl (nx rfl (nx rfl (nx rfl (nx rfl s2))))))
  have c4_6 := (congrFun e4 6).trans (nx rfl (nx rfl (nx rfl (nx rfl (nx rfl hit)))))
  have c4_14 := (congrFun e4 14).trans hit
  clear e4
  refine wnil ?_
  refine hK3 _ _ ?_
  clear hK3 K3
  refine cB rfl c4_14 (fun h1 => ?_) (fun h1 => ?_)
  · refine wp_seq_k (fun K5 hK5 => ?_)
    refine reg ?_
    refine sq rfl (do_assign ck) ?_
    refine wnil ?_
    refine hK5 _ _ ?_
    clear hK5 K5
    refine wp_ret ?_
    refine thenR ?_
    exact hF _ _ hit (Below.refl _ _)
  refine wp_skip ?_
  refine hK2 _ _ ?_
  clear hK2 K2
  have hb' : b = true := by simpa using h1
  obtain ⟨l1, l2, l3, l45⟩ := hb hb'
  have l4 : ∀ r ∈ rows, r.length ≤ 1048576 := fun r hr => (l45 r hr).1
  clear hb h1 hb'
  refine wp_seq_k (fun K6 hK6 => ?_)
  refine wp_seq_k (fun K7 hK7 => ?_)
  refine reg ?_
  refine sq rfl (do_move (tm rfl c4_0)) ?_
  refine sq rfl (do_move (tm rfl (nx rfl c4_1))) ?_
  refine sq rfl (do_move (tm rfl (nx rfl (nx rfl c4_2)))) ?_
  refine sqc (R := fun v w' => ∃ b, v = .bool b ∧ w = w') rfl
    (run_callF Try.func16 nm16 bd16 (map3 (tm rfl (nx rfl (nx rfl hit))) (tm rfl (nx rfl hit)) (tm rfl hit)) rfl) ((inBounds16 w _ _ _ ps avs rows zs hP hA hS l1 l2 l3 l4).mono ?_) ?_
  · rintro e w' ⟨b, rfl, rfl⟩
    exact ⟨_, rfl, b, rfl, rfl⟩
  rintro v _ ⟨b', rfl, rfl⟩
  refine sq rfl (do_not (tm rfl hit)) ?_
  refine cutL ?_
  intro τ8 e8
  have c8_0 := (congrFun e8 0).trans (nx rfl (nx rfl (nx rfl (nx rfl (nx rfl c4_0)))))
  have c8_1 := (congrFun e8 1).trans (nx rfl (nx rfl (nx rfl (nx rfl (nx rfl c4_1)))))
  have c8_2 := (congrFun e8 2).trans (nx rfl (nx rfl (nx rfl (nx rfl (nx rfl c4_2)))))
  have c8_6 := (congrFun e8 6).trans (nx rfl (nx rfl (nx rfl (nx rfl (nx rfl c4_6)))))
  have c8_19 := (congrFun e8 19).trans hit
  clear e8
  refine wnil ?_
  refine hK7 _ _ ?_
  clear hK7 K7
  refine cB rfl c8_19 (fun h1 => ?_) (fun h1 => ?_)
  · refine wp_seq_k (fun K9 hK9 => ?_)
    refine reg ?_
    refine sq rfl (do_assign ck) ?_
    refine wnil ?_
    refine hK9 _ _ ?_
    clear hK9 K9
    refine wp_ret ?_
    refine thenR ?_
    exact hF _ _ hit (Below.refl _ _)
  refine wp_skip ?_
  refine hK6 _ _ ?_
  clear hK6 K6
  clear h1
  refine wp_seq_k (fun K10 hK10 => ?_)
  refine wp_seq_k (fun K11 hK11 => ?_)
  refine reg ?_
  refine sq rfl (do_move (tm rfl c8_0)) ?_
  refine sq rfl (do_move (tm rfl (nx rfl c8_1))) ?_
  refine sq rfl (do_move (tm rfl (nx rfl (nx rfl c8_2)))) ?_
  refine sqc (R := fun v w' => v = .bool (decide (rows.length = ps.length ∧ zs.length = ps.length)) ∧ w = w') rfl
    (run_callF Try.func17 nm17 bd17 (map3 (tm rfl (nx rfl (nx rfl hit))) (tm rfl (nx rfl hit)) (tm rfl hit)) rfl) ((match17 w _ _ _ _ _ _ _ _ _).mono ?_) ?_
  · rintro e w' ⟨rfl, rfl⟩
    exact ⟨_, rfl, rfl, rfl⟩
  rintro v _ ⟨rfl, rfl⟩
  refine sq rfl (do_not (tm rfl hit)) ?_
  refine cutL ?_
  intro τ12 e12
  have c12_0 := (congrFun e12 0).trans (nx rfl (nx rfl (nx rfl (nx rfl (nx rfl c8_0)))))
  have c12_1 := (congrFun e12 1).trans (nx rfl (nx rfl (nx rfl (nx rfl (nx rfl c8_1)))))
  have c12_2 := (congrFun e12 2).trans (nx rfl (nx rfl (nx rfl (nx rfl (nx rfl c8_2)))))
  have c12_6 := (congrFun e12 6).trans (nx rfl (nx rfl (nx rfl (nx rfl (nx rfl c8_6)))))
  have c12_24 := (congrFun e12 24).trans hit
  clear e12
  refine wnil ?_
  refine hK11 _ _ ?_
  clear hK11 K11
  refine cB rfl c12_24 (fun h1 => ?_) (fun h1 => ?_)
  · refine wp_seq_k (fun K13 hK13 => ?_)
    refine reg ?_
    refine sq rfl (do_assign ck) ?_
    refine wnil ?_
    refine hK13 _ _ ?_
    clear hK13 K13
    refine wp_ret ?_
    refine thenR ?_
    exact hF _ _ hit (Below.refl _ _)
  refine wp_skip ?_
  refine hK10 _ _ ?_
  clear hK10 K10
  simp at h1
  obtain ⟨hrl, hzl⟩ := h1
  refine wp_seq_k (fun K14 hK14 => ?_)
  refine reg ?_
  refine sq rfl (do_move (tm rfl c12_0)) ?_
  refine sq rfl (do_move (tm rfl (nx rfl c12_1))) ?_
  refine sq rfl (do_move (tm rfl (nx rfl (nx rfl c12_2)))) ?_
  by_cases h0 : ps.length = 0
  · refine sqc (R := fun v w' => (∃ a c, v = .slice a 0 c) ∧ Below w.heap.size w w') rfl
      (run_callF Try.func19 nm19 bd19 (map3 (tm rfl (nx rfl (nx rfl hit))) (tm rfl (nx rfl hit)) (tm rfl hit)) rfl) ?_ ?_
    · cases a0 with
      | none =>
        refine (build19_nil w _ _ _ _).mono ?_
        rintro e w' ⟨rfl, rfl⟩
        exact ⟨_, rfl, ⟨_, _, rfl⟩, Below.refl _ _⟩
      | some q =>
        refine (build19 w q c0 _ _ ps avs rows zs ps.length hP hA hS l1 rfl hrl hzl).mono ?_
        rintro e w' ⟨cs, rfl, _, _, hb⟩
        exact ⟨_, rfl, ⟨_, _, by rw [h0]⟩, hb⟩
    rintro v w1 ⟨⟨a, c, rfl⟩, hb1⟩
    refine sqc (R := fun v w' => v = .slice none 0 0 ∧ w1 = w') rfl (run_callF Try.func18 nm18 bd18 (map1 (tm rfl hit)) rfl) (zzClone18 w1 _ ((cloneCalls29_nil w1 _ _).mono ?_)) ?_
    · rintro e w' ⟨rfl, rfl⟩
      exact ⟨_, rfl, rfl, rfl⟩
    rintro v _ ⟨rfl, rfl⟩
    refine sq rfl (do_assign (tm rfl hit)) ?_
    refine cutL ?_
    intro τ15 e15
    have c15_0 := (congrFun e15 0).trans (nx rfl (nx rfl (nx rfl (nx rfl (nx rfl (nx rfl c12_0))))))
    have c15_1 := (congrFun e15 1).trans (nx rfl (nx rfl (nx rfl (nx rfl (nx rfl (nx rfl c12_1))))))
    have c15_2 := (congrFun e15 2).trans (nx rfl (nx rfl (nx rfl (nx rfl (nx rfl (nx rfl c12_2))))))
    have c15_6 := (congrFun e15 6).trans (nx rfl (nx rfl (nx rfl (nx rfl (nx rfl (nx rfl c12_6))))))
    have c15_7 := (congrFun e15 7).trans hit
    clear e15
    refine wnil ?_
    refine hK14 _ _ ?_
    clear hK14 K14
    refine wp_seq_k (fun K16 hK16 => ?_)
    refine wp_seq_k (fun K17 hK17 => ?_)
    refine reg ?_
    refine sq rfl (do_move (tm rfl c15_0)) ?_
    refine sq rfl (do_len Try.underlying30 (tm rfl hit)) ?_
    refine sq rfl (do_eql (tm rfl hit) ck) ?_
    refine wnil ?_
    refine hK17 _ _ ?_
    clear hK17 K17
    refine cT rfl hit (by simp [h0]) ?_
    refine wp_seq_k (fun K18 hK18 => ?_)
    refine reg ?_
    refine sq rfl (do_move (tm rfl (nx rfl (nx rfl (nx rfl c15_7))))) ?_
    refine sq rfl (do_nilS Try.underlying34 (tm rfl hit) ck) ?_
    refine sq rfl (do_assign (tm rfl hit)) ?_
    refine cutL ?_
    intro τ19 e19
    have c19_0 := (congrFun e19 0).trans (nx rfl (nx rfl (nx rfl (nx rfl (nx rfl (nx rfl c15_0))))))
    have c19_1 := (congrFun e19 1).trans (nx rfl (nx rfl (nx rfl (nx rfl (nx rfl (nx rfl c15_1))))))
    have c19_2 := (congrFun e19 2).trans (nx rfl (nx rfl (nx rfl (nx rfl (nx rfl (nx rfl c15_2))))))
    have c19_6 := (congrFun e19 6).trans hit
    have c19_7 := (congrFun e19 7).trans (nx rfl (nx rfl (nx rfl (nx rfl (nx rfl (nx rfl c15_7))))))
    clear e19
    refine wnil ?_
    refine hK18 _ _ ?_
    clear hK18 K18
    refine wp_ret ?_
    refine thenR ?_
    exact hF _ _ c19_6 hb1
  · obtain ⟨b0, o0, rfl, _⟩ := hPc 0 (by omega)
    refine sqc (R := fun v w' => ∃ cs, v = .slice (some ⟨w.heap.size, 0, none⟩) ps.length ps.length ∧ Blk w' w.heap.size 38 cs ∧ CallCells cs ps avs zs ps.length ∧ Below w.heap.size w w') rfl
      (run_callF Try.func19 nm19 bd19 (map3 (tm rfl (nx rfl (nx rfl hit))) (tm rfl (nx rfl hit)) (tm rfl hit)) rfl) ((build19 w _ c0 _ _ ps avs rows zs ps.length hP hA hS l1 rfl hrl hzl).mono ?_) ?_
    · rintro e w' ⟨cs, rfl, h⟩
      exact ⟨_, rfl, cs, rfl, h⟩
    rintro v w1 ⟨cs, rfl, hB1, hcc1, hb1⟩
    have hav : ∀ j (h : j < rows.length) (h' : j < avs.length), StrS w1 avs[j] rows[j] := by
      intro j h h'
      obtain ⟨_, _, _, _, hs⟩ := hAc j h h'
      exact hs.below hb1
    refine sqc (R := fun v w' => ∃ cs' avs', v = .slice (some ⟨w1.heap.size, 0, none⟩) ps.length ps.length ∧ Blk w' w1.heap.size 38 cs' ∧ CallCells cs' ps avs' zs ps.length ∧
        Copies w1 w' w1.heap.size avs avs' rows ps.length ∧ Below w1.heap.size w1 w' ∧ avs'.length = ps.length) rfl
      (run_callF Try.func18 nm18 bd18 (map1 (tm rfl hit)) rfl) (zzClone18 w1 _ ((cloneCalls29 w1 w.heap.size ps.length ps.length cs ps avs zs rows (by omega) l1 hB1 hcc1 hrl (by omega) hav l4).mono ?_)) ?_
    · rintro e w' ⟨cs', avs', rfl, h⟩
      exact ⟨_, rfl, cs', avs', rfl, h⟩
    rintro v w2 ⟨cs', avs', rfl, hB2, hcc2, hcop, hb2, hal2⟩
    have hbel : Below w.heap.size w w2 := hb1.trans (hb2.mono hb1.size)
    refine sq rfl (do_assign (tm rfl hit)) ?_
    refine cutL ?_
    intro τ20 e20
    have c20_0 := (congrFun e20 0).trans (nx rfl (nx rfl (nx rfl (nx rfl (nx rfl (nx rfl c12_0))))))
    have c20_1 := (congrFun e20 1).trans (nx rfl (nx rfl (nx rfl (nx rfl (nx rfl (nx rfl c12_1))))))
    have c20_2 := (congrFun e20 2).trans (nx rfl (nx rfl (nx rfl (nx rfl (nx rfl (nx rfl c12_2))))))
    have c20_6 := (congrFun e20 6).trans (nx rfl (nx rfl (nx rfl (nx rfl (nx rfl (nx rfl c12_6))))))
    have c20_7 := (congrFun e20 7).trans hit
    clear e20
    refine wnil ?_
    refine hK14 _ _ ?_
    clear hK14 K14
    refine wp_seq_k (fun K21 hK21 => ?_)
    refine wp_seq_k (fun K22 hK22 => ?_)
    refine reg ?_
    refine sq rfl (do_move (tm rfl c20_0)) ?_
    refine sq rfl (do_len Try.underlying30 (tm rfl hit)) ?_
    refine sq rfl (do_eql (tm rfl hit) ck) ?_
    refine wnil ?_
    refine hK22 _ _ ?_
    clear hK22 K22
    refine cF rfl hit (beq_eq_false_iff_ne.2 (by omega)) ?_
    refine wp_skip ?_
    refine hK21 _ _ ?_
    clear hK21 K21
    refine wp_seq_k (fun K23 hK23 => ?_)
    refine wp_seq_k (fun K24 hK24 => ?_)
    refine reg ?_
    refine sq rfl (do_move (tm rfl (nx rfl (nx rfl (nx rfl c20_7))))) ?_
    refine sq rfl (do_len Try.underlying34 (tm rfl hit)) ?_
    refine sq rfl (do_move (tm rfl (nx rfl (nx rfl (nx rfl (nx rfl (nx rfl c20_0))))))) ?_
    refine sq rfl (do_len Try.underlying30 (tm rfl hit)) ?_
    refine sq rfl (do_neq (tm rfl (nx rfl (nx rfl hit))) (tm rfl hit)) ?_
    refine cutL ?_
    intro τ25 e25
    have c25_0 := (congrFun e25 0).trans (nx rfl (nx rfl (nx rfl (nx rfl (nx rfl (nx rfl (nx rfl (nx rfl c20_0))))))))
    have c25_1 := (congrFun e25 1).trans (nx rfl (nx rfl (nx rfl (nx rfl (nx rfl (nx rfl (nx rfl (nx rfl c20_1))))))))
    have c25_2 := (congrFun e25 2).trans (nx rfl (nx rfl (nx rfl (nx rfl (nx rfl (nx rfl (nx rfl (nx rfl c20_2))))))))
    have c25_6 := (congrFun e25 6).trans (nx rfl (nx rfl (nx rfl (nx rfl (nx rfl (nx rfl (nx rfl (nx rfl c20_6))))))))
    have c25_7 := (congrFun e25 7).trans (nx rfl (nx rfl (nx rfl (nx rfl (nx rfl (nx rfl (nx rfl (nx rfl c20_7))))))))
    have c25_39 := (congrFun e25 39).trans hit
    clear e25
    refine wnil ?_
    refine hK24 _ _ ?_
    clear hK24 K24
    refine cF rfl c25_39 (by simp) ?_
    refine wp_skip ?_
    refine hK23 _ _ ?_
    clear hK23 K23
    refine wp_seq_k (fun K26 hK26 => ?_)
    refine wp_seq_k (fun K27 hK27 => ?_)
    refine reg ?_
    refine sq rfl (do_assign (v := .int .i64 ((0 : Nat) : Int)) rfl) ?_
    refine wnil ?_
    refine hK27 _ _ ?_
    clear hK27 K27
    refine forLoop (N := 117) (fun k τ wi => ∃ i, k = ps.length - i ∧ i ≤ ps.length ∧ τ 0 = .slice (some ⟨b0, o0, none⟩) ps.length c0 ∧ τ 1 = .slice a1 rows.length c1 ∧ τ 2 = .slice a2 zs.length c2 ∧
        τ 7 = .slice (some ⟨w1.heap.size, 0, none⟩) ps.length ps.length ∧ τ 8 = .int .i64 (i : Int) ∧ wi.heap = w2.heap ∧ Below w.heap.size w wi)
      (fun τ wi => Below w.heap.size w wi) ps.length ?_ ?_ ?_
    · exact ⟨0, rfl, Nat.zero_le _, (nx rfl c25_0), (nx rfl c25_1), (nx rfl c25_2), (nx rfl c25_7), hit, rfl, hbel⟩
    · clear s0 s1 s2
      rintro Q' k τ wi hnn hx hr ⟨i, rfl, hi, t0, t1, t2, t7, t8, hwi, hbi⟩
      refine wp_seq_k (fun K28 hK28 => ?_)
      refine wp_seq_k (fun K29 hK29 => ?_)
      refine reg ?_
      refine sq rfl (do_move (tm rfl t8)) ?_
      refine sq rfl (do_move (tm rfl (nx rfl t0))) ?_
      refine sq rfl (do_len Try.underlying30 (tm rfl hit)) ?_
      refine sq rfl (do_lss (tm rfl (nx rfl (nx rfl hit))) (tm rfl hit)) ?_
      refine cutL ?_
      intro τ30 e30
      have c30_0 := (congrFun e30 0).trans (nx rfl (nx rfl (nx rfl (nx rfl t0))))
      have c30_1 := (congrFun e30 1).trans (nx rfl (nx rfl (nx rfl (nx rfl t1))))
      have c30_2 := (congrFun e30 2).trans (nx rfl (nx rfl (nx rfl (nx rfl t2))))
      have c30_7 := (congrFun e30 7).trans (nx rfl (nx rfl (nx rfl (nx rfl t7))))
      have c30_8 := (congrFun e30 8).trans (nx rfl (nx rfl (nx rfl (nx rfl t8))))
      have c30_43 := (congrFun e30 43).trans hit
      clear e30
      refine wnil ?_
      refine hK29 _ _ ?_
      clear hK29 K29
      by_cases h : i < ps.length
      · refine cT rfl c30_43 (by simpa using h) ?_
        refine wp_skip ?_
        refine hK28 _ _ ?_
        clear hK28 K28
        obtain ⟨b0', o0', e0, hc0⟩ := hPc i h
        cases e0
        obtain ⟨b1, o1, rfl, hc1, hr1⟩ := hAc i (by omega) (by omega)
        obtain ⟨b2, o2, rfl, hc2⟩ := hSc i (by omega)
        obtain ⟨ra, rc, hre, hrc⟩ := hr1
        have hli := l4 rows[i] (List.getElem_mem _)
        rw [← hbi.cell (World.block_lt_of_cell? w _ hc0)] at hc0
        rw [← hbi.cell (World.block_lt_of_cell? w _ hc1)] at hc1
        rw [← hbi.cell (World.block_lt_of_cell? w _ hc2)] at hc2
        rw [hre] at hc1
        have hBi : Blk wi w1.heap.size 38 cs' := hB2.of_eq (by rw [hwi])
        obtain ⟨p, cv, z, hp, hcv, hz, g0, g1, g2⟩ := hcc2 i h
        obtain ⟨av, cv', ss, f1, f2, f3, f4⟩ := hcop.one i h
        rw [hcv] at f2
        cases f2
        have ep : p = ps[i] := by rw [List.getElem?_eq_getElem h] at hp; cases hp; rfl
        have ez : z = zs[i] := by rw [List.getElem?_eq_getElem (by omega)] at hz; cases hz; rfl
        have es : ss = rows[i] := by rw [List.getElem?_eq_getElem (by omega)] at f3; cases f3; rfl
        have ea : av = .slice ra rows[i].length rc := by rw [List.getElem?_eq_getElem (by omega)] at f1; cases f1; exact hre
        subst es
        rw [ea] at f4
        clear ea f1 f3
        obtain ⟨ca, cc, hce, hcn, hcells⟩ : ∃ ca cc, cv = .slice ca rows[i].length cc ∧ ca.isNone = ra.isNone ∧ ∀ j (hj : j < rows[i].length), ∃ gb, ca = some ⟨gb, 0, none⟩ ∧ w2.cell? ⟨gb, j, none⟩ = some (.string rows[i][j]) := by
          rcases f4 with ⟨c', q1, q2, q3⟩ | ⟨q1, q2, q3, gb, cap, q4, q5, q6, q7⟩
          · obtain rfl : ra = none := by injection q1
            refine ⟨none, 0, ?_, rfl, ?_⟩
            · rw [q2, q3]; rfl
            · intro j hj; rw [q3] at hj; simp at hj
          · obtain rfl : ra = some q1 := by injection q4
            refine ⟨some ⟨gb, 0, none⟩, cap, q5, rfl, ?_⟩
            intro j hj
            refine ⟨gb, rfl, ?_⟩
            have := q7.cells (g := gb) (by rw [q5]; rfl) j (.string rows[i][j]) (by simp [strs, hj])
            rw [add_plain] at this
            simpa using this
        subst hce
        have G0 : wi.cell? ⟨w1.heap.size, i * 3 + 0, none⟩ = some (.string p) := hBi.cell g0
        have G1 : wi.cell? ⟨w1.heap.size, i * 3 + 1, none⟩ = some (.slice ca rows[i].length cc) := hBi.cell g1
        have G2 : wi.cell? ⟨w1.heap.size, i * 3 + 2, none⟩ = some (.int .i64 z) := hBi.cell g2
        refine wp_seq_k (fun K31 hK31 => ?_)
        refine wp_block ?_
        refine wp_seq_k (fun K32 hK32 => ?_)
        refine wp_seq_k (fun K33 hK33 => ?_)
        refine draw mixed [] [(0, 0), (0, 0), (0, 0), (0, 0), (0, 0), (0, 0), (0, 0), (0, 0), (0, 0), (0, 0), (0, 0), (0, 0), (0, 0), (0, 0), (0, 0), (0, 0), (0, 0), (0, 0), (0, 0), (0, 0), (0, 0), (0, 0)] [] (World.drew _) (upd (upd (upd (upd (upd (upd (upd (upd (upd (upd (upd (upd (upd (upd (upd (upd (upd (upd (upd (upd (upd (upd _ 46 _) 47 _) 48 _) 49 _) 50 _) 51 _) 52 _) 53 _) 54 _) 55 _) 56 _) 57 _) 58 _) 59 _) 60 _) 61 _) 62 _) 63 _) 64 _) 65 _) 66 _) 67 _) (by kernel_rfl) (fun s hs => ovr_off [(46, _), (47, _), (48, _), (49, _), (50, _), (51, _), (52, _), (53, _), (54, _), (55, _), (56, _), (57, _), (58, _), (59, _), (60, _), (61, _), (62, _), (63, _), (64, _), (65, _), (66, _), (67, _)] _ s hs) ⟨(qa rfl (fun _ => (do_move (tm rfl (nx rfl (nx rfl (nx rfl (nx rfl (nx rfl (nx rfl (nx rfl (nx rfl (nx rfl (nx rfl (nx rfl (nx rfl (nx rfl (nx rfl (nx rfl (nx rfl (nx rfl (nx rfl (nx rfl (nx rfl (nx rfl (nx rfl c30_7))))))))))))))))))))))))) (nx rfl (nx rfl (nx rfl (nx rfl (nx rfl (nx rfl (nx rfl (nx rfl (nx rfl (nx rfl (nx rfl (nx rfl (nx rfl (nx rfl (nx rfl (nx rfl (nx rfl (nx rfl (nx rfl (nx rfl (nx rfl hit)))))))))))))))))))))), (qa rfl (fun _ => (do_move (tm rfl (nx rfl (nx rfl (nx rfl (nx rfl (nx rfl (nx rfl (nx rfl (nx rfl (nx rfl (nx rfl (nx rfl (nx rfl (nx rfl (nx rfl (nx rfl (nx rfl (nx rfl (nx rfl (nx rfl (nx rfl (nx rfl (nx rfl c30_8))))))))))))))))))))))))) (nx rfl (nx rfl (nx rfl (nx rfl (nx rfl (nx rfl (nx rfl (nx rfl (nx rfl (nx rfl (nx rfl (nx rfl (nx rfl (nx rfl (nx rfl (nx rfl (nx rfl (nx rfl (nx rfl (nx rfl hit))))))))))))))))))))), (qa rfl (fun _ => (ix34 (tm rfl (nx rfl (nx rfl (nx rfl (nx rfl (nx rfl (nx rfl (nx rfl (nx rfl (nx rfl (nx rfl (nx rfl (nx rfl (nx rfl (nx rfl (nx rfl (nx rfl (nx rfl (nx rfl (nx rfl (nx rfl (nx rfl hit)))))))))))))))))))))) (tm rfl (nx rfl (nx rfl (nx rfl (nx rfl (nx rfl (nx rfl (nx rfl (nx rfl (nx rfl (nx rfl (nx rfl (nx rfl (nx rfl (nx rfl (nx rfl (nx rfl (nx rfl (nx rfl (nx rfl (nx rfl hit))))))))))))))))))))) (by omega))) (nx rfl (nx rfl (nx rfl (nx rfl (nx rfl (nx rfl (nx rfl (nx rfl (nx rfl (nx rfl (nx rfl (nx rfl (nx rfl (nx rfl (nx rfl (nx rfl (nx rfl (nx rfl (nx rfl hit)))))))))))))))))))), (qa rfl (fun _ => (fa38_0 (tm rfl (nx rfl (nx rfl (nx rfl (nx rfl (nx rfl (nx rfl (nx rfl (nx rfl (nx rfl (nx rfl (nx rfl (nx rfl (nx rfl (nx rfl (nx rfl (nx rfl (nx rfl (nx rfl (nx rfl hit)))))))))))))))))))))) (nx rfl (nx rfl (nx rfl (nx rfl (nx rfl (nx rfl (nx rfl (nx rfl (nx rfl (nx rfl (nx rfl (nx rfl (nx rfl (nx rfl (nx rfl (nx rfl (nx rfl (nx rfl hit))))))))))))))))))), (qk rfl (do_load T9 rfl (tm rfl (nx rfl (nx rfl (nx rfl (nx rfl (nx rfl (nx rfl (nx rfl (nx rfl (nx rfl (nx rfl (nx rfl (nx rfl (nx rfl (nx rfl (nx rfl (nx rfl (nx rfl (nx rfl hit))))))))))))))))))) G0) (nx rfl (nx rfl (nx rfl (nx rfl (nx rfl (nx rfl (nx rfl (nx rfl (nx rfl (nx rfl (nx rfl (nx rfl (nx rfl (nx rfl (nx rfl (nx rfl (nx rfl hit)))))))))))))))))), (qa rfl (fun _ => (do_move (tm rfl (nx rfl (nx rfl (nx rfl (nx rfl (nx rfl (nx rfl (nx rfl (nx rfl (nx rfl (nx rfl (nx rfl (nx rfl (nx rfl (nx rfl (nx rfl (nx rfl (nx rfl (nx rfl (nx rfl (nx rfl (nx rfl (nx rfl c30_0))))))))))))))))))))))))) (nx rfl (nx rfl (nx rfl (nx rfl (nx rfl (nx rfl (nx rfl (nx rfl (nx rfl (nx rfl (nx rfl (nx rfl (nx rfl (nx rfl (nx rfl (nx rfl hit))))))))))))))))), (qa rfl (fun _ => (do_move (tm rfl (nx rfl (nx rfl (nx rfl (nx rfl (nx rfl (nx rfl (nx rfl (nx rfl (nx rfl (nx rfl (nx rfl (nx rfl (nx rfl (nx rfl (nx rfl (nx rfl (nx rfl (nx rfl (nx rfl (nx rfl (nx rfl (nx rfl c30_8))))))))))))))))))))))))) (nx rfl (nx rfl (nx rfl (nx rfl (nx rfl (nx rfl (nx rfl (nx rfl (nx rfl (nx rfl (nx rfl (nx rfl (nx rfl (nx rfl (nx rfl hit)))))))))))))))), (qa rfl (fun _ => (io30 (tm rfl (nx rfl (nx rfl (nx rfl (nx rfl (nx rfl (nx rfl (nx rfl (nx rfl (nx rfl (nx rfl (nx rfl (nx rfl (nx rfl (nx rfl (nx rfl (nx rfl hit))))))))))))))))) (tm rfl (nx rfl (nx rfl (nx rfl (nx rfl (nx rfl (nx rfl (nx rfl (nx rfl (nx rfl (nx rfl (nx rfl (nx rfl (nx rfl (nx rfl (nx rfl hit)))))))))))))))) (by omega))) (nx rfl (nx rfl (nx rfl (nx rfl (nx rfl (nx rfl (nx rfl (nx rfl (nx rfl (nx rfl (nx rfl (nx rfl (nx rfl (nx rfl hit))))))))))))))), (qk rfl (do_load T9 rfl (tm rfl (nx rfl (nx rfl (nx rfl (nx rfl (nx rfl (nx rfl (nx rfl (nx rfl (nx rfl (nx rfl (nx rfl (nx rfl (nx rfl (nx rfl hit))))))))))))))) hc0) (nx rfl (nx rfl (nx rfl (nx rfl (nx rfl (nx rfl (nx rfl (nx rfl (nx rfl (nx rfl (nx rfl (nx rfl (nx rfl hit)))))))))))))), (qa rfl (fun _ => (do_neqSF (tm rfl (nx rfl (nx rfl (nx rfl (nx rfl (nx rfl (nx rfl (nx rfl (nx rfl (nx rfl (nx rfl (nx rfl (nx rfl (nx rfl (nx rfl (nx rfl (nx rfl (nx rfl hit)))))))))))))))))) (tm rfl (nx rfl (nx rfl (nx rfl (nx rfl (nx rfl (nx rfl (nx rfl (nx rfl (nx rfl (nx rfl (nx rfl (nx rfl (nx rfl hit)))))))))))))) ep)) (nx rfl (nx rfl (nx rfl (nx rfl (nx rfl (nx rfl (nx rfl (nx rfl (nx rfl (nx rfl (nx rfl (nx rfl hit))))))))))))), (qa rfl (fun _ => (do_move (tm rfl (nx rfl (nx rfl (nx rfl (nx rfl (nx rfl (nx rfl (nx rfl (nx rfl (nx rfl (nx rfl (nx rfl (nx rfl hit))))))))))))))) (nx rfl (nx rfl (nx rfl (nx rfl (nx rfl (nx rfl (nx rfl (nx rfl (nx rfl (nx rfl (nx rfl hit)))))))))))), (qgk rfl rfl rfl (nx rfl (nx rfl (nx rfl (nx rfl (nx rfl (nx rfl (nx rfl (nx rfl (nx rfl (nx rfl (nx rfl hit))))))))))) (do_move (tm rfl (nx rfl (nx rfl (nx rfl (nx rfl (nx rfl (nx rfl (nx rfl (nx rfl (nx rfl (nx rfl (nx rfl (nx rfl (nx rfl (nx rfl (nx rfl (nx rfl (nx rfl (nx rfl (nx rfl (nx rfl (nx rfl (nx rfl c30_7)))))))))))))))))))))))) (nx rfl (nx rfl (nx rfl (nx rfl (nx rfl (nx rfl (nx rfl (nx rfl (nx rfl (nx rfl hit))))))))))), (qgk rfl rfl rfl (nx rfl (nx rfl (nx rfl (nx rfl (nx rfl (nx rfl (nx rfl (nx rfl (nx rfl (nx rfl (nx rfl hit))))))))))) (do_move (tm rfl (nx rfl (nx rfl (nx rfl (nx rfl (nx rfl (nx rfl (nx rfl (nx rfl (nx rfl (nx rfl (nx rfl (nx rfl (nx rfl (nx rfl (nx rfl (nx rfl (nx rfl (nx rfl (nx rfl (nx rfl (nx rfl (nx rfl c30_8)))))))))))))))))))))))) (nx rfl (nx rfl (nx rfl (nx rfl (nx rfl (nx rfl (nx rfl (nx rfl (nx rfl hit)))))))))), (qgk rfl rfl rfl (nx rfl (nx rfl (nx rfl (nx rfl (nx rfl (nx rfl (nx rfl (nx rfl (nx rfl (nx rfl (nx rfl hit))))))))))) (ix34 (tm rfl (nx rfl (nx rfl (nx rfl (nx rfl (nx rfl (nx rfl (nx rfl (nx rfl (nx rfl (nx rfl hit))))))))))) (tm rfl (nx rfl (nx rfl (nx rfl (nx rfl (nx rfl (nx rfl (nx rfl (nx rfl (nx rfl hit)))))))))) (by omega)) (nx rfl (nx rfl (nx rfl (nx rfl (nx rfl (nx rfl (nx rfl (nx rfl hit))))))))), (qgk rfl rfl rfl (nx rfl (nx rfl (nx rfl (nx rfl (nx rfl (nx rfl (nx rfl (nx rfl (nx rfl (nx rfl (nx rfl hit))))))))))) (fa38_2 (tm rfl (nx rfl (nx rfl (nx rfl (nx rfl (nx rfl (nx rfl (nx rfl (nx rfl hit)))))))))) (nx rfl (nx rfl (nx rfl (nx rfl (nx rfl (nx rfl (nx rfl hit)))))))), (qgk rfl rfl rfl (nx rfl (nx rfl (nx rfl (nx rfl (nx rfl (nx rfl (nx rfl (nx rfl (nx rfl (nx rfl (nx rfl hit))))))))))) (do_load T2 rfl (tm rfl (nx rfl (nx rfl (nx rfl (nx rfl (nx rfl (nx rfl (nx rfl hit)))))))) G2) (nx rfl (nx rfl (nx rfl (nx rfl (nx rfl (nx rfl hit))))))), (qgk rfl rfl rfl (nx rfl (nx rfl (nx rfl (nx rfl (nx rfl (nx rfl (nx rfl (nx rfl (nx rfl (nx rfl (nx rfl hit))))))))))) (do_move (tm rfl (nx rfl (nx rfl (nx rfl (nx rfl (nx rfl (nx rfl (nx rfl (nx rfl (nx rfl (nx rfl (nx rfl (nx rfl (nx rfl (nx rfl (nx rfl (nx rfl (nx rfl (nx rfl (nx rfl (nx rfl (nx rfl (nx rfl c30_2)))))))))))))))))))))))) (nx rfl (nx rfl (nx rfl (nx rfl (nx rfl hit)))))), (qgk rfl rfl rfl (nx rfl (nx rfl (nx rfl (nx rfl (nx rfl (nx rfl (nx rfl (nx rfl (nx rfl (nx rfl (nx rfl hit))))))))))) (do_move (tm rfl (nx rfl (nx rfl (nx rfl (nx rfl (nx rfl (nx rfl (nx rfl (nx rfl (nx rfl (nx rfl (nx rfl (nx rfl (nx rfl (nx rfl (nx rfl (nx rfl (nx rfl (nx rfl (nx rfl (nx rfl (nx rfl (nx rfl c30_8)))))))))))))))))))))))) (nx rfl (nx rfl (nx rfl (nx rfl hit))))), (qgk rfl rfl rfl (nx rfl (nx rfl (nx rfl (nx rfl (nx rfl (nx rfl (nx rfl (nx rfl (nx rfl (nx rfl (nx rfl hit))))))))))) (io32 (tm rfl (nx rfl (nx rfl (nx rfl (nx rfl (nx rfl hit)))))) (tm rfl (nx rfl (nx rfl (nx rfl (nx rfl hit))))) (by omega)) (nx rfl (nx rfl (nx rfl hit)))), (qgk rfl rfl rfl (nx rfl (nx rfl (nx rfl (nx rfl (nx rfl (nx rfl (nx rfl (nx rfl (nx rfl (nx rfl (nx rfl hit))))))))))) (do_load T2 rfl (tm rfl (nx rfl (nx rfl (nx rfl hit)))) hc2) (nx rfl (nx rfl hit))), (qgk rfl rfl rfl (nx rfl (nx rfl (nx rfl (nx rfl (nx rfl (nx rfl (nx rfl (nx rfl (nx rfl (nx rfl (nx rfl hit))))))))))) (do_neqF (tm rfl (nx rfl (nx rfl (nx rfl (nx rfl (nx rfl (nx rfl hit))))))) (tm rfl (nx rfl (nx rfl hit))) (fun hne => hne ez)) (nx rfl hit)), (qa rfl (fun _ => (do_pickF (tm rfl (nx rfl (nx rfl (nx rfl (nx rfl (nx rfl (nx rfl (nx rfl (nx rfl (nx rfl (nx rfl (nx rfl hit)))))))))))) (tm rfl (nx rfl hit)))) hit), trivial⟩ rfl ?_
        intro τ34 e34
        have c34_0 := (congrFun e34 0).trans (nx rfl (nx rfl (nx rfl (nx rfl (nx rfl (nx rfl (nx rfl (nx rfl (nx rfl (nx rfl (nx rfl (nx rfl (nx rfl (nx rfl (nx rfl (nx rfl (nx rfl (nx rfl (nx rfl (nx rfl (nx rfl (nx rfl c30_0))))))))))))))))))))))
        have c34_1 := (congrFun e34 1).trans (nx rfl (nx rfl (nx rfl (nx rfl (nx rfl (nx rfl (nx rfl (nx rfl (nx rfl (nx rfl (nx rfl (nx rfl (nx rfl (nx rfl (nx rfl (nx rfl (nx rfl (nx rfl (nx rfl (nx rfl (nx rfl (nx rfl c30_1))))))))))))))))))))))
        have c34_2 := (congrFun e34 2).trans (nx rfl (nx rfl (nx rfl (nx rfl (nx rfl (nx rfl (nx rfl (nx rfl (nx rfl (nx rfl (nx rfl (nx rfl (nx rfl (nx rfl (nx rfl (nx rfl (nx rfl (nx rfl (nx rfl (nx rfl (nx rfl (nx rfl c30_2))))))))))))))))))))))
        have c34_7 := (congrFun e34 7).trans (nx rfl (nx rfl (nx rfl (nx rfl (nx rfl (nx rfl (nx rfl (nx rfl (nx rfl (nx rfl (nx rfl (nx rfl (nx rfl (nx rfl (nx rfl (nx rfl (nx rfl (nx rfl (nx rfl (nx rfl (nx rfl (nx rfl c30_7))))))))))))))))))))))
        have c34_8 := (congrFun e34 8).trans (nx rfl (nx rfl (nx rfl (nx rfl (nx rfl (nx rfl (nx rfl (nx rfl (nx rfl (nx rfl (nx rfl (nx rfl (nx rfl (nx rfl (nx rfl (nx rfl (nx rfl (nx rfl (nx rfl (nx rfl (nx rfl (nx rfl c30_8))))))))))))))))))))))
        have c34_67 := (congrFun e34 67).trans hit
        clear e34
        refine hK33 _ _ ?_
        clear hK33 K33
        refine cF rfl c34_67 rfl ?_
        refine wp_skip ?_
        refine hK32 _ _ ?_
        clear hK32 K32
        refine wp_seq_k (fun K35 hK35 => ?_)
        refine wp_seq_k (fun K36 hK36 => ?_)
        refine draw mixed [] [(0, 0), (0, 0), (0, 0), (0, 0), (0, 0), (0, 0), (0, 0), (0, 0), (0, 0), (0, 0), (0, 0), (0, 0)] [] (World.drew _) (upd (upd (upd (upd (upd (upd (upd (upd (upd (upd (upd (upd _ 68 _) 69 _) 70 _) 71 _) 72 _) 73 _) 74 _) 75 _) 76 _) 77 _) 78 _) 79 _) (by kernel_rfl) (fun s hs => ovr_off [(68, _), (69, _), (70, _), (71, _), (72, _), (73, _), (74, _), (75, _), (76, _), (77, _), (78, _), (79, _)] _ s hs) ⟨(qa rfl (fun _ => (do_move (tm rfl (nx rfl (nx rfl (nx rfl (nx rfl (nx rfl (nx rfl (nx rfl (nx rfl (nx rfl (nx rfl (nx rfl (nx rfl c34_7))))))))))))))) (nx rfl (nx rfl (nx rfl (nx rfl (nx rfl (nx rfl (nx rfl (nx rfl (nx rfl (nx rfl (nx rfl hit)))))))))))), (qa rfl (fun _ => (do_move (tm rfl (nx rfl (nx rfl (nx rfl (nx rfl (nx rfl (nx rfl (nx rfl (nx rfl (nx rfl (nx rfl (nx rfl (nx rfl c34_8))))))))))))))) (nx rfl (nx rfl (nx rfl (nx rfl (nx rfl (nx rfl (nx rfl (nx rfl (nx rfl (nx rfl hit))))))))))), (qa rfl (fun _ => (ix34 (tm rfl (nx rfl (nx rfl (nx rfl (nx rfl (nx rfl (nx rfl (nx rfl (nx rfl (nx rfl (nx rfl (nx rfl hit)))))))))))) (tm rfl (nx rfl (nx rfl (nx rfl (nx rfl (nx rfl (nx rfl (nx rfl (nx rfl (nx rfl (nx rfl hit))))))))))) (by omega))) (nx rfl (nx rfl (nx rfl (nx rfl (nx rfl (nx rfl (nx rfl (nx rfl (nx rfl hit)))))))))), (qa rfl (fun _ => (fa38_1 (tm rfl (nx rfl (nx rfl (nx rfl (nx rfl (nx rfl (nx rfl (nx rfl (nx rfl (nx rfl hit)))))))))))) (nx rfl (nx rfl (nx rfl (nx rfl (nx rfl (nx rfl (nx rfl (nx rfl hit))))))))), (qk rfl (do_load T30 rfl (tm rfl (nx rfl (nx rfl (nx rfl (nx rfl (nx rfl (nx rfl (nx rfl (nx rfl hit))))))))) G1) (nx rfl (nx rfl (nx rfl (nx rfl (nx rfl (nx rfl (nx rfl hit)))))))), (qa rfl (fun _ => (do_nilS Try.underlying30 (tm rfl (nx rfl (nx rfl (nx rfl (nx rfl (nx rfl (nx rfl (nx rfl hit)))))))) ck)) (nx rfl (nx rfl (nx rfl (nx rfl (nx rfl (nx rfl hit))))))), (qa rfl (fun _ => (do_move (tm rfl (nx rfl (nx rfl (nx rfl (nx rfl (nx rfl (nx rfl (nx rfl (nx rfl (nx rfl (nx rfl (nx rfl (nx rfl c34_1))))))))))))))) (nx rfl (nx rfl (nx rfl (nx rfl (nx rfl hit)))))), (qa rfl (fun _ => (do_move (tm rfl (nx rfl (nx rfl (nx rfl (nx rfl (nx rfl (nx rfl (nx rfl (nx rfl (nx rfl (nx rfl (nx rfl (nx rfl c34_8))))))))))))))) (nx rfl (nx rfl (nx rfl (nx rfl hit))))), (qa rfl (fun _ => (io31 (tm rfl (nx rfl (nx rfl (nx rfl (nx rfl (nx rfl hit)))))) (tm rfl (nx rfl (nx rfl (nx rfl (nx rfl hit))))) (by omega))) (nx rfl (nx rfl (nx rfl hit)))), (qk rfl (do_load T30 rfl (tm rfl (nx rfl (nx rfl (nx rfl hit)))) hc1) (nx rfl (nx rfl hit))), (qa rfl (fun _ => (do_nilS Try.underlying30 (tm rfl (nx rfl (nx rfl hit))) ck)) (nx rfl hit)), (qa rfl (fun _ => (do_neqB Try.underlying4 (tm rfl (nx rfl (nx rfl (nx rfl (nx rfl (nx rfl (nx rfl hit))))))) (tm rfl (nx rfl hit)))) hit), trivial⟩ rfl ?_
        intro τ37 e37
        have c37_0 := (congrFun e37 0).trans (nx rfl (nx rfl (nx rfl (nx rfl (nx rfl (nx rfl (nx rfl (nx rfl (nx rfl (nx rfl (nx rfl (nx rfl c34_0))))))))))))
        have c37_1 := (congrFun e37 1).trans (nx rfl (nx rfl (nx rfl (nx rfl (nx rfl (nx rfl (nx rfl (nx rfl (nx rfl (nx rfl (nx rfl (nx rfl c34_1))))))))))))
        have c37_2 := (congrFun e37 2).trans (nx rfl (nx rfl (nx rfl (nx rfl (nx rfl (nx rfl (nx rfl (nx rfl (nx rfl (nx rfl (nx rfl (nx rfl c34_2))))))))))))
        have c37_7 := (congrFun e37 7).trans (nx rfl (nx rfl (nx rfl (nx rfl (nx rfl (nx rfl (nx rfl (nx rfl (nx rfl (nx rfl (nx rfl (nx rfl c34_7))))))))))))
        have c37_8 := (congrFun e37 8).trans (nx rfl (nx rfl (nx rfl (nx rfl (nx rfl (nx rfl (nx rfl (nx rfl (nx rfl (nx rfl (nx rfl (nx rfl c34_8))))))))))))
        have c37_79 := (congrFun e37 79).trans hit
        clear e37
        refine hK36 _ _ ?_
        clear hK36 K36
        refine cF rfl c37_79 (by rw [hcn]; simp) ?_
        refine wp_skip ?_
        refine hK35 _ _ ?_
        clear hK35 K35
        refine wp_seq_k (fun K38 hK38 => ?_)
        refine wp_seq_k (fun K39 hK39 => ?_)
        refine draw mixed [] [(0, 0), (0, 0), (0, 0), (0, 0), (0, 0), (0, 0), (0, 0), (0, 0), (0, 0), (0, 0), (0, 0), (0, 0)] [] (World.drew _) (upd (upd (upd (upd (upd (upd (upd (upd (upd (upd (upd (upd _ 80 _) 81 _) 82 _) 83 _) 84 _) 85 _) 86 _) 87 _) 88 _) 89 _) 90 _) 91 _) (by kernel_rfl) (fun s hs => ovr_off [(80, _), (81, _), (82, _), (83, _), (84, _), (85, _), (86, _), (87, _), (88, _), (89, _), (90, _), (91, _)] _ s hs) ⟨(qa rfl (fun _ => (do_move (tm rfl (nx rfl (nx rfl (nx rfl (nx rfl (nx rfl (nx rfl (nx rfl (nx rfl (nx rfl (nx rfl (nx rfl (nx rfl c37_7))))))))))))))) (nx rfl (nx rfl (nx rfl (nx rfl (nx rfl (nx rfl (nx rfl (nx rfl (nx rfl (nx rfl (nx rfl hit)))))))))))), (qa rfl (fun _ => (do_move (tm rfl (nx rfl (nx rfl (nx rfl (nx rfl (nx rfl (nx rfl (nx rfl (nx rfl (nx rfl (nx rfl (nx rfl (nx rfl c37_8))))))))))))))) (nx rfl (nx rfl (nx rfl (nx rfl (nx rfl (nx rfl (nx rfl (nx rfl (nx rfl (nx rfl hit))))))))))), (qa rfl (fun _ => (ix34 (tm rfl (nx rfl (nx rfl (nx rfl (nx rfl (nx rfl (nx rfl (nx rfl (nx rfl (nx rfl (nx rfl (nx rfl hit)))))))))))) (tm rfl (nx rfl (nx rfl (nx rfl (nx rfl (nx rfl (nx rfl (nx rfl (nx rfl (nx rfl (nx rfl hit))))))))))) (by omega))) (nx rfl (nx rfl (nx rfl (nx rfl (nx rfl (nx rfl (nx rfl (nx rfl (nx rfl hit)))))))))), (qa rfl (fun _ => (fa38_1 (tm rfl (nx rfl (nx rfl (nx rfl (nx rfl (nx rfl (nx rfl (nx rfl (nx rfl (nx rfl hit)))))))))))) (nx rfl (nx rfl (nx rfl (nx rfl (nx rfl (nx rfl (nx rfl (nx rfl hit))))))))), (qk rfl (do_load T30 rfl (tm rfl (nx rfl (nx rfl (nx rfl (nx rfl (nx rfl (nx rfl (nx rfl (nx rfl hit))))))))) G1) (nx rfl (nx rfl (nx rfl (nx rfl (nx rfl (nx rfl (nx rfl hit)))))))), (qa rfl (fun _ => (do_len Try.underlying30 (tm rfl (nx rfl (nx rfl (nx rfl (nx rfl (nx rfl (nx rfl (nx rfl hit)))))))))) (nx rfl (nx rfl (nx rfl (nx rfl (nx rfl (nx rfl hit))))))), (qa rfl (fun _ => (do_move (tm rfl (nx rfl (nx rfl (nx rfl (nx rfl (nx rfl (nx rfl (nx rfl (nx rfl (nx rfl (nx rfl (nx rfl (nx rfl c37_1))))))))))))))) (nx rfl (nx rfl (nx rfl (nx rfl (nx rfl hit)))))), (qa rfl (fun _ => (do_move (tm rfl (nx rfl (nx rfl (nx rfl (nx rfl (nx rfl (nx rfl (nx rfl (nx rfl (nx rfl (nx rfl (nx rfl (nx rfl c37_8))))))))))))))) (nx rfl (nx rfl (nx rfl (nx rfl hit))))), (qa rfl (fun _ => (io31 (tm rfl (nx rfl (nx rfl (nx rfl (nx rfl (nx rfl hit)))))) (tm rfl (nx rfl (nx rfl (nx rfl (nx rfl hit))))) (by omega))) (nx rfl (nx rfl (nx rfl hit)))), (qk rfl (do_load T30 rfl (tm rfl (nx rfl (nx rfl (nx rfl hit)))) hc1) (nx rfl (nx rfl hit))), (qa rfl (fun _ => (do_len Try.underlying30 (tm rfl (nx rfl (nx rfl hit))))) (nx rfl hit)), (qa rfl (fun _ => (do_neq (tm rfl (nx rfl (nx rfl (nx rfl (nx rfl (nx rfl (nx rfl hit))))))) (tm rfl (nx rfl hit)))) hit), trivial⟩ rfl ?_
        intro τ40 e40
        have c40_0 := (congrFun e40 0).trans (nx rfl (nx rfl (nx rfl (nx rfl (nx rfl (nx rfl (nx rfl (nx rfl (nx rfl (nx rfl (nx rfl (nx rfl c37_0))))))))))))
        have c40_1 := (congrFun e40 1).trans (nx rfl (nx rfl (nx rfl (nx rfl (nx rfl (nx rfl (nx rfl (nx rfl (nx rfl (nx rfl (nx rfl (nx rfl c37_1))))))))))))
        have c40_2 := (congrFun e40 2).trans (nx rfl (nx rfl (nx rfl (nx rfl (nx rfl (nx rfl (nx rfl (nx rfl (nx rfl (nx rfl (nx rfl (nx rfl c37_2))))))))))))
        have c40_7 := (congrFun e40 7).trans (nx rfl (nx rfl (nx rfl (nx rfl (nx rfl (nx rfl (nx rfl (nx rfl (nx rfl (nx rfl (nx rfl (nx rfl c37_7))))))))))))
        have c40_8 := (congrFun e40 8).trans (nx rfl (nx rfl (nx rfl (nx rfl (nx rfl (nx rfl (nx rfl (nx rfl (nx rfl (nx rfl (nx rfl (nx rfl c37_8))))))))))))
        have c40_91 := (congrFun e40 91).trans hit
        clear e40
        refine hK39 _ _ ?_
        clear hK39 K39
        refine cF rfl c40_91 (by simp) ?_
        refine wp_skip ?_
        refine hK38 _ _ ?_
        clear hK38 K38
        refine wp_seq_k (fun K41 hK41 => ?_)
        refine reg ?_
        refine sq rfl (do_assign (v := .int .i64 ((0 : Nat) : Int)) rfl) ?_
        refine wnil ?_
        refine hK41 _ _ ?_
        clear hK41 K41
        refine forLoop (N := 117) (fun k τ wj => ∃ j, k = rows[i].length - j ∧ j ≤ rows[i].length ∧ τ 0 = .slice (some ⟨b0, o0, none⟩) ps.length c0 ∧ τ 1 = .slice (some ⟨b1, o1, none⟩) rows.length c1 ∧ τ 2 = .slice (some ⟨b2, o2, none⟩) zs.length c2 ∧
            τ 7 = .slice (some ⟨w1.heap.size, 0, none⟩) ps.length ps.length ∧ τ 8 = .int .i64 (i : Int) ∧ τ 9 = .int .i64 (j : Int) ∧ wj.heap = w2.heap ∧ Below w.heap.size w wj)
          (fun τ wj => τ 0 = .slice (some ⟨b0, o0, none⟩) ps.length c0 ∧ τ 1 = .slice (some ⟨b1, o1, none⟩) rows.length c1 ∧ τ 2 = .slice (some ⟨b2, o2, none⟩) zs.length c2 ∧
            τ 7 = .slice (some ⟨w1.heap.size, 0, none⟩) ps.length ps.length ∧ τ 8 = .int .i64 (i : Int) ∧ wj.heap = w2.heap ∧ Below w.heap.size w wj) rows[i].length ?_ ?_ ?_
        · exact ⟨0, rfl, Nat.zero_le _, (nx rfl c40_0), (nx rfl c40_1), (nx rfl c40_2), (nx rfl c40_7), (nx rfl c40_8), hit, hwi, hbi.drew.drew.drew⟩
        · clear t0 t1 t2 t7 t8
          rintro Q'' k ξ wj hnn' hx' hr' ⟨j, rfl, hj, x0, x1, x2, x7, x8, x9, hwj, hbj⟩
          have hcell : ∀ a, wj.cell? a = wi.cell? a := fun a => by simp [World.cell?, hwj, hwi]
          have hc1' := hc1
          have G1' := G1
          rw [← hcell] at hc1' G1'
          refine wp_seq_k (fun K42 hK42 => ?_)
          refine wp_seq_k (fun K43 hK43 => ?_)
          refine reg ?_
          refine sq rfl (do_move (tm rfl x9)) ?_
          refine sq rfl (do_move (tm rfl (nx rfl x1))) ?_
          refine sq rfl (do_move (tm rfl (nx rfl (nx rfl x8)))) ?_
          refine sq rfl (io31 (tm rfl (nx rfl hit)) (tm rfl hit) (by omega)) ?_
          refine sq rfl (do_load T30 rfl (tm rfl hit) hc1') ?_
          refine sq rfl (do_len Try.underlying30 (tm rfl hit)) ?_
          refine sq rfl (do_lss (tm rfl (nx rfl (nx rfl (nx rfl (nx rfl (nx rfl hit)))))) (tm rfl hit)) ?_
          refine cutL ?_
          intro τ44 e44
          have c44_0 := (congrFun e44 0).trans (nx rfl (nx rfl (nx rfl (nx rfl (nx rfl (nx rfl (nx rfl x0)))))))
          have c44_1 := (congrFun e44 1).trans (nx rfl (nx rfl (nx rfl (nx rfl (nx rfl (nx rfl (nx rfl x1)))))))
          have c44_2 := (congrFun e44 2).trans (nx rfl (nx rfl (nx rfl (nx rfl (nx rfl (nx rfl (nx rfl x2)))))))
          have c44_7 := (congrFun e44 7).trans (nx rfl (nx rfl (nx rfl (nx rfl (nx rfl (nx rfl (nx rfl x7)))))))
          have c44_8 := (congrFun e44 8).trans (nx rfl (nx rfl (nx rfl (nx rfl (nx rfl (nx rfl (nx rfl x8)))))))
          have c44_9 := (congrFun e44 9).trans (nx rfl (nx rfl (nx rfl (nx rfl (nx rfl (nx rfl (nx rfl x9)))))))
          have c44_98 := (congrFun e44 98).trans hit
          clear e44
          refine wnil ?_
          refine hK43 _ _ ?_
          clear hK43 K43
          by_cases h' : j < rows[i].length
          · refine cT rfl c44_98 (by simpa using h') ?_
            refine wp_skip ?_
            refine hK42 _ _ ?_
            clear hK42 K42
            obtain ⟨rb, ro, rfl, hrj⟩ := hrc j h'
            obtain ⟨gb, rfl, hgj⟩ := hcells j h'
            have R1 : wj.cell? ⟨rb, ro + j, none⟩ = some (.string rows[i][j]) := by rw [hbj.cell (World.block_lt_of_cell? w _ hrj)]; exact hrj
            have R2 : wj.cell? ⟨gb, j, none⟩ = some (.string rows[i][j]) := by simpa [World.cell?, hwj] using hgj
            refine wp_seq_k (fun K45 hK45 => ?_)
            refine wp_block ?_
            refine wp_seq_k (fun K46 hK46 => ?_)
            refine draw mixed [] [(0, 0), (0, 0), (0, 0), (0, 0), (0, 0), (0, 0), (0, 0), (0, 0), (0, 0), (0, 0), (0, 0), (0, 0), (0, 0), (0, 0), (0, 0), (0, 0)] [] (World.drew _) (upd (upd (upd (upd (upd (upd (upd (upd (upd (upd (upd (upd (upd (upd (upd (upd _ 101 _) 102 _) 103 _) 104 _) 105 _) 106 _) 107 _) 108 _) 109 _) 110 _) 111 _) 112 _) 113 _) 114 _) 115 _) 116 _) (by kernel_rfl) (fun s hs => ovr_off [(101, _), (102, _), (103, _), (104, _), (105, _), (106, _), (107, _), (108, _), (109, _), (110, _), (111, _), (112, _), (113, _), (114, _), (115, _), (116, _)] _ s hs) ⟨(qa rfl (fun _ => (do_move (tm rfl (nx rfl (nx rfl (nx rfl (nx rfl (nx rfl (nx rfl (nx rfl (nx rfl (nx rfl (nx rfl (nx rfl (nx rfl (nx rfl (nx rfl (nx rfl (nx rfl c44_7))))))))))))))))))) (nx rfl (nx rfl (nx rfl (nx rfl (nx rfl (nx rfl (nx rfl (nx rfl (nx rfl (nx rfl (nx rfl (nx rfl (nx rfl (nx rfl (nx rfl hit)))))))))))))))), (qa rfl (fun _ => (do_move (tm rfl (nx rfl (nx rfl (nx rfl (nx rfl (nx rfl (nx rfl (nx rfl (nx rfl (nx rfl (nx rfl (nx rfl (nx rfl (nx rfl (nx rfl (nx rfl (nx rfl c44_8))))))))))))))))))) (nx rfl (nx rfl (nx rfl (nx rfl (nx rfl (nx rfl (nx rfl (nx rfl (nx rfl (nx rfl (nx rfl (nx rfl (nx rfl (nx rfl hit))))))))))))))), (qa rfl (fun _ => (ix34 (tm rfl (nx rfl (nx rfl (nx rfl (nx rfl (nx rfl (nx rfl (nx rfl (nx rfl (nx rfl (nx rfl (nx rfl (nx rfl (nx rfl (nx rfl (nx rfl hit)))))))))))))))) (tm rfl (nx rfl (nx rfl (nx rfl (nx rfl (nx rfl (nx rfl (nx rfl (nx rfl (nx rfl (nx rfl (nx rfl (nx rfl (nx rfl (nx rfl hit))))))))))))))) (by omega))) (nx rfl (nx rfl (nx rfl (nx rfl (nx rfl (nx rfl (nx rfl (nx rfl (nx rfl (nx rfl (nx rfl (nx rfl (nx rfl hit)))))))))))))), (qa rfl (fun _ => (fa38_1 (tm rfl (nx rfl (nx rfl (nx rfl (nx rfl (nx rfl (nx rfl (nx rfl (nx rfl (nx rfl (nx rfl (nx rfl (nx rfl (nx rfl hit)))))))))))))))) (nx rfl (nx rfl (nx rfl (nx rfl (nx rfl (nx rfl (nx rfl (nx rfl (nx rfl (nx rfl (nx rfl (nx rfl hit))))))))))))), (qk rfl (do_load T30 rfl (tm rfl (nx rfl (nx rfl (nx rfl (nx rfl (nx rfl (nx rfl (nx rfl (nx rfl (nx rfl (nx rfl (nx rfl (nx rfl hit))))))))))))) G1') (nx rfl (nx rfl (nx rfl (nx rfl (nx rfl (nx rfl (nx rfl (nx rfl (nx rfl (nx rfl (nx rfl hit)))))))))))), (qa rfl (fun _ => (do_move (tm rfl (nx rfl (nx rfl (nx rfl (nx rfl (nx rfl (nx rfl (nx rfl (nx rfl (nx rfl (nx rfl (nx rfl (nx rfl (nx rfl (nx rfl (nx rfl (nx rfl c44_9))))))))))))))))))) (nx rfl (nx rfl (nx rfl (nx rfl (nx rfl (nx rfl (nx rfl (nx rfl (nx rfl (nx rfl hit))))))))))), (qa rfl (fun _ => (ix30 (tm rfl (nx rfl (nx rfl (nx rfl (nx rfl (nx rfl (nx rfl (nx rfl (nx rfl (nx rfl (nx rfl (nx rfl hit)))))))))))) (tm rfl (nx rfl (nx rfl (nx rfl (nx rfl (nx rfl (nx rfl (nx rfl (nx rfl (nx rfl (nx rfl hit))))))))))) (by omega))) (nx rfl (nx rfl (nx rfl (nx rfl (nx rfl (nx rfl (nx rfl (nx rfl (nx rfl hit)))))))))), (qk rfl (do_load T9 rfl (tm rfl (nx rfl (nx rfl (nx rfl (nx rfl (nx rfl (nx rfl (nx rfl (nx rfl (nx rfl hit)))))))))) R2) (nx rfl (nx rfl (nx rfl (nx rfl (nx rfl (nx rfl (nx rfl (nx rfl hit))))))))), (qa rfl (fun _ => (do_move (tm rfl (nx rfl (nx rfl (nx rfl (nx rfl (nx rfl (nx rfl (nx rfl (nx rfl (nx rfl (nx rfl (nx rfl (nx rfl (nx rfl (nx rfl (nx rfl (nx rfl c44_1))))))))))))))))))) (nx rfl (nx rfl (nx rfl (nx rfl (nx rfl (nx rfl (nx rfl hit)))))))), (qa rfl (fun _ => (do_move (tm rfl (nx rfl (nx rfl (nx rfl (nx rfl (nx rfl (nx rfl (nx rfl (nx rfl (nx rfl (nx rfl (nx rfl (nx rfl (nx rfl (nx rfl (nx rfl (nx rfl c44_8))))))))))))))))))) (nx rfl (nx rfl (nx rfl (nx rfl (nx rfl (nx rfl hit))))))), (qa rfl (fun _ => (io31 (tm rfl (nx rfl (nx rfl (nx rfl (nx rfl (nx rfl (nx rfl (nx rfl hit)))))))) (tm rfl (nx rfl (nx rfl (nx rfl (nx rfl (nx rfl (nx rfl hit))))))) (by omega))) (nx rfl (nx rfl (nx rfl (nx rfl (nx rfl hit)))))), (qk rfl (do_load T30 rfl (tm rfl (nx rfl (nx rfl (nx rfl (nx rfl (nx rfl hit)))))) hc1') (nx rfl (nx rfl (nx rfl (nx rfl hit))))), (qa rfl (fun _ => (do_move (tm rfl (nx rfl (nx rfl (nx rfl (nx rfl (nx rfl (nx rfl (nx rfl (nx rfl (nx rfl (nx rfl (nx rfl (nx rfl (nx rfl (nx rfl (nx rfl (nx rfl c44_9))))))))))))))))))) (nx rfl (nx rfl (nx rfl hit)))), (qa rfl (fun _ => (io30 (tm rfl (nx rfl (nx rfl (nx rfl (nx rfl hit))))) (tm rfl (nx rfl (nx rfl (nx rfl hit)))) (by omega))) (nx rfl (nx rfl hit))), (qk rfl (do_load T9 rfl (tm rfl (nx rfl (nx rfl hit))) R1) (nx rfl hit)), (qa rfl (fun _ => (do_neqSF (tm rfl (nx rfl (nx rfl (nx rfl (nx rfl (nx rfl (nx rfl (nx rfl (nx rfl hit))))))))) (tm rfl (nx rfl hit)) rfl)) hit), trivial⟩ rfl ?_
            intro τ47 e47
            have c47_0 := (congrFun e47 0).trans (nx rfl (nx rfl (nx rfl (nx rfl (nx rfl (nx rfl (nx rfl (nx rfl (nx rfl (nx rfl (nx rfl (nx rfl (nx rfl (nx rfl (nx rfl (nx rfl c44_0))))))))))))))))
            have c47_1 := (congrFun e47 1).trans (nx rfl (nx rfl (nx rfl (nx rfl (nx rfl (nx rfl (nx rfl (nx rfl (nx rfl (nx rfl (nx rfl (nx rfl (nx rfl (nx rfl (nx rfl (nx rfl c44_1))))))))))))))))
            have c47_2 := (congrFun e47 2).trans (nx rfl (nx rfl (nx rfl (nx rfl (nx rfl (nx rfl (nx rfl (nx rfl (nx rfl (nx rfl (nx rfl (nx rfl (nx rfl (nx rfl (nx rfl (nx rfl c44_2))))))))))))))))
            have c47_7 := (congrFun e47 7).trans (nx rfl (nx rfl (nx rfl (nx rfl (nx rfl (nx rfl (nx rfl (nx rfl (nx rfl (nx rfl (nx rfl (nx rfl (nx rfl (nx rfl (nx rfl (nx rfl c44_7))))))))))))))))
            have c47_8 := (congrFun e47 8).trans (nx rfl (nx rfl (nx rfl (nx rfl (nx rfl (nx rfl (nx rfl (nx rfl (nx rfl (nx rfl (nx rfl (nx rfl (nx rfl (nx rfl (nx rfl (nx rfl c44_8))))))))))))))))
            have c47_9 := (congrFun e47 9).trans (nx rfl (nx rfl (nx rfl (nx rfl (nx rfl (nx rfl (nx rfl (nx rfl (nx rfl (nx rfl (nx rfl (nx rfl (nx rfl (nx rfl (nx rfl (nx rfl c44_9))))))))))))))))
            have c47_116 := (congrFun e47 116).trans hit
            clear e47
            refine hK46 _ _ ?_
            clear hK46 K46
            refine cF rfl c47_116 rfl ?_
            refine wp_skip ?_
            refine inBN ?_
            refine hK45 _ _ ?_
            clear hK45 K45
            refine reg ?_
            refine sq rfl (do_move (tm rfl c47_9)) ?_
            refine sq rfl (do_inc (tm rfl hit) ck (by omega)) ?_
            refine sq rfl (do_assign (tm rfl hit)) ?_
            refine wnil ?_
            exact hnn' (rows[i].length - (j + 1)) _ _ (by omega) ⟨j + 1, rfl, by omega, (nx rfl (nx rfl (nx rfl c47_0))), (nx rfl (nx rfl (nx rfl c47_1))), (nx rfl (nx rfl (nx rfl c47_2))), (nx rfl (nx rfl (nx rfl c47_7))), (nx rfl (nx rfl (nx rfl c47_8))), hit, hwj, hbj.drew⟩
          · refine cF rfl c44_98 (by simpa using h') ?_
            refine wp_exit ?_
            refine thenE ?_
            exact hx' _ _ ⟨c44_0, c44_1, c44_2, c44_7, c44_8, hwj, hbj⟩
        clear t0 t1 t2 t7 t8
        rintro τ wj ⟨t0, t1, t2, t7, t8, hwj, hbj⟩
        refine inBN ?_
        refine hK31 _ _ ?_
        clear hK31 K31
        refine reg ?_
        refine sq rfl (do_move (tm rfl t8)) ?_
        refine sq rfl (do_inc (tm rfl hit) ck (by omega)) ?_
        refine sq rfl (do_assign (tm rfl hit)) ?_
        refine wnil ?_
        exact hnn (ps.length - (i + 1)) _ _ (by omega) ⟨i + 1, rfl, by omega, (nx rfl (nx rfl (nx rfl t0))), (nx rfl (nx rfl (nx rfl t1))), (nx rfl (nx rfl (nx rfl t2))), (nx rfl (nx rfl (nx rfl t7))), hit, hwj, hbj⟩
      · refine cF rfl c30_43 (by simpa using h) ?_
        refine wp_exit ?_
        refine thenE ?_
        exact hx _ _ hbi
    rintro τ wi hbi
    refine hK26 _ _ ?_
    clear hK26 K26
    refine wp_seq_k (fun K48 hK48 => ?_)
    refine reg ?_
    refine sq rfl (do_assign ck) ?_
    refine wnil ?_
    refine hK48 _ _ ?_
    clear hK48 K48
    refine wp_ret ?_
    exact hF _ _ hit hbi
end Go.Proofs.Qxb6000003a
