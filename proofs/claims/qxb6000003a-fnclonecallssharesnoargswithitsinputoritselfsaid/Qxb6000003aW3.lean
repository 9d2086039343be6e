/-
  slices.Clone at []string, cloneCalls, zzBuildCalls.
-/
import Derived.Test.Qxb6000003aW2
namespace Go.Proofs.Qxb6000003a
open Go.Fra Go.RowKit
set_option maxRecDepth 100000
set_option linter.unusedVariables false

def strs (ss : List ByteArray) : List Value := ss.map Value.string
theorem strs_length (ss : List ByteArray) : (strs ss).length = ss.length := by simp [strs]

/-- v is the copy of av, whose elements are ss: nil of nil; else a row of its own, made since w. -/
def Copied (w w' : World) (av v : Value) (ss : List ByteArray) : Prop :=
  (∃ c, av = .slice none 0 c ∧ v = .slice none 0 0 ∧ ss = []) ∨
  ∃ p n c g cap, av = .slice (some p) n c ∧ v = .slice (some ⟨g, 0, none⟩) ss.length cap ∧ w.heap.size ≤ g ∧ w'.ownsRow 0 9 1 v ss.length (strs ss)

theorem clone32 (w : World) (av : Value) (ss : List ByteArray) (h : StrS w av ss) (hl : ss.length ≤ 1048576) :
    ∃ v w', (Calls Try.prog 32 #[av] w fun e w'' => e = .returned v ∧ w'' = w') ∧ Below w.heap.size w w' ∧ Copied w w' av v ss := by
  obtain ⟨a, c, rfl, hc⟩ := h
  cases a with
  | none =>
    have h0 : ss.length = 0 := by
      rcases Nat.eq_zero_or_pos ss.length with h | h
      · exact h
      · obtain ⟨b, o, h1, _⟩ := hc 0 h; cases h1
    refine ⟨.slice none 0 0, w, ?_, Below.refl _ _, .inl ⟨c, by rw [h0], rfl, List.eq_nil_of_length_eq_zero h0⟩⟩
    refine enter (args := [.slice none ss.length c]) Try.func32 rfl Try.ntmps32 rfl ?_
    have s0 : frame0 [Value.slice none ss.length c] 0 = .slice none ss.length c := rfl
    generalize frame0 [Value.slice none ss.length c] = σ at *
    refine wp_seq_k (fun K1 hK1 => ?_)
    refine reg ?_
    refine sq rfl (do_assign ck) ?_
    refine wnil ?_
    refine hK1 _ _ ?_
    clear hK1 K1
    refine wp_seq_k (fun K2 hK2 => ?_)
    refine wp_seq_k (fun K3 hK3 => ?_)
    refine reg ?_
    refine sq rfl (do_move (tm rfl (nx rfl s0))) ?_
    refine sq rfl (do_nilS Try.underlying30 (tm rfl hit) ck) ?_
    refine wnil ?_
    refine hK3 _ _ ?_
    clear hK3 K3
    refine cT rfl hit rfl ?_
    refine wp_seq_k (fun K4 hK4 => ?_)
    refine reg ?_
    refine sq rfl (do_assign ck) ?_
    refine cutL ?_
    intro τ5 e5
    have c5_0 := (congrFun e5 0).trans (nx rfl (nx rfl (nx rfl (nx rfl s0))))
    have c5_2 := (congrFun e5 2).trans hit
    clear e5
    refine wnil ?_
    refine hK4 _ _ ?_
    clear hK4 K4
    refine wp_ret ?_
    refine thenR ?_
    exact ret1 rfl rfl c5_2 ⟨rfl, rfl⟩
  | some p =>
    have hb : Blk (w.alloc (.cells #[] 9)) w.heap.size 9 [] := Blk.new w #[] 9
    have hown : (w.alloc (.cells #[] 9)).ownsRow 0 9 1 (.slice (some ⟨w.heap.size, 0, none⟩) 0 0) 0 [] :=
      World.ownsRow_made w #[] 0 (Nat.zero_le _) (by unfold maxLen; omega) rfl
    have hcell : ∀ j u, (strs ss)[j]? = some u → (w.alloc (.cells #[] 9)).cell? (p.add j) = some u := by
      intro j u hu
      have hj : j < ss.length := by
        rcases Nat.lt_or_ge j ss.length with h | h
        · exact h
        · rw [List.getElem?_eq_none (by rw [strs_length]; exact h)] at hu; cases hu
      obtain ⟨b, o, he, hcc⟩ := hc j hj
      cases he
      have hu' : u = .string ss[j] := by
        simp [strs, hj] at hu
        exact hu.symm
      rw [add_plain, World.cell?_alloc_past _ _ _ (World.block_lt_of_cell? w _ hcc), hcc, hu']
    obtain ⟨v, w', hdo, hown', hgr, hnil, hloc⟩ := appendE (P := Try.prog) T30 T9 rfl (by decide) hown (a := p) (m := ss.length) (c := c) (news := strs ss) (by rw [strs_length]; omega) hcell
      (by intro u hu; simp [strs] at hu; obtain ⟨s, _, rfl⟩ := hu; rfl) (by unfold maxLen; omega) (by omega)
    simp only [Nat.zero_add, List.nil_append] at hown'
    have hbel : Below w.heap.size w w' := ((Below.refl _ _).alloc (Nat.le_refl _) _).grown hgr (by rw [size_alloc]; omega) (by intro k hk; cases hk; exact Nat.le_refl _)
    refine ⟨v, w', ?_, hbel, .inr ?_⟩
    · refine enter (args := [.slice (some p) ss.length c]) Try.func32 rfl Try.ntmps32 rfl ?_
      have s0 : frame0 [Value.slice (some p) ss.length c] 0 = .slice (some p) ss.length c := rfl
      generalize frame0 [Value.slice (some p) ss.length c] = σ at *
      refine wp_seq_k (fun K6 hK6 => ?_)
      refine reg ?_
      refine sq rfl (do_assign ck) ?_
      refine wnil ?_
      refine hK6 _ _ ?_
      clear hK6 K6
      refine wp_seq_k (fun K7 hK7 => ?_)
      refine wp_seq_k (fun K8 hK8 => ?_)
      refine reg ?_
      refine sq rfl (do_move (tm rfl (nx rfl s0))) ?_
      refine sq rfl (do_nilS Try.underlying30 (tm rfl hit) ck) ?_
      refine wnil ?_
      refine hK8 _ _ ?_
      clear hK8 K8
      refine cF rfl hit rfl ?_
      refine wp_skip ?_
      refine hK7 _ _ ?_
      clear hK7 K7
      refine wp_seq_k (fun K9 hK9 => ?_)
      refine reg ?_
      refine sq rfl (do_bs30) ?_
      refine sq rfl (do_move (tm rfl (nx rfl (nx rfl (nx rfl (nx rfl s0)))))) ?_
      refine sq rfl (hdo _ _ _ _ _ _ _ _ (tm rfl (nx rfl hit)) (tm rfl hit)) ?_
      refine sq rfl (do_assign (tm rfl hit)) ?_
      refine cutL ?_
      intro τ10 e10
      have c10_0 := (congrFun e10 0).trans (nx rfl (nx rfl (nx rfl (nx rfl (nx rfl (nx rfl (nx rfl s0)))))))
      have c10_2 := (congrFun e10 2).trans hit
      clear e10
      refine wnil ?_
      refine hK9 _ _ ?_
      clear hK9 K9
      refine wp_ret ?_
      exact ret1 rfl rfl c10_2 ⟨rfl, rfl⟩
    · have hnn : v ≠ .slice none 0 0 := by
        intro e
        have := (hnil.1 e).1
        cases this
      rcases hown'.2 with ⟨rfl, _⟩ | ⟨g, cap, cur, hv, hg0, hg, hnc, hcm, hcs, htk⟩
      · exact absurd rfl hnn
      · refine ⟨p, ss.length, c, g, cap, rfl, hv, ?_, hown'⟩
        subst hv
        rcases hloc with h | h
        · simp [Value.ownBlock] at h; omega
        · simp [Value.ownBlock] at h; omega

theorem nm32 : (Try.f32.name == "runtime.NumGoroutine") = false := by kernel_rfl
theorem bd32 : Try.f32.body.isNone = false := by kernel_rfl

theorem StrS.below {w w' : World} {v : Value} {ss : List ByteArray} (h : StrS w v ss) (hb : Below w.heap.size w w') : StrS w' v ss := by
  obtain ⟨a, c, rfl, hc⟩ := h
  refine ⟨a, c, rfl, fun i hi => ?_⟩
  obtain ⟨b, o, ha, hcc⟩ := hc i hi
  exact ⟨b, o, ha, by rw [hb.cell (World.block_lt_of_cell? w _ hcc)]; exact hcc⟩

/-- The three cells of each call. -/
def CallCells (cs : List Value) (ps : List ByteArray) (avs : List Value) (zs : List Int) (n : Nat) : Prop :=
  ∀ j, j < n → ∃ p v z, ps[j]? = some p ∧ avs[j]? = some v ∧ zs[j]? = some z ∧ cs[j * 3]? = some (.string p) ∧ cs[j * 3 + 1]? = some v ∧ cs[j * 3 + 2]? = some (.int .i64 z)

/-- The copies made so far: each is the copy of its slice, no two in one row, none in block B. -/
structure Copies (w w' : World) (B : Nat) (avs avs' : List Value) (rows : List (List ByteArray)) (n : Nat) : Prop where
  one : ∀ j, j < n → ∃ av v ss, avs[j]? = some av ∧ avs'[j]? = some v ∧ rows[j]? = some ss ∧ Copied w w' av v ss
  far : ∀ (j : Nat) (v : Value) (g : Nat), avs'[j]? = some v → v.ownBlock = some g → B < g
  apart : ∀ (j k : Nat) (v u : Value) (g : Nat), avs'[j]? = some v → avs'[k]? = some u → v.ownBlock = some g → u.ownBlock = some g → j = k

theorem Copied.keep {w0 w w' : World} {av v : Value} {ss : List ByteArray} (h : Copied w0 w av v ss) (hb : ∀ g, v.ownBlock = some g → w'.heap[g]? = w.heap[g]?) : Copied w0 w' av v ss := by
  rcases h with h | ⟨p, n, c, g, cap, h1, h2, h3, h4⟩
  · exact .inl h
  · refine .inr ⟨p, n, c, g, cap, h1, h2, h3, ?_⟩
    obtain ⟨hl, h5⟩ := h4
    refine ⟨hl, ?_⟩
    rcases h5 with h5 | ⟨g', cap', cur, hv, hb0, hg, r⟩
    · exact .inl h5
    · exact .inr ⟨g', cap', cur, hv, hb0, by rw [hb g' (by rw [hv]; rfl)]; exact hg, r⟩
theorem Copied.lt {w0 w : World} {av v : Value} {ss : List ByteArray} (h : Copied w0 w av v ss) {g : Nat} (hg : v.ownBlock = some g) : w0.heap.size ≤ g ∧ g < w.heap.size := by
  rcases h with ⟨c, _, rfl, _⟩ | ⟨p, n, c, g', cap, h1, rfl, h3, h4⟩
  · simp [Value.ownBlock] at hg
  · simp only [Value.ownBlock, Option.some.injEq] at hg
    subst hg
    exact ⟨h3, (h4.lt g' rfl).2⟩

theorem cloneCalls29_nil (w : World) (a : Option Addr) (c : Nat) :
    Calls Try.prog 29 #[.slice a 0 c] w fun e w' => e = .returned (.slice none 0 0) ∧ w' = w := by
  refine enter (args := [.slice a 0 c]) Try.func29 rfl Try.ntmps29 rfl ?_
  have s0 : frame0 [Value.slice a 0 c] 0 = .slice a 0 c := rfl
  generalize frame0 [Value.slice a 0 c] = σ at *
  refine wp_seq_k (fun K11 hK11 => ?_)
  refine reg ?_
  refine sq rfl (do_assign ck) ?_
  refine wnil ?_
  refine hK11 _ _ ?_
  clear hK11 K11
  refine wp_seq_k (fun K12 hK12 => ?_)
  refine wp_seq_k (fun K13 hK13 => ?_)
  refine reg ?_
  refine sq rfl (do_move (tm rfl (nx rfl s0))) ?_
  refine sq rfl (do_len Try.underlying34 (tm rfl hit)) ?_
  refine sq rfl (do_eql (tm rfl hit) ck) ?_
  refine cutL ?_
  intro τ14 e14
  have c14_0 := (congrFun e14 0).trans (nx rfl (nx rfl (nx rfl (nx rfl s0))))
  have c14_2 := (congrFun e14 2).trans (nx rfl (nx rfl (nx rfl hit)))
  have c14_8 := (congrFun e14 8).trans hit
  clear e14
  refine wnil ?_
  refine hK13 _ _ ?_
  clear hK13 K13
  refine cT rfl c14_8 rfl ?_
  refine wp_seq_k (fun K15 hK15 => ?_)
  refine reg ?_
  refine sq rfl (do_assign ck) ?_
  refine wnil ?_
  refine hK15 _ _ ?_
  clear hK15 K15
  refine wp_ret ?_
  refine thenR ?_
  exact ret1 rfl rfl hit ⟨rfl, rfl⟩

theorem cloneCalls29 (w : World) (B n c : Nat) (cs : List Value) (ps : List ByteArray) (avs : List Value) (zs : List Int) (rows : List (List ByteArray)) (hn : 0 < n) (hn2 : n ≤ 1048576) (hB : Blk w B 38 cs)
    (hcs : CallCells cs ps avs zs n) (hrl : rows.length = n) (hal : avs.length = n) (hav : ∀ j (h : j < rows.length) (h' : j < avs.length), StrS w avs[j] rows[j]) (hrl2 : ∀ r ∈ rows, r.length ≤ 1048576) :
    Calls Try.prog 29 #[.slice (some ⟨B, 0, none⟩) n c] w fun e w' => ∃ cs' avs', e = .returned (.slice (some ⟨w.heap.size, 0, none⟩) n n) ∧ Blk w' w.heap.size 38 cs' ∧ CallCells cs' ps avs' zs n ∧
      Copies w w' w.heap.size avs avs' rows n ∧ Below w.heap.size w w' ∧ avs'.length = n := by
  refine enter (args := [.slice (some ⟨B, 0, none⟩) n c]) Try.func29 rfl Try.ntmps29 rfl ?_
  generalize hQ : bodyPost Try.prog Try.f29 _ = Q
  have s0 : frame0 [Value.slice (some ⟨B, 0, none⟩) n c] 0 = .slice (some ⟨B, 0, none⟩) n c := rfl
  generalize frame0 [Value.slice (some ⟨B, 0, none⟩) n c] = σ at *
  refine wp_seq_k (fun K16 hK16 => ?_)
  refine reg ?_
  refine sq rfl (do_assign ck) ?_
  refine wnil ?_
  refine hK16 _ _ ?_
  clear hK16 K16
  refine wp_seq_k (fun K17 hK17 => ?_)
  refine wp_seq_k (fun K18 hK18 => ?_)
  refine reg ?_
  refine sq rfl (do_move (tm rfl (nx rfl s0))) ?_
  refine sq rfl (do_len Try.underlying34 (tm rfl hit)) ?_
  refine sq rfl (do_eql (tm rfl hit) ck) ?_
  refine cutL ?_
  intro τ19 e19
  have c19_0 := (congrFun e19 0).trans (nx rfl (nx rfl (nx rfl (nx rfl s0))))
  have c19_2 := (congrFun e19 2).trans (nx rfl (nx rfl (nx rfl hit)))
  have c19_8 := (congrFun e19 8).trans hit
  clear e19
  refine wnil ?_
  refine hK18 _ _ ?_
  clear hK18 K18
  refine cF rfl c19_8 (by simp; omega) ?_
  refine wp_skip ?_
  refine hK17 _ _ ?_
  clear hK17 K17
  refine wp_seq_k (fun K20 hK20 => ?_)
  refine reg ?_
  refine sq rfl (do_move (tm rfl c19_0)) ?_
  refine sq rfl (do_len Try.underlying34 (tm rfl hit)) ?_
  refine sq rfl (do_mk34 (tm rfl hit) (tm rfl hit) (by omega)) ?_
  refine sq rfl (do_assign (tm rfl hit)) ?_
  refine cutL ?_
  intro τ21 e21
  have c21_0 := (congrFun e21 0).trans (nx rfl (nx rfl (nx rfl (nx rfl c19_0))))
  have c21_2 := (congrFun e21 2).trans (nx rfl (nx rfl (nx rfl (nx rfl c19_2))))
  have c21_3 := (congrFun e21 3).trans hit
  clear e21
  refine wnil ?_
  refine hK20 _ _ ?_
  clear hK20 K20
  refine wp_seq_k (fun K22 hK22 => ?_)
  refine wp_seq_k (fun K23 hK23 => ?_)
  refine reg ?_
  refine sq rfl (do_move (tm rfl c21_0)) ?_
  refine sq rfl (do_len Try.underlying34 (tm rfl hit)) ?_
  refine sq rfl (do_move (v := .int .i64 ((0 : Nat) : Int)) rfl) ?_
  refine wnil ?_
  refine hK23 _ _ ?_
  clear hK23 K23
  refine forLoop (N := 32) (fun k τ wi => ∃ i cs' avs', k = n - i ∧ i ≤ n ∧ τ 3 = .slice (some ⟨w.heap.size, 0, none⟩) n n ∧ τ 12 = .slice (some ⟨B, 0, none⟩) n c ∧ τ 13 = .int .i64 (n : Int) ∧ τ 14 = .int .i64 (i : Int) ∧
      Blk wi w.heap.size 38 cs' ∧ cs'.length = n * 3 ∧ CallCells cs' ps avs' zs i ∧ Copies w wi w.heap.size avs avs' rows i ∧ Below w.heap.size w wi ∧ avs'.length = i)
    (fun τ wi => ∃ cs' avs', τ 3 = .slice (some ⟨w.heap.size, 0, none⟩) n n ∧ Blk wi w.heap.size 38 cs' ∧ CallCells cs' ps avs' zs n ∧ Copies w wi w.heap.size avs avs' rows n ∧ Below w.heap.size w wi ∧ avs'.length = n) n ?_ ?_ ?_
  · refine ⟨0, _, [], rfl, Nat.zero_le _, (nx rfl (nx rfl (nx rfl c21_3))), (nx rfl (nx rfl hit)), (nx rfl hit), hit, Blk.new w _ 38, by simp [madeCells], fun j h => by omega, ⟨fun j h => by omega, fun j v g h => by simp at h, fun j k v u g h => by simp at h⟩, (Below.refl _ _).alloc (Nat.le_refl _) _, rfl⟩
  · clear s0
    rintro Q' k τ wi hnn hx hr ⟨i, cs', avs', rfl, hi, t3, t12, t13, t14, hB', hcl, hcc, hcop, hbel, hal'⟩
    refine wp_seq_k (fun K24 hK24 => ?_)
    refine reg ?_
    refine sq rfl (do_lss (tm rfl t14) (tm rfl t13)) ?_
    refine wnil ?_
    refine hK24 _ _ ?_
    clear hK24 K24
    by_cases h : i < n
    · refine wp_seq_k (fun K25 hK25 => ?_)
      refine cT rfl hit (by simpa using h) ?_
      refine wp_skip ?_
      refine hK25 _ _ ?_
      clear hK25 K25
      obtain ⟨p, av, z, hp, hv, hz, hc0, hc1, hc2⟩ := hcs i h
      have hBw : Blk wi B 38 cs := hB.of_eq (hbel.block B hB.lt)
      refine wp_seq_k (fun K26 hK26 => ?_)
      refine wp_block ?_
      refine wp_seq_k (fun K27 hK27 => ?_)
      refine reg ?_
      refine sq rfl (do_move (tm rfl (nx rfl t14))) ?_
      refine sq rfl (ix34 (tm rfl (nx rfl (nx rfl t12))) (tm rfl (nx rfl (nx rfl t14))) (by omega)) ?_
      refine sq rfl (do_load3 T38 fl38 (tm rfl hit) (hBw.cell hc0) (hBw.cell hc1) (hBw.cell hc2)) ?_
      refine sq rfl (do_alloc T38) ?_
      refine sq rfl (do_assign (tm rfl (nx rfl (nx rfl (nx rfl hit))))) ?_
      have hN0 : Blk (wi.alloc (.cells (Value.cells (.agg #[.string ⟨#[]⟩, .slice none 0 0, .int .i64 0])) 38)) wi.heap.size 38 [.string ⟨#[]⟩, .slice none 0 0, .int .i64 0] := Blk.new wi _ 38
      obtain ⟨aa, ac, hae, hac⟩ := hav i (by omega) (by omega)
      have hv' : av = avs[i] := by rw [List.getElem?_eq_getElem (by omega)] at hv; cases hv; rfl
      have hone : av.oneCell' = true := by rw [hv', hae]; rfl
      refine sqn (do_store3 T38 (tm rfl (nx rfl hit)) (tm rfl (nx rfl (nx rfl hit))) rfl hone rfl (hN0.cell rfl) (hN0.cell rfl) (hN0.cell rfl) (hN0.frozen _) (hN0.frozen _) (hN0.frozen _)) ?_
      refine cutW ?_
      intro τ28 e28 w2 hw2
      have c28_3 := (congrFun e28 3).trans (nx rfl (nx rfl (nx rfl (nx rfl (nx rfl (nx rfl t3))))))
      have c28_4 := (congrFun e28 4).trans hit
      have c28_5 := (congrFun e28 5).trans (nx rfl hit)
      have c28_12 := (congrFun e28 12).trans (nx rfl (nx rfl (nx rfl (nx rfl (nx rfl (nx rfl t12))))))
      have c28_13 := (congrFun e28 13).trans (nx rfl (nx rfl (nx rfl (nx rfl (nx rfl (nx rfl t13))))))
      have c28_14 := (congrFun e28 14).trans (nx rfl (nx rfl (nx rfl (nx rfl (nx rfl (nx rfl t14))))))
      clear e28
      refine wnil ?_
      refine hK27 _ _ ?_
      clear hK27 K27
      have hN : Blk w2 wi.heap.size 38 [.string p, av, .int .i64 z] := by
        rw [hw2]
        exact ((hN0.set 0 _).set 1 _).set 2 _
      have hb2 : Below wi.heap.size wi w2 := by
        rw [hw2]
        exact (((((Below.refl _ _).alloc (Nat.le_refl _) _).setCell (by simp) _).setCell (by simp) _).setCell (by simp) _)
      have hs2 : w2.heap.size = wi.heap.size + 1 := by rw [hw2, size_set, size_set, size_set, size_alloc]
      clear hw2 hN0
      have hsav : StrS w2.drew av rows[i] := by
        rw [hv']
        exact ((hav i (by omega) (by omega)).below hbel).below hb2.drew
      obtain ⟨cv, w3, hcall, hb3, hcpd⟩ := clone32 w2.drew av rows[i] hsav (hrl2 _ (List.getElem_mem _))
      have hb3' : Below w2.heap.size w2 w3 := ⟨hb3.os, hb3.tape, hb3.output, hb3.size, hb3.block⟩
      have hN3 : Blk w3 wi.heap.size 38 [.string p, av, .int .i64 z] := hN.of_eq (hb3'.block _ hN.lt)
      have hBlt := hB'.lt
      have hB3 : Blk w3 w.heap.size 38 cs' := (hB'.of_eq (hb2.block _ hBlt)).of_eq (hb3'.block _ (by omega))
      obtain ⟨ca, cn, cc, hce⟩ : ∃ ca cn cc, cv = .slice ca cn cc := by
        rcases hcpd with ⟨_, _, h, _⟩ | ⟨_, _, _, _, _, _, h, _⟩ <;> exact ⟨_, _, _, h⟩
      have hi3 : i * 3 + 2 < cs'.length := by rw [hcl]; omega
      obtain ⟨w4, hw4⟩ : ∃ w4, w4 = ((w3.setCell ⟨w.heap.size, i * 3, none⟩ (.string p)).setCell ⟨w.heap.size, i * 3 + 1, none⟩ cv).setCell ⟨w.heap.size, i * 3 + 2, none⟩ (.int .i64 z) := ⟨_, rfl⟩
      have L0 : ∀ j, j ≤ 1 → (stg w2.drew [w3, w4] j).cell? ⟨wi.heap.size, 0 + 0, none⟩ = some (.string p) := le1 (p := fun j => (stg w2.drew [w3, w4] j).cell? ⟨wi.heap.size, 0 + 0, none⟩ = some (.string p)) (hN.cell (i := 0) rfl) (hN3.cell (i := 0) rfl)
      have L1 : (stg w2.drew [w3, w4] 0).cell? ⟨wi.heap.size, 0 + 1, none⟩ = some av := hN.cell (i := 1) rfl
      have L2 : ∀ j, j ≤ 1 → (stg w2.drew [w3, w4] j).cell? ⟨wi.heap.size, 0 + 2, none⟩ = some (.int .i64 z) := le1 (p := fun j => (stg w2.drew [w3, w4] j).cell? ⟨wi.heap.size, 0 + 2, none⟩ = some (.int .i64 z)) (hN.cell (i := 2) rfl) (hN3.cell (i := 2) rfl)
      have hst : ∀ (ρ : Operand → Value) (ty : TypeId) (pos : String) (aft : Array Edge) (x y : Operand), ρ x = .pointer (some ⟨w.heap.size, i * 3, none⟩) → ρ y = .agg #[.string p, cv, .int .i64 z] →
          Does Try.prog ⟨none, .store 38 x y, ty, pos, aft, none⟩ ρ (stg w2.drew [w3, w4] 1) undef (stg w2.drew [w3, w4] (1 + 1)) := by
        intro ρ ty pos aft x y h1 h2
        show Does Try.prog _ ρ w3 undef w4
        rw [hw4]
        exact do_store3 T38 h1 h2 rfl (by rw [hce]; rfl) rfl (hB3.cell (List.getElem?_eq_getElem (by omega))) (hB3.cell (List.getElem?_eq_getElem (by omega))) (hB3.cell (List.getElem?_eq_getElem (by omega))) (hB3.frozen _) (hB3.frozen _) (hB3.frozen _)
      subst hce
      refine draw mixed [6, 11] [(0, 1), (0, 1), (0, 1), (0, 1), (0, 1), (0, 0), (0, 0), (0, 1), (0, 1), (1, 1), (1, 1), (1, 1)] [w3, w4] (w4) (upd (upd (upd (upd (upd (upd (upd (upd (upd (upd (upd _ 19 _) 20 _) 21 _) 22 _) 23 _) 24 _) 25 _) 26 _) 27 _) 28 _) 29 _) (by kernel_rfl) (fun s hs => ovr_off [(19, _), (20, _), (21, _), (22, _), (23, _), (24, _), (25, _), (26, _), (27, _), (28, _), (29, _)] _ s hs) ⟨(qa rfl (fun _ => (do_move (tm rfl (nx rfl (nx rfl (nx rfl (nx rfl (nx rfl (nx rfl (nx rfl (nx rfl (nx rfl (nx rfl (nx rfl c28_3)))))))))))))) (nx rfl (nx rfl (nx rfl (nx rfl (nx rfl (nx rfl (nx rfl (nx rfl (nx rfl (nx rfl hit))))))))))), (qa rfl (fun _ => (do_move (tm rfl (nx rfl (nx rfl (nx rfl (nx rfl (nx rfl (nx rfl (nx rfl (nx rfl (nx rfl (nx rfl (nx rfl c28_4)))))))))))))) (nx rfl (nx rfl (nx rfl (nx rfl (nx rfl (nx rfl (nx rfl (nx rfl (nx rfl hit)))))))))), (qa rfl (fun _ => (fa38_0 (tm rfl (nx rfl (nx rfl (nx rfl (nx rfl (nx rfl (nx rfl (nx rfl (nx rfl (nx rfl (nx rfl (nx rfl c28_5)))))))))))))) (nx rfl (nx rfl (nx rfl (nx rfl (nx rfl (nx rfl (nx rfl (nx rfl hit))))))))), (qr rfl (fun j h1 h2 => (do_load T9 rfl (tm rfl (nx rfl (nx rfl (nx rfl (nx rfl (nx rfl (nx rfl (nx rfl (nx rfl hit))))))))) (L0 j h2))) (nx rfl (nx rfl (nx rfl (nx rfl (nx rfl (nx rfl (nx rfl hit)))))))), (qa rfl (fun _ => (fa38_1 (tm rfl (nx rfl (nx rfl (nx rfl (nx rfl (nx rfl (nx rfl (nx rfl (nx rfl (nx rfl (nx rfl (nx rfl c28_5)))))))))))))) (nx rfl (nx rfl (nx rfl (nx rfl (nx rfl (nx rfl hit))))))), (qk rfl (do_load T30 rfl (tm rfl (nx rfl (nx rfl (nx rfl (nx rfl (nx rfl (nx rfl hit))))))) L1) (nx rfl (nx rfl (nx rfl (nx rfl (nx rfl hit)))))), (ef rfl (do_call (run_callF Try.func32 nm32 bd32 (map1 (tm rfl (nx rfl (nx rfl (nx rfl (nx rfl (nx rfl hit))))))) rfl) hcall) (nx rfl (nx rfl (nx rfl (nx rfl hit))))), (qa rfl (fun _ => (fa38_2 (tm rfl (nx rfl (nx rfl (nx rfl (nx rfl (nx rfl (nx rfl (nx rfl (nx rfl (nx rfl (nx rfl (nx rfl c28_5)))))))))))))) (nx rfl (nx rfl (nx rfl hit)))), (qr rfl (fun j h1 h2 => (do_load T2 rfl (tm rfl (nx rfl (nx rfl (nx rfl hit)))) (L2 j h2))) (nx rfl (nx rfl hit))), (qa rfl (fun _ => (do_build38 (tm rfl (nx rfl (nx rfl (nx rfl (nx rfl (nx rfl (nx rfl (nx rfl hit)))))))) (tm rfl (nx rfl (nx rfl (nx rfl (nx rfl hit))))) (tm rfl (nx rfl (nx rfl hit))))) (nx rfl hit)), (qa rfl (fun _ => (ix34 (tm rfl (nx rfl (nx rfl (nx rfl (nx rfl (nx rfl (nx rfl (nx rfl (nx rfl (nx rfl (nx rfl hit))))))))))) (tm rfl (nx rfl (nx rfl (nx rfl (nx rfl (nx rfl (nx rfl (nx rfl (nx rfl (nx rfl hit)))))))))) (by omega))) hit), (en rfl (hst _ _ _ _ _ _ (tm rfl hit) (tm rfl (nx rfl hit)))), trivial⟩ rfl ?_
      intro τ29 e29
      have c29_3 := (congrFun e29 3).trans (nx rfl (nx rfl (nx rfl (nx rfl (nx rfl (nx rfl (nx rfl (nx rfl (nx rfl (nx rfl (nx rfl c28_3)))))))))))
      have c29_4 := (congrFun e29 4).trans (nx rfl (nx rfl (nx rfl (nx rfl (nx rfl (nx rfl (nx rfl (nx rfl (nx rfl (nx rfl (nx rfl c28_4)))))))))))
      have c29_5 := (congrFun e29 5).trans (nx rfl (nx rfl (nx rfl (nx rfl (nx rfl (nx rfl (nx rfl (nx rfl (nx rfl (nx rfl (nx rfl c28_5)))))))))))
      have c29_12 := (congrFun e29 12).trans (nx rfl (nx rfl (nx rfl (nx rfl (nx rfl (nx rfl (nx rfl (nx rfl (nx rfl (nx rfl (nx rfl c28_12)))))))))))
      have c29_13 := (congrFun e29 13).trans (nx rfl (nx rfl (nx rfl (nx rfl (nx rfl (nx rfl (nx rfl (nx rfl (nx rfl (nx rfl (nx rfl c28_13)))))))))))
      have c29_14 := (congrFun e29 14).trans (nx rfl (nx rfl (nx rfl (nx rfl (nx rfl (nx rfl (nx rfl (nx rfl (nx rfl (nx rfl (nx rfl c28_14)))))))))))
      clear e29
      refine inBN ?_
      refine hK26 _ _ ?_
      clear hK26 K26
      refine reg ?_
      refine sq rfl (do_inc (tm rfl c29_14) ck (by omega)) ?_
      refine sq rfl (do_move (tm rfl hit)) ?_
      refine wnil ?_
      have hB4 : Blk w4 w.heap.size 38 (((cs'.set (i * 3) (.string p)).set (i * 3 + 1) (.slice ca cn cc)).set (i * 3 + 2) (.int .i64 z)) := by
        rw [hw4]; exact ((hB3.set _ _).set _ _).set _ _
      have hk4 : ∀ k, k ≠ w.heap.size → w4.heap[k]? = w3.heap[k]? := by
        intro k hk; rw [hw4, heap_set (by simpa using hk), heap_set (by simpa using hk), heap_set (by simpa using hk)]
      have hsz3 := hb3'.size
      have hbel4 : Below w.heap.size w w4 := by
        have e1 := hbel.trans (hb2.mono (B' := w.heap.size) (by omega))
        have e2 := e1.trans (hb3'.mono (B' := w.heap.size) (by omega))
        rw [hw4]
        exact ((e2.setCell (Nat.le_refl _) _).setCell (Nat.le_refl _) _).setCell (Nat.le_refl _) _
      have hgw : ∀ g, (Value.slice ca cn cc).ownBlock = some g → w2.heap.size ≤ g := fun g hg => (hcpd.lt hg).1
      refine hnn (n - (i + 1)) _ _ (by omega) ⟨i + 1, _, avs' ++ [.slice ca cn cc], rfl, by omega, (nx rfl (nx rfl c29_3)), (nx rfl (nx rfl c29_12)), (nx rfl (nx rfl c29_13)), hit, hB4, by simp [hcl], ?_, ?_, hbel4, by simp [hal']⟩
      · intro j hj
        rcases Nat.lt_or_ge j i with hji | hji
        · obtain ⟨p', v', z', e1, e2, e3, e4, e5, e6⟩ := hcc j hji
          refine ⟨p', v', z', e1, ?_, e3, ?_, ?_, ?_⟩
          · rw [List.getElem?_append_left (by omega)]; exact e2
          · rw [List.getElem?_set_ne (by omega), List.getElem?_set_ne (by omega), List.getElem?_set_ne (by omega)]; exact e4
          · rw [List.getElem?_set_ne (by omega), List.getElem?_set_ne (by omega), List.getElem?_set_ne (by omega)]; exact e5
          · rw [List.getElem?_set_ne (by omega), List.getElem?_set_ne (by omega), List.getElem?_set_ne (by omega)]; exact e6
        · obtain rfl : j = i := by omega
          refine ⟨p, .slice ca cn cc, z, hp, ?_, hz, ?_, ?_, ?_⟩
          · rw [List.getElem?_append_right (by omega), hal']; simp
          · rw [List.getElem?_set_ne (by omega), List.getElem?_set_ne (by omega), List.getElem?_set_self (by omega)]
          · rw [List.getElem?_set_ne (by omega), List.getElem?_set_self (by simp; omega)]
          · rw [List.getElem?_set_self (by simp; omega)]
      · have hkeep : ∀ (j : Nat) (v : Value) (g : Nat), avs'[j]? = some v → v.ownBlock = some g → g < wi.heap.size ∧ w.heap.size < g := by
          intro j v g hv hg
          have hj : j < i := by have := (List.getElem?_eq_some_iff.1 hv).1; omega
          obtain ⟨av', v', ss', f1, f2, f3, f4⟩ := hcop.one j hj
          rw [hv] at f2; cases f2
          exact ⟨(f4.lt hg).2, hcop.far j v g hv hg⟩
        have hlast : ∀ (j : Nat) (v : Value), (avs' ++ [Value.slice ca cn cc])[j]? = some v → (j < i ∧ avs'[j]? = some v) ∨ (j = i ∧ v = .slice ca cn cc) := by
          intro j v hv
          rcases Nat.lt_or_ge j i with hji | hji
          · rw [List.getElem?_append_left (by omega)] at hv; exact .inl ⟨hji, hv⟩
          · rw [List.getElem?_append_right (by omega)] at hv
            have : j - avs'.length = 0 := by
              have := (List.getElem?_eq_some_iff.1 hv).1
              simp at this; omega
            rw [this] at hv
            simp at hv
            exact .inr ⟨by omega, hv.symm⟩
        refine ⟨?_, ?_, ?_⟩
        · intro j hj
          rcases Nat.lt_or_ge j i with hji | hji
          · obtain ⟨av', v', ss', f1, f2, f3, f4⟩ := hcop.one j hji
            refine ⟨av', v', ss', f1, by rw [List.getElem?_append_left (by omega)]; exact f2, f3, f4.keep ?_⟩
            intro g hg
            have hlt := hkeep j v' g f2 hg
            rw [hk4 g (by omega), hb3'.block g (by omega), hb2.block g (by omega)]
          · obtain rfl : j = i := by omega
            refine ⟨av, .slice ca cn cc, rows[j], hv, by rw [List.getElem?_append_right (by omega), hal']; simp, List.getElem?_eq_getElem _, ?_⟩
            have hc2 : Copied w w3 av (.slice ca cn cc) rows[j] := by
              rcases hcpd with h | ⟨q1, q2, q3, q4, q5, q6, q7, q8, q9⟩
              · exact .inl h
              · exact .inr ⟨q1, q2, q3, q4, q5, q6, q7, by have : w2.heap.size ≤ q4 := q8; omega, q9⟩
            refine hc2.keep ?_
            intro g hg
            have := hgw g hg
            exact hk4 g (by omega)
        · intro j v g hv hg
          rcases hlast j v hv with ⟨hji, hv'⟩ | ⟨_, rfl⟩
          · exact (hkeep j v g hv' hg).2
          · have := hgw g hg; omega
        · intro j k v u g hv hu hg hg'
          rcases hlast j v hv with ⟨hji, hv'⟩ | ⟨hj, rfl⟩ <;> rcases hlast k u hu with ⟨hki, hu'⟩ | ⟨hk, rfl⟩
          · exact hcop.apart j k v u g hv' hu' hg hg'
          · have := hgw g hg'; have := (hkeep j v g hv' hg).1; omega
          · have := hgw g hg; have := (hkeep k u g hu' hg').1; omega
          · omega
    · refine wp_seq_k (fun K30 hK30 => ?_)
      refine cF rfl hit (by simpa using h) ?_
      refine wp_exit ?_
      refine thenE ?_
      obtain rfl : i = n := by omega
      exact hx _ _ ⟨cs', avs', (nx rfl t3), hB', hcc, hcop, hbel, hal'⟩
  clear s0
  rintro τ wi ⟨cs', avs', t3, hB', hcc, hcop, hbel, hal'⟩
  refine hK22 _ _ ?_
  clear hK22 K22
  refine wp_seq_k (fun K31 hK31 => ?_)
  refine reg ?_
  refine sq rfl (do_move (tm rfl t3)) ?_
  refine sq rfl (do_assign (tm rfl hit)) ?_
  refine wnil ?_
  refine hK31 _ _ ?_
  clear hK31 K31
  refine wp_ret ?_
  rw [← hQ]
  exact ret1 rfl rfl hit ⟨cs', avs', rfl, hB', hcc, hcop, hbel, hal'⟩
end Go.Proofs.Qxb6000003a
