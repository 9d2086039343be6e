/-
  zzCloneInts, ZZSucc, respects.
-/
import Derived.Test.Qxb6001364aV2
namespace Go.Proofs.Qxb6001364a
open Go.Fra Go.RowKit
set_option maxRecDepth 100000
set_option linter.unusedVariables false

/-- A slice of slices of integers that can be read. -/
def TabR (w : World) (v : Value) (rows : List (List Int)) : Prop :=
  ∃ a c, v = .slice a rows.length c ∧ ∀ i (h : i < rows.length), ∃ b o rv, a = some ⟨b, o, none⟩ ∧ w.cell? ⟨b, o + i, none⟩ = some rv ∧ IntR w rv rows[i]
theorem TabR.below {w w' : World} {v : Value} {zs : List (List Int)} (h : TabR w v zs) (hb : Below w.heap.size w w') : TabR w' v zs := by
  obtain ⟨a, c, rfl, hc⟩ := h
  refine ⟨a, c, rfl, fun i hi => ?_⟩
  obtain ⟨b, o, rv, ha, hcc, hr⟩ := hc i hi
  exact ⟨b, o, rv, ha, by rw [hb.cell (World.block_lt_of_cell? w _ hcc)]; exact hcc, hr.below hb⟩
theorem IntR.keep {w w' : World} {v : Value} {zs : List Int} (h : IntR w v zs) (hk : ∀ b, v.ownBlock = some b → b < w.heap.size → w'.heap[b]? = w.heap[b]?) : IntR w' v zs := by
  obtain ⟨a, c, rfl, hc⟩ := h
  refine ⟨a, c, rfl, fun i hi => ?_⟩
  obtain ⟨b, o, ha, hcc⟩ := hc i hi
  refine ⟨b, o, ha, ?_⟩
  have := hk b (by rw [ha]; rfl) (World.block_lt_of_cell? w _ hcc)
  rw [← hcc]
  simp [World.cell?, this]

section
variable {ρ : Operand → Value} {w : World} {dst : Option Tmp} {ty : TypeId} {pos : String} {aft : Array Edge} {g : Option (Nat × Bool)}
theorem mk22b {x y : Operand} {n : Nat} (hx : ρ x = .int .i64 (n : Int)) (hy : ρ y = .int .i64 (n : Int)) (hn : n ≤ 17592186044416) : Does Try.prog ⟨dst, .makeSlice 22 x y, ty, pos, aft, g⟩ ρ w (.slice (some ⟨w.heap.size, 0, none⟩) n n) (w.alloc (.cells (madeCells #[.int .i64 0] n) 3)) := do_makeSlice T22 T3 rfl hx hy (by omega) (by omega)
theorem do_copyNew {dT elem : TypeId} {x y : Operand} {b n dc : Nat} {a : Addr} {sc : Nat} {cs : List Value} {d : TypeDesc} {z z0 : Value} {by_ : Nat} (hu : Try.prog.underlying dT = some (.slice elem)) (T : TyI Try.prog elem d z 1 by_)
    (hB : Blk w b elem (List.replicate n z0)) (hx : ρ x = .slice (some ⟨b, 0, none⟩) n dc) (hy : ρ y = .slice (some a) n sc) (hn : cs.length = n)
    (hsrc : ∀ j v, cs[j]? = some v → w.cell? (a.add j) = some v) (h1 : ∀ v ∈ cs, v.oneCell' = true) :
    Does Try.prog ⟨dst, .call { callee := .builtin .copy, args := #[x, y], argTypes := #[dT, dT] }, ty, pos, aft, g⟩ ρ w (.int .i64 (n : Int)) (w.setCells b 0 cs) := by
  refine do_copy hu T hx hy hn hsrc (fun j hj => ?_) (fun j hj => ?_) h1
  · rw [Nat.zero_add, hB.cell (v := z0) (by rw [List.getElem?_replicate, if_pos (by omega)])]; rfl
  · exact hB.frozen _
end
theorem copied_blk {w : World} {b n : Nat} {t : TypeId} {z : Value} {cs : List Value} (h : Blk w b t (List.replicate n z)) (hn : cs.length = n) : Blk (w.setCells b 0 cs) b t cs := by
  have := Blk.setCells cs 0 w _ h (by simp [hn])
  rw [List.take_zero, List.nil_append, Nat.zero_add, List.drop_of_length_le (by simp [hn]), List.append_nil] at this
  exact this

theorem clone33 (w : World) (v : Value) (zs : List Int) (hv : IntR w v zs) (hl : zs.length ≤ 17592186044416) :
    Calls Try.prog 33 #[v] w fun e w' => ∃ v', e = .returned v' ∧ IntR w' v' zs ∧ Below w.heap.size w w' ∧ v'.oneCell' = true ∧ ∀ b, v'.ownBlock = some b → w.heap.size ≤ b := by
  obtain ⟨a, c, rfl, hc⟩ := hv
  cases a with
  | none =>
    have h0 : zs = [] := by
      cases zs with
      | nil => rfl
      | cons r rs => obtain ⟨b, o, h, _⟩ := hc 0 (by simp); cases h
    subst h0
    refine enter (args := [.slice none 0 c]) Try.func33 rfl Try.ntmps33 rfl ?_
    have s0 : frame0 [Value.slice none 0 c] 0 = .slice none 0 c := rfl
    generalize frame0 [Value.slice none 0 c] = σ at *
    refine wp_seq_k (fun K1 hK1 => ?_)
    refine reg ?_
    refine sq rfl (do_assign ck) ?_
    refine wnil ?_
    refine hK1 _ _ ?_
    clear hK1
    refine wp_seq_k (fun K2 hK2 => ?_)
    refine wp_seq_k (fun K3 hK3 => ?_)
    refine reg ?_
    refine sq rfl (do_move (tm rfl (nx rfl s0))) ?_
    refine sq rfl (do_nilS Try.underlying22 (tm rfl hit) ck) ?_
    refine wnil ?_
    refine hK3 _ _ ?_
    clear hK3
    refine cT rfl hit rfl ?_
    refine wp_seq_k (fun K4 hK4 => ?_)
    refine reg ?_
    refine sq rfl (do_assign ck) ?_
    refine cutL ?_
    intro τ5 e5
    have c5_0 := (congrFun e5 0).trans (nx rfl (nx rfl (nx rfl (nx rfl s0))))
    have c5_2 := (congrFun e5 2).trans hit
    clear e5
    refine wnil ?_
    refine hK4 _ _ ?_
    clear hK4
    refine wp_ret ?_
    refine thenR ?_
    exact ret1 rfl rfl c5_2 ⟨_, rfl, ⟨none, 0, rfl, fun i hi => by simp at hi⟩, Below.refl _ _, rfl, fun b hb => by cases hb⟩
  | some q =>
    refine enter (args := [.slice (some q) zs.length c]) Try.func33 rfl Try.ntmps33 rfl ?_
    generalize hQ : bodyPost Try.prog Try.f33 _ = Q
    have s0 : frame0 [Value.slice (some q) zs.length c] 0 = .slice (some q) zs.length c := rfl
    generalize frame0 [Value.slice (some q) zs.length c] = σ at *
    refine wp_seq_k (fun K6 hK6 => ?_)
    refine reg ?_
    refine sq rfl (do_assign ck) ?_
    refine wnil ?_
    refine hK6 _ _ ?_
    clear hK6
    refine wp_seq_k (fun K7 hK7 => ?_)
    refine wp_seq_k (fun K8 hK8 => ?_)
    refine reg ?_
    refine sq rfl (do_move (tm rfl (nx rfl s0))) ?_
    refine sq rfl (do_nilS Try.underlying22 (tm rfl hit) ck) ?_
    refine wnil ?_
    refine hK8 _ _ ?_
    clear hK8
    refine cF rfl hit rfl ?_
    refine wp_skip ?_
    refine hK7 _ _ ?_
    clear hK7
    refine wp_seq_k (fun K9 hK9 => ?_)
    refine reg ?_
    refine sq rfl (do_move (tm rfl (nx rfl (nx rfl (nx rfl s0))))) ?_
    refine sq rfl (do_len Try.underlying22 (tm rfl hit)) ?_
    refine sq rfl (mk22b (tm rfl hit) (tm rfl hit) hl) ?_
    refine sq rfl (do_assign (tm rfl hit)) ?_
    refine cutW ?_
    intro τ10 e10 w2 hw2
    have c10_0 := (congrFun e10 0).trans (nx rfl (nx rfl (nx rfl (nx rfl (nx rfl (nx rfl (nx rfl s0)))))))
    have c10_2 := (congrFun e10 2).trans (nx rfl (nx rfl (nx rfl (nx rfl (nx rfl (nx rfl hit))))))
    have c10_3 := (congrFun e10 3).trans hit
    clear e10
    refine wnil ?_
    refine hK9 _ _ ?_
    clear hK9
    have hB2 : Blk w2 w.heap.size 3 (List.replicate zs.length (.int .i64 0)) := by
      have := Blk.new w (madeCells #[.int .i64 0] zs.length) 3
      rw [made_list] at this
      rw [hw2]; exact this
    have hbel2 : Below w.heap.size w w2 := by rw [hw2]; exact (Below.refl _ _).alloc (Nat.le_refl _) _
    clear hw2
    have hsrc : ∀ (j : Nat) (v : Value), (ints zs)[j]? = some v → w2.cell? (q.add j) = some v := by
      intro j v hv
      rw [ints, List.getElem?_map] at hv
      rcases Nat.lt_or_ge j zs.length with hj | hj
      · rw [List.getElem?_eq_getElem hj] at hv
        cases hv
        obtain ⟨b, o, e, hcc⟩ := hc j hj
        cases e
        rw [add_plain, hbel2.cell (World.block_lt_of_cell? w _ hcc), hcc]
      · rw [List.getElem?_eq_none hj] at hv
        cases hv
    refine wp_seq_k (fun K11 hK11 => ?_)
    refine reg ?_
    refine sq rfl (do_move (tm rfl c10_3)) ?_
    refine sq rfl (do_move (tm rfl (nx rfl c10_0))) ?_
    refine sq rfl (do_copyNew Try.underlying22 T3 hB2 (tm rfl (nx rfl hit)) (tm rfl hit) (ints_length zs) hsrc (by intro v hv; simp [ints] at hv; obtain ⟨z, _, rfl⟩ := hv; rfl)) ?_
    refine cutW ?_
    intro τ12 e12 w3 hw3
    have c12_0 := (congrFun e12 0).trans (nx rfl (nx rfl (nx rfl c10_0)))
    have c12_2 := (congrFun e12 2).trans (nx rfl (nx rfl (nx rfl c10_2)))
    have c12_3 := (congrFun e12 3).trans (nx rfl (nx rfl (nx rfl c10_3)))
    clear e12
    refine wnil ?_
    refine hK11 _ _ ?_
    clear hK11
    refine wp_seq_k (fun K13 hK13 => ?_)
    refine reg ?_
    refine sq rfl (do_move (tm rfl c12_3)) ?_
    refine sq rfl (do_assign (tm rfl hit)) ?_
    refine wnil ?_
    refine hK13 _ _ ?_
    clear hK13
    refine wp_ret ?_
    have hB3 : Blk w3 w.heap.size 3 (ints zs) := by rw [hw3]; exact copied_blk hB2 (ints_length zs)
    have hbel3 : Below w.heap.size w w3 := by rw [hw3]; exact Below_setCells (Nat.le_refl _) _ _ _ hbel2
    rw [← hQ]
    exact ret1 rfl rfl hit ⟨_, rfl, Blk.intR hB3, hbel3, rfl, fun b hb => by cases hb; exact Nat.le_refl _⟩

theorem nm33 : (Try.f33.name == "runtime.NumGoroutine") = false := by kernel_rfl
theorem bd33 : Try.f33.body.isNone = false := by kernel_rfl

theorem succ18 (w : World) (pb : Nat) (sv : Value) (rows : List (List Int)) (hcell : w.cell? ⟨pb, 6, none⟩ = some sv) (hT : TabR w sv rows) (l1 : rows.length ≤ 1048576) (l2 : ∀ r ∈ rows, r.length ≤ 17592186044416) :
    Calls Try.prog 18 #[.pointer (some ⟨pb, 0, none⟩)] w fun e w' => ∃ v', e = .returned v' ∧ TabR w' v' rows ∧ Below w.heap.size w w' := by
  obtain ⟨a, c, rfl, hTc⟩ := hT
  refine enter (args := [.pointer (some ⟨pb, 0, none⟩)]) Try.func18 rfl Try.ntmps18 rfl ?_
  generalize hQ : bodyPost Try.prog Try.f18 _ = Q
  have s0 : frame0 [Value.pointer (some ⟨pb, 0, none⟩)] 0 = .pointer (some ⟨pb, 0, none⟩) := rfl
  generalize frame0 [Value.pointer (some ⟨pb, 0, none⟩)] = σ at *
  have hpl := World.block_lt_of_cell? w _ hcell
  refine wp_seq_k (fun K14 hK14 => ?_)
  refine reg ?_
  refine sq rfl (do_assign ck) ?_
  refine wnil ?_
  refine hK14 _ _ ?_
  clear hK14
  refine wp_seq_k (fun K15 hK15 => ?_)
  refine reg ?_
  refine sq rfl (do_move (tm rfl (nx rfl s0))) ?_
  refine sq rfl (do_nilCheck (tm rfl hit)) ?_
  refine sq rfl (fa58_6 (tm rfl hit)) ?_
  refine sq rfl (do_load T37 rfl (tm rfl hit) hcell) ?_
  refine sq rfl (do_len Try.underlying37 (tm rfl hit)) ?_
  refine sq rfl (mk37 (tm rfl hit) (tm rfl hit) (by omega)) ?_
  refine sq rfl (do_assign (tm rfl hit)) ?_
  refine cutL ?_
  intro τ16 e16
  have c16_0 := (congrFun e16 0).trans (nx rfl (nx rfl (nx rfl (nx rfl (nx rfl (nx rfl (nx rfl (nx rfl s0))))))))
  have c16_2 := (congrFun e16 2).trans (nx rfl (nx rfl (nx rfl (nx rfl (nx rfl (nx rfl (nx rfl hit)))))))
  have c16_3 := (congrFun e16 3).trans hit
  clear e16
  refine wnil ?_
  refine hK15 _ _ ?_
  clear hK15
  have hc2 : (w.alloc (.cells (madeCells #[.slice none 0 0] rows.length) 22)).cell? ⟨pb, 6, none⟩ = some (.slice a rows.length c) := by rw [World.cell?_alloc_past _ _ _ hpl]; exact hcell
  refine wp_seq_k (fun K17 hK17 => ?_)
  refine wp_seq_k (fun K18 hK18 => ?_)
  refine reg ?_
  refine sq rfl (do_move (tm rfl c16_0)) ?_
  refine sq rfl (do_nilCheck (tm rfl hit)) ?_
  refine sq rfl (fa58_6 (tm rfl hit)) ?_
  refine sq rfl (do_load T37 rfl (tm rfl hit) hc2) ?_
  refine sq rfl (do_len Try.underlying37 (tm rfl hit)) ?_
  refine sq rfl (do_move (v := .int .i64 ((0 : Nat) : Int)) rfl) ?_
  refine cutL ?_
  intro τ19 e19
  have c19_0 := (congrFun e19 0).trans (nx rfl (nx rfl (nx rfl (nx rfl (nx rfl (nx rfl c16_0))))))
  have c19_2 := (congrFun e19 2).trans (nx rfl (nx rfl (nx rfl (nx rfl (nx rfl (nx rfl c16_2))))))
  have c19_3 := (congrFun e19 3).trans (nx rfl (nx rfl (nx rfl (nx rfl (nx rfl (nx rfl c16_3))))))
  have c19_14 := (congrFun e19 14).trans (nx rfl (nx rfl hit))
  have c19_15 := (congrFun e19 15).trans (nx rfl hit)
  have c19_16 := (congrFun e19 16).trans hit
  clear e19
  refine wnil ?_
  refine hK18 _ _ ?_
  clear hK18
  refine forLoop (N := 32) (fun k τ wi => ∃ i vs, k = rows.length - i ∧ i ≤ rows.length ∧ τ 0 = .pointer (some ⟨pb, 0, none⟩) ∧ τ 3 = .slice (some ⟨w.heap.size, 0, none⟩) rows.length rows.length ∧ τ 15 = .int .i64 (rows.length : Int) ∧ τ 16 = .int .i64 (i : Int) ∧
      Blk wi w.heap.size 22 vs ∧ vs.length = rows.length ∧ (∀ j (h : j < rows.length), j < i → ∃ v, vs[j]? = some v ∧ IntR wi v rows[j] ∧ v.ownBlock ≠ some w.heap.size) ∧ Below w.heap.size w wi)
    (fun τ wi => ∃ vs, τ 3 = .slice (some ⟨w.heap.size, 0, none⟩) rows.length rows.length ∧
      Blk wi w.heap.size 22 vs ∧ vs.length = rows.length ∧ (∀ j (h : j < rows.length), ∃ v, vs[j]? = some v ∧ IntR wi v rows[j]) ∧ Below w.heap.size w wi) rows.length ?_ ?_ ?_
  · exact ⟨0, _, rfl, Nat.zero_le _, c19_0, c19_3, c19_15, c19_16, Blk.new w _ 22, by simp [made_list], fun j _ h => by omega, (Below.refl _ _).alloc (Nat.le_refl _) _⟩
  · clear s0
    rintro Q' k τ wi hnn hx hr ⟨i, vs, rfl, hi, t0, t3, t15, t16, hB, hvl, hdone, hbel⟩
    refine wp_seq_k (fun K20 hK20 => ?_)
    refine reg ?_
    refine sq rfl (do_lss (tm rfl t16) (tm rfl t15)) ?_
    refine wnil ?_
    refine hK20 _ _ ?_
    clear hK20
    by_cases h : i < rows.length
    · refine wp_seq_k (fun K21 hK21 => ?_)
      refine cT rfl hit (by simpa using h) ?_
      refine wp_skip ?_
      refine hK21 _ _ ?_
      clear hK21
      obtain ⟨b, o, rv, rfl, hcc, hrow⟩ := hTc i h
      have hcw : wi.cell? ⟨b, o + i, none⟩ = some rv := by rw [hbel.cell (World.block_lt_of_cell? w _ hcc)]; exact hcc
      have hrw := hrow.below hbel
      have hpc : wi.cell? ⟨pb, 6, none⟩ = some (.slice (some ⟨b, o, none⟩) rows.length c) := by rw [hbel.cell hpl]; exact hcell
      have hBlt := hB.lt
      refine wp_seq_k (fun K22 hK22 => ?_)
      refine wp_block ?_
      refine wp_seq_k (fun K23 hK23 => ?_)
      refine reg ?_
      refine sq rfl (do_move (tm rfl (nx rfl t16))) ?_
      refine sq rfl (do_assign (tm rfl hit)) ?_
      refine wnil ?_
      refine hK23 _ _ ?_
      clear hK23
      refine reg ?_
      refine sq rfl (do_move (tm rfl (nx rfl (nx rfl (nx rfl t3))))) ?_
      refine sq rfl (do_move (tm rfl (nx rfl hit))) ?_
      refine sq rfl (do_move (tm rfl (nx rfl (nx rfl (nx rfl (nx rfl (nx rfl t0))))))) ?_
      refine sq rfl (do_nilCheck (tm rfl hit)) ?_
      refine sq rfl (fa58_6 (tm rfl hit)) ?_
      refine sq rfl (do_load T37 rfl (tm rfl hit) hpc) ?_
      refine sq rfl (do_move (tm rfl (nx rfl (nx rfl (nx rfl (nx rfl (nx rfl (nx rfl hit)))))))) ?_
      refine sq rfl (io37 (tm rfl (nx rfl hit)) (tm rfl hit) (by omega)) ?_
      refine sq rfl (do_load T22 rfl (tm rfl hit) hcw) ?_
      refine sqc (R := fun v' w' => IntR w' v' rows[i] ∧ Below wi.heap.size wi w' ∧ v'.oneCell' = true ∧ ∀ b, v'.ownBlock = some b → wi.heap.size ≤ b) rfl
        (run_callF Try.func33 nm33 bd33 (map1 (tm rfl hit)) rfl) ((clone33 wi rv rows[i] hrw (l2 _ (List.getElem_mem _))).mono ?_) ?_
      · rintro e w' ⟨v', rfl, h⟩
        exact ⟨_, rfl, h⟩
      rintro cv w3 ⟨hr3, hb3, hone, hown⟩
      have hB3 : Blk w3 w.heap.size 22 vs := hB.of_eq (hb3.block _ hBlt)
      refine sq rfl (ix37 (tm rfl (nx rfl (nx rfl (nx rfl (nx rfl (nx rfl (nx rfl (nx rfl (nx rfl (nx rfl hit)))))))))) (tm rfl (nx rfl (nx rfl (nx rfl (nx rfl (nx rfl (nx rfl (nx rfl (nx rfl hit))))))))) (by omega)) ?_
      refine sqn (do_store T22 (tm rfl hit) (tm rfl (nx rfl hit)) hone (hB3.cell (List.getElem?_eq_getElem (by omega))) (hB3.frozen _)) ?_
      refine cutW ?_
      intro τ24 e24 w4 hw4
      have c24_0 := (congrFun e24 0).trans (nx rfl (nx rfl (nx rfl (nx rfl (nx rfl (nx rfl (nx rfl (nx rfl (nx rfl (nx rfl (nx rfl (nx rfl (nx rfl (nx rfl t0))))))))))))))
      have c24_3 := (congrFun e24 3).trans (nx rfl (nx rfl (nx rfl (nx rfl (nx rfl (nx rfl (nx rfl (nx rfl (nx rfl (nx rfl (nx rfl (nx rfl (nx rfl (nx rfl t3))))))))))))))
      have c24_4 := (congrFun e24 4).trans (nx rfl (nx rfl (nx rfl (nx rfl (nx rfl (nx rfl (nx rfl (nx rfl (nx rfl (nx rfl (nx rfl hit)))))))))))
      have c24_15 := (congrFun e24 15).trans (nx rfl (nx rfl (nx rfl (nx rfl (nx rfl (nx rfl (nx rfl (nx rfl (nx rfl (nx rfl (nx rfl (nx rfl (nx rfl (nx rfl t15))))))))))))))
      have c24_16 := (congrFun e24 16).trans (nx rfl (nx rfl (nx rfl (nx rfl (nx rfl (nx rfl (nx rfl (nx rfl (nx rfl (nx rfl (nx rfl (nx rfl (nx rfl (nx rfl t16))))))))))))))
      clear e24
      refine wnil ?_
      refine inBN ?_
      refine hK22 _ _ ?_
      clear hK22
      refine reg ?_
      refine sq rfl (do_inc (tm rfl c24_16) ck (by omega)) ?_
      refine sq rfl (do_move (tm rfl hit)) ?_
      refine wnil ?_
      have hk4 : ∀ k, k ≠ w.heap.size → w4.heap[k]? = w3.heap[k]? := by intro k hk; rw [hw4, heap_set (by simpa using hk)]
      refine hnn (rows.length - (i + 1)) _ _ (by omega) ⟨i + 1, vs.set i cv, rfl, by omega, (nx rfl (nx rfl c24_0)), (nx rfl (nx rfl c24_3)), (nx rfl (nx rfl c24_15)), hit, by rw [hw4]; exact hB3.set _ _, by simp [hvl], ?_, by rw [hw4]; exact (hbel.trans (hb3.mono (by omega))).setCell (Nat.le_refl _) _⟩
      intro j hj hji
      rcases Nat.lt_or_ge j i with h' | h'
      · obtain ⟨v, f1, f2, f3⟩ := hdone j hj h'
        refine ⟨v, by rw [List.getElem?_set_ne (by omega)]; exact f1, ?_, f3⟩
        refine f2.keep (fun b hb hlt => ?_)
        rw [hk4 b (by rintro rfl; exact f3 hb), hb3.block b hlt]
      · obtain rfl : j = i := by omega
        refine ⟨cv, List.getElem?_set_self (by omega), ?_, ?_⟩
        · exact hr3.keep (fun b hb hlt => hk4 b (by have := hown b hb; omega))
        · intro hb
          have := hown _ hb
          omega
    · refine wp_seq_k (fun K25 hK25 => ?_)
      refine cF rfl hit (by simpa using h) ?_
      refine wp_exit ?_
      refine thenE ?_
      refine hx _ _ ⟨vs, (nx rfl t3), hB, hvl, fun j hj => ?_, hbel⟩
      obtain ⟨v, f1, f2, _⟩ := hdone j hj (by omega)
      exact ⟨v, f1, f2⟩
  clear s0
  rintro τ wi ⟨vs, t3, hB, hvl, hdone, hbel⟩
  refine hK17 _ _ ?_
  clear hK17
  refine wp_seq_k (fun K26 hK26 => ?_)
  refine reg ?_
  refine sq rfl (do_move (tm rfl t3)) ?_
  refine sq rfl (do_assign (tm rfl hit)) ?_
  refine wnil ?_
  refine hK26 _ _ ?_
  clear hK26
  refine wp_ret ?_
  rw [← hQ]
  refine ret1 rfl rfl hit ⟨_, rfl, ⟨_, _, rfl, fun i hi => ?_⟩, hbel⟩
  obtain ⟨v, f1, f2⟩ := hdone i hi
  exact ⟨w.heap.size, 0, v, rfl, by rw [Nat.zero_add]; exact hB.cell f1, f2⟩

theorem respects17 (w : World) (sv rv : Value) (rows : List (List Int)) (rk : List Int) (hT : TabR w sv rows) (hR : IntR w rv rk) (hl : rk.length = rows.length) (l1 : rows.length ≤ 1048576) (l2 : ∀ r ∈ rows, r.length ≤ 17592186044416)
    (hrk : ∀ v (h : v < rows.length), ∀ u ∈ rows[v], 0 ≤ u ∧ ∃ a b, u.toNat < rk.length ∧ rk[v]? = some a ∧ rk[u.toNat]? = some b ∧ a < b) :
    Calls Try.prog 17 #[sv, rv] w fun e w' => e = .returned (.bool true) ∧ Below w.heap.size w w' := by
  obtain ⟨a, c, rfl, hTc⟩ := hT
  obtain ⟨ra, rc, rfl, hRc⟩ := hR
  refine enter (args := [.slice a rows.length c, .slice ra rk.length rc]) Try.func17 rfl Try.ntmps17 rfl ?_
  generalize hQ : bodyPost Try.prog Try.f17 _ = Q
  have s0 : frame0 [Value.slice a rows.length c, .slice ra rk.length rc] 0 = .slice a rows.length c := rfl
  have s1 : frame0 [Value.slice a rows.length c, .slice ra rk.length rc] 1 = .slice ra rk.length rc := rfl
  generalize frame0 [Value.slice a rows.length c, .slice ra rk.length rc] = σ at *
  refine wp_seq_k (fun K27 hK27 => ?_)
  refine reg ?_
  refine sq rfl (do_assign ck) ?_
  refine wnil ?_
  refine hK27 _ _ ?_
  clear hK27
  refine wp_seq_k (fun K28 hK28 => ?_)
  refine wp_seq_k (fun K29 hK29 => ?_)
  refine reg ?_
  refine sq rfl (do_move (tm rfl (nx rfl s0))) ?_
  refine sq rfl (do_len Try.underlying37 (tm rfl hit)) ?_
  refine sq rfl (do_move (tm rfl (nx rfl (nx rfl (nx rfl s1))))) ?_
  refine sq rfl (do_len Try.underlying22 (tm rfl hit)) ?_
  refine sq rfl (do_neq (tm rfl (nx rfl (nx rfl hit))) (tm rfl hit)) ?_
  refine cutL ?_
  intro τ30 e30
  have c30_0 := (congrFun e30 0).trans (nx rfl (nx rfl (nx rfl (nx rfl (nx rfl (nx rfl s0))))))
  have c30_1 := (congrFun e30 1).trans (nx rfl (nx rfl (nx rfl (nx rfl (nx rfl (nx rfl s1))))))
  have c30_4 := (congrFun e30 4).trans (nx rfl (nx rfl (nx rfl (nx rfl (nx rfl hit)))))
  have c30_13 := (congrFun e30 13).trans hit
  clear e30
  refine wnil ?_
  refine hK29 _ _ ?_
  clear hK29
  refine cF rfl c30_13 (by simp [hl]) ?_
  refine wp_skip ?_
  refine hK28 _ _ ?_
  clear hK28
  refine wp_seq_k (fun K31 hK31 => ?_)
  refine wp_seq_k (fun K32 hK32 => ?_)
  refine reg ?_
  refine sq rfl (do_move (tm rfl c30_0)) ?_
  refine sq rfl (do_len Try.underlying37 (tm rfl hit)) ?_
  refine sq rfl (do_move (v := .int .i64 ((0 : Nat) : Int)) rfl) ?_
  refine wnil ?_
  refine hK32 _ _ ?_
  clear hK32
  refine forLoop (N := 48) (fun k τ wi => ∃ i, k = rows.length - i ∧ i ≤ rows.length ∧ τ 1 = .slice ra rk.length rc ∧ τ 14 = .slice a rows.length c ∧ τ 15 = .int .i64 (rows.length : Int) ∧ τ 16 = .int .i64 (i : Int) ∧ Below w.heap.size w wi)
    (fun τ wi => Below w.heap.size w wi) rows.length ?_ ?_ ?_
  · exact ⟨0, rfl, Nat.zero_le _, (nx rfl (nx rfl (nx rfl c30_1))), (nx rfl (nx rfl hit)), (nx rfl hit), hit, Below.refl _ _⟩
  · clear s0 s1
    rintro Q' k τ wi hnn hx hr ⟨i, rfl, hi, t1, t14, t15, t16, hbel⟩
    refine wp_seq_k (fun K33 hK33 => ?_)
    refine reg ?_
    refine sq rfl (do_lss (tm rfl t16) (tm rfl t15)) ?_
    refine wnil ?_
    refine hK33 _ _ ?_
    clear hK33
    by_cases h : i < rows.length
    · refine wp_seq_k (fun K34 hK34 => ?_)
      refine cT rfl hit (by simpa using h) ?_
      refine wp_skip ?_
      refine hK34 _ _ ?_
      clear hK34
      obtain ⟨b, o, rv, rfl, hcc, hrow⟩ := hTc i h
      have hcw : wi.cell? ⟨b, o + i, none⟩ = some rv := by rw [hbel.cell (World.block_lt_of_cell? w _ hcc)]; exact hcc
      obtain ⟨ia, ic, rfl, hic⟩ := hrow
      have hrl := l2 rows[i] (List.getElem_mem _)
      refine wp_seq_k (fun K35 hK35 => ?_)
      refine wp_block ?_
      refine wp_seq_k (fun K36 hK36 => ?_)
      refine reg ?_
      refine sq rfl (do_move (tm rfl (nx rfl t16))) ?_
      refine sq rfl (io37 (tm rfl (nx rfl (nx rfl t14))) (tm rfl (nx rfl (nx rfl t16))) (by omega)) ?_
      refine sq rfl (do_load T22 rfl (tm rfl hit) hcw) ?_
      refine sq rfl (do_assign (tm rfl (nx rfl (nx rfl hit)))) ?_
      refine sq rfl (do_assign (tm rfl (nx rfl hit))) ?_
      refine cutL ?_
      intro τ37 e37
      have c37_1 := (congrFun e37 1).trans (nx rfl (nx rfl (nx rfl (nx rfl (nx rfl (nx rfl t1))))))
      have c37_5 := (congrFun e37 5).trans (nx rfl hit)
      have c37_6 := (congrFun e37 6).trans hit
      have c37_14 := (congrFun e37 14).trans (nx rfl (nx rfl (nx rfl (nx rfl (nx rfl (nx rfl t14))))))
      have c37_15 := (congrFun e37 15).trans (nx rfl (nx rfl (nx rfl (nx rfl (nx rfl (nx rfl t15))))))
      have c37_16 := (congrFun e37 16).trans (nx rfl (nx rfl (nx rfl (nx rfl (nx rfl (nx rfl t16))))))
      clear e37
      refine wnil ?_
      refine hK36 _ _ ?_
      clear hK36
      refine wp_seq_k (fun K38 hK38 => ?_)
      refine reg ?_
      refine sq rfl (do_move (tm rfl c37_6)) ?_
      refine sq rfl (do_len Try.underlying22 (tm rfl hit)) ?_
      refine sq rfl (do_move (v := .int .i64 ((0 : Nat) : Int)) rfl) ?_
      refine wnil ?_
      refine hK38 _ _ ?_
      clear hK38
      refine forLoop (N := 48) (fun k τ wj => ∃ j, k = rows[i].length - j ∧ j ≤ rows[i].length ∧ τ 1 = .slice ra rk.length rc ∧ τ 5 = .int .i64 (i : Int) ∧ τ 14 = .slice (some ⟨b, o, none⟩) rows.length c ∧ τ 15 = .int .i64 (rows.length : Int) ∧ τ 16 = .int .i64 (i : Int) ∧
          τ 21 = .slice ia rows[i].length ic ∧ τ 22 = .int .i64 (rows[i].length : Int) ∧ τ 23 = .int .i64 (j : Int) ∧ Below w.heap.size w wj)
        (fun τ wj => τ 1 = .slice ra rk.length rc ∧ τ 14 = .slice (some ⟨b, o, none⟩) rows.length c ∧ τ 15 = .int .i64 (rows.length : Int) ∧ τ 16 = .int .i64 (i : Int) ∧ Below w.heap.size w wj) rows[i].length ?_ ?_ ?_
      · exact ⟨0, rfl, Nat.zero_le _, (nx rfl (nx rfl (nx rfl c37_1))), (nx rfl (nx rfl (nx rfl c37_5))), (nx rfl (nx rfl (nx rfl c37_14))), (nx rfl (nx rfl (nx rfl c37_15))), (nx rfl (nx rfl (nx rfl c37_16))), (nx rfl (nx rfl hit)), (nx rfl hit), hit, hbel⟩
      · rintro Q'' k ξ wj hnn' hx' hr' ⟨j, rfl, hj, x1, x5, x14, x15, x16, x21, x22, x23, hbj⟩
        refine wp_seq_k (fun K39 hK39 => ?_)
        refine reg ?_
        refine sq rfl (do_lss (tm rfl x23) (tm rfl x22)) ?_
        refine wnil ?_
        refine hK39 _ _ ?_
        clear hK39
        by_cases h' : j < rows[i].length
        · refine wp_seq_k (fun K40 hK40 => ?_)
          refine cT rfl hit (by simpa using h') ?_
          refine wp_skip ?_
          refine hK40 _ _ ?_
          clear hK40
          obtain ⟨jb, jo, rfl, hjc⟩ := hic j h'
          have hjw : wj.cell? ⟨jb, jo + j, none⟩ = some (.int .i64 rows[i][j]) := by rw [hbj.cell (World.block_lt_of_cell? w _ hjc)]; exact hjc
          obtain ⟨hu0, x, y, hul, hx1, hy1, hxy⟩ := hrk i h rows[i][j] (List.getElem_mem _)
          refine wp_seq_k (fun K41 hK41 => ?_)
          refine wp_block ?_
          refine wp_seq_k (fun K42 hK42 => ?_)
          refine reg ?_
          refine sq rfl (io22 (tm rfl (nx rfl x21)) (tm rfl (nx rfl x23)) (by omega)) ?_
          refine sq rfl (do_load T3 rfl (tm rfl hit) hjw) ?_
          refine sq rfl (do_assign (tm rfl hit)) ?_
          refine cutL ?_
          intro τ43 e43
          have c43_1 := (congrFun e43 1).trans (nx rfl (nx rfl (nx rfl (nx rfl x1))))
          have c43_5 := (congrFun e43 5).trans (nx rfl (nx rfl (nx rfl (nx rfl x5))))
          have c43_8 := (congrFun e43 8).trans hit
          have c43_14 := (congrFun e43 14).trans (nx rfl (nx rfl (nx rfl (nx rfl x14))))
          have c43_15 := (congrFun e43 15).trans (nx rfl (nx rfl (nx rfl (nx rfl x15))))
          have c43_16 := (congrFun e43 16).trans (nx rfl (nx rfl (nx rfl (nx rfl x16))))
          have c43_21 := (congrFun e43 21).trans (nx rfl (nx rfl (nx rfl (nx rfl x21))))
          have c43_22 := (congrFun e43 22).trans (nx rfl (nx rfl (nx rfl (nx rfl x22))))
          have c43_23 := (congrFun e43 23).trans (nx rfl (nx rfl (nx rfl (nx rfl x23))))
          clear e43
          refine wnil ?_
          refine hK42 _ _ ?_
          clear hK42
          generalize hue : rows[i][j] = u at *
          obtain ⟨un, rfl⟩ : ∃ un : Nat, u = (un : Int) := ⟨u.toNat, by omega⟩
          rw [Int.toNat_natCast] at hul hy1
          obtain ⟨b1, o1, rfl, hv1⟩ := hRc i (by omega)
          obtain ⟨b2, o2, e2, hv2⟩ := hRc un hul
          cases e2
          rw [List.getElem?_eq_getElem (by omega)] at hx1
          injection hx1 with hx1
          rw [List.getElem?_eq_getElem hul] at hy1
          injection hy1 with hy1
          have c1 : wj.cell? ⟨b1, o1 + i, none⟩ = some (.int .i64 x) := by rw [hbj.cell (World.block_lt_of_cell? w _ hv1), hv1, hx1]
          have c2 : wj.cell? ⟨b1, o1 + un, none⟩ = some (.int .i64 y) := by rw [hbj.cell (World.block_lt_of_cell? w _ hv2), hv2, hy1]
          refine wp_seq_k (fun K44 hK44 => ?_)
          refine draw mixed [] [(0, 0), (0, 0), (0, 0), (0, 0), (0, 0), (0, 0), (0, 0), (0, 0), (0, 0), (0, 0), (0, 0), (0, 0), (0, 0), (0, 0), (0, 0), (0, 0), (0, 0), (0, 0), (0, 0)] [] (World.drew _) (upd (upd (upd (upd (upd (upd (upd (upd (upd (upd (upd (upd (upd (upd (upd (upd (upd (upd (upd _ 27 _) 28 _) 29 _) 30 _) 31 _) 32 _) 33 _) 34 _) 35 _) 36 _) 37 _) 38 _) 39 _) 40 _) 41 _) 42 _) 43 _) 44 _) 45 _) (by kernel_rfl) (fun s hs => ovr_off [(27, _), (28, _), (29, _), (30, _), (31, _), (32, _), (33, _), (34, _), (35, _), (36, _), (37, _), (38, _), (39, _), (40, _), (41, _), (42, _), (43, _), (44, _), (45, _)] _ s hs) ⟨(qa rfl (fun _ => (do_move (tm rfl (nx rfl (nx rfl (nx rfl (nx rfl (nx rfl (nx rfl (nx rfl (nx rfl (nx rfl (nx rfl (nx rfl (nx rfl (nx rfl (nx rfl (nx rfl (nx rfl (nx rfl (nx rfl (nx rfl c43_8)))))))))))))))))))))) (nx rfl (nx rfl (nx rfl (nx rfl (nx rfl (nx rfl (nx rfl (nx rfl (nx rfl (nx rfl (nx rfl (nx rfl (nx rfl (nx rfl (nx rfl (nx rfl (nx rfl (nx rfl hit))))))))))))))))))), (qa rfl (fun _ => (do_lssF (tm rfl (nx rfl (nx rfl (nx rfl (nx rfl (nx rfl (nx rfl (nx rfl (nx rfl (nx rfl (nx rfl (nx rfl (nx rfl (nx rfl (nx rfl (nx rfl (nx rfl (nx rfl (nx rfl hit))))))))))))))))))) ck (by omega))) (nx rfl (nx rfl (nx rfl (nx rfl (nx rfl (nx rfl (nx rfl (nx rfl (nx rfl (nx rfl (nx rfl (nx rfl (nx rfl (nx rfl (nx rfl (nx rfl (nx rfl hit)))))))))))))))))), (qa rfl (fun _ => (do_move (tm rfl (nx rfl (nx rfl (nx rfl (nx rfl (nx rfl (nx rfl (nx rfl (nx rfl (nx rfl (nx rfl (nx rfl (nx rfl (nx rfl (nx rfl (nx rfl (nx rfl (nx rfl hit)))))))))))))))))))) (nx rfl (nx rfl (nx rfl (nx rfl (nx rfl (nx rfl (nx rfl (nx rfl (nx rfl (nx rfl (nx rfl (nx rfl (nx rfl (nx rfl (nx rfl (nx rfl hit))))))))))))))))), (qgk rfl rfl rfl (nx rfl (nx rfl (nx rfl (nx rfl (nx rfl (nx rfl (nx rfl (nx rfl (nx rfl (nx rfl (nx rfl (nx rfl (nx rfl (nx rfl (nx rfl (nx rfl hit)))))))))))))))) (do_move (tm rfl (nx rfl (nx rfl (nx rfl (nx rfl (nx rfl (nx rfl (nx rfl (nx rfl (nx rfl (nx rfl (nx rfl (nx rfl (nx rfl (nx rfl (nx rfl (nx rfl (nx rfl (nx rfl (nx rfl c43_8))))))))))))))))))))) (nx rfl (nx rfl (nx rfl (nx rfl (nx rfl (nx rfl (nx rfl (nx rfl (nx rfl (nx rfl (nx rfl (nx rfl (nx rfl (nx rfl (nx rfl hit)))))))))))))))), (qgk rfl rfl rfl (nx rfl (nx rfl (nx rfl (nx rfl (nx rfl (nx rfl (nx rfl (nx rfl (nx rfl (nx rfl (nx rfl (nx rfl (nx rfl (nx rfl (nx rfl (nx rfl hit)))))))))))))))) (do_move (tm rfl (nx rfl (nx rfl (nx rfl (nx rfl (nx rfl (nx rfl (nx rfl (nx rfl (nx rfl (nx rfl (nx rfl (nx rfl (nx rfl (nx rfl (nx rfl (nx rfl (nx rfl (nx rfl (nx rfl c43_1))))))))))))))))))))) (nx rfl (nx rfl (nx rfl (nx rfl (nx rfl (nx rfl (nx rfl (nx rfl (nx rfl (nx rfl (nx rfl (nx rfl (nx rfl (nx rfl hit))))))))))))))), (qgk rfl rfl rfl (nx rfl (nx rfl (nx rfl (nx rfl (nx rfl (nx rfl (nx rfl (nx rfl (nx rfl (nx rfl (nx rfl (nx rfl (nx rfl (nx rfl (nx rfl (nx rfl hit)))))))))))))))) (do_len Try.underlying22 (tm rfl (nx rfl (nx rfl (nx rfl (nx rfl (nx rfl (nx rfl (nx rfl (nx rfl (nx rfl (nx rfl (nx rfl (nx rfl (nx rfl (nx rfl hit)))))))))))))))) (nx rfl (nx rfl (nx rfl (nx rfl (nx rfl (nx rfl (nx rfl (nx rfl (nx rfl (nx rfl (nx rfl (nx rfl (nx rfl hit)))))))))))))), (qgk rfl rfl rfl (nx rfl (nx rfl (nx rfl (nx rfl (nx rfl (nx rfl (nx rfl (nx rfl (nx rfl (nx rfl (nx rfl (nx rfl (nx rfl (nx rfl (nx rfl (nx rfl hit)))))))))))))))) (do_geqF (tm rfl (nx rfl (nx rfl (nx rfl (nx rfl (nx rfl (nx rfl (nx rfl (nx rfl (nx rfl (nx rfl (nx rfl (nx rfl (nx rfl (nx rfl (nx rfl hit)))))))))))))))) (tm rfl (nx rfl (nx rfl (nx rfl (nx rfl (nx rfl (nx rfl (nx rfl (nx rfl (nx rfl (nx rfl (nx rfl (nx rfl (nx rfl hit)))))))))))))) (by omega)) (nx rfl (nx rfl (nx rfl (nx rfl (nx rfl (nx rfl (nx rfl (nx rfl (nx rfl (nx rfl (nx rfl (nx rfl hit))))))))))))), (qa rfl (fun _ => (do_pickF (tm rfl (nx rfl (nx rfl (nx rfl (nx rfl (nx rfl (nx rfl (nx rfl (nx rfl (nx rfl (nx rfl (nx rfl (nx rfl (nx rfl (nx rfl (nx rfl (nx rfl hit))))))))))))))))) (tm rfl (nx rfl (nx rfl (nx rfl (nx rfl (nx rfl (nx rfl (nx rfl (nx rfl (nx rfl (nx rfl (nx rfl (nx rfl hit))))))))))))))) (nx rfl (nx rfl (nx rfl (nx rfl (nx rfl (nx rfl (nx rfl (nx rfl (nx rfl (nx rfl (nx rfl hit)))))))))))), (qa rfl (fun _ => (do_move (tm rfl (nx rfl (nx rfl (nx rfl (nx rfl (nx rfl (nx rfl (nx rfl (nx rfl (nx rfl (nx rfl (nx rfl hit)))))))))))))) (nx rfl (nx rfl (nx rfl (nx rfl (nx rfl (nx rfl (nx rfl (nx rfl (nx rfl (nx rfl hit))))))))))), (qgk rfl rfl rfl (nx rfl (nx rfl (nx rfl (nx rfl (nx rfl (nx rfl (nx rfl (nx rfl (nx rfl (nx rfl hit)))))))))) (do_move (tm rfl (nx rfl (nx rfl (nx rfl (nx rfl (nx rfl (nx rfl (nx rfl (nx rfl (nx rfl (nx rfl (nx rfl (nx rfl (nx rfl (nx rfl (nx rfl (nx rfl (nx rfl (nx rfl (nx rfl c43_1))))))))))))))))))))) (nx rfl (nx rfl (nx rfl (nx rfl (nx rfl (nx rfl (nx rfl (nx rfl (nx rfl hit)))))))))), (qgk rfl rfl rfl (nx rfl (nx rfl (nx rfl (nx rfl (nx rfl (nx rfl (nx rfl (nx rfl (nx rfl (nx rfl hit)))))))))) (do_move (tm rfl (nx rfl (nx rfl (nx rfl (nx rfl (nx rfl (nx rfl (nx rfl (nx rfl (nx rfl (nx rfl (nx rfl (nx rfl (nx rfl (nx rfl (nx rfl (nx rfl (nx rfl (nx rfl (nx rfl c43_5))))))))))))))))))))) (nx rfl (nx rfl (nx rfl (nx rfl (nx rfl (nx rfl (nx rfl (nx rfl hit))))))))), (qgk rfl rfl rfl (nx rfl (nx rfl (nx rfl (nx rfl (nx rfl (nx rfl (nx rfl (nx rfl (nx rfl (nx rfl hit)))))))))) (io22 (tm rfl (nx rfl (nx rfl (nx rfl (nx rfl (nx rfl (nx rfl (nx rfl (nx rfl (nx rfl hit)))))))))) (tm rfl (nx rfl (nx rfl (nx rfl (nx rfl (nx rfl (nx rfl (nx rfl (nx rfl hit))))))))) (by omega)) (nx rfl (nx rfl (nx rfl (nx rfl (nx rfl (nx rfl (nx rfl hit)))))))), (qgk rfl rfl rfl (nx rfl (nx rfl (nx rfl (nx rfl (nx rfl (nx rfl (nx rfl (nx rfl (nx rfl (nx rfl hit)))))))))) (do_load T3 rfl (tm rfl (nx rfl (nx rfl (nx rfl (nx rfl (nx rfl (nx rfl (nx rfl hit)))))))) c1) (nx rfl (nx rfl (nx rfl (nx rfl (nx rfl (nx rfl hit))))))), (qgk rfl rfl rfl (nx rfl (nx rfl (nx rfl (nx rfl (nx rfl (nx rfl (nx rfl (nx rfl (nx rfl (nx rfl hit)))))))))) (do_move (tm rfl (nx rfl (nx rfl (nx rfl (nx rfl (nx rfl (nx rfl (nx rfl (nx rfl (nx rfl (nx rfl (nx rfl (nx rfl (nx rfl (nx rfl (nx rfl (nx rfl (nx rfl (nx rfl (nx rfl c43_1))))))))))))))))))))) (nx rfl (nx rfl (nx rfl (nx rfl (nx rfl hit)))))), (qgk rfl rfl rfl (nx rfl (nx rfl (nx rfl (nx rfl (nx rfl (nx rfl (nx rfl (nx rfl (nx rfl (nx rfl hit)))))))))) (do_move (tm rfl (nx rfl (nx rfl (nx rfl (nx rfl (nx rfl (nx rfl (nx rfl (nx rfl (nx rfl (nx rfl (nx rfl (nx rfl (nx rfl (nx rfl (nx rfl (nx rfl (nx rfl (nx rfl (nx rfl c43_8))))))))))))))))))))) (nx rfl (nx rfl (nx rfl (nx rfl hit))))), (qgk rfl rfl rfl (nx rfl (nx rfl (nx rfl (nx rfl (nx rfl (nx rfl (nx rfl (nx rfl (nx rfl (nx rfl hit)))))))))) (io22 (tm rfl (nx rfl (nx rfl (nx rfl (nx rfl (nx rfl hit)))))) (tm rfl (nx rfl (nx rfl (nx rfl (nx rfl hit))))) (by omega)) (nx rfl (nx rfl (nx rfl hit)))), (qgk rfl rfl rfl (nx rfl (nx rfl (nx rfl (nx rfl (nx rfl (nx rfl (nx rfl (nx rfl (nx rfl (nx rfl hit)))))))))) (do_load T3 rfl (tm rfl (nx rfl (nx rfl (nx rfl hit)))) c2) (nx rfl (nx rfl hit))), (qgk rfl rfl rfl (nx rfl (nx rfl (nx rfl (nx rfl (nx rfl (nx rfl (nx rfl (nx rfl (nx rfl (nx rfl hit)))))))))) (do_geqF (tm rfl (nx rfl (nx rfl (nx rfl (nx rfl (nx rfl (nx rfl hit))))))) (tm rfl (nx rfl (nx rfl hit))) (by omega)) (nx rfl hit)), (qa rfl (fun _ => (do_pickF (tm rfl (nx rfl (nx rfl (nx rfl (nx rfl (nx rfl (nx rfl (nx rfl (nx rfl (nx rfl (nx rfl hit))))))))))) (tm rfl (nx rfl hit)))) hit), trivial⟩ rfl ?_
          intro τ45 e45
          have c45_1 := (congrFun e45 1).trans (nx rfl (nx rfl (nx rfl (nx rfl (nx rfl (nx rfl (nx rfl (nx rfl (nx rfl (nx rfl (nx rfl (nx rfl (nx rfl (nx rfl (nx rfl (nx rfl (nx rfl (nx rfl (nx rfl c43_1)))))))))))))))))))
          have c45_5 := (congrFun e45 5).trans (nx rfl (nx rfl (nx rfl (nx rfl (nx rfl (nx rfl (nx rfl (nx rfl (nx rfl (nx rfl (nx rfl (nx rfl (nx rfl (nx rfl (nx rfl (nx rfl (nx rfl (nx rfl (nx rfl c43_5)))))))))))))))))))
          have c45_8 := (congrFun e45 8).trans (nx rfl (nx rfl (nx rfl (nx rfl (nx rfl (nx rfl (nx rfl (nx rfl (nx rfl (nx rfl (nx rfl (nx rfl (nx rfl (nx rfl (nx rfl (nx rfl (nx rfl (nx rfl (nx rfl c43_8)))))))))))))))))))
          have c45_14 := (congrFun e45 14).trans (nx rfl (nx rfl (nx rfl (nx rfl (nx rfl (nx rfl (nx rfl (nx rfl (nx rfl (nx rfl (nx rfl (nx rfl (nx rfl (nx rfl (nx rfl (nx rfl (nx rfl (nx rfl (nx rfl c43_14)))))))))))))))))))
          have c45_15 := (congrFun e45 15).trans (nx rfl (nx rfl (nx rfl (nx rfl (nx rfl (nx rfl (nx rfl (nx rfl (nx rfl (nx rfl (nx rfl (nx rfl (nx rfl (nx rfl (nx rfl (nx rfl (nx rfl (nx rfl (nx rfl c43_15)))))))))))))))))))
          have c45_16 := (congrFun e45 16).trans (nx rfl (nx rfl (nx rfl (nx rfl (nx rfl (nx rfl (nx rfl (nx rfl (nx rfl (nx rfl (nx rfl (nx rfl (nx rfl (nx rfl (nx rfl (nx rfl (nx rfl (nx rfl (nx rfl c43_16)))))))))))))))))))
          have c45_21 := (congrFun e45 21).trans (nx rfl (nx rfl (nx rfl (nx rfl (nx rfl (nx rfl (nx rfl (nx rfl (nx rfl (nx rfl (nx rfl (nx rfl (nx rfl (nx rfl (nx rfl (nx rfl (nx rfl (nx rfl (nx rfl c43_21)))))))))))))))))))
          have c45_22 := (congrFun e45 22).trans (nx rfl (nx rfl (nx rfl (nx rfl (nx rfl (nx rfl (nx rfl (nx rfl (nx rfl (nx rfl (nx rfl (nx rfl (nx rfl (nx rfl (nx rfl (nx rfl (nx rfl (nx rfl (nx rfl c43_22)))))))))))))))))))
          have c45_23 := (congrFun e45 23).trans (nx rfl (nx rfl (nx rfl (nx rfl (nx rfl (nx rfl (nx rfl (nx rfl (nx rfl (nx rfl (nx rfl (nx rfl (nx rfl (nx rfl (nx rfl (nx rfl (nx rfl (nx rfl (nx rfl c43_23)))))))))))))))))))
          have c45_45 := (congrFun e45 45).trans hit
          clear e45
          refine hK44 _ _ ?_
          clear hK44
          refine cF rfl c45_45 rfl ?_
          refine wp_skip ?_
          refine inBN ?_
          refine hK41 _ _ ?_
          clear hK41
          refine reg ?_
          refine sq rfl (do_inc (tm rfl c45_23) ck (by omega)) ?_
          refine sq rfl (do_move (tm rfl hit)) ?_
          refine wnil ?_
          exact hnn' (rows[i].length - (j + 1)) _ _ (by omega) ⟨j + 1, rfl, by omega, (nx rfl (nx rfl c45_1)), (nx rfl (nx rfl c45_5)), (nx rfl (nx rfl c45_14)), (nx rfl (nx rfl c45_15)), (nx rfl (nx rfl c45_16)), (nx rfl (nx rfl c45_21)), (nx rfl (nx rfl c45_22)), hit, hbj.drew⟩
        · refine wp_seq_k (fun K46 hK46 => ?_)
          refine cF rfl hit (by simpa using h') ?_
          refine wp_exit ?_
          refine thenE ?_
          exact hx' _ _ ⟨(nx rfl x1), (nx rfl x14), (nx rfl x15), (nx rfl x16), hbj⟩
      clear t1 t14 t15 t16
      rintro τ wj ⟨t1, t14, t15, t16, hbj⟩
      refine inBN ?_
      refine hK35 _ _ ?_
      clear hK35
      refine reg ?_
      refine sq rfl (do_inc (tm rfl t16) ck (by omega)) ?_
      refine sq rfl (do_move (tm rfl hit)) ?_
      refine wnil ?_
      exact hnn (rows.length - (i + 1)) _ _ (by omega) ⟨i + 1, rfl, by omega, (nx rfl (nx rfl t1)), (nx rfl (nx rfl t14)), (nx rfl (nx rfl t15)), hit, hbj⟩
    · refine wp_seq_k (fun K47 hK47 => ?_)
      refine cF rfl hit (by simpa using h) ?_
      refine wp_exit ?_
      refine thenE ?_
      exact hx _ _ hbel
  clear s0 s1
  rintro τ wi hbel
  refine hK31 _ _ ?_
  clear hK31
  refine wp_seq_k (fun K48 hK48 => ?_)
  refine reg ?_
  refine sq rfl (do_assign ck) ?_
  refine wnil ?_
  refine hK48 _ _ ?_
  clear hK48
  refine wp_ret ?_
  rw [← hQ]
  exact ret1 rfl rfl hit ⟨rfl, hbel⟩
end Go.Proofs.Qxb6001364a
