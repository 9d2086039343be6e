/-
  stuck's closure edge; its graph.
-/
import Derived.Test.Qxb6001364aV18
import Derived.Test.Qxb6001364aM5
import Derived.Test.Qxb6001364aDn
namespace Go.Proofs.Qxb6001364a
open Go.Fra Go.RowKit Pl
set_option maxRecDepth 100000
set_option linter.unusedVariables false

/-- A push to a table that a variable holds. -/
theorem pushQ {N : Nat} {w0 w : World} {G : Nat → Part} {vb tv t : Nat} {vty : TypeId} {v : Value} {rows : List (List Int)} (hp : VB (G tv) vb vty [v]) (hT : TabV (G t) 22 3 1 encI v rows) (hs : Split N w0 w G) (h28 : Nat.beq t 28 = false) (h1 : tv ∉ [28]) (h2 : tv ∉ [t, 28])
    {i : Nat} (hi : i < rows.length) (z : Int) (hb : rows[i].length + 1 ≤ 1099511627776) :
    ∃ g cap cell v' w2 G3, v = .slice (some ⟨g, 0, none⟩) rows.length cap ∧
      (∀ j, j ≤ 2 → (stg w [w.alloc (.cells #[.int .i64 z] 3), w2, w2.setCell ⟨g, i, none⟩ v'] j).cell? ⟨vb, 0, none⟩ = some (.slice (some ⟨g, 0, none⟩) rows.length cap)) ∧
      (∀ j, j ≤ 1 → (stg w [w.alloc (.cells #[.int .i64 z] 3), w2, w2.setCell ⟨g, i, none⟩ v'] j).cell? ⟨g, i, none⟩ = some cell) ∧
      (∀ (ρ : Operand → Value) (dst : Option Tmp) (ty : TypeId) (pos : String) (aft : Array Edge) (gg : Option (Nat × Bool)) (x y : Operand), ρ x = cell → ρ y = .slice (some ⟨w.heap.size, 0, none⟩) 1 1 →
        Does Try.prog ⟨dst, .call { callee := .builtin .append, args := #[x, y], argTypes := #[22, 22] }, ty, pos, aft, gg⟩ ρ (w.alloc (.cells #[.int .i64 z] 3)) v' w2) ∧
      (∀ (ρ : Operand → Value) (dst : Option Tmp) (ty : TypeId) (pos : String) (aft : Array Edge) (gg : Option (Nat × Bool)) (x y : Operand), ρ x = .pointer (some ⟨g, i, none⟩) → ρ y = v' →
        Does Try.prog ⟨dst, .store 22 x y, ty, pos, aft, gg⟩ ρ w2 undef (w2.setCell ⟨g, i, none⟩ v')) ∧
      Same [t, 28] G G3 ∧ Split N w0 (w2.setCell ⟨g, i, none⟩ v') G3 ∧ TabV (G3 t) 22 3 1 encI v (rows.set i (rows[i] ++ [z])) := by
  obtain ⟨g, cap, cell, v', w2, G1, G2, G3, hv, hca, hcb, hapT, hstT, j1, j2, j3, g1, g2, g3, hT6⟩ := TabV.pushR (t := t) (j := 28) T22 T3 T22 rfl (by decide) (by decide) hT hs h28 hi z #[.int .i64 z] rfl rfl (one_I _) hb
  subst hv
  refine ⟨g, cap, cell, v', w2, G3, rfl, ?_, ?_, hapT, hstT, j3, g3, hT6⟩
  · exact le2 (p := fun j => (stg w [w.alloc (.cells #[.int .i64 z] 3), w2, w2.setCell ⟨g, i, none⟩ v'] j).cell? ⟨vb, 0, none⟩ = some (.slice (some ⟨g, 0, none⟩) rows.length cap)) (hp.cell hs rfl) ((j1.vb h1 hp).cell g1 rfl) ((j2.vb h2 hp).cell g2 rfl)
  · exact le1 (p := fun j => (stg w [w.alloc (.cells #[.int .i64 z] 3), w2, w2.setCell ⟨g, i, none⟩ v'] j).cell? ⟨g, i, none⟩ = some cell) hca hcb
theorem rowPutI {N : Nat} {w0 w : World} {H : Nat → Part} {t : Nat} {a : Option Addr} {m c : Nat} {zs : List Int} (h : RowV (H t) 3 1 (.slice a m c) zs.length (zs.flatMap encI)) (hs : Split N w0 w H) {j : Nat} (hj : j < zs.length) (z : Int) :
    ∃ g H', a = some ⟨g, 0, none⟩ ∧ w.cell? ⟨g, j, none⟩ = some (.int .i64 zs[j]) ∧ w.frozen? ⟨g, j, none⟩ = false ∧ Same [t] H H' ∧ Split N w0 (w.setCell ⟨g, j, none⟩ (.int .i64 z)) H' ∧ RowV (H' t) 3 1 (.slice a m c) (zs.set j z).length ((zs.set j z).flatMap encI) := by
  obtain ⟨g, ha, hc, hf⟩ := h.cellS hs (cellI hj)
  obtain ⟨g', cap, V', hv, hs', hr', _⟩ := h.set hs (j := j) hj (.int .i64 z)
  injection hv with e1 e2 e3
  subst e1
  injection ha with e1
  injection e1 with e1
  subst e1
  refine ⟨g', _, rfl, hc, hf, Same.upd (by simp), hs', ?_⟩
  rw [updH_hit, List.length_set, flat_I, ← ints_set, ← flat_I]
  exact hr'

theorem edge40 {N : Nat} {w0 w : World} {G : Nat → Part} (hs : Split N w0 w G) (a b bsv bpv bv sb c : Nat) (sv : Value) (pa : Option Addr) (pm pc : Nat) (scs : List Value) (l : Int) (rows : List (List Int)) (preds : List Int) (hsv : VB (G 60) bsv 37 [sv]) (hT : TabV (G 61) 22 3 1 encI sv rows) (hpv : VB (G 62) bpv 22 [.slice pa pm pc]) (hpm : pm = preds.length) (hpr : RowV (G 63) 3 1 (.slice pa pm pc) preds.length (preds.flatMap encI))
    (hv : VB (G 64) bv 45 [.pointer (some ⟨sb, 0, none⟩)]) (hsb : VB (G 40) sb 72 scs) (hl : scs[12]? = some (.int .i64 l)) (ha : a < rows.length) (hb : b < preds.length) (hc : preds[b]? = some (c : Int)) (hcb : c ≤ 1099511627776) (hrl : rows[a].length + 1 ≤ 1099511627776) (hl1 : -1099511627776 ≤ l) (hl2 : l ≤ 1099511627776) :
    Calls Try.prog 40 (#[.int .i64 (a : Int), .int .i64 (b : Int)] ++ #[.pointer (some ⟨bsv, 0, none⟩), .pointer (some ⟨bpv, 0, none⟩), .pointer (some ⟨bv, 0, none⟩)]) w fun e w' => ∃ v, e = .returned v ∧ ∃ G', Split N w0 w' G' ∧ Same [28, 40, 61, 63] G G' ∧ TabV (G' 61) 22 3 1 encI sv (rows.set a (rows[a] ++ [(b : Int)])) ∧
      RowV (G' 63) 3 1 (.slice pa pm pc) (preds.set b ((c + 1 : Nat) : Int)).length ((preds.set b ((c + 1 : Nat) : Int)).flatMap encI) ∧ VB (G' 40) sb 72 (scs.set 12 (.int .i64 (l - 1))) := by
  subst hpm
  refine enter (args := [Value.int .i64 (a : Int), .int .i64 (b : Int), .pointer (some ⟨bsv, 0, none⟩), .pointer (some ⟨bpv, 0, none⟩), .pointer (some ⟨bv, 0, none⟩)]) Try.func40 rfl Try.ntmps40 rfl ?_
  generalize hQ : bodyPost Try.prog Try.f40 _ = Q
  have s0 : frame0 [Value.int .i64 (a : Int), .int .i64 (b : Int), .pointer (some ⟨bsv, 0, none⟩), .pointer (some ⟨bpv, 0, none⟩), .pointer (some ⟨bv, 0, none⟩)] 0 = .int .i64 (a : Int) := rfl
  have s1 : frame0 [Value.int .i64 (a : Int), .int .i64 (b : Int), .pointer (some ⟨bsv, 0, none⟩), .pointer (some ⟨bpv, 0, none⟩), .pointer (some ⟨bv, 0, none⟩)] 1 = .int .i64 (b : Int) := rfl
  have s2 : frame0 [Value.int .i64 (a : Int), .int .i64 (b : Int), .pointer (some ⟨bsv, 0, none⟩), .pointer (some ⟨bpv, 0, none⟩), .pointer (some ⟨bv, 0, none⟩)] 2 = .pointer (some ⟨bsv, 0, none⟩) := rfl
  have s3 : frame0 [Value.int .i64 (a : Int), .int .i64 (b : Int), .pointer (some ⟨bsv, 0, none⟩), .pointer (some ⟨bpv, 0, none⟩), .pointer (some ⟨bv, 0, none⟩)] 3 = .pointer (some ⟨bpv, 0, none⟩) := rfl
  have s4 : frame0 [Value.int .i64 (a : Int), .int .i64 (b : Int), .pointer (some ⟨bsv, 0, none⟩), .pointer (some ⟨bpv, 0, none⟩), .pointer (some ⟨bv, 0, none⟩)] 4 = .pointer (some ⟨bv, 0, none⟩) := rfl
  generalize frame0 [Value.int .i64 (a : Int), .int .i64 (b : Int), .pointer (some ⟨bsv, 0, none⟩), .pointer (some ⟨bpv, 0, none⟩), .pointer (some ⟨bv, 0, none⟩)] = σ at *
  obtain ⟨g, cap, cell, v', w2, J3, hvv, F, FC, hap, hst, j3, g3, hT6⟩ := pushQ (tv := 60) (t := 61) hsv hT hs.drew rfl (by decide) (by decide) ha (b : Int) hrl
  subst hvv
  refine wp_seq_k (fun K1 hK1 => ?_)
  refine draw mixed [7, 8, 10] [(0, 2), (0, 2), (0, 2), (0, 2), (0, 2), (0, 1), (0, 0), (0, 0), (1, 1), (2, 2), (2, 2)] [w.drew.alloc (.cells #[.int .i64 (b : Int)] 3), w2, w2.setCell ⟨g, a, none⟩ v'] (w2.setCell ⟨g, a, none⟩ v') (upd (upd (upd (upd (upd (upd (upd (upd (upd (upd _ 7 _) 8 _) 9 _) 10 _) 11 _) 12 _) 13 _) 14 _) 15 _) 16 _) (by kernel_rfl) (fun s hs => ovr_off [(7, _), (8, _), (9, _), (10, _), (11, _), (12, _), (13, _), (14, _), (15, _), (16, _)] _ s hs) ⟨(qr rfl (fun j h1 h2 => (do_load T37 rfl (tm rfl (nx rfl (nx rfl (nx rfl (nx rfl (nx rfl (nx rfl (nx rfl (nx rfl (nx rfl (nx rfl s2))))))))))) (F j (by omega)))) (nx rfl (nx rfl (nx rfl (nx rfl (nx rfl (nx rfl (nx rfl (nx rfl (nx rfl hit)))))))))), (qa rfl (fun _ => (do_move (tm rfl (nx rfl (nx rfl (nx rfl (nx rfl (nx rfl (nx rfl (nx rfl (nx rfl (nx rfl (nx rfl s0))))))))))))) (nx rfl (nx rfl (nx rfl (nx rfl (nx rfl (nx rfl (nx rfl (nx rfl hit))))))))), (qr rfl (fun j h1 h2 => (do_load T37 rfl (tm rfl (nx rfl (nx rfl (nx rfl (nx rfl (nx rfl (nx rfl (nx rfl (nx rfl (nx rfl (nx rfl s2))))))))))) (F j (by omega)))) (nx rfl (nx rfl (nx rfl (nx rfl (nx rfl (nx rfl (nx rfl hit)))))))), (qa rfl (fun _ => (do_move (tm rfl (nx rfl (nx rfl (nx rfl (nx rfl (nx rfl (nx rfl (nx rfl (nx rfl (nx rfl (nx rfl s0))))))))))))) (nx rfl (nx rfl (nx rfl (nx rfl (nx rfl (nx rfl hit))))))), (qa rfl (fun _ => (ix37 (tm rfl (nx rfl (nx rfl (nx rfl (nx rfl (nx rfl (nx rfl (nx rfl hit)))))))) (tm rfl (nx rfl (nx rfl (nx rfl (nx rfl (nx rfl (nx rfl hit))))))) (by omega))) (nx rfl (nx rfl (nx rfl (nx rfl (nx rfl hit)))))), (qr rfl (fun j h1 h2 => (do_load T22 rfl (tm rfl (nx rfl (nx rfl (nx rfl (nx rfl (nx rfl hit)))))) (FC j (by omega)))) (nx rfl (nx rfl (nx rfl (nx rfl hit))))), (qa rfl (fun _ => (do_move (tm rfl (nx rfl (nx rfl (nx rfl (nx rfl (nx rfl (nx rfl (nx rfl (nx rfl (nx rfl (nx rfl s1))))))))))))) (nx rfl (nx rfl (nx rfl hit)))), (ef rfl (do_bs1 T22 T3 rfl (tm rfl (nx rfl (nx rfl (nx rfl hit)))) rfl) (nx rfl (nx rfl hit))), (ef rfl (hap _ _ _ _ _ _ _ _ (tm rfl (nx rfl (nx rfl (nx rfl (nx rfl hit))))) (tm rfl (nx rfl (nx rfl hit)))) (nx rfl hit)), (qa rfl (fun _ => (ix37 (tm rfl (nx rfl (nx rfl (nx rfl (nx rfl (nx rfl (nx rfl (nx rfl (nx rfl (nx rfl hit)))))))))) (tm rfl (nx rfl (nx rfl (nx rfl (nx rfl (nx rfl (nx rfl (nx rfl (nx rfl hit))))))))) (by omega))) hit), (en rfl (hst _ _ _ _ _ _ _ _ (tm rfl hit) (tm rfl (nx rfl hit)))), trivial⟩ rfl ?_
  intro τ2 e2
  have c2_0 := (congrFun e2 0).trans (nx rfl (nx rfl (nx rfl (nx rfl (nx rfl (nx rfl (nx rfl (nx rfl (nx rfl (nx rfl s0))))))))))
  have c2_1 := (congrFun e2 1).trans (nx rfl (nx rfl (nx rfl (nx rfl (nx rfl (nx rfl (nx rfl (nx rfl (nx rfl (nx rfl s1))))))))))
  have c2_2 := (congrFun e2 2).trans (nx rfl (nx rfl (nx rfl (nx rfl (nx rfl (nx rfl (nx rfl (nx rfl (nx rfl (nx rfl s2))))))))))
  have c2_3 := (congrFun e2 3).trans (nx rfl (nx rfl (nx rfl (nx rfl (nx rfl (nx rfl (nx rfl (nx rfl (nx rfl (nx rfl s3))))))))))
  have c2_4 := (congrFun e2 4).trans (nx rfl (nx rfl (nx rfl (nx rfl (nx rfl (nx rfl (nx rfl (nx rfl (nx rfl (nx rfl s4))))))))))
  clear e2
  refine hK1 _ _ ?_
  clear hK1
  have hpv3 := j3.vb (t := 62) (by decide) hpv
  have hpr3 : RowV (J3 63) 3 1 (.slice pa preds.length pc) preds.length (preds.flatMap encI) := by rw [j3 63 (by decide)]; exact hpr
  have hv3 := j3.vb (t := 64) (by decide) hv
  have hsb3 := j3.vb (t := 40) (by decide) hsb
  generalize w2.setCell ⟨g, a, none⟩ v' = xw at *
  obtain ⟨gp, J4, rfl, hpc, hpf, j4, g4, hpr4⟩ := rowPutI hpr3 g3 hb ((c + 1 : Nat) : Int)
  have hpc' : xw.cell? ⟨gp, b, none⟩ = some (.int .i64 (c : Int)) := by
    rw [hpc]
    rw [List.getElem?_eq_getElem hb] at hc
    injection hc with hc
    rw [hc]
  refine wp_seq_k (fun K3 hK3 => ?_)
  refine reg ?_
  refine sq rfl (do_load T22 rfl (tm rfl c2_3) (hpv3.cell g3 (i := 0) rfl)) ?_
  refine sq rfl (do_move (tm rfl (nx rfl c2_1))) ?_
  refine sq rfl (ix22 (tm rfl (nx rfl hit)) (tm rfl hit) (by omega)) ?_
  refine sq rfl (do_load T3 rfl (tm rfl hit) hpc') ?_
  refine sq rfl (do_inc (tm rfl hit) ck (by omega)) ?_
  refine sq rfl (ix22 (tm rfl (nx rfl (nx rfl (nx rfl (nx rfl hit))))) (tm rfl (nx rfl (nx rfl (nx rfl hit)))) (by omega)) ?_
  refine sqn (do_store T3 (tm rfl hit) (tm rfl (nx rfl hit)) rfl hpc' hpf) ?_
  refine cutW ?_
  intro τ4 e4 x1 hx1
  have c4_0 := (congrFun e4 0).trans (nx rfl (nx rfl (nx rfl (nx rfl (nx rfl (nx rfl c2_0))))))
  have c4_1 := (congrFun e4 1).trans (nx rfl (nx rfl (nx rfl (nx rfl (nx rfl (nx rfl c2_1))))))
  have c4_2 := (congrFun e4 2).trans (nx rfl (nx rfl (nx rfl (nx rfl (nx rfl (nx rfl c2_2))))))
  have c4_3 := (congrFun e4 3).trans (nx rfl (nx rfl (nx rfl (nx rfl (nx rfl (nx rfl c2_3))))))
  have c4_4 := (congrFun e4 4).trans (nx rfl (nx rfl (nx rfl (nx rfl (nx rfl (nx rfl c2_4))))))
  clear e4
  refine wnil ?_
  refine hK3 _ _ ?_
  clear hK3
  have g4' : Split N w0 x1 J4 := by rw [hx1]; exact g4
  have hv4 := j4.vb (t := 64) (by decide) hv3
  have hsb4 := j4.vb (t := 40) (by decide) hsb3
  obtain ⟨J5, j5, g5, hsb5⟩ := hsb4.put g4' 12 (.int .i64 (l - 1))
  refine reg ?_
  refine sq rfl (do_load T45 rfl (tm rfl c4_4) (hv4.cell g4' (i := 0) rfl)) ?_
  refine sq rfl (do_nilCheck (tm rfl hit)) ?_
  refine sq rfl (fa72_12 (tm rfl hit)) ?_
  refine sq rfl (do_load T3 rfl (tm rfl hit) (hsb4.cell g4' hl)) ?_
  refine sq rfl (do_sub (tm rfl hit) ck ⟨by omega, by omega⟩) ?_
  refine sq rfl (do_nilCheck (tm rfl (nx rfl (nx rfl (nx rfl (nx rfl hit)))))) ?_
  refine sq rfl (fa72_12 (tm rfl hit)) ?_
  refine sqn (do_store T3 (tm rfl hit) (tm rfl (nx rfl (nx rfl hit))) rfl (hsb4.cell g4' hl) (hsb4.frozen g4' 12)) ?_
  refine cutW ?_
  intro τ5 e5 x2 hx2
  have c5_0 := (congrFun e5 0).trans (nx rfl (nx rfl (nx rfl (nx rfl (nx rfl (nx rfl (nx rfl c4_0)))))))
  have c5_1 := (congrFun e5 1).trans (nx rfl (nx rfl (nx rfl (nx rfl (nx rfl (nx rfl (nx rfl c4_1)))))))
  have c5_2 := (congrFun e5 2).trans (nx rfl (nx rfl (nx rfl (nx rfl (nx rfl (nx rfl (nx rfl c4_2)))))))
  have c5_3 := (congrFun e5 3).trans (nx rfl (nx rfl (nx rfl (nx rfl (nx rfl (nx rfl (nx rfl c4_3)))))))
  have c5_4 := (congrFun e5 4).trans (nx rfl (nx rfl (nx rfl (nx rfl (nx rfl (nx rfl (nx rfl c4_4)))))))
  clear e5
  refine wnil ?_
  have g5' : Split N w0 x2 J5 := by rw [hx2]; exact g5
  rw [← hQ]
  refine ret0 rfl fun v => ⟨v, rfl, J5, g5', (j3.mono (by decide)).trans ((j4.mono (by decide)).trans (j5.mono (by decide))), ?_, ?_, hsb5⟩
  · rw [j5 61 (by decide), j4 61 (by decide)]; exact hT6
  · rw [j5 63 (by decide)]; exact hpr4
theorem nm40 : (Try.f40.name == "runtime.NumGoroutine") = false := by kernel_rfl
theorem bd40 : Try.f40.body.isNone = false := by kernel_rfl

/-- The graph that stuck builds. -/
def Gr (N : Nat) (w0 : World) (H0 : Nat → Part) (sv : Value) (pa : Option Addr) (pc sb size : Nat) (scs : List Value) (R : Nat → Nat) (w : World) (S : Nat) : Prop :=
  ∃ (G : Nat → Part) (rows : List (List Int)) (preds : List Int), Split N w0 w G ∧ Same [28, 40, 61, 63] H0 G ∧ TabV (G 61) 22 3 1 encI sv rows ∧ RowV (G 63) 3 1 (.slice pa size pc) preds.length (preds.flatMap encI) ∧ VB (G 40) sb 72 (scs.set 12 (.int .i64 (1073741824 - (size : Int) - (S : Int)))) ∧
    rows.length = size ∧ preds.length = size ∧ sumLen rows = S ∧ (∀ a (h : a < rows.length), ∀ u ∈ rows[a], ∃ b : Nat, u = (b : Int) ∧ b < size ∧ R a < R b) ∧ (∀ b, b < size → preds[b]? = some ((cnt rows (b : Int) : Nat) : Int))
theorem remC_le (rows : List (List Int)) (done : List Nat) (b : Int) : ∀ n, n ≤ rows.length → remC rows done b n ≤ sumLen (rows.take n)
  | 0, _ => by simp [remC]
  | n + 1, h => by
    have ih := remC_le rows done b n (by omega)
    have e := sumLen_take rows n (by omega)
    have e2 : rows.getD n [] = rows[n] := by simp [List.getD_eq_getElem?_getD, List.getElem?_eq_getElem (show n < rows.length by omega)]
    have hc := List.count_le_length (a := b) (l := rows[n])
    simp only [remC, e2]
    split <;> omega
theorem cnt_le (rows : List (List Int)) (b : Int) : cnt rows b ≤ sumLen rows := by
  have := remC_le rows [] b rows.length (Nat.le_refl _)
  rw [List.take_length] at this
  exact this
theorem Gr.drew {N : Nat} {w0 : World} {H0 : Nat → Part} {sv : Value} {pa : Option Addr} {pc sb size : Nat} {scs : List Value} {R : Nat → Nat} {w : World} {S : Nat} (h : Gr N w0 H0 sv pa pc sb size scs R w S) : Gr N w0 H0 sv pa pc sb size scs R w.drew S := by
  obtain ⟨G, rows, preds, h1, h2⟩ := h
  exact ⟨G, rows, preds, h1.drew, h2⟩
theorem edgeD {N : Nat} {w0 : World} {H0 : Nat → Part} {sv : Value} {pa : Option Addr} {pc sb size bsv bpv bv : Nat} {scs : List Value} {R : Nat → Nat} {w : World} {S : Nat} (h : Gr N w0 H0 sv pa pc sb size scs R w S) (hsv : VB (H0 60) bsv 37 [sv]) (hpv : VB (H0 62) bpv 22 [.slice pa size pc]) (hv : VB (H0 64) bv 45 [.pointer (some ⟨sb, 0, none⟩)])
    (hscs : scs.length = 17) (a b : Nat) (ha : a < size) (hb : b < size) (hR : R a < R b) (hS : S ≤ 500000000000) (hsz : size ≤ 1000000) :
    Calls Try.prog 40 (#[.int .i64 (a : Int), .int .i64 (b : Int)] ++ #[.pointer (some ⟨bsv, 0, none⟩), .pointer (some ⟨bpv, 0, none⟩), .pointer (some ⟨bv, 0, none⟩)]) w fun e w' => ∃ v, e = .returned v ∧ Gr N w0 H0 sv pa pc sb size scs R w' (S + 1) := by
  obtain ⟨G, rows, preds, hs, hk, hT, hpr, hsb, hrl, hpl, hsum, hed, hcnt⟩ := h
  have hlen := len_le_sum rows a (by omega)
  have hcl := cnt_le rows (b : Int)
  refine (edge40 hs a b bsv bpv bv sb (cnt rows (b : Int)) sv pa size pc _ (1073741824 - (size : Int) - (S : Int)) rows preds (hk.vb (by decide) hsv) hT (hk.vb (by decide) hpv) hpl.symm hpr (hk.vb (by decide) hv) hsb (List.getElem?_set_self (by omega)) (by omega) (by omega) (hcnt b hb) (by omega) (by omega) (by omega) (by omega)).mono ?_
  rintro e w' ⟨v, rfl, G', hs', hk', hT', hpr', hsb'⟩
  refine ⟨v, rfl, G', _, _, hs', hk.trans hk', hT', hpr', ?_, by simpa using hrl, by simpa using hpl, by rw [sumLen_push, hsum], ?_, ?_⟩
  · rw [List.set_set] at hsb'
    rw [show 1073741824 - (size : Int) - ((S + 1 : Nat) : Int) = 1073741824 - (size : Int) - (S : Int) - 1 by omega]
    exact hsb'
  · intro j hj u hu
    rcases mem_push (by omega) hj hu with ⟨h, hu⟩ | ⟨rfl, rfl⟩
    · exact hed j h u hu
    · exact ⟨b, rfl, hb, hR⟩
  · intro b' hb'
    rw [cnt_push (by omega)]
    by_cases hbb : b = b'
    · subst hbb
      rw [List.getElem?_set_self (by omega)]
      simp
    · rw [List.getElem?_set_ne hbb, hcnt b' hb']
      have : ¬ (b : Int) = (b' : Int) := by omega
      simp [this]
end Go.Proofs.Qxb6001364a
