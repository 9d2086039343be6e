/-
  MORE STEPS ON TABLES.
-/
import Derived.Test.Qxb6001364aV15
namespace Go.Fra
open Go.RowKit
/-- Row i is made anew. -/
theorem TabV.putRowG {N : Nat} {w0 w : World} {H : Nat → Part} {t : Nat} {et e : TypeId} {α : Type} {enc : α → List Value} {v : Value} {rows : List (List α)} (h : TabV (H t) et e 1 enc v rows) (hs : Split N w0 w H) {i : Nat} (hi : i < rows.length) (r : List α) (cur : Array Value) (cap : Nat) (hcur : cur.size = cap) (hm : cap ≤ maxLen) (hrl : (r.flatMap enc).length = r.length * 1) (hrc : r.length ≤ cap) (hrt : cur.toList.take (r.length * 1) = r.flatMap enc) :
    ∃ g vcap H1 H2 cell, v = .slice (some ⟨g, 0, none⟩) rows.length vcap ∧ Same [t] H H1 ∧ Same [t] H H2 ∧ Split N w0 (w.alloc (.cells cur e)) H1 ∧ (w.alloc (.cells cur e)).cell? ⟨g, i, none⟩ = some cell ∧ (w.alloc (.cells cur e)).frozen? ⟨g, i, none⟩ = false ∧
      Split N w0 ((w.alloc (.cells cur e)).setCell ⟨g, i, none⟩ (.slice (some ⟨w.heap.size, 0, none⟩) r.length cap)) H2 ∧ TabV (H2 t) et e 1 enc v (rows.set i r) := by
  obtain ⟨cells, hO, hR, hD⟩ := h
  have hlO := hO.len
  have hs1 := hs.alloc t (.cells cur e)
  have hold : ∀ b o, H t b = some o → addV (H t) w.heap.size (.cells cur e) b = some o := by
    intro b o hb
    have := hs.lt hb
    rw [addV, if_neg (by omega)]; exact hb
  have hO1 : RowV (updH H t (addV (H t) w.heap.size (.cells cur e)) t) et 1 v rows.length cells := by
    rw [updH_hit]
    refine hO.mono (fun b hb => ?_)
    obtain ⟨o, ho⟩ := hO.own_some hb
    rw [hold b o ho, ho]
  obtain ⟨c, hc, _, _⟩ := hR i hi
  obtain ⟨g0, cap0, hv0, hcell, hfr⟩ := hO1.cell hs1 hc
  obtain ⟨g, vcap, V2, hv, hs2, hr2, hk2⟩ := hO1.set hs1 (j := i) hi (.slice (some ⟨w.heap.size, 0, none⟩) r.length cap)
  have hgg : g0 = g := by rw [hv] at hv0; simp at hv0; exact hv0.1.symm
  subst hgg
  rw [updH_hit] at hk2
  have hgo : ∃ o, H t g0 = some o := hO.own_some (b := g0) (by rw [hv]; rfl)
  obtain ⟨go, hgo⟩ := hgo
  have hgne : g0 ≠ w.heap.size := by have := hs.lt hgo; omega
  refine ⟨g0, vcap, _, _, c, hv, Same.upd (by simp), (Same.upd (by simp)).trans (Same.upd (by simp)), hs1, hcell, hfr, hs2, cells.set i (.slice (some ⟨w.heap.size, 0, none⟩) r.length cap), ?_, ?_, ?_⟩
  · rw [updH_hit, List.length_set]; exact hr2
  · intro j hj
    rw [List.length_set] at hj
    rw [updH_hit]
    by_cases hij : i = j
    · subst hij
      refine ⟨_, List.getElem?_set_self (by omega), ?_, ?_⟩
      · rw [List.getElem_set_self]
        refine ⟨hrl, .inr ⟨w.heap.size, cap, cur, rfl, ?_, hrc, hm, by omega, hrt⟩⟩
        rw [hk2 _ (fun e => hgne e.symm), addV, if_pos rfl]
      · intro b hb
        have : w.heap.size = b := by simpa [Value.ownBlock] using hb
        rw [hv]
        simp only [Value.ownBlock, ne_eq, Option.some.injEq]
        omega
    · obtain ⟨cj, hcj, hrj, hnj⟩ := hR j hj
      refine ⟨cj, by rw [List.getElem?_set_ne hij]; exact hcj, ?_, hnj⟩
      rw [List.getElem_set_ne hij]
      refine hrj.mono (fun b hb => ?_)
      obtain ⟨o, ho⟩ := hrj.own_some hb
      have hbg : b ≠ g0 := by rintro rfl; exact hnj _ hb (by rw [hv]; rfl)
      rw [hk2 b hbg, hold b o ho, ho]
  · have hnew : ∀ j cj b, i ≠ j → cells[j]? = some cj → b = w.heap.size → cj.ownBlock ≠ some b := by
      intro j cj b hij hcj hb hcb
      have hj : j < rows.length := by have := (List.getElem?_eq_some_iff.1 hcj).1; omega
      obtain ⟨cj', hcj', hrj, _⟩ := hR j hj
      rw [hcj] at hcj'
      cases hcj'
      obtain ⟨o, ho⟩ := hrj.own_some hcb
      have := hs.lt ho
      omega
    intro j k cj ck b hjk hcj hck hb
    by_cases hij : i = j
    · subst hij
      rw [List.getElem?_set_self (by omega)] at hcj
      cases hcj
      rw [List.getElem?_set_ne hjk] at hck
      exact hnew k ck b hjk hck (by simpa [Value.ownBlock] using hb.symm)
    · rw [List.getElem?_set_ne hij] at hcj
      by_cases hik : i = k
      · subst hik
        rw [List.getElem?_set_self (by omega)] at hck
        cases hck
        intro hb2
        exact hnew j cj b hij hcj (by simpa [Value.ownBlock] using hb2.symm) hb
      · rw [List.getElem?_set_ne hik] at hck
        exact hD j k cj ck b hjk hcj hck hb

/-- One element of row i is overwritten. -/
theorem TabV.setE {N : Nat} {w0 w : World} {H : Nat → Part} {t : Nat} {et : TypeId} {v : Value} {rows : List (List Int)} (h : TabV (H t) et 3 1 encI v rows) (hs : Split N w0 w H) {i : Nat} (hi : i < rows.length) {j : Nat} (hj : j < rows[i].length) (z : Int) :
    ∃ g vcap gr rc H2, v = .slice (some ⟨g, 0, none⟩) rows.length vcap ∧ w.cell? ⟨g, i, none⟩ = some (.slice (some ⟨gr, 0, none⟩) rows[i].length rc) ∧ w.cell? ⟨gr, j, none⟩ = some (.int .i64 rows[i][j]) ∧ w.frozen? ⟨gr, j, none⟩ = false ∧
      Same [t] H H2 ∧ Split N w0 (w.setCell ⟨gr, j, none⟩ (.int .i64 z)) H2 ∧ TabV (H2 t) et 3 1 encI v (rows.set i (rows[i].set j z)) := by
  obtain ⟨cells, hO, hR, hD⟩ := h
  have hlO := hO.len
  obtain ⟨c, hc, hr, hne⟩ := hR i hi
  obtain ⟨g, vcap, hv, hcell, _⟩ := hO.cell hs hc
  obtain ⟨gr0, rc0, hc0, hcj, hfj⟩ := hr.cell hs (cellI hj)
  obtain ⟨gr, rc, V2, hcv, hs2, hr2, hk2⟩ := hr.set hs (j := j) hj (.int .i64 z)
  have e0 : gr0 = gr ∧ rc0 = rc := by rw [hcv] at hc0; simp at hc0; exact ⟨hc0.1.symm, hc0.2.symm⟩
  obtain ⟨rfl, rfl⟩ := e0
  have hggr : g ≠ gr0 := by
    rintro rfl
    exact hne g (by rw [hcv]; rfl) (by rw [hv]; rfl)
  refine ⟨g, vcap, gr0, rc0, _, hv, by rw [← hcv]; exact hcell, hcj, hfj, Same.upd (by simp), hs2, cells, ?_, ?_, hD⟩
  · rw [updH_hit, List.length_set]
    refine hO.mono (fun b hb => ?_)
    have : b = g := by rw [hv] at hb; simpa [Value.ownBlock] using hb.symm
    subst this
    exact hk2 b hggr
  · intro k hk
    rw [List.length_set] at hk
    rw [updH_hit]
    by_cases hik : i = k
    · subst hik
      refine ⟨c, hc, ?_, hne⟩
      rw [List.getElem_set_self, List.length_set, flat_I, ints, List.map_set]
      have e : (rows[i].flatMap encI) = ints rows[i] := flat_I _
      rw [e] at hr2
      exact hr2
    · obtain ⟨ck, hck, hrk, hnk⟩ := hR k hk
      refine ⟨ck, hck, ?_, hnk⟩
      rw [List.getElem_set_ne hik]
      refine hrk.mono (fun b hb => hk2 b ?_)
      rintro rfl
      exact hD i k c ck b hik hc hck (by rw [hcv]; rfl) hb
/-- What a call made bears the tag j. -/
theorem Split.junkB {N : Nat} {w0 w w' : World} {H : Nat → Part} (hs : Split N w0 w H) (hb : Below w.heap.size w w') (j : Nat) : ∃ H', Same [j] H H' ∧ Split N w0 w' H' ∧ ∀ b ty cs, w.heap.size ≤ b → Blk w' b ty cs → VB (H' j) b ty cs :=
  ⟨_, Same.upd (by simp), hs.step j (hb.mono hs.base) (fun b _ hlt _ => hb.block b hlt), fun b ty cs hge hB => by
    show updH H j _ j b = _
    rw [updH_hit, gain_new hge]
    exact hB⟩
end Go.Fra
