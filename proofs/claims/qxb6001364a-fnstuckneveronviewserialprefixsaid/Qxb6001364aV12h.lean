/-
  problem: its state.
-/
import Derived.Test.Qxb6001364aV11
import Derived.Test.Qxb6001364aV6
namespace Go.Fra
open Go.RowKit
def encB (b : Bool) : List Value := [.bool b]
theorem flat_B : ∀ (zs : List Bool), zs.flatMap encB = bools zs
  | [] => rfl
  | z :: zs => by
    have := flat_B zs
    simp only [List.flatMap_cons, this]
    rfl
/-- A call that leaves all that was there: what it made is junk. -/
theorem Split.junk {N : Nat} {w0 w w' : World} {H : Nat → Part} (hs : Split N w0 w H) (hb : Below w.heap.size w w') (j : Nat) : ∃ H', Same [j] H H' ∧ Split N w0 w' H' :=
  ⟨_, Same.upd (by simp), hs.step j (hb.mono hs.base) (fun b _ hlt _ => hb.block b hlt)⟩
/-- Row i is made anew, empty. -/
theorem TabV.putRow {N : Nat} {w0 w : World} {H : Nat → Part} {t : Nat} {et e : TypeId} {α : Type} {enc : α → List Value} {v : Value} {rows : List (List α)} (h : TabV (H t) et e 1 enc v rows) (hs : Split N w0 w H) {i : Nat} (hi : i < rows.length) (cur : Array Value) (cap : Nat) (hcur : cur.size = cap) (hm : cap ≤ maxLen) :
    ∃ g vcap H1 H2 cell, v = .slice (some ⟨g, 0, none⟩) rows.length vcap ∧ Same [t] H H1 ∧ Same [t] H H2 ∧ Split N w0 (w.alloc (.cells cur e)) H1 ∧ (w.alloc (.cells cur e)).cell? ⟨g, i, none⟩ = some cell ∧ (w.alloc (.cells cur e)).frozen? ⟨g, i, none⟩ = false ∧
      Split N w0 ((w.alloc (.cells cur e)).setCell ⟨g, i, none⟩ (.slice (some ⟨w.heap.size, 0, none⟩) 0 cap)) H2 ∧ TabV (H2 t) et e 1 enc v (rows.set i []) := by
  obtain ⟨cells, hO, hR, hD⟩ := h
  have hlO := hO.len
  have hs1 := hs.alloc t (.cells cur e)
  have hold : ∀ b o, H t b = some o → addV (H t) w.heap.size (.cells cur e) b = some o := by
    intro b o hb
    have := hs.lt hb
    rw [addV, if_neg (by omega)]; exact hb
  have hO1 : RowV (updH H t (addV (H t) w.heap.size (.cells cur e)) t) et 1 v rows.length cells := by
    rw [updH_hit]
    refine hO.mono (fun b hb => ?_)
    obtain ⟨o, ho⟩ := hO.own_some hb
    rw [hold b o ho, ho]
  obtain ⟨c, hc, _, _⟩ := hR i hi
  obtain ⟨g0, cap0, hv0, hcell, hfr⟩ := hO1.cell hs1 hc
  obtain ⟨g, vcap, V2, hv, hs2, hr2, hk2⟩ := hO1.set hs1 (j := i) hi (.slice (some ⟨w.heap.size, 0, none⟩) 0 cap)
  have hgg : g0 = g := by rw [hv] at hv0; simp at hv0; exact hv0.1.symm
  subst hgg
  rw [updH_hit] at hk2
  have hgo : ∃ o, H t g0 = some o := hO.own_some (b := g0) (by rw [hv]; rfl)
  obtain ⟨go, hgo⟩ := hgo
  have hgne : g0 ≠ w.heap.size := by have := hs.lt hgo; omega
  refine ⟨g0, vcap, _, _, c, hv, Same.upd (by simp), (Same.upd (by simp)).trans (Same.upd (by simp)), hs1, hcell, hfr, hs2, cells.set i (.slice (some ⟨w.heap.size, 0, none⟩) 0 cap), ?_, ?_, ?_⟩
  · rw [updH_hit, List.length_set]; exact hr2
  · intro j hj
    rw [List.length_set] at hj
    rw [updH_hit]
    by_cases hij : i = j
    · subst hij
      refine ⟨_, List.getElem?_set_self (by omega), ?_, ?_⟩
      · rw [List.getElem_set_self]
        refine ⟨by simp, .inr ⟨w.heap.size, cap, cur, rfl, ?_, Nat.zero_le _, hm, by omega, by simp⟩⟩
        rw [hk2 _ (fun e => hgne e.symm), addV, if_pos rfl]
      · intro b hb
        have : w.heap.size = b := by simpa [Value.ownBlock] using hb
        rw [hv]
        simp only [Value.ownBlock, ne_eq, Option.some.injEq]
        omega
    · obtain ⟨cj, hcj, hrj, hnj⟩ := hR j hj
      refine ⟨cj, by rw [List.getElem?_set_ne hij]; exact hcj, ?_, hnj⟩
      rw [List.getElem_set_ne hij]
      refine hrj.mono (fun b hb => ?_)
      obtain ⟨o, ho⟩ := hrj.own_some hb
      have hbg : b ≠ g0 := by rintro rfl; exact hnj _ hb (by rw [hv]; rfl)
      rw [hk2 b hbg, hold b o ho, ho]
  · have hnew : ∀ j cj b, i ≠ j → cells[j]? = some cj → b = w.heap.size → cj.ownBlock ≠ some b := by
      intro j cj b hij hcj hb hcb
      have hj : j < rows.length := by have := (List.getElem?_eq_some_iff.1 hcj).1; omega
      obtain ⟨cj', hcj', hrj, _⟩ := hR j hj
      rw [hcj] at hcj'
      cases hcj'
      obtain ⟨o, ho⟩ := hrj.own_some hcb
      have := hs.lt ho
      omega
    intro j k cj ck b hjk hcj hck hb
    by_cases hij : i = j
    · subst hij
      rw [List.getElem?_set_self (by omega)] at hcj
      cases hcj
      rw [List.getElem?_set_ne hjk] at hck
      exact hnew k ck b hjk hck (by simpa [Value.ownBlock] using hb.symm)
    · rw [List.getElem?_set_ne hij] at hcj
      by_cases hik : i = k
      · subst hik
        rw [List.getElem?_set_self (by omega)] at hck
        cases hck
        intro hb2
        exact hnew j cj b hij hcj (by simpa [Value.ownBlock] using hb2.symm) hb
      · rw [List.getElem?_set_ne hik] at hck
        exact hD j k cj ck b hjk hcj hck hb
end Go.Fra
namespace Go.Proofs.Qxb6001364a
open Go.Fra Go.RowKit Pl
set_option linter.unusedVariables false
theorem RowV.intR {N : Nat} {w0 w : World} {H : Nat → Part} {t : Nat} {v : Value} {zs : List Int} (h : RowV (H t) 3 1 v zs.length (zs.flatMap encI)) (hs : Split N w0 w H) : IntR w v zs := by
  obtain ⟨a, c, rfl⟩ := h.slice
  refine ⟨a, c, rfl, fun i hi => ?_⟩
  obtain ⟨g, ha, hc, _⟩ := h.cellS hs (cellI hi)
  exact ⟨g, 0, ha, by rw [Nat.zero_add]; exact hc⟩
theorem RowV.boolR {N : Nat} {w0 w : World} {H : Nat → Part} {t : Nat} {v : Value} {zs : List Bool} (h : RowV (H t) 4 1 v zs.length (zs.flatMap encB)) (hs : Split N w0 w H) : BoolR w v zs := by
  obtain ⟨a, c, rfl⟩ := h.slice
  refine ⟨a, c, rfl, fun i hi => ?_⟩
  obtain ⟨g, ha, hc, _⟩ := h.cellS hs (show (zs.flatMap encB)[i]? = some (.bool zs[i]) by rw [flat_B]; exact bools_get zs i hi)
  exact ⟨g, 0, ha, by rw [Nat.zero_add]; exact hc⟩
theorem TabV.tabR {N : Nat} {w0 w : World} {H : Nat → Part} {t : Nat} {v : Value} {rows : List (List Int)} (h : TabV (H t) 22 3 1 encI v rows) (hs : Split N w0 w H) : TabR w v rows := by
  obtain ⟨a, c, rfl⟩ := h.slice
  refine ⟨a, c, rfl, fun i hi => ?_⟩
  obtain ⟨g, cell, ha, hc, _, hr⟩ := h.getS hs hi
  exact ⟨g, 0, cell, ha, by rw [Nat.zero_add]; exact hc, RowV.intR hr hs⟩
theorem TabV.tabB {N : Nat} {w0 w : World} {H : Nat → Part} {t : Nat} {v : Value} {rows : List (List Bool)} (h : TabV (H t) 23 4 1 encB v rows) (hs : Split N w0 w H) : TabB w v rows := by
  obtain ⟨a, c, rfl⟩ := h.slice
  refine ⟨a, c, rfl, fun i hi => ?_⟩
  obtain ⟨g, cell, ha, hc, _, hr⟩ := h.getS hs hi
  exact ⟨g, 0, cell, ha, by rw [Nat.zero_add]; exact hc, RowV.boolR hr hs⟩
theorem mk0_22 {ρ : Operand → Value} {w : World} {dst : Option Tmp} {ty : TypeId} {pos : String} {aft : Array Edge} {g : Option (Nat × Bool)} {x y : Operand} {n : Nat} (hx : ρ x = .int .i64 0) (hy : ρ y = .int .i64 (n : Int)) (hn : n ≤ 1048576) :
    Does Try.prog ⟨dst, .makeSlice 22 x y, ty, pos, aft, g⟩ ρ w (.slice (some ⟨w.heap.size, 0, none⟩) 0 n) (w.alloc (.cells (madeCells #[.int .i64 0] n) 3)) := by
  refine .inl ?_
  obtain ⟨i, hi, hz, hs, hb⟩ := T3.info
  have := run_make (P := Try.prog) w 22 3 i _ Try.underlying22 hi hz .i64 .i64 0 n (by omega) (by omega) (by rw [hb]; omega) (by omega)
  simp only [Int.toNat_natCast, hs, Nat.mul_one] at this
  simp [execOp, hx, hy, this, Value.cells]
theorem mk0_23 {ρ : Operand → Value} {w : World} {dst : Option Tmp} {ty : TypeId} {pos : String} {aft : Array Edge} {g : Option (Nat × Bool)} {x y : Operand} {n : Nat} (hx : ρ x = .int .i64 0) (hy : ρ y = .int .i64 (n : Int)) (hn : n ≤ 1048576) :
    Does Try.prog ⟨dst, .makeSlice 23 x y, ty, pos, aft, g⟩ ρ w (.slice (some ⟨w.heap.size, 0, none⟩) 0 n) (w.alloc (.cells (madeCells #[.bool false] n) 4)) := by
  refine .inl ?_
  obtain ⟨i, hi, hz, hs, hb⟩ := T4.info
  have := run_make (P := Try.prog) w 23 4 i _ Try.underlying23 hi hz .i64 .i64 0 n (by omega) (by omega) (by rw [hb]; omega) (by omega)
  simp only [Int.toNat_natCast, hs, Nat.mul_one] at this
  simp [execOp, hx, hy, this, Value.cells]
theorem one_B (z : Bool) : ∀ u ∈ encB z, u.oneCell' = true := by intro u hu; simp [encB] at hu; subst hu; rfl
theorem nm31 : (Try.f31.name == "runtime.NumGoroutine") = false := by kernel_rfl
theorem bd31 : Try.f31.body.isNone = false := by kernel_rfl
theorem nm32 : (Try.f32.name == "runtime.NumGoroutine") = false := by kernel_rfl
theorem bd32 : Try.f32.body.isNone = false := by kernel_rfl
theorem app_inj (a s s' : ByteArray) (h : a ++ s = a ++ s') : s = s' := by
  have h1 := congrArg (fun b : ByteArray => b.data.toList) h
  simp only [ByteArray.data_append, Array.toList_append] at h1
  have h2 := List.append_cancel_left h1
  exact ByteArray.ext (Array.toList_inj.1 h2)
theorem size_app (a b : ByteArray) : (a ++ b).size = a.size + b.size := ByteArray.size_append
theorem made_size (z : Value) (n : Nat) : (madeCells #[z] n).size = n := by simp [madeCells]
theorem tot_acc (h : Hist) (m : Nat) : ∀ x, tot (fun x => acc h x m) x = sE (byItem h) m x
  | 0 => rfl
  | x + 1 => by simp only [tot, sE, tot_acc h m x, acc_length]
end Go.Proofs.Qxb6001364a
