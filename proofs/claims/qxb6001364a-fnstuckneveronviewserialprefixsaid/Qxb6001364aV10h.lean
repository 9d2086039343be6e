/-
  newViewProblem: its state.
-/
import Derived.Test.Qxb6001364aV8
import Derived.Test.Qxb6001364aDi
namespace Go.Proofs.Qxb6001364a
open Go.Fra Go.RowKit Pl
set_option linter.unusedVariables false

def tot (A : Nat → List (Nat × Bool)) : Nat → Nat
  | 0 => 0
  | x + 1 => tot A x + (A x).length
theorem tot_mono (A : Nat → List (Nat × Bool)) (x : Nat) : ∀ d, tot A x ≤ tot A (x + d)
  | 0 => Nat.le_refl _
  | d + 1 => by
    have := tot_mono A x d
    show tot A x ≤ tot A (x + d) + (A (x + d)).length
    omega
def WtF (A : Nat → List (Nat × Bool)) (y v : Nat) : Prop := Wt (loc (A y)) (A y).length v

/-! ### the heap -/
structure HpP (G : Nat → Part) (pb n k : Nat) (reads : List (List Int)) (writes : List (List (Int × Int))) (writers : List (List Int)) (initial : List Int) (readers : List (List Int)) (next : List Int) (succ : List (List Int)) (pin : List Bool) (rv wv wsv rdv nv sv : Value) (ib nb : Nat) : Prop where
  p : VB (G 1) pb 58 [rv, wv, wsv, .slice (some ⟨ib, 0, none⟩) k k, rdv, nv, sv, .slice (some ⟨nb, 0, none⟩) n n]
  t2 : TabV (G 2) 22 3 1 encI rv reads
  t3 : TabV (G 3) 61 63 2 encP wv writes
  t4 : TabV (G 4) 22 3 1 encI wsv writers
  t5 : VB (G 5) ib 3 (ints initial)
  t6 : TabV (G 6) 22 3 1 encI rdv readers
  t7 : RowV (G 7) 3 1 nv next.length (next.flatMap encI)
  t8 : TabV (G 8) 22 3 1 encI sv succ
  t9 : VB (G 9) nb 4 (bools pin)
  pl : pin.length = n

section
variable {G G' : Nat → Part} {pb n k : Nat} {reads : List (List Int)} {writes : List (List (Int × Int))} {writers : List (List Int)} {initial : List Int} {readers : List (List Int)} {next : List Int} {succ : List (List Int)} {pin : List Bool} {rv wv wsv rdv nv sv : Value} {ib nb : Nat}
theorem HpP.same {S : List Nat} (h : HpP G pb n k reads writes writers initial readers next succ pin rv wv wsv rdv nv sv ib nb) (e : Same S G G') (hS : ∀ t ∈ [1, 2, 3, 4, 5, 6, 7, 8, 9], t ∉ S) : HpP G' pb n k reads writes writers initial readers next succ pin rv wv wsv rdv nv sv ib nb := by
  have f : ∀ t, t ∈ [1, 2, 3, 4, 5, 6, 7, 8, 9] → G' t = G t := fun t ht => e t (hS t ht)
  exact ⟨by rw [f 1 (by decide)]; exact h.p, by rw [f 2 (by decide)]; exact h.t2, by rw [f 3 (by decide)]; exact h.t3, by rw [f 4 (by decide)]; exact h.t4, by rw [f 5 (by decide)]; exact h.t5, by rw [f 6 (by decide)]; exact h.t6, by rw [f 7 (by decide)]; exact h.t7, by rw [f 8 (by decide)]; exact h.t8, by rw [f 9 (by decide)]; exact h.t9, h.pl⟩
theorem HpP.u2 {reads' : List (List Int)} (h : HpP G pb n k reads writes writers initial readers next succ pin rv wv wsv rdv nv sv ib nb) (e : Same [2, 28] G G') (x : TabV (G' 2) 22 3 1 encI rv reads') : HpP G' pb n k reads' writes writers initial readers next succ pin rv wv wsv rdv nv sv ib nb :=
  ⟨by rw [e 1 (by decide)]; exact h.p, x, by rw [e 3 (by decide)]; exact h.t3, by rw [e 4 (by decide)]; exact h.t4, by rw [e 5 (by decide)]; exact h.t5, by rw [e 6 (by decide)]; exact h.t6, by rw [e 7 (by decide)]; exact h.t7, by rw [e 8 (by decide)]; exact h.t8, by rw [e 9 (by decide)]; exact h.t9, h.pl⟩
theorem HpP.u3 {writes' : List (List (Int × Int))} (h : HpP G pb n k reads writes writers initial readers next succ pin rv wv wsv rdv nv sv ib nb) (e : Same [3, 28] G G') (x : TabV (G' 3) 61 63 2 encP wv writes') : HpP G' pb n k reads writes' writers initial readers next succ pin rv wv wsv rdv nv sv ib nb :=
  ⟨by rw [e 1 (by decide)]; exact h.p, by rw [e 2 (by decide)]; exact h.t2, x, by rw [e 4 (by decide)]; exact h.t4, by rw [e 5 (by decide)]; exact h.t5, by rw [e 6 (by decide)]; exact h.t6, by rw [e 7 (by decide)]; exact h.t7, by rw [e 8 (by decide)]; exact h.t8, by rw [e 9 (by decide)]; exact h.t9, h.pl⟩
theorem HpP.u4 {writers' : List (List Int)} (h : HpP G pb n k reads writes writers initial readers next succ pin rv wv wsv rdv nv sv ib nb) (e : Same [4, 28] G G') (x : TabV (G' 4) 22 3 1 encI wsv writers') : HpP G' pb n k reads writes writers' initial readers next succ pin rv wv wsv rdv nv sv ib nb :=
  ⟨by rw [e 1 (by decide)]; exact h.p, by rw [e 2 (by decide)]; exact h.t2, by rw [e 3 (by decide)]; exact h.t3, x, by rw [e 5 (by decide)]; exact h.t5, by rw [e 6 (by decide)]; exact h.t6, by rw [e 7 (by decide)]; exact h.t7, by rw [e 8 (by decide)]; exact h.t8, by rw [e 9 (by decide)]; exact h.t9, h.pl⟩
theorem HpP.u5 {initial' : List Int} (h : HpP G pb n k reads writes writers initial readers next succ pin rv wv wsv rdv nv sv ib nb) (e : Same [5] G G') (x : VB (G' 5) ib 3 (ints initial')) : HpP G' pb n k reads writes writers initial' readers next succ pin rv wv wsv rdv nv sv ib nb :=
  ⟨by rw [e 1 (by decide)]; exact h.p, by rw [e 2 (by decide)]; exact h.t2, by rw [e 3 (by decide)]; exact h.t3, by rw [e 4 (by decide)]; exact h.t4, x, by rw [e 6 (by decide)]; exact h.t6, by rw [e 7 (by decide)]; exact h.t7, by rw [e 8 (by decide)]; exact h.t8, by rw [e 9 (by decide)]; exact h.t9, h.pl⟩
theorem HpP.u6 {readers' : List (List Int)} (h : HpP G pb n k reads writes writers initial readers next succ pin rv wv wsv rdv nv sv ib nb) (e : Same [6, 28] G G') (x : TabV (G' 6) 22 3 1 encI rdv readers') : HpP G' pb n k reads writes writers initial readers' next succ pin rv wv wsv rdv nv sv ib nb :=
  ⟨by rw [e 1 (by decide)]; exact h.p, by rw [e 2 (by decide)]; exact h.t2, by rw [e 3 (by decide)]; exact h.t3, by rw [e 4 (by decide)]; exact h.t4, by rw [e 5 (by decide)]; exact h.t5, x, by rw [e 7 (by decide)]; exact h.t7, by rw [e 8 (by decide)]; exact h.t8, by rw [e 9 (by decide)]; exact h.t9, h.pl⟩
theorem HpP.u16 {readers' : List (List Int)} {rdv' : Value} (h : HpP G pb n k reads writes writers initial readers next succ pin rv wv wsv rdv nv sv ib nb) (e : Same [1, 6, 28] G G') (x : TabV (G' 6) 22 3 1 encI rdv' readers') (y : VB (G' 1) pb 58 [rv, wv, wsv, .slice (some ⟨ib, 0, none⟩) k k, rdv', nv, sv, .slice (some ⟨nb, 0, none⟩) n n]) : HpP G' pb n k reads writes writers initial readers' next succ pin rv wv wsv rdv' nv sv ib nb :=
  ⟨y, by rw [e 2 (by decide)]; exact h.t2, by rw [e 3 (by decide)]; exact h.t3, by rw [e 4 (by decide)]; exact h.t4, by rw [e 5 (by decide)]; exact h.t5, x, by rw [e 7 (by decide)]; exact h.t7, by rw [e 8 (by decide)]; exact h.t8, by rw [e 9 (by decide)]; exact h.t9, h.pl⟩
theorem HpP.u17 {next' : List Int} {nv' : Value} (h : HpP G pb n k reads writes writers initial readers next succ pin rv wv wsv rdv nv sv ib nb) (e : Same [1, 7, 28] G G') (x : RowV (G' 7) 3 1 nv' next'.length (next'.flatMap encI)) (y : VB (G' 1) pb 58 [rv, wv, wsv, .slice (some ⟨ib, 0, none⟩) k k, rdv, nv', sv, .slice (some ⟨nb, 0, none⟩) n n]) : HpP G' pb n k reads writes writers initial readers next' succ pin rv wv wsv rdv nv' sv ib nb :=
  ⟨y, by rw [e 2 (by decide)]; exact h.t2, by rw [e 3 (by decide)]; exact h.t3, by rw [e 4 (by decide)]; exact h.t4, by rw [e 5 (by decide)]; exact h.t5, by rw [e 6 (by decide)]; exact h.t6, x, by rw [e 8 (by decide)]; exact h.t8, by rw [e 9 (by decide)]; exact h.t9, h.pl⟩
theorem HpP.u7 {next' : List Int} (h : HpP G pb n k reads writes writers initial readers next succ pin rv wv wsv rdv nv sv ib nb) (e : Same [7] G G') (x : RowV (G' 7) 3 1 nv next'.length (next'.flatMap encI)) : HpP G' pb n k reads writes writers initial readers next' succ pin rv wv wsv rdv nv sv ib nb :=
  ⟨by rw [e 1 (by decide)]; exact h.p, by rw [e 2 (by decide)]; exact h.t2, by rw [e 3 (by decide)]; exact h.t3, by rw [e 4 (by decide)]; exact h.t4, by rw [e 5 (by decide)]; exact h.t5, by rw [e 6 (by decide)]; exact h.t6, x, by rw [e 8 (by decide)]; exact h.t8, by rw [e 9 (by decide)]; exact h.t9, h.pl⟩
theorem HpP.u8 {succ' : List (List Int)} (h : HpP G pb n k reads writes writers initial readers next succ pin rv wv wsv rdv nv sv ib nb) (e : Same [8, 28] G G') (x : TabV (G' 8) 22 3 1 encI sv succ') : HpP G' pb n k reads writes writers initial readers next succ' pin rv wv wsv rdv nv sv ib nb :=
  ⟨by rw [e 1 (by decide)]; exact h.p, by rw [e 2 (by decide)]; exact h.t2, by rw [e 3 (by decide)]; exact h.t3, by rw [e 4 (by decide)]; exact h.t4, by rw [e 5 (by decide)]; exact h.t5, by rw [e 6 (by decide)]; exact h.t6, by rw [e 7 (by decide)]; exact h.t7, x, by rw [e 9 (by decide)]; exact h.t9, h.pl⟩
theorem HpP.u9 {pin' : List Bool} (h : HpP G pb n k reads writes writers initial readers next succ pin rv wv wsv rdv nv sv ib nb) (e : Same [9] G G') (x : VB (G' 9) nb 4 (bools pin')) (hl : pin'.length = n) : HpP G' pb n k reads writes writers initial readers next succ pin' rv wv wsv rdv nv sv ib nb :=
  ⟨by rw [e 1 (by decide)]; exact h.p, by rw [e 2 (by decide)]; exact h.t2, by rw [e 3 (by decide)]; exact h.t3, by rw [e 4 (by decide)]; exact h.t4, by rw [e 5 (by decide)]; exact h.t5, by rw [e 6 (by decide)]; exact h.t6, by rw [e 7 (by decide)]; exact h.t7, by rw [e 8 (by decide)]; exact h.t8, x, hl⟩
end

/-- A push to a table that is field f of the problem. -/
theorem pushP {N : Nat} {w0 w : World} {G : Nat → Part} {pb f t : Nat} {pcs : List Value} {v : Value} {rows : List (List Int)} (hp : VB (G 1) pb 58 pcs) (hf : pcs[f]? = some v) (hT : TabV (G t) 22 3 1 encI v rows) (hs : Split N w0 w G) (h28 : Nat.beq t 28 = false) (h1 : 1 ∉ [t, 28])
    {i : Nat} (hi : i < rows.length) (z : Int) (hb : rows[i].length + 1 ≤ 1099511627776) :
    ∃ g cap cell v' w2 G1 G2 G3, v = .slice (some ⟨g, 0, none⟩) rows.length cap ∧
      (∀ j, j ≤ 2 → (stg w [w.alloc (.cells #[.int .i64 z] 3), w2, w2.setCell ⟨g, i, none⟩ v'] j).cell? ⟨pb, f, none⟩ = some (.slice (some ⟨g, 0, none⟩) rows.length cap)) ∧
      (∀ j, j ≤ 1 → (stg w [w.alloc (.cells #[.int .i64 z] 3), w2, w2.setCell ⟨g, i, none⟩ v'] j).cell? ⟨g, i, none⟩ = some cell) ∧
      (∀ (ρ : Operand → Value) (dst : Option Tmp) (ty : TypeId) (pos : String) (aft : Array Edge) (gg : Option (Nat × Bool)) (x y : Operand), ρ x = cell → ρ y = .slice (some ⟨w.heap.size, 0, none⟩) 1 1 →
        Does Try.prog ⟨dst, .call { callee := .builtin .append, args := #[x, y], argTypes := #[22, 22] }, ty, pos, aft, gg⟩ ρ (w.alloc (.cells #[.int .i64 z] 3)) v' w2) ∧
      (∀ (ρ : Operand → Value) (dst : Option Tmp) (ty : TypeId) (pos : String) (aft : Array Edge) (gg : Option (Nat × Bool)) (x y : Operand), ρ x = .pointer (some ⟨g, i, none⟩) → ρ y = v' →
        Does Try.prog ⟨dst, .store 22 x y, ty, pos, aft, gg⟩ ρ w2 undef (w2.setCell ⟨g, i, none⟩ v')) ∧
      Same [28] G G1 ∧ Same [t, 28] G G2 ∧ Same [t, 28] G G3 ∧ Split N w0 (w.alloc (.cells #[.int .i64 z] 3)) G1 ∧ Split N w0 w2 G2 ∧ Split N w0 (w2.setCell ⟨g, i, none⟩ v') G3 ∧ TabV (G3 t) 22 3 1 encI v (rows.set i (rows[i] ++ [z])) := by
  obtain ⟨g, cap, cell, v', w2, G1, G2, G3, hv, hca, hcb, hapT, hstT, j1, j2, j3, g1, g2, g3, hT6⟩ := TabV.pushR (t := t) (j := 28) T22 T3 T22 rfl (by decide) (by decide) hT hs h28 hi z #[.int .i64 z] rfl rfl (one_I _) hb
  subst hv
  refine ⟨g, cap, cell, v', w2, G1, G2, G3, rfl, ?_, ?_, hapT, hstT, j1, j2, j3, g1, g2, g3, hT6⟩
  · exact le2 (p := fun j => (stg w [w.alloc (.cells #[.int .i64 z] 3), w2, w2.setCell ⟨g, i, none⟩ v'] j).cell? ⟨pb, f, none⟩ = some (.slice (some ⟨g, 0, none⟩) rows.length cap)) (hp.cell hs hf) ((j1.vb (t := 1) (by decide) hp).cell g1 hf) ((j2.vb (t := 1) h1 hp).cell g2 hf)
  · exact le1 (p := fun j => (stg w [w.alloc (.cells #[.int .i64 z] 3), w2, w2.setCell ⟨g, i, none⟩ v'] j).cell? ⟨g, i, none⟩ = some cell) hca hcb

theorem TabV.ofVB {V : Part} {b : Nat} {et e : TypeId} {size : Nat} {α : Type} {enc : α → List Value} {n : Nat} (h : VB V b et (List.replicate n (.slice none 0 0))) (hn : n ≤ 1048576) : TabV V et e size enc (.slice (some ⟨b, 0, none⟩) n n) (List.replicate n []) := by
  have hR := RowV.of_blk h (by simp [maxLen]; omega)
  simp only [List.length_replicate] at hR
  refine ⟨List.replicate n (.slice none 0 0), by simpa using hR, ?_, ?_⟩
  · intro i hi
    simp only [List.length_replicate] at hi
    refine ⟨.slice none 0 0, by simp [hi], ?_, fun b hb => by cases hb⟩
    simp only [List.getElem_replicate]
    exact RowV.empty
  · intro i j ci cj b' _ hci _ hb
    rw [List.getElem?_replicate] at hci
    split at hci
    · cases hci; cases hb
    · cases hci

/-! ### what the tables say -/
structure Tbl (n k : Nat) (A : Nat → List (Nat × Bool)) (rk : Nat → Nat) (x : Nat) (src : List (Nat × Int)) (reads : List (List Int)) (writes : List (List (Int × Int))) (writers : List (List Int)) (initial : List Int) (readers : List (List Int)) (next : List Int) (succ : List (List Int)) : Prop where
  l1 : reads.length = n
  l2 : writes.length = n
  l3 : writers.length = k
  l4 : initial.length = k
  l5 : succ.length = n
  l6 : next.length = readers.length
  l7 : src.length = readers.length
  rd : ∀ b (h : b < reads.length), ∀ id ∈ reads[b], ∃ (i y : Nat) (f : Int), id = (i : Int) ∧ src[i]? = some (y, f) ∧ SrcS (loc (A y)) rk b f
  rs : ∀ i (h : i < readers.length), ∀ r ∈ readers[i], ∃ (v y : Nat) (f : Int), r = (v : Int) ∧ v < n ∧ src[i]? = some (y, f) ∧ SrcS (loc (A y)) rk v f ∧ (WtF A y v → next[i]? = some (v : Int))
  wr : ∀ a (h : a < writes.length), ∀ p ∈ writes[a], ∃ y : Nat, p.1 = (y : Int) ∧ y < k ∧ WtF A y a ∧ (p.2 = -1 ∨ ∃ i : Nat, p.2 = (i : Int) ∧ src[i]? = some (y, (a : Int)))
  ws : ∀ y (h : y < writers.length), ∀ w ∈ writers[y], ∃ v : Nat, w = (v : Int) ∧ v < n ∧ WtF A y v
  ini : ∀ y, y < x → ∃ z, initial[y]? = some z ∧ (z = -1 ∨ ∃ i : Nat, z = (i : Int) ∧ src[i]? = some (y, -1))
  nx : ∀ i, i < next.length → ∃ z, next[i]? = some z ∧ (z = -1 ∨ ∃ (v y : Nat) (f : Int), z = (v : Int) ∧ v < n ∧ src[i]? = some (y, f) ∧ SrcS (loc (A y)) rk v f ∧ WtF A y v)
  sv : ∀ (i y : Nat) (f : Int), src[i]? = some (y, f) → y < k
  ed : ∀ v (h : v < succ.length), ∀ u ∈ succ[v], Ed n rk v u
  wb : ∀ r ∈ writers, r.length ≤ 65536

section
variable {n k : Nat} {A : Nat → List (Nat × Bool)} {rk : Nat → Nat} {x : Nat} {src : List (Nat × Int)} {reads : List (List Int)} {writes : List (List (Int × Int))} {writers : List (List Int)} {initial : List Int} {readers : List (List Int)} {next : List Int} {succ : List (List Int)}
theorem mem_push {α : Type} {rows : List (List α)} {i : Nat} {z : α} (hi : i < rows.length) {j : Nat} (hj : j < (rows.set i (rows[i] ++ [z])).length) {u : α} (hu : u ∈ (rows.set i (rows[i] ++ [z]))[j]) : (∃ h : j < rows.length, u ∈ rows[j]) ∨ (j = i ∧ u = z) := by
  rw [List.length_set] at hj
  by_cases hij : i = j
  · subst hij
    rw [List.getElem_set_self, List.mem_append] at hu
    rcases hu with h | h
    · exact .inl ⟨hj, h⟩
    · exact .inr ⟨rfl, by simpa using h⟩
  · rw [List.getElem_set_ne hij] at hu
    exact .inl ⟨hj, hu⟩
theorem Tbl.pushW (S : Tbl n k A rk x src reads writes writers initial readers next succ) {y v : Nat} (hy : y < writers.length) (hv : v < n) (hw : WtF A y v) (hwl : writers[y].length + 1 ≤ 65536) : Tbl n k A rk x src reads writes (writers.set y (writers[y] ++ [(v : Int)])) initial readers next succ :=
  { S with
    l3 := by rw [List.length_set]; exact S.l3
    ws := fun j hj u hu => by
      rcases mem_push hy hj hu with ⟨h, hu⟩ | ⟨rfl, rfl⟩
      · exact S.ws j h u hu
      · exact ⟨v, rfl, hv, hw⟩
    wb := fun r hr => by
      rcases List.mem_or_eq_of_mem_set hr with h | h
      · exact S.wb r h
      · rw [h]; simpa using hwl }
theorem Tbl.grow (S : Tbl n k A rk x src reads writes writers initial readers next succ) (f : Int) (hx : x < k) : Tbl n k A rk x (src ++ [(x, f)]) reads writes writers initial (readers ++ [[]]) (next ++ [-1]) succ := by
  have up : ∀ {i : Nat} {p : Nat × Int}, src[i]? = some p → (src ++ [(x, f)])[i]? = some p := fun h => by
    rw [List.getElem?_append_left (List.getElem?_eq_some_iff.1 h).1]; exact h
  have un : ∀ {i : Nat} {z : Int}, next[i]? = some z → (next ++ [-1])[i]? = some z := fun h => by
    rw [List.getElem?_append_left (List.getElem?_eq_some_iff.1 h).1]; exact h
  refine { S with l6 := by simp [S.l6], l7 := by simp [S.l7], rd := ?_, rs := ?_, wr := ?_, ini := ?_, nx := ?_, sv := ?_ }
  · intro b h id hid
    obtain ⟨i, y, g, h1, h2, h3⟩ := S.rd b h id hid
    exact ⟨i, y, g, h1, up h2, h3⟩
  · intro i h r hr
    rcases Nat.lt_or_ge i readers.length with hlt | hge
    · rw [List.getElem_append_left hlt] at hr
      obtain ⟨v, y, g, h1, h2, h3, h4, h5⟩ := S.rs i hlt r hr
      exact ⟨v, y, g, h1, h2, up h3, h4, fun hw => un (h5 hw)⟩
    · rw [List.getElem_append_right hge] at hr
      simp at hr
  · intro a h p hp
    obtain ⟨y, h1, h2, h3, h4⟩ := S.wr a h p hp
    refine ⟨y, h1, h2, h3, ?_⟩
    rcases h4 with h4 | ⟨i, h4, h5⟩
    · exact .inl h4
    · exact .inr ⟨i, h4, up h5⟩
  · intro y hy
    obtain ⟨z, h1, h2⟩ := S.ini y hy
    refine ⟨z, h1, ?_⟩
    rcases h2 with h2 | ⟨i, h2, h3⟩
    · exact .inl h2
    · exact .inr ⟨i, h2, up h3⟩
  · intro i hi
    rcases Nat.lt_or_ge i next.length with hlt | hge
    · obtain ⟨z, h1, h2⟩ := S.nx i hlt
      refine ⟨z, un h1, ?_⟩
      rcases h2 with h2 | ⟨v, y, g, a, b, c, d⟩
      · exact .inl h2
      · exact .inr ⟨v, y, g, a, b, up c, d⟩
    · simp only [List.length_append, List.length_singleton] at hi
      have : i = next.length := by omega
      subst this
      exact ⟨-1, List.getElem?_concat_length, .inl rfl⟩
  · intro i y g h
    rcases Nat.lt_or_ge i src.length with hlt | hge
    · rw [List.getElem?_append_left hlt] at h
      exact S.sv i y g h
    · rw [List.getElem?_append_right hge] at h
      cases hii : i - src.length with
      | zero =>
        rw [hii] at h
        simp only [List.getElem?_cons_zero, Option.some.injEq, Prod.mk.injEq] at h
        omega
      | succ q => rw [hii] at h; simp at h
theorem Tbl.read (S : Tbl n k A rk x src reads writes writers initial readers next succ) {r i : Nat} {f : Int} (hr : r < reads.length) (hi : i < readers.length) (hsrc : src[i]? = some (x, f)) (hS : SrcS (loc (A x)) rk r f) (next' : List Int) (hl : next'.length = next.length)
    (hn : (WtF A x r ∧ next[i]? = some (-1) ∧ next' = next.set i (r : Int)) ∨ (¬ WtF A x r ∧ next' = next)) : Tbl n k A rk x src (reads.set r (reads[r] ++ [(i : Int)])) writes writers initial (readers.set i (readers[i] ++ [(r : Int)])) next' succ := by
  have hrn : r < n := by rw [← S.l1]; exact hr
  have hin : i < next.length := by rw [S.l6]; exact hi
  refine { S with l1 := by rw [List.length_set]; exact S.l1, l6 := by rw [List.length_set, hl, S.l6], l7 := by rw [List.length_set, S.l7], rd := ?_, rs := ?_, nx := ?_ }
  · intro b h id hid
    rcases mem_push hr h hid with ⟨h', hid⟩ | ⟨rfl, rfl⟩
    · exact S.rd b h' id hid
    · exact ⟨i, x, f, rfl, hsrc, hS⟩
  · intro j h u hu
    rcases mem_push hi h hu with ⟨h', hu⟩ | ⟨rfl, rfl⟩
    · obtain ⟨v, y, g, h1, h2, h3, h4, h5⟩ := S.rs j h' u hu
      refine ⟨v, y, g, h1, h2, h3, h4, fun hw => ?_⟩
      have h6 := h5 hw
      rcases hn with ⟨_, hm1, rfl⟩ | ⟨_, rfl⟩
      · by_cases hij : i = j
        · subst hij
          rw [hm1] at h6
          injection h6 with h6
          omega
        · rw [List.getElem?_set_ne hij]; exact h6
      · exact h6
    · refine ⟨r, x, f, rfl, hrn, hsrc, hS, fun hw => ?_⟩
      rcases hn with ⟨_, _, rfl⟩ | ⟨hnw, _⟩
      · exact List.getElem?_set_self hin
      · exact absurd hw hnw
  · intro j hj
    rw [hl] at hj
    rcases hn with ⟨hw, _, rfl⟩ | ⟨_, rfl⟩
    · by_cases hij : i = j
      · subst hij
        exact ⟨r, List.getElem?_set_self hin, .inr ⟨r, x, f, rfl, hrn, hsrc, hS, hw⟩⟩
      · rw [List.getElem?_set_ne hij]
        exact S.nx j hj
    · exact S.nx j hj
theorem Tbl.edge (S : Tbl n k A rk x src reads writes writers initial readers next succ) {v u : Nat} (hv : v < succ.length) (hu : u < n) (hlt : rk v < rk u) : Tbl n k A rk x src reads writes writers initial readers next (succ.set v (succ[v] ++ [(u : Int)])) :=
  { S with
    l5 := by rw [List.length_set]; exact S.l5
    ed := fun j hj z hz => by
      rcases mem_push hv hj hz with ⟨h, hz⟩ | ⟨rfl, rfl⟩
      · exact S.ed j h z hz
      · exact ⟨u, rfl, hu, hlt⟩ }
theorem Tbl.write (S : Tbl n k A rk x src reads writes writers initial readers next succ) {a y : Nat} {z : Int} (ha : a < writes.length) (hx : y < k) (hw : WtF A y a) (hz : z = -1 ∨ ∃ i : Nat, z = (i : Int) ∧ src[i]? = some (y, (a : Int))) : Tbl n k A rk x src reads (writes.set a (writes[a] ++ [((y : Int), z)])) writers initial readers next succ :=
  { S with
    l2 := by rw [List.length_set]; exact S.l2
    wr := fun j hj p hp => by
      rcases mem_push ha hj hp with ⟨h, hp⟩ | ⟨rfl, rfl⟩
      · exact S.wr j h p hp
      · exact ⟨y, rfl, hx, hw, hz⟩ }
theorem Tbl.init (S : Tbl n k A rk x src reads writes writers initial readers next succ) {z : Int} (hx : x < k) (hz : z = -1 ∨ ∃ i : Nat, z = (i : Int) ∧ src[i]? = some (x, -1)) : Tbl n k A rk (x + 1) src reads writes writers (initial.set x z) readers next succ :=
  { S with
    l4 := by rw [List.length_set]; exact S.l4
    ini := fun y hy => by
      by_cases hyx : x = y
      · subst hyx
        exact ⟨z, List.getElem?_set_self (by rw [S.l4]; exact hx), hz⟩
      · rw [List.getElem?_set_ne hyx]
        exact S.ini y (by omega) }
theorem Tbl.pf (S : Tbl n k A rk x src reads writes writers initial readers next succ) (hL : ∀ y, y < k → Pl.Loc (loc (A y)) rk n) (hinj : ∀ u v, u < n → v < n → rk u = rk v → u = v) :
    PF n rk (WtF A) (fun i => (src.getD i (0, 0)).1) (fun i => (src.getD i (0, 0)).2) reads writes readers where
  inj := hinj
  rl := S.l1
  wl := S.l2
  rd := fun b h id hid => by
    obtain ⟨i, y, f, h1, h2, h3⟩ := S.rd b h id hid
    have hlt := (List.getElem?_eq_some_iff.1 h2).1
    refine ⟨i, h1, by rw [← S.l7]; exact hlt, ?_⟩
    simp only [List.getD_eq_getElem?_getD, h2, Option.getD_some]
    intro a ha
    exact (hL y (S.sv i y f h2)).between h3 ha
  rs := fun i h r hr => by
    obtain ⟨v, y, f, h1, h2, h3, h4, _⟩ := S.rs i h r hr
    refine ⟨v, h1, h2, ?_⟩
    simp only [List.getD_eq_getElem?_getD, h3, Option.getD_some]
    intro a ha
    exact (hL y (S.sv i y f h3)).between h4 ha
  wr := fun a h p hp => by
    obtain ⟨y, h1, h2, h3, h4⟩ := S.wr a h p hp
    refine ⟨y, h1, h3, ?_⟩
    rcases h4 with h4 | ⟨i, h4, h5⟩
    · exact .inl (by omega)
    · have hlt := (List.getElem?_eq_some_iff.1 h5).1
      exact .inr ⟨i, h4, by rw [← S.l7]; exact hlt, by simp [List.getD_eq_getElem?_getD, h5], by simp [List.getD_eq_getElem?_getD, h5]⟩
end

/-! ### the scan of one item's accesses -/
abbrev gI (v : Int) (l : List (Int × Value)) : Option Value := getL (fun a b => a == b) v l
structure Scan (h : Hist) (rk : Nat → Nat) (n i : Nat) (lf lw lb : List (Int × Value)) (fs : List Int) : Prop where
  f : ∀ (v : Nat) (u : Value), gI (v : Int) lf = some u → ∃ f : Int, u = .int .i64 f ∧ SrcS h rk v f
  w1 : ∀ (v : Nat) (u : Value), gI (v : Int) lw = some u → u = .bool true ∧ Wt h i v
  w2 : ∀ v : Nat, Wt h i v → gI (v : Int) lw = some (.bool true)
  b : ∀ (v : Nat) (u : Value), gI (v : Int) lb = some u → u = .bool true ∧ Rb h rk i v
  ff : ∀ r ∈ fs, ∃ v : Nat, r = (v : Int) ∧ v < n ∧ ∃ u, gI (v : Int) lf = some u
  fl : fs.length ≤ i
  nd : fs.Nodup
theorem gI_put (k k' : Int) (v : Value) (l : List (Int × Value)) : gI k' (putL (fun a b => a == b) k v l) = if k' = k then some v else gI k' l := by
  have := getL_put (same := fun (a b : Int) => a == b) (by simp) k k' v l
  simpa using this
section
variable {h : Hist} {rk : Nat → Nat} {n i : Nat} {lf lw lb : List (Int × Value)} {fs : List Int}
theorem Pl.Wt.succ {v : Nat} (hw : Wt h i v) : Wt h (i + 1) v := by
  obtain ⟨j, h1, h2⟩ := hw
  exact ⟨j, by omega, h2⟩
theorem Pl.Rb.succ {v : Nat} (hw : Rb h rk i v) : Rb h rk (i + 1) v := by
  obtain ⟨r, j, h1, h2⟩ := hw
  exact ⟨r, j, by omega, h2⟩
theorem Pl.Wt.down {v : Nat} (hw : Wt h (i + 1) v) (hr : h.wr i = false) : Wt h i v := by
  obtain ⟨j, h1, h2, h3⟩ := hw
  refine ⟨j, ?_, h2, h3⟩
  rcases Nat.lt_or_ge j i with h4 | h4
  · exact h4
  · have : j = i := by omega
    subst this
    rw [hr] at h2; cases h2
theorem Pl.Wt.mono {v m : Nat} (hw : Wt h i v) (hm : i ≤ m) : Wt h m v := by
  obtain ⟨j, h1, h2⟩ := hw
  exact ⟨j, by omega, h2⟩
theorem Scan.start : Scan h rk n 0 [] [] [] [] := ⟨fun v u e => (by cases e), fun v u e => (by cases e), fun v hw => (by obtain ⟨j, h1, _⟩ := hw; omega), fun v u e => (by cases e), fun r hr => (by cases hr), Nat.le_refl _, List.nodup_nil⟩
theorem Scan.skip (S : Scan h rk n i lf lw lb fs) (hr : h.wr i = false) : Scan h rk n (i + 1) lf lw lb fs :=
  ⟨S.f, fun v u e => ⟨(S.w1 v u e).1, (S.w1 v u e).2.succ⟩, fun v hw => S.w2 v (hw.down hr), fun v u e => ⟨(S.b v u e).1, (S.b v u e).2.succ⟩, S.ff, by have := S.fl; omega, S.nd⟩
theorem Scan.write (S : Scan h rk n i lf lw lb fs) (hr : h.wr i = true) (lw' : List (Int × Value)) (hl : lw' = putL (fun a b => a == b) (h.nd i : Int) (.bool true) lw ∨ (gI (h.nd i : Int) lw = some (.bool true) ∧ lw' = lw)) : Scan h rk n (i + 1) lf lw' lb fs := by
  have key : ∀ v : Nat, gI (v : Int) lw' = if v = h.nd i then some (.bool true) else gI (v : Int) lw := by
    intro v
    rcases hl with rfl | ⟨h1, rfl⟩
    · rw [gI_put]
      by_cases hv : v = h.nd i
      · simp [hv]
      · rw [if_neg (by omega), if_neg hv]
    · by_cases hv : v = h.nd i
      · rw [if_pos hv, hv, h1]
      · rw [if_neg hv]
  refine ⟨S.f, fun v u e => ?_, fun v hw => ?_, fun v u e => ⟨(S.b v u e).1, (S.b v u e).2.succ⟩, S.ff, by have := S.fl; omega, S.nd⟩
  · rw [key] at e
    by_cases hv : v = h.nd i
    · rw [if_pos hv] at e
      injection e with e
      exact ⟨e.symm, i, by omega, hr, hv.symm⟩
    · rw [if_neg hv] at e
      exact ⟨(S.w1 v u e).1, (S.w1 v u e).2.succ⟩
  · rw [key]
    by_cases hv : v = h.nd i
    · rw [if_pos hv]
    · rw [if_neg hv]
      refine S.w2 v ?_
      obtain ⟨j, h1, h2, h3⟩ := hw
      refine ⟨j, ?_, h2, h3⟩
      rcases Nat.lt_or_ge j i with h4 | h4
      · exact h4
      · have : j = i := by omega
        subst this
        exact absurd h3.symm hv
theorem Scan.first (S : Scan h rk n i lf lw lb fs) (L : Pl.Loc h rk n) (hi : i < h.m) (hr : h.wr i = false) (hw : ¬ Wt h i (h.nd i)) (hnew : gI (h.nd i : Int) lf = none) (lb' : List (Int × Value)) (hl : (lwn h i < 0 ∧ lb' = lb) ∨ lb' = putL (fun a b => a == b) (lwn h i) (.bool true) lb) :
    Scan h rk n (i + 1) (putL (fun a b => a == b) (h.nd i : Int) (.int .i64 (lwn h i)) lf) lw lb' (fs ++ [(h.nd i : Int)]) := by
  have hsrc := L.src hi hr hw
  refine ⟨fun v u e => ?_, fun v u e => ⟨(S.w1 v u e).1, (S.w1 v u e).2.succ⟩, fun v hw => S.w2 v (hw.down hr), fun v u e => ?_, fun r hr' => ?_, by have := S.fl; simp; omega, ?_⟩
  · rw [gI_put] at e
    by_cases hv : (v : Int) = (h.nd i : Int)
    · rw [if_pos hv] at e
      injection e with e
      have : v = h.nd i := by omega
      subst this
      exact ⟨_, e.symm, hsrc⟩
    · rw [if_neg hv] at e
      exact S.f v u e
  · rcases hl with ⟨_, rfl⟩ | rfl
    · exact ⟨(S.b v u e).1, (S.b v u e).2.succ⟩
    · rw [gI_put] at e
      by_cases hv : (v : Int) = lwn h i
      · rw [if_pos hv] at e
        injection e with e
        exact ⟨e.symm, (L.rb hi hr hw hv.symm).succ⟩
      · rw [if_neg hv] at e
        exact ⟨(S.b v u e).1, (S.b v u e).2.succ⟩
  · rcases List.mem_append.1 hr' with h1 | h1
    · obtain ⟨v, e, h2, u, h3⟩ := S.ff r h1
      refine ⟨v, e, h2, ?_⟩
      rw [gI_put]
      by_cases hv : (v : Int) = (h.nd i : Int)
      · rw [if_pos hv]; exact ⟨_, rfl⟩
      · rw [if_neg hv]; exact ⟨u, h3⟩
    · have : r = (h.nd i : Int) := by simpa using h1
      refine ⟨h.nd i, this, L.nd i hi, ?_⟩
      rw [gI_put, if_pos rfl]
      exact ⟨_, rfl⟩
  · rw [List.nodup_append]
    refine ⟨S.nd, by simp, fun a ha b hb => ?_⟩
    have : b = (h.nd i : Int) := by simpa using hb
    rintro rfl
    obtain ⟨v, e, _, u, h3⟩ := S.ff a ha
    rw [← e, this, hnew] at h3
    cases h3
end
def AccR (w : World) (v : Value) (A : List (Nat × Bool)) : Prop :=
  ∃ a c, v = .slice a A.length c ∧ ∀ i (h : i < A.length), ∃ b o, a = some ⟨b, o, none⟩ ∧ w.cell? ⟨b, o + i * 2, none⟩ = some (.int .i64 (A[i].1 : Int)) ∧ w.cell? ⟨b, o + i * 2 + 1, none⟩ = some (.bool A[i].2)
/-- A push of a write. -/
theorem pushWr {N : Nat} {w0 w : World} {G : Nat → Part} {pb : Nat} {pcs : List Value} {v : Value} {rows : List (List (Int × Int))} (hp : VB (G 1) pb 58 pcs) (hf : pcs[1]? = some v) (hT : TabV (G 3) 61 63 2 encP v rows) (hs : Split N w0 w G)
    {i : Nat} (hi : i < rows.length) (z : Int × Int) (hb : rows[i].length + 1 ≤ 1099511627776) :
    ∃ g cap cell v' w2 G1 G2 G3, v = .slice (some ⟨g, 0, none⟩) rows.length cap ∧
      (∀ j, j ≤ 2 → (stg w [w.alloc (.cells #[.int .i64 z.1, .int .i64 z.2] 63), w2, w2.setCell ⟨g, i, none⟩ v'] j).cell? ⟨pb, 1, none⟩ = some (.slice (some ⟨g, 0, none⟩) rows.length cap)) ∧
      (∀ j, j ≤ 1 → (stg w [w.alloc (.cells #[.int .i64 z.1, .int .i64 z.2] 63), w2, w2.setCell ⟨g, i, none⟩ v'] j).cell? ⟨g, i, none⟩ = some cell) ∧
      (∀ (ρ : Operand → Value) (dst : Option Tmp) (ty : TypeId) (pos : String) (aft : Array Edge) (gg : Option (Nat × Bool)) (x y : Operand), ρ x = cell → ρ y = .slice (some ⟨w.heap.size, 0, none⟩) 1 1 →
        Does Try.prog ⟨dst, .call { callee := .builtin .append, args := #[x, y], argTypes := #[61, 61] }, ty, pos, aft, gg⟩ ρ (w.alloc (.cells #[.int .i64 z.1, .int .i64 z.2] 63)) v' w2) ∧
      (∀ (ρ : Operand → Value) (dst : Option Tmp) (ty : TypeId) (pos : String) (aft : Array Edge) (gg : Option (Nat × Bool)) (x y : Operand), ρ x = .pointer (some ⟨g, i, none⟩) → ρ y = v' →
        Does Try.prog ⟨dst, .store 61 x y, ty, pos, aft, gg⟩ ρ w2 undef (w2.setCell ⟨g, i, none⟩ v')) ∧
      Same [28] G G1 ∧ Same [3, 28] G G2 ∧ Same [3, 28] G G3 ∧ Split N w0 (w.alloc (.cells #[.int .i64 z.1, .int .i64 z.2] 63)) G1 ∧ Split N w0 w2 G2 ∧ Split N w0 (w2.setCell ⟨g, i, none⟩ v') G3 ∧ TabV (G3 3) 61 63 2 encP v (rows.set i (rows[i] ++ [z])) := by
  obtain ⟨g, cap, cell, v', w2, G1, G2, G3, hv, hca, hcb, hapT, hstT, j1, j2, j3, g1, g2, g3, hT6⟩ := TabV.pushR (t := 3) (j := 28) T61 T63 T61 rfl (by decide) (by decide) hT hs rfl hi z #[.int .i64 z.1, .int .i64 z.2] rfl rfl (one_P _) hb
  subst hv
  refine ⟨g, cap, cell, v', w2, G1, G2, G3, rfl, ?_, ?_, hapT, hstT, j1, j2, j3, g1, g2, g3, hT6⟩
  · exact le2 (p := fun j => (stg w [w.alloc (.cells #[.int .i64 z.1, .int .i64 z.2] 63), w2, w2.setCell ⟨g, i, none⟩ v'] j).cell? ⟨pb, 1, none⟩ = some (.slice (some ⟨g, 0, none⟩) rows.length cap)) (hp.cell hs hf) ((j1.vb (t := 1) (by decide) hp).cell g1 hf) ((j2.vb (t := 1) (by decide) hp).cell g2 hf)
  · exact le1 (p := fun j => (stg w [w.alloc (.cells #[.int .i64 z.1, .int .i64 z.2] 63), w2, w2.setCell ⟨g, i, none⟩ v'] j).cell? ⟨g, i, none⟩ = some cell) hca hcb
theorem lookB {l : List (Int × Value)} {k : Int} {p : Prop} (h1 : ∀ u, gI k l = some u → u = .bool true ∧ p) : ∃ c : Bool, (gI k l).getD (.bool false) = .bool c ∧ (c = true → p ∧ gI k l = some (.bool true)) ∧ (c = false → gI k l = none) := by
  cases hg : gI k l with
  | none => exact ⟨false, rfl, fun h => (by cases h), fun _ => rfl⟩
  | some u =>
    obtain ⟨rfl, hp⟩ := h1 u hg
    exact ⟨true, rfl, fun _ => ⟨hp, rfl⟩, fun h => (by cases h)⟩
theorem bools_set (zs : List Bool) (i : Nat) (z : Bool) : (bools zs).set i (.bool z) = bools (zs.set i z) := by simp [bools, List.map_set]
theorem loc_at (A : List (Nat × Bool)) {i : Nat} (h : i < A.length) : (loc A).nd i = A[i].1 ∧ (loc A).wr i = A[i].2 := by
  simp [loc, List.getD_eq_getElem?_getD, List.getElem?_eq_getElem h]
theorem TabV.nil {V : Part} {et e : TypeId} {size : Nat} {α : Type} {enc : α → List Value} : TabV V et e size enc (.slice none 0 0) [] :=
  ⟨[], RowV.empty, fun i h => by simp at h, fun i j ci cj b _ h => by simp at h⟩
theorem Tbl.start (n k : Nat) (A : Nat → List (Nat × Bool)) (rk : Nat → Nat) : Tbl n k A rk 0 [] (List.replicate n []) (List.replicate n []) (List.replicate k []) (List.replicate k 0) [] [] (List.replicate n []) where
  l1 := by simp
  l2 := by simp
  l3 := by simp
  l4 := by simp
  l5 := by simp
  l6 := rfl
  l7 := rfl
  rd := fun b h id hid => by simp at hid
  rs := fun i h => by simp at h
  wr := fun a h p hp => by simp at hp
  ws := fun y h w hw => by simp at hw
  ini := fun y hy => by omega
  nx := fun i hi => by simp at hi
  sv := fun i y f h => by simp at h
  ed := fun v h u hu => by simp at hu
  wb := fun r hr => by rw [List.eq_of_mem_replicate hr]; simp
end Go.Proofs.Qxb6001364a
