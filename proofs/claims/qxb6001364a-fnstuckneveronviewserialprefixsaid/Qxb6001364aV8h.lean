/-
  forceOrders: its state.
-/
import Derived.Test.Qxb6001364aV7
namespace Go.Fra
open Go.RowKit
def sumLen {α : Type} (rows : List (List α)) : Nat := (rows.map List.length).sum
theorem sumLen_nil {α : Type} : sumLen ([] : List (List α)) = 0 := rfl
theorem sumLen_cons {α : Type} (r : List α) (rows : List (List α)) : sumLen (r :: rows) = r.length + sumLen rows := rfl
theorem sumLen_push {α : Type} (x : α) : ∀ (rows : List (List α)) (i : Nat) (h : i < rows.length), sumLen (rows.set i (rows[i] ++ [x])) = sumLen rows + 1
  | [], i, h => by simp at h
  | r :: rows, 0, _ => by simp [sumLen_cons]; omega
  | r :: rows, i + 1, h => by
    have := sumLen_push x rows i (by simpa using h)
    simp only [List.set_cons_succ, List.getElem_cons_succ, sumLen_cons, this]
    omega
theorem len_le_sum {α : Type} : ∀ (rows : List (List α)) (i : Nat) (h : i < rows.length), rows[i].length ≤ sumLen rows
  | [], i, h => by simp at h
  | r :: rows, 0, _ => by simp [sumLen_cons]
  | r :: rows, i + 1, h => by
    have := len_le_sum rows i (by simpa using h)
    simp only [List.getElem_cons_succ, sumLen_cons]
    omega
theorem sumLen_take {α : Type} : ∀ (rows : List (List α)) (i : Nat) (h : i < rows.length), sumLen (rows.take (i + 1)) = sumLen (rows.take i) + rows[i].length
  | [], i, h => by simp at h
  | r :: rows, 0, _ => by simp [sumLen_cons, sumLen_nil]
  | r :: rows, i + 1, h => by
    have := sumLen_take rows i (by simpa using h)
    simp only [List.take_succ_cons, List.getElem_cons_succ, sumLen_cons] at this ⊢
    omega
theorem sumLen_take_le {α : Type} : ∀ (rows : List (List α)) (i : Nat), sumLen (rows.take i) ≤ sumLen rows
  | [], i => by simp [sumLen_nil]
  | r :: rows, 0 => by simp [sumLen_nil]
  | r :: rows, i + 1 => by
    have := sumLen_take_le rows i
    simp only [List.take_succ_cons, sumLen_cons]
    omega
theorem sumLen_app {α : Type} (a b : List (List α)) : sumLen (a ++ b) = sumLen a + sumLen b := by simp [sumLen]
theorem sumLen_rep {α : Type} (n : Nat) : sumLen (List.replicate n ([] : List α)) = 0 := by simp [sumLen]

section
variable {P : Program} {ρ : Operand → Value} {w : World} {dst : Option Tmp} {ty : TypeId} {pos : String} {aft : Array Edge} {g : Option (Nat × Bool)}
theorem do_sliceHi {t e : TypeId} {x y : Operand} {b n c h : Nat} {zt : Value} {s1 b1 : Nat} {d : TypeDesc} {z : Value} {sz by_ : Nat} (T : TyI P t (.slice e) zt s1 b1) (TE : TyI P e d z sz by_)
    (hx : ρ x = .slice (some ⟨b, 0, none⟩) n c) (hy : ρ y = .int .i64 (h : Int)) (hh : h ≤ c) :
    Does P ⟨dst, .slice t x none (some y) none, ty, pos, aft, g⟩ ρ w (.slice (some ⟨b, 0, none⟩) h c) w := by
  refine .inl ?_
  have hs := TE.run_size w
  simp [execOp, hx, hy, Instr.sliceAt, Instr.slice, Instr.sliceBounds, Instr.sliceBound, asIntOf, underlying, T.u, hs, hh, add_plain]
end
theorem RowV.pop {V : Part} {e : TypeId} {size : Nat} {g n cap : Nat} {xs : List Value} (h : RowV V e size (.slice (some ⟨g, 0, none⟩) n cap) n xs) {m : Nat} (hm : m ≤ n) : RowV V e size (.slice (some ⟨g, 0, none⟩) m cap) m (xs.take (m * size)) := by
  have hmul : m * size ≤ n * size := Nat.mul_le_mul_right _ hm
  refine ⟨by rw [List.length_take, h.1]; omega, ?_⟩
  rcases h.2 with ⟨e, _⟩ | ⟨g', cap', cur, e, hg, h1, h2, h3, h4⟩
  · cases e
  · cases e
    refine .inr ⟨g, cap, cur, rfl, hg, by omega, h2, h3, ?_⟩
    rw [← h4, List.take_take, Nat.min_eq_left hmul]
theorem RowV.capge {V : Part} {e : TypeId} {size : Nat} {g n cap : Nat} {xs : List Value} (h : RowV V e size (.slice (some ⟨g, 0, none⟩) n cap) n xs) : n ≤ cap := by
  rcases h.2 with ⟨e, _⟩ | ⟨g', cap', cur, e, hg, h1, h2, h3, h4⟩
  · cases e
  · cases e; exact h1
theorem flatP_len : ∀ (ps : List (Int × Int)), (ps.flatMap encP).length = ps.length * 2
  | [] => rfl
  | p :: ps => by
    have := flatP_len ps
    simp only [List.flatMap_cons, List.length_append, this, List.length_cons, encP, List.length_nil]
    omega
theorem flatP_get : ∀ (ps : List (Int × Int)) (i : Nat) (h : i < ps.length), (ps.flatMap encP)[i * 2]? = some (.int .i64 ps[i].1) ∧ (ps.flatMap encP)[i * 2 + 1]? = some (.int .i64 ps[i].2)
  | [], i, h => by simp at h
  | p :: ps, 0, _ => by simp [encP, List.flatMap_cons]
  | p :: ps, i + 1, h => by
    have := flatP_get ps i (by simpa using h)
    simp only [List.flatMap_cons, List.getElem_cons_succ]
    rw [show (i + 1) * 2 = i * 2 + 2 by omega, show i * 2 + 2 + 1 = (i * 2 + 1) + 2 by omega]
    rw [List.getElem?_append_right (by simp [encP]), List.getElem?_append_right (by simp [encP])]
    simpa [encP] using this
theorem flatP_take : ∀ (ps : List (Int × Int)) (i : Nat), (ps.take i).flatMap encP = (ps.flatMap encP).take (i * 2)
  | [], i => by simp
  | p :: ps, 0 => by simp
  | p :: ps, i + 1 => by
    have := flatP_take ps i
    rw [List.take_succ_cons, List.flatMap_cons, this, List.flatMap_cons, show (i + 1) * 2 = i * 2 + 2 by omega]
    simp [encP]
theorem TabV.getS {N : Nat} {w0 w : World} {H : Nat → Part} {t : Nat} {et e : TypeId} {size : Nat} {α : Type} {enc : α → List Value} {a : Option Addr} {m c : Nat} {rows : List (List α)} (h : TabV (H t) et e size enc (.slice a m c) rows) (hs : Split N w0 w H) {i : Nat} (hi : i < rows.length) :
    ∃ g cell, a = some ⟨g, 0, none⟩ ∧ w.cell? ⟨g, i, none⟩ = some cell ∧ w.frozen? ⟨g, i, none⟩ = false ∧ RowV (H t) e size cell rows[i].length (rows[i].flatMap enc) := by
  obtain ⟨g, cap, cell, hv, h1, h2, h3⟩ := h.get hs hi
  injection hv with e1 e2 e3
  exact ⟨g, cell, e1, h1, h2, h3⟩
theorem RowV.cellS {N : Nat} {w0 w : World} {H : Nat → Part} {t : Nat} {e : TypeId} {size : Nat} {a : Option Addr} {m c n : Nat} {xs : List Value} (h : RowV (H t) e size (.slice a m c) n xs) (hs : Split N w0 w H) {j : Nat} {u : Value} (hu : xs[j]? = some u) :
    ∃ g, a = some ⟨g, 0, none⟩ ∧ w.cell? ⟨g, j, none⟩ = some u ∧ w.frozen? ⟨g, j, none⟩ = false := by
  obtain ⟨g, cap, hv, h1, h2⟩ := h.cell hs hu
  injection hv with e1 e2 e3
  exact ⟨g, e1, h1, h2⟩
theorem made_ints (n : Nat) : (madeCells #[.int .i64 0] n).toList = ints (List.replicate n 0) := by
  rw [made_list]; simp [ints]
theorem cellI {zs : List Int} {i : Nat} (h : i < zs.length) : (zs.flatMap encI)[i]? = some (.int .i64 zs[i]) := by rw [flat_I]; exact ints_get zs i h
end Go.Fra
namespace Go.Proofs.Qxb6001364a
open Go.Fra Go.RowKit Pl
set_option linter.unusedVariables false

/-- No writer of x comes between f and r. -/
def Bt (rk : Nat → Nat) (Wr : Nat → Nat → Prop) (x : Nat) (f : Int) (r : Nat) : Prop := ∀ a, Wr x a → (∃ v : Nat, f = (v : Int) ∧ (a = v ∨ rk a < rk v)) ∨ rk r ≤ rk a
def Ed (n : Nat) (rk : Nat → Nat) (v : Nat) (u : Int) : Prop := ∃ u' : Nat, u = (u' : Int) ∧ u' < n ∧ rk v < rk u'
/-- What a problem's tables say. -/
structure PF (n : Nat) (rk : Nat → Nat) (Wr : Nat → Nat → Prop) (itm : Nat → Nat) (wtr : Nat → Int) (reads : List (List Int)) (writes : List (List (Int × Int))) (readers : List (List Int)) : Prop where
  inj : ∀ u v, u < n → v < n → rk u = rk v → u = v
  rl : reads.length = n
  wl : writes.length = n
  rd : ∀ b (h : b < reads.length), ∀ id ∈ reads[b], ∃ i : Nat, id = (i : Int) ∧ i < readers.length ∧ Bt rk Wr (itm i) (wtr i) b
  rs : ∀ i (h : i < readers.length), ∀ r ∈ readers[i], ∃ v : Nat, r = (v : Int) ∧ v < n ∧ Bt rk Wr (itm i) (wtr i) v
  wr : ∀ a (h : a < writes.length), ∀ p ∈ writes[a], ∃ x : Nat, p.1 = (x : Int) ∧ Wr x a ∧ (p.2 < 0 ∨ ∃ i : Nat, p.2 = (i : Int) ∧ i < readers.length ∧ itm i = x ∧ wtr i = (a : Int))

/-- What changes while orders are forced. -/
def Dyn (N : Nat) (w0 : World) (H0 : Nat → Part) (sv : Value) (mb qb n : Nat) (rk : Nat → Nat) (w : World) (S P : Nat) : Prop :=
  ∃ (H : Nat → Part) (rows : List (List Int)) (pend : List (Int × Int)) (l : List ((Int × Int) × Value)) (qv : Value), Split N w0 w H ∧ Same [8, 25, 26, 27, 28] H0 H ∧ TabV (H 8) 22 3 1 encI sv rows ∧ MapV (H 25) mb pk l ∧ (∀ q ∈ l, ∃ c : Bool, q.2 = .bool c) ∧ VB (H 26) qb 85 [qv] ∧ RowV (H 27) 60 2 qv pend.length (pend.flatMap encP) ∧
    rows.length = n ∧ sumLen rows = S ∧ pend.length = P ∧ (∀ v (h : v < rows.length), ∀ u ∈ rows[v], Ed n rk v u) ∧ (∀ p ∈ pend, ∃ a b : Nat, p = ((a : Int), (b : Int)) ∧ a < n ∧ b < n ∧ rk a < rk b)

theorem forceD {N : Nat} {w0 : World} {H0 : Nat → Part} {sv : Value} {vb pb eb mb qb n : Nat} {pcs : List Value} {rk : Nat → Nat} {w : World} {S P : Nat} (hD : Dyn N w0 H0 sv mb qb n rk w S P)
    (hpv : VB (H0 20) vb 33 [.pointer (some ⟨pb, 0, none⟩)]) (hp : VB (H0 1) pb 58 pcs) (hp6 : pcs[6]? = some sv) (hev : VB (H0 24) eb 84 [.map (some mb)])
    (a b : Nat) (ha : a < n) (hb : b < n) (hab : a = b ∨ rk a < rk b) (hS : S + 1 ≤ 1099511627776) (hP : P + 1 ≤ 1099511627776) :
    Calls Try.prog 39 (#[.int .i64 (a : Int), .int .i64 (b : Int)] ++ #[.pointer (some ⟨eb, 0, none⟩), .pointer (some ⟨qb, 0, none⟩), .pointer (some ⟨vb, 0, none⟩)]) w fun e w' => ∃ v, e = .returned v ∧ ∃ S' P', Dyn N w0 H0 sv mb qb n rk w' S' P' ∧ S' ≤ S + 1 ∧ P' ≤ P + 1 := by
  obtain ⟨H, rows, pend, l, qv, hs, hk, hT, hm, hl, hqv, hq, hrl, hsum, hpl, hed, hpe⟩ := hD
  have hlen := len_le_sum rows a (by omega)
  refine (force39 hs a b pb vb eb mb qb pcs sv qv rows pend l (hk.vb (by decide) hpv) (hk.vb (by decide) hp) hp6 hT (hk.vb (by decide) hev) hm hl hqv hq (by omega) (by omega) (by omega)).mono ?_
  rintro e w' ⟨v, rfl, H', rows', pend', l', qv', hs', hk', hT', hm', hl', hqv', hq', hcase⟩
  rcases hcase with ⟨rfl, rfl⟩ | ⟨hne, rfl, rfl⟩
  · exact ⟨v, rfl, S, P, ⟨H', rows', pend', l', qv', hs', hk.trans hk', hT', hm', hl', hqv', hq', hrl, hsum, hpl, hed, hpe⟩, by omega, by omega⟩
  · have hlt : rk a < rk b := by
      rcases hab with e | h
      · exact absurd e hne
      · exact h
    refine ⟨v, rfl, S + 1, P + 1, ⟨H', _, _, l', qv', hs', hk.trans hk', hT', hm', hl', hqv', hq', by simpa using hrl, by rw [sumLen_push, hsum], by simp [hpl], ?_, ?_⟩, Nat.le_refl _, Nat.le_refl _⟩
    · intro u hu z hz
      rw [List.length_set] at hu
      by_cases hau : a = u
      · subst hau
        rw [List.getElem_set_self, List.mem_append] at hz
        rcases hz with hz | hz
        · exact hed a hu z hz
        · have : z = (b : Int) := by simpa using hz
          exact ⟨b, this, hb, hlt⟩
      · rw [List.getElem_set_ne hau] at hz
        exact hed u hu z hz
    · intro p hp'
      rcases List.mem_append.1 hp' with h | h
      · exact hpe p h
      · have : p = ((a : Int), (b : Int)) := by simpa using h
        exact ⟨a, b, this, ha, hb, hlt⟩
theorem nm39 : (Try.f39.name == "runtime.NumGoroutine") = false := by kernel_rfl
theorem bd39 : Try.f39.body.isNone = false := by kernel_rfl
end Go.Proofs.Qxb6001364a
