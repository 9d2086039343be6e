/-
  TABLES IN A PART OF THE HEAP: a row of slices, each the owner of a row of its own.
-/
import Derived.Test.Qxb6001364aHs
namespace Go.Fra
open Go.RowKit

def encI (z : Int) : List Value := [.int .i64 z]
def encP (p : Int × Int) : List Value := [.int .i64 p.1, .int .i64 p.2]
theorem flat_I : ∀ (zs : List Int), zs.flatMap encI = ints zs
  | [] => rfl
  | z :: zs => by
    have := flat_I zs
    simp only [List.flatMap_cons, this]
    rfl

def TabV (V : Part) (et e : TypeId) (size : Nat) {α : Type} (enc : α → List Value) (v : Value) (rows : List (List α)) : Prop :=
  ∃ cells, RowV V et 1 v rows.length cells ∧
    (∀ i (h : i < rows.length), ∃ c, cells[i]? = some c ∧ RowV V e size c rows[i].length (rows[i].flatMap enc) ∧ (∀ b, c.ownBlock = some b → v.ownBlock ≠ some b)) ∧
    (∀ (i j : Nat) (ci cj : Value) (b : Nat), i ≠ j → cells[i]? = some ci → cells[j]? = some cj → ci.ownBlock = some b → cj.ownBlock ≠ some b)

theorem updH_twice {H : Nat → Part} {t : Nat} {V V' : Part} : updH (updH H t V) t V' = updH H t V' := by
  funext t'
  unfold updH
  cases Nat.beq t' t <;> rfl

section
variable {N : Nat} {w0 w w' : World} {H : Nat → Part} {t : Nat} {et e : TypeId} {size : Nat} {α : Type} {enc : α → List Value} {v : Value} {rows : List (List α)}

theorem TabV.slice {V : Part} (h : TabV V et e size enc v rows) : ∃ a c, v = .slice a rows.length c := by
  obtain ⟨cells, h1, _⟩ := h
  exact h1.slice
theorem TabV.one {V : Part} (h : TabV V et e size enc v rows) : v.oneCell' = true := by
  obtain ⟨cells, h1, _⟩ := h
  exact h1.one
theorem RowV.len {V : Part} {xs : List Value} {n : Nat} (h : RowV V e 1 v n xs) : xs.length = n := by have := h.1; omega

theorem TabV.get (h : TabV (H t) et e size enc v rows) (hs : Split N w0 w H) {i : Nat} (hi : i < rows.length) :
    ∃ g cap c, v = .slice (some ⟨g, 0, none⟩) rows.length cap ∧ w.cell? ⟨g, i, none⟩ = some c ∧ w.frozen? ⟨g, i, none⟩ = false ∧ RowV (H t) e size c rows[i].length (rows[i].flatMap enc) := by
  obtain ⟨cells, h1, h2, _⟩ := h
  obtain ⟨c, hc, hr, _⟩ := h2 i hi
  obtain ⟨g, cap, hv, hcell, hfr⟩ := h1.cell hs hc
  exact ⟨g, cap, c, hv, hcell, hfr, hr⟩

theorem TabV.new {V : Part} {b : Nat} (n : Nat) (hn : n ≤ maxLen) : TabV (addV V b (.cells (madeCells #[.slice none 0 0] n) et)) et e size enc (.slice (some ⟨b, 0, none⟩) n n) (List.replicate n []) := by
  have hB : VB (addV V b (.cells (madeCells #[.slice none 0 0] n) et)) b et (List.replicate n (.slice none 0 0)) := by
    rw [← made_list]
    exact VB.add
  have hR := RowV.of_blk hB (by simpa using hn)
  simp only [List.length_replicate] at hR
  refine ⟨List.replicate n (.slice none 0 0), by simpa using hR, ?_, ?_⟩
  · intro i hi
    simp only [List.length_replicate] at hi
    refine ⟨.slice none 0 0, by simp [hi], ?_, fun b hb => by cases hb⟩
    simp only [List.getElem_replicate]
    exact RowV.empty
  · intro i j ci cj b' _ hci _ hb
    rw [List.getElem?_replicate] at hci
    split at hci
    · cases hci; cases hb
    · cases hci

/-- One more element at the end of row i. -/
theorem TabV.push {P : Program} {ts : TypeId} {zt : Value} {s1 b1 : Nat} {d : TypeDesc} {z : Value} {bytes : Nat} (T : TyI P ts (.slice e) zt s1 b1) (TE : TyI P e d z size bytes) (hzs : z.cells.size = size) (hsz : 0 < size)
    (h : TabV (H t) et e size enc v rows) (hs : Split N w0 w H) {i : Nat} (hi : i < rows.length) {x : α} {a : Addr} {c : Nat} (hl : (enc x).length = size) (hnews : ∀ j u, (enc x)[j]? = some u → w.cell? (a.add j) = some u)
    (h1 : ∀ u ∈ enc x, u.oneCell' = true) (h63 : rows[i].length + 1 ≤ 1099511627776) (hby : bytes ≤ 64) :
    ∃ g cap cell v' w1 V1 V2, v = .slice (some ⟨g, 0, none⟩) rows.length cap ∧ w.cell? ⟨g, i, none⟩ = some cell ∧
      (∀ (ρ : Operand → Value) (dst : Option Tmp) (ty : TypeId) (pos : String) (aft : Array Edge) (g : Option (Nat × Bool)) (x y : Operand), ρ x = cell → ρ y = .slice (some a) 1 c →
        Does P ⟨dst, .call { callee := .builtin .append, args := #[x, y], argTypes := #[ts, ts] }, ty, pos, aft, g⟩ ρ w v' w1) ∧
      Split N w0 w1 (updH H t V1) ∧ w1.cell? ⟨g, i, none⟩ = some cell ∧ w1.frozen? ⟨g, i, none⟩ = false ∧ v'.oneCell' = true ∧
      Split N w0 (w1.setCell ⟨g, i, none⟩ v') (updH H t V2) ∧ TabV V2 et e size enc v (rows.set i (rows[i] ++ [x])) := by
  obtain ⟨cells, hO, hR, hD⟩ := h
  obtain ⟨cell, hc, hr, hne⟩ := hR i hi
  obtain ⟨g, cap, hv, hcell, hfr⟩ := hO.cell hs hc
  have hgo : ∃ o, H t g = some o := hO.own_some (b := g) (by rw [hv]; rfl)
  obtain ⟨go, hgo⟩ := hgo
  have hcg : cell.ownBlock ≠ some g := fun hb => hne g hb (by rw [hv]; rfl)
  have hbb : (rows[i].length + 1) * bytes ≤ 140737488355328 := by
    have : (rows[i].length + 1) * bytes ≤ 1099511627776 * 64 := Nat.mul_le_mul h63 hby
    omega
  obtain ⟨v', w1, V1, hdo, hs1, hr1, hk1, hob⟩ := hr.append T TE hzs hsz hs (a := a) (m := 1) (c := c) (news := enc x) (by omega) hnews h1 (by simp only [maxLen]; omega) hbb
  have hg1 : V1 g = some go := hk1 g go hgo (fun e => hcg e.symm)
  have hO1 : RowV V1 et 1 v rows.length cells := hO.mono (fun b hb => by
    have : b = g := by rw [hv] at hb; simpa [Value.ownBlock] using hb.symm
    subst this
    rw [hg1, hgo])
  have hO1' : RowV (updH H t V1 t) et 1 v rows.length cells := by rw [updH_hit]; exact hO1
  obtain ⟨g2, cap2, hv2, hcell1, hfr1⟩ := hO1'.cell hs1 hc
  have hgg : g2 = g := by rw [hv] at hv2; simp at hv2; exact hv2.1.symm
  subst hgg
  obtain ⟨g3, cap3, V2, hv3, hs2, hr2, hk2⟩ := hO1'.set hs1 (j := i) hi v'
  have hgg : g3 = g2 := by rw [hv] at hv3; simp at hv3; exact hv3.1.symm
  subst hgg
  rw [updH_twice] at hs2
  rw [updH_hit] at hk2
  have hv'g : v'.ownBlock ≠ some g3 := by
    rcases hob with ho | ⟨b, ho, hb⟩
    · rw [ho]; exact hcg
    · rw [ho]
      intro e
      cases e
      rw [hgo] at hb
      cases hb
  have hil : i < cells.length := by have := hO.len; omega
  have hlen : (rows.set i (rows[i] ++ [x])).length = rows.length := by simp
  refine ⟨g3, cap, cell, v', w1, V1, V2, hv, hcell, hdo, hs1, hcell1, hfr1, hr1.one, hs2, cells.set i v', ?_, ?_, ?_⟩
  · rw [hlen]; exact hr2
  · intro j hj
    rw [hlen] at hj
    by_cases hij : i = j
    · subst hij
      refine ⟨v', List.getElem?_set_self hil, ?_, ?_⟩
      · rw [List.getElem_set_self]
        simp only [List.length_append, List.length_singleton, List.flatMap_append, List.flatMap_cons, List.flatMap_nil, List.append_nil]
        exact hr1.mono (fun b hb => hk2 b (by rintro rfl; exact hv'g hb))
      · intro b hb hvb
        rw [hv] at hvb
        have : g3 = b := by simpa [Value.ownBlock] using hvb
        subst this
        exact hv'g hb
    · obtain ⟨cj, hcj, hrj, hnj⟩ := hR j hj
      refine ⟨cj, by rw [List.getElem?_set_ne hij]; exact hcj, ?_, hnj⟩
      rw [List.getElem_set_ne hij]
      refine hrj.mono (fun b hb => ?_)
      have hbg : b ≠ g3 := by rintro rfl; exact hnj _ hb (by rw [hv]; rfl)
      obtain ⟨o, ho⟩ := hrj.own_some hb
      rw [hk2 b hbg, hk1 b o ho, ho]
      intro hce
      exact hD i j cell cj b hij hc hcj hce.symm hb
  · have hnew : ∀ j cj b, i ≠ j → cells[j]? = some cj → v'.ownBlock = some b → cj.ownBlock ≠ some b := by
      intro j cj b hij hcj hb hcb
      rcases hob with ho | ⟨b2, ho, hb2⟩
      · rw [ho] at hb
        exact hD i j cell cj b hij hc hcj hb hcb
      · rw [ho] at hb
        cases hb
        have hj : j < rows.length := by have := (List.getElem?_eq_some_iff.1 hcj).1; have := hO.len; omega
        obtain ⟨cj', hcj', hrj, _⟩ := hR j hj
        rw [hcj] at hcj'
        cases hcj'
        obtain ⟨o, ho'⟩ := hrj.own_some hcb
        rw [hb2] at ho'
        cases ho'
    intro j k cj ck b hjk hcj hck hb
    by_cases hij : i = j
    · subst hij
      rw [List.getElem?_set_self hil] at hcj
      cases hcj
      rw [List.getElem?_set_ne hjk] at hck
      exact hnew k ck b hjk hck hb
    · rw [List.getElem?_set_ne hij] at hcj
      by_cases hik : i = k
      · subst hik
        rw [List.getElem?_set_self hil] at hck
        cases hck
        intro hb2
        exact hnew j cj b hij hcj hb2 hb
      · rw [List.getElem?_set_ne hik] at hck
        exact hD j k cj ck b hjk hcj hck hb

/-- One more, empty row. -/
theorem TabV.grow {P : Program} {ts : TypeId} {zt : Value} {s1 b1 : Nat} {d : TypeDesc} {z : Value} {bytes : Nat} (T : TyI P ts (.slice et) zt s1 b1) (TE : TyI P et d z 1 bytes) (hzs : z.cells.size = 1)
    (h : TabV (H t) et e size enc v rows) (hs : Split N w0 w H) {a : Addr} {c : Nat} (hnews : w.cell? (a.add 0) = some (.slice none 0 0)) (h63 : rows.length + 1 ≤ 1099511627776) (hby : bytes ≤ 64) :
    ∃ v' w1 V1, (∀ (ρ : Operand → Value) (dst : Option Tmp) (ty : TypeId) (pos : String) (aft : Array Edge) (g : Option (Nat × Bool)) (x y : Operand), ρ x = v → ρ y = .slice (some a) 1 c →
        Does P ⟨dst, .call { callee := .builtin .append, args := #[x, y], argTypes := #[ts, ts] }, ty, pos, aft, g⟩ ρ w v' w1) ∧
      Split N w0 w1 (updH H t V1) ∧ TabV V1 et e size enc v' (rows ++ [[]]) := by
  obtain ⟨cells, hO, hR, hD⟩ := h
  have hbb : (rows.length + 1) * bytes ≤ 140737488355328 := by
    have : (rows.length + 1) * bytes ≤ 1099511627776 * 64 := Nat.mul_le_mul h63 hby
    omega
  obtain ⟨v', w1, V1, hdo, hs1, hr1, hk1, hob⟩ := hO.append T TE hzs (by omega) hs (a := a) (m := 1) (c := c) (news := [.slice none 0 0]) (by simp)
    (by intro j u hu; cases j with
        | zero => simp at hu; rw [← hu]; exact hnews
        | succ j => simp at hu) (by simp [Value.oneCell']) (by simp only [maxLen]; omega) hbb
  refine ⟨v', w1, V1, hdo, hs1, cells ++ [.slice none 0 0], ?_, ?_, ?_⟩
  · simpa using hr1
  · have hcl := hO.len
    intro i hi
    simp only [List.length_append, List.length_singleton] at hi
    rcases Nat.lt_or_ge i rows.length with hlt | hge
    · obtain ⟨ci, hci, hri, hni⟩ := hR i hlt
      refine ⟨ci, by rw [List.getElem?_append_left (by omega)]; exact hci, ?_, ?_⟩
      · rw [List.getElem_append_left hlt]
        refine hri.mono (fun b hb => ?_)
        obtain ⟨o, ho⟩ := hri.own_some hb
        rw [ho, hk1 b o ho (fun e => hni b hb e.symm)]
      · intro b hb
        rcases hob with ho | ⟨b2, ho, hb2⟩
        · rw [ho]; exact hni b hb
        · rw [ho]
          intro hh
          cases hh
          obtain ⟨o, ho'⟩ := hri.own_some hb
          rw [hb2] at ho'
          cases ho'
    · have : i = rows.length := by omega
      subst this
      refine ⟨.slice none 0 0, by rw [← hcl, List.getElem?_concat_length], ?_, fun b hb => by cases hb⟩
      rw [List.getElem_append_right (Nat.le_refl _)]
      simp only [Nat.sub_self, List.getElem_singleton]
      exact RowV.empty
  · have key : ∀ (k : Nat) (ck : Value) (b : Nat), (cells ++ [.slice none 0 0])[k]? = some ck → ck.ownBlock = some b → cells[k]? = some ck := by
      intro k ck b hk hb
      rcases Nat.lt_or_ge k cells.length with hlt | hge
      · rw [List.getElem?_append_left hlt] at hk; exact hk
      · rw [List.getElem?_append_right hge] at hk
        cases hkk : k - cells.length with
        | zero => rw [hkk] at hk; simp at hk; rw [← hk] at hb; cases hb
        | succ q => rw [hkk] at hk; simp at hk
    intro i j ci cj b hij hci hcj hb hcb
    exact hD i j ci cj b hij (key i ci b hci hb) (key j cj b hcj hcb) hb hcb
end

theorem RowV.ints_at {V : Part} {v : Value} {zs : List Int} {i : Nat} (_ : RowV V 3 1 v zs.length (zs.flatMap encI)) (hi : i < zs.length) : (zs.flatMap encI)[i]? = some (.int .i64 zs[i]) := by
  rw [flat_I]; exact Go.Fra.ints_get zs i hi
end Go.Fra
