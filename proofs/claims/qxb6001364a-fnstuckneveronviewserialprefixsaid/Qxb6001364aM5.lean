/-
  KAHN's REMOVAL, PLAINLY: where a rank rises along every edge, all is removed.
-/
import Derived.Test.Qxb6001364aHt
namespace Go.Proofs.Qxb6001364a.Pl
open Go.Fra
set_option linter.unusedVariables false

/-- How often b stands in the rows of the list of places. -/
def remC (rows : List (List Int)) (done : List Nat) (b : Int) : Nat → Nat
  | 0 => 0
  | a + 1 => remC rows done b a + (if a ∈ done then 0 else (rows.getD a []).count b)
def cnt (rows : List (List Int)) (b : Int) : Nat := remC rows [] b rows.length

theorem remC_congr {rows rows' : List (List Int)} {done : List Nat} {b : Int} : ∀ (n : Nat), (∀ a, a < n → rows.getD a [] = rows'.getD a []) → remC rows done b n = remC rows' done b n
  | 0, _ => rfl
  | n + 1, h => by
    simp only [remC]
    rw [remC_congr n (fun a ha => h a (by omega)), h n (by omega)]
theorem remC_push {rows : List (List Int)} {a : Nat} (ha : a < rows.length) (u b : Int) : ∀ n, remC (rows.set a (rows[a] ++ [u])) [] b n = remC rows [] b n + (if a < n ∧ u = b then 1 else 0)
  | 0 => by simp [remC]
  | n + 1 => by
    have ih := remC_push ha u b n
    simp only [remC, List.not_mem_nil, if_false, ih]
    by_cases hn : a = n
    · subst hn
      have e : (rows.set a (rows[a] ++ [u])).getD a [] = rows[a] ++ [u] := by simp [List.getD_eq_getElem?_getD, List.getElem?_set_self ha]
      have e2 : rows.getD a [] = rows[a] := by simp [List.getD_eq_getElem?_getD, List.getElem?_eq_getElem ha]
      rw [e, e2, List.count_append]
      by_cases hu : u = b
      · subst hu; simp; omega
      · have : ([u] : List Int).count b = 0 := by simp [hu]
        simp [hu, this]
    · have e : (rows.set a (rows[a] ++ [u])).getD n [] = rows.getD n [] := by simp only [List.getD_eq_getElem?_getD, List.getElem?_set_ne hn]
      rw [e]
      by_cases hl : a < n
      · have h2 : a < n + 1 := by omega
        by_cases hu : u = b
        · simp [hl, h2, hu]; omega
        · simp [hu]
      · have h2 : ¬ a < n + 1 := by omega
        simp [hl, h2]
theorem cnt_push {rows : List (List Int)} {a : Nat} (ha : a < rows.length) (u b : Int) : cnt (rows.set a (rows[a] ++ [u])) b = cnt rows b + (if u = b then 1 else 0) := by
  unfold cnt
  rw [List.length_set, remC_push ha u b]
  simp [ha]
/-- A place is done: its row no longer counts. -/
theorem remC_done {rows : List (List Int)} {done : List Nat} {v : Nat} (hv : v ∉ done) (b : Int) : ∀ n, remC rows done b n = remC rows (v :: done) b n + (if v < n then (rows.getD v []).count b else 0)
  | 0 => by simp [remC]
  | n + 1 => by
    have ih := remC_done (rows := rows) hv b n
    simp only [remC, ih]
    by_cases hn : n = v
    · subst hn
      simp [hv]
    · by_cases hd : n ∈ done
      · simp only [hd, if_true, List.mem_cons, or_true]
        by_cases hl : v < n
        · simp [hl, show v < n + 1 by omega]
        · simp [hl, show ¬ v < n + 1 by omega]
      · have hd' : n ∉ v :: done := by simp [hn, hd]
        simp only [hd, hd', if_false]
        by_cases hl : v < n
        · simp [hl, show v < n + 1 by omega]; omega
        · simp [hl, show ¬ v < n + 1 by omega]
theorem remC_pos {rows : List (List Int)} {done : List Nat} {b : Int} : ∀ n, 0 < remC rows done b n → ∃ a, a < n ∧ a ∉ done ∧ b ∈ rows.getD a []
  | 0, h => by simp [remC] at h
  | n + 1, h => by
    simp only [remC] at h
    by_cases h1 : 0 < remC rows done b n
    · obtain ⟨a, ha, h2⟩ := remC_pos n h1
      exact ⟨a, by omega, h2⟩
    · by_cases hd : n ∈ done
      · simp [hd] at h; omega
      · simp only [hd, if_false] at h
        exact ⟨n, by omega, hd, List.count_pos_iff.1 (by omega)⟩
theorem cover : ∀ (n : Nat) (l : List Nat), (∀ b, b < n → b ∈ l) → n ≤ l.length
  | 0, l, _ => Nat.zero_le _
  | n + 1, l, h => by
    have hn := h n (by omega)
    have h1 := cover n (l.erase n) (fun b hb => (List.mem_erase_of_ne (by omega)).2 (h b (by omega)))
    have h2 := List.length_erase_of_mem hn
    have h3 := List.length_pos_of_mem hn
    omega
/-- Nothing is left when nothing is free. -/
theorem kahn_end {rows : List (List Int)} {size : Nat} {R : Nat → Nat} {done : List Nat} {preds : List Int} (hsz : rows.length = size) (hedge : ∀ a (h : a < rows.length), ∀ u ∈ rows[a], ∃ b : Nat, u = (b : Int) ∧ b < size ∧ R a < R b)
    (hpr : ∀ b, b < size → ∃ c : Nat, preds[b]? = some (c : Int) ∧ c = remC rows done (b : Int) size) (hfree : ∀ b, b < size → b ∉ done → preds[b]? ≠ some 0) : size ≤ done.length := by
  refine cover size done ?_
  have key : ∀ m b, R b < m → b < size → b ∈ done := by
    intro m
    induction m with
    | zero => intro b hb; omega
    | succ m ih =>
      intro b hb hbs
      by_cases hd : b ∈ done
      · exact hd
      · exfalso
        obtain ⟨c, hc, hce⟩ := hpr b hbs
        have hne := hfree b hbs hd
        have hc0 : 0 < c := by
          rcases Nat.eq_zero_or_pos c with h0 | h0
          · subst h0; exact absurd hc hne
          · exact h0
        rw [hce] at hc0
        obtain ⟨a, ha, had, hmem⟩ := remC_pos size hc0
        have hal : a < rows.length := by omega
        have hm2 : (b : Int) ∈ rows[a] := by simpa [List.getD_eq_getElem?_getD, List.getElem?_eq_getElem hal] using hmem
        obtain ⟨b', e, _, hlt⟩ := hedge a hal _ hm2
        have : b = b' := by omega
        subst this
        exact had (ih a (by omega) ha)
  exact fun b hb => key (R b + 1) b (by omega) hb

/-- A bar between the readers and the writers. -/
def bar (rk : Nat → Nat) : List Nat → Nat
  | [] => 0
  | r :: l => max (2 * rk r + 2) (bar rk l)
theorem bar_lt (rk : Nat → Nat) : ∀ (l : List Nat) (r : Nat), r ∈ l → 2 * rk r + 1 < bar rk l
  | [], r, h => by cases h
  | x :: l, r, h => by
    simp only [bar]
    rcases List.mem_cons.1 h with rfl | h
    · omega
    · have := bar_lt rk l r h; omega
theorem lt_bar (rk : Nat → Nat) : ∀ (l : List Nat) (w : Nat), (∀ r ∈ l, rk r < rk w) → bar rk l < 2 * rk w + 1
  | [], w, _ => by simp [bar]
  | x :: l, w, h => by
    have h1 := lt_bar rk l w (fun r hr => h r (by simp [hr]))
    have h2 := h x (by simp)
    simp only [bar]
    omega
end Go.Proofs.Qxb6001364a.Pl
