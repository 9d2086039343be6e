/-
  THE HISTORY, PLAINLY: last writes, counts, the serial order. No Go in sight.
-/
namespace Go.Proofs.Qxb6001364a.Pl

/-- A history: node, item and kind of each access. -/
structure Hist where
  m : Nat
  nd : Nat → Nat
  it : Nat → Nat
  wr : Nat → Bool

/-- The place of the last write of x ahead of place i, or -1. -/
def lw (h : Hist) : Nat → Nat → Int
  | 0, _ => -1
  | i + 1, x => if h.wr i && h.it i == x then (i : Int) else lw h i x

/-- How many of the first i accesses are by node u. -/
def cE (h : Hist) : Nat → Nat → Nat
  | 0, _ => 0
  | i + 1, u => if h.nd i = u then cE h i u + 1 else cE h i u
/-- How many accesses are by nodes below u. -/
def cL (h : Hist) : Nat → Nat
  | 0 => 0
  | u + 1 => cL h u + cE h h.m u

theorem cE_mono (h : Hist) (u : Nat) : ∀ (i j : Nat), i ≤ j → cE h i u ≤ cE h j u
  | i, 0, hij => by have : i = 0 := by omega
                    subst this; exact Nat.le_refl _
  | i, j + 1, hij => by
    rcases Nat.lt_or_ge i (j + 1) with hl | hl
    · have := cE_mono h u i j (by omega)
      simp only [cE]
      split <;> omega
    · have : i = j + 1 := by omega
      subst this; exact Nat.le_refl _
theorem cE_lt (h : Hist) (i j : Nat) (hij : i < j) : cE h i (h.nd i) < cE h j (h.nd i) := by
  have h1 : cE h (i + 1) (h.nd i) = cE h i (h.nd i) + 1 := by simp [cE]
  have := cE_mono h (h.nd i) (i + 1) j hij
  omega
theorem cE_inj (h : Hist) (i j : Nat) (hn : h.nd i = h.nd j) (hc : cE h i (h.nd i) = cE h j (h.nd j)) : i = j := by
  rcases Nat.lt_trichotomy i j with hl | hl | hl
  · have := cE_lt h i j hl
    rw [hn] at this hc
    omega
  · exact hl
  · have := cE_lt h j i hl
    rw [hn] at hc
    omega
theorem cE_surj (h : Hist) (u : Nat) : ∀ (i c : Nat), c < cE h i u → ∃ j, j < i ∧ h.nd j = u ∧ cE h j u = c
  | 0, c, hc => by simp [cE] at hc
  | i + 1, c, hc => by
    by_cases hu : h.nd i = u
    · simp only [cE, hu, if_true] at hc
      rcases Nat.lt_or_ge c (cE h i u) with hl | hl
      · obtain ⟨j, h1, h2, h3⟩ := cE_surj h u i c hl
        exact ⟨j, by omega, h2, h3⟩
      · exact ⟨i, by omega, hu, by omega⟩
    · simp only [cE, hu, if_false] at hc
      obtain ⟨j, h1, h2, h3⟩ := cE_surj h u i c hc
      exact ⟨j, by omega, h2, h3⟩
theorem cL_mono (h : Hist) : ∀ (u v : Nat), u ≤ v → cL h u ≤ cL h v
  | u, 0, huv => by have : u = 0 := by omega
                    subst this; exact Nat.le_refl _
  | u, v + 1, huv => by
    rcases Nat.lt_or_ge u (v + 1) with hl | hl
    · have := cL_mono h u v (by omega)
      simp only [cL]
      omega
    · have : u = v + 1 := by omega
      subst this; exact Nat.le_refl _
/-- Where the sort lays access j. -/
def plc (h : Hist) (j : Nat) : Nat := cL h (h.nd j) + cE h j (h.nd j)
theorem plc_lt (h : Hist) (j : Nat) (hj : j < h.m) : plc h j < cL h (h.nd j + 1) := by
  have := cE_lt h j h.m hj
  simp only [plc, cL]
  omega
theorem plc_inj (h : Hist) (i j : Nat) (hi : i < h.m) (hj : j < h.m) (he : plc h i = plc h j) : i = j := by
  rcases Nat.lt_trichotomy (h.nd i) (h.nd j) with hl | hl | hl
  · have h1 := plc_lt h i hi
    have h2 := cL_mono h (h.nd i + 1) (h.nd j) hl
    have h3 : cL h (h.nd j) ≤ plc h j := Nat.le_add_right _ _
    omega
  · refine cE_inj h i j hl ?_
    simp only [plc, hl] at he
    rw [hl]
    omega
  · have h1 := plc_lt h j hj
    have h2 := cL_mono h (h.nd j + 1) (h.nd i) hl
    have h3 : cL h (h.nd i) ≤ plc h i := Nat.le_add_right _ _
    omega

/-- Serially before: by the node's rank, then by the place. -/
def ser (h : Hist) (rk : Nat → Nat) (j i : Nat) : Prop := rk (h.nd j) < rk (h.nd i) ∨ (rk (h.nd j) = rk (h.nd i) ∧ j < i)
theorem ser_trans (h : Hist) (rk : Nat → Nat) {a b c : Nat} (h1 : ser h rk a b) (h2 : ser h rk b c) : ser h rk a c := by
  unfold ser at *
  omega
theorem ser_irrefl (h : Hist) (rk : Nat → Nat) (a : Nat) : ¬ ser h rk a a := by
  unfold ser
  omega
/-- l is the place of the serially last write of x among the accesses of A, or -1 where there is none. -/
def lastIs (h : Hist) (rk : Nat → Nat) (A : Nat → Prop) (x : Nat) (l : Int) : Prop :=
  (l = -1 ∧ ∀ j, j < h.m → A j → h.wr j = true → h.it j ≠ x) ∨
  ∃ j0 : Nat, l = (j0 : Int) ∧ j0 < h.m ∧ A j0 ∧ h.wr j0 = true ∧ h.it j0 = x ∧ ∀ j, j < h.m → A j → h.wr j = true → h.it j = x → j = j0 ∨ ser h rk j j0

theorem lastIs_congr (h : Hist) (rk : Nat → Nat) {A B : Nat → Prop} {x : Nat} {l : Int} (hab : ∀ j, j < h.m → (A j ↔ B j)) (hl : lastIs h rk A x l) : lastIs h rk B x l := by
  rcases hl with ⟨h1, h2⟩ | ⟨j0, h1, h2, h3, h4, h5, h6⟩
  · exact .inl ⟨h1, fun j hj hb => h2 j hj ((hab j hj).2 hb)⟩
  · exact .inr ⟨j0, h1, h2, (hab j0 h2).1 h3, h4, h5, fun j hj hb => h6 j hj ((hab j hj).2 hb)⟩
/-- A write i, serially behind all of A, comes to A. -/
theorem lastIs_write (h : Hist) (rk : Nat → Nat) {A : Nat → Prop} {i : Nat} (hi : i < h.m) (hw : h.wr i = true) (hA : ∀ j, j < h.m → A j → ser h rk j i) : lastIs h rk (fun j => A j ∨ j = i) (h.it i) (i : Int) := by
  refine .inr ⟨i, rfl, hi, .inr rfl, hw, rfl, ?_⟩
  rintro j hj (ha | rfl) _ _
  · exact .inr (hA j hj ha)
  · exact .inl rfl
theorem lastIs_other (h : Hist) (rk : Nat → Nat) {A : Nat → Prop} {i x : Nat} {l : Int} (hx : h.wr i = true → h.it i ≠ x) (hl : lastIs h rk A x l) : lastIs h rk (fun j => A j ∨ j = i) x l := by
  rcases hl with ⟨h1, h2⟩ | ⟨j0, h1, h2, h3, h4, h5, h6⟩
  · refine .inl ⟨h1, ?_⟩
    rintro j hj (ha | rfl) hw
    · exact h2 j hj ha hw
    · exact hx hw
  · refine .inr ⟨j0, h1, h2, .inl h3, h4, h5, ?_⟩
    rintro j hj (ha | rfl) hw hx'
    · exact h6 j hj ha hw hx'
    · exact absurd hx' (hx hw)
theorem lastIs_none (h : Hist) (rk : Nat → Nat) (x : Nat) : lastIs h rk (fun _ => False) x (-1) := .inl ⟨rfl, fun _ _ ha => ha.elim⟩

/-- THE VIEW-SERIAL PROPERTY. -/
structure VE (h : Hist) (rk : Nat → Nat) (k : Nat) : Prop where
  read : ∀ i, i < h.m → h.wr i = false → lastIs h rk (fun j => ser h rk j i) (h.it i) (lw h i (h.it i))
  last : ∀ x, x < k → lastIs h rk (fun _ => True) x (lw h h.m x)
end Go.Proofs.Qxb6001364a.Pl
