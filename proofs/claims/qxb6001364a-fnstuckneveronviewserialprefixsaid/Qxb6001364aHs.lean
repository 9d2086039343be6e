/-
  THE HEAP IN PARTS: every block from N on bears a tag; 'H t' is the part of the heap whose blocks bear the tag t. A step that touches one part leaves the others as they are.
-/
import Derived.Test.Qxb6001364aHm
namespace Go.Fra
open Go.RowKit

abbrev Part := Nat → Option Obj
def updH (H : Nat → Part) (t : Nat) (V : Part) : Nat → Part := fun t' => cond (Nat.beq t' t) V (H t')
def addV (V : Part) (b : Nat) (o : Obj) : Part := fun b' => if b' = b then some o else V b'

structure Split (N : Nat) (w0 w : World) (H : Nat → Part) : Prop where
  below : Below N w0 w
  base : N ≤ w.heap.size
  ex : ∃ own : Nat → Nat, ∀ t b, H t b = if own b = t ∧ N ≤ b then w.heap[b]? else none

theorem Split.start (w : World) : Split w.heap.size w w (fun _ _ => none) :=
  ⟨Below.refl _ _, Nat.le_refl _, fun _ => 0, fun t b => by
    split
    · next h => rw [Array.getElem?_eq_none (by omega)]
    · rfl⟩

section
variable {N : Nat} {w0 w w' : World} {H : Nat → Part} {t : Nat}

theorem Split.heap (hs : Split N w0 w H) {b : Nat} {o : Obj} (h : H t b = some o) : w.heap[b]? = some o := by
  obtain ⟨own, he⟩ := hs.ex
  rw [he] at h
  split at h
  · exact h
  · cases h
theorem Split.lt (hs : Split N w0 w H) {b : Nat} {o : Obj} (h : H t b = some o) : b < w.heap.size := (Array.getElem?_eq_some_iff.1 (hs.heap h)).1
theorem Split.ge (hs : Split N w0 w H) {b : Nat} {o : Obj} (h : H t b = some o) : N ≤ b := by
  obtain ⟨own, he⟩ := hs.ex
  rw [he] at h
  split at h
  · next h' => exact h'.2
  · cases h
theorem Split.none_ge (hs : Split N w0 w H) {b : Nat} (h : w.heap.size ≤ b) : H t b = none := by
  cases hh : H t b with
  | none => rfl
  | some o => have := hs.lt hh; omega
theorem Split.ne (hs : Split N w0 w H) {t' b b' : Nat} {o o' : Obj} (h : H t b = some o) (h' : H t' b' = some o') (ht : Nat.beq t t' = false) : b ≠ b' := by
  rintro rfl
  obtain ⟨own, he⟩ := hs.ex
  rw [he] at h h'
  split at h
  · next e =>
    split at h'
    · next e' =>
      have : t = t' := e.1.symm.trans e'.1
      subst this
      simp at ht
    · cases h'
  · cases h
theorem Split.size (hs : Split N w0 w H) {b : Nat} {o : Obj} (h : H t b = some o) : b ≠ w.heap.size := by have := hs.lt h; omega

theorem updH_hit {V : Part} : updH H t V t = V := by simp [updH]

/-- A step that touches only the part t, and new blocks, which come to the part t. -/
def gain (w w' : World) (V : Part) : Part := fun b => if (V b).isSome = true ∨ w.heap.size ≤ b then w'.heap[b]? else none

theorem Split.step (hs : Split N w0 w H) (t : Nat) (hb : Below N w w') (hk : ∀ b, N ≤ b → b < w.heap.size → H t b = none → w'.heap[b]? = w.heap[b]?) : Split N w0 w' (updH H t (gain w w' (H t))) := by
  have hbase := hs.base
  have hlt := fun b o (h : H t b = some o) => hs.lt h
  obtain ⟨own, he⟩ := hs.ex
  refine ⟨hs.below.trans hb, Nat.le_trans hs.base hb.size, fun b => if w.heap.size ≤ b then t else own b, fun t' b => ?_⟩
  by_cases ht : t' = t
  · subst ht
    rw [updH_hit]
    unfold gain
    by_cases hsz : w.heap.size ≤ b
    · have : N ≤ b := by omega
      simp [hsz, this]
    · simp only [hsz, or_false, if_false]
      have h1 := he t' b
      by_cases ho : own b = t' ∧ N ≤ b
      · rw [if_pos ho] at h1 ⊢
        rw [h1, Array.getElem?_eq_getElem (by omega)]
        rfl
      · rw [if_neg ho] at h1 ⊢
        rw [h1]
        rfl
  · have hbq : Nat.beq t' t = false := by
      cases hb : Nat.beq t' t with
      | false => rfl
      | true => exact absurd (Nat.eq_of_beq_eq_true hb) ht
    simp only [updH, hbq, cond_false, he t' b]
    by_cases hsz : w.heap.size ≤ b
    · simp only [hsz, if_true]
      rw [if_neg (show ¬ (t = t' ∧ N ≤ b) from fun h => ht h.1.symm)]
      split
      · exact Array.getElem?_eq_none hsz
      · rfl
    · simp only [hsz, if_false]
      by_cases ho : own b = t' ∧ N ≤ b
      · rw [if_pos ho, if_pos ho, hk b ho.2 (by omega) ?_]
        rw [he, if_neg]
        rintro ⟨h1, _⟩
        exact ht (ho.1.symm.trans h1)
      · rw [if_neg ho, if_neg ho]

theorem gain_old {V : Part} {b : Nat} {o : Obj} (h : V b = some o) : gain w w' V b = w'.heap[b]? := by simp [gain, h]
theorem gain_new {V : Part} {b : Nat} (h : w.heap.size ≤ b) : gain w w' V b = w'.heap[b]? := by simp [gain, h]

theorem Split.congr {V V' : Part} (h : Split N w0 w' (updH H t V)) (e : ∀ b, V b = V' b) : Split N w0 w' (updH H t V') := by
  have : V = V' := funext e
  rw [← this]; exact h

/-- A new block. -/
theorem Split.alloc (hs : Split N w0 w H) (t : Nat) (o : Obj) : Split N w0 (w.alloc o) (updH H t (addV (H t) w.heap.size o)) := by
  refine Split.congr (hs.step t (Below.alloc (Below.refl _ _) hs.base o) (fun b _ hb _ => heap_al hb)) fun b => ?_
  unfold gain addV
  by_cases hb : b = w.heap.size
  · subst hb
    rw [if_pos (.inr (Nat.le_refl _)), heap_alloc_new, if_pos rfl]
  · rw [if_neg hb]
    by_cases hsz : w.heap.size ≤ b
    · rw [hs.none_ge hsz, if_pos (.inr hsz), Array.getElem?_eq_none]
      simp; omega
    · cases hh : H t b with
      | none => simp [hsz]
      | some o' =>
        simp only [Option.isSome_some, true_or, if_true]
        rw [heap_al (hs.lt hh), hs.heap hh]

theorem Split.drew (hs : Split N w0 w H) : Split N w0 w.drew H := ⟨hs.below.drew, hs.base, hs.ex⟩

/-- One object is replaced. -/
theorem Split.put (hs : Split N w0 w H) {b : Nat} {o o' : Obj} (h : H t b = some o) (hb : Below N w w') (hk : ∀ j, j ≠ b → w'.heap[j]? = w.heap[j]?) (hn : w'.heap[b]? = some o') : Split N w0 w' (updH H t (addV (H t) b o')) := by
  have hlt := hs.lt h
  refine Split.congr (hs.step t hb (fun j _ hj hj0 => hk j (by rintro rfl; rw [h] at hj0; cases hj0))) fun j => ?_
  unfold gain addV
  by_cases hj : j = b
  · subst hj
    simp [h, hn]
  · rw [if_neg hj]
    by_cases hsz : w.heap.size ≤ j
    · rw [hs.none_ge hsz, if_pos (.inr hsz), hk j hj, Array.getElem?_eq_none hsz]
    · cases hh : H t j with
      | none => simp [hsz]
      | some o2 =>
        simp only [Option.isSome_some, true_or, if_true]
        rw [hk j hj, hs.heap hh]
end

/-! ### blocks of cells in a part -/
def VB (V : Part) (b : Nat) (ty : TypeId) (cs : List Value) : Prop := V b = some (.cells cs.toArray ty (0, 0))
theorem VB.add {V : Part} {b : Nat} {ty : TypeId} {cs : List Value} : VB (addV V b (.cells cs.toArray ty)) b ty cs := by simp [VB, addV]
theorem VB.other {V : Part} {b b' : Nat} {ty : TypeId} {cs : List Value} {o : Obj} (h : VB V b ty cs) (hne : b ≠ b') : VB (addV V b' o) b ty cs := by simpa [VB, addV, hne] using h
section
variable {N : Nat} {w0 w w' : World} {H : Nat → Part} {t : Nat}
theorem VB.blk {b : Nat} {ty : TypeId} {cs : List Value} (h : VB (H t) b ty cs) (hs : Split N w0 w H) : Blk w b ty cs := hs.heap h
theorem VB.cell {b : Nat} {ty : TypeId} {cs : List Value} (h : VB (H t) b ty cs) (hs : Split N w0 w H) {i : Nat} {v : Value} (hv : cs[i]? = some v) : w.cell? ⟨b, i, none⟩ = some v := (h.blk hs).cell hv
theorem VB.frozen {b : Nat} {ty : TypeId} {cs : List Value} (h : VB (H t) b ty cs) (hs : Split N w0 w H) (i : Nat) : w.frozen? ⟨b, i, none⟩ = false := (h.blk hs).frozen i
theorem Split.set (hs : Split N w0 w H) {b : Nat} {ty : TypeId} {cs : List Value} (h : VB (H t) b ty cs) (i : Nat) (v : Value) : Split N w0 (w.setCell ⟨b, i, none⟩ v) (updH H t (addV (H t) b (.cells (cs.set i v).toArray ty))) := by
  have h1 := (h.blk hs).set i v
  have hge : N ≤ b := hs.ge (t := t) h
  exact hs.put (t := t) h ((Below.refl _ _).setCell hge _) (fun j hj => heap_set hj) h1
end

/-! ### rows that grow -/
def RowV (V : Part) (e : TypeId) (size : Nat) (v : Value) (n : Nat) (xs : List Value) : Prop :=
  xs.length = n * size ∧ ((v = .slice none 0 0 ∧ n = 0) ∨
   ∃ g cap cur, v = .slice (some ⟨g, 0, none⟩) n cap ∧ V g = some (.cells cur e (0, 0)) ∧ n ≤ cap ∧ cap ≤ maxLen ∧ cur.size = cap * size ∧ cur.toList.take (n * size) = xs)

theorem RowV.empty {V : Part} {e : TypeId} {size : Nat} : RowV V e size (.slice none 0 0) 0 [] := ⟨by simp, .inl ⟨rfl, rfl⟩⟩
theorem RowV.mono {V V' : Part} {e : TypeId} {size : Nat} {v : Value} {n : Nat} {xs : List Value} (h : RowV V e size v n xs) (hk : ∀ b, v.ownBlock = some b → V' b = V b) : RowV V' e size v n xs := by
  refine ⟨h.1, ?_⟩
  rcases h.2 with hn | ⟨g, cap, cur, rfl, hg, rest⟩
  · exact .inl hn
  · exact .inr ⟨g, cap, cur, rfl, by rw [hk g rfl]; exact hg, rest⟩
theorem RowV.slice {V : Part} {e : TypeId} {size : Nat} {v : Value} {n : Nat} {xs : List Value} (h : RowV V e size v n xs) : ∃ a c, v = .slice a n c := by
  rcases h.2 with ⟨rfl, rfl⟩ | ⟨g, cap, cur, rfl, _⟩
  · exact ⟨_, _, rfl⟩
  · exact ⟨_, _, rfl⟩
theorem RowV.one {V : Part} {e : TypeId} {size : Nat} {v : Value} {n : Nat} {xs : List Value} (h : RowV V e size v n xs) : v.oneCell' = true := by
  obtain ⟨a, c, rfl⟩ := h.slice
  rfl
theorem RowV.pos_ {V : Part} {e : TypeId} {size : Nat} {v : Value} {n : Nat} {xs : List Value} (h : RowV V e size v n xs) (hn : 0 < n) : ∃ g cap, v = .slice (some ⟨g, 0, none⟩) n cap := by
  rcases h.2 with ⟨_, h0⟩ | ⟨g, cap, cur, rfl, _⟩
  · omega
  · exact ⟨_, _, rfl⟩
theorem RowV.of_blk {V : Part} {e : TypeId} {b : Nat} {cs : List Value} (h : VB V b e cs) (hm : cs.length ≤ maxLen) : RowV V e 1 (.slice (some ⟨b, 0, none⟩) cs.length cs.length) cs.length cs :=
  ⟨by simp, .inr ⟨b, cs.length, cs.toArray, rfl, h, Nat.le_refl _, hm, by simp, by simp⟩⟩

section
variable {N : Nat} {w0 w w' : World} {H : Nat → Part} {t : Nat} {e : TypeId} {size : Nat} {v : Value} {n : Nat} {xs : List Value}
theorem RowV.owns (h : RowV (H t) e size v n xs) (hs : Split N w0 w H) : w.ownsRow 0 e size v n xs := by
  refine ⟨h.1, ?_⟩
  rcases h.2 with hn | ⟨g, cap, cur, rfl, hg, rest⟩
  · exact .inl hn
  · exact .inr ⟨g, cap, cur, rfl, Nat.zero_le _, hs.heap hg, rest⟩
theorem RowV.cell (h : RowV (H t) e size v n xs) (hs : Split N w0 w H) {j : Nat} {u : Value} (hu : xs[j]? = some u) : ∃ g cap, v = .slice (some ⟨g, 0, none⟩) n cap ∧ w.cell? ⟨g, j, none⟩ = some u ∧ w.frozen? ⟨g, j, none⟩ = false := by
  rcases h.2 with ⟨_, h0⟩ | ⟨g, cap, cur, rfl, hg, h1, h2, h3, h4⟩
  · have := h.1
    rw [h0] at this
    simp at this
    rw [this] at hu
    simp at hu
  · have hh := hs.heap hg
    refine ⟨g, cap, rfl, ?_, by simp [World.frozen?, hh]⟩
    rw [← h4, List.getElem?_take] at hu
    split at hu
    · simp only [World.cell?, hh]
      simpa using hu
    · cases hu
theorem RowV.own_some (h : RowV (H t) e size v n xs) {b : Nat} (hb : v.ownBlock = some b) : ∃ o, H t b = some o := by
  rcases h.2 with ⟨rfl, _⟩ | ⟨g, cap, cur, rfl, hg, _⟩
  · cases hb
  · cases hb
    exact ⟨_, hg⟩
/-- One cell of a row is overwritten. -/
theorem RowV.set (h : RowV (H t) e 1 v n xs) (hs : Split N w0 w H) {j : Nat} (hj : j < n) (u : Value) : ∃ g cap V', v = .slice (some ⟨g, 0, none⟩) n cap ∧ Split N w0 (w.setCell ⟨g, j, none⟩ u) (updH H t V') ∧ RowV V' e 1 v n (xs.set j u) ∧ (∀ b, b ≠ g → V' b = H t b) := by
  rcases h.2 with ⟨_, h0⟩ | ⟨g, cap, cur, rfl, hg, h1, h2, h3, h4⟩
  · omega
  · have hv : VB (H t) g e cur.toList := by simpa [VB] using hg
    refine ⟨g, cap, _, rfl, hs.set hv j u, ⟨by simpa using h.1, .inr ⟨g, cap, (cur.toList.set j u).toArray, rfl, by simp [addV], h1, h2, by simp [h3], ?_⟩⟩, fun b hb => by simp [addV, hb]⟩
    rw [List.toList_toArray, List.take_set, h4]
/-- Append. -/
theorem RowV.append {P : Program} {ts : TypeId} {zt : Value} {s1 b1 : Nat} {d : TypeDesc} {z : Value} {bytes : Nat} (T : TyI P ts (.slice e) zt s1 b1) (TE : TyI P e d z size bytes) (hzs : z.cells.size = size) (hsz : 0 < size)
    (h : RowV (H t) e size v n xs) (hs : Split N w0 w H) {a : Addr} {m c : Nat} {news : List Value} (hl : news.length = m * size) (hnews : ∀ j u, news[j]? = some u → w.cell? (a.add j) = some u)
    (h1 : ∀ u ∈ news, u.oneCell' = true) (h63 : n + m ≤ maxLen) (hbytes : (n + m) * bytes ≤ 140737488355328) :
    ∃ v' w' V', (∀ (ρ : Operand → Value) (dst : Option Tmp) (ty : TypeId) (pos : String) (aft : Array Edge) (g : Option (Nat × Bool)) (x y : Operand), ρ x = v → ρ y = .slice (some a) m c →
        Does P ⟨dst, .call { callee := .builtin .append, args := #[x, y], argTypes := #[ts, ts] }, ty, pos, aft, g⟩ ρ w v' w') ∧
      Split N w0 w' (updH H t V') ∧ RowV V' e size v' (n + m) (xs ++ news) ∧ (∀ b o, H t b = some o → some b ≠ v.ownBlock → V' b = some o) ∧ (v'.ownBlock = v.ownBlock ∨ ∃ b, v'.ownBlock = some b ∧ H t b = none) := by
  obtain ⟨v', w', hdo, hown, hgr, _, hob⟩ := appendE T TE hzs hsz (h.owns hs) (c := c) hl hnews h1 h63 hbytes
  have hvlt : ∀ k, v.ownBlock = some k → N ≤ k := by
    intro k hk
    obtain ⟨o, ho⟩ := h.own_some hk
    exact hs.ge ho
  have hbel : Below N w w' := Below.grown (Below.refl _ _) hgr hs.base hvlt
  refine ⟨v', w', gain w w' (H t), hdo, hs.step t hbel ?_, ?_, ?_, ?_⟩
  · intro b hb hlt hnone
    refine hgr.block b hlt ?_
    intro hv
    obtain ⟨o, ho⟩ := h.own_some hv.symm
    rw [hnone] at ho
    cases ho
  · refine ⟨hown.1, ?_⟩
    rcases hown.2 with hn | ⟨g, cap, cur, rfl, _, hg, rest⟩
    · exact .inl hn
    · refine .inr ⟨g, cap, cur, rfl, ?_, rest⟩
      rcases hob with ho | ho
      · obtain ⟨o, ho'⟩ := h.own_some (b := g) (by rw [← ho]; rfl)
        rw [gain_old ho', hg]
      · have : g = w.heap.size := by simpa [Value.ownBlock] using ho
        rw [gain_new (by omega), hg]
  · intro b o hb hne
    rw [gain_old hb, hgr.block b (hs.lt hb) hne, hs.heap hb]
  · rcases hob with ho | ho
    · exact .inl ho
    · exact .inr ⟨_, ho, hs.none_ge (Nat.le_refl _)⟩
end
end Go.Fra
