/-
  ONE ITEM'S ACCESSES, PLAINLY: what a view-serial rank says of the sources of its reads.
-/
import Derived.Test.Qxb6001364aM2
namespace Go.Proofs.Qxb6001364a.Pl
set_option linter.unusedVariables false

/-- The history of one item's accesses. -/
def loc (A : List (Nat × Bool)) : Hist := ⟨A.length, fun i => (A.getD i (0, false)).1, fun _ => 0, fun i => (A.getD i (0, false)).2⟩

/-- The node of the last write ahead of place i, or -1. -/
def lwn (h : Hist) : Nat → Int
  | 0 => -1
  | i + 1 => if h.wr i then (h.nd i : Int) else lwn h i

/-- r reads from f: f is the rank's last writer ahead of r. -/
def SrcS (h : Hist) (rk : Nat → Nat) (r : Nat) (f : Int) : Prop :=
  (f = -1 ∧ ∀ j, j < h.m → h.wr j = true → rk r ≤ rk (h.nd j)) ∨
  ∃ j0, j0 < h.m ∧ f = (h.nd j0 : Int) ∧ h.wr j0 = true ∧ rk (h.nd j0) < rk r ∧ ∀ j, j < h.m → h.wr j = true → rk (h.nd j) < rk r → rk (h.nd j) < rk (h.nd j0) ∨ (h.nd j = h.nd j0 ∧ j ≤ j0)
/-- v's write ahead of place i has been read by another. -/
def Rb (h : Hist) (rk : Nat → Nat) (i v : Nat) : Prop :=
  ∃ r j0, j0 < i ∧ rk v < rk r ∧ ∀ j, j < h.m → h.wr j = true → rk (h.nd j) < rk r → rk (h.nd j) < rk v ∨ (h.nd j = v ∧ j ≤ j0)
def Wt (h : Hist) (i v : Nat) : Prop := ∃ j, j < i ∧ h.wr j = true ∧ h.nd j = v

structure Loc (h : Hist) (rk : Nat → Nat) (n : Nat) : Prop where
  it : ∀ i, h.it i = 0
  ve : VE h rk 1
  nd : ∀ i, i < h.m → h.nd i < n
  inj : ∀ u v, u < n → v < n → rk u = rk v → u = v

theorem lw_lt (h : Hist) (x : Nat) : ∀ (i j : Nat), lw h i x = (j : Int) → j < i ∧ h.wr j = true
  | 0, j, e => by simp only [lw] at e; omega
  | i + 1, j, e => by
    simp only [lw] at e
    split at e
    · next hc =>
      have : i = j := by omega
      subst this
      simp only [Bool.and_eq_true] at hc
      exact ⟨by omega, hc.1⟩
    · have := lw_lt h x i j e
      exact ⟨by omega, this.2⟩

section
variable {h : Hist} {rk : Nat → Nat} {n : Nat}
theorem Loc.lwn_none (L : Loc h rk n) : ∀ i, lw h i 0 = -1 → lwn h i = -1
  | 0, _ => rfl
  | i + 1, e => by
    simp only [lw, L.it i, beq_self_eq_true, Bool.and_true] at e
    simp only [lwn]
    split at e
    · omega
    · next hc => rw [if_neg hc]; exact Loc.lwn_none L i e
theorem Loc.lwn_some (L : Loc h rk n) : ∀ i j, lw h i 0 = ((j : Nat) : Int) → lwn h i = (h.nd j : Int)
  | 0, j, e => by simp only [lw] at e; omega
  | i + 1, j, e => by
    simp only [lw, L.it i, beq_self_eq_true, Bool.and_true] at e
    simp only [lwn]
    split at e
    · next hc =>
      have : i = j := by omega
      subst this
      rw [if_pos hc]
    · next hc => rw [if_neg hc]; exact Loc.lwn_some L i j e

/-- A read ahead of any own write. -/
theorem Loc.src (L : Loc h rk n) {q : Nat} (hq : q < h.m) (hr : h.wr q = false) (hw : ¬ Wt h q (h.nd q)) : SrcS h rk (h.nd q) (lwn h q) := by
  have h1 := L.ve.read q hq hr
  rw [L.it q] at h1
  rcases h1 with ⟨e, hall⟩ | ⟨j0, e, hj0, hs, hwj, _, hall⟩
  · refine .inl ⟨L.lwn_none q e, fun j hj hwj => ?_⟩
    rcases Nat.lt_or_ge (rk (h.nd j)) (rk (h.nd q)) with hlt | hge
    · exact absurd (L.it j) (hall j hj (.inl hlt) hwj)
    · exact hge
  · have hlt := (lw_lt h 0 q j0 e).1
    have hrk : rk (h.nd j0) < rk (h.nd q) := by
      rcases hs with h2 | ⟨h2, h3⟩
      · exact h2
      · exact absurd ⟨j0, h3, hwj, L.inj _ _ (L.nd _ hj0) (L.nd _ hq) h2⟩ hw
    refine .inr ⟨j0, hj0, L.lwn_some q j0 e, hwj, hrk, fun j hj hwj2 hlt2 => ?_⟩
    rcases hall j hj (.inl hlt2) hwj2 (L.it j) with rfl | h4 | ⟨h4, h5⟩
    · exact .inr ⟨rfl, Nat.le_refl _⟩
    · exact .inl h4
    · exact .inr ⟨L.inj _ _ (L.nd _ hj) (L.nd _ hj0) h4, by omega⟩
/-- .. and where its source is a write, that write has been read by another. -/
theorem Loc.rb (L : Loc h rk n) {q : Nat} (hq : q < h.m) (hr : h.wr q = false) (hw : ¬ Wt h q (h.nd q)) {v : Nat} (hv : lwn h q = (v : Int)) : Rb h rk q v := by
  have h1 := L.ve.read q hq hr
  rw [L.it q] at h1
  rcases h1 with ⟨e, hall⟩ | ⟨j0, e, hj0, hs, hwj, _, hall⟩
  · rw [L.lwn_none q e] at hv; omega
  · have hlt := (lw_lt h 0 q j0 e).1
    rw [L.lwn_some q j0 e] at hv
    have hv' : h.nd j0 = v := by omega
    have hrk : rk (h.nd j0) < rk (h.nd q) := by
      rcases hs with h2 | ⟨h2, h3⟩
      · exact h2
      · exact absurd ⟨j0, h3, hwj, L.inj _ _ (L.nd _ hj0) (L.nd _ hq) h2⟩ hw
    subst hv'
    refine ⟨h.nd q, j0, hlt, hrk, fun j hj hwj2 hlt2 => ?_⟩
    rcases hall j hj (.inl hlt2) hwj2 (L.it j) with rfl | h4 | ⟨h4, h5⟩
    · exact .inr ⟨rfl, Nat.le_refl _⟩
    · exact .inl h4
    · exact .inr ⟨L.inj _ _ (L.nd _ hj) (L.nd _ hj0) h4, by omega⟩
/-- No node writes again what another has read. -/
theorem Loc.no_rewrite (L : Loc h rk n) {i : Nat} (hi : i < h.m) (hw : h.wr i = true) : ¬ Rb h rk i (h.nd i) := by
  rintro ⟨r, j0, h1, h2, h3⟩
  rcases h3 i hi hw h2 with h4 | ⟨_, h4⟩ <;> omega
/-- A read behind an own write reads the own write. -/
theorem Loc.own (L : Loc h rk n) {q : Nat} (hq : q < h.m) (hr : h.wr q = false) (hw : Wt h q (h.nd q)) : lwn h q = (h.nd q : Int) := by
  have h1 := L.ve.read q hq hr
  rw [L.it q] at h1
  obtain ⟨j1, hj1, hw1, hn1⟩ := hw
  have hs1 : ser h rk j1 q := .inr ⟨by rw [hn1], hj1⟩
  rcases h1 with ⟨e, hall⟩ | ⟨j0, e, hj0, hs, hwj, _, hall⟩
  · exact absurd (L.it j1) (hall j1 (by omega) hs1 hw1)
  · rw [L.lwn_some q j0 e]
    have hn : rk (h.nd j0) = rk (h.nd q) := by
      rcases hall j1 (by omega) hs1 hw1 (L.it j1) with rfl | h2
      · rw [hn1]
      · unfold ser at h2 hs
        rw [hn1] at h2
        omega
    rw [L.inj _ _ (L.nd _ hj0) (L.nd _ hq) hn]

theorem Loc.src_lt (L : Loc h rk n) {r : Nat} {v : Nat} (hs : SrcS h rk r (v : Int)) : rk v < rk r ∧ Wt h h.m v ∧ v < n := by
  rcases hs with ⟨e, _⟩ | ⟨j0, h1, h2, h3, h4, _⟩
  · omega
  · have : h.nd j0 = v := by omega
    subst this
    exact ⟨h4, ⟨j0, h1, h3, rfl⟩, L.nd _ h1⟩
theorem Loc.src_ge (L : Loc h rk n) {r : Nat} {f : Int} (hs : SrcS h rk r f) : f = -1 ∨ ∃ v : Nat, f = (v : Int) ∧ v < n := by
  rcases hs with ⟨e, _⟩ | ⟨j0, h1, h2, _⟩
  · exact .inl e
  · exact .inr ⟨_, h2, L.nd _ h1⟩
/-- No writer comes between a source and its reader. -/
theorem Loc.between (L : Loc h rk n) {r : Nat} {f : Int} (hs : SrcS h rk r f) {a : Nat} (ha : Wt h h.m a) : (∃ v : Nat, f = (v : Int) ∧ (a = v ∨ rk a < rk v)) ∨ rk r ≤ rk a := by
  obtain ⟨j, hj, hw, rfl⟩ := ha
  rcases Nat.lt_or_ge (rk (h.nd j)) (rk r) with hlt | hge
  · rcases hs with ⟨_, hall⟩ | ⟨j0, h1, h2, h3, h4, hall⟩
    · have := hall j hj hw; omega
    · refine .inl ⟨_, h2, ?_⟩
      rcases hall j hj hw hlt with h5 | ⟨h5, _⟩
      · exact .inr h5
      · exact .inl h5
  · exact .inr hge
/-- The source of a node's first reads is one. -/
theorem Loc.src_one (L : Loc h rk n) {r : Nat} {f f' : Int} (hs : SrcS h rk r f) (hs' : SrcS h rk r f') : f = f' := by
  rcases hs with ⟨e, hall⟩ | ⟨j0, h1, h2, h3, h4, hall⟩ <;> rcases hs' with ⟨e', hall'⟩ | ⟨j1, k1, k2, k3, k4, hall'⟩
  · omega
  · have := hall j1 k1 k3; omega
  · have := hall' j0 h1 h3; omega
  · have e : h.nd j0 = h.nd j1 := by
      rcases hall j1 k1 k3 k4 with a | ⟨a, _⟩
      · rcases hall' j0 h1 h3 h4 with b | ⟨b, _⟩
        · omega
        · exact b
      · exact a.symm
    rw [h2, k2, e]
/-- A reader of the source comes before the writer that reads from it. -/
theorem Loc.before_next (L : Loc h rk n) {r s : Nat} {f : Int} (hr : SrcS h rk r f) (hs : SrcS h rk s f) (hw : Wt h h.m s) (hrn : r < n) (hsn : s < n) (hne : s ≠ r) : rk r < rk s := by
  have h1 : rk r ≤ rk s := by
    rcases L.between hr hw with ⟨v, e, h2⟩ | h2
    · subst e
      have := (L.src_lt hs).1
      rcases h2 with rfl | h2 <;> omega
    · exact h2
  rcases Nat.lt_or_ge (rk r) (rk s) with h2 | h2
  · exact h2
  · exact absurd (L.inj s r hsn hrn (by omega)) hne
theorem Loc.one_next (L : Loc h rk n) {r s : Nat} {f : Int} (hr : SrcS h rk r f) (hs : SrcS h rk s f) (hwr : Wt h h.m r) (hws : Wt h h.m s) (hrn : r < n) (hsn : s < n) : r = s := by
  by_cases hne : s = r
  · exact hne.symm
  · have h1 := L.before_next hr hs hws hrn hsn hne
    have h2 := L.before_next hs hr hwr hsn hrn (fun e => hne e.symm)
    omega
/-- The last writer comes last. -/
theorem Loc.last (L : Loc h rk n) {v w : Nat} (hv : lwn h h.m = (v : Int)) (hw : Wt h h.m w) (hne : w ≠ v) : rk w < rk v ∧ v < n := by
  obtain ⟨j, hj, hwj, rfl⟩ := hw
  rcases L.ve.last 0 (by omega) with ⟨e, hall⟩ | ⟨j0, e, hj0, _, hwj0, _, hall⟩
  · exact absurd (L.it j) (hall j hj trivial hwj)
  · rw [L.lwn_some _ j0 e] at hv
    have : h.nd j0 = v := by omega
    subst this
    refine ⟨?_, L.nd _ hj0⟩
    rcases hall j hj trivial hwj (L.it j) with rfl | h2 | ⟨h2, _⟩
    · exact absurd rfl hne
    · exact h2
    · exact absurd (L.inj _ _ (L.nd _ hj) (L.nd _ hj0) h2) hne
theorem Loc.lwn_ge (L : Loc h rk n) {i : Nat} (hi : i ≤ h.m) : lwn h i = -1 ∨ ∃ v : Nat, lwn h i = (v : Int) ∧ v < n ∧ Wt h i v := by
  induction i with
  | zero => exact .inl rfl
  | succ i ih =>
    simp only [lwn]
    split
    · next hc => exact .inr ⟨h.nd i, rfl, L.nd i (by omega), i, by omega, hc, rfl⟩
    · rcases ih (by omega) with h1 | ⟨v, h1, h2, j, h3, h4⟩
      · exact .inl h1
      · exact .inr ⟨v, h1, h2, j, by omega, h4⟩
theorem lwn_of_wt {i v : Nat} (hw : Wt h i v) : lwn h i ≠ -1 := by
  induction i with
  | zero => obtain ⟨j, hj, _⟩ := hw; omega
  | succ i ih =>
    simp only [lwn]
    split
    · omega
    · next hc =>
      refine ih ?_
      obtain ⟨j, hj, h1, h2⟩ := hw
      refine ⟨j, ?_, h1, h2⟩
      rcases Nat.lt_or_ge j i with h3 | h3
      · exact h3
      · have : j = i := by omega
        subst this
        exact absurd h1 hc
end

/-! ### from the whole history to one item's -/
/-- The accesses of item x among the first i. -/
def acc (h : Hist) (x : Nat) : Nat → List (Nat × Bool)
  | 0 => []
  | i + 1 => if h.it i = x then acc h x i ++ [(h.nd i, h.wr i)] else acc h x i
/-- The history with the items in the nodes' place. -/
def byItem (h : Hist) : Hist := ⟨h.m, h.it, h.nd, h.wr⟩
theorem acc_length (h : Hist) (x : Nat) : ∀ i, (acc h x i).length = cE (byItem h) i x
  | 0 => rfl
  | i + 1 => by
    have ih := acc_length h x i
    by_cases hx : h.it i = x
    · simp only [acc, cE, if_pos hx, show (byItem h).nd i = x from hx, if_true, List.length_append, List.length_singleton, ih]
    · simp only [acc, cE, if_neg hx, if_neg (show ¬ (byItem h).nd i = x from hx), ih]
theorem acc_get (h : Hist) (x : Nat) : ∀ i p, p < i → h.it p = x → (acc h x i)[cE (byItem h) p x]? = some (h.nd p, h.wr p)
  | 0, p, hp, _ => by omega
  | i + 1, p, hp, hx => by
    rcases Nat.lt_or_ge p i with h1 | h1
    · have ih := acc_get h x i p h1 hx
      simp only [acc]
      split
      · rw [List.getElem?_append_left]
        · exact ih
        · exact (List.getElem?_eq_some_iff.1 ih).1
      · exact ih
    · have : p = i := by omega
      subst this
      simp only [acc, hx, if_true]
      rw [← acc_length, List.getElem?_concat_length]

section
variable (h : Hist) (x : Nat)
theorem loc_nd {p : Nat} (hp : p < h.m) (hx : h.it p = x) : (loc (acc h x h.m)).nd (cE (byItem h) p x) = h.nd p ∧ (loc (acc h x h.m)).wr (cE (byItem h) p x) = h.wr p := by
  have := acc_get h x h.m p hp hx
  simp [loc, List.getD_eq_getElem?_getD, this]
theorem loc_lt {p : Nat} (hp : p < h.m) (hx : h.it p = x) : cE (byItem h) p x < (loc (acc h x h.m)).m := by
  have := acc_get h x h.m p hp hx
  exact (List.getElem?_eq_some_iff.1 this).1
theorem loc_lw : ∀ p, p ≤ h.m → (lw h p x = -1 → lw (loc (acc h x h.m)) (cE (byItem h) p x) 0 = -1) ∧ ∀ j : Nat, lw h p x = (j : Int) → lw (loc (acc h x h.m)) (cE (byItem h) p x) 0 = (cE (byItem h) j x : Int)
  | 0, _ => ⟨fun _ => rfl, fun j e => by simp only [lw] at e; omega⟩
  | p + 1, hp => by
    obtain ⟨i1, i2⟩ := loc_lw p (by omega)
    by_cases hx : h.it p = x
    · have hc : cE (byItem h) (p + 1) x = cE (byItem h) p x + 1 := by simp [cE, byItem, hx]
      rw [hc]
      obtain ⟨_, hw⟩ := loc_nd h x (show p < h.m by omega) hx
      simp only [lw, hw, show (loc (acc h x h.m)).it (cE (byItem h) p x) = 0 from rfl, beq_self_eq_true, Bool.and_true, hx]
      cases hwp : h.wr p with
      | true => simp; intro j e; rw [show p = j by omega]
      | false => simpa using ⟨i1, i2⟩
    · have hc : cE (byItem h) (p + 1) x = cE (byItem h) p x := by simp [cE, byItem, hx]
      have hx' : (h.it p == x) = false := by simpa using hx
      rw [hc]
      simp only [lw, hx', Bool.and_false, Bool.false_eq_true, if_false]
      exact ⟨i1, i2⟩
theorem loc_surj {i : Nat} (hi : i < (loc (acc h x h.m)).m) : ∃ p, p < h.m ∧ h.it p = x ∧ cE (byItem h) p x = i := by
  have : i < cE (byItem h) h.m x := by rw [← acc_length]; exact hi
  exact cE_surj (byItem h) x h.m i this
theorem loc_ser (rk : Nat → Nat) {p q : Nat} (hp : p < h.m) (hq : q < h.m) (hpx : h.it p = x) (hqx : h.it q = x) : ser (loc (acc h x h.m)) rk (cE (byItem h) p x) (cE (byItem h) q x) ↔ ser h rk p q := by
  unfold ser
  rw [(loc_nd h x hp hpx).1, (loc_nd h x hq hqx).1]
  refine or_congr Iff.rfl (and_congr Iff.rfl ⟨fun h1 => ?_, fun h1 => ?_⟩)
  · rcases Nat.lt_or_ge p q with h2 | h2
    · exact h2
    · have := cE_mono (byItem h) x q p h2; omega
  · have := cE_lt (byItem h) p q h1
    rw [show (byItem h).nd p = x from hpx] at this
    exact this
theorem loc_lastIs (rk : Nat → Nat) {A B : Nat → Prop} {l l' : Int} (hAB : ∀ p, p < h.m → h.it p = x → (A p ↔ B (cE (byItem h) p x))) (hl1 : l = -1 → l' = -1) (hl2 : ∀ j : Nat, l = (j : Int) → l' = (cE (byItem h) j x : Int))
    (hl : lastIs h rk A x l) : lastIs (loc (acc h x h.m)) rk B 0 l' := by
  rcases hl with ⟨e, hall⟩ | ⟨j0, e, h1, h2, h3, h4, hall⟩
  · refine .inl ⟨hl1 e, fun j hj hb hw _ => ?_⟩
    obtain ⟨p, hp, hx, rfl⟩ := loc_surj h x hj
    rw [(loc_nd h x hp hx).2] at hw
    exact hall p hp ((hAB p hp hx).2 hb) hw hx
  · refine .inr ⟨_, hl2 j0 e, loc_lt h x h1 h4, (hAB j0 h1 h4).1 h2, by rw [(loc_nd h x h1 h4).2]; exact h3, rfl, fun j hj hb hw _ => ?_⟩
    obtain ⟨p, hp, hx, rfl⟩ := loc_surj h x hj
    rw [(loc_nd h x hp hx).2] at hw
    rcases hall p hp ((hAB p hp hx).2 hb) hw hx with rfl | h5
    · exact .inl rfl
    · exact .inr ((loc_ser h x rk hp h1 hx h4).2 h5)
end
theorem loc_of_ve {h : Hist} {rk : Nat → Nat} {k n : Nat} (ve : VE h rk k) (hn : ∀ i, i < h.m → h.nd i < n) (hinj : ∀ u v, u < n → v < n → rk u = rk v → u = v) {x : Nat} (hx : x < k) : Loc (loc (acc h x h.m)) rk n where
  it := fun _ => rfl
  nd := by
    intro i hi
    obtain ⟨p, hp, hpx, rfl⟩ := loc_surj h x hi
    rw [(loc_nd h x hp hpx).1]
    exact hn p hp
  inj := hinj
  ve := by
    refine ⟨fun i hi hr => ?_, fun y hy => ?_⟩
    · obtain ⟨p, hp, hpx, rfl⟩ := loc_surj h x hi
      rw [(loc_nd h x hp hpx).2] at hr
      have h1 := ve.read p hp hr
      rw [hpx] at h1
      refine loc_lastIs h x rk (fun q hq hqx => ?_) (loc_lw h x p (by omega)).1 (loc_lw h x p (by omega)).2 h1
      exact (loc_ser h x rk hq hp hqx hpx).symm
    · have hy0 : y = 0 := by omega
      subst hy0
      have h1 := ve.last x hx
      have hm : (loc (acc h x h.m)).m = cE (byItem h) h.m x := acc_length h x h.m
      rw [hm]
      exact loc_lastIs h x rk (fun _ _ _ => Iff.rfl) (loc_lw h x h.m (Nat.le_refl _)).1 (loc_lw h x h.m (Nat.le_refl _)).2 h1
end Go.Proofs.Qxb6001364a.Pl
