/-
  Why stuck says no on a prefix of a view-serial order.
-/
import Derived.Test.Qxb6001364aV19
namespace Go.Proofs.Qxb6001364a
open Go.Fra Go.RowKit Pl
set_option linter.unusedVariables false
/-- The height of a node, or of a barrier behind the nodes. -/
def Rst (n : Nat) (rk : Nat → Nat) (pl : Nat → Bool) (so its : List Int) (readers : List (List Int)) (v : Nat) : Nat :=
  if v < n then 2 * rk v + 1 else bar rk (((readers.getD (so.getD (its.getD (v - n) 0).toNat 0).toNat []).map Int.toNat).filter fun r => !pl r)
/-- What the source says: nothing, or a source of the item whose writer is placed. -/
def SoI (n k : Nat) (rk : Nat → Nat) (src : List (Nat × Int)) (p : Nat) (so : List Int) : Prop :=
  ∀ x, x < k → ∃ s : Int, so[x]? = some s ∧ (s = -1 ∨ ∃ (i : Nat) (f : Int), s = (i : Int) ∧ src[i]? = some (x, f) ∧ (f = -1 ∨ ∃ v : Nat, f = (v : Int) ∧ v < n ∧ rk v < p))
theorem SoI.mono {n k : Nat} {rk : Nat → Nat} {src : List (Nat × Int)} {p q : Nat} {so : List Int} (h : SoI n k rk src p so) (hpq : p ≤ q) : SoI n k rk src q so := by
  intro x hx
  obtain ⟨s, h1, h2⟩ := h x hx
  refine ⟨s, h1, ?_⟩
  rcases h2 with h2 | ⟨i, f, h3, h4, h5⟩
  · exact .inl h2
  · refine .inr ⟨i, f, h3, h4, ?_⟩
    rcases h5 with h5 | ⟨v, h6, h7, h8⟩
    · exact .inl h5
    · exact .inr ⟨v, h6, h7, by omega⟩
theorem SoI.put {n k : Nat} {rk : Nat → Nat} {src : List (Nat × Int)} {p : Nat} {so : List Int} (h : SoI n k rk src p so) (hl : so.length = k) {y v : Nat} {s : Int} (hy : y < k) (hv : v < n) (hr : rk v < p) (hs : s = -1 ∨ ∃ i : Nat, s = (i : Int) ∧ src[i]? = some (y, (v : Int))) : SoI n k rk src p (so.set y s) := by
  intro x hx
  by_cases hxy : y = x
  · subst hxy
    refine ⟨s, List.getElem?_set_self (by omega), ?_⟩
    rcases hs with hs | ⟨i, h1, h2⟩
    · exact .inl hs
    · exact .inr ⟨i, _, h1, h2, .inr ⟨v, rfl, hv, hr⟩⟩
  · rw [List.getElem?_set_ne hxy]
    exact h x hx
section
variable {n k : Nat} {A : Nat → List (Nat × Bool)} {rk : Nat → Nat} {x : Nat} {src : List (Nat × Int)} {reads : List (List Int)} {writes : List (List (Int × Int))} {writers : List (List Int)} {initial : List Int} {readers : List (List Int)} {next : List Int} {succ : List (List Int)}
theorem SoI.start (S : Tbl n k A rk k src reads writes writers initial readers next succ) : SoI n k rk src 0 initial := by
  intro x hx
  obtain ⟨z, h1, h2⟩ := S.ini x hx
  refine ⟨z, h1, ?_⟩
  rcases h2 with h2 | ⟨i, h3, h4⟩
  · exact .inl h2
  · exact .inr ⟨i, _, h3, h4, .inl rfl⟩
theorem stuckA (S : Tbl n k A rk k src reads writes writers initial readers next succ) (pl : Nat → Bool) (so its : List Int) (v : Nat) (h : v < succ.length) (u : Int) (hu : u ∈ succ[v]) : ∃ u' : Nat, u = (u' : Int) ∧ u' < n ∧ (pl u' = false → Rst n rk pl so its readers v < Rst n rk pl so its readers u') := by
  obtain ⟨u', h1, h2, h3⟩ := S.ed v h u hu
  refine ⟨u', h1, h2, fun _ => ?_⟩
  have hvn : v < n := by rw [← S.l5]; exact h
  unfold Rst
  rw [if_pos hvn, if_pos h2]
  omega
theorem stuckB (S : Tbl n k A rk k src reads writes writers initial readers next succ) (hL : ∀ y, y < k → Pl.Loc (loc (A y)) rk n) (hinj : ∀ u v, u < n → v < n → rk u = rk v → u = v) (pl : Nat → Bool) (p : Nat) (hpl : ∀ v, v < n → pl v = decide (rk v < p)) (so its : List Int) (hso : SoI n k rk src p so) (hits : ∀ z ∈ its, ∃ y : Nat, z = (y : Int) ∧ y < k) :
    ∀ j (h : j < its.length), ∃ x : Nat, its[j] = (x : Int) ∧ x < k ∧ ∃ s : Int, so[x]? = some s ∧ (s < 0 ∨ ∃ i : Nat, s = (i : Int) ∧ i < readers.length ∧ (∀ r ∈ readers.getD i [], ∃ r' : Nat, r = (r' : Int) ∧ r' < n ∧ (pl r' = false → Rst n rk pl so its readers r' < Rst n rk pl so its readers (n + j))) ∧ (∀ y ∈ writers.getD x [], ∃ y' : Nat, y = (y' : Int) ∧ y' < n ∧ (pl y' = false → next[i]? ≠ some (y' : Int) → Rst n rk pl so its readers (n + j) < Rst n rk pl so its readers y'))) := by
  intro j h
  obtain ⟨x, hx, hxk⟩ := hits its[j] (List.getElem_mem _)
  obtain ⟨s, hs, hd⟩ := hso x hxk
  refine ⟨x, hx, hxk, s, hs, ?_⟩
  rcases hd with hd | ⟨i, f, rfl, hsrc, hf⟩
  · exact .inl (by omega)
  · right
    have hil : i < readers.length := by
      have := (List.getElem?_eq_some_iff.1 hsrc).1
      rw [S.l7] at this
      exact this
    have hxw : x < writers.length := by rw [S.l3]; exact hxk
    have eR : Rst n rk pl so its readers (n + j) = bar rk (((readers.getD i []).map Int.toNat).filter fun r => !pl r) := by
      unfold Rst
      have e1 : its.getD j 0 = (x : Int) := by simp [List.getD_eq_getElem?_getD, List.getElem?_eq_getElem h, hx]
      have e2 : so.getD x 0 = (i : Int) := by simp [List.getD_eq_getElem?_getD, hs]
      rw [if_neg (by omega), Nat.add_sub_cancel_left, e1, Int.toNat_natCast, e2, Int.toNat_natCast]
    have ev : ∀ v, v < n → Rst n rk pl so its readers v = 2 * rk v + 1 := fun v hv => if_pos hv
    have g1 : readers.getD i [] = readers[i] := by simp [List.getD_eq_getElem?_getD, List.getElem?_eq_getElem hil]
    have g2 : writers.getD x [] = writers[x] := by simp [List.getD_eq_getElem?_getD, List.getElem?_eq_getElem hxw]
    rw [g1] at eR
    refine ⟨i, rfl, hil, ?_, ?_⟩
    · intro r hr
      rw [g1] at hr
      obtain ⟨v, y, f', rfl, hvn, _⟩ := S.rs i hil r hr
      refine ⟨v, rfl, hvn, fun hp => ?_⟩
      rw [eR, ev v hvn]
      exact bar_lt rk _ v (List.mem_filter.2 ⟨List.mem_map.2 ⟨(v : Int), hr, by simp⟩, by simp [hp]⟩)
    · intro y hy
      rw [g2] at hy
      obtain ⟨v, rfl, hvn, hw⟩ := S.ws x hxw y hy
      refine ⟨v, rfl, hvn, fun hp hne => ?_⟩
      rw [eR, ev v hvn]
      refine lt_bar rk _ v (fun r hr => ?_)
      obtain ⟨hr1, hr2⟩ := List.mem_filter.1 hr
      obtain ⟨rz, hrz, rfl⟩ := List.mem_map.1 hr1
      obtain ⟨r, y2, f2, rfl, hrn, hs2, hsS, hnext⟩ := S.rs i hil rz hrz
      rw [hsrc] at hs2
      injection hs2 with hs2
      injection hs2 with hs3 hs4
      subst hs3
      subst hs4
      rw [Int.toNat_natCast] at hr2 ⊢
      by_cases hrv : r = v
      · subst hrv
        exact absurd (hnext hw) hne
      · rcases (hL x hxk).between hsS hw with ⟨q, hq, hq2⟩ | hle
        · rcases hf with hf | ⟨q', hq', hqn, hqp⟩
          · omega
          · obtain rfl : q = q' := by omega
            have hvp : ¬ rk v < p := by
              rw [hpl v hvn] at hp
              simpa using hp
            rcases hq2 with h1 | h1
            · subst h1; exact absurd hqp hvp
            · omega
        · rcases Nat.lt_or_ge (rk r) (rk v) with h1 | h1
          · exact h1
          · exact absurd (hinj r v hrn hvn (by omega)) hrv
end
end Go.Proofs.Qxb6001364a
