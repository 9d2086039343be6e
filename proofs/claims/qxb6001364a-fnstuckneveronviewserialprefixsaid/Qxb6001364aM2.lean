/-
  RANKS AND COUNTS, PLAINLY.
-/
import Derived.Test.Qxb6001364aV2
import Derived.Test.Qxb6001364aM1
namespace Go.Proofs.Qxb6001364a
open Go.Fra Go.RowKit Pl
set_option linter.unusedVariables false

def histOf (nd it : List Int) (wr : List Bool) : Hist := ⟨nd.length, fun i => (nd.getD i 0).toNat, fun i => (it.getD i 0).toNat, fun i => wr.getD i false⟩
def rkOf (rk : List Int) (v : Nat) : Nat := (rk.getD v 0).toNat

theorem ints_set (zs : List Int) (i : Nat) (z : Int) : (ints zs).set i (.int .i64 z) = ints (zs.set i z) := by simp [ints, List.map_set]

/-- The sum of the counts. -/
def sE (h : Hist) (i : Nat) : Nat → Nat
  | 0 => 0
  | u + 1 => sE h i u + cE h i u
theorem sE_zero (h : Hist) : ∀ n, sE h 0 n = 0
  | 0 => rfl
  | n + 1 => by simp [sE, sE_zero h n, cE]
theorem sE_step (h : Hist) (i : Nat) : ∀ n, sE h (i + 1) n = sE h i n + (if h.nd i < n then 1 else 0)
  | 0 => by simp [sE]
  | n + 1 => by
    simp only [sE, sE_step h i n, cE]
    by_cases h1 : h.nd i = n
    · simp [h1]; omega
    · by_cases h2 : h.nd i < n
      · rw [if_pos h2, if_neg h1, if_pos (by omega)]; omega
      · rw [if_neg h2, if_neg h1, if_neg (by omega)]; omega
theorem sE_all (h : Hist) (n : Nat) : ∀ i, (∀ j, j < i → h.nd j < n) → sE h i n = i
  | 0, _ => sE_zero h n
  | i + 1, hj => by
    rw [sE_step, sE_all h n i (fun j hji => hj j (by omega)), if_pos (hj i (by omega))]
theorem cL_sE (h : Hist) : ∀ u, cL h u = sE h h.m u
  | 0 => rfl
  | u + 1 => by simp [cL, sE, cL_sE h u]
theorem cE_le (h : Hist) (u : Nat) : ∀ i, cE h i u ≤ i
  | 0 => Nat.le_refl _
  | i + 1 => by
    have := cE_le h u i
    simp only [cE]
    split <;> omega

theorem pig : ∀ (n : Nat) (l : List Nat), l.Nodup → (∀ x ∈ l, x < n) → l.length ≤ n
  | 0, l, _, h => by
    cases l with
    | nil => simp
    | cons x l => have := h x (by simp); omega
  | n + 1, l, hd, h => by
    have h1 := pig n (l.erase n) (hd.erase n) (fun x hx => by
      have h2 := (hd.mem_erase_iff).1 hx
      have := h x h2.2
      omega)
    have h3 := List.length_erase (a := n) (l := l)
    split at h3 <;> omega

theorem RankOf.surj {n : Nat} {pm rk : List Int} (h : RankOf n pm rk) (v : Nat) (hv : v < n) : ∃ i, ∃ h : i < pm.length, pm[i] = (v : Int) ∧ rkOf rk v = i := by
  obtain ⟨h1, h2, h3⟩ := h
  by_cases hm : v ∈ pm.map Int.toNat
  · obtain ⟨z, hz, he⟩ := List.mem_map.1 hm
    obtain ⟨i, hi, rfl⟩ := List.mem_iff_getElem.1 hz
    obtain ⟨a, b, c⟩ := h3 i hi
    refine ⟨i, hi, by omega, ?_⟩
    rw [he] at c
    simp [rkOf, List.getD_eq_getElem?_getD, c]
  · exfalso
    have hnd : (pm.map Int.toNat).Nodup := by
      rw [List.nodup_iff_pairwise_ne, List.pairwise_iff_getElem]
      intro i j hi hj hij he
      simp only [List.length_map] at hi hj
      simp only [List.getElem_map] at he
      have a := (h3 i hi).2.2
      have b := (h3 j hj).2.2
      rw [he, b] at a
      injection a with a
      omega
    have := pig n (v :: pm.map Int.toNat) (List.nodup_cons.2 ⟨hm, hnd⟩) (by
      intro x hx
      rcases List.mem_cons.1 hx with rfl | hx
      · exact hv
      · obtain ⟨z, hz, rfl⟩ := List.mem_map.1 hx
        obtain ⟨i, hi, rfl⟩ := List.mem_iff_getElem.1 hz
        have := h3 i hi
        omega)
    simp at this
    omega
theorem RankOf.lt {n : Nat} {pm rk : List Int} (h : RankOf n pm rk) {v : Nat} (hv : v < n) : rkOf rk v < n := by
  obtain ⟨i, hi, _, e⟩ := h.surj v hv
  have := h.1
  omega
theorem RankOf.inj {n : Nat} {pm rk : List Int} (h : RankOf n pm rk) {u v : Nat} (hu : u < n) (hv : v < n) (e : rkOf rk u = rkOf rk v) : u = v := by
  obtain ⟨i, hi, a, b⟩ := h.surj u hu
  obtain ⟨j, hj, c, d⟩ := h.surj v hv
  obtain rfl : i = j := by omega
  omega
theorem RankOf.at {n : Nat} {pm rk : List Int} (h : RankOf n pm rk) {i : Nat} (hi : i < pm.length) : ∃ v : Nat, v < n ∧ pm[i] = (v : Int) ∧ rkOf rk v = i := by
  obtain ⟨a, b, c⟩ := h.2.2 i hi
  refine ⟨pm[i].toNat, by omega, by omega, ?_⟩
  simp [rkOf, List.getD_eq_getElem?_getD, c]
theorem RankOf.get {n : Nat} {pm rk : List Int} (h : RankOf n pm rk) {v : Nat} (hv : v < n) : rk[v]? = some (rkOf rk v : Int) := by
  obtain ⟨i, hi, a, b⟩ := h.surj v hv
  have := (h.2.2 i hi).2.2
  rw [a] at this
  rw [b]
  simpa using this

/-- The accesses of the nodes of rank below t, and the first c of node v's. -/
def seen (h : Hist) (rk : Nat → Nat) (t v c : Nat) (j : Nat) : Prop := rk (h.nd j) < t ∨ (h.nd j = v ∧ cE h j v < c)

theorem seen_ser {h : Hist} {rk : Nat → Nat} {n t v : Nat} (hn : ∀ j, j < h.m → h.nd j < n) (hi : ∀ u w, u < n → w < n → rk u = rk w → u = w) (hv : v < n) (ht : rk v = t) {i : Nat} (hm : i < h.m) (hiv : h.nd i = v) (j : Nat) (hj : j < h.m) : seen h rk t v (cE h i v) j ↔ ser h rk j i := by
  unfold seen ser
  rw [hiv, ht]
  refine or_congr Iff.rfl ⟨?_, ?_⟩
  · rintro ⟨h1, h2⟩
    refine ⟨by rw [h1, ht], ?_⟩
    rcases Nat.lt_or_ge j i with h3 | h3
    · exact h3
    · have := cE_mono h v i j h3; omega
  · rintro ⟨h1, h2⟩
    have h3 : h.nd j = v := hi _ _ (hn j hj) hv (by rw [h1, ht])
    refine ⟨h3, ?_⟩
    have := cE_lt h j i h2
    rw [h3] at this
    exact this
theorem seen_step {h : Hist} {rk : Nat → Nat} {t v : Nat} {i : Nat} (hm : i < h.m) (hiv : h.nd i = v) (j : Nat) (hj : j < h.m) : (seen h rk t v (cE h i v) j ∨ j = i) ↔ seen h rk t v (cE h i v + 1) j := by
  unfold seen
  constructor
  · rintro ((h1 | ⟨h1, h2⟩) | rfl)
    · exact .inl h1
    · exact .inr ⟨h1, by omega⟩
    · exact .inr ⟨hiv, by omega⟩
  · rintro (h1 | ⟨h1, h2⟩)
    · exact .inl (.inl h1)
    · rcases Nat.lt_or_ge (cE h j v) (cE h i v) with h3 | h3
      · exact .inl (.inr ⟨h1, h3⟩)
      · refine .inr (cE_inj h j i (by rw [h1, hiv]) ?_)
        rw [h1, hiv]
        omega
theorem seen_end {h : Hist} {rk : Nat → Nat} {n t v : Nat} (hn : ∀ j, j < h.m → h.nd j < n) (hi : ∀ u w, u < n → w < n → rk u = rk w → u = w) (hv : v < n) (ht : rk v = t) (j : Nat) (hj : j < h.m) : seen h rk t v (cE h h.m v) j ↔ rk (h.nd j) < t + 1 := by
  unfold seen
  constructor
  · rintro (h1 | ⟨h1, _⟩)
    · omega
    · rw [h1, ht]; omega
  · intro h1
    rcases Nat.lt_or_ge (rk (h.nd j)) t with h2 | h2
    · exact .inl h2
    · have h3 : h.nd j = v := hi _ _ (hn j hj) hv (by omega)
      refine .inr ⟨h3, ?_⟩
      have := cE_lt h j h.m hj
      rw [h3] at this
      exact this
end Go.Proofs.Qxb6001364a
