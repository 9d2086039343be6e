/-
  WHAT THE ROWS READ: slices of strings, of numbers, of slices of strings, as the walks are told of them.
-/
import Derived.Test.Qxb6000003aRows
import Derived.Test.Qxb6000003aW5
import Derived.ProofKit
import Derived.OpenShut
import Derived.ShutString
import Derived.ChangeOld
import Derived.SliceStrings
import Derived.Deep.Slices
namespace Go.Proofs.Qxb6000003a
open Go.ChangeShapes Go.WideShapes Go.ChangeAt Go.RowKit

theorem own : ownKnob Try.prog.godebug = none := by kernel_rfl
theorem laidOut : laidOutB Try.prog = true := by kernel_rfl

theorem plain_addr {W : World} {a : Addr} {u : Value} (h : W.cell? (a.add 0) = some u) : ∃ b o, a = ⟨b, o, none⟩ := by
  obtain ⟨b, o, s⟩ := a
  have : s = none := by simpa [Addr.add] using World.cell?_spot h
  subst this
  exact ⟨b, o, rfl⟩

section
variable {H : Type} {enc : TypeId × Value → H} {W : World}

theorem read_strs {a : Option Addr} {len cap fuel : Nat} {x : DataW H × List MemPlace} (h : DataW.trod enc Try.prog W 0 (fun _ => true) true fuel 30 [.slice a len cap] = some x) : ∃ ss, StrS W (.slice a len cap) ss := by
  rcases open_strings Try.underlying30 Try.underlying9 (by kernel_rfl) h with ⟨hcs, _⟩ | ⟨p, l, c, ss, hcs, _, hl, hm, hz, _, hcell, hws⟩
  · simp at hcs
    obtain ⟨rfl, rfl, rfl⟩ := hcs
    exact ⟨[], none, 0, rfl, fun i hi => by simp at hi⟩
  · simp at hcs
    obtain ⟨rfl, rfl, rfl⟩ := hcs
    simp only [if_true] at hz
    refine ⟨ss.take len, some p, cap, by rw [List.length_take, hz, Nat.min_eq_left hl], ?_⟩
    intro i hi
    rw [List.length_take] at hi
    obtain ⟨b, o, rfl⟩ := plain_addr (hcell 0 (by omega))
    refine ⟨b, o, rfl, ?_⟩
    have := hcell i (by omega)
    rw [Fra.add_plain] at this
    rw [this, List.getElem_take]
    simp [List.getD_eq_getElem?_getD, List.getElem?_eq_getElem (show i < ss.length by omega)]

theorem read_i64 {a : Option Addr} {len cap fuel : Nat} {x : DataW H × List MemPlace} (h : DataW.trod enc Try.prog W 0 (fun _ => true) true fuel 32 [.slice a len cap] = some x) : ∃ zs, I64S W (.slice a len cap) zs := by
  rcases open_ints Try.underlying32 Try.underlying2 (by kernel_rfl) h with ⟨hcs, _⟩ | ⟨p, l, c, zs, hcs, _, hl, hm, hz, _, hcell, hwz⟩
  · simp at hcs
    obtain ⟨rfl, rfl, rfl⟩ := hcs
    exact ⟨[], none, 0, rfl, fun i hi => by simp at hi⟩
  · simp at hcs
    obtain ⟨rfl, rfl, rfl⟩ := hcs
    simp only [if_true] at hz
    refine ⟨zs.take len, some p, cap, by rw [List.length_take, hz, Nat.min_eq_left hl], ?_⟩
    intro i hi
    rw [List.length_take] at hi
    obtain ⟨b, o, rfl⟩ := plain_addr (hcell 0 (by omega))
    refine ⟨b, o, rfl, ?_⟩
    have := hcell i (by omega)
    rw [Fra.add_plain] at this
    rw [this, List.getElem_take]
    simp [List.getD_eq_getElem?_getD, List.getElem?_eq_getElem (show i < zs.length by omega)]

theorem read_args {a : Option Addr} {len cap fuel : Nat} {x : DataW H × List MemPlace} (h : DataW.trod enc Try.prog W 0 (fun _ => true) true fuel 31 [.slice a len cap] = some x) : ∃ avs rows, ArgS W (.slice a len cap) avs rows := by
  rcases Deep.open_slice1 Try.underlying31 (by kernel_rfl) h with ⟨hcs, _⟩ | ⟨p, l, c, m, n, V, D, Pl, hcs, _, hl, hm, hmm, _, hcell⟩
  · simp at hcs
    obtain ⟨rfl, rfl, rfl⟩ := hcs
    exact ⟨[], [], rfl, none, 0, rfl, fun i hi => by simp at hi⟩
  · simp at hcs
    obtain ⟨rfl, rfl, rfl⟩ := hcs
    simp only [if_true] at hmm
    subst hmm
    have hex : ∀ i, ∃ ss, i < len → StrS W (V i) ss := by
      intro i
      by_cases hi : i < len
      · obtain ⟨h1, h2⟩ := hcell i (by omega)
        have hsl : ∃ a' l' c', V i = .slice a' l' c' := by
          rcases open_strings Try.underlying30 Try.underlying9 (by kernel_rfl) h2 with ⟨hcs, _⟩ | ⟨p', l', c', ss, hcs, _⟩
          · simp at hcs; exact ⟨_, _, _, hcs⟩
          · simp at hcs; exact ⟨_, _, _, hcs⟩
        obtain ⟨a', l', c', hV⟩ := hsl
        rw [hV] at h2
        obtain ⟨ss, hss⟩ := read_strs h2
        exact ⟨ss, fun _ => by rw [hV]; exact hss⟩
      · exact ⟨[], fun h => absurd h hi⟩
    obtain ⟨R, hR⟩ := Classical.axiomOfChoice hex
    refine ⟨(List.range len).map V, (List.range len).map R, by simp, some p, _, by simp; rfl, ?_⟩
    intro i hi hi'
    simp at hi
    obtain ⟨b, o, rfl⟩ := plain_addr (hcell 0 (by omega)).1
    have h1 := (hcell i (by omega)).1
    rw [Fra.add_plain] at h1
    exact ⟨b, o, rfl, by simpa using h1, by simpa using hR i hi⟩
end
end Go.Proofs.Qxb6000003a
