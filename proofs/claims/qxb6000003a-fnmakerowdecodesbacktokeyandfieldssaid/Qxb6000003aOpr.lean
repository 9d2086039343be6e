/-
  WHAT THE ROW OVER makeRow READS: a string, slices of bytes, of numbers, of strings, as the walk is told of them.
-/
import Derived.Test.Qxb6000003aRows
import Derived.Test.Qxb6000003aW11
import Derived.ProofKit
import Derived.OpenShut
import Derived.ShutString
import Derived.ChangeOld
import Derived.ChangeMaps5
import Derived.SliceStrings
import Derived.Deep.Slices
namespace Go.Proofs.Qxb6000003a.Mr
open Go.ChangeShapes Go.WideShapes Go.ChangeAt Go.RowKit

theorem own : ownKnob Try.prog.godebug = none := by kernel_rfl
theorem laidOut : laidOutB Try.prog = true := by kernel_rfl

theorem plain_addr {W : World} {a : Addr} {u : Value} (h : W.cell? (a.add 0) = some u) : ∃ b o, a = ⟨b, o, none⟩ := by
  obtain ⟨b, o, s⟩ := a
  have : s = none := by simpa [Addr.add] using World.cell?_spot h
  subst this
  exact ⟨b, o, rfl⟩

section
variable {H : Type} {enc : TypeId × Value → H} {W : World}

theorem read_strs {a : Option Addr} {len cap fuel : Nat} {x : DataW H × List MemPlace} (h : DataW.trod enc Try.prog W 0 (fun _ => true) true fuel 30 [.slice a len cap] = some x) : ∃ ss, StrS W (.slice a len cap) ss := by
  rcases open_strings Try.underlying30 Try.underlying9 (by kernel_rfl) h with ⟨hcs, _⟩ | ⟨p, l, c, ss, hcs, _, hl, hm, hz, _, hcell, hws⟩
  · simp at hcs
    obtain ⟨rfl, rfl, rfl⟩ := hcs
    exact ⟨[], none, 0, rfl, fun i hi => by simp at hi⟩
  · simp at hcs
    obtain ⟨rfl, rfl, rfl⟩ := hcs
    simp only [if_true] at hz
    refine ⟨ss.take len, some p, cap, by rw [List.length_take, hz, Nat.min_eq_left hl], ?_⟩
    intro i hi
    rw [List.length_take] at hi
    obtain ⟨b, o, rfl⟩ := plain_addr (hcell 0 (by omega))
    refine ⟨b, o, rfl, ?_⟩
    have := hcell i (by omega)
    rw [Fra.add_plain] at this
    rw [this, List.getElem_take]
    simp [List.getD_eq_getElem?_getD, List.getElem?_eq_getElem (show i < ss.length by omega)]

theorem read_i64 {a : Option Addr} {len cap fuel : Nat} {x : DataW H × List MemPlace} (h : DataW.trod enc Try.prog W 0 (fun _ => true) true fuel 32 [.slice a len cap] = some x) : ∃ zs, I64S W (.slice a len cap) zs ∧ ∀ z ∈ zs, -9223372036854775808 ≤ z ∧ z < 9223372036854775808 := by
  rcases open_ints Try.underlying32 Try.underlying2 (by kernel_rfl) h with ⟨hcs, _⟩ | ⟨p, l, c, zs, hcs, _, hl, hm, hz, _, hcell, hwz⟩
  · simp at hcs
    obtain ⟨rfl, rfl, rfl⟩ := hcs
    exact ⟨[], ⟨none, 0, rfl, fun i hi => by simp at hi⟩, fun z hz => by cases hz⟩
  · simp at hcs
    obtain ⟨rfl, rfl, rfl⟩ := hcs
    simp only [if_true] at hz
    refine ⟨zs.take len, ⟨some p, cap, by rw [List.length_take, hz, Nat.min_eq_left hl], ?_⟩, ?_⟩
    · intro i hi
      rw [List.length_take] at hi
      obtain ⟨b, o, rfl⟩ := plain_addr (hcell 0 (by omega))
      refine ⟨b, o, rfl, ?_⟩
      have := hcell i (by omega)
      rw [Fra.add_plain] at this
      rw [this, List.getElem_take]
      simp [List.getD_eq_getElem?_getD, List.getElem?_eq_getElem (show i < zs.length by omega)]
    · intro z hz'
      have := hwz z (List.mem_of_mem_take hz')
      simp [Lit.wf, IntKind.min, IntKind.max, IntKind.signed, IntKind.bits] at this
      omega

theorem read_u8 {a : Option Addr} {len cap fuel : Nat} {x : DataW H × List MemPlace} (h : DataW.trod enc Try.prog W 0 (fun _ => true) true fuel 23 [.slice a len cap] = some x) : ∃ ks, U8S W (.slice a len cap) ks := by
  rcases open_ints Try.underlying23 Try.underlying5 (by kernel_rfl) h with ⟨hcs, _⟩ | ⟨p, l, c, zs, hcs, _, hl, hm, hz, _, hcell, hwz⟩
  · simp at hcs
    obtain ⟨rfl, rfl, rfl⟩ := hcs
    exact ⟨[], none, 0, rfl, fun i hi => by simp at hi⟩
  · simp at hcs
    obtain ⟨rfl, rfl, rfl⟩ := hcs
    simp only [if_true] at hz
    refine ⟨zs.take len, some p, cap, by rw [List.length_take, hz, Nat.min_eq_left hl], ?_⟩
    intro i hi
    rw [List.length_take] at hi
    obtain ⟨b, o, rfl⟩ := plain_addr (hcell 0 (by omega))
    refine ⟨b, o, rfl, ?_⟩
    have := hcell i (by omega)
    rw [Fra.add_plain] at this
    rw [this, List.getElem_take]
    simp [List.getD_eq_getElem?_getD, List.getElem?_eq_getElem (show i < zs.length by omega)]
end
end Go.Proofs.Qxb6000003a.Mr
