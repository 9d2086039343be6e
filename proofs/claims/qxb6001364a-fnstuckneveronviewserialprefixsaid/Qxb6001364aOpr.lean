/-
  WHAT THE ROWS READ: slices of ints and of bools, as the walks are told of them.
-/
import Derived.Test.Qxb6001364aRows
import Derived.Test.Qxb6001364aV1
import Derived.ProofKit
import Derived.OpenShut
import Derived.ChangeOld
import Derived.ChangeMaps5
import Derived.ChangeSlices
import Derived.Deep.Slices
import Derived.Deep.Grids
namespace Go.Proofs.Qxb6001364a.Mr
open Go.ChangeShapes Go.WideShapes Go.ChangeAt Go.RowKit

theorem own : ownKnob Try.prog.godebug = none := by kernel_rfl
theorem laidOut : laidOutB Try.prog = true := by kernel_rfl

theorem plain_addr {W : World} {a : Addr} {u : Value} (h : W.cell? (a.add 0) = some u) : ∃ b o, a = ⟨b, o, none⟩ := by
  obtain ⟨b, o, s⟩ := a
  have : s = none := by simpa [Addr.add] using World.cell?_spot h
  subst this
  exact ⟨b, o, rfl⟩

section
variable {H : Type} {enc : TypeId × Value → H} {W : World}

theorem read_ints {a : Option Addr} {len cap fuel : Nat} {x : DataW H × List MemPlace} (h : DataW.trod enc Try.prog W 0 (fun _ => true) true fuel 22 [.slice a len cap] = some x) : ∃ zs, IntR W (.slice a len cap) zs := by
  rcases open_ints Try.underlying22 Try.underlying3 (by kernel_rfl) h with ⟨hcs, _⟩ | ⟨p, l, c, zs, hcs, _, hl, hm, hz, _, hcell, hwz⟩
  · simp at hcs
    obtain ⟨rfl, rfl, rfl⟩ := hcs
    exact ⟨[], none, 0, rfl, fun i hi => by simp at hi⟩
  · simp at hcs
    obtain ⟨rfl, rfl, rfl⟩ := hcs
    simp only [if_true] at hz
    refine ⟨zs.take len, some p, cap, by rw [List.length_take, hz, Nat.min_eq_left hl], ?_⟩
    intro i hi
    rw [List.length_take] at hi
    obtain ⟨b, o, rfl⟩ := plain_addr (hcell 0 (by omega))
    refine ⟨b, o, rfl, ?_⟩
    have := hcell i (by omega)
    rw [Fra.add_plain] at this
    rw [this, List.getElem_take]
    simp [List.getD_eq_getElem?_getD, List.getElem?_eq_getElem (show i < zs.length by omega)]

theorem read_bools {a : Option Addr} {len cap fuel : Nat} {x : DataW H × List MemPlace} (h : DataW.trod enc Try.prog W 0 (fun _ => true) true fuel 23 [.slice a len cap] = some x) : ∃ zs, BoolR W (.slice a len cap) zs := by
  rcases Go.Deep.open_bools Try.underlying23 Try.underlying4 (by kernel_rfl) h with ⟨hcs, _⟩ | ⟨p, l, c, B, hcs, _, hl, hm, _, hcell⟩
  · simp at hcs
    obtain ⟨rfl, rfl, rfl⟩ := hcs
    exact ⟨[], none, 0, rfl, fun i hi => by simp at hi⟩
  · simp at hcs
    obtain ⟨rfl, rfl, rfl⟩ := hcs
    refine ⟨(List.range len).map B, some p, cap, by simp, ?_⟩
    intro i hi
    simp only [List.length_map, List.length_range] at hi
    obtain ⟨b, o, rfl⟩ := plain_addr (hcell 0 (by omega))
    refine ⟨b, o, rfl, ?_⟩
    have := hcell i (by omega)
    rw [Fra.add_plain] at this
    rw [this]
    simp
end
end Go.Proofs.Qxb6001364a.Mr
