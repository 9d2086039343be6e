/-
  STEPS ON THE HEAP'S PARTS: a local variable, a push to a table.
-/
import Derived.Test.Qxb6001364aHr
namespace Go.Fra
open Go.RowKit
def Same (S : List Nat) (H H' : Nat → Part) : Prop := ∀ t, t ∉ S → H' t = H t
theorem Same.refl (S : List Nat) (H : Nat → Part) : Same S H H := fun _ _ => rfl
theorem Same.upd {H : Nat → Part} {t : Nat} {V : Part} {S : List Nat} (h : t ∈ S) : Same S H (updH H t V) := by
  intro t' ht
  have : t' ≠ t := fun e => ht (e ▸ h)
  have hb : Nat.beq t' t = false := by
    cases hb : Nat.beq t' t with
    | false => rfl
    | true => exact absurd (Nat.eq_of_beq_eq_true hb) this
  simp [updH, hb]
theorem Same.trans {S : List Nat} {H H1 H2 : Nat → Part} (h : Same S H H1) (h' : Same S H1 H2) : Same S H H2 := fun t ht => (h' t ht).trans (h t ht)
theorem Same.mono {S S' : List Nat} {H H1 : Nat → Part} (h : Same S H H1) (hS : ∀ t, t ∈ S → t ∈ S') : Same S' H H1 := fun t ht => h t (fun e => ht (hS t e))
theorem Same.vb {S : List Nat} {H H' : Nat → Part} (h : Same S H H') {t b : Nat} {ty : TypeId} {cs : List Value} (ht : t ∉ S) (hv : VB (H t) b ty cs) : VB (H' t) b ty cs := by rw [h t ht]; exact hv

section
variable {N : Nat} {w0 w : World} {H : Nat → Part}
/-- A local variable of two cells. -/
theorem var2 (hs : Split N w0 w H) (j : Nat) (ty : TypeId) (z0 z1 a b : Value) : ∃ H1, Same [j] H H1 ∧ Split N w0 (((w.alloc (.cells #[z0, z1] ty)).setCell ⟨w.heap.size, 0, none⟩ a).setCell ⟨w.heap.size, 0 + 1, none⟩ b) H1 ∧ VB (H1 j) w.heap.size ty [a, b] := by
  have hs1 := hs.alloc j (.cells #[z0, z1] ty)
  have hB1 : VB (updH H j (addV (H j) w.heap.size (.cells #[z0, z1] ty)) j) w.heap.size ty [z0, z1] := by rw [updH_hit]; exact VB.add
  have hs2 := hs1.set hB1 0 a
  have hB2 : VB (updH (updH H j (addV (H j) w.heap.size (.cells #[z0, z1] ty))) j (addV (updH H j (addV (H j) w.heap.size (.cells #[z0, z1] ty)) j) w.heap.size (.cells ([z0, z1].set 0 a).toArray ty)) j) w.heap.size ty [a, z1] := by rw [updH_hit]; exact VB.add
  have hs3 := hs2.set hB2 1 b
  refine ⟨_, ?_, hs3, by rw [updH_hit]; exact VB.add⟩
  exact ((Same.upd (by simp)).trans (Same.upd (by simp))).trans (Same.upd (by simp))
/-- A local variable of one cell. -/
theorem var1 (hs : Split N w0 w H) (j : Nat) (ty : TypeId) (z a : Value) : ∃ H1, Same [j] H H1 ∧ Split N w0 ((w.alloc (.cells #[z] ty)).setCell ⟨w.heap.size, 0, none⟩ a) H1 ∧ VB (H1 j) w.heap.size ty [a] := by
  have hs1 := hs.alloc j (.cells #[z] ty)
  have hB1 : VB (updH H j (addV (H j) w.heap.size (.cells #[z] ty)) j) w.heap.size ty [z] := by rw [updH_hit]; exact VB.add
  have hs2 := hs1.set hB1 0 a
  refine ⟨_, ?_, hs2, by rw [updH_hit]; exact VB.add⟩
  exact (Same.upd (by simp)).trans (Same.upd (by simp))
theorem var0 (hs : Split N w0 w H) (j : Nat) (ty : TypeId) (z : Value) : ∃ H1, Same [j] H H1 ∧ Split N w0 (w.alloc (.cells #[z] ty)) H1 ∧ VB (H1 j) w.heap.size ty [z] := by
  have hs1 := hs.alloc j (.cells #[z] ty)
  exact ⟨_, Same.upd (by simp), hs1, by rw [updH_hit]; exact VB.add⟩
theorem blkN (hs : Split N w0 w H) (j : Nat) (ty : TypeId) (cs : Array Value) : ∃ H1, Same [j] H H1 ∧ Split N w0 (w.alloc (.cells cs ty)) H1 ∧ VB (H1 j) w.heap.size ty cs.toList := by
  have hs1 := hs.alloc j (.cells cs ty)
  exact ⟨_, Same.upd (by simp), hs1, by rw [updH_hit]; exact VB.add⟩
theorem mapN (hs : Split N w0 w H) (j : Nat) {κ : Type} (en : κ → Value) : ∃ H1, Same [j] H H1 ∧ Split N w0 (w.alloc (.map #[] 0)) H1 ∧ MapV (H1 j) w.heap.size en [] := by
  have hs1 := hs.alloc j (.map #[] 0)
  exact ⟨_, Same.upd (by simp), hs1, by rw [updH_hit]; exact MapV.new⟩
theorem VB.put {t : Nat} {b : Nat} {ty : TypeId} {cs : List Value} (h : VB (H t) b ty cs) (hs : Split N w0 w H) (i : Nat) (v : Value) : ∃ H1, Same [t] H H1 ∧ Split N w0 (w.setCell ⟨b, i, none⟩ v) H1 ∧ VB (H1 t) b ty (cs.set i v) :=
  ⟨_, Same.upd (by simp), hs.set h i v, by rw [updH_hit]; exact VB.add⟩

/-- Where t = j, what is new in the part does not touch what was there. -/
theorem VB.alloc_same {t b : Nat} {ty : TypeId} {cs : List Value} (h : VB (H t) b ty cs) (hs : Split N w0 w H) (o : Obj) : VB (updH H t (addV (H t) w.heap.size o) t) b ty cs := by
  rw [updH_hit]; exact h.other (hs.size h)
end
theorem new_cell (w : World) (cs : Array Value) (ty : TypeId) (i : Nat) {v : Value} (h : cs.toList[i]? = some v) : (w.alloc (.cells cs ty)).cell? ⟨w.heap.size, i, none⟩ = some v := (Blk.new w cs ty).cell h
theorem new_frozen (w : World) (cs : Array Value) (ty : TypeId) (i : Nat) : (w.alloc (.cells cs ty)).frozen? ⟨w.heap.size, i, none⟩ = false := (Blk.new w cs ty).frozen i

/-- A push: a slice of one is laid, appended, and the row is stored. -/
theorem TabV.pushR {P : Program} {N : Nat} {w0 w : World} {H : Nat → Part} {t j : Nat} {et e ts : TypeId} {α : Type} {enc : α → List Value} {size : Nat} {v : Value} {rows : List (List α)} {zt : Value} {s1 b1 : Nat} {d : TypeDesc} {z : Value} {bytes : Nat} {z2 : Value} {b2 : Nat}
    (T : TyI P ts (.slice e) zt s1 b1) (TE : TyI P e d z size bytes) (TO : TyI P ts (.slice e) z2 1 b2) (hzs : z.cells.size = size) (hsz : 0 < size) (hby : bytes ≤ 64)
    (h : TabV (H t) et e size enc v rows) (hs : Split N w0 w H) (htj : Nat.beq t j = false) {i : Nat} (hi : i < rows.length) (x : α) (cs : Array Value) (hcs : cs.toList = enc x) (hl : (enc x).length = size) (h1 : ∀ u ∈ enc x, u.oneCell' = true) (h63 : rows[i].length + 1 ≤ 1099511627776) :
    ∃ g cap cell v' w2 H1 H2 H3, v = .slice (some ⟨g, 0, none⟩) rows.length cap ∧ w.cell? ⟨g, i, none⟩ = some cell ∧ (w.alloc (.cells cs e)).cell? ⟨g, i, none⟩ = some cell ∧
      (∀ (ρ : Operand → Value) (dst : Option Tmp) (ty : TypeId) (pos : String) (aft : Array Edge) (gg : Option (Nat × Bool)) (x y : Operand), ρ x = cell → ρ y = .slice (some ⟨w.heap.size, 0, none⟩) 1 1 →
        Does P ⟨dst, .call { callee := .builtin .append, args := #[x, y], argTypes := #[ts, ts] }, ty, pos, aft, gg⟩ ρ (w.alloc (.cells cs e)) v' w2) ∧
      (∀ (ρ : Operand → Value) (dst : Option Tmp) (ty : TypeId) (pos : String) (aft : Array Edge) (gg : Option (Nat × Bool)) (x y : Operand), ρ x = .pointer (some ⟨g, i, none⟩) → ρ y = v' →
        Does P ⟨dst, .store ts x y, ty, pos, aft, gg⟩ ρ w2 undef (w2.setCell ⟨g, i, none⟩ v')) ∧
      Same [j] H H1 ∧ Same [t, j] H H2 ∧ Same [t, j] H H3 ∧ Split N w0 (w.alloc (.cells cs e)) H1 ∧ Split N w0 w2 H2 ∧ Split N w0 (w2.setCell ⟨g, i, none⟩ v') H3 ∧ TabV (H3 t) et e size enc v (rows.set i (rows[i] ++ [x])) := by
  have hs1 := hs.alloc j (.cells cs e)
  have hT1 : TabV (updH H j (addV (H j) w.heap.size (.cells cs e)) t) et e size enc v rows := by
    have : updH H j (addV (H j) w.heap.size (.cells cs e)) t = H t := by simp [updH, htj]
    rw [this]; exact h
  obtain ⟨g, cap, cell, v', w1, V1, V2, hv, hc, hdo, hsp1, hc1, hf1, hone, hsp2, hT2⟩ := hT1.push T TE hzs hsz hs1 hi (x := x) (a := ⟨w.heap.size, 0, none⟩) (c := 1) hl (by
    intro k u hu
    rw [add_plain, Nat.zero_add]
    exact new_cell w cs e k (by rw [hcs]; exact hu)) h1 h63 hby
  obtain ⟨g0, cap0, c0, hv0, hc0, _, _⟩ := h.get hs hi
  have hgg : g0 = g := by rw [hv] at hv0; simp at hv0; exact hv0.1.symm
  subst hgg
  have hcc : c0 = cell := by
    have := heap_al (o := .cells cs e) (World.block_lt_of_cell? w _ hc0)
    have e1 : (w.alloc (.cells cs e)).cell? ⟨g0, i, none⟩ = w.cell? ⟨g0, i, none⟩ := World.cell?_of_block this
    rw [e1, hc0] at hc
    injection hc
  subst hcc
  refine ⟨g0, cap, c0, v', w1, _, _, _, hv, hc0, hc, hdo, ?_, Same.upd (by simp), ?_, ?_, hs1, hsp1, hsp2, by rw [updH_hit]; exact hT2⟩
  · intro ρ dst ty pos aft gg x y hx hy
    exact do_store TO hx hy hone hc1 hf1
  · exact (Same.upd (by simp)).trans (Same.upd (by simp))
  · exact (Same.upd (by simp)).trans (Same.upd (by simp))
end Go.Fra
