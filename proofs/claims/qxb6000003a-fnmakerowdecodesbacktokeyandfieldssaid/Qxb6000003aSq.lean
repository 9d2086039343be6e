/-
  THE ROW READ BACK, PLAINLY.
-/
import Derived.Test.Qxb6000003aSp
namespace Go.Proofs.Qxb6000003a
open Go.Fra Go.RowKit

theorem ba_size (l : List UInt8) : (⟨l.toArray⟩ : ByteArray).size = l.length := by simp [ByteArray.size]
theorem ba_get (l : List UInt8) (n : Nat) : (⟨l.toArray⟩ : ByteArray)[n]? = l[n]? := by
  by_cases h : n < l.length
  · rw [getElem?_pos (h := by rw [ba_size]; exact h), List.getElem?_eq_getElem h]
    simp [ByteArray.getElem_eq_getElem_data]
  · rw [getElem?_neg (h := by rw [ba_size]; exact h), List.getElem?_eq_none (by omega)]
theorem ba_extract (l : List UInt8) (a b : Nat) : (⟨l.toArray⟩ : ByteArray).extract a b = ⟨((l.drop a).take (b - a)).toArray⟩ := by
  apply ByteArray.ext
  rw [ByteArray.data_extract]
  simp [List.extract_eq_take_drop]

theorem drop_get {R l t : List UInt8} {p x : Nat} (h : R.drop p = l ++ t) (hx : x < l.length) : R[p + x]? = some l[x] := by
  rw [← List.getElem?_drop, h, List.getElem?_append_left hx, List.getElem?_eq_getElem hx]
theorem drop_next {R l t : List UInt8} {p : Nat} (h : R.drop p = l ++ t) : R.drop (p + l.length) = t := by
  rw [← List.drop_drop, h, List.drop_left]
theorem drop_lt {R l t : List UInt8} {p : Nat} (h : R.drop p = l ++ t) (hl : 0 < l.length) : p + l.length ≤ R.length := by
  have := congrArg List.length h
  rw [List.length_drop, List.length_append] at this
  omega

def flds : List Int → List Int → List ByteArray → List Fld
  | k :: ks, z :: zs, s :: ss => (k == 1, z, s) :: flds ks zs ss
  | _, _, _ => []
theorem flds_length : ∀ (ks zs : List Int) (ss : List ByteArray), zs.length = ks.length → ss.length = ks.length → (flds ks zs ss).length = ks.length
  | [], _, _, _, _ => rfl
  | k :: ks, z :: zs, s :: ss, h1, h2 => by simp [flds, flds_length ks zs ss (by simpa using h1) (by simpa using h2)]
  | _ :: _, [], _, h, _ => by simp at h
  | _ :: _, _ :: _, [], _, h => by simp at h
theorem flds_get : ∀ (ks zs : List Int) (ss : List ByteArray) (h1 : zs.length = ks.length) (h2 : ss.length = ks.length) (i : Nat) (h : i < ks.length), (flds ks zs ss)[i]? = some (ks[i] == 1, zs[i], ss[i])
  | [], _, _, _, _, i, h => by simp at h
  | k :: ks, z :: zs, s :: ss, h1, h2, i, h => by
    cases i with
    | zero => rfl
    | succ i => simpa [flds] using flds_get ks zs ss (by simpa using h1) (by simpa using h2) i (by simpa using h)
  | _ :: _, [], _, h, _, _, _ => by simp at h
  | _ :: _, _ :: _, [], _, h, _, _ => by simp at h

theorem uv_step (S j m : Nat) (hm : m = S / 128 ^ j) : S % 128 ^ j + (m % 128) * 128 ^ j = S % 128 ^ (j + 1) := by
  rw [hm, Nat.mod_pow_succ, Nat.mul_comm (128 ^ j)]
theorem pow128 (j : Nat) : (128 : Nat) ^ j = 2 ^ (7 * j) := by rw [Nat.pow_mul]
theorem le8_get (u b : Nat) (h : b < 8) : (le8 u)[b]'(by rw [le8_length]; exact h) = UInt8.ofNat (u / 2 ^ (8 * b)) := by simp [le8]
theorem u_step (U b : Nat) : U / 2 ^ (8 * (b + 1)) * 256 + U / 2 ^ (8 * b) % 256 = U / 2 ^ (8 * b) := by
  rw [show 8 * (b + 1) = 8 * b + 8 by omega, Nat.pow_add, ← Nat.div_div_eq_div_mul]
  omega
theorem uOf_lt (z : Int) : uOf z < 2 ^ 64 := by unfold uOf; omega
end Go.Proofs.Qxb6000003a
