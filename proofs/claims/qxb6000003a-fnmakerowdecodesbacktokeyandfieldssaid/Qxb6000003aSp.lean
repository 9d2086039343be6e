/-
  THE ROW, PLAINLY: what makeRow writes; laws on its bytes.
-/
import Derived.Test.Qxb6000003aHq
import Derived.Test.Qxb6000003aSb
namespace Go.Proofs.Qxb6000003a
open Go.Fra Go.RowKit

/-- A length, seven bits a byte, the lowest first. -/
def uvF : Nat → Nat → List UInt8
  | 0, n => [UInt8.ofNat n]
  | f + 1, n => if n < 128 then [UInt8.ofNat n] else UInt8.ofNat (n % 128 + 128) :: uvF f (n / 128)
def uv (n : Nat) : List UInt8 := uvF n n

theorem uvF_same : ∀ (f g n : Nat), n ≤ f → n ≤ g → uvF f n = uvF g n
  | 0, 0, _, _, _ => rfl
  | 0, g + 1, n, h, _ => by
    obtain rfl : n = 0 := by omega
    rw [uvF, uvF, if_pos (by omega)]
  | f + 1, 0, n, _, h => by
    obtain rfl : n = 0 := by omega
    rw [uvF, uvF, if_pos (by omega)]
  | f + 1, g + 1, n, h1, h2 => by
    by_cases h : n < 128
    · rw [uvF, uvF, if_pos h, if_pos h]
    · rw [uvF, uvF, if_neg h, if_neg h, uvF_same f g (n / 128) (by omega) (by omega)]
theorem uv_small {n : Nat} (h : n < 128) : uv n = [UInt8.ofNat n] := by
  unfold uv
  cases n with
  | zero => rfl
  | succ n => rw [uvF, if_pos h]
theorem uv_big {n : Nat} (h : ¬ n < 128) : uv n = UInt8.ofNat (n % 128 + 128) :: uv (n / 128) := by
  unfold uv
  cases n with
  | zero => omega
  | succ n => rw [uvF, if_neg h, uvF_same n ((n + 1) / 128) ((n + 1) / 128) (by omega) (Nat.le_refl _)]
theorem uv_le (n : Nat) : (uv n).length ≤ n + 1 := by
  induction n using Nat.strongRecOn with
  | _ n ih =>
    by_cases h : n < 128
    · rw [uv_small h]; simp
    · rw [uv_big h, List.length_cons]
      have := ih (n / 128) (by omega)
      omega
theorem uv_pos (n : Nat) : 0 < (uv n).length := by
  by_cases h : n < 128
  · rw [uv_small h]; simp
  · rw [uv_big h]; simp

/-- An integer's eight bytes, the lowest first. -/
def le8 (u : Nat) : List UInt8 := (List.range 8).map fun j => UInt8.ofNat (u / 2 ^ (8 * j))
theorem le8_length (u : Nat) : (le8 u).length = 8 := by simp [le8]
theorem le8_take (u j : Nat) (h : j < 8) : (le8 u).take (j + 1) = (le8 u).take j ++ [UInt8.ofNat (u / 2 ^ (8 * j))] := by
  rw [List.take_succ_eq_append_getElem (by rw [le8_length]; exact h)]
  simp [le8]

abbrev Fld := Bool × Int × ByteArray
def kd (b : Bool) : Nat := if b then 1 else 2
def uOf (z : Int) : Nat := (z % 18446744073709551616).toNat
def enc (f : Fld) : List UInt8 := if f.1 then 1 :: le8 (uOf f.2.1) else 2 :: (uv f.2.2.size ++ f.2.2.data.toList)
def rowOf (key : ByteArray) (fs : List Fld) : List UInt8 := key.data.toList ++ fs.flatMap enc

theorem enc_le (f : Fld) (h : f.2.2.size ≤ 1048576) : (enc f).length ≤ 2097160 := by
  unfold enc
  have := uv_le f.2.2.size
  have e : f.2.2.data.toList.length = f.2.2.size := by rw [Array.length_toList]; rfl
  split
  · simp [le8_length]
  · rw [List.length_cons, List.length_append, e]; omega
theorem flat_le (fs : List Fld) (h : ∀ f ∈ fs, f.2.2.size ≤ 1048576) (i : Nat) : ((fs.take i).flatMap enc).length ≤ i * 2097160 := by
  induction i with
  | zero => simp
  | succ i ih =>
    by_cases hi : i < fs.length
    · rw [List.take_succ_eq_append_getElem hi, List.flatMap_append, List.length_append]
      have := enc_le fs[i] (h _ (List.getElem_mem _))
      simp only [List.flatMap_cons, List.flatMap_nil, List.append_nil]
      omega
    · have e1 : fs.take (i + 1) = fs := List.take_of_length_le (by omega)
      have e2 : fs.take i = fs := List.take_of_length_le (by omega)
      rw [e1]
      rw [e2] at ih
      exact Nat.le_trans ih (Nat.mul_le_mul_right _ (Nat.le_succ i))
theorem flat_step (fs : List Fld) (i : Nat) (hi : i < fs.length) : (fs.take (i + 1)).flatMap enc = (fs.take i).flatMap enc ++ enc fs[i] := by
  rw [List.take_succ_eq_append_getElem hi, List.flatMap_append]
  simp

theorem bc_append (a b : List UInt8) : Lib.byteCells (a ++ b) = Lib.byteCells a ++ Lib.byteCells b := by simp [Lib.byteCells]
theorem bc_one (n : Nat) (h : n < 256) : Lib.byteCells [UInt8.ofNat n] = [.int .u8 (n : Int)] := by
  simp [Lib.byteCells, Nat.mod_eq_of_lt h]
theorem bc_one' (n : Nat) : Lib.byteCells [UInt8.ofNat n] = [.int .u8 ((n % 256 : Nat) : Int)] := by
  simp [Lib.byteCells]

theorem builder_keep {b : Nat} {B : Nat} {bs : List Value} {w w' : World} (h : Lib.IsBuilderF 61 5 B b bs w) (hk : ∀ k, k < w.heap.size → w'.heap[k]? = w.heap[k]?) : Lib.IsBuilderF 61 5 B b bs w' := by
  have one : ∀ p, Lib.BuilderAtF 61 5 B b p bs w → Lib.BuilderAtF 61 5 B b p bs w' := by
    rintro p ⟨hB, v, hb, ⟨hl, ho⟩, hne⟩
    refine ⟨hB, v, ?_, ⟨hl, ?_⟩, hne⟩
    · rw [hk b (Array.getElem?_eq_some_iff.1 hb).1]; exact hb
    · rcases ho with ho | ⟨g, cap, cur, fz, h1, h2, h3, h4⟩
      · exact .inl ho
      · exact .inr ⟨g, cap, cur, fz, h1, h2, by rw [hk g (Array.getElem?_eq_some_iff.1 h3).1]; exact h3, h4⟩
  rcases h with h | h
  · exact .inl (one _ h)
  · exact .inr (one _ h)
theorem blk_others {b k : Nat} {cs : List Value} {w w' : World} (h : Lib.OthersKept 5 (some b) w w') (hb : Blk w k 52 cs) (hk : k ≠ b) : Blk w' k 52 cs :=
  h k _ hb (by simpa using hk) (by intro c fz e; injection e with e1 e2; cases e2)
theorem T61 : TyI Try.prog 61 ((Try.prog.underlying 61).getD .bool) (.agg #[.pointer none, .slice none 0 0]) 2 32 := ⟨by rw [Try.underlying61]; rfl, by kernel_rfl⟩
end Go.Proofs.Qxb6000003a
