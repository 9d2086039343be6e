/-
  newViewProblem.
-/
import Derived.Test.Qxb6001364aV9
namespace Go.Proofs.Qxb6001364a
open Go.Fra Go.RowKit Pl
set_option maxRecDepth 100000
set_option linter.unusedVariables false
def Six38 (G : Nat → Part) (b0 b1 b2 b3 b4 b5 n k : Nat) : Prop := VB (G 2) b0 22 (madeCells #[.slice none 0 0] n).toList ∧ VB (G 3) b1 61 (madeCells #[.slice none 0 0] n).toList ∧ VB (G 4) b2 22 (madeCells #[.slice none 0 0] k).toList ∧ VB (G 5) b3 3 (madeCells #[.int .i64 0] k).toList ∧ VB (G 8) b4 22 (madeCells #[.slice none 0 0] n).toList ∧ VB (G 9) b5 4 (madeCells #[.bool false] n).toList
def I38 (w : World) (gb n k : Nat) (na ia : Option Addr) (nc ic : Nat) (L : Nat → Bool) (τ : Nat → Value) (w' : World) : Prop :=
  ∃ G, Split w.heap.size w w' G ∧ τ 0 = .pointer (some ⟨gb, 0, none⟩) ∧
    (L 0 = true → τ 27 = .pointer (some ⟨gb, 0, none⟩)) ∧
    (L 1 = true → τ 28 = .pointer (some ⟨gb, 0, none⟩)) ∧
    (L 2 = true → τ 29 = .pointer (some ⟨gb, 0, none⟩)) ∧
    (L 3 = true → τ 30 = .slice na n nc) ∧
    (L 4 = true → τ 31 = .int .i64 (n : Int)) ∧
    (L 5 = true → ∃ b, τ 32 = .slice (some ⟨b, 0, none⟩) n n ∧ VB (G 2) b 22 (madeCells #[.slice none 0 0] n).toList) ∧
    (L 6 = true → τ 33 = .pointer (some ⟨gb, 0, none⟩)) ∧
    (L 7 = true → τ 34 = .pointer (some ⟨gb, 0, none⟩)) ∧
    (L 8 = true → τ 35 = .pointer (some ⟨gb, 0, none⟩)) ∧
    (L 9 = true → τ 36 = .slice na n nc) ∧
    (L 10 = true → τ 37 = .int .i64 (n : Int)) ∧
    (L 11 = true → ∃ b, τ 38 = .slice (some ⟨b, 0, none⟩) n n ∧ VB (G 3) b 61 (madeCells #[.slice none 0 0] n).toList) ∧
    (L 12 = true → τ 39 = .pointer (some ⟨gb, 0, none⟩)) ∧
    (L 13 = true → τ 40 = .pointer (some ⟨gb, 0, none⟩)) ∧
    (L 14 = true → τ 41 = .pointer (some ⟨gb, 1, none⟩)) ∧
    (L 15 = true → τ 42 = .slice ia k ic) ∧
    (L 16 = true → τ 43 = .int .i64 (k : Int)) ∧
    (L 17 = true → ∃ b, τ 44 = .slice (some ⟨b, 0, none⟩) k k ∧ VB (G 4) b 22 (madeCells #[.slice none 0 0] k).toList) ∧
    (L 18 = true → τ 45 = .pointer (some ⟨gb, 0, none⟩)) ∧
    (L 19 = true → τ 46 = .pointer (some ⟨gb, 0, none⟩)) ∧
    (L 20 = true → τ 47 = .pointer (some ⟨gb, 1, none⟩)) ∧
    (L 21 = true → τ 48 = .slice ia k ic) ∧
    (L 22 = true → τ 49 = .int .i64 (k : Int)) ∧
    (L 23 = true → ∃ b, τ 50 = .slice (some ⟨b, 0, none⟩) k k ∧ VB (G 5) b 3 (madeCells #[.int .i64 0] k).toList) ∧
    (L 24 = true → τ 51 = .pointer (some ⟨gb, 0, none⟩)) ∧
    (L 25 = true → τ 52 = .pointer (some ⟨gb, 0, none⟩)) ∧
    (L 26 = true → τ 53 = .pointer (some ⟨gb, 0, none⟩)) ∧
    (L 27 = true → τ 54 = .slice na n nc) ∧
    (L 28 = true → τ 55 = .int .i64 (n : Int)) ∧
    (L 29 = true → ∃ b, τ 56 = .slice (some ⟨b, 0, none⟩) n n ∧ VB (G 8) b 22 (madeCells #[.slice none 0 0] n).toList) ∧
    (L 30 = true → τ 57 = .pointer (some ⟨gb, 0, none⟩)) ∧
    (L 31 = true → τ 58 = .pointer (some ⟨gb, 0, none⟩)) ∧
    (L 32 = true → τ 59 = .pointer (some ⟨gb, 0, none⟩)) ∧
    (L 33 = true → τ 60 = .slice na n nc) ∧
    (L 34 = true → τ 61 = .int .i64 (n : Int)) ∧
    (L 35 = true → ∃ b, τ 62 = .slice (some ⟨b, 0, none⟩) n n ∧ VB (G 9) b 4 (madeCells #[.bool false] n).toList) ∧
    (L 36 = true → (L 5 = true ∧ L 11 = true ∧ L 17 = true ∧ L 23 = true ∧ L 29 = true ∧ L 35 = true) ∧ ∃ b0 b1 b2 b3 b4 b5, τ 63 = .agg #[.slice (some ⟨b0, 0, none⟩) n n, .slice (some ⟨b1, 0, none⟩) n n, .slice (some ⟨b2, 0, none⟩) k k, .slice (some ⟨b3, 0, none⟩) k k, .slice none 0 0, .slice none 0 0, .slice (some ⟨b4, 0, none⟩) n n, .slice (some ⟨b5, 0, none⟩) n n] ∧ Six38 G b0 b1 b2 b3 b4 b5 n k) ∧
    (L 37 = true → L 36 = true ∧ ∃ pb b0 b1 b2 b3 b4 b5, τ 64 = .pointer (some ⟨pb, 0, none⟩) ∧ VB (G 1) pb 58 [.slice (some ⟨b0, 0, none⟩) n n, .slice (some ⟨b1, 0, none⟩) n n, .slice (some ⟨b2, 0, none⟩) k k, .slice (some ⟨b3, 0, none⟩) k k, .slice none 0 0, .slice none 0 0, .slice (some ⟨b4, 0, none⟩) n n, .slice (some ⟨b5, 0, none⟩) n n] ∧ Six38 G b0 b1 b2 b3 b4 b5 n k) ∧
    (L 38 = true → L 37 = true ∧ ∃ pb b0 b1 b2 b3 b4 b5, τ 4 = .pointer (some ⟨pb, 0, none⟩) ∧ VB (G 1) pb 58 [.slice (some ⟨b0, 0, none⟩) n n, .slice (some ⟨b1, 0, none⟩) n n, .slice (some ⟨b2, 0, none⟩) k k, .slice (some ⟨b3, 0, none⟩) k k, .slice none 0 0, .slice none 0 0, .slice (some ⟨b4, 0, none⟩) n n, .slice (some ⟨b5, 0, none⟩) n n] ∧ Six38 G b0 b1 b2 b3 b4 b5 n k)
theorem Six38.same {G G' : Nat → Part} {b0 b1 b2 b3 b4 b5 n k : Nat} (h : Six38 G b0 b1 b2 b3 b4 b5 n k) (e : Same [1] G G') : Six38 G' b0 b1 b2 b3 b4 b5 n k :=
  ⟨e.vb (by decide) h.1, e.vb (by decide) h.2.1, e.vb (by decide) h.2.2.1, e.vb (by decide) h.2.2.2.1, e.vb (by decide) h.2.2.2.2.1, e.vb (by decide) h.2.2.2.2.2⟩
set_option maxHeartbeats 20000000 in
theorem new38 (w : World) (gb n k mb : Nat) (na ia : Option Addr) (nc ic : Nat) (nm : Nat → ByteArray) (A : Nat → List (Nat × Bool)) (av : Nat → Value) (lA : List (ByteArray × Value)) (rk : Nat → Nat)
    (hg0 : w.cell? ⟨gb, 0, none⟩ = some (.slice na n nc)) (hg1 : w.cell? ⟨gb, 1, none⟩ = some (.slice ia k ic)) (hg2 : w.cell? ⟨gb, 2, none⟩ = some (.map (some mb)))
    (hit0 : ∀ x, x < k → ∃ b o, ia = some ⟨b, o, none⟩ ∧ w.cell? ⟨b, o + x, none⟩ = some (.string (nm x)))
    (hmap : ∃ es clock, w.heap[mb]? = some (.map es clock) ∧ es.toList.map (fun e => (e.key, e.val)) = lA.map (fun p => (sk p.1, p.2)))
    (hav : ∀ x, x < k → getL (fun a b => decide (a = b)) (nm x) lA = some (av x) ∧ AccR w (av x) (A x))
    (hL : ∀ y, y < k → Pl.Loc (loc (A y)) rk n) (hinj : ∀ u v, u < n → v < n → rk u = rk v → u = v) (hn : n ≤ 65536) (hk : k ≤ 65536) (ht : tot A k ≤ 65536) :
    Calls Try.prog 38 #[.pointer (some ⟨gb, 0, none⟩)] w fun e w' => ∃ pb, e = .returned (.tuple #[.pointer (some ⟨pb, 0, none⟩), .bool true]) ∧ ∃ (G : Nat → Part) (src : List (Nat × Int)) (reads : List (List Int)) (writes : List (List (Int × Int))) (writers : List (List Int)) (initial : List Int) (readers : List (List Int)) (next : List Int) (succ : List (List Int)) (pin : List Bool) (rv wv wsv rdv nv sv : Value) (ib nb : Nat),
      Split w.heap.size w w' G ∧ HpP G pb n k reads writes writers initial readers next succ pin rv wv wsv rdv nv sv ib nb ∧ Tbl n k A rk k src reads writes writers initial readers next succ ∧ sumLen reads ≤ 65536 ∧ sumLen writes ≤ 65536 ∧ sumLen readers ≤ 65536 ∧ readers.length ≤ 65536 ∧ sumLen succ ≤ 10000000000 := by
  refine enter (args := [.pointer (some ⟨gb, 0, none⟩)]) Try.func38 rfl Try.ntmps38 rfl ?_
  generalize hQ : bodyPost Try.prog Try.f38 _ = Q
  have s0 : frame0 [Value.pointer (some ⟨gb, 0, none⟩)] 0 = .pointer (some ⟨gb, 0, none⟩) := rfl
  generalize frame0 [Value.pointer (some ⟨gb, 0, none⟩)] = σ at *
  have hlt : gb < w.heap.size := World.block_lt_of_cell? w _ hg0
  refine wp_seq_k (fun K1 hK1 => ?_)
  refine reg ?_
  refine sq rfl (do_assign ck) ?_
  refine sq rfl (do_assign ck) ?_
  refine wnil ?_
  refine hK1 _ _ ?_
  clear hK1
  refine wp_seq_k (fun KA hKA => ?_)
  refine drawI mixed (I38 w gb n k na ia nc ic) (by kernel_rfl) ?_ ?_ ?_
  · refine ⟨_, (Split.start w).drew, nx rfl (nx rfl s0), ?_⟩
    refine ⟨?_, ?_, ?_, ?_, ?_, ?_, ?_, ?_, ?_, ?_, ?_, ?_, ?_, ?_, ?_, ?_, ?_, ?_, ?_, ?_, ?_, ?_, ?_, ?_, ?_, ?_, ?_, ?_, ?_, ?_, ?_, ?_, ?_, ?_, ?_, ?_, ?_, ?_, ?_⟩ <;> exact fun h => by cases h
  · intro i L τ w' o d ho hd hi0 hI he
    obtain ⟨G, hsG, s0, p0, p1, p2, p3, p4, p5, p6, p7, p8, p9, p10, p11, p12, p13, p14, p15, p16, p17, p18, p19, p20, p21, p22, p23, p24, p25, p26, p27, p28, p29, p30, p31, p32, p33, p34, p35, p36, p37, p38⟩ := hI
    match i, ho, hi0, he with
    | 0, ho, hi0, he =>
      cases ho; cases hd
      exact ⟨_, _, do_move (tm rfl s0), G, hsG, nx rfl s0, (fun _ => hit), (fun h => nx rfl (p1 h)), (fun h => nx rfl (p2 h)), (fun h => nx rfl (p3 h)), (fun h => nx rfl (p4 h)), (fun h => (p5 h).elim fun b x => ⟨b, nx rfl x.1, x.2⟩), (fun h => nx rfl (p6 h)), (fun h => nx rfl (p7 h)), (fun h => nx rfl (p8 h)), (fun h => nx rfl (p9 h)), (fun h => nx rfl (p10 h)), (fun h => (p11 h).elim fun b x => ⟨b, nx rfl x.1, x.2⟩), (fun h => nx rfl (p12 h)), (fun h => nx rfl (p13 h)), (fun h => nx rfl (p14 h)), (fun h => nx rfl (p15 h)), (fun h => nx rfl (p16 h)), (fun h => (p17 h).elim fun b x => ⟨b, nx rfl x.1, x.2⟩), (fun h => nx rfl (p18 h)), (fun h => nx rfl (p19 h)), (fun h => nx rfl (p20 h)), (fun h => nx rfl (p21 h)), (fun h => nx rfl (p22 h)), (fun h => (p23 h).elim fun b x => ⟨b, nx rfl x.1, x.2⟩), (fun h => nx rfl (p24 h)), (fun h => nx rfl (p25 h)), (fun h => nx rfl (p26 h)), (fun h => nx rfl (p27 h)), (fun h => nx rfl (p28 h)), (fun h => (p29 h).elim fun b x => ⟨b, nx rfl x.1, x.2⟩), (fun h => nx rfl (p30 h)), (fun h => nx rfl (p31 h)), (fun h => nx rfl (p32 h)), (fun h => nx rfl (p33 h)), (fun h => nx rfl (p34 h)), (fun h => (p35 h).elim fun b x => ⟨b, nx rfl x.1, x.2⟩), (fun h => ⟨(p36 h).1, match (p36 h).2 with | ⟨b0, b1, b2, b3, b4, b5, x, s⟩ => ⟨b0, b1, b2, b3, b4, b5, nx rfl x, s⟩⟩), (fun h => ⟨(p37 h).1, match (p37 h).2 with | ⟨pb, b0, b1, b2, b3, b4, b5, x, v, s⟩ => ⟨pb, b0, b1, b2, b3, b4, b5, nx rfl x, v, s⟩⟩), (fun h => ⟨(p38 h).1, match (p38 h).2 with | ⟨pb, b0, b1, b2, b3, b4, b5, x, v, s⟩ => ⟨pb, b0, b1, b2, b3, b4, b5, nx rfl x, v, s⟩⟩)⟩
    | 1, ho, hi0, he =>
      cases ho; cases hd
      exact ⟨_, _, do_nilCheck (tm rfl (p0 (he ⟨0, .data⟩ (by simp) rfl))), G, hsG, nx rfl s0, (fun h => nx rfl (p0 h)), (fun _ => hit), (fun h => nx rfl (p2 h)), (fun h => nx rfl (p3 h)), (fun h => nx rfl (p4 h)), (fun h => (p5 h).elim fun b x => ⟨b, nx rfl x.1, x.2⟩), (fun h => nx rfl (p6 h)), (fun h => nx rfl (p7 h)), (fun h => nx rfl (p8 h)), (fun h => nx rfl (p9 h)), (fun h => nx rfl (p10 h)), (fun h => (p11 h).elim fun b x => ⟨b, nx rfl x.1, x.2⟩), (fun h => nx rfl (p12 h)), (fun h => nx rfl (p13 h)), (fun h => nx rfl (p14 h)), (fun h => nx rfl (p15 h)), (fun h => nx rfl (p16 h)), (fun h => (p17 h).elim fun b x => ⟨b, nx rfl x.1, x.2⟩), (fun h => nx rfl (p18 h)), (fun h => nx rfl (p19 h)), (fun h => nx rfl (p20 h)), (fun h => nx rfl (p21 h)), (fun h => nx rfl (p22 h)), (fun h => (p23 h).elim fun b x => ⟨b, nx rfl x.1, x.2⟩), (fun h => nx rfl (p24 h)), (fun h => nx rfl (p25 h)), (fun h => nx rfl (p26 h)), (fun h => nx rfl (p27 h)), (fun h => nx rfl (p28 h)), (fun h => (p29 h).elim fun b x => ⟨b, nx rfl x.1, x.2⟩), (fun h => nx rfl (p30 h)), (fun h => nx rfl (p31 h)), (fun h => nx rfl (p32 h)), (fun h => nx rfl (p33 h)), (fun h => nx rfl (p34 h)), (fun h => (p35 h).elim fun b x => ⟨b, nx rfl x.1, x.2⟩), (fun h => ⟨(p36 h).1, match (p36 h).2 with | ⟨b0, b1, b2, b3, b4, b5, x, s⟩ => ⟨b0, b1, b2, b3, b4, b5, nx rfl x, s⟩⟩), (fun h => ⟨(p37 h).1, match (p37 h).2 with | ⟨pb, b0, b1, b2, b3, b4, b5, x, v, s⟩ => ⟨pb, b0, b1, b2, b3, b4, b5, nx rfl x, v, s⟩⟩), (fun h => ⟨(p38 h).1, match (p38 h).2 with | ⟨pb, b0, b1, b2, b3, b4, b5, x, v, s⟩ => ⟨pb, b0, b1, b2, b3, b4, b5, nx rfl x, v, s⟩⟩)⟩
    | 2, ho, hi0, he =>
      cases ho; cases hd
      exact ⟨_, _, fa79_0 (tm rfl (p1 (he ⟨1, .data⟩ (by simp) rfl))), G, hsG, nx rfl s0, (fun h => nx rfl (p0 h)), (fun h => nx rfl (p1 h)), (fun _ => hit), (fun h => nx rfl (p3 h)), (fun h => nx rfl (p4 h)), (fun h => (p5 h).elim fun b x => ⟨b, nx rfl x.1, x.2⟩), (fun h => nx rfl (p6 h)), (fun h => nx rfl (p7 h)), (fun h => nx rfl (p8 h)), (fun h => nx rfl (p9 h)), (fun h => nx rfl (p10 h)), (fun h => (p11 h).elim fun b x => ⟨b, nx rfl x.1, x.2⟩), (fun h => nx rfl (p12 h)), (fun h => nx rfl (p13 h)), (fun h => nx rfl (p14 h)), (fun h => nx rfl (p15 h)), (fun h => nx rfl (p16 h)), (fun h => (p17 h).elim fun b x => ⟨b, nx rfl x.1, x.2⟩), (fun h => nx rfl (p18 h)), (fun h => nx rfl (p19 h)), (fun h => nx rfl (p20 h)), (fun h => nx rfl (p21 h)), (fun h => nx rfl (p22 h)), (fun h => (p23 h).elim fun b x => ⟨b, nx rfl x.1, x.2⟩), (fun h => nx rfl (p24 h)), (fun h => nx rfl (p25 h)), (fun h => nx rfl (p26 h)), (fun h => nx rfl (p27 h)), (fun h => nx rfl (p28 h)), (fun h => (p29 h).elim fun b x => ⟨b, nx rfl x.1, x.2⟩), (fun h => nx rfl (p30 h)), (fun h => nx rfl (p31 h)), (fun h => nx rfl (p32 h)), (fun h => nx rfl (p33 h)), (fun h => nx rfl (p34 h)), (fun h => (p35 h).elim fun b x => ⟨b, nx rfl x.1, x.2⟩), (fun h => ⟨(p36 h).1, match (p36 h).2 with | ⟨b0, b1, b2, b3, b4, b5, x, s⟩ => ⟨b0, b1, b2, b3, b4, b5, nx rfl x, s⟩⟩), (fun h => ⟨(p37 h).1, match (p37 h).2 with | ⟨pb, b0, b1, b2, b3, b4, b5, x, v, s⟩ => ⟨pb, b0, b1, b2, b3, b4, b5, nx rfl x, v, s⟩⟩), (fun h => ⟨(p38 h).1, match (p38 h).2 with | ⟨pb, b0, b1, b2, b3, b4, b5, x, v, s⟩ => ⟨pb, b0, b1, b2, b3, b4, b5, nx rfl x, v, s⟩⟩)⟩
    | 3, ho, hi0, he =>
      cases ho; cases hd
      exact ⟨_, _, do_load T52 rfl (tm rfl (p2 (he ⟨2, .data⟩ (by simp) rfl))) (show w'.cell? ⟨gb, 0, none⟩ = _ by rw [hsG.below.cell hlt]; exact hg0), G, hsG, nx rfl s0, (fun h => nx rfl (p0 h)), (fun h => nx rfl (p1 h)), (fun h => nx rfl (p2 h)), (fun _ => hit), (fun h => nx rfl (p4 h)), (fun h => (p5 h).elim fun b x => ⟨b, nx rfl x.1, x.2⟩), (fun h => nx rfl (p6 h)), (fun h => nx rfl (p7 h)), (fun h => nx rfl (p8 h)), (fun h => nx rfl (p9 h)), (fun h => nx rfl (p10 h)), (fun h => (p11 h).elim fun b x => ⟨b, nx rfl x.1, x.2⟩), (fun h => nx rfl (p12 h)), (fun h => nx rfl (p13 h)), (fun h => nx rfl (p14 h)), (fun h => nx rfl (p15 h)), (fun h => nx rfl (p16 h)), (fun h => (p17 h).elim fun b x => ⟨b, nx rfl x.1, x.2⟩), (fun h => nx rfl (p18 h)), (fun h => nx rfl (p19 h)), (fun h => nx rfl (p20 h)), (fun h => nx rfl (p21 h)), (fun h => nx rfl (p22 h)), (fun h => (p23 h).elim fun b x => ⟨b, nx rfl x.1, x.2⟩), (fun h => nx rfl (p24 h)), (fun h => nx rfl (p25 h)), (fun h => nx rfl (p26 h)), (fun h => nx rfl (p27 h)), (fun h => nx rfl (p28 h)), (fun h => (p29 h).elim fun b x => ⟨b, nx rfl x.1, x.2⟩), (fun h => nx rfl (p30 h)), (fun h => nx rfl (p31 h)), (fun h => nx rfl (p32 h)), (fun h => nx rfl (p33 h)), (fun h => nx rfl (p34 h)), (fun h => (p35 h).elim fun b x => ⟨b, nx rfl x.1, x.2⟩), (fun h => ⟨(p36 h).1, match (p36 h).2 with | ⟨b0, b1, b2, b3, b4, b5, x, s⟩ => ⟨b0, b1, b2, b3, b4, b5, nx rfl x, s⟩⟩), (fun h => ⟨(p37 h).1, match (p37 h).2 with | ⟨pb, b0, b1, b2, b3, b4, b5, x, v, s⟩ => ⟨pb, b0, b1, b2, b3, b4, b5, nx rfl x, v, s⟩⟩), (fun h => ⟨(p38 h).1, match (p38 h).2 with | ⟨pb, b0, b1, b2, b3, b4, b5, x, v, s⟩ => ⟨pb, b0, b1, b2, b3, b4, b5, nx rfl x, v, s⟩⟩)⟩
    | 4, ho, hi0, he =>
      cases ho; cases hd
      exact ⟨_, _, do_len Try.underlying52 (tm rfl (p3 (he ⟨3, .data⟩ (by simp) rfl))), G, hsG, nx rfl s0, (fun h => nx rfl (p0 h)), (fun h => nx rfl (p1 h)), (fun h => nx rfl (p2 h)), (fun h => nx rfl (p3 h)), (fun _ => hit), (fun h => (p5 h).elim fun b x => ⟨b, nx rfl x.1, x.2⟩), (fun h => nx rfl (p6 h)), (fun h => nx rfl (p7 h)), (fun h => nx rfl (p8 h)), (fun h => nx rfl (p9 h)), (fun h => nx rfl (p10 h)), (fun h => (p11 h).elim fun b x => ⟨b, nx rfl x.1, x.2⟩), (fun h => nx rfl (p12 h)), (fun h => nx rfl (p13 h)), (fun h => nx rfl (p14 h)), (fun h => nx rfl (p15 h)), (fun h => nx rfl (p16 h)), (fun h => (p17 h).elim fun b x => ⟨b, nx rfl x.1, x.2⟩), (fun h => nx rfl (p18 h)), (fun h => nx rfl (p19 h)), (fun h => nx rfl (p20 h)), (fun h => nx rfl (p21 h)), (fun h => nx rfl (p22 h)), (fun h => (p23 h).elim fun b x => ⟨b, nx rfl x.1, x.2⟩), (fun h => nx rfl (p24 h)), (fun h => nx rfl (p25 h)), (fun h => nx rfl (p26 h)), (fun h => nx rfl (p27 h)), (fun h => nx rfl (p28 h)), (fun h => (p29 h).elim fun b x => ⟨b, nx rfl x.1, x.2⟩), (fun h => nx rfl (p30 h)), (fun h => nx rfl (p31 h)), (fun h => nx rfl (p32 h)), (fun h => nx rfl (p33 h)), (fun h => nx rfl (p34 h)), (fun h => (p35 h).elim fun b x => ⟨b, nx rfl x.1, x.2⟩), (fun h => ⟨(p36 h).1, match (p36 h).2 with | ⟨b0, b1, b2, b3, b4, b5, x, s⟩ => ⟨b0, b1, b2, b3, b4, b5, nx rfl x, s⟩⟩), (fun h => ⟨(p37 h).1, match (p37 h).2 with | ⟨pb, b0, b1, b2, b3, b4, b5, x, v, s⟩ => ⟨pb, b0, b1, b2, b3, b4, b5, nx rfl x, v, s⟩⟩), (fun h => ⟨(p38 h).1, match (p38 h).2 with | ⟨pb, b0, b1, b2, b3, b4, b5, x, v, s⟩ => ⟨pb, b0, b1, b2, b3, b4, b5, nx rfl x, v, s⟩⟩)⟩
    | 5, ho, hi0, he =>
      cases ho; cases hd
      obtain ⟨G', kG, hsG', hb⟩ := blkN hsG 2 22 (madeCells #[.slice none 0 0] n)
      exact ⟨_, _, mk37 (tm rfl (p4 (he ⟨4, .data⟩ (by simp) rfl))) (tm rfl (p4 (he ⟨4, .data⟩ (by simp) rfl))) (by omega), G', hsG', nx rfl s0, (fun h => nx rfl (p0 h)), (fun h => nx rfl (p1 h)), (fun h => nx rfl (p2 h)), (fun h => nx rfl (p3 h)), (fun h => nx rfl (p4 h)), (fun _ => ⟨_, hit, hb⟩), (fun h => nx rfl (p6 h)), (fun h => nx rfl (p7 h)), (fun h => nx rfl (p8 h)), (fun h => nx rfl (p9 h)), (fun h => nx rfl (p10 h)), (fun h => (p11 h).elim fun b x => ⟨b, nx rfl x.1, kG.vb (by decide) x.2⟩), (fun h => nx rfl (p12 h)), (fun h => nx rfl (p13 h)), (fun h => nx rfl (p14 h)), (fun h => nx rfl (p15 h)), (fun h => nx rfl (p16 h)), (fun h => (p17 h).elim fun b x => ⟨b, nx rfl x.1, kG.vb (by decide) x.2⟩), (fun h => nx rfl (p18 h)), (fun h => nx rfl (p19 h)), (fun h => nx rfl (p20 h)), (fun h => nx rfl (p21 h)), (fun h => nx rfl (p22 h)), (fun h => (p23 h).elim fun b x => ⟨b, nx rfl x.1, kG.vb (by decide) x.2⟩), (fun h => nx rfl (p24 h)), (fun h => nx rfl (p25 h)), (fun h => nx rfl (p26 h)), (fun h => nx rfl (p27 h)), (fun h => nx rfl (p28 h)), (fun h => (p29 h).elim fun b x => ⟨b, nx rfl x.1, kG.vb (by decide) x.2⟩), (fun h => nx rfl (p30 h)), (fun h => nx rfl (p31 h)), (fun h => nx rfl (p32 h)), (fun h => nx rfl (p33 h)), (fun h => nx rfl (p34 h)), (fun h => (p35 h).elim fun b x => ⟨b, nx rfl x.1, kG.vb (by decide) x.2⟩), (fun h => absurd ((p36 h).1.1) (by rw [hi0]; decide)), (fun h => absurd ((p36 (p37 h).1).1.1) (by rw [hi0]; decide)), (fun h => absurd ((p36 (p37 (p38 h).1).1).1.1) (by rw [hi0]; decide))⟩
    | 6, ho, hi0, he =>
      cases ho; cases hd
      exact ⟨_, _, do_move (tm rfl s0), G, hsG, nx rfl s0, (fun h => nx rfl (p0 h)), (fun h => nx rfl (p1 h)), (fun h => nx rfl (p2 h)), (fun h => nx rfl (p3 h)), (fun h => nx rfl (p4 h)), (fun h => (p5 h).elim fun b x => ⟨b, nx rfl x.1, x.2⟩), (fun _ => hit), (fun h => nx rfl (p7 h)), (fun h => nx rfl (p8 h)), (fun h => nx rfl (p9 h)), (fun h => nx rfl (p10 h)), (fun h => (p11 h).elim fun b x => ⟨b, nx rfl x.1, x.2⟩), (fun h => nx rfl (p12 h)), (fun h => nx rfl (p13 h)), (fun h => nx rfl (p14 h)), (fun h => nx rfl (p15 h)), (fun h => nx rfl (p16 h)), (fun h => (p17 h).elim fun b x => ⟨b, nx rfl x.1, x.2⟩), (fun h => nx rfl (p18 h)), (fun h => nx rfl (p19 h)), (fun h => nx rfl (p20 h)), (fun h => nx rfl (p21 h)), (fun h => nx rfl (p22 h)), (fun h => (p23 h).elim fun b x => ⟨b, nx rfl x.1, x.2⟩), (fun h => nx rfl (p24 h)), (fun h => nx rfl (p25 h)), (fun h => nx rfl (p26 h)), (fun h => nx rfl (p27 h)), (fun h => nx rfl (p28 h)), (fun h => (p29 h).elim fun b x => ⟨b, nx rfl x.1, x.2⟩), (fun h => nx rfl (p30 h)), (fun h => nx rfl (p31 h)), (fun h => nx rfl (p32 h)), (fun h => nx rfl (p33 h)), (fun h => nx rfl (p34 h)), (fun h => (p35 h).elim fun b x => ⟨b, nx rfl x.1, x.2⟩), (fun h => ⟨(p36 h).1, match (p36 h).2 with | ⟨b0, b1, b2, b3, b4, b5, x, s⟩ => ⟨b0, b1, b2, b3, b4, b5, nx rfl x, s⟩⟩), (fun h => ⟨(p37 h).1, match (p37 h).2 with | ⟨pb, b0, b1, b2, b3, b4, b5, x, v, s⟩ => ⟨pb, b0, b1, b2, b3, b4, b5, nx rfl x, v, s⟩⟩), (fun h => ⟨(p38 h).1, match (p38 h).2 with | ⟨pb, b0, b1, b2, b3, b4, b5, x, v, s⟩ => ⟨pb, b0, b1, b2, b3, b4, b5, nx rfl x, v, s⟩⟩)⟩
    | 7, ho, hi0, he =>
      cases ho; cases hd
      exact ⟨_, _, do_nilCheck (tm rfl (p6 (he ⟨6, .data⟩ (by simp) rfl))), G, hsG, nx rfl s0, (fun h => nx rfl (p0 h)), (fun h => nx rfl (p1 h)), (fun h => nx rfl (p2 h)), (fun h => nx rfl (p3 h)), (fun h => nx rfl (p4 h)), (fun h => (p5 h).elim fun b x => ⟨b, nx rfl x.1, x.2⟩), (fun h => nx rfl (p6 h)), (fun _ => hit), (fun h => nx rfl (p8 h)), (fun h => nx rfl (p9 h)), (fun h => nx rfl (p10 h)), (fun h => (p11 h).elim fun b x => ⟨b, nx rfl x.1, x.2⟩), (fun h => nx rfl (p12 h)), (fun h => nx rfl (p13 h)), (fun h => nx rfl (p14 h)), (fun h => nx rfl (p15 h)), (fun h => nx rfl (p16 h)), (fun h => (p17 h).elim fun b x => ⟨b, nx rfl x.1, x.2⟩), (fun h => nx rfl (p18 h)), (fun h => nx rfl (p19 h)), (fun h => nx rfl (p20 h)), (fun h => nx rfl (p21 h)), (fun h => nx rfl (p22 h)), (fun h => (p23 h).elim fun b x => ⟨b, nx rfl x.1, x.2⟩), (fun h => nx rfl (p24 h)), (fun h => nx rfl (p25 h)), (fun h => nx rfl (p26 h)), (fun h => nx rfl (p27 h)), (fun h => nx rfl (p28 h)), (fun h => (p29 h).elim fun b x => ⟨b, nx rfl x.1, x.2⟩), (fun h => nx rfl (p30 h)), (fun h => nx rfl (p31 h)), (fun h => nx rfl (p32 h)), (fun h => nx rfl (p33 h)), (fun h => nx rfl (p34 h)), (fun h => (p35 h).elim fun b x => ⟨b, nx rfl x.1, x.2⟩), (fun h => ⟨(p36 h).1, match (p36 h).2 with | ⟨b0, b1, b2, b3, b4, b5, x, s⟩ => ⟨b0, b1, b2, b3, b4, b5, nx rfl x, s⟩⟩), (fun h => ⟨(p37 h).1, match (p37 h).2 with | ⟨pb, b0, b1, b2, b3, b4, b5, x, v, s⟩ => ⟨pb, b0, b1, b2, b3, b4, b5, nx rfl x, v, s⟩⟩), (fun h => ⟨(p38 h).1, match (p38 h).2 with | ⟨pb, b0, b1, b2, b3, b4, b5, x, v, s⟩ => ⟨pb, b0, b1, b2, b3, b4, b5, nx rfl x, v, s⟩⟩)⟩
    | 8, ho, hi0, he =>
      cases ho; cases hd
      exact ⟨_, _, fa79_0 (tm rfl (p7 (he ⟨7, .data⟩ (by simp) rfl))), G, hsG, nx rfl s0, (fun h => nx rfl (p0 h)), (fun h => nx rfl (p1 h)), (fun h => nx rfl (p2 h)), (fun h => nx rfl (p3 h)), (fun h => nx rfl (p4 h)), (fun h => (p5 h).elim fun b x => ⟨b, nx rfl x.1, x.2⟩), (fun h => nx rfl (p6 h)), (fun h => nx rfl (p7 h)), (fun _ => hit), (fun h => nx rfl (p9 h)), (fun h => nx rfl (p10 h)), (fun h => (p11 h).elim fun b x => ⟨b, nx rfl x.1, x.2⟩), (fun h => nx rfl (p12 h)), (fun h => nx rfl (p13 h)), (fun h => nx rfl (p14 h)), (fun h => nx rfl (p15 h)), (fun h => nx rfl (p16 h)), (fun h => (p17 h).elim fun b x => ⟨b, nx rfl x.1, x.2⟩), (fun h => nx rfl (p18 h)), (fun h => nx rfl (p19 h)), (fun h => nx rfl (p20 h)), (fun h => nx rfl (p21 h)), (fun h => nx rfl (p22 h)), (fun h => (p23 h).elim fun b x => ⟨b, nx rfl x.1, x.2⟩), (fun h => nx rfl (p24 h)), (fun h => nx rfl (p25 h)), (fun h => nx rfl (p26 h)), (fun h => nx rfl (p27 h)), (fun h => nx rfl (p28 h)), (fun h => (p29 h).elim fun b x => ⟨b, nx rfl x.1, x.2⟩), (fun h => nx rfl (p30 h)), (fun h => nx rfl (p31 h)), (fun h => nx rfl (p32 h)), (fun h => nx rfl (p33 h)), (fun h => nx rfl (p34 h)), (fun h => (p35 h).elim fun b x => ⟨b, nx rfl x.1, x.2⟩), (fun h => ⟨(p36 h).1, match (p36 h).2 with | ⟨b0, b1, b2, b3, b4, b5, x, s⟩ => ⟨b0, b1, b2, b3, b4, b5, nx rfl x, s⟩⟩), (fun h => ⟨(p37 h).1, match (p37 h).2 with | ⟨pb, b0, b1, b2, b3, b4, b5, x, v, s⟩ => ⟨pb, b0, b1, b2, b3, b4, b5, nx rfl x, v, s⟩⟩), (fun h => ⟨(p38 h).1, match (p38 h).2 with | ⟨pb, b0, b1, b2, b3, b4, b5, x, v, s⟩ => ⟨pb, b0, b1, b2, b3, b4, b5, nx rfl x, v, s⟩⟩)⟩
    | 9, ho, hi0, he =>
      cases ho; cases hd
      exact ⟨_, _, do_load T52 rfl (tm rfl (p8 (he ⟨8, .data⟩ (by simp) rfl))) (show w'.cell? ⟨gb, 0, none⟩ = _ by rw [hsG.below.cell hlt]; exact hg0), G, hsG, nx rfl s0, (fun h => nx rfl (p0 h)), (fun h => nx rfl (p1 h)), (fun h => nx rfl (p2 h)), (fun h => nx rfl (p3 h)), (fun h => nx rfl (p4 h)), (fun h => (p5 h).elim fun b x => ⟨b, nx rfl x.1, x.2⟩), (fun h => nx rfl (p6 h)), (fun h => nx rfl (p7 h)), (fun h => nx rfl (p8 h)), (fun _ => hit), (fun h => nx rfl (p10 h)), (fun h => (p11 h).elim fun b x => ⟨b, nx rfl x.1, x.2⟩), (fun h => nx rfl (p12 h)), (fun h => nx rfl (p13 h)), (fun h => nx rfl (p14 h)), (fun h => nx rfl (p15 h)), (fun h => nx rfl (p16 h)), (fun h => (p17 h).elim fun b x => ⟨b, nx rfl x.1, x.2⟩), (fun h => nx rfl (p18 h)), (fun h => nx rfl (p19 h)), (fun h => nx rfl (p20 h)), (fun h => nx rfl (p21 h)), (fun h => nx rfl (p22 h)), (fun h => (p23 h).elim fun b x => ⟨b, nx rfl x.1, x.2⟩), (fun h => nx rfl (p24 h)), (fun h => nx rfl (p25 h)), (fun h => nx rfl (p26 h)), (fun h => nx rfl (p27 h)), (fun h => nx rfl (p28 h)), (fun h => (p29 h).elim fun b x => ⟨b, nx rfl x.1, x.2⟩), (fun h => nx rfl (p30 h)), (fun h => nx rfl (p31 h)), (fun h => nx rfl (p32 h)), (fun h => nx rfl (p33 h)), (fun h => nx rfl (p34 h)), (fun h => (p35 h).elim fun b x => ⟨b, nx rfl x.1, x.2⟩), (fun h => ⟨(p36 h).1, match (p36 h).2 with | ⟨b0, b1, b2, b3, b4, b5, x, s⟩ => ⟨b0, b1, b2, b3, b4, b5, nx rfl x, s⟩⟩), (fun h => ⟨(p37 h).1, match (p37 h).2 with | ⟨pb, b0, b1, b2, b3, b4, b5, x, v, s⟩ => ⟨pb, b0, b1, b2, b3, b4, b5, nx rfl x, v, s⟩⟩), (fun h => ⟨(p38 h).1, match (p38 h).2 with | ⟨pb, b0, b1, b2, b3, b4, b5, x, v, s⟩ => ⟨pb, b0, b1, b2, b3, b4, b5, nx rfl x, v, s⟩⟩)⟩
    | 10, ho, hi0, he =>
      cases ho; cases hd
      exact ⟨_, _, do_len Try.underlying52 (tm rfl (p9 (he ⟨9, .data⟩ (by simp) rfl))), G, hsG, nx rfl s0, (fun h => nx rfl (p0 h)), (fun h => nx rfl (p1 h)), (fun h => nx rfl (p2 h)), (fun h => nx rfl (p3 h)), (fun h => nx rfl (p4 h)), (fun h => (p5 h).elim fun b x => ⟨b, nx rfl x.1, x.2⟩), (fun h => nx rfl (p6 h)), (fun h => nx rfl (p7 h)), (fun h => nx rfl (p8 h)), (fun h => nx rfl (p9 h)), (fun _ => hit), (fun h => (p11 h).elim fun b x => ⟨b, nx rfl x.1, x.2⟩), (fun h => nx rfl (p12 h)), (fun h => nx rfl (p13 h)), (fun h => nx rfl (p14 h)), (fun h => nx rfl (p15 h)), (fun h => nx rfl (p16 h)), (fun h => (p17 h).elim fun b x => ⟨b, nx rfl x.1, x.2⟩), (fun h => nx rfl (p18 h)), (fun h => nx rfl (p19 h)), (fun h => nx rfl (p20 h)), (fun h => nx rfl (p21 h)), (fun h => nx rfl (p22 h)), (fun h => (p23 h).elim fun b x => ⟨b, nx rfl x.1, x.2⟩), (fun h => nx rfl (p24 h)), (fun h => nx rfl (p25 h)), (fun h => nx rfl (p26 h)), (fun h => nx rfl (p27 h)), (fun h => nx rfl (p28 h)), (fun h => (p29 h).elim fun b x => ⟨b, nx rfl x.1, x.2⟩), (fun h => nx rfl (p30 h)), (fun h => nx rfl (p31 h)), (fun h => nx rfl (p32 h)), (fun h => nx rfl (p33 h)), (fun h => nx rfl (p34 h)), (fun h => (p35 h).elim fun b x => ⟨b, nx rfl x.1, x.2⟩), (fun h => ⟨(p36 h).1, match (p36 h).2 with | ⟨b0, b1, b2, b3, b4, b5, x, s⟩ => ⟨b0, b1, b2, b3, b4, b5, nx rfl x, s⟩⟩), (fun h => ⟨(p37 h).1, match (p37 h).2 with | ⟨pb, b0, b1, b2, b3, b4, b5, x, v, s⟩ => ⟨pb, b0, b1, b2, b3, b4, b5, nx rfl x, v, s⟩⟩), (fun h => ⟨(p38 h).1, match (p38 h).2 with | ⟨pb, b0, b1, b2, b3, b4, b5, x, v, s⟩ => ⟨pb, b0, b1, b2, b3, b4, b5, nx rfl x, v, s⟩⟩)⟩
    | 11, ho, hi0, he =>
      cases ho; cases hd
      obtain ⟨G', kG, hsG', hb⟩ := blkN hsG 3 61 (madeCells #[.slice none 0 0] n)
      exact ⟨_, _, mk56 (tm rfl (p10 (he ⟨10, .data⟩ (by simp) rfl))) (tm rfl (p10 (he ⟨10, .data⟩ (by simp) rfl))) (by omega), G', hsG', nx rfl s0, (fun h => nx rfl (p0 h)), (fun h => nx rfl (p1 h)), (fun h => nx rfl (p2 h)), (fun h => nx rfl (p3 h)), (fun h => nx rfl (p4 h)), (fun h => (p5 h).elim fun b x => ⟨b, nx rfl x.1, kG.vb (by decide) x.2⟩), (fun h => nx rfl (p6 h)), (fun h => nx rfl (p7 h)), (fun h => nx rfl (p8 h)), (fun h => nx rfl (p9 h)), (fun h => nx rfl (p10 h)), (fun _ => ⟨_, hit, hb⟩), (fun h => nx rfl (p12 h)), (fun h => nx rfl (p13 h)), (fun h => nx rfl (p14 h)), (fun h => nx rfl (p15 h)), (fun h => nx rfl (p16 h)), (fun h => (p17 h).elim fun b x => ⟨b, nx rfl x.1, kG.vb (by decide) x.2⟩), (fun h => nx rfl (p18 h)), (fun h => nx rfl (p19 h)), (fun h => nx rfl (p20 h)), (fun h => nx rfl (p21 h)), (fun h => nx rfl (p22 h)), (fun h => (p23 h).elim fun b x => ⟨b, nx rfl x.1, kG.vb (by decide) x.2⟩), (fun h => nx rfl (p24 h)), (fun h => nx rfl (p25 h)), (fun h => nx rfl (p26 h)), (fun h => nx rfl (p27 h)), (fun h => nx rfl (p28 h)), (fun h => (p29 h).elim fun b x => ⟨b, nx rfl x.1, kG.vb (by decide) x.2⟩), (fun h => nx rfl (p30 h)), (fun h => nx rfl (p31 h)), (fun h => nx rfl (p32 h)), (fun h => nx rfl (p33 h)), (fun h => nx rfl (p34 h)), (fun h => (p35 h).elim fun b x => ⟨b, nx rfl x.1, kG.vb (by decide) x.2⟩), (fun h => absurd ((p36 h).1.2.1) (by rw [hi0]; decide)), (fun h => absurd ((p36 (p37 h).1).1.2.1) (by rw [hi0]; decide)), (fun h => absurd ((p36 (p37 (p38 h).1).1).1.2.1) (by rw [hi0]; decide))⟩
    | 12, ho, hi0, he =>
      cases ho; cases hd
      exact ⟨_, _, do_move (tm rfl s0), G, hsG, nx rfl s0, (fun h => nx rfl (p0 h)), (fun h => nx rfl (p1 h)), (fun h => nx rfl (p2 h)), (fun h => nx rfl (p3 h)), (fun h => nx rfl (p4 h)), (fun h => (p5 h).elim fun b x => ⟨b, nx rfl x.1, x.2⟩), (fun h => nx rfl (p6 h)), (fun h => nx rfl (p7 h)), (fun h => nx rfl (p8 h)), (fun h => nx rfl (p9 h)), (fun h => nx rfl (p10 h)), (fun h => (p11 h).elim fun b x => ⟨b, nx rfl x.1, x.2⟩), (fun _ => hit), (fun h => nx rfl (p13 h)), (fun h => nx rfl (p14 h)), (fun h => nx rfl (p15 h)), (fun h => nx rfl (p16 h)), (fun h => (p17 h).elim fun b x => ⟨b, nx rfl x.1, x.2⟩), (fun h => nx rfl (p18 h)), (fun h => nx rfl (p19 h)), (fun h => nx rfl (p20 h)), (fun h => nx rfl (p21 h)), (fun h => nx rfl (p22 h)), (fun h => (p23 h).elim fun b x => ⟨b, nx rfl x.1, x.2⟩), (fun h => nx rfl (p24 h)), (fun h => nx rfl (p25 h)), (fun h => nx rfl (p26 h)), (fun h => nx rfl (p27 h)), (fun h => nx rfl (p28 h)), (fun h => (p29 h).elim fun b x => ⟨b, nx rfl x.1, x.2⟩), (fun h => nx rfl (p30 h)), (fun h => nx rfl (p31 h)), (fun h => nx rfl (p32 h)), (fun h => nx rfl (p33 h)), (fun h => nx rfl (p34 h)), (fun h => (p35 h).elim fun b x => ⟨b, nx rfl x.1, x.2⟩), (fun h => ⟨(p36 h).1, match (p36 h).2 with | ⟨b0, b1, b2, b3, b4, b5, x, s⟩ => ⟨b0, b1, b2, b3, b4, b5, nx rfl x, s⟩⟩), (fun h => ⟨(p37 h).1, match (p37 h).2 with | ⟨pb, b0, b1, b2, b3, b4, b5, x, v, s⟩ => ⟨pb, b0, b1, b2, b3, b4, b5, nx rfl x, v, s⟩⟩), (fun h => ⟨(p38 h).1, match (p38 h).2 with | ⟨pb, b0, b1, b2, b3, b4, b5, x, v, s⟩ => ⟨pb, b0, b1, b2, b3, b4, b5, nx rfl x, v, s⟩⟩)⟩
    | 13, ho, hi0, he =>
      cases ho; cases hd
      exact ⟨_, _, do_nilCheck (tm rfl (p12 (he ⟨12, .data⟩ (by simp) rfl))), G, hsG, nx rfl s0, (fun h => nx rfl (p0 h)), (fun h => nx rfl (p1 h)), (fun h => nx rfl (p2 h)), (fun h => nx rfl (p3 h)), (fun h => nx rfl (p4 h)), (fun h => (p5 h).elim fun b x => ⟨b, nx rfl x.1, x.2⟩), (fun h => nx rfl (p6 h)), (fun h => nx rfl (p7 h)), (fun h => nx rfl (p8 h)), (fun h => nx rfl (p9 h)), (fun h => nx rfl (p10 h)), (fun h => (p11 h).elim fun b x => ⟨b, nx rfl x.1, x.2⟩), (fun h => nx rfl (p12 h)), (fun _ => hit), (fun h => nx rfl (p14 h)), (fun h => nx rfl (p15 h)), (fun h => nx rfl (p16 h)), (fun h => (p17 h).elim fun b x => ⟨b, nx rfl x.1, x.2⟩), (fun h => nx rfl (p18 h)), (fun h => nx rfl (p19 h)), (fun h => nx rfl (p20 h)), (fun h => nx rfl (p21 h)), (fun h => nx rfl (p22 h)), (fun h => (p23 h).elim fun b x => ⟨b, nx rfl x.1, x.2⟩), (fun h => nx rfl (p24 h)), (fun h => nx rfl (p25 h)), (fun h => nx rfl (p26 h)), (fun h => nx rfl (p27 h)), (fun h => nx rfl (p28 h)), (fun h => (p29 h).elim fun b x => ⟨b, nx rfl x.1, x.2⟩), (fun h => nx rfl (p30 h)), (fun h => nx rfl (p31 h)), (fun h => nx rfl (p32 h)), (fun h => nx rfl (p33 h)), (fun h => nx rfl (p34 h)), (fun h => (p35 h).elim fun b x => ⟨b, nx rfl x.1, x.2⟩), (fun h => ⟨(p36 h).1, match (p36 h).2 with | ⟨b0, b1, b2, b3, b4, b5, x, s⟩ => ⟨b0, b1, b2, b3, b4, b5, nx rfl x, s⟩⟩), (fun h => ⟨(p37 h).1, match (p37 h).2 with | ⟨pb, b0, b1, b2, b3, b4, b5, x, v, s⟩ => ⟨pb, b0, b1, b2, b3, b4, b5, nx rfl x, v, s⟩⟩), (fun h => ⟨(p38 h).1, match (p38 h).2 with | ⟨pb, b0, b1, b2, b3, b4, b5, x, v, s⟩ => ⟨pb, b0, b1, b2, b3, b4, b5, nx rfl x, v, s⟩⟩)⟩
    | 14, ho, hi0, he =>
      cases ho; cases hd
      exact ⟨_, _, fa79_1 (tm rfl (p13 (he ⟨13, .data⟩ (by simp) rfl))), G, hsG, nx rfl s0, (fun h => nx rfl (p0 h)), (fun h => nx rfl (p1 h)), (fun h => nx rfl (p2 h)), (fun h => nx rfl (p3 h)), (fun h => nx rfl (p4 h)), (fun h => (p5 h).elim fun b x => ⟨b, nx rfl x.1, x.2⟩), (fun h => nx rfl (p6 h)), (fun h => nx rfl (p7 h)), (fun h => nx rfl (p8 h)), (fun h => nx rfl (p9 h)), (fun h => nx rfl (p10 h)), (fun h => (p11 h).elim fun b x => ⟨b, nx rfl x.1, x.2⟩), (fun h => nx rfl (p12 h)), (fun h => nx rfl (p13 h)), (fun _ => hit), (fun h => nx rfl (p15 h)), (fun h => nx rfl (p16 h)), (fun h => (p17 h).elim fun b x => ⟨b, nx rfl x.1, x.2⟩), (fun h => nx rfl (p18 h)), (fun h => nx rfl (p19 h)), (fun h => nx rfl (p20 h)), (fun h => nx rfl (p21 h)), (fun h => nx rfl (p22 h)), (fun h => (p23 h).elim fun b x => ⟨b, nx rfl x.1, x.2⟩), (fun h => nx rfl (p24 h)), (fun h => nx rfl (p25 h)), (fun h => nx rfl (p26 h)), (fun h => nx rfl (p27 h)), (fun h => nx rfl (p28 h)), (fun h => (p29 h).elim fun b x => ⟨b, nx rfl x.1, x.2⟩), (fun h => nx rfl (p30 h)), (fun h => nx rfl (p31 h)), (fun h => nx rfl (p32 h)), (fun h => nx rfl (p33 h)), (fun h => nx rfl (p34 h)), (fun h => (p35 h).elim fun b x => ⟨b, nx rfl x.1, x.2⟩), (fun h => ⟨(p36 h).1, match (p36 h).2 with | ⟨b0, b1, b2, b3, b4, b5, x, s⟩ => ⟨b0, b1, b2, b3, b4, b5, nx rfl x, s⟩⟩), (fun h => ⟨(p37 h).1, match (p37 h).2 with | ⟨pb, b0, b1, b2, b3, b4, b5, x, v, s⟩ => ⟨pb, b0, b1, b2, b3, b4, b5, nx rfl x, v, s⟩⟩), (fun h => ⟨(p38 h).1, match (p38 h).2 with | ⟨pb, b0, b1, b2, b3, b4, b5, x, v, s⟩ => ⟨pb, b0, b1, b2, b3, b4, b5, nx rfl x, v, s⟩⟩)⟩
    | 15, ho, hi0, he =>
      cases ho; cases hd
      exact ⟨_, _, do_load T52 rfl (tm rfl (p14 (he ⟨14, .data⟩ (by simp) rfl))) (show w'.cell? ⟨gb, 1, none⟩ = _ by rw [hsG.below.cell hlt]; exact hg1), G, hsG, nx rfl s0, (fun h => nx rfl (p0 h)), (fun h => nx rfl (p1 h)), (fun h => nx rfl (p2 h)), (fun h => nx rfl (p3 h)), (fun h => nx rfl (p4 h)), (fun h => (p5 h).elim fun b x => ⟨b, nx rfl x.1, x.2⟩), (fun h => nx rfl (p6 h)), (fun h => nx rfl (p7 h)), (fun h => nx rfl (p8 h)), (fun h => nx rfl (p9 h)), (fun h => nx rfl (p10 h)), (fun h => (p11 h).elim fun b x => ⟨b, nx rfl x.1, x.2⟩), (fun h => nx rfl (p12 h)), (fun h => nx rfl (p13 h)), (fun h => nx rfl (p14 h)), (fun _ => hit), (fun h => nx rfl (p16 h)), (fun h => (p17 h).elim fun b x => ⟨b, nx rfl x.1, x.2⟩), (fun h => nx rfl (p18 h)), (fun h => nx rfl (p19 h)), (fun h => nx rfl (p20 h)), (fun h => nx rfl (p21 h)), (fun h => nx rfl (p22 h)), (fun h => (p23 h).elim fun b x => ⟨b, nx rfl x.1, x.2⟩), (fun h => nx rfl (p24 h)), (fun h => nx rfl (p25 h)), (fun h => nx rfl (p26 h)), (fun h => nx rfl (p27 h)), (fun h => nx rfl (p28 h)), (fun h => (p29 h).elim fun b x => ⟨b, nx rfl x.1, x.2⟩), (fun h => nx rfl (p30 h)), (fun h => nx rfl (p31 h)), (fun h => nx rfl (p32 h)), (fun h => nx rfl (p33 h)), (fun h => nx rfl (p34 h)), (fun h => (p35 h).elim fun b x => ⟨b, nx rfl x.1, x.2⟩), (fun h => ⟨(p36 h).1, match (p36 h).2 with | ⟨b0, b1, b2, b3, b4, b5, x, s⟩ => ⟨b0, b1, b2, b3, b4, b5, nx rfl x, s⟩⟩), (fun h => ⟨(p37 h).1, match (p37 h).2 with | ⟨pb, b0, b1, b2, b3, b4, b5, x, v, s⟩ => ⟨pb, b0, b1, b2, b3, b4, b5, nx rfl x, v, s⟩⟩), (fun h => ⟨(p38 h).1, match (p38 h).2 with | ⟨pb, b0, b1, b2, b3, b4, b5, x, v, s⟩ => ⟨pb, b0, b1, b2, b3, b4, b5, nx rfl x, v, s⟩⟩)⟩
    | 16, ho, hi0, he =>
      cases ho; cases hd
      exact ⟨_, _, do_len Try.underlying52 (tm rfl (p15 (he ⟨15, .data⟩ (by simp) rfl))), G, hsG, nx rfl s0, (fun h => nx rfl (p0 h)), (fun h => nx rfl (p1 h)), (fun h => nx rfl (p2 h)), (fun h => nx rfl (p3 h)), (fun h => nx rfl (p4 h)), (fun h => (p5 h).elim fun b x => ⟨b, nx rfl x.1, x.2⟩), (fun h => nx rfl (p6 h)), (fun h => nx rfl (p7 h)), (fun h => nx rfl (p8 h)), (fun h => nx rfl (p9 h)), (fun h => nx rfl (p10 h)), (fun h => (p11 h).elim fun b x => ⟨b, nx rfl x.1, x.2⟩), (fun h => nx rfl (p12 h)), (fun h => nx rfl (p13 h)), (fun h => nx rfl (p14 h)), (fun h => nx rfl (p15 h)), (fun _ => hit), (fun h => (p17 h).elim fun b x => ⟨b, nx rfl x.1, x.2⟩), (fun h => nx rfl (p18 h)), (fun h => nx rfl (p19 h)), (fun h => nx rfl (p20 h)), (fun h => nx rfl (p21 h)), (fun h => nx rfl (p22 h)), (fun h => (p23 h).elim fun b x => ⟨b, nx rfl x.1, x.2⟩), (fun h => nx rfl (p24 h)), (fun h => nx rfl (p25 h)), (fun h => nx rfl (p26 h)), (fun h => nx rfl (p27 h)), (fun h => nx rfl (p28 h)), (fun h => (p29 h).elim fun b x => ⟨b, nx rfl x.1, x.2⟩), (fun h => nx rfl (p30 h)), (fun h => nx rfl (p31 h)), (fun h => nx rfl (p32 h)), (fun h => nx rfl (p33 h)), (fun h => nx rfl (p34 h)), (fun h => (p35 h).elim fun b x => ⟨b, nx rfl x.1, x.2⟩), (fun h => ⟨(p36 h).1, match (p36 h).2 with | ⟨b0, b1, b2, b3, b4, b5, x, s⟩ => ⟨b0, b1, b2, b3, b4, b5, nx rfl x, s⟩⟩), (fun h => ⟨(p37 h).1, match (p37 h).2 with | ⟨pb, b0, b1, b2, b3, b4, b5, x, v, s⟩ => ⟨pb, b0, b1, b2, b3, b4, b5, nx rfl x, v, s⟩⟩), (fun h => ⟨(p38 h).1, match (p38 h).2 with | ⟨pb, b0, b1, b2, b3, b4, b5, x, v, s⟩ => ⟨pb, b0, b1, b2, b3, b4, b5, nx rfl x, v, s⟩⟩)⟩
    | 17, ho, hi0, he =>
      cases ho; cases hd
      obtain ⟨G', kG, hsG', hb⟩ := blkN hsG 4 22 (madeCells #[.slice none 0 0] k)
      exact ⟨_, _, mk37 (tm rfl (p16 (he ⟨16, .data⟩ (by simp) rfl))) (tm rfl (p16 (he ⟨16, .data⟩ (by simp) rfl))) (by omega), G', hsG', nx rfl s0, (fun h => nx rfl (p0 h)), (fun h => nx rfl (p1 h)), (fun h => nx rfl (p2 h)), (fun h => nx rfl (p3 h)), (fun h => nx rfl (p4 h)), (fun h => (p5 h).elim fun b x => ⟨b, nx rfl x.1, kG.vb (by decide) x.2⟩), (fun h => nx rfl (p6 h)), (fun h => nx rfl (p7 h)), (fun h => nx rfl (p8 h)), (fun h => nx rfl (p9 h)), (fun h => nx rfl (p10 h)), (fun h => (p11 h).elim fun b x => ⟨b, nx rfl x.1, kG.vb (by decide) x.2⟩), (fun h => nx rfl (p12 h)), (fun h => nx rfl (p13 h)), (fun h => nx rfl (p14 h)), (fun h => nx rfl (p15 h)), (fun h => nx rfl (p16 h)), (fun _ => ⟨_, hit, hb⟩), (fun h => nx rfl (p18 h)), (fun h => nx rfl (p19 h)), (fun h => nx rfl (p20 h)), (fun h => nx rfl (p21 h)), (fun h => nx rfl (p22 h)), (fun h => (p23 h).elim fun b x => ⟨b, nx rfl x.1, kG.vb (by decide) x.2⟩), (fun h => nx rfl (p24 h)), (fun h => nx rfl (p25 h)), (fun h => nx rfl (p26 h)), (fun h => nx rfl (p27 h)), (fun h => nx rfl (p28 h)), (fun h => (p29 h).elim fun b x => ⟨b, nx rfl x.1, kG.vb (by decide) x.2⟩), (fun h => nx rfl (p30 h)), (fun h => nx rfl (p31 h)), (fun h => nx rfl (p32 h)), (fun h => nx rfl (p33 h)), (fun h => nx rfl (p34 h)), (fun h => (p35 h).elim fun b x => ⟨b, nx rfl x.1, kG.vb (by decide) x.2⟩), (fun h => absurd ((p36 h).1.2.2.1) (by rw [hi0]; decide)), (fun h => absurd ((p36 (p37 h).1).1.2.2.1) (by rw [hi0]; decide)), (fun h => absurd ((p36 (p37 (p38 h).1).1).1.2.2.1) (by rw [hi0]; decide))⟩
    | 18, ho, hi0, he =>
      cases ho; cases hd
      exact ⟨_, _, do_move (tm rfl s0), G, hsG, nx rfl s0, (fun h => nx rfl (p0 h)), (fun h => nx rfl (p1 h)), (fun h => nx rfl (p2 h)), (fun h => nx rfl (p3 h)), (fun h => nx rfl (p4 h)), (fun h => (p5 h).elim fun b x => ⟨b, nx rfl x.1, x.2⟩), (fun h => nx rfl (p6 h)), (fun h => nx rfl (p7 h)), (fun h => nx rfl (p8 h)), (fun h => nx rfl (p9 h)), (fun h => nx rfl (p10 h)), (fun h => (p11 h).elim fun b x => ⟨b, nx rfl x.1, x.2⟩), (fun h => nx rfl (p12 h)), (fun h => nx rfl (p13 h)), (fun h => nx rfl (p14 h)), (fun h => nx rfl (p15 h)), (fun h => nx rfl (p16 h)), (fun h => (p17 h).elim fun b x => ⟨b, nx rfl x.1, x.2⟩), (fun _ => hit), (fun h => nx rfl (p19 h)), (fun h => nx rfl (p20 h)), (fun h => nx rfl (p21 h)), (fun h => nx rfl (p22 h)), (fun h => (p23 h).elim fun b x => ⟨b, nx rfl x.1, x.2⟩), (fun h => nx rfl (p24 h)), (fun h => nx rfl (p25 h)), (fun h => nx rfl (p26 h)), (fun h => nx rfl (p27 h)), (fun h => nx rfl (p28 h)), (fun h => (p29 h).elim fun b x => ⟨b, nx rfl x.1, x.2⟩), (fun h => nx rfl (p30 h)), (fun h => nx rfl (p31 h)), (fun h => nx rfl (p32 h)), (fun h => nx rfl (p33 h)), (fun h => nx rfl (p34 h)), (fun h => (p35 h).elim fun b x => ⟨b, nx rfl x.1, x.2⟩), (fun h => ⟨(p36 h).1, match (p36 h).2 with | ⟨b0, b1, b2, b3, b4, b5, x, s⟩ => ⟨b0, b1, b2, b3, b4, b5, nx rfl x, s⟩⟩), (fun h => ⟨(p37 h).1, match (p37 h).2 with | ⟨pb, b0, b1, b2, b3, b4, b5, x, v, s⟩ => ⟨pb, b0, b1, b2, b3, b4, b5, nx rfl x, v, s⟩⟩), (fun h => ⟨(p38 h).1, match (p38 h).2 with | ⟨pb, b0, b1, b2, b3, b4, b5, x, v, s⟩ => ⟨pb, b0, b1, b2, b3, b4, b5, nx rfl x, v, s⟩⟩)⟩
    | 19, ho, hi0, he =>
      cases ho; cases hd
      exact ⟨_, _, do_nilCheck (tm rfl (p18 (he ⟨18, .data⟩ (by simp) rfl))), G, hsG, nx rfl s0, (fun h => nx rfl (p0 h)), (fun h => nx rfl (p1 h)), (fun h => nx rfl (p2 h)), (fun h => nx rfl (p3 h)), (fun h => nx rfl (p4 h)), (fun h => (p5 h).elim fun b x => ⟨b, nx rfl x.1, x.2⟩), (fun h => nx rfl (p6 h)), (fun h => nx rfl (p7 h)), (fun h => nx rfl (p8 h)), (fun h => nx rfl (p9 h)), (fun h => nx rfl (p10 h)), (fun h => (p11 h).elim fun b x => ⟨b, nx rfl x.1, x.2⟩), (fun h => nx rfl (p12 h)), (fun h => nx rfl (p13 h)), (fun h => nx rfl (p14 h)), (fun h => nx rfl (p15 h)), (fun h => nx rfl (p16 h)), (fun h => (p17 h).elim fun b x => ⟨b, nx rfl x.1, x.2⟩), (fun h => nx rfl (p18 h)), (fun _ => hit), (fun h => nx rfl (p20 h)), (fun h => nx rfl (p21 h)), (fun h => nx rfl (p22 h)), (fun h => (p23 h).elim fun b x => ⟨b, nx rfl x.1, x.2⟩), (fun h => nx rfl (p24 h)), (fun h => nx rfl (p25 h)), (fun h => nx rfl (p26 h)), (fun h => nx rfl (p27 h)), (fun h => nx rfl (p28 h)), (fun h => (p29 h).elim fun b x => ⟨b, nx rfl x.1, x.2⟩), (fun h => nx rfl (p30 h)), (fun h => nx rfl (p31 h)), (fun h => nx rfl (p32 h)), (fun h => nx rfl (p33 h)), (fun h => nx rfl (p34 h)), (fun h => (p35 h).elim fun b x => ⟨b, nx rfl x.1, x.2⟩), (fun h => ⟨(p36 h).1, match (p36 h).2 with | ⟨b0, b1, b2, b3, b4, b5, x, s⟩ => ⟨b0, b1, b2, b3, b4, b5, nx rfl x, s⟩⟩), (fun h => ⟨(p37 h).1, match (p37 h).2 with | ⟨pb, b0, b1, b2, b3, b4, b5, x, v, s⟩ => ⟨pb, b0, b1, b2, b3, b4, b5, nx rfl x, v, s⟩⟩), (fun h => ⟨(p38 h).1, match (p38 h).2 with | ⟨pb, b0, b1, b2, b3, b4, b5, x, v, s⟩ => ⟨pb, b0, b1, b2, b3, b4, b5, nx rfl x, v, s⟩⟩)⟩
    | 20, ho, hi0, he =>
      cases ho; cases hd
      exact ⟨_, _, fa79_1 (tm rfl (p19 (he ⟨19, .data⟩ (by simp) rfl))), G, hsG, nx rfl s0, (fun h => nx rfl (p0 h)), (fun h => nx rfl (p1 h)), (fun h => nx rfl (p2 h)), (fun h => nx rfl (p3 h)), (fun h => nx rfl (p4 h)), (fun h => (p5 h).elim fun b x => ⟨b, nx rfl x.1, x.2⟩), (fun h => nx rfl (p6 h)), (fun h => nx rfl (p7 h)), (fun h => nx rfl (p8 h)), (fun h => nx rfl (p9 h)), (fun h => nx rfl (p10 h)), (fun h => (p11 h).elim fun b x => ⟨b, nx rfl x.1, x.2⟩), (fun h => nx rfl (p12 h)), (fun h => nx rfl (p13 h)), (fun h => nx rfl (p14 h)), (fun h => nx rfl (p15 h)), (fun h => nx rfl (p16 h)), (fun h => (p17 h).elim fun b x => ⟨b, nx rfl x.1, x.2⟩), (fun h => nx rfl (p18 h)), (fun h => nx rfl (p19 h)), (fun _ => hit), (fun h => nx rfl (p21 h)), (fun h => nx rfl (p22 h)), (fun h => (p23 h).elim fun b x => ⟨b, nx rfl x.1, x.2⟩), (fun h => nx rfl (p24 h)), (fun h => nx rfl (p25 h)), (fun h => nx rfl (p26 h)), (fun h => nx rfl (p27 h)), (fun h => nx rfl (p28 h)), (fun h => (p29 h).elim fun b x => ⟨b, nx rfl x.1, x.2⟩), (fun h => nx rfl (p30 h)), (fun h => nx rfl (p31 h)), (fun h => nx rfl (p32 h)), (fun h => nx rfl (p33 h)), (fun h => nx rfl (p34 h)), (fun h => (p35 h).elim fun b x => ⟨b, nx rfl x.1, x.2⟩), (fun h => ⟨(p36 h).1, match (p36 h).2 with | ⟨b0, b1, b2, b3, b4, b5, x, s⟩ => ⟨b0, b1, b2, b3, b4, b5, nx rfl x, s⟩⟩), (fun h => ⟨(p37 h).1, match (p37 h).2 with | ⟨pb, b0, b1, b2, b3, b4, b5, x, v, s⟩ => ⟨pb, b0, b1, b2, b3, b4, b5, nx rfl x, v, s⟩⟩), (fun h => ⟨(p38 h).1, match (p38 h).2 with | ⟨pb, b0, b1, b2, b3, b4, b5, x, v, s⟩ => ⟨pb, b0, b1, b2, b3, b4, b5, nx rfl x, v, s⟩⟩)⟩
    | 21, ho, hi0, he =>
      cases ho; cases hd
      exact ⟨_, _, do_load T52 rfl (tm rfl (p20 (he ⟨20, .data⟩ (by simp) rfl))) (show w'.cell? ⟨gb, 1, none⟩ = _ by rw [hsG.below.cell hlt]; exact hg1), G, hsG, nx rfl s0, (fun h => nx rfl (p0 h)), (fun h => nx rfl (p1 h)), (fun h => nx rfl (p2 h)), (fun h => nx rfl (p3 h)), (fun h => nx rfl (p4 h)), (fun h => (p5 h).elim fun b x => ⟨b, nx rfl x.1, x.2⟩), (fun h => nx rfl (p6 h)), (fun h => nx rfl (p7 h)), (fun h => nx rfl (p8 h)), (fun h => nx rfl (p9 h)), (fun h => nx rfl (p10 h)), (fun h => (p11 h).elim fun b x => ⟨b, nx rfl x.1, x.2⟩), (fun h => nx rfl (p12 h)), (fun h => nx rfl (p13 h)), (fun h => nx rfl (p14 h)), (fun h => nx rfl (p15 h)), (fun h => nx rfl (p16 h)), (fun h => (p17 h).elim fun b x => ⟨b, nx rfl x.1, x.2⟩), (fun h => nx rfl (p18 h)), (fun h => nx rfl (p19 h)), (fun h => nx rfl (p20 h)), (fun _ => hit), (fun h => nx rfl (p22 h)), (fun h => (p23 h).elim fun b x => ⟨b, nx rfl x.1, x.2⟩), (fun h => nx rfl (p24 h)), (fun h => nx rfl (p25 h)), (fun h => nx rfl (p26 h)), (fun h => nx rfl (p27 h)), (fun h => nx rfl (p28 h)), (fun h => (p29 h).elim fun b x => ⟨b, nx rfl x.1, x.2⟩), (fun h => nx rfl (p30 h)), (fun h => nx rfl (p31 h)), (fun h => nx rfl (p32 h)), (fun h => nx rfl (p33 h)), (fun h => nx rfl (p34 h)), (fun h => (p35 h).elim fun b x => ⟨b, nx rfl x.1, x.2⟩), (fun h => ⟨(p36 h).1, match (p36 h).2 with | ⟨b0, b1, b2, b3, b4, b5, x, s⟩ => ⟨b0, b1, b2, b3, b4, b5, nx rfl x, s⟩⟩), (fun h => ⟨(p37 h).1, match (p37 h).2 with | ⟨pb, b0, b1, b2, b3, b4, b5, x, v, s⟩ => ⟨pb, b0, b1, b2, b3, b4, b5, nx rfl x, v, s⟩⟩), (fun h => ⟨(p38 h).1, match (p38 h).2 with | ⟨pb, b0, b1, b2, b3, b4, b5, x, v, s⟩ => ⟨pb, b0, b1, b2, b3, b4, b5, nx rfl x, v, s⟩⟩)⟩
    | 22, ho, hi0, he =>
      cases ho; cases hd
      exact ⟨_, _, do_len Try.underlying52 (tm rfl (p21 (he ⟨21, .data⟩ (by simp) rfl))), G, hsG, nx rfl s0, (fun h => nx rfl (p0 h)), (fun h => nx rfl (p1 h)), (fun h => nx rfl (p2 h)), (fun h => nx rfl (p3 h)), (fun h => nx rfl (p4 h)), (fun h => (p5 h).elim fun b x => ⟨b, nx rfl x.1, x.2⟩), (fun h => nx rfl (p6 h)), (fun h => nx rfl (p7 h)), (fun h => nx rfl (p8 h)), (fun h => nx rfl (p9 h)), (fun h => nx rfl (p10 h)), (fun h => (p11 h).elim fun b x => ⟨b, nx rfl x.1, x.2⟩), (fun h => nx rfl (p12 h)), (fun h => nx rfl (p13 h)), (fun h => nx rfl (p14 h)), (fun h => nx rfl (p15 h)), (fun h => nx rfl (p16 h)), (fun h => (p17 h).elim fun b x => ⟨b, nx rfl x.1, x.2⟩), (fun h => nx rfl (p18 h)), (fun h => nx rfl (p19 h)), (fun h => nx rfl (p20 h)), (fun h => nx rfl (p21 h)), (fun _ => hit), (fun h => (p23 h).elim fun b x => ⟨b, nx rfl x.1, x.2⟩), (fun h => nx rfl (p24 h)), (fun h => nx rfl (p25 h)), (fun h => nx rfl (p26 h)), (fun h => nx rfl (p27 h)), (fun h => nx rfl (p28 h)), (fun h => (p29 h).elim fun b x => ⟨b, nx rfl x.1, x.2⟩), (fun h => nx rfl (p30 h)), (fun h => nx rfl (p31 h)), (fun h => nx rfl (p32 h)), (fun h => nx rfl (p33 h)), (fun h => nx rfl (p34 h)), (fun h => (p35 h).elim fun b x => ⟨b, nx rfl x.1, x.2⟩), (fun h => ⟨(p36 h).1, match (p36 h).2 with | ⟨b0, b1, b2, b3, b4, b5, x, s⟩ => ⟨b0, b1, b2, b3, b4, b5, nx rfl x, s⟩⟩), (fun h => ⟨(p37 h).1, match (p37 h).2 with | ⟨pb, b0, b1, b2, b3, b4, b5, x, v, s⟩ => ⟨pb, b0, b1, b2, b3, b4, b5, nx rfl x, v, s⟩⟩), (fun h => ⟨(p38 h).1, match (p38 h).2 with | ⟨pb, b0, b1, b2, b3, b4, b5, x, v, s⟩ => ⟨pb, b0, b1, b2, b3, b4, b5, nx rfl x, v, s⟩⟩)⟩
    | 23, ho, hi0, he =>
      cases ho; cases hd
      obtain ⟨G', kG, hsG', hb⟩ := blkN hsG 5 3 (madeCells #[.int .i64 0] k)
      exact ⟨_, _, mk22 (tm rfl (p22 (he ⟨22, .data⟩ (by simp) rfl))) (tm rfl (p22 (he ⟨22, .data⟩ (by simp) rfl))) (by omega), G', hsG', nx rfl s0, (fun h => nx rfl (p0 h)), (fun h => nx rfl (p1 h)), (fun h => nx rfl (p2 h)), (fun h => nx rfl (p3 h)), (fun h => nx rfl (p4 h)), (fun h => (p5 h).elim fun b x => ⟨b, nx rfl x.1, kG.vb (by decide) x.2⟩), (fun h => nx rfl (p6 h)), (fun h => nx rfl (p7 h)), (fun h => nx rfl (p8 h)), (fun h => nx rfl (p9 h)), (fun h => nx rfl (p10 h)), (fun h => (p11 h).elim fun b x => ⟨b, nx rfl x.1, kG.vb (by decide) x.2⟩), (fun h => nx rfl (p12 h)), (fun h => nx rfl (p13 h)), (fun h => nx rfl (p14 h)), (fun h => nx rfl (p15 h)), (fun h => nx rfl (p16 h)), (fun h => (p17 h).elim fun b x => ⟨b, nx rfl x.1, kG.vb (by decide) x.2⟩), (fun h => nx rfl (p18 h)), (fun h => nx rfl (p19 h)), (fun h => nx rfl (p20 h)), (fun h => nx rfl (p21 h)), (fun h => nx rfl (p22 h)), (fun _ => ⟨_, hit, hb⟩), (fun h => nx rfl (p24 h)), (fun h => nx rfl (p25 h)), (fun h => nx rfl (p26 h)), (fun h => nx rfl (p27 h)), (fun h => nx rfl (p28 h)), (fun h => (p29 h).elim fun b x => ⟨b, nx rfl x.1, kG.vb (by decide) x.2⟩), (fun h => nx rfl (p30 h)), (fun h => nx rfl (p31 h)), (fun h => nx rfl (p32 h)), (fun h => nx rfl (p33 h)), (fun h => nx rfl (p34 h)), (fun h => (p35 h).elim fun b x => ⟨b, nx rfl x.1, kG.vb (by decide) x.2⟩), (fun h => absurd ((p36 h).1.2.2.2.1) (by rw [hi0]; decide)), (fun h => absurd ((p36 (p37 h).1).1.2.2.2.1) (by rw [hi0]; decide)), (fun h => absurd ((p36 (p37 (p38 h).1).1).1.2.2.2.1) (by rw [hi0]; decide))⟩
    | 24, ho, hi0, he =>
      cases ho; cases hd
      exact ⟨_, _, do_move (tm rfl s0), G, hsG, nx rfl s0, (fun h => nx rfl (p0 h)), (fun h => nx rfl (p1 h)), (fun h => nx rfl (p2 h)), (fun h => nx rfl (p3 h)), (fun h => nx rfl (p4 h)), (fun h => (p5 h).elim fun b x => ⟨b, nx rfl x.1, x.2⟩), (fun h => nx rfl (p6 h)), (fun h => nx rfl (p7 h)), (fun h => nx rfl (p8 h)), (fun h => nx rfl (p9 h)), (fun h => nx rfl (p10 h)), (fun h => (p11 h).elim fun b x => ⟨b, nx rfl x.1, x.2⟩), (fun h => nx rfl (p12 h)), (fun h => nx rfl (p13 h)), (fun h => nx rfl (p14 h)), (fun h => nx rfl (p15 h)), (fun h => nx rfl (p16 h)), (fun h => (p17 h).elim fun b x => ⟨b, nx rfl x.1, x.2⟩), (fun h => nx rfl (p18 h)), (fun h => nx rfl (p19 h)), (fun h => nx rfl (p20 h)), (fun h => nx rfl (p21 h)), (fun h => nx rfl (p22 h)), (fun h => (p23 h).elim fun b x => ⟨b, nx rfl x.1, x.2⟩), (fun _ => hit), (fun h => nx rfl (p25 h)), (fun h => nx rfl (p26 h)), (fun h => nx rfl (p27 h)), (fun h => nx rfl (p28 h)), (fun h => (p29 h).elim fun b x => ⟨b, nx rfl x.1, x.2⟩), (fun h => nx rfl (p30 h)), (fun h => nx rfl (p31 h)), (fun h => nx rfl (p32 h)), (fun h => nx rfl (p33 h)), (fun h => nx rfl (p34 h)), (fun h => (p35 h).elim fun b x => ⟨b, nx rfl x.1, x.2⟩), (fun h => ⟨(p36 h).1, match (p36 h).2 with | ⟨b0, b1, b2, b3, b4, b5, x, s⟩ => ⟨b0, b1, b2, b3, b4, b5, nx rfl x, s⟩⟩), (fun h => ⟨(p37 h).1, match (p37 h).2 with | ⟨pb, b0, b1, b2, b3, b4, b5, x, v, s⟩ => ⟨pb, b0, b1, b2, b3, b4, b5, nx rfl x, v, s⟩⟩), (fun h => ⟨(p38 h).1, match (p38 h).2 with | ⟨pb, b0, b1, b2, b3, b4, b5, x, v, s⟩ => ⟨pb, b0, b1, b2, b3, b4, b5, nx rfl x, v, s⟩⟩)⟩
    | 25, ho, hi0, he =>
      cases ho; cases hd
      exact ⟨_, _, do_nilCheck (tm rfl (p24 (he ⟨24, .data⟩ (by simp) rfl))), G, hsG, nx rfl s0, (fun h => nx rfl (p0 h)), (fun h => nx rfl (p1 h)), (fun h => nx rfl (p2 h)), (fun h => nx rfl (p3 h)), (fun h => nx rfl (p4 h)), (fun h => (p5 h).elim fun b x => ⟨b, nx rfl x.1, x.2⟩), (fun h => nx rfl (p6 h)), (fun h => nx rfl (p7 h)), (fun h => nx rfl (p8 h)), (fun h => nx rfl (p9 h)), (fun h => nx rfl (p10 h)), (fun h => (p11 h).elim fun b x => ⟨b, nx rfl x.1, x.2⟩), (fun h => nx rfl (p12 h)), (fun h => nx rfl (p13 h)), (fun h => nx rfl (p14 h)), (fun h => nx rfl (p15 h)), (fun h => nx rfl (p16 h)), (fun h => (p17 h).elim fun b x => ⟨b, nx rfl x.1, x.2⟩), (fun h => nx rfl (p18 h)), (fun h => nx rfl (p19 h)), (fun h => nx rfl (p20 h)), (fun h => nx rfl (p21 h)), (fun h => nx rfl (p22 h)), (fun h => (p23 h).elim fun b x => ⟨b, nx rfl x.1, x.2⟩), (fun h => nx rfl (p24 h)), (fun _ => hit), (fun h => nx rfl (p26 h)), (fun h => nx rfl (p27 h)), (fun h => nx rfl (p28 h)), (fun h => (p29 h).elim fun b x => ⟨b, nx rfl x.1, x.2⟩), (fun h => nx rfl (p30 h)), (fun h => nx rfl (p31 h)), (fun h => nx rfl (p32 h)), (fun h => nx rfl (p33 h)), (fun h => nx rfl (p34 h)), (fun h => (p35 h).elim fun b x => ⟨b, nx rfl x.1, x.2⟩), (fun h => ⟨(p36 h).1, match (p36 h).2 with | ⟨b0, b1, b2, b3, b4, b5, x, s⟩ => ⟨b0, b1, b2, b3, b4, b5, nx rfl x, s⟩⟩), (fun h => ⟨(p37 h).1, match (p37 h).2 with | ⟨pb, b0, b1, b2, b3, b4, b5, x, v, s⟩ => ⟨pb, b0, b1, b2, b3, b4, b5, nx rfl x, v, s⟩⟩), (fun h => ⟨(p38 h).1, match (p38 h).2 with | ⟨pb, b0, b1, b2, b3, b4, b5, x, v, s⟩ => ⟨pb, b0, b1, b2, b3, b4, b5, nx rfl x, v, s⟩⟩)⟩
    | 26, ho, hi0, he =>
      cases ho; cases hd
      exact ⟨_, _, fa79_0 (tm rfl (p25 (he ⟨25, .data⟩ (by simp) rfl))), G, hsG, nx rfl s0, (fun h => nx rfl (p0 h)), (fun h => nx rfl (p1 h)), (fun h => nx rfl (p2 h)), (fun h => nx rfl (p3 h)), (fun h => nx rfl (p4 h)), (fun h => (p5 h).elim fun b x => ⟨b, nx rfl x.1, x.2⟩), (fun h => nx rfl (p6 h)), (fun h => nx rfl (p7 h)), (fun h => nx rfl (p8 h)), (fun h => nx rfl (p9 h)), (fun h => nx rfl (p10 h)), (fun h => (p11 h).elim fun b x => ⟨b, nx rfl x.1, x.2⟩), (fun h => nx rfl (p12 h)), (fun h => nx rfl (p13 h)), (fun h => nx rfl (p14 h)), (fun h => nx rfl (p15 h)), (fun h => nx rfl (p16 h)), (fun h => (p17 h).elim fun b x => ⟨b, nx rfl x.1, x.2⟩), (fun h => nx rfl (p18 h)), (fun h => nx rfl (p19 h)), (fun h => nx rfl (p20 h)), (fun h => nx rfl (p21 h)), (fun h => nx rfl (p22 h)), (fun h => (p23 h).elim fun b x => ⟨b, nx rfl x.1, x.2⟩), (fun h => nx rfl (p24 h)), (fun h => nx rfl (p25 h)), (fun _ => hit), (fun h => nx rfl (p27 h)), (fun h => nx rfl (p28 h)), (fun h => (p29 h).elim fun b x => ⟨b, nx rfl x.1, x.2⟩), (fun h => nx rfl (p30 h)), (fun h => nx rfl (p31 h)), (fun h => nx rfl (p32 h)), (fun h => nx rfl (p33 h)), (fun h => nx rfl (p34 h)), (fun h => (p35 h).elim fun b x => ⟨b, nx rfl x.1, x.2⟩), (fun h => ⟨(p36 h).1, match (p36 h).2 with | ⟨b0, b1, b2, b3, b4, b5, x, s⟩ => ⟨b0, b1, b2, b3, b4, b5, nx rfl x, s⟩⟩), (fun h => ⟨(p37 h).1, match (p37 h).2 with | ⟨pb, b0, b1, b2, b3, b4, b5, x, v, s⟩ => ⟨pb, b0, b1, b2, b3, b4, b5, nx rfl x, v, s⟩⟩), (fun h => ⟨(p38 h).1, match (p38 h).2 with | ⟨pb, b0, b1, b2, b3, b4, b5, x, v, s⟩ => ⟨pb, b0, b1, b2, b3, b4, b5, nx rfl x, v, s⟩⟩)⟩
    | 27, ho, hi0, he =>
      cases ho; cases hd
      exact ⟨_, _, do_load T52 rfl (tm rfl (p26 (he ⟨26, .data⟩ (by simp) rfl))) (show w'.cell? ⟨gb, 0, none⟩ = _ by rw [hsG.below.cell hlt]; exact hg0), G, hsG, nx rfl s0, (fun h => nx rfl (p0 h)), (fun h => nx rfl (p1 h)), (fun h => nx rfl (p2 h)), (fun h => nx rfl (p3 h)), (fun h => nx rfl (p4 h)), (fun h => (p5 h).elim fun b x => ⟨b, nx rfl x.1, x.2⟩), (fun h => nx rfl (p6 h)), (fun h => nx rfl (p7 h)), (fun h => nx rfl (p8 h)), (fun h => nx rfl (p9 h)), (fun h => nx rfl (p10 h)), (fun h => (p11 h).elim fun b x => ⟨b, nx rfl x.1, x.2⟩), (fun h => nx rfl (p12 h)), (fun h => nx rfl (p13 h)), (fun h => nx rfl (p14 h)), (fun h => nx rfl (p15 h)), (fun h => nx rfl (p16 h)), (fun h => (p17 h).elim fun b x => ⟨b, nx rfl x.1, x.2⟩), (fun h => nx rfl (p18 h)), (fun h => nx rfl (p19 h)), (fun h => nx rfl (p20 h)), (fun h => nx rfl (p21 h)), (fun h => nx rfl (p22 h)), (fun h => (p23 h).elim fun b x => ⟨b, nx rfl x.1, x.2⟩), (fun h => nx rfl (p24 h)), (fun h => nx rfl (p25 h)), (fun h => nx rfl (p26 h)), (fun _ => hit), (fun h => nx rfl (p28 h)), (fun h => (p29 h).elim fun b x => ⟨b, nx rfl x.1, x.2⟩), (fun h => nx rfl (p30 h)), (fun h => nx rfl (p31 h)), (fun h => nx rfl (p32 h)), (fun h => nx rfl (p33 h)), (fun h => nx rfl (p34 h)), (fun h => (p35 h).elim fun b x => ⟨b, nx rfl x.1, x.2⟩), (fun h => ⟨(p36 h).1, match (p36 h).2 with | ⟨b0, b1, b2, b3, b4, b5, x, s⟩ => ⟨b0, b1, b2, b3, b4, b5, nx rfl x, s⟩⟩), (fun h => ⟨(p37 h).1, match (p37 h).2 with | ⟨pb, b0, b1, b2, b3, b4, b5, x, v, s⟩ => ⟨pb, b0, b1, b2, b3, b4, b5, nx rfl x, v, s⟩⟩), (fun h => ⟨(p38 h).1, match (p38 h).2 with | ⟨pb, b0, b1, b2, b3, b4, b5, x, v, s⟩ => ⟨pb, b0, b1, b2, b3, b4, b5, nx rfl x, v, s⟩⟩)⟩
    | 28, ho, hi0, he =>
      cases ho; cases hd
      exact ⟨_, _, do_len Try.underlying52 (tm rfl (p27 (he ⟨27, .data⟩ (by simp) rfl))), G, hsG, nx rfl s0, (fun h => nx rfl (p0 h)), (fun h => nx rfl (p1 h)), (fun h => nx rfl (p2 h)), (fun h => nx rfl (p3 h)), (fun h => nx rfl (p4 h)), (fun h => (p5 h).elim fun b x => ⟨b, nx rfl x.1, x.2⟩), (fun h => nx rfl (p6 h)), (fun h => nx rfl (p7 h)), (fun h => nx rfl (p8 h)), (fun h => nx rfl (p9 h)), (fun h => nx rfl (p10 h)), (fun h => (p11 h).elim fun b x => ⟨b, nx rfl x.1, x.2⟩), (fun h => nx rfl (p12 h)), (fun h => nx rfl (p13 h)), (fun h => nx rfl (p14 h)), (fun h => nx rfl (p15 h)), (fun h => nx rfl (p16 h)), (fun h => (p17 h).elim fun b x => ⟨b, nx rfl x.1, x.2⟩), (fun h => nx rfl (p18 h)), (fun h => nx rfl (p19 h)), (fun h => nx rfl (p20 h)), (fun h => nx rfl (p21 h)), (fun h => nx rfl (p22 h)), (fun h => (p23 h).elim fun b x => ⟨b, nx rfl x.1, x.2⟩), (fun h => nx rfl (p24 h)), (fun h => nx rfl (p25 h)), (fun h => nx rfl (p26 h)), (fun h => nx rfl (p27 h)), (fun _ => hit), (fun h => (p29 h).elim fun b x => ⟨b, nx rfl x.1, x.2⟩), (fun h => nx rfl (p30 h)), (fun h => nx rfl (p31 h)), (fun h => nx rfl (p32 h)), (fun h => nx rfl (p33 h)), (fun h => nx rfl (p34 h)), (fun h => (p35 h).elim fun b x => ⟨b, nx rfl x.1, x.2⟩), (fun h => ⟨(p36 h).1, match (p36 h).2 with | ⟨b0, b1, b2, b3, b4, b5, x, s⟩ => ⟨b0, b1, b2, b3, b4, b5, nx rfl x, s⟩⟩), (fun h => ⟨(p37 h).1, match (p37 h).2 with | ⟨pb, b0, b1, b2, b3, b4, b5, x, v, s⟩ => ⟨pb, b0, b1, b2, b3, b4, b5, nx rfl x, v, s⟩⟩), (fun h => ⟨(p38 h).1, match (p38 h).2 with | ⟨pb, b0, b1, b2, b3, b4, b5, x, v, s⟩ => ⟨pb, b0, b1, b2, b3, b4, b5, nx rfl x, v, s⟩⟩)⟩
    | 29, ho, hi0, he =>
      cases ho; cases hd
      obtain ⟨G', kG, hsG', hb⟩ := blkN hsG 8 22 (madeCells #[.slice none 0 0] n)
      exact ⟨_, _, mk37 (tm rfl (p28 (he ⟨28, .data⟩ (by simp) rfl))) (tm rfl (p28 (he ⟨28, .data⟩ (by simp) rfl))) (by omega), G', hsG', nx rfl s0, (fun h => nx rfl (p0 h)), (fun h => nx rfl (p1 h)), (fun h => nx rfl (p2 h)), (fun h => nx rfl (p3 h)), (fun h => nx rfl (p4 h)), (fun h => (p5 h).elim fun b x => ⟨b, nx rfl x.1, kG.vb (by decide) x.2⟩), (fun h => nx rfl (p6 h)), (fun h => nx rfl (p7 h)), (fun h => nx rfl (p8 h)), (fun h => nx rfl (p9 h)), (fun h => nx rfl (p10 h)), (fun h => (p11 h).elim fun b x => ⟨b, nx rfl x.1, kG.vb (by decide) x.2⟩), (fun h => nx rfl (p12 h)), (fun h => nx rfl (p13 h)), (fun h => nx rfl (p14 h)), (fun h => nx rfl (p15 h)), (fun h => nx rfl (p16 h)), (fun h => (p17 h).elim fun b x => ⟨b, nx rfl x.1, kG.vb (by decide) x.2⟩), (fun h => nx rfl (p18 h)), (fun h => nx rfl (p19 h)), (fun h => nx rfl (p20 h)), (fun h => nx rfl (p21 h)), (fun h => nx rfl (p22 h)), (fun h => (p23 h).elim fun b x => ⟨b, nx rfl x.1, kG.vb (by decide) x.2⟩), (fun h => nx rfl (p24 h)), (fun h => nx rfl (p25 h)), (fun h => nx rfl (p26 h)), (fun h => nx rfl (p27 h)), (fun h => nx rfl (p28 h)), (fun _ => ⟨_, hit, hb⟩), (fun h => nx rfl (p30 h)), (fun h => nx rfl (p31 h)), (fun h => nx rfl (p32 h)), (fun h => nx rfl (p33 h)), (fun h => nx rfl (p34 h)), (fun h => (p35 h).elim fun b x => ⟨b, nx rfl x.1, kG.vb (by decide) x.2⟩), (fun h => absurd ((p36 h).1.2.2.2.2.1) (by rw [hi0]; decide)), (fun h => absurd ((p36 (p37 h).1).1.2.2.2.2.1) (by rw [hi0]; decide)), (fun h => absurd ((p36 (p37 (p38 h).1).1).1.2.2.2.2.1) (by rw [hi0]; decide))⟩
    | 30, ho, hi0, he =>
      cases ho; cases hd
      exact ⟨_, _, do_move (tm rfl s0), G, hsG, nx rfl s0, (fun h => nx rfl (p0 h)), (fun h => nx rfl (p1 h)), (fun h => nx rfl (p2 h)), (fun h => nx rfl (p3 h)), (fun h => nx rfl (p4 h)), (fun h => (p5 h).elim fun b x => ⟨b, nx rfl x.1, x.2⟩), (fun h => nx rfl (p6 h)), (fun h => nx rfl (p7 h)), (fun h => nx rfl (p8 h)), (fun h => nx rfl (p9 h)), (fun h => nx rfl (p10 h)), (fun h => (p11 h).elim fun b x => ⟨b, nx rfl x.1, x.2⟩), (fun h => nx rfl (p12 h)), (fun h => nx rfl (p13 h)), (fun h => nx rfl (p14 h)), (fun h => nx rfl (p15 h)), (fun h => nx rfl (p16 h)), (fun h => (p17 h).elim fun b x => ⟨b, nx rfl x.1, x.2⟩), (fun h => nx rfl (p18 h)), (fun h => nx rfl (p19 h)), (fun h => nx rfl (p20 h)), (fun h => nx rfl (p21 h)), (fun h => nx rfl (p22 h)), (fun h => (p23 h).elim fun b x => ⟨b, nx rfl x.1, x.2⟩), (fun h => nx rfl (p24 h)), (fun h => nx rfl (p25 h)), (fun h => nx rfl (p26 h)), (fun h => nx rfl (p27 h)), (fun h => nx rfl (p28 h)), (fun h => (p29 h).elim fun b x => ⟨b, nx rfl x.1, x.2⟩), (fun _ => hit), (fun h => nx rfl (p31 h)), (fun h => nx rfl (p32 h)), (fun h => nx rfl (p33 h)), (fun h => nx rfl (p34 h)), (fun h => (p35 h).elim fun b x => ⟨b, nx rfl x.1, x.2⟩), (fun h => ⟨(p36 h).1, match (p36 h).2 with | ⟨b0, b1, b2, b3, b4, b5, x, s⟩ => ⟨b0, b1, b2, b3, b4, b5, nx rfl x, s⟩⟩), (fun h => ⟨(p37 h).1, match (p37 h).2 with | ⟨pb, b0, b1, b2, b3, b4, b5, x, v, s⟩ => ⟨pb, b0, b1, b2, b3, b4, b5, nx rfl x, v, s⟩⟩), (fun h => ⟨(p38 h).1, match (p38 h).2 with | ⟨pb, b0, b1, b2, b3, b4, b5, x, v, s⟩ => ⟨pb, b0, b1, b2, b3, b4, b5, nx rfl x, v, s⟩⟩)⟩
    | 31, ho, hi0, he =>
      cases ho; cases hd
      exact ⟨_, _, do_nilCheck (tm rfl (p30 (he ⟨30, .data⟩ (by simp) rfl))), G, hsG, nx rfl s0, (fun h => nx rfl (p0 h)), (fun h => nx rfl (p1 h)), (fun h => nx rfl (p2 h)), (fun h => nx rfl (p3 h)), (fun h => nx rfl (p4 h)), (fun h => (p5 h).elim fun b x => ⟨b, nx rfl x.1, x.2⟩), (fun h => nx rfl (p6 h)), (fun h => nx rfl (p7 h)), (fun h => nx rfl (p8 h)), (fun h => nx rfl (p9 h)), (fun h => nx rfl (p10 h)), (fun h => (p11 h).elim fun b x => ⟨b, nx rfl x.1, x.2⟩), (fun h => nx rfl (p12 h)), (fun h => nx rfl (p13 h)), (fun h => nx rfl (p14 h)), (fun h => nx rfl (p15 h)), (fun h => nx rfl (p16 h)), (fun h => (p17 h).elim fun b x => ⟨b, nx rfl x.1, x.2⟩), (fun h => nx rfl (p18 h)), (fun h => nx rfl (p19 h)), (fun h => nx rfl (p20 h)), (fun h => nx rfl (p21 h)), (fun h => nx rfl (p22 h)), (fun h => (p23 h).elim fun b x => ⟨b, nx rfl x.1, x.2⟩), (fun h => nx rfl (p24 h)), (fun h => nx rfl (p25 h)), (fun h => nx rfl (p26 h)), (fun h => nx rfl (p27 h)), (fun h => nx rfl (p28 h)), (fun h => (p29 h).elim fun b x => ⟨b, nx rfl x.1, x.2⟩), (fun h => nx rfl (p30 h)), (fun _ => hit), (fun h => nx rfl (p32 h)), (fun h => nx rfl (p33 h)), (fun h => nx rfl (p34 h)), (fun h => (p35 h).elim fun b x => ⟨b, nx rfl x.1, x.2⟩), (fun h => ⟨(p36 h).1, match (p36 h).2 with | ⟨b0, b1, b2, b3, b4, b5, x, s⟩ => ⟨b0, b1, b2, b3, b4, b5, nx rfl x, s⟩⟩), (fun h => ⟨(p37 h).1, match (p37 h).2 with | ⟨pb, b0, b1, b2, b3, b4, b5, x, v, s⟩ => ⟨pb, b0, b1, b2, b3, b4, b5, nx rfl x, v, s⟩⟩), (fun h => ⟨(p38 h).1, match (p38 h).2 with | ⟨pb, b0, b1, b2, b3, b4, b5, x, v, s⟩ => ⟨pb, b0, b1, b2, b3, b4, b5, nx rfl x, v, s⟩⟩)⟩
    | 32, ho, hi0, he =>
      cases ho; cases hd
      exact ⟨_, _, fa79_0 (tm rfl (p31 (he ⟨31, .data⟩ (by simp) rfl))), G, hsG, nx rfl s0, (fun h => nx rfl (p0 h)), (fun h => nx rfl (p1 h)), (fun h => nx rfl (p2 h)), (fun h => nx rfl (p3 h)), (fun h => nx rfl (p4 h)), (fun h => (p5 h).elim fun b x => ⟨b, nx rfl x.1, x.2⟩), (fun h => nx rfl (p6 h)), (fun h => nx rfl (p7 h)), (fun h => nx rfl (p8 h)), (fun h => nx rfl (p9 h)), (fun h => nx rfl (p10 h)), (fun h => (p11 h).elim fun b x => ⟨b, nx rfl x.1, x.2⟩), (fun h => nx rfl (p12 h)), (fun h => nx rfl (p13 h)), (fun h => nx rfl (p14 h)), (fun h => nx rfl (p15 h)), (fun h => nx rfl (p16 h)), (fun h => (p17 h).elim fun b x => ⟨b, nx rfl x.1, x.2⟩), (fun h => nx rfl (p18 h)), (fun h => nx rfl (p19 h)), (fun h => nx rfl (p20 h)), (fun h => nx rfl (p21 h)), (fun h => nx rfl (p22 h)), (fun h => (p23 h).elim fun b x => ⟨b, nx rfl x.1, x.2⟩), (fun h => nx rfl (p24 h)), (fun h => nx rfl (p25 h)), (fun h => nx rfl (p26 h)), (fun h => nx rfl (p27 h)), (fun h => nx rfl (p28 h)), (fun h => (p29 h).elim fun b x => ⟨b, nx rfl x.1, x.2⟩), (fun h => nx rfl (p30 h)), (fun h => nx rfl (p31 h)), (fun _ => hit), (fun h => nx rfl (p33 h)), (fun h => nx rfl (p34 h)), (fun h => (p35 h).elim fun b x => ⟨b, nx rfl x.1, x.2⟩), (fun h => ⟨(p36 h).1, match (p36 h).2 with | ⟨b0, b1, b2, b3, b4, b5, x, s⟩ => ⟨b0, b1, b2, b3, b4, b5, nx rfl x, s⟩⟩), (fun h => ⟨(p37 h).1, match (p37 h).2 with | ⟨pb, b0, b1, b2, b3, b4, b5, x, v, s⟩ => ⟨pb, b0, b1, b2, b3, b4, b5, nx rfl x, v, s⟩⟩), (fun h => ⟨(p38 h).1, match (p38 h).2 with | ⟨pb, b0, b1, b2, b3, b4, b5, x, v, s⟩ => ⟨pb, b0, b1, b2, b3, b4, b5, nx rfl x, v, s⟩⟩)⟩
    | 33, ho, hi0, he =>
      cases ho; cases hd
      exact ⟨_, _, do_load T52 rfl (tm rfl (p32 (he ⟨32, .data⟩ (by simp) rfl))) (show w'.cell? ⟨gb, 0, none⟩ = _ by rw [hsG.below.cell hlt]; exact hg0), G, hsG, nx rfl s0, (fun h => nx rfl (p0 h)), (fun h => nx rfl (p1 h)), (fun h => nx rfl (p2 h)), (fun h => nx rfl (p3 h)), (fun h => nx rfl (p4 h)), (fun h => (p5 h).elim fun b x => ⟨b, nx rfl x.1, x.2⟩), (fun h => nx rfl (p6 h)), (fun h => nx rfl (p7 h)), (fun h => nx rfl (p8 h)), (fun h => nx rfl (p9 h)), (fun h => nx rfl (p10 h)), (fun h => (p11 h).elim fun b x => ⟨b, nx rfl x.1, x.2⟩), (fun h => nx rfl (p12 h)), (fun h => nx rfl (p13 h)), (fun h => nx rfl (p14 h)), (fun h => nx rfl (p15 h)), (fun h => nx rfl (p16 h)), (fun h => (p17 h).elim fun b x => ⟨b, nx rfl x.1, x.2⟩), (fun h => nx rfl (p18 h)), (fun h => nx rfl (p19 h)), (fun h => nx rfl (p20 h)), (fun h => nx rfl (p21 h)), (fun h => nx rfl (p22 h)), (fun h => (p23 h).elim fun b x => ⟨b, nx rfl x.1, x.2⟩), (fun h => nx rfl (p24 h)), (fun h => nx rfl (p25 h)), (fun h => nx rfl (p26 h)), (fun h => nx rfl (p27 h)), (fun h => nx rfl (p28 h)), (fun h => (p29 h).elim fun b x => ⟨b, nx rfl x.1, x.2⟩), (fun h => nx rfl (p30 h)), (fun h => nx rfl (p31 h)), (fun h => nx rfl (p32 h)), (fun _ => hit), (fun h => nx rfl (p34 h)), (fun h => (p35 h).elim fun b x => ⟨b, nx rfl x.1, x.2⟩), (fun h => ⟨(p36 h).1, match (p36 h).2 with | ⟨b0, b1, b2, b3, b4, b5, x, s⟩ => ⟨b0, b1, b2, b3, b4, b5, nx rfl x, s⟩⟩), (fun h => ⟨(p37 h).1, match (p37 h).2 with | ⟨pb, b0, b1, b2, b3, b4, b5, x, v, s⟩ => ⟨pb, b0, b1, b2, b3, b4, b5, nx rfl x, v, s⟩⟩), (fun h => ⟨(p38 h).1, match (p38 h).2 with | ⟨pb, b0, b1, b2, b3, b4, b5, x, v, s⟩ => ⟨pb, b0, b1, b2, b3, b4, b5, nx rfl x, v, s⟩⟩)⟩
    | 34, ho, hi0, he =>
      cases ho; cases hd
      exact ⟨_, _, do_len Try.underlying52 (tm rfl (p33 (he ⟨33, .data⟩ (by simp) rfl))), G, hsG, nx rfl s0, (fun h => nx rfl (p0 h)), (fun h => nx rfl (p1 h)), (fun h => nx rfl (p2 h)), (fun h => nx rfl (p3 h)), (fun h => nx rfl (p4 h)), (fun h => (p5 h).elim fun b x => ⟨b, nx rfl x.1, x.2⟩), (fun h => nx rfl (p6 h)), (fun h => nx rfl (p7 h)), (fun h => nx rfl (p8 h)), (fun h => nx rfl (p9 h)), (fun h => nx rfl (p10 h)), (fun h => (p11 h).elim fun b x => ⟨b, nx rfl x.1, x.2⟩), (fun h => nx rfl (p12 h)), (fun h => nx rfl (p13 h)), (fun h => nx rfl (p14 h)), (fun h => nx rfl (p15 h)), (fun h => nx rfl (p16 h)), (fun h => (p17 h).elim fun b x => ⟨b, nx rfl x.1, x.2⟩), (fun h => nx rfl (p18 h)), (fun h => nx rfl (p19 h)), (fun h => nx rfl (p20 h)), (fun h => nx rfl (p21 h)), (fun h => nx rfl (p22 h)), (fun h => (p23 h).elim fun b x => ⟨b, nx rfl x.1, x.2⟩), (fun h => nx rfl (p24 h)), (fun h => nx rfl (p25 h)), (fun h => nx rfl (p26 h)), (fun h => nx rfl (p27 h)), (fun h => nx rfl (p28 h)), (fun h => (p29 h).elim fun b x => ⟨b, nx rfl x.1, x.2⟩), (fun h => nx rfl (p30 h)), (fun h => nx rfl (p31 h)), (fun h => nx rfl (p32 h)), (fun h => nx rfl (p33 h)), (fun _ => hit), (fun h => (p35 h).elim fun b x => ⟨b, nx rfl x.1, x.2⟩), (fun h => ⟨(p36 h).1, match (p36 h).2 with | ⟨b0, b1, b2, b3, b4, b5, x, s⟩ => ⟨b0, b1, b2, b3, b4, b5, nx rfl x, s⟩⟩), (fun h => ⟨(p37 h).1, match (p37 h).2 with | ⟨pb, b0, b1, b2, b3, b4, b5, x, v, s⟩ => ⟨pb, b0, b1, b2, b3, b4, b5, nx rfl x, v, s⟩⟩), (fun h => ⟨(p38 h).1, match (p38 h).2 with | ⟨pb, b0, b1, b2, b3, b4, b5, x, v, s⟩ => ⟨pb, b0, b1, b2, b3, b4, b5, nx rfl x, v, s⟩⟩)⟩
    | 35, ho, hi0, he =>
      cases ho; cases hd
      obtain ⟨G', kG, hsG', hb⟩ := blkN hsG 9 4 (madeCells #[.bool false] n)
      exact ⟨_, _, mk23 (tm rfl (p34 (he ⟨34, .data⟩ (by simp) rfl))) (tm rfl (p34 (he ⟨34, .data⟩ (by simp) rfl))) (by omega), G', hsG', nx rfl s0, (fun h => nx rfl (p0 h)), (fun h => nx rfl (p1 h)), (fun h => nx rfl (p2 h)), (fun h => nx rfl (p3 h)), (fun h => nx rfl (p4 h)), (fun h => (p5 h).elim fun b x => ⟨b, nx rfl x.1, kG.vb (by decide) x.2⟩), (fun h => nx rfl (p6 h)), (fun h => nx rfl (p7 h)), (fun h => nx rfl (p8 h)), (fun h => nx rfl (p9 h)), (fun h => nx rfl (p10 h)), (fun h => (p11 h).elim fun b x => ⟨b, nx rfl x.1, kG.vb (by decide) x.2⟩), (fun h => nx rfl (p12 h)), (fun h => nx rfl (p13 h)), (fun h => nx rfl (p14 h)), (fun h => nx rfl (p15 h)), (fun h => nx rfl (p16 h)), (fun h => (p17 h).elim fun b x => ⟨b, nx rfl x.1, kG.vb (by decide) x.2⟩), (fun h => nx rfl (p18 h)), (fun h => nx rfl (p19 h)), (fun h => nx rfl (p20 h)), (fun h => nx rfl (p21 h)), (fun h => nx rfl (p22 h)), (fun h => (p23 h).elim fun b x => ⟨b, nx rfl x.1, kG.vb (by decide) x.2⟩), (fun h => nx rfl (p24 h)), (fun h => nx rfl (p25 h)), (fun h => nx rfl (p26 h)), (fun h => nx rfl (p27 h)), (fun h => nx rfl (p28 h)), (fun h => (p29 h).elim fun b x => ⟨b, nx rfl x.1, kG.vb (by decide) x.2⟩), (fun h => nx rfl (p30 h)), (fun h => nx rfl (p31 h)), (fun h => nx rfl (p32 h)), (fun h => nx rfl (p33 h)), (fun h => nx rfl (p34 h)), (fun _ => ⟨_, hit, hb⟩), (fun h => absurd ((p36 h).1.2.2.2.2.2) (by rw [hi0]; decide)), (fun h => absurd ((p36 (p37 h).1).1.2.2.2.2.2) (by rw [hi0]; decide)), (fun h => absurd ((p36 (p37 (p38 h).1).1).1.2.2.2.2.2) (by rw [hi0]; decide))⟩
    | 36, ho, hi0, he =>
      cases ho; cases hd
      obtain ⟨b0, x0, v0⟩ := p5 (he ⟨5, .data⟩ (by simp) rfl)
      obtain ⟨b1, x1, v1⟩ := p11 (he ⟨11, .data⟩ (by simp) rfl)
      obtain ⟨b2, x2, v2⟩ := p17 (he ⟨17, .data⟩ (by simp) rfl)
      obtain ⟨b3, x3, v3⟩ := p23 (he ⟨23, .data⟩ (by simp) rfl)
      obtain ⟨b4, x4, v4⟩ := p29 (he ⟨29, .data⟩ (by simp) rfl)
      obtain ⟨b5, x5, v5⟩ := p35 (he ⟨35, .data⟩ (by simp) rfl)
      exact ⟨_, _, do_build58 (tm rfl x0) (tm rfl x1) (tm rfl x2) (tm rfl x3) (tm rfl x4) (tm rfl x5), G, hsG, nx rfl s0, (fun h => nx rfl (p0 h)), (fun h => nx rfl (p1 h)), (fun h => nx rfl (p2 h)), (fun h => nx rfl (p3 h)), (fun h => nx rfl (p4 h)), (fun h => (p5 h).elim fun b x => ⟨b, nx rfl x.1, x.2⟩), (fun h => nx rfl (p6 h)), (fun h => nx rfl (p7 h)), (fun h => nx rfl (p8 h)), (fun h => nx rfl (p9 h)), (fun h => nx rfl (p10 h)), (fun h => (p11 h).elim fun b x => ⟨b, nx rfl x.1, x.2⟩), (fun h => nx rfl (p12 h)), (fun h => nx rfl (p13 h)), (fun h => nx rfl (p14 h)), (fun h => nx rfl (p15 h)), (fun h => nx rfl (p16 h)), (fun h => (p17 h).elim fun b x => ⟨b, nx rfl x.1, x.2⟩), (fun h => nx rfl (p18 h)), (fun h => nx rfl (p19 h)), (fun h => nx rfl (p20 h)), (fun h => nx rfl (p21 h)), (fun h => nx rfl (p22 h)), (fun h => (p23 h).elim fun b x => ⟨b, nx rfl x.1, x.2⟩), (fun h => nx rfl (p24 h)), (fun h => nx rfl (p25 h)), (fun h => nx rfl (p26 h)), (fun h => nx rfl (p27 h)), (fun h => nx rfl (p28 h)), (fun h => (p29 h).elim fun b x => ⟨b, nx rfl x.1, x.2⟩), (fun h => nx rfl (p30 h)), (fun h => nx rfl (p31 h)), (fun h => nx rfl (p32 h)), (fun h => nx rfl (p33 h)), (fun h => nx rfl (p34 h)), (fun h => (p35 h).elim fun b x => ⟨b, nx rfl x.1, x.2⟩), (fun _ => ⟨⟨he ⟨5, .data⟩ (by simp) rfl, he ⟨11, .data⟩ (by simp) rfl, he ⟨17, .data⟩ (by simp) rfl, he ⟨23, .data⟩ (by simp) rfl, he ⟨29, .data⟩ (by simp) rfl, he ⟨35, .data⟩ (by simp) rfl⟩, b0, b1, b2, b3, b4, b5, hit, v0, v1, v2, v3, v4, v5⟩), (fun h => ⟨rfl, match (p37 h).2 with | ⟨pb, b0, b1, b2, b3, b4, b5, x, v, s⟩ => ⟨pb, b0, b1, b2, b3, b4, b5, nx rfl x, v, s⟩⟩), (fun h => ⟨(p38 h).1, match (p38 h).2 with | ⟨pb, b0, b1, b2, b3, b4, b5, x, v, s⟩ => ⟨pb, b0, b1, b2, b3, b4, b5, nx rfl x, v, s⟩⟩)⟩
    | 37, ho, hi0, he =>
      cases ho; cases hd
      have h36 := he ⟨36, .data⟩ (by simp) rfl
      obtain ⟨_, b0, b1, b2, b3, b4, b5, x, s⟩ := p36 h36
      obtain ⟨G', kG, hsG', hb⟩ := blkN hsG 1 58 #[.slice (some ⟨b0, 0, none⟩) n n, .slice (some ⟨b1, 0, none⟩) n n, .slice (some ⟨b2, 0, none⟩) k k, .slice (some ⟨b3, 0, none⟩) k k, .slice none 0 0, .slice none 0 0, .slice (some ⟨b4, 0, none⟩) n n, .slice (some ⟨b5, 0, none⟩) n n]
      exact ⟨_, _, do_box (tm rfl x), G', hsG', nx rfl s0, (fun h => nx rfl (p0 h)), (fun h => nx rfl (p1 h)), (fun h => nx rfl (p2 h)), (fun h => nx rfl (p3 h)), (fun h => nx rfl (p4 h)), (fun h => (p5 h).elim fun b x => ⟨b, nx rfl x.1, kG.vb (by decide) x.2⟩), (fun h => nx rfl (p6 h)), (fun h => nx rfl (p7 h)), (fun h => nx rfl (p8 h)), (fun h => nx rfl (p9 h)), (fun h => nx rfl (p10 h)), (fun h => (p11 h).elim fun b x => ⟨b, nx rfl x.1, kG.vb (by decide) x.2⟩), (fun h => nx rfl (p12 h)), (fun h => nx rfl (p13 h)), (fun h => nx rfl (p14 h)), (fun h => nx rfl (p15 h)), (fun h => nx rfl (p16 h)), (fun h => (p17 h).elim fun b x => ⟨b, nx rfl x.1, kG.vb (by decide) x.2⟩), (fun h => nx rfl (p18 h)), (fun h => nx rfl (p19 h)), (fun h => nx rfl (p20 h)), (fun h => nx rfl (p21 h)), (fun h => nx rfl (p22 h)), (fun h => (p23 h).elim fun b x => ⟨b, nx rfl x.1, kG.vb (by decide) x.2⟩), (fun h => nx rfl (p24 h)), (fun h => nx rfl (p25 h)), (fun h => nx rfl (p26 h)), (fun h => nx rfl (p27 h)), (fun h => nx rfl (p28 h)), (fun h => (p29 h).elim fun b x => ⟨b, nx rfl x.1, kG.vb (by decide) x.2⟩), (fun h => nx rfl (p30 h)), (fun h => nx rfl (p31 h)), (fun h => nx rfl (p32 h)), (fun h => nx rfl (p33 h)), (fun h => nx rfl (p34 h)), (fun h => (p35 h).elim fun b x => ⟨b, nx rfl x.1, kG.vb (by decide) x.2⟩), (fun h => ⟨(p36 h).1, match (p36 h).2 with | ⟨b0, b1, b2, b3, b4, b5, x, s⟩ => ⟨b0, b1, b2, b3, b4, b5, nx rfl x, s.same kG⟩⟩), (fun _ => ⟨h36, w'.heap.size, b0, b1, b2, b3, b4, b5, hit, hb, s.same kG⟩), (fun h => absurd (p38 h).1 (by rw [hi0]; decide))⟩
    | 38, ho, hi0, he =>
      cases ho; cases hd
      have h37 := he ⟨37, .data⟩ (by simp) rfl
      obtain ⟨_, pb, b0, b1, b2, b3, b4, b5, x, v, s⟩ := p37 h37
      exact ⟨_, _, do_assign (tm rfl x), G, hsG, nx rfl s0, (fun h => nx rfl (p0 h)), (fun h => nx rfl (p1 h)), (fun h => nx rfl (p2 h)), (fun h => nx rfl (p3 h)), (fun h => nx rfl (p4 h)), (fun h => (p5 h).elim fun b x => ⟨b, nx rfl x.1, x.2⟩), (fun h => nx rfl (p6 h)), (fun h => nx rfl (p7 h)), (fun h => nx rfl (p8 h)), (fun h => nx rfl (p9 h)), (fun h => nx rfl (p10 h)), (fun h => (p11 h).elim fun b x => ⟨b, nx rfl x.1, x.2⟩), (fun h => nx rfl (p12 h)), (fun h => nx rfl (p13 h)), (fun h => nx rfl (p14 h)), (fun h => nx rfl (p15 h)), (fun h => nx rfl (p16 h)), (fun h => (p17 h).elim fun b x => ⟨b, nx rfl x.1, x.2⟩), (fun h => nx rfl (p18 h)), (fun h => nx rfl (p19 h)), (fun h => nx rfl (p20 h)), (fun h => nx rfl (p21 h)), (fun h => nx rfl (p22 h)), (fun h => (p23 h).elim fun b x => ⟨b, nx rfl x.1, x.2⟩), (fun h => nx rfl (p24 h)), (fun h => nx rfl (p25 h)), (fun h => nx rfl (p26 h)), (fun h => nx rfl (p27 h)), (fun h => nx rfl (p28 h)), (fun h => (p29 h).elim fun b x => ⟨b, nx rfl x.1, x.2⟩), (fun h => nx rfl (p30 h)), (fun h => nx rfl (p31 h)), (fun h => nx rfl (p32 h)), (fun h => nx rfl (p33 h)), (fun h => nx rfl (p34 h)), (fun h => (p35 h).elim fun b x => ⟨b, nx rfl x.1, x.2⟩), (fun h => ⟨(p36 h).1, match (p36 h).2 with | ⟨b0, b1, b2, b3, b4, b5, x, s⟩ => ⟨b0, b1, b2, b3, b4, b5, nx rfl x, s⟩⟩), (fun h => ⟨(p37 h).1, match (p37 h).2 with | ⟨pb, b0, b1, b2, b3, b4, b5, x, v, s⟩ => ⟨pb, b0, b1, b2, b3, b4, b5, nx rfl x, v, s⟩⟩), (fun _ => ⟨h37, pb, b0, b1, b2, b3, b4, b5, hit, v, s⟩)⟩
    | m + 39, ho, hi0, he => simp at ho

  intro L τ wi hall hI
  obtain ⟨G, hsG, t0, _, _, _, _, _, _, _, _, _, _, _, _, _, _, _, _, _, _, _, _, _, _, _, _, _, _, _, _, _, _, _, _, _, _, _, _, _, _, p38⟩ := hI
  obtain ⟨_, pb, b0, b1, b2, b3, b4, b5, t4, hp, hb0, hb1, hb2, hb3, hb4, hb5⟩ := p38 (hall 38 (by decide))
  rw [made_list] at hb0 hb1 hb2 hb4 hb5
  rw [made_ints] at hb3
  refine hKA _ _ ?_
  clear hKA p38 hall s0
  have hP0 : HpP G pb n k (List.replicate n []) (List.replicate n []) (List.replicate k []) (List.replicate k 0) [] [] (List.replicate n []) (List.replicate n false) _ _ _ _ _ _ b3 b5 :=
    ⟨hp, TabV.ofVB hb0 (by omega), TabV.ofVB hb1 (by omega), TabV.ofVB hb2 (by omega), hb3, TabV.nil, RowV.empty, TabV.ofVB hb4 (by omega), by rw [show bools (List.replicate n false) = List.replicate n (Value.bool false) by simp [bools]]; exact hb5, by simp⟩
  clear hp hb0 hb1 hb2 hb3 hb4 hb5
  refine wp_seq_k (fun K2 hK2 => ?_)
  refine wp_seq_k (fun K3 hK3 => ?_)
  refine reg ?_
  refine sq rfl (do_move (tm rfl t0)) ?_
  refine sq rfl (do_nilCheck (tm rfl hit)) ?_
  refine sq rfl (fa79_1 (tm rfl hit)) ?_
  refine sq rfl (do_load T52 rfl (tm rfl hit) ((hsG.below.cell hlt).trans hg1)) ?_
  refine sq rfl (do_len Try.underlying52 (tm rfl hit)) ?_
  refine sq rfl (do_move (v := .int .i64 ((0 : Nat) : Int)) rfl) ?_
  refine cutL ?_
  intro τ4 e4
  have c4_0 := (congrFun e4 0).trans (nx rfl (nx rfl (nx rfl (nx rfl (nx rfl (nx rfl t0))))))
  have c4_4 := (congrFun e4 4).trans (nx rfl (nx rfl (nx rfl (nx rfl (nx rfl (nx rfl t4))))))
  have c4_68 := (congrFun e4 68).trans (nx rfl (nx rfl hit))
  have c4_69 := (congrFun e4 69).trans (nx rfl hit)
  have c4_70 := (congrFun e4 70).trans hit
  clear e4
  refine wnil ?_
  refine hK3 _ _ ?_
  clear hK3
  refine forLoop (N := 405) (fun r τ wi => ∃ (x : Nat) (G : Nat → Part) (src : List (Nat × Int)) (reads : List (List Int)) (writes : List (List (Int × Int))) (writers : List (List Int)) (initial : List Int) (readers : List (List Int)) (next : List Int) (succ : List (List Int)) (pin : List Bool) (rv wv wsv rdv nv sv : Value) (ib nb : Nat), r = k - x ∧ x ≤ k ∧ τ 0 = .pointer (some ⟨gb, 0, none⟩) ∧ τ 4 = .pointer (some ⟨pb, 0, none⟩) ∧ τ 68 = .slice ia k ic ∧ τ 69 = .int .i64 (k : Int) ∧ τ 70 = .int .i64 (x : Int) ∧ Split w.heap.size w wi G ∧ HpP G pb n k reads writes writers initial readers next succ pin rv wv wsv rdv nv sv ib nb ∧ Tbl n k A rk x src reads writes writers initial readers next succ ∧ sumLen reads ≤ tot A x ∧ sumLen writes ≤ tot A x ∧ sumLen readers ≤ tot A x ∧ readers.length ≤ tot A x ∧ sumLen succ ≤ 3 * tot A x ∧ (∀ y, x ≤ y → y < k → writers[y]? = some []) ∧ (∀ (i y : Nat) (f : Int), src[i]? = some (y, f) → y < x))
    (fun τ wi => ∃ (G : Nat → Part) (src : List (Nat × Int)) (reads : List (List Int)) (writes : List (List (Int × Int))) (writers : List (List Int)) (initial : List Int) (readers : List (List Int)) (next : List Int) (succ : List (List Int)) (pin : List Bool) (rv wv wsv rdv nv sv : Value) (ib nb : Nat), τ 4 = .pointer (some ⟨pb, 0, none⟩) ∧ Split w.heap.size w wi G ∧ HpP G pb n k reads writes writers initial readers next succ pin rv wv wsv rdv nv sv ib nb ∧ Tbl n k A rk k src reads writes writers initial readers next succ ∧ sumLen reads ≤ tot A k ∧ sumLen writes ≤ tot A k ∧ sumLen readers ≤ tot A k ∧ readers.length ≤ tot A k ∧ sumLen succ ≤ 3 * tot A k) k ?_ ?_ ?_
  · refine ⟨0, G, [], _, _, _, _, _, _, _, _, _, _, _, _, _, _, _, _, rfl, Nat.zero_le _, c4_0, c4_4, c4_68, c4_69, c4_70, hsG, hP0, Tbl.start n k A rk, by simp [sumLen_rep], by simp [sumLen_rep], by simp [sumLen_nil], by simp, by simp [sumLen_rep], fun y _ hy => by simp [hy], fun i y f h => by simp at h⟩
  · clear t0 t4 hsG hP0
    rintro Q' r τ wi hnn hx hr ⟨x, G, src, reads, writes, writers, initial, readers, next, succ, pin, rv, wv, wsv, rdv, nv, sv, ib, nb, rfl, hi, t0, t4, t68, t69, t70, hsG, hP, hS, hu1, hu2, hu3, hu4, hu5, hwe, hsx⟩
    refine wp_seq_k (fun K5 hK5 => ?_)
    refine reg ?_
    refine sq rfl (do_lss (tm rfl t70) (tm rfl t69)) ?_
    refine wnil ?_
    refine hK5 _ _ ?_
    clear hK5
    by_cases h : x < k
    · refine wp_seq_k (fun K6 hK6 => ?_)
      refine cT rfl hit (by simpa using h) ?_
      refine wp_skip ?_
      refine hK6 _ _ ?_
      clear hK6
      obtain ⟨bi, oi, rfl, ci⟩ := hit0 x h
      have ci' : wi.cell? ⟨bi, oi + x, none⟩ = some (.string (nm x)) := by rw [hsG.below.cell (World.block_lt_of_cell? w _ ci)]; exact ci
      have hT := tot_mono A (x + 1) (k - (x + 1))
      rw [show x + 1 + (k - (x + 1)) = k by omega] at hT
      have hTx : tot A (x + 1) = tot A x + (A x).length := rfl
      refine wp_seq_k (fun K7 hK7 => ?_)
      refine wp_block ?_
      refine wp_seq_k (fun K8 hK8 => ?_)
      refine reg ?_
      refine sq rfl (do_move (tm rfl (nx rfl t70))) ?_
      refine sq rfl (io52 (tm rfl (nx rfl (nx rfl t68))) (tm rfl (nx rfl (nx rfl t70))) (by omega)) ?_
      refine sq rfl (do_load T9 rfl (tm rfl hit) ci') ?_
      refine sq rfl (do_assign (tm rfl (nx rfl (nx rfl hit)))) ?_
      refine sq rfl (do_assign (tm rfl (nx rfl hit))) ?_
      refine cutL ?_
      intro τ9 e9
      have c9_0 := (congrFun e9 0).trans (nx rfl (nx rfl (nx rfl (nx rfl (nx rfl (nx rfl t0))))))
      have c9_4 := (congrFun e9 4).trans (nx rfl (nx rfl (nx rfl (nx rfl (nx rfl (nx rfl t4))))))
      have c9_5 := (congrFun e9 5).trans (nx rfl hit)
      have c9_6 := (congrFun e9 6).trans hit
      have c9_68 := (congrFun e9 68).trans (nx rfl (nx rfl (nx rfl (nx rfl (nx rfl (nx rfl t68))))))
      have c9_69 := (congrFun e9 69).trans (nx rfl (nx rfl (nx rfl (nx rfl (nx rfl (nx rfl t69))))))
      have c9_70 := (congrFun e9 70).trans (nx rfl (nx rfl (nx rfl (nx rfl (nx rfl (nx rfl t70))))))
      clear e9
      refine wnil ?_
      refine hK8 _ _ ?_
      clear hK8
      refine wp_seq_k (fun K10 hK10 => ?_)
      refine reg ?_
      refine sq rfl do_makeMap ?_
      refine sq rfl (do_assign (tm rfl hit)) ?_
      refine cutW ?_
      intro τ11 e11 xa hxa
      have c11_0 := (congrFun e11 0).trans (nx rfl (nx rfl c9_0))
      have c11_4 := (congrFun e11 4).trans (nx rfl (nx rfl c9_4))
      have c11_5 := (congrFun e11 5).trans (nx rfl (nx rfl c9_5))
      have c11_6 := (congrFun e11 6).trans (nx rfl (nx rfl c9_6))
      have c11_7 := (congrFun e11 7).trans hit
      have c11_68 := (congrFun e11 68).trans (nx rfl (nx rfl c9_68))
      have c11_69 := (congrFun e11 69).trans (nx rfl (nx rfl c9_69))
      have c11_70 := (congrFun e11 70).trans (nx rfl (nx rfl c9_70))
      clear e11
      refine wnil ?_
      refine hK10 _ _ ?_
      clear hK10
      obtain ⟨G1, k1, hs1, mf1⟩ := mapN hsG 30 ik
      have hs1' : Split w.heap.size w xa G1 := by rw [hxa]; exact hs1
      clear hs1 hxa
      generalize wi.heap.size = bF at *
      refine wp_seq_k (fun K12 hK12 => ?_)
      refine reg ?_
      refine sq rfl (do_assign ck) ?_
      refine wnil ?_
      refine hK12 _ _ ?_
      clear hK12
      refine wp_seq_k (fun K13 hK13 => ?_)
      refine reg ?_
      refine sq rfl do_makeMap ?_
      refine sq rfl (do_assign (tm rfl hit)) ?_
      refine cutW ?_
      intro τ14 e14 xb hxb
      have c14_0 := (congrFun e14 0).trans (nx rfl (nx rfl (nx rfl c11_0)))
      have c14_4 := (congrFun e14 4).trans (nx rfl (nx rfl (nx rfl c11_4)))
      have c14_5 := (congrFun e14 5).trans (nx rfl (nx rfl (nx rfl c11_5)))
      have c14_6 := (congrFun e14 6).trans (nx rfl (nx rfl (nx rfl c11_6)))
      have c14_7 := (congrFun e14 7).trans (nx rfl (nx rfl (nx rfl c11_7)))
      have c14_8 := (congrFun e14 8).trans (nx rfl (nx rfl hit))
      have c14_9 := (congrFun e14 9).trans hit
      have c14_68 := (congrFun e14 68).trans (nx rfl (nx rfl (nx rfl c11_68)))
      have c14_69 := (congrFun e14 69).trans (nx rfl (nx rfl (nx rfl c11_69)))
      have c14_70 := (congrFun e14 70).trans (nx rfl (nx rfl (nx rfl c11_70)))
      clear e14
      refine wnil ?_
      refine hK13 _ _ ?_
      clear hK13
      obtain ⟨G2, k2, hs2, mo2⟩ := mapN hs1' 32 ik
      have hs2' : Split w.heap.size w xb G2 := by rw [hxb]; exact hs2
      clear hs2 hxb
      generalize xa.heap.size = bO at *
      refine wp_seq_k (fun K15 hK15 => ?_)
      refine reg ?_
      refine sq rfl do_makeMap ?_
      refine sq rfl (do_assign (tm rfl hit)) ?_
      refine cutW ?_
      intro τ16 e16 xc hxc
      have c16_0 := (congrFun e16 0).trans (nx rfl (nx rfl c14_0))
      have c16_4 := (congrFun e16 4).trans (nx rfl (nx rfl c14_4))
      have c16_5 := (congrFun e16 5).trans (nx rfl (nx rfl c14_5))
      have c16_6 := (congrFun e16 6).trans (nx rfl (nx rfl c14_6))
      have c16_7 := (congrFun e16 7).trans (nx rfl (nx rfl c14_7))
      have c16_8 := (congrFun e16 8).trans (nx rfl (nx rfl c14_8))
      have c16_9 := (congrFun e16 9).trans (nx rfl (nx rfl c14_9))
      have c16_10 := (congrFun e16 10).trans hit
      have c16_68 := (congrFun e16 68).trans (nx rfl (nx rfl c14_68))
      have c16_69 := (congrFun e16 69).trans (nx rfl (nx rfl c14_69))
      have c16_70 := (congrFun e16 70).trans (nx rfl (nx rfl c14_70))
      clear e16
      refine wnil ?_
      refine hK15 _ _ ?_
      clear hK15
      obtain ⟨G3, k3, hs3, mb3⟩ := mapN hs2' 33 ik
      have hs3' : Split w.heap.size w xc G3 := by rw [hxc]; exact hs3
      clear hs3 hxc
      generalize xb.heap.size = bB at *
      have mf3 : MapV (G3 30) bF ik [] := by rw [k3 30 (by decide), k2 30 (by decide)]; exact mf1
      have mo3 : MapV (G3 32) bO ik [] := by rw [k3 32 (by decide)]; exact mo2
      have hP3 := ((hP.same k1 (by decide)).same k2 (by decide)).same k3 (by decide)
      clear hsG hP hs1' hs2' k1 k2 k3 mf1 mo2
      obtain ⟨es, clock, hmb, hes⟩ := hmap
      have hmb' : xc.heap[mb]? = some (.map es clock) := by rw [hs3'.below.block mb (Array.getElem?_eq_some_iff.1 hmb).1]; exact hmb
      obtain ⟨hav1, aa, ac, hav2, hcell⟩ := hav x h
      refine wp_seq_k (fun K17 hK17 => ?_)
      refine reg ?_
      refine sq rfl (do_assign ck) ?_
      refine wnil ?_
      refine hK17 _ _ ?_
      clear hK17
      refine wp_seq_k (fun K18 hK18 => ?_)
      refine wp_seq_k (fun K19 hK19 => ?_)
      refine reg ?_
      refine sq rfl (do_move (tm rfl (nx rfl c16_0))) ?_
      refine sq rfl (do_nilCheck (tm rfl hit)) ?_
      refine sq rfl (fa79_2 (tm rfl hit)) ?_
      refine sq rfl (do_load T76 rfl (tm rfl hit) ((hs3'.below.cell hlt).trans hg2)) ?_
      refine sq rfl (do_move (tm rfl (nx rfl (nx rfl (nx rfl (nx rfl (nx rfl c16_6))))))) ?_
      refine sq rfl ((do_lookup1 Try.underlying76 (tm rfl (nx rfl hit)) (tm rfl hit) hmb' (keyStr.ck xc (nm x)) (keyStr.find xc (nm x) _ lA hes) (T80.run_zero xc)).cast (show _ = Value.slice aa (A x).length ac by rw [← hav2]; exact congrArg (fun o => Option.getD o _) hav1)) ?_
      refine sq rfl (do_len Try.underlying80 (tm rfl hit)) ?_
      refine sq rfl (do_move (v := .int .i64 ((0 : Nat) : Int)) rfl) ?_
      refine cutL ?_
      intro τ20 e20
      have c20_0 := (congrFun e20 0).trans (nx rfl (nx rfl (nx rfl (nx rfl (nx rfl (nx rfl (nx rfl (nx rfl (nx rfl c16_0)))))))))
      have c20_4 := (congrFun e20 4).trans (nx rfl (nx rfl (nx rfl (nx rfl (nx rfl (nx rfl (nx rfl (nx rfl (nx rfl c16_4)))))))))
      have c20_5 := (congrFun e20 5).trans (nx rfl (nx rfl (nx rfl (nx rfl (nx rfl (nx rfl (nx rfl (nx rfl (nx rfl c16_5)))))))))
      have c20_6 := (congrFun e20 6).trans (nx rfl (nx rfl (nx rfl (nx rfl (nx rfl (nx rfl (nx rfl (nx rfl (nx rfl c16_6)))))))))
      have c20_7 := (congrFun e20 7).trans (nx rfl (nx rfl (nx rfl (nx rfl (nx rfl (nx rfl (nx rfl (nx rfl (nx rfl c16_7)))))))))
      have c20_8 := (congrFun e20 8).trans (nx rfl (nx rfl (nx rfl (nx rfl (nx rfl (nx rfl (nx rfl (nx rfl (nx rfl c16_8)))))))))
      have c20_9 := (congrFun e20 9).trans (nx rfl (nx rfl (nx rfl (nx rfl (nx rfl (nx rfl (nx rfl (nx rfl (nx rfl c16_9)))))))))
      have c20_10 := (congrFun e20 10).trans (nx rfl (nx rfl (nx rfl (nx rfl (nx rfl (nx rfl (nx rfl (nx rfl (nx rfl c16_10)))))))))
      have c20_11 := (congrFun e20 11).trans (nx rfl (nx rfl (nx rfl (nx rfl (nx rfl (nx rfl (nx rfl (nx rfl hit))))))))
      have c20_68 := (congrFun e20 68).trans (nx rfl (nx rfl (nx rfl (nx rfl (nx rfl (nx rfl (nx rfl (nx rfl (nx rfl c16_68)))))))))
      have c20_69 := (congrFun e20 69).trans (nx rfl (nx rfl (nx rfl (nx rfl (nx rfl (nx rfl (nx rfl (nx rfl (nx rfl c16_69)))))))))
      have c20_70 := (congrFun e20 70).trans (nx rfl (nx rfl (nx rfl (nx rfl (nx rfl (nx rfl (nx rfl (nx rfl (nx rfl c16_70)))))))))
      have c20_83 := (congrFun e20 83).trans (nx rfl (nx rfl hit))
      have c20_84 := (congrFun e20 84).trans (nx rfl hit)
      have c20_85 := (congrFun e20 85).trans hit
      clear e20
      refine wnil ?_
      refine hK19 _ _ ?_
      clear hK19
      have hLx := hL x h
      generalize hhh : loc (A x) = hh at *
      have hhm : hh.m = (A x).length := by rw [← hhh]; rfl
      have hat : ∀ i (h : i < (A x).length), hh.nd i = (A x)[i].1 ∧ hh.wr i = (A x)[i].2 := fun i h => by rw [← hhh]; exact loc_at (A x) h
      have hWF : ∀ v, WtF A x v ↔ Wt hh (A x).length v := fun v => by unfold WtF; rw [hhh]
      refine forLoop (N := 405) (fun r τ wi => ∃ (i : Nat) (G : Nat → Part) (writers : List (List Int)) (lf lw lb : List (Int × Value)) (fs : List Int) (fv : Value), r = (A x).length - i ∧ i ≤ (A x).length ∧ τ 0 = .pointer (some ⟨gb, 0, none⟩) ∧ τ 4 = .pointer (some ⟨pb, 0, none⟩) ∧ τ 68 = .slice (some ⟨bi, oi, none⟩) k ic ∧ τ 69 = .int .i64 (k : Int) ∧ τ 70 = .int .i64 (x : Int) ∧ τ 5 = .int .i64 (x : Int) ∧ τ 7 = .map (some bF) ∧ τ 8 = fv ∧ τ 9 = .map (some bO) ∧ τ 10 = .map (some bB) ∧ τ 11 = .int .i64 (lwn hh i) ∧ τ 83 = .slice aa (A x).length ac ∧ τ 84 = .int .i64 ((A x).length : Int) ∧ τ 85 = .int .i64 (i : Int) ∧
          Split w.heap.size w wi G ∧ HpP G pb n k reads writes writers initial readers next succ pin rv wv wsv rdv nv sv ib nb ∧ Tbl n k A rk x src reads writes writers initial readers next succ ∧ MapV (G 30) bF ik lf ∧ MapV (G 32) bO ik lw ∧ MapV (G 33) bB ik lb ∧ RowV (G 31) 3 1 fv fs.length (fs.flatMap encI) ∧ Scan hh rk n i lf lw lb fs ∧ (∀ y, x < y → y < k → writers[y]? = some []) ∧ (∃ row, writers[x]? = some row ∧ row.length ≤ i))
        (fun τ wi => ∃ (G : Nat → Part) (writers : List (List Int)) (lf lw lb : List (Int × Value)) (fs : List Int) (fv : Value), τ 0 = .pointer (some ⟨gb, 0, none⟩) ∧ τ 4 = .pointer (some ⟨pb, 0, none⟩) ∧ τ 68 = .slice (some ⟨bi, oi, none⟩) k ic ∧ τ 69 = .int .i64 (k : Int) ∧ τ 70 = .int .i64 (x : Int) ∧ τ 5 = .int .i64 (x : Int) ∧ τ 7 = .map (some bF) ∧ τ 8 = fv ∧ τ 9 = .map (some bO) ∧ τ 11 = .int .i64 (lwn hh (A x).length) ∧
          Split w.heap.size w wi G ∧ HpP G pb n k reads writes writers initial readers next succ pin rv wv wsv rdv nv sv ib nb ∧ Tbl n k A rk x src reads writes writers initial readers next succ ∧ MapV (G 30) bF ik lf ∧ MapV (G 32) bO ik lw ∧ MapV (G 33) bB ik lb ∧ RowV (G 31) 3 1 fv fs.length (fs.flatMap encI) ∧ Scan hh rk n (A x).length lf lw lb fs ∧ (∀ y, x < y → y < k → writers[y]? = some []) ∧ (∃ row, writers[x]? = some row ∧ row.length ≤ (A x).length)) (A x).length ?_ ?_ ?_
      · exact ⟨0, G3, writers, [], [], [], [], .slice none 0 0, rfl, Nat.zero_le _, c20_0, c20_4, c20_68, c20_69, c20_70, c20_5, c20_7, c20_8, c20_9, c20_10, c20_11, c20_83, c20_84, c20_85, hs3', hP3, hS, mf3, mo3, mb3, RowV.empty, Scan.start, fun y hy hyk => hwe y (by omega) hyk, [], hwe x (Nat.le_refl _) h, Nat.zero_le _⟩
      · clear t0 t4 t68 t69 t70 hs3' hP3 hS mf3 mo3 mb3 hwe ci' hmb'
        rintro Q'' r τ wi hnn' hx' hr' ⟨i, G, writers, lf, lw, lb, fs, fv, rfl, hi', t0, t4, t68, t69, t70, t5, t7, t8, t9, t10, t11, t83, t84, t85, hsG, hP, hS, mf, mo, mbb, hfr, hsc, hwe, row, hrow, hrowl⟩
        refine wp_seq_k (fun K21 hK21 => ?_)
        refine reg ?_
        refine sq rfl (do_lss (tm rfl t85) (tm rfl t84)) ?_
        refine wnil ?_
        refine hK21 _ _ ?_
        clear hK21
        by_cases h' : i < (A x).length
        · refine wp_seq_k (fun K22 hK22 => ?_)
          refine cT rfl hit (by simpa using h') ?_
          refine wp_skip ?_
          refine hK22 _ _ ?_
          clear hK22
          obtain ⟨ba, oa, rfl, c0, c1⟩ := hcell i h'
          obtain ⟨hnd, hwr⟩ := hat i h'
          rw [← hnd] at c0
          rw [← hwr] at c1
          have c0' : wi.cell? ⟨ba, oa + i * 2, none⟩ = some (.int .i64 (hh.nd i : Int)) := by rw [hsG.below.cell (World.block_lt_of_cell? w _ c0)]; exact c0
          have c1' : wi.cell? ⟨ba, oa + i * 2 + 1, none⟩ = some (.bool (hh.wr i)) := by rw [hsG.below.cell (World.block_lt_of_cell? w _ c1)]; exact c1
          have hvn : hh.nd i < n := hLx.nd i (by omega)
          refine wp_seq_k (fun K23 hK23 => ?_)
          refine wp_block ?_
          refine wp_seq_k (fun K24 hK24 => ?_)
          refine reg ?_
          refine sq rfl (io80 (tm rfl (nx rfl t83)) (tm rfl (nx rfl t85)) (by omega)) ?_
          refine sq rfl (do_load2 T82 fl82 (tm rfl hit) c0' c1') ?_
          refine sq rfl (do_alloc T82) ?_
          refine sqn (do_store2 T82 (tm rfl hit) (tm rfl (nx rfl hit)) rfl rfl (new_cell wi _ _ 0 rfl) (new_cell wi _ _ 1 rfl) (new_frozen wi _ _ 0) (new_frozen wi _ _ 1)) ?_
          refine cutW ?_
          intro τ25 e25 xa hxa
          have c25_0 := (congrFun e25 0).trans (nx rfl (nx rfl (nx rfl (nx rfl t0))))
          have c25_4 := (congrFun e25 4).trans (nx rfl (nx rfl (nx rfl (nx rfl t4))))
          have c25_5 := (congrFun e25 5).trans (nx rfl (nx rfl (nx rfl (nx rfl t5))))
          have c25_7 := (congrFun e25 7).trans (nx rfl (nx rfl (nx rfl (nx rfl t7))))
          have c25_8 := (congrFun e25 8).trans (nx rfl (nx rfl (nx rfl (nx rfl t8))))
          have c25_9 := (congrFun e25 9).trans (nx rfl (nx rfl (nx rfl (nx rfl t9))))
          have c25_10 := (congrFun e25 10).trans (nx rfl (nx rfl (nx rfl (nx rfl t10))))
          have c25_11 := (congrFun e25 11).trans (nx rfl (nx rfl (nx rfl (nx rfl t11))))
          have c25_13 := (congrFun e25 13).trans hit
          have c25_68 := (congrFun e25 68).trans (nx rfl (nx rfl (nx rfl (nx rfl t68))))
          have c25_69 := (congrFun e25 69).trans (nx rfl (nx rfl (nx rfl (nx rfl t69))))
          have c25_70 := (congrFun e25 70).trans (nx rfl (nx rfl (nx rfl (nx rfl t70))))
          have c25_83 := (congrFun e25 83).trans (nx rfl (nx rfl (nx rfl (nx rfl t83))))
          have c25_84 := (congrFun e25 84).trans (nx rfl (nx rfl (nx rfl (nx rfl t84))))
          have c25_85 := (congrFun e25 85).trans (nx rfl (nx rfl (nx rfl (nx rfl t85))))
          clear e25
          refine wnil ?_
          refine hK24 _ _ ?_
          clear hK24
          obtain ⟨G1, k1, hraw, hE⟩ := var2 hsG 29 82 (.int .i64 0) (.bool false) (.int .i64 (hh.nd i : Int)) (.bool (hh.wr i))
          have hs1 : Split w.heap.size w xa G1 := by rw [hxa]; exact hraw
          clear hxa hraw c0 c1 c0' c1'
          generalize wi.heap.size = bL at *
          have hP1 := hP.same k1 (by decide)
          have mf1 : MapV (G1 30) bF ik lf := by rw [k1 30 (by decide)]; exact mf
          have mo1 : MapV (G1 32) bO ik lw := by rw [k1 32 (by decide)]; exact mo
          have mb1 : MapV (G1 33) bB ik lb := by rw [k1 33 (by decide)]; exact mbb
          have hfr1 : RowV (G1 31) 3 1 fv fs.length (fs.flatMap encI) := by rw [k1 31 (by decide)]; exact hfr
          clear hsG hP mf mo mbb hfr k1
          have d0 := hE.cell hs1 (i := 0) rfl
          have d1 := hE.cell hs1 (i := 1) rfl
          obtain ⟨fz, fb, hfz, hfb, hsrc⟩ : ∃ (fz : Int) (fb : Bool), (gI (hh.nd i : Int) lf).getD (.int .i64 0) = .int .i64 fz ∧ (gI (hh.nd i : Int) lf).isSome = fb ∧ (fb = true → SrcS hh rk (hh.nd i) fz) := by
            cases hg : gI (hh.nd i : Int) lf with
            | none => exact ⟨0, false, rfl, rfl, fun h => (by cases h)⟩
            | some u =>
              obtain ⟨f, rfl, hs⟩ := hsc.f _ u hg
              exact ⟨f, true, rfl, rfl, fun _ => hs⟩
          refine wp_seq_k (fun K26 hK26 => ?_)
          refine reg ?_
          refine sq rfl (do_move (tm rfl c25_7)) ?_
          refine sq rfl (fa82_0 (tm rfl (nx rfl c25_13))) ?_
          refine sq rfl (do_load T3 rfl (tm rfl hit) d0) ?_
          refine sq rfl ((MapV.look2 keyI Try.underlying50 zero3 mf1 hs1 (k := (hh.nd i : Int)) (tm rfl (nx rfl (nx rfl hit))) (tm rfl hit)).cast (show _ = Value.tuple #[.int .i64 fz, .bool fb] by rw [← hfz, ← hfb])) ?_
          refine sq rfl (do_move (tm rfl hit)) ?_
          refine sq rfl (do_extract (tm rfl hit) rfl) ?_
          refine sq rfl (do_extract (tm rfl (nx rfl hit)) rfl) ?_
          refine sq rfl (do_assign (tm rfl (nx rfl hit))) ?_
          refine sq rfl (do_assign (tm rfl (nx rfl hit))) ?_
          refine cutL ?_
          intro τ27 e27
          have c27_0 := (congrFun e27 0).trans (nx rfl (nx rfl (nx rfl (nx rfl (nx rfl (nx rfl (nx rfl (nx rfl (nx rfl c25_0)))))))))
          have c27_4 := (congrFun e27 4).trans (nx rfl (nx rfl (nx rfl (nx rfl (nx rfl (nx rfl (nx rfl (nx rfl (nx rfl c25_4)))))))))
          have c27_5 := (congrFun e27 5).trans (nx rfl (nx rfl (nx rfl (nx rfl (nx rfl (nx rfl (nx rfl (nx rfl (nx rfl c25_5)))))))))
          have c27_7 := (congrFun e27 7).trans (nx rfl (nx rfl (nx rfl (nx rfl (nx rfl (nx rfl (nx rfl (nx rfl (nx rfl c25_7)))))))))
          have c27_8 := (congrFun e27 8).trans (nx rfl (nx rfl (nx rfl (nx rfl (nx rfl (nx rfl (nx rfl (nx rfl (nx rfl c25_8)))))))))
          have c27_9 := (congrFun e27 9).trans (nx rfl (nx rfl (nx rfl (nx rfl (nx rfl (nx rfl (nx rfl (nx rfl (nx rfl c25_9)))))))))
          have c27_10 := (congrFun e27 10).trans (nx rfl (nx rfl (nx rfl (nx rfl (nx rfl (nx rfl (nx rfl (nx rfl (nx rfl c25_10)))))))))
          have c27_11 := (congrFun e27 11).trans (nx rfl (nx rfl (nx rfl (nx rfl (nx rfl (nx rfl (nx rfl (nx rfl (nx rfl c25_11)))))))))
          have c27_13 := (congrFun e27 13).trans (nx rfl (nx rfl (nx rfl (nx rfl (nx rfl (nx rfl (nx rfl (nx rfl (nx rfl c25_13)))))))))
          have c27_14 := (congrFun e27 14).trans (nx rfl hit)
          have c27_15 := (congrFun e27 15).trans hit
          have c27_68 := (congrFun e27 68).trans (nx rfl (nx rfl (nx rfl (nx rfl (nx rfl (nx rfl (nx rfl (nx rfl (nx rfl c25_68)))))))))
          have c27_69 := (congrFun e27 69).trans (nx rfl (nx rfl (nx rfl (nx rfl (nx rfl (nx rfl (nx rfl (nx rfl (nx rfl c25_69)))))))))
          have c27_70 := (congrFun e27 70).trans (nx rfl (nx rfl (nx rfl (nx rfl (nx rfl (nx rfl (nx rfl (nx rfl (nx rfl c25_70)))))))))
          have c27_83 := (congrFun e27 83).trans (nx rfl (nx rfl (nx rfl (nx rfl (nx rfl (nx rfl (nx rfl (nx rfl (nx rfl c25_83)))))))))
          have c27_84 := (congrFun e27 84).trans (nx rfl (nx rfl (nx rfl (nx rfl (nx rfl (nx rfl (nx rfl (nx rfl (nx rfl c25_84)))))))))
          have c27_85 := (congrFun e27 85).trans (nx rfl (nx rfl (nx rfl (nx rfl (nx rfl (nx rfl (nx rfl (nx rfl (nx rfl c25_85)))))))))
          clear e27
          refine wnil ?_
          refine hK26 _ _ ?_
          clear hK26
          refine wp_block ?_
          refine wp_seq_k (fun K28 hK28 => ?_)
          refine reg ?_
          refine sq rfl (fa82_1 (tm rfl c27_13)) ?_
          refine sq rfl (do_load T4 rfl (tm rfl hit) d1) ?_
          refine sq rfl (do_assign (tm rfl hit)) ?_
          refine wnil ?_
          refine hK28 _ _ ?_
          clear hK28
          by_cases hw : hh.wr i = true
          · refine cT rfl hit hw ?_
            obtain ⟨cb, hcb, hcb1, _⟩ := lookB (p := Rb hh rk i (hh.nd i)) (fun u hu => hsc.b (hh.nd i) u hu)
            have hcf : cb = false := by
              cases cb with
              | false => rfl
              | true => exact absurd (hcb1 rfl).1 (hLx.no_rewrite (by omega) hw)
            subst hcf
            refine wp_seq_k (fun K29 hK29 => ?_)
            refine wp_seq_k (fun K30 hK30 => ?_)
            refine reg ?_
            refine sq rfl (do_move (tm rfl (nx rfl (nx rfl (nx rfl c27_10))))) ?_
            refine sq rfl (fa82_0 (tm rfl (nx rfl (nx rfl (nx rfl (nx rfl c27_13)))))) ?_
            refine sq rfl (do_load T3 rfl (tm rfl hit) d0) ?_
            refine sq rfl ((MapV.look1 keyI Try.underlying88 zero4 mb1 hs1 (k := (hh.nd i : Int)) (tm rfl (nx rfl (nx rfl hit))) (tm rfl hit)).cast hcb) ?_
            refine cutL ?_
            intro τ31 e31
            have c31_0 := (congrFun e31 0).trans (nx rfl (nx rfl (nx rfl (nx rfl (nx rfl (nx rfl (nx rfl c27_0)))))))
            have c31_4 := (congrFun e31 4).trans (nx rfl (nx rfl (nx rfl (nx rfl (nx rfl (nx rfl (nx rfl c27_4)))))))
            have c31_5 := (congrFun e31 5).trans (nx rfl (nx rfl (nx rfl (nx rfl (nx rfl (nx rfl (nx rfl c27_5)))))))
            have c31_7 := (congrFun e31 7).trans (nx rfl (nx rfl (nx rfl (nx rfl (nx rfl (nx rfl (nx rfl c27_7)))))))
            have c31_8 := (congrFun e31 8).trans (nx rfl (nx rfl (nx rfl (nx rfl (nx rfl (nx rfl (nx rfl c27_8)))))))
            have c31_9 := (congrFun e31 9).trans (nx rfl (nx rfl (nx rfl (nx rfl (nx rfl (nx rfl (nx rfl c27_9)))))))
            have c31_10 := (congrFun e31 10).trans (nx rfl (nx rfl (nx rfl (nx rfl (nx rfl (nx rfl (nx rfl c27_10)))))))
            have c31_11 := (congrFun e31 11).trans (nx rfl (nx rfl (nx rfl (nx rfl (nx rfl (nx rfl (nx rfl c27_11)))))))
            have c31_13 := (congrFun e31 13).trans (nx rfl (nx rfl (nx rfl (nx rfl (nx rfl (nx rfl (nx rfl c27_13)))))))
            have c31_14 := (congrFun e31 14).trans (nx rfl (nx rfl (nx rfl (nx rfl (nx rfl (nx rfl (nx rfl c27_14)))))))
            have c31_15 := (congrFun e31 15).trans (nx rfl (nx rfl (nx rfl (nx rfl (nx rfl (nx rfl (nx rfl c27_15)))))))
            have c31_68 := (congrFun e31 68).trans (nx rfl (nx rfl (nx rfl (nx rfl (nx rfl (nx rfl (nx rfl c27_68)))))))
            have c31_69 := (congrFun e31 69).trans (nx rfl (nx rfl (nx rfl (nx rfl (nx rfl (nx rfl (nx rfl c27_69)))))))
            have c31_70 := (congrFun e31 70).trans (nx rfl (nx rfl (nx rfl (nx rfl (nx rfl (nx rfl (nx rfl c27_70)))))))
            have c31_83 := (congrFun e31 83).trans (nx rfl (nx rfl (nx rfl (nx rfl (nx rfl (nx rfl (nx rfl c27_83)))))))
            have c31_84 := (congrFun e31 84).trans (nx rfl (nx rfl (nx rfl (nx rfl (nx rfl (nx rfl (nx rfl c27_84)))))))
            have c31_85 := (congrFun e31 85).trans (nx rfl (nx rfl (nx rfl (nx rfl (nx rfl (nx rfl (nx rfl c27_85)))))))
            have c31_115 := (congrFun e31 115).trans hit
            clear e31
            refine wnil ?_
            refine hK30 _ _ ?_
            clear hK30
            refine cF rfl c31_115 rfl ?_
            refine wp_skip ?_
            refine hK29 _ _ ?_
            clear hK29
            obtain ⟨cw, hcw, hcw1, hcw2⟩ := lookB (p := Wt hh i (hh.nd i)) (fun u hu => hsc.w1 (hh.nd i) u hu)
            refine wp_seq_k (fun K32 hK32 => ?_)
            refine wp_seq_k (fun K33 hK33 => ?_)
            refine reg ?_
            refine sq rfl (do_move (tm rfl c31_9)) ?_
            refine sq rfl (fa82_0 (tm rfl (nx rfl c31_13))) ?_
            refine sq rfl (do_load T3 rfl (tm rfl hit) d0) ?_
            refine sq rfl ((MapV.look1 keyI Try.underlying88 zero4 mo1 hs1 (k := (hh.nd i : Int)) (tm rfl (nx rfl (nx rfl hit))) (tm rfl hit)).cast hcw) ?_
            refine sq rfl (do_not (tm rfl hit)) ?_
            refine cutL ?_
            intro τ34 e34
            have c34_0 := (congrFun e34 0).trans (nx rfl (nx rfl (nx rfl (nx rfl (nx rfl c31_0)))))
            have c34_4 := (congrFun e34 4).trans (nx rfl (nx rfl (nx rfl (nx rfl (nx rfl c31_4)))))
            have c34_5 := (congrFun e34 5).trans (nx rfl (nx rfl (nx rfl (nx rfl (nx rfl c31_5)))))
            have c34_7 := (congrFun e34 7).trans (nx rfl (nx rfl (nx rfl (nx rfl (nx rfl c31_7)))))
            have c34_8 := (congrFun e34 8).trans (nx rfl (nx rfl (nx rfl (nx rfl (nx rfl c31_8)))))
            have c34_9 := (congrFun e34 9).trans (nx rfl (nx rfl (nx rfl (nx rfl (nx rfl c31_9)))))
            have c34_10 := (congrFun e34 10).trans (nx rfl (nx rfl (nx rfl (nx rfl (nx rfl c31_10)))))
            have c34_11 := (congrFun e34 11).trans (nx rfl (nx rfl (nx rfl (nx rfl (nx rfl c31_11)))))
            have c34_13 := (congrFun e34 13).trans (nx rfl (nx rfl (nx rfl (nx rfl (nx rfl c31_13)))))
            have c34_14 := (congrFun e34 14).trans (nx rfl (nx rfl (nx rfl (nx rfl (nx rfl c31_14)))))
            have c34_15 := (congrFun e34 15).trans (nx rfl (nx rfl (nx rfl (nx rfl (nx rfl c31_15)))))
            have c34_68 := (congrFun e34 68).trans (nx rfl (nx rfl (nx rfl (nx rfl (nx rfl c31_68)))))
            have c34_69 := (congrFun e34 69).trans (nx rfl (nx rfl (nx rfl (nx rfl (nx rfl c31_69)))))
            have c34_70 := (congrFun e34 70).trans (nx rfl (nx rfl (nx rfl (nx rfl (nx rfl c31_70)))))
            have c34_83 := (congrFun e34 83).trans (nx rfl (nx rfl (nx rfl (nx rfl (nx rfl c31_83)))))
            have c34_84 := (congrFun e34 84).trans (nx rfl (nx rfl (nx rfl (nx rfl (nx rfl c31_84)))))
            have c34_85 := (congrFun e34 85).trans (nx rfl (nx rfl (nx rfl (nx rfl (nx rfl c31_85)))))
            have c34_120 := (congrFun e34 120).trans hit
            clear e34
            refine wnil ?_
            refine hK33 _ _ ?_
            clear hK33
            have hlw : lwn hh (i + 1) = (hh.nd i : Int) := by simp [lwn, hw]
            cases cw with
            | true =>
              refine cF rfl c34_120 rfl ?_
              refine wp_skip ?_
              refine hK32 _ _ ?_
              clear hK32
              refine reg ?_
              refine sq rfl (fa82_0 (tm rfl c34_13)) ?_
              refine sq rfl (do_load T3 rfl (tm rfl hit) d0) ?_
              refine sq rfl (do_assign (tm rfl hit)) ?_
              refine wnil ?_
              refine inBN ?_
              refine inBN ?_
              refine hK23 _ _ ?_
              clear hK23
              refine reg ?_
              refine sq rfl (do_inc (tm rfl (nx rfl (nx rfl (nx rfl c34_85)))) ck (by omega)) ?_
              refine sq rfl (do_move (tm rfl hit)) ?_
              refine cutL ?_
              intro τ35 e35
              have c35_0 := (congrFun e35 0).trans (nx rfl (nx rfl (nx rfl (nx rfl (nx rfl c34_0)))))
              have c35_4 := (congrFun e35 4).trans (nx rfl (nx rfl (nx rfl (nx rfl (nx rfl c34_4)))))
              have c35_5 := (congrFun e35 5).trans (nx rfl (nx rfl (nx rfl (nx rfl (nx rfl c34_5)))))
              have c35_7 := (congrFun e35 7).trans (nx rfl (nx rfl (nx rfl (nx rfl (nx rfl c34_7)))))
              have c35_8 := (congrFun e35 8).trans (nx rfl (nx rfl (nx rfl (nx rfl (nx rfl c34_8)))))
              have c35_9 := (congrFun e35 9).trans (nx rfl (nx rfl (nx rfl (nx rfl (nx rfl c34_9)))))
              have c35_10 := (congrFun e35 10).trans (nx rfl (nx rfl (nx rfl (nx rfl (nx rfl c34_10)))))
              have c35_11 := (congrFun e35 11).trans (nx rfl (nx rfl hit))
              have c35_13 := (congrFun e35 13).trans (nx rfl (nx rfl (nx rfl (nx rfl (nx rfl c34_13)))))
              have c35_14 := (congrFun e35 14).trans (nx rfl (nx rfl (nx rfl (nx rfl (nx rfl c34_14)))))
              have c35_15 := (congrFun e35 15).trans (nx rfl (nx rfl (nx rfl (nx rfl (nx rfl c34_15)))))
              have c35_68 := (congrFun e35 68).trans (nx rfl (nx rfl (nx rfl (nx rfl (nx rfl c34_68)))))
              have c35_69 := (congrFun e35 69).trans (nx rfl (nx rfl (nx rfl (nx rfl (nx rfl c34_69)))))
              have c35_70 := (congrFun e35 70).trans (nx rfl (nx rfl (nx rfl (nx rfl (nx rfl c34_70)))))
              have c35_83 := (congrFun e35 83).trans (nx rfl (nx rfl (nx rfl (nx rfl (nx rfl c34_83)))))
              have c35_84 := (congrFun e35 84).trans (nx rfl (nx rfl (nx rfl (nx rfl (nx rfl c34_84)))))
              have c35_85 := (congrFun e35 85).trans hit
              clear e35
              refine wnil ?_
              refine hnn' ((A x).length - (i + 1)) _ _ (by omega) ⟨i + 1, G1, writers, lf, lw, lb, fs, fv, rfl, by omega, c35_0, c35_4, c35_68, c35_69, c35_70, c35_5, c35_7, c35_8, c35_9, c35_10, ?_, c35_83, c35_84, c35_85, hs1, hP1, hS, mf1, mo1, mb1, hfr1, hsc.write hw lw (.inr ⟨(hcw1 rfl).2, rfl⟩), hwe, row, hrow, by omega⟩
              rw [hlw]; exact c35_11
            | false =>
              refine cT rfl c34_120 rfl ?_
              obtain ⟨xb, V32, mo2, hs2, hput⟩ := mo1.put keyI Try.underlying88 hs1 (hh.nd i : Int) (.bool true)
              refine wp_seq_k (fun K36 hK36 => ?_)
              refine reg ?_
              refine sq rfl (do_move (tm rfl c34_9)) ?_
              refine sq rfl (fa82_0 (tm rfl (nx rfl c34_13))) ?_
              refine sq rfl (do_load T3 rfl (tm rfl hit) d0) ?_
              refine sqn (hput _ _ _ _ _ _ _ _ _ (tm rfl (nx rfl (nx rfl hit))) (tm rfl hit) rfl) ?_
              refine wnil ?_
              refine hK36 _ _ ?_
              clear hK36
              have k2 : Same [32] G1 (updH G1 32 V32) := Same.upd (by decide)
              have hP2 := hP1.same k2 (by decide)
              have hE2 := k2.vb (t := 29) (by decide) hE
              have mo2' : MapV (updH G1 32 V32 32) bO ik (putL (fun a b => a == b) (hh.nd i : Int) (.bool true) lw) := mo2
              clear mo2
              generalize updH G1 32 V32 = G2 at *
              have hxw : x < writers.length := by rw [hS.l3]; exact h
              have hrx : (writers[x]'hxw).length ≤ i := by
                rw [List.getElem?_eq_getElem hxw] at hrow
                injection hrow with hrow
                rw [hrow]; exact hrowl
              obtain ⟨g, cap, cell, v', w2, J1, J2, J3, hv, F, FC, hap, hst, j1, j2, j3, g1, g2, g3, hT6⟩ := pushP (f := 2) (t := 4) hP2.p rfl hP2.t4 hs2.drew rfl (by decide) hxw (hh.nd i : Int) (by omega)
              subst hv
              refine draw mixed [14, 15, 17] [(0, 2), (0, 2), (0, 2), (0, 2), (0, 2), (0, 2), (0, 2), (0, 2), (0, 2), (0, 2), (0, 2), (0, 1), (0, 2), (0, 0), (0, 0), (1, 1), (2, 2), (2, 2)] [xb.drew.alloc (.cells #[.int .i64 (hh.nd i : Int)] 3), w2, w2.setCell ⟨g, x, none⟩ v'] (w2.setCell ⟨g, x, none⟩ v') (upd (upd (upd (upd (upd (upd (upd (upd (upd (upd (upd (upd (upd (upd (upd (upd (upd _ 124 _) 125 _) 126 _) 127 _) 128 _) 129 _) 130 _) 131 _) 132 _) 133 _) 134 _) 135 _) 136 _) 137 _) 138 _) 139 _) 140 _) (by kernel_rfl) (fun s hs => ovr_off [(124, _), (125, _), (126, _), (127, _), (128, _), (129, _), (130, _), (131, _), (132, _), (133, _), (134, _), (135, _), (136, _), (137, _), (138, _), (139, _), (140, _)] _ s hs) ⟨(qa rfl (fun _ => (do_move (tm rfl (nx rfl (nx rfl (nx rfl (nx rfl (nx rfl (nx rfl (nx rfl (nx rfl (nx rfl (nx rfl (nx rfl (nx rfl (nx rfl (nx rfl (nx rfl (nx rfl (nx rfl (nx rfl (nx rfl (nx rfl c34_4))))))))))))))))))))))) (nx rfl (nx rfl (nx rfl (nx rfl (nx rfl (nx rfl (nx rfl (nx rfl (nx rfl (nx rfl (nx rfl (nx rfl (nx rfl (nx rfl (nx rfl (nx rfl hit))))))))))))))))), (qa rfl (fun _ => (do_nilCheck (tm rfl (nx rfl (nx rfl (nx rfl (nx rfl (nx rfl (nx rfl (nx rfl (nx rfl (nx rfl (nx rfl (nx rfl (nx rfl (nx rfl (nx rfl (nx rfl (nx rfl hit))))))))))))))))))) (nx rfl (nx rfl (nx rfl (nx rfl (nx rfl (nx rfl (nx rfl (nx rfl (nx rfl (nx rfl (nx rfl (nx rfl (nx rfl (nx rfl (nx rfl hit)))))))))))))))), (qa rfl (fun _ => (fa58_2 (tm rfl (nx rfl (nx rfl (nx rfl (nx rfl (nx rfl (nx rfl (nx rfl (nx rfl (nx rfl (nx rfl (nx rfl (nx rfl (nx rfl (nx rfl (nx rfl hit)))))))))))))))))) (nx rfl (nx rfl (nx rfl (nx rfl (nx rfl (nx rfl (nx rfl (nx rfl (nx rfl (nx rfl (nx rfl (nx rfl (nx rfl (nx rfl hit))))))))))))))), (qr rfl (fun j h1 h2 => (do_load T37 rfl (tm rfl (nx rfl (nx rfl (nx rfl (nx rfl (nx rfl (nx rfl (nx rfl (nx rfl (nx rfl (nx rfl (nx rfl (nx rfl (nx rfl (nx rfl hit))))))))))))))) (F j (by omega)))) (nx rfl (nx rfl (nx rfl (nx rfl (nx rfl (nx rfl (nx rfl (nx rfl (nx rfl (nx rfl (nx rfl (nx rfl (nx rfl hit)))))))))))))), (qa rfl (fun _ => (do_move (tm rfl (nx rfl (nx rfl (nx rfl (nx rfl (nx rfl (nx rfl (nx rfl (nx rfl (nx rfl (nx rfl (nx rfl (nx rfl (nx rfl (nx rfl (nx rfl (nx rfl (nx rfl (nx rfl (nx rfl (nx rfl c34_5))))))))))))))))))))))) (nx rfl (nx rfl (nx rfl (nx rfl (nx rfl (nx rfl (nx rfl (nx rfl (nx rfl (nx rfl (nx rfl (nx rfl hit))))))))))))), (qa rfl (fun _ => (do_move (tm rfl (nx rfl (nx rfl (nx rfl (nx rfl (nx rfl (nx rfl (nx rfl (nx rfl (nx rfl (nx rfl (nx rfl (nx rfl (nx rfl (nx rfl (nx rfl (nx rfl (nx rfl (nx rfl (nx rfl (nx rfl c34_4))))))))))))))))))))))) (nx rfl (nx rfl (nx rfl (nx rfl (nx rfl (nx rfl (nx rfl (nx rfl (nx rfl (nx rfl (nx rfl hit)))))))))))), (qa rfl (fun _ => (do_nilCheck (tm rfl (nx rfl (nx rfl (nx rfl (nx rfl (nx rfl (nx rfl (nx rfl (nx rfl (nx rfl (nx rfl (nx rfl hit)))))))))))))) (nx rfl (nx rfl (nx rfl (nx rfl (nx rfl (nx rfl (nx rfl (nx rfl (nx rfl (nx rfl hit))))))))))), (qa rfl (fun _ => (fa58_2 (tm rfl (nx rfl (nx rfl (nx rfl (nx rfl (nx rfl (nx rfl (nx rfl (nx rfl (nx rfl (nx rfl hit))))))))))))) (nx rfl (nx rfl (nx rfl (nx rfl (nx rfl (nx rfl (nx rfl (nx rfl (nx rfl hit)))))))))), (qr rfl (fun j h1 h2 => (do_load T37 rfl (tm rfl (nx rfl (nx rfl (nx rfl (nx rfl (nx rfl (nx rfl (nx rfl (nx rfl (nx rfl hit)))))))))) (F j (by omega)))) (nx rfl (nx rfl (nx rfl (nx rfl (nx rfl (nx rfl (nx rfl (nx rfl hit))))))))), (qa rfl (fun _ => (do_move (tm rfl (nx rfl (nx rfl (nx rfl (nx rfl (nx rfl (nx rfl (nx rfl (nx rfl (nx rfl (nx rfl (nx rfl (nx rfl (nx rfl (nx rfl (nx rfl (nx rfl (nx rfl (nx rfl (nx rfl (nx rfl c34_5))))))))))))))))))))))) (nx rfl (nx rfl (nx rfl (nx rfl (nx rfl (nx rfl (nx rfl hit)))))))), (qa rfl (fun _ => (ix37 (tm rfl (nx rfl (nx rfl (nx rfl (nx rfl (nx rfl (nx rfl (nx rfl (nx rfl hit))))))))) (tm rfl (nx rfl (nx rfl (nx rfl (nx rfl (nx rfl (nx rfl (nx rfl hit)))))))) (by omega))) (nx rfl (nx rfl (nx rfl (nx rfl (nx rfl (nx rfl hit))))))), (qr rfl (fun j h1 h2 => (do_load T22 rfl (tm rfl (nx rfl (nx rfl (nx rfl (nx rfl (nx rfl (nx rfl hit))))))) (FC j (by omega)))) (nx rfl (nx rfl (nx rfl (nx rfl (nx rfl hit)))))), (qa rfl (fun _ => (fa82_0 (tm rfl (nx rfl (nx rfl (nx rfl (nx rfl (nx rfl (nx rfl (nx rfl (nx rfl (nx rfl (nx rfl (nx rfl (nx rfl (nx rfl (nx rfl (nx rfl (nx rfl (nx rfl (nx rfl (nx rfl (nx rfl c34_13))))))))))))))))))))))) (nx rfl (nx rfl (nx rfl (nx rfl hit))))), (qk rfl (do_load T3 rfl (tm rfl (nx rfl (nx rfl (nx rfl (nx rfl hit))))) (hE2.cell hs2.drew (i := 0) rfl)) (nx rfl (nx rfl (nx rfl hit)))), (ef rfl (do_bs1 T22 T3 rfl (tm rfl (nx rfl (nx rfl (nx rfl hit)))) rfl) (nx rfl (nx rfl hit))), (ef rfl (hap _ _ _ _ _ _ _ _ (tm rfl (nx rfl (nx rfl (nx rfl (nx rfl (nx rfl hit)))))) (tm rfl (nx rfl (nx rfl hit)))) (nx rfl hit)), (qa rfl (fun _ => (ix37 (tm rfl (nx rfl (nx rfl (nx rfl (nx rfl (nx rfl (nx rfl (nx rfl (nx rfl (nx rfl (nx rfl (nx rfl (nx rfl (nx rfl hit)))))))))))))) (tm rfl (nx rfl (nx rfl (nx rfl (nx rfl (nx rfl (nx rfl (nx rfl (nx rfl (nx rfl (nx rfl (nx rfl (nx rfl hit))))))))))))) (by omega))) hit), (en rfl (hst _ _ _ _ _ _ _ _ (tm rfl hit) (tm rfl (nx rfl hit)))), trivial⟩ rfl ?_
              intro τ37 e37
              have c37_0 := (congrFun e37 0).trans (nx rfl (nx rfl (nx rfl (nx rfl (nx rfl (nx rfl (nx rfl (nx rfl (nx rfl (nx rfl (nx rfl (nx rfl (nx rfl (nx rfl (nx rfl (nx rfl (nx rfl (nx rfl (nx rfl (nx rfl c34_0))))))))))))))))))))
              have c37_4 := (congrFun e37 4).trans (nx rfl (nx rfl (nx rfl (nx rfl (nx rfl (nx rfl (nx rfl (nx rfl (nx rfl (nx rfl (nx rfl (nx rfl (nx rfl (nx rfl (nx rfl (nx rfl (nx rfl (nx rfl (nx rfl (nx rfl c34_4))))))))))))))))))))
              have c37_5 := (congrFun e37 5).trans (nx rfl (nx rfl (nx rfl (nx rfl (nx rfl (nx rfl (nx rfl (nx rfl (nx rfl (nx rfl (nx rfl (nx rfl (nx rfl (nx rfl (nx rfl (nx rfl (nx rfl (nx rfl (nx rfl (nx rfl c34_5))))))))))))))))))))
              have c37_7 := (congrFun e37 7).trans (nx rfl (nx rfl (nx rfl (nx rfl (nx rfl (nx rfl (nx rfl (nx rfl (nx rfl (nx rfl (nx rfl (nx rfl (nx rfl (nx rfl (nx rfl (nx rfl (nx rfl (nx rfl (nx rfl (nx rfl c34_7))))))))))))))))))))
              have c37_8 := (congrFun e37 8).trans (nx rfl (nx rfl (nx rfl (nx rfl (nx rfl (nx rfl (nx rfl (nx rfl (nx rfl (nx rfl (nx rfl (nx rfl (nx rfl (nx rfl (nx rfl (nx rfl (nx rfl (nx rfl (nx rfl (nx rfl c34_8))))))))))))))))))))
              have c37_9 := (congrFun e37 9).trans (nx rfl (nx rfl (nx rfl (nx rfl (nx rfl (nx rfl (nx rfl (nx rfl (nx rfl (nx rfl (nx rfl (nx rfl (nx rfl (nx rfl (nx rfl (nx rfl (nx rfl (nx rfl (nx rfl (nx rfl c34_9))))))))))))))))))))
              have c37_10 := (congrFun e37 10).trans (nx rfl (nx rfl (nx rfl (nx rfl (nx rfl (nx rfl (nx rfl (nx rfl (nx rfl (nx rfl (nx rfl (nx rfl (nx rfl (nx rfl (nx rfl (nx rfl (nx rfl (nx rfl (nx rfl (nx rfl c34_10))))))))))))))))))))
              have c37_11 := (congrFun e37 11).trans (nx rfl (nx rfl (nx rfl (nx rfl (nx rfl (nx rfl (nx rfl (nx rfl (nx rfl (nx rfl (nx rfl (nx rfl (nx rfl (nx rfl (nx rfl (nx rfl (nx rfl (nx rfl (nx rfl (nx rfl c34_11))))))))))))))))))))
              have c37_13 := (congrFun e37 13).trans (nx rfl (nx rfl (nx rfl (nx rfl (nx rfl (nx rfl (nx rfl (nx rfl (nx rfl (nx rfl (nx rfl (nx rfl (nx rfl (nx rfl (nx rfl (nx rfl (nx rfl (nx rfl (nx rfl (nx rfl c34_13))))))))))))))))))))
              have c37_14 := (congrFun e37 14).trans (nx rfl (nx rfl (nx rfl (nx rfl (nx rfl (nx rfl (nx rfl (nx rfl (nx rfl (nx rfl (nx rfl (nx rfl (nx rfl (nx rfl (nx rfl (nx rfl (nx rfl (nx rfl (nx rfl (nx rfl c34_14))))))))))))))))))))
              have c37_15 := (congrFun e37 15).trans (nx rfl (nx rfl (nx rfl (nx rfl (nx rfl (nx rfl (nx rfl (nx rfl (nx rfl (nx rfl (nx rfl (nx rfl (nx rfl (nx rfl (nx rfl (nx rfl (nx rfl (nx rfl (nx rfl (nx rfl c34_15))))))))))))))))))))
              have c37_68 := (congrFun e37 68).trans (nx rfl (nx rfl (nx rfl (nx rfl (nx rfl (nx rfl (nx rfl (nx rfl (nx rfl (nx rfl (nx rfl (nx rfl (nx rfl (nx rfl (nx rfl (nx rfl (nx rfl (nx rfl (nx rfl (nx rfl c34_68))))))))))))))))))))
              have c37_69 := (congrFun e37 69).trans (nx rfl (nx rfl (nx rfl (nx rfl (nx rfl (nx rfl (nx rfl (nx rfl (nx rfl (nx rfl (nx rfl (nx rfl (nx rfl (nx rfl (nx rfl (nx rfl (nx rfl (nx rfl (nx rfl (nx rfl c34_69))))))))))))))))))))
              have c37_70 := (congrFun e37 70).trans (nx rfl (nx rfl (nx rfl (nx rfl (nx rfl (nx rfl (nx rfl (nx rfl (nx rfl (nx rfl (nx rfl (nx rfl (nx rfl (nx rfl (nx rfl (nx rfl (nx rfl (nx rfl (nx rfl (nx rfl c34_70))))))))))))))))))))
              have c37_83 := (congrFun e37 83).trans (nx rfl (nx rfl (nx rfl (nx rfl (nx rfl (nx rfl (nx rfl (nx rfl (nx rfl (nx rfl (nx rfl (nx rfl (nx rfl (nx rfl (nx rfl (nx rfl (nx rfl (nx rfl (nx rfl (nx rfl c34_83))))))))))))))))))))
              have c37_84 := (congrFun e37 84).trans (nx rfl (nx rfl (nx rfl (nx rfl (nx rfl (nx rfl (nx rfl (nx rfl (nx rfl (nx rfl (nx rfl (nx rfl (nx rfl (nx rfl (nx rfl (nx rfl (nx rfl (nx rfl (nx rfl (nx rfl c34_84))))))))))))))))))))
              have c37_85 := (congrFun e37 85).trans (nx rfl (nx rfl (nx rfl (nx rfl (nx rfl (nx rfl (nx rfl (nx rfl (nx rfl (nx rfl (nx rfl (nx rfl (nx rfl (nx rfl (nx rfl (nx rfl (nx rfl (nx rfl (nx rfl (nx rfl c34_85))))))))))))))))))))
              clear e37
              refine hK32 _ _ ?_
              clear hK32
              have hP3 := hP2.u4 j3 hT6
              have hE3 := j3.vb (t := 29) (by decide) hE2
              have hwl : WtF A x (hh.nd i) := (hWF _).2 ⟨i, h', hw, rfl⟩
              refine reg ?_
              refine sq rfl (fa82_0 (tm rfl c37_13)) ?_
              refine sq rfl (do_load T3 rfl (tm rfl hit) (hE3.cell g3 (i := 0) rfl)) ?_
              refine sq rfl (do_assign (tm rfl hit)) ?_
              refine wnil ?_
              refine inBN ?_
              refine inBN ?_
              refine hK23 _ _ ?_
              clear hK23
              refine reg ?_
              refine sq rfl (do_inc (tm rfl (nx rfl (nx rfl (nx rfl c37_85)))) ck (by omega)) ?_
              refine sq rfl (do_move (tm rfl hit)) ?_
              refine cutL ?_
              intro τ38 e38
              have c38_0 := (congrFun e38 0).trans (nx rfl (nx rfl (nx rfl (nx rfl (nx rfl c37_0)))))
              have c38_4 := (congrFun e38 4).trans (nx rfl (nx rfl (nx rfl (nx rfl (nx rfl c37_4)))))
              have c38_5 := (congrFun e38 5).trans (nx rfl (nx rfl (nx rfl (nx rfl (nx rfl c37_5)))))
              have c38_7 := (congrFun e38 7).trans (nx rfl (nx rfl (nx rfl (nx rfl (nx rfl c37_7)))))
              have c38_8 := (congrFun e38 8).trans (nx rfl (nx rfl (nx rfl (nx rfl (nx rfl c37_8)))))
              have c38_9 := (congrFun e38 9).trans (nx rfl (nx rfl (nx rfl (nx rfl (nx rfl c37_9)))))
              have c38_10 := (congrFun e38 10).trans (nx rfl (nx rfl (nx rfl (nx rfl (nx rfl c37_10)))))
              have c38_11 := (congrFun e38 11).trans (nx rfl (nx rfl hit))
              have c38_13 := (congrFun e38 13).trans (nx rfl (nx rfl (nx rfl (nx rfl (nx rfl c37_13)))))
              have c38_14 := (congrFun e38 14).trans (nx rfl (nx rfl (nx rfl (nx rfl (nx rfl c37_14)))))
              have c38_15 := (congrFun e38 15).trans (nx rfl (nx rfl (nx rfl (nx rfl (nx rfl c37_15)))))
              have c38_68 := (congrFun e38 68).trans (nx rfl (nx rfl (nx rfl (nx rfl (nx rfl c37_68)))))
              have c38_69 := (congrFun e38 69).trans (nx rfl (nx rfl (nx rfl (nx rfl (nx rfl c37_69)))))
              have c38_70 := (congrFun e38 70).trans (nx rfl (nx rfl (nx rfl (nx rfl (nx rfl c37_70)))))
              have c38_83 := (congrFun e38 83).trans (nx rfl (nx rfl (nx rfl (nx rfl (nx rfl c37_83)))))
              have c38_84 := (congrFun e38 84).trans (nx rfl (nx rfl (nx rfl (nx rfl (nx rfl c37_84)))))
              have c38_85 := (congrFun e38 85).trans hit
              clear e38
              refine wnil ?_
              refine hnn' ((A x).length - (i + 1)) _ _ (by omega) ⟨i + 1, J3, _, lf, _, lb, fs, fv, rfl, by omega, c38_0, c38_4, c38_68, c38_69, c38_70, c38_5, c38_7, c38_8, c38_9, c38_10, ?_, c38_83, c38_84, c38_85, g3, hP3, hS.pushW hxw hvn hwl (by omega), ?_, ?_, ?_, ?_, hsc.write hw _ (.inl rfl), ?_, _, List.getElem?_set_self hxw, ?_⟩
              · rw [hlw]; exact c38_11
              · rw [j3 30 (by decide), k2 30 (by decide)]; exact mf1
              · rw [j3 32 (by decide)]; exact mo2'
              · rw [j3 33 (by decide), k2 33 (by decide)]; exact mb1
              · rw [j3 31 (by decide), k2 31 (by decide)]; exact hfr1
              · intro y hy hyk
                rw [List.getElem?_set_ne (by omega)]; exact hwe y hy hyk
              · simp only [List.length_append, List.length_singleton]; omega
          · have hwf : hh.wr i = false := by simpa using hw
            have hlw : lwn hh (i + 1) = lwn hh i := by simp [lwn, hwf]
            refine cF rfl hit hwf ?_
            obtain ⟨cw, hcw, hcw1, hcw2⟩ := lookB (p := Wt hh i (hh.nd i)) (fun u hu => hsc.w1 (hh.nd i) u hu)
            refine wp_seq_k (fun K39 hK39 => ?_)
            refine reg ?_
            refine sq rfl (do_move (tm rfl (nx rfl (nx rfl (nx rfl c27_9))))) ?_
            refine sq rfl (fa82_0 (tm rfl (nx rfl (nx rfl (nx rfl (nx rfl c27_13)))))) ?_
            refine sq rfl (do_load T3 rfl (tm rfl hit) d0) ?_
            refine sq rfl ((MapV.look1 keyI Try.underlying88 zero4 mo1 hs1 (k := (hh.nd i : Int)) (tm rfl (nx rfl (nx rfl hit))) (tm rfl hit)).cast hcw) ?_
            refine sq rfl (do_assign (tm rfl hit)) ?_
            refine cutL ?_
            intro τ40 e40
            have c40_0 := (congrFun e40 0).trans (nx rfl (nx rfl (nx rfl (nx rfl (nx rfl (nx rfl (nx rfl (nx rfl c27_0))))))))
            have c40_4 := (congrFun e40 4).trans (nx rfl (nx rfl (nx rfl (nx rfl (nx rfl (nx rfl (nx rfl (nx rfl c27_4))))))))
            have c40_5 := (congrFun e40 5).trans (nx rfl (nx rfl (nx rfl (nx rfl (nx rfl (nx rfl (nx rfl (nx rfl c27_5))))))))
            have c40_7 := (congrFun e40 7).trans (nx rfl (nx rfl (nx rfl (nx rfl (nx rfl (nx rfl (nx rfl (nx rfl c27_7))))))))
            have c40_8 := (congrFun e40 8).trans (nx rfl (nx rfl (nx rfl (nx rfl (nx rfl (nx rfl (nx rfl (nx rfl c27_8))))))))
            have c40_9 := (congrFun e40 9).trans (nx rfl (nx rfl (nx rfl (nx rfl (nx rfl (nx rfl (nx rfl (nx rfl c27_9))))))))
            have c40_10 := (congrFun e40 10).trans (nx rfl (nx rfl (nx rfl (nx rfl (nx rfl (nx rfl (nx rfl (nx rfl c27_10))))))))
            have c40_11 := (congrFun e40 11).trans (nx rfl (nx rfl (nx rfl (nx rfl (nx rfl (nx rfl (nx rfl (nx rfl c27_11))))))))
            have c40_13 := (congrFun e40 13).trans (nx rfl (nx rfl (nx rfl (nx rfl (nx rfl (nx rfl (nx rfl (nx rfl c27_13))))))))
            have c40_14 := (congrFun e40 14).trans (nx rfl (nx rfl (nx rfl (nx rfl (nx rfl (nx rfl (nx rfl (nx rfl c27_14))))))))
            have c40_15 := (congrFun e40 15).trans (nx rfl (nx rfl (nx rfl (nx rfl (nx rfl (nx rfl (nx rfl (nx rfl c27_15))))))))
            have c40_68 := (congrFun e40 68).trans (nx rfl (nx rfl (nx rfl (nx rfl (nx rfl (nx rfl (nx rfl (nx rfl c27_68))))))))
            have c40_69 := (congrFun e40 69).trans (nx rfl (nx rfl (nx rfl (nx rfl (nx rfl (nx rfl (nx rfl (nx rfl c27_69))))))))
            have c40_70 := (congrFun e40 70).trans (nx rfl (nx rfl (nx rfl (nx rfl (nx rfl (nx rfl (nx rfl (nx rfl c27_70))))))))
            have c40_83 := (congrFun e40 83).trans (nx rfl (nx rfl (nx rfl (nx rfl (nx rfl (nx rfl (nx rfl (nx rfl c27_83))))))))
            have c40_84 := (congrFun e40 84).trans (nx rfl (nx rfl (nx rfl (nx rfl (nx rfl (nx rfl (nx rfl (nx rfl c27_84))))))))
            have c40_85 := (congrFun e40 85).trans (nx rfl (nx rfl (nx rfl (nx rfl (nx rfl (nx rfl (nx rfl (nx rfl c27_85))))))))
            have c40_143 := (congrFun e40 143).trans hit
            clear e40
            refine wnil ?_
            refine hK39 _ _ ?_
            clear hK39
            cases cw with
            | true =>
              refine cT rfl c40_143 rfl ?_
              have hown := hLx.own (by omega) hwf (hcw1 rfl).1
              refine wp_seq_k (fun K41 hK41 => ?_)
              refine reg ?_
              refine sq rfl (do_move (tm rfl c40_11)) ?_
              refine sq rfl (fa82_0 (tm rfl (nx rfl c40_13))) ?_
              refine sq rfl (do_load T3 rfl (tm rfl hit) d0) ?_
              refine sq rfl (do_neqF (tm rfl (nx rfl (nx rfl hit))) (tm rfl hit) (by rw [hown]; simp)) ?_
              refine cutL ?_
              intro τ42 e42
              have c42_0 := (congrFun e42 0).trans (nx rfl (nx rfl (nx rfl (nx rfl c40_0))))
              have c42_4 := (congrFun e42 4).trans (nx rfl (nx rfl (nx rfl (nx rfl c40_4))))
              have c42_5 := (congrFun e42 5).trans (nx rfl (nx rfl (nx rfl (nx rfl c40_5))))
              have c42_7 := (congrFun e42 7).trans (nx rfl (nx rfl (nx rfl (nx rfl c40_7))))
              have c42_8 := (congrFun e42 8).trans (nx rfl (nx rfl (nx rfl (nx rfl c40_8))))
              have c42_9 := (congrFun e42 9).trans (nx rfl (nx rfl (nx rfl (nx rfl c40_9))))
              have c42_10 := (congrFun e42 10).trans (nx rfl (nx rfl (nx rfl (nx rfl c40_10))))
              have c42_11 := (congrFun e42 11).trans (nx rfl (nx rfl (nx rfl (nx rfl c40_11))))
              have c42_13 := (congrFun e42 13).trans (nx rfl (nx rfl (nx rfl (nx rfl c40_13))))
              have c42_14 := (congrFun e42 14).trans (nx rfl (nx rfl (nx rfl (nx rfl c40_14))))
              have c42_15 := (congrFun e42 15).trans (nx rfl (nx rfl (nx rfl (nx rfl c40_15))))
              have c42_68 := (congrFun e42 68).trans (nx rfl (nx rfl (nx rfl (nx rfl c40_68))))
              have c42_69 := (congrFun e42 69).trans (nx rfl (nx rfl (nx rfl (nx rfl c40_69))))
              have c42_70 := (congrFun e42 70).trans (nx rfl (nx rfl (nx rfl (nx rfl c40_70))))
              have c42_83 := (congrFun e42 83).trans (nx rfl (nx rfl (nx rfl (nx rfl c40_83))))
              have c42_84 := (congrFun e42 84).trans (nx rfl (nx rfl (nx rfl (nx rfl c40_84))))
              have c42_85 := (congrFun e42 85).trans (nx rfl (nx rfl (nx rfl (nx rfl c40_85))))
              have c42_151 := (congrFun e42 151).trans hit
              clear e42
              refine wnil ?_
              refine hK41 _ _ ?_
              clear hK41
              refine cF rfl c42_151 rfl ?_
              refine wp_skip ?_
              refine inBN ?_
              refine inBN ?_
              refine hK23 _ _ ?_
              clear hK23
              refine reg ?_
              refine sq rfl (do_inc (tm rfl c42_85) ck (by omega)) ?_
              refine sq rfl (do_move (tm rfl hit)) ?_
              refine wnil ?_
              refine hnn' ((A x).length - (i + 1)) _ _ (by omega) ⟨i + 1, G1, writers, lf, lw, lb, fs, fv, rfl, by omega, (nx rfl (nx rfl c42_0)), (nx rfl (nx rfl c42_4)), (nx rfl (nx rfl c42_68)), (nx rfl (nx rfl c42_69)), (nx rfl (nx rfl c42_70)), (nx rfl (nx rfl c42_5)), (nx rfl (nx rfl c42_7)), (nx rfl (nx rfl c42_8)), (nx rfl (nx rfl c42_9)), (nx rfl (nx rfl c42_10)), ?_, (nx rfl (nx rfl c42_83)), (nx rfl (nx rfl c42_84)), hit, hs1, hP1, hS, mf1, mo1, mb1, hfr1, hsc.skip hwf, hwe, row, hrow, by omega⟩
              rw [hlw]; exact (nx rfl (nx rfl c42_11))
            | false =>
              refine cF rfl c40_143 rfl ?_
              have hnw : ¬ Wt hh i (hh.nd i) := by
                intro hc
                have h1 := hsc.w2 _ hc
                rw [hcw2 rfl] at h1
                cases h1
              refine wp_seq_k (fun K43 hK43 => ?_)
              refine reg ?_
              refine sq rfl (do_move (tm rfl c40_15)) ?_
              refine sq rfl (do_assign (tm rfl hit)) ?_
              refine wnil ?_
              refine hK43 _ _ ?_
              clear hK43
              cases fb with
              | true =>
                refine cT rfl hit rfl ?_
                have hone := hLx.src_one (hsrc rfl) (hLx.src (by omega) hwf hnw)
                refine wp_seq_k (fun K44 hK44 => ?_)
                refine reg ?_
                refine sq rfl (do_move (tm rfl (nx rfl (nx rfl c40_14)))) ?_
                refine sq rfl (do_move (tm rfl (nx rfl (nx rfl (nx rfl c40_11))))) ?_
                refine sq rfl (do_neqF (tm rfl (nx rfl hit)) (tm rfl hit) (by rw [hone]; simp)) ?_
                refine cutL ?_
                intro τ45 e45
                have c45_0 := (congrFun e45 0).trans (nx rfl (nx rfl (nx rfl (nx rfl (nx rfl c40_0)))))
                have c45_4 := (congrFun e45 4).trans (nx rfl (nx rfl (nx rfl (nx rfl (nx rfl c40_4)))))
                have c45_5 := (congrFun e45 5).trans (nx rfl (nx rfl (nx rfl (nx rfl (nx rfl c40_5)))))
                have c45_7 := (congrFun e45 7).trans (nx rfl (nx rfl (nx rfl (nx rfl (nx rfl c40_7)))))
                have c45_8 := (congrFun e45 8).trans (nx rfl (nx rfl (nx rfl (nx rfl (nx rfl c40_8)))))
                have c45_9 := (congrFun e45 9).trans (nx rfl (nx rfl (nx rfl (nx rfl (nx rfl c40_9)))))
                have c45_10 := (congrFun e45 10).trans (nx rfl (nx rfl (nx rfl (nx rfl (nx rfl c40_10)))))
                have c45_11 := (congrFun e45 11).trans (nx rfl (nx rfl (nx rfl (nx rfl (nx rfl c40_11)))))
                have c45_13 := (congrFun e45 13).trans (nx rfl (nx rfl (nx rfl (nx rfl (nx rfl c40_13)))))
                have c45_14 := (congrFun e45 14).trans (nx rfl (nx rfl (nx rfl (nx rfl (nx rfl c40_14)))))
                have c45_15 := (congrFun e45 15).trans (nx rfl (nx rfl (nx rfl (nx rfl (nx rfl c40_15)))))
                have c45_68 := (congrFun e45 68).trans (nx rfl (nx rfl (nx rfl (nx rfl (nx rfl c40_68)))))
                have c45_69 := (congrFun e45 69).trans (nx rfl (nx rfl (nx rfl (nx rfl (nx rfl c40_69)))))
                have c45_70 := (congrFun e45 70).trans (nx rfl (nx rfl (nx rfl (nx rfl (nx rfl c40_70)))))
                have c45_83 := (congrFun e45 83).trans (nx rfl (nx rfl (nx rfl (nx rfl (nx rfl c40_83)))))
                have c45_84 := (congrFun e45 84).trans (nx rfl (nx rfl (nx rfl (nx rfl (nx rfl c40_84)))))
                have c45_85 := (congrFun e45 85).trans (nx rfl (nx rfl (nx rfl (nx rfl (nx rfl c40_85)))))
                have c45_156 := (congrFun e45 156).trans hit
                clear e45
                refine wnil ?_
                refine hK44 _ _ ?_
                clear hK44
                refine cF rfl c45_156 rfl ?_
                refine wp_skip ?_
                refine inBN ?_
                refine inBN ?_
                refine hK23 _ _ ?_
                clear hK23
                refine reg ?_
                refine sq rfl (do_inc (tm rfl c45_85) ck (by omega)) ?_
                refine sq rfl (do_move (tm rfl hit)) ?_
                refine wnil ?_
                refine hnn' ((A x).length - (i + 1)) _ _ (by omega) ⟨i + 1, G1, writers, lf, lw, lb, fs, fv, rfl, by omega, (nx rfl (nx rfl c45_0)), (nx rfl (nx rfl c45_4)), (nx rfl (nx rfl c45_68)), (nx rfl (nx rfl c45_69)), (nx rfl (nx rfl c45_70)), (nx rfl (nx rfl c45_5)), (nx rfl (nx rfl c45_7)), (nx rfl (nx rfl c45_8)), (nx rfl (nx rfl c45_9)), (nx rfl (nx rfl c45_10)), ?_, (nx rfl (nx rfl c45_83)), (nx rfl (nx rfl c45_84)), hit, hs1, hP1, hS, mf1, mo1, mb1, hfr1, hsc.skip hwf, hwe, row, hrow, by omega⟩
                rw [hlw]; exact (nx rfl (nx rfl c45_11))
              | false =>
                refine cF rfl hit rfl ?_
                have hnew : gI (hh.nd i : Int) lf = none := by
                  cases hg : gI (hh.nd i : Int) lf with
                  | none => rfl
                  | some u => rw [hg] at hfb; cases hfb
                obtain ⟨xb, V30, mf2, hs2, hput⟩ := mf1.put keyI Try.underlying50 hs1 (hh.nd i : Int) (.int .i64 (lwn hh i))
                refine wp_seq_k (fun K46 hK46 => ?_)
                refine reg ?_
                refine sq rfl (do_move (tm rfl (nx rfl (nx rfl c40_7)))) ?_
                refine sq rfl (fa82_0 (tm rfl (nx rfl (nx rfl (nx rfl c40_13))))) ?_
                refine sq rfl (do_load T3 rfl (tm rfl hit) d0) ?_
                refine sq rfl (do_move (tm rfl (nx rfl (nx rfl (nx rfl (nx rfl (nx rfl c40_11))))))) ?_
                refine sqn (hput _ _ _ _ _ _ _ _ _ (tm rfl (nx rfl (nx rfl (nx rfl hit)))) (tm rfl (nx rfl hit)) (tm rfl hit)) ?_
                refine cutL ?_
                intro τ47 e47
                have c47_0 := (congrFun e47 0).trans (nx rfl (nx rfl (nx rfl (nx rfl (nx rfl (nx rfl c40_0))))))
                have c47_4 := (congrFun e47 4).trans (nx rfl (nx rfl (nx rfl (nx rfl (nx rfl (nx rfl c40_4))))))
                have c47_5 := (congrFun e47 5).trans (nx rfl (nx rfl (nx rfl (nx rfl (nx rfl (nx rfl c40_5))))))
                have c47_7 := (congrFun e47 7).trans (nx rfl (nx rfl (nx rfl (nx rfl (nx rfl (nx rfl c40_7))))))
                have c47_8 := (congrFun e47 8).trans (nx rfl (nx rfl (nx rfl (nx rfl (nx rfl (nx rfl c40_8))))))
                have c47_9 := (congrFun e47 9).trans (nx rfl (nx rfl (nx rfl (nx rfl (nx rfl (nx rfl c40_9))))))
                have c47_10 := (congrFun e47 10).trans (nx rfl (nx rfl (nx rfl (nx rfl (nx rfl (nx rfl c40_10))))))
                have c47_11 := (congrFun e47 11).trans (nx rfl (nx rfl (nx rfl (nx rfl (nx rfl (nx rfl c40_11))))))
                have c47_13 := (congrFun e47 13).trans (nx rfl (nx rfl (nx rfl (nx rfl (nx rfl (nx rfl c40_13))))))
                have c47_14 := (congrFun e47 14).trans (nx rfl (nx rfl (nx rfl (nx rfl (nx rfl (nx rfl c40_14))))))
                have c47_15 := (congrFun e47 15).trans (nx rfl (nx rfl (nx rfl (nx rfl (nx rfl (nx rfl c40_15))))))
                have c47_68 := (congrFun e47 68).trans (nx rfl (nx rfl (nx rfl (nx rfl (nx rfl (nx rfl c40_68))))))
                have c47_69 := (congrFun e47 69).trans (nx rfl (nx rfl (nx rfl (nx rfl (nx rfl (nx rfl c40_69))))))
                have c47_70 := (congrFun e47 70).trans (nx rfl (nx rfl (nx rfl (nx rfl (nx rfl (nx rfl c40_70))))))
                have c47_83 := (congrFun e47 83).trans (nx rfl (nx rfl (nx rfl (nx rfl (nx rfl (nx rfl c40_83))))))
                have c47_84 := (congrFun e47 84).trans (nx rfl (nx rfl (nx rfl (nx rfl (nx rfl (nx rfl c40_84))))))
                have c47_85 := (congrFun e47 85).trans (nx rfl (nx rfl (nx rfl (nx rfl (nx rfl (nx rfl c40_85))))))
                clear e47
                refine wnil ?_
                refine hK46 _ _ ?_
                clear hK46
                have k2 : Same [30] G1 (updH G1 30 V30) := Same.upd (by decide)
                have hP2 := hP1.same k2 (by decide)
                have hE2 := k2.vb (t := 29) (by decide) hE
                have mf2' : MapV (updH G1 30 V30 30) bF ik (putL (fun a b => a == b) (hh.nd i : Int) (.int .i64 (lwn hh i)) lf) := mf2
                clear mf2
                generalize updH G1 30 V30 = G2 at *
                have hfr2 : RowV (G2 31) 3 1 fv fs.length (fs.flatMap encI) := by rw [k2 31 (by decide)]; exact hfr1
                obtain ⟨G3, k3, hs3, _⟩ := blkN hs2 28 3 #[.int .i64 (hh.nd i : Int)]
                have hfr3 : RowV (G3 31) 3 1 fv fs.length (fs.flatMap encI) := by rw [k3 31 (by decide)]; exact hfr2
                have hfsl := hsc.fl
                obtain ⟨fv', wd, V31, hap, hs4, hfr4, _, _⟩ := RowV.append T22 T3 rfl (by decide) hfr3 hs3 (a := ⟨xb.heap.size, 0, none⟩) (m := 1) (c := 1) (news := encI (hh.nd i : Int)) rfl (by
                  intro j u hu
                  rw [add_plain, Nat.zero_add]
                  exact new_cell xb #[.int .i64 (hh.nd i : Int)] 3 j hu) (one_I _) (by simp only [maxLen]; omega) (by omega)
                refine wp_seq_k (fun K48 hK48 => ?_)
                refine reg ?_
                refine sq rfl (do_move (tm rfl c47_8)) ?_
                refine sq rfl (fa82_0 (tm rfl (nx rfl c47_13))) ?_
                refine sq rfl (do_load T3 rfl (tm rfl hit) (hE2.cell hs2 (i := 0) rfl)) ?_
                refine sq rfl (do_bs1 T22 T3 rfl (tm rfl hit) rfl) ?_
                refine sq rfl (hap _ _ _ _ _ _ _ _ (tm rfl (nx rfl (nx rfl (nx rfl hit)))) (tm rfl hit)) ?_
                refine sq rfl (do_assign (tm rfl hit)) ?_
                refine cutL ?_
                intro τ49 e49
                have c49_0 := (congrFun e49 0).trans (nx rfl (nx rfl (nx rfl (nx rfl (nx rfl (nx rfl c47_0))))))
                have c49_4 := (congrFun e49 4).trans (nx rfl (nx rfl (nx rfl (nx rfl (nx rfl (nx rfl c47_4))))))
                have c49_5 := (congrFun e49 5).trans (nx rfl (nx rfl (nx rfl (nx rfl (nx rfl (nx rfl c47_5))))))
                have c49_7 := (congrFun e49 7).trans (nx rfl (nx rfl (nx rfl (nx rfl (nx rfl (nx rfl c47_7))))))
                have c49_8 := (congrFun e49 8).trans hit
                have c49_9 := (congrFun e49 9).trans (nx rfl (nx rfl (nx rfl (nx rfl (nx rfl (nx rfl c47_9))))))
                have c49_10 := (congrFun e49 10).trans (nx rfl (nx rfl (nx rfl (nx rfl (nx rfl (nx rfl c47_10))))))
                have c49_11 := (congrFun e49 11).trans (nx rfl (nx rfl (nx rfl (nx rfl (nx rfl (nx rfl c47_11))))))
                have c49_13 := (congrFun e49 13).trans (nx rfl (nx rfl (nx rfl (nx rfl (nx rfl (nx rfl c47_13))))))
                have c49_14 := (congrFun e49 14).trans (nx rfl (nx rfl (nx rfl (nx rfl (nx rfl (nx rfl c47_14))))))
                have c49_15 := (congrFun e49 15).trans (nx rfl (nx rfl (nx rfl (nx rfl (nx rfl (nx rfl c47_15))))))
                have c49_68 := (congrFun e49 68).trans (nx rfl (nx rfl (nx rfl (nx rfl (nx rfl (nx rfl c47_68))))))
                have c49_69 := (congrFun e49 69).trans (nx rfl (nx rfl (nx rfl (nx rfl (nx rfl (nx rfl c47_69))))))
                have c49_70 := (congrFun e49 70).trans (nx rfl (nx rfl (nx rfl (nx rfl (nx rfl (nx rfl c47_70))))))
                have c49_83 := (congrFun e49 83).trans (nx rfl (nx rfl (nx rfl (nx rfl (nx rfl (nx rfl c47_83))))))
                have c49_84 := (congrFun e49 84).trans (nx rfl (nx rfl (nx rfl (nx rfl (nx rfl (nx rfl c47_84))))))
                have c49_85 := (congrFun e49 85).trans (nx rfl (nx rfl (nx rfl (nx rfl (nx rfl (nx rfl c47_85))))))
                clear e49
                refine wnil ?_
                refine hK48 _ _ ?_
                clear hK48
                have k4 : Same [28, 30, 31] G1 (updH G3 31 V31) := (k2.mono (by decide)).trans ((k3.mono (by decide)).trans (Same.upd (by decide)))
                have hP4 := hP1.same k4 (by decide)
                have mf4 : MapV (updH G3 31 V31 30) bF ik (putL (fun a b => a == b) (hh.nd i : Int) (.int .i64 (lwn hh i)) lf) := by
                  show MapV (G3 30) _ _ _
                  rw [k3 30 (by decide)]; exact mf2'
                have mo4 : MapV (updH G3 31 V31 32) bO ik lw := by rw [k4 32 (by decide)]; exact mo1
                have mb4 : MapV (updH G3 31 V31 33) bB ik lb := by rw [k4 33 (by decide)]; exact mb1
                have hfr4' : RowV (updH G3 31 V31 31) 3 1 fv' (fs ++ [(hh.nd i : Int)]).length ((fs ++ [(hh.nd i : Int)]).flatMap encI) := by
                  rw [updH_hit]
                  simpa [List.flatMap_append] using hfr4
                clear k4 hfr4
                generalize updH G3 31 V31 = G4 at *
                refine wp_seq_k (fun K50 hK50 => ?_)
                refine reg ?_
                refine sq rfl (do_move (tm rfl c49_11)) ?_
                refine sq rfl (do_geq (tm rfl hit) ck) ?_
                refine wnil ?_
                refine hK50 _ _ ?_
                clear hK50
                by_cases hneg : lwn hh i < 0
                · refine cF rfl hit (by simpa using hneg) ?_
                  refine wp_skip ?_
                  refine inBN ?_
                  refine inBN ?_
                  refine hK23 _ _ ?_
                  clear hK23
                  refine reg ?_
                  refine sq rfl (do_inc (tm rfl (nx rfl (nx rfl c49_85))) ck (by omega)) ?_
                  refine sq rfl (do_move (tm rfl hit)) ?_
                  refine cutL ?_
                  intro τ51 e51
                  have c51_0 := (congrFun e51 0).trans (nx rfl (nx rfl (nx rfl (nx rfl c49_0))))
                  have c51_4 := (congrFun e51 4).trans (nx rfl (nx rfl (nx rfl (nx rfl c49_4))))
                  have c51_5 := (congrFun e51 5).trans (nx rfl (nx rfl (nx rfl (nx rfl c49_5))))
                  have c51_7 := (congrFun e51 7).trans (nx rfl (nx rfl (nx rfl (nx rfl c49_7))))
                  have c51_8 := (congrFun e51 8).trans (nx rfl (nx rfl (nx rfl (nx rfl c49_8))))
                  have c51_9 := (congrFun e51 9).trans (nx rfl (nx rfl (nx rfl (nx rfl c49_9))))
                  have c51_10 := (congrFun e51 10).trans (nx rfl (nx rfl (nx rfl (nx rfl c49_10))))
                  have c51_11 := (congrFun e51 11).trans (nx rfl (nx rfl (nx rfl (nx rfl c49_11))))
                  have c51_13 := (congrFun e51 13).trans (nx rfl (nx rfl (nx rfl (nx rfl c49_13))))
                  have c51_14 := (congrFun e51 14).trans (nx rfl (nx rfl (nx rfl (nx rfl c49_14))))
                  have c51_15 := (congrFun e51 15).trans (nx rfl (nx rfl (nx rfl (nx rfl c49_15))))
                  have c51_68 := (congrFun e51 68).trans (nx rfl (nx rfl (nx rfl (nx rfl c49_68))))
                  have c51_69 := (congrFun e51 69).trans (nx rfl (nx rfl (nx rfl (nx rfl c49_69))))
                  have c51_70 := (congrFun e51 70).trans (nx rfl (nx rfl (nx rfl (nx rfl c49_70))))
                  have c51_83 := (congrFun e51 83).trans (nx rfl (nx rfl (nx rfl (nx rfl c49_83))))
                  have c51_84 := (congrFun e51 84).trans (nx rfl (nx rfl (nx rfl (nx rfl c49_84))))
                  have c51_85 := (congrFun e51 85).trans hit
                  clear e51
                  refine wnil ?_
                  refine hnn' ((A x).length - (i + 1)) _ _ (by omega) ⟨i + 1, G4, writers, _, lw, lb, _, fv', rfl, by omega, c51_0, c51_4, c51_68, c51_69, c51_70, c51_5, c51_7, c51_8, c51_9, c51_10, ?_, c51_83, c51_84, c51_85, hs4, hP4, hS, mf4, mo4, mb4, hfr4', hsc.first hLx (by omega) hwf hnw hnew lb (.inl ⟨hneg, rfl⟩), hwe, row, hrow, by omega⟩
                  rw [hlw]; exact c51_11
                · refine cT rfl hit (by simp; omega) ?_
                  obtain ⟨xe, V33, mb5, hs5, hput5⟩ := mb4.put keyI Try.underlying88 hs4 (lwn hh i) (.bool true)
                  refine reg ?_
                  refine sq rfl (do_move (tm rfl (nx rfl (nx rfl c49_10)))) ?_
                  refine sq rfl (do_move (tm rfl (nx rfl (nx rfl (nx rfl c49_11))))) ?_
                  refine sqn (hput5 _ _ _ _ _ _ _ _ _ (tm rfl (nx rfl hit)) (tm rfl hit) rfl) ?_
                  refine cutL ?_
                  intro τ52 e52
                  have c52_0 := (congrFun e52 0).trans (nx rfl (nx rfl (nx rfl (nx rfl c49_0))))
                  have c52_4 := (congrFun e52 4).trans (nx rfl (nx rfl (nx rfl (nx rfl c49_4))))
                  have c52_5 := (congrFun e52 5).trans (nx rfl (nx rfl (nx rfl (nx rfl c49_5))))
                  have c52_7 := (congrFun e52 7).trans (nx rfl (nx rfl (nx rfl (nx rfl c49_7))))
                  have c52_8 := (congrFun e52 8).trans (nx rfl (nx rfl (nx rfl (nx rfl c49_8))))
                  have c52_9 := (congrFun e52 9).trans (nx rfl (nx rfl (nx rfl (nx rfl c49_9))))
                  have c52_10 := (congrFun e52 10).trans (nx rfl (nx rfl (nx rfl (nx rfl c49_10))))
                  have c52_11 := (congrFun e52 11).trans (nx rfl (nx rfl (nx rfl (nx rfl c49_11))))
                  have c52_13 := (congrFun e52 13).trans (nx rfl (nx rfl (nx rfl (nx rfl c49_13))))
                  have c52_14 := (congrFun e52 14).trans (nx rfl (nx rfl (nx rfl (nx rfl c49_14))))
                  have c52_15 := (congrFun e52 15).trans (nx rfl (nx rfl (nx rfl (nx rfl c49_15))))
                  have c52_68 := (congrFun e52 68).trans (nx rfl (nx rfl (nx rfl (nx rfl c49_68))))
                  have c52_69 := (congrFun e52 69).trans (nx rfl (nx rfl (nx rfl (nx rfl c49_69))))
                  have c52_70 := (congrFun e52 70).trans (nx rfl (nx rfl (nx rfl (nx rfl c49_70))))
                  have c52_83 := (congrFun e52 83).trans (nx rfl (nx rfl (nx rfl (nx rfl c49_83))))
                  have c52_84 := (congrFun e52 84).trans (nx rfl (nx rfl (nx rfl (nx rfl c49_84))))
                  have c52_85 := (congrFun e52 85).trans (nx rfl (nx rfl (nx rfl (nx rfl c49_85))))
                  clear e52
                  refine wnil ?_
                  refine inBN ?_
                  refine inBN ?_
                  refine hK23 _ _ ?_
                  clear hK23
                  have k5 : Same [33] G4 (updH G4 33 V33) := Same.upd (by decide)
                  refine reg ?_
                  refine sq rfl (do_inc (tm rfl c52_85) ck (by omega)) ?_
                  refine sq rfl (do_move (tm rfl hit)) ?_
                  refine wnil ?_
                  refine hnn' ((A x).length - (i + 1)) _ _ (by omega) ⟨i + 1, updH G4 33 V33, writers, _, lw, _, _, fv', rfl, by omega, (nx rfl (nx rfl c52_0)), (nx rfl (nx rfl c52_4)), (nx rfl (nx rfl c52_68)), (nx rfl (nx rfl c52_69)), (nx rfl (nx rfl c52_70)), (nx rfl (nx rfl c52_5)), (nx rfl (nx rfl c52_7)), (nx rfl (nx rfl c52_8)), (nx rfl (nx rfl c52_9)), (nx rfl (nx rfl c52_10)), ?_, (nx rfl (nx rfl c52_83)), (nx rfl (nx rfl c52_84)), hit, hs5, hP4.same k5 (by decide), hS, ?_, ?_, mb5, ?_, hsc.first hLx (by omega) hwf hnw hnew _ (.inr rfl), hwe, row, hrow, by omega⟩
                  · rw [hlw]; exact (nx rfl (nx rfl c52_11))
                  · rw [k5 30 (by decide)]; exact mf4
                  · rw [k5 32 (by decide)]; exact mo4
                  · rw [k5 31 (by decide)]; exact hfr4'
        · refine wp_seq_k (fun K53 hK53 => ?_)
          refine cF rfl hit (by simpa using h') ?_
          refine wp_exit ?_
          refine thenE ?_
          obtain rfl : i = (A x).length := by omega
          exact hx' _ _ ⟨G, writers, lf, lw, lb, fs, fv, (nx rfl t0), (nx rfl t4), (nx rfl t68), (nx rfl t69), (nx rfl t70), (nx rfl t5), (nx rfl t7), (nx rfl t8), (nx rfl t9), (nx rfl t11), hsG, hP, hS, mf, mo, mbb, hfr, hsc, hwe, row, hrow, by omega⟩
      clear t0 t4 t68 t69 t70 hs3' hP3 hS mf3 mo3 mb3 hwe ci' hmb'
      rintro τ wi ⟨G, writers, lf, lw, lb, fs, fv, t0, t4, t68, t69, t70, t5, t7, t8, t9, t11, hsG, hP, hS, mf, mo, mbb, hfr, hsc, hwe, row, hrow, hrowl⟩
      refine hK18 _ _ ?_
      clear hK18
      obtain ⟨fa, fc, rfl⟩ := hfr.slice
      have hfl := hsc.fl
      have hffl : ∀ q (hq : q < fs.length), ∃ (v : Nat) (f : Int), fs[q] = (v : Int) ∧ v < n ∧ gI (v : Int) lf = some (.int .i64 f) ∧ SrcS hh rk v f := by
        intro q hq
        obtain ⟨v, e, hv, u, hu⟩ := hsc.ff fs[q] (List.getElem_mem _)
        obtain ⟨f, rfl, hs⟩ := hsc.f v u hu
        exact ⟨v, f, e, hv, hu, hs⟩
      refine wp_seq_k (fun K54 hK54 => ?_)
      refine reg ?_
      refine sq rfl do_makeMap ?_
      refine sq rfl (do_alloc T50) ?_
      refine sqn (do_store T50 (tm rfl hit) (tm rfl (nx rfl hit)) rfl (new_cell _ _ _ 0 rfl) (new_frozen _ _ _ 0)) ?_
      refine cutW ?_
      intro τ55 e55 xa hxa
      have c55_0 := (congrFun e55 0).trans (nx rfl (nx rfl t0))
      have c55_4 := (congrFun e55 4).trans (nx rfl (nx rfl t4))
      have c55_5 := (congrFun e55 5).trans (nx rfl (nx rfl t5))
      have c55_7 := (congrFun e55 7).trans (nx rfl (nx rfl t7))
      have c55_8 := (congrFun e55 8).trans (nx rfl (nx rfl t8))
      have c55_9 := (congrFun e55 9).trans (nx rfl (nx rfl t9))
      have c55_11 := (congrFun e55 11).trans (nx rfl (nx rfl t11))
      have c55_16 := (congrFun e55 16).trans hit
      have c55_68 := (congrFun e55 68).trans (nx rfl (nx rfl t68))
      have c55_69 := (congrFun e55 69).trans (nx rfl (nx rfl t69))
      have c55_70 := (congrFun e55 70).trans (nx rfl (nx rfl t70))
      clear e55
      refine wnil ?_
      refine hK54 _ _ ?_
      clear hK54
      obtain ⟨G1, k1, hs1, ms1⟩ := mapN hsG 34 ik
      obtain ⟨G2, k2, hraw, hvs⟩ := var1 hs1 35 50 (.map none) (.map (some wi.heap.size))
      have hs2 : Split w.heap.size w xa G2 := by rw [hxa]; exact hraw
      clear hxa hraw hs1
      generalize (wi.alloc (.map #[] 0)).heap.size = bV at *
      generalize wi.heap.size = bS at *
      have k12 : Same [34, 35] G G2 := (k1.mono (by decide)).trans (k2.mono (by decide))
      have hP2 := hP.same k12 (by decide)
      have mf2 : MapV (G2 30) bF ik lf := by rw [k12 30 (by decide)]; exact mf
      have mo2 : MapV (G2 32) bO ik lw := by rw [k12 32 (by decide)]; exact mo
      have ms2 : MapV (G2 34) bS ik [] := by rw [k2 34 (by decide)]; exact ms1
      have hfr2 : RowV (G2 31) 3 1 (.slice fa fs.length fc) fs.length (fs.flatMap encI) := by rw [k12 31 (by decide)]; exact hfr
      clear hsG hP mf mo mbb hfr k1 k2 k12 ms1
      refine wp_seq_k (fun K56 hK56 => ?_)
      refine wp_seq_k (fun K57 hK57 => ?_)
      refine reg ?_
      refine sq rfl (do_move (tm rfl c55_8)) ?_
      refine sq rfl (do_len Try.underlying22 (tm rfl hit)) ?_
      refine sq rfl (do_move (v := .int .i64 ((0 : Nat) : Int)) rfl) ?_
      refine wnil ?_
      refine hK57 _ _ ?_
      clear hK57
      refine forLoop (N := 405) (fun r τ wi => ∃ (q : Nat) (G : Nat → Part) (src : List (Nat × Int)) (reads readers : List (List Int)) (next : List Int) (succ : List (List Int)) (rdv nv : Value) (ls : List (Int × Value)), r = fs.length - q ∧ q ≤ fs.length ∧ τ 0 = .pointer (some ⟨gb, 0, none⟩) ∧ τ 4 = .pointer (some ⟨pb, 0, none⟩) ∧ τ 68 = .slice (some ⟨bi, oi, none⟩) k ic ∧ τ 69 = .int .i64 (k : Int) ∧ τ 70 = .int .i64 (x : Int) ∧ τ 5 = .int .i64 (x : Int) ∧ τ 7 = .map (some bF) ∧ τ 8 = .slice fa fs.length fc ∧ τ 9 = .map (some bO) ∧ τ 11 = .int .i64 (lwn hh (A x).length) ∧ τ 16 = .pointer (some ⟨bV, 0, none⟩) ∧ τ 159 = .slice fa fs.length fc ∧ τ 160 = .int .i64 (fs.length : Int) ∧ τ 161 = .int .i64 (q : Int) ∧
          Split w.heap.size w wi G ∧ HpP G pb n k reads writes writers initial readers next succ pin rv wv wsv rdv nv sv ib nb ∧ Tbl n k A rk x src reads writes writers initial readers next succ ∧ MapV (G 30) bF ik lf ∧ MapV (G 32) bO ik lw ∧ MapV (G 34) bS ik ls ∧ VB (G 35) bV 50 [.map (some bS)] ∧ RowV (G 31) 3 1 (.slice fa fs.length fc) fs.length (fs.flatMap encI) ∧ (∀ (f : Int) (u : Value), gI f ls = some u → ∃ i : Nat, u = .int .i64 (i : Int) ∧ src[i]? = some (x, f)) ∧ (∀ q', q' < q → ∃ (v : Nat) (f : Int) (i : Nat), fs[q']? = some (v : Int) ∧ gI (v : Int) lf = some (.int .i64 f) ∧ gI f ls = some (.int .i64 (i : Int))) ∧
          (∀ (i v2 : Nat) (f : Int), src[i]? = some (x, f) → next[i]? = some (v2 : Int) → (v2 : Int) ∈ fs.take q) ∧ (∀ (i y : Nat) (f : Int), src[i]? = some (y, f) → y < x + 1) ∧
          sumLen reads ≤ tot A x + q ∧ sumLen readers ≤ tot A x + q ∧ readers.length ≤ tot A x + q ∧ sumLen succ ≤ 3 * tot A x + q)
        (fun τ wi => ∃ (G : Nat → Part) (src : List (Nat × Int)) (reads readers : List (List Int)) (next : List Int) (succ : List (List Int)) (rdv nv : Value) (ls : List (Int × Value)), τ 0 = .pointer (some ⟨gb, 0, none⟩) ∧ τ 4 = .pointer (some ⟨pb, 0, none⟩) ∧ τ 68 = .slice (some ⟨bi, oi, none⟩) k ic ∧ τ 69 = .int .i64 (k : Int) ∧ τ 70 = .int .i64 (x : Int) ∧ τ 5 = .int .i64 (x : Int) ∧ τ 7 = .map (some bF) ∧ τ 8 = .slice fa fs.length fc ∧ τ 9 = .map (some bO) ∧ τ 11 = .int .i64 (lwn hh (A x).length) ∧ τ 16 = .pointer (some ⟨bV, 0, none⟩) ∧
          Split w.heap.size w wi G ∧ HpP G pb n k reads writes writers initial readers next succ pin rv wv wsv rdv nv sv ib nb ∧ Tbl n k A rk x src reads writes writers initial readers next succ ∧ MapV (G 30) bF ik lf ∧ MapV (G 32) bO ik lw ∧ MapV (G 34) bS ik ls ∧ VB (G 35) bV 50 [.map (some bS)] ∧ RowV (G 31) 3 1 (.slice fa fs.length fc) fs.length (fs.flatMap encI) ∧ (∀ (f : Int) (u : Value), gI f ls = some u → ∃ i : Nat, u = .int .i64 (i : Int) ∧ src[i]? = some (x, f)) ∧ (∀ q', q' < fs.length → ∃ (v : Nat) (f : Int) (i : Nat), fs[q']? = some (v : Int) ∧ gI (v : Int) lf = some (.int .i64 f) ∧ gI f ls = some (.int .i64 (i : Int))) ∧
          (∀ (i y : Nat) (f : Int), src[i]? = some (y, f) → y < x + 1) ∧
          sumLen reads ≤ tot A (x + 1) ∧ sumLen readers ≤ tot A (x + 1) ∧ readers.length ≤ tot A (x + 1) ∧ sumLen succ ≤ 3 * tot A x + (A x).length) fs.length ?_ ?_ ?_
      · refine ⟨0, G2, src, reads, readers, next, succ, rdv, nv, [], rfl, Nat.zero_le _, (nx rfl (nx rfl (nx rfl c55_0))), (nx rfl (nx rfl (nx rfl c55_4))), (nx rfl (nx rfl (nx rfl c55_68))), (nx rfl (nx rfl (nx rfl c55_69))), (nx rfl (nx rfl (nx rfl c55_70))), (nx rfl (nx rfl (nx rfl c55_5))), (nx rfl (nx rfl (nx rfl c55_7))), (nx rfl (nx rfl (nx rfl c55_8))), (nx rfl (nx rfl (nx rfl c55_9))), (nx rfl (nx rfl (nx rfl c55_11))), (nx rfl (nx rfl (nx rfl c55_16))), (nx rfl (nx rfl hit)), (nx rfl hit), hit, hs2, hP2, hS, mf2, mo2, ms2, hvs, hfr2, fun f u hu => (by cases hu), fun q' hq => (by omega), fun i v2 f hsi _ => ?_, fun i y f hsi => ?_, hu1, hu3, hu4, hu5⟩
        · have := hsx i x f hsi; omega
        · have := hsx i y f hsi; omega
      · clear t0 t4 t68 t69 t70 t5 t7 t8 t9 t11 hs2 hP2 hS mf2 mo2 ms2 hvs hfr2 hu1 hu3 hu4 hu5 hsx
        rintro Q'' r τ wi hnn' hx' hr' ⟨q, G, src, reads, readers, next, succ, rdv, nv, ls, rfl, hq, t0, t4, t68, t69, t70, t5, t7, t8, t9, t11, t16, t159, t160, t161, hsG, hP, hS, mf, mo, ms, hvs, hfr, hSM, hSC, hNX, hsx, hv1, hv3, hv4, hv5⟩
        refine wp_seq_k (fun K58 hK58 => ?_)
        refine reg ?_
        refine sq rfl (do_lss (tm rfl t161) (tm rfl t160)) ?_
        refine wnil ?_
        refine hK58 _ _ ?_
        clear hK58
        by_cases h' : q < fs.length
        · refine wp_seq_k (fun K59 hK59 => ?_)
          refine cT rfl hit (by simpa using h') ?_
          refine wp_skip ?_
          refine hK59 _ _ ?_
          clear hK59
          obtain ⟨v, f, hfq, hvn, hlf, hsrc⟩ := hffl q h'
          obtain ⟨g0, rfl, f1, _⟩ := hfr.cellS hsG (cellI h')
          rw [hfq] at f1
          have hfz : (gI (v : Int) lf).getD (.int .i64 0) = .int .i64 f := by rw [hlf]; rfl
          have hq? : fs[q]? = some (v : Int) := by rw [List.getElem?_eq_getElem h', hfq]
          refine wp_seq_k (fun K60 hK60 => ?_)
          refine wp_block ?_
          refine wp_seq_k (fun K61 hK61 => ?_)
          refine reg ?_
          refine sq rfl (ix22 (tm rfl (nx rfl t159)) (tm rfl (nx rfl t161)) (by omega)) ?_
          refine sq rfl (do_load T3 rfl (tm rfl hit) f1) ?_
          refine sq rfl (do_assign (tm rfl hit)) ?_
          refine cutL ?_
          intro τ62 e62
          have c62_0 := (congrFun e62 0).trans (nx rfl (nx rfl (nx rfl (nx rfl t0))))
          have c62_4 := (congrFun e62 4).trans (nx rfl (nx rfl (nx rfl (nx rfl t4))))
          have c62_5 := (congrFun e62 5).trans (nx rfl (nx rfl (nx rfl (nx rfl t5))))
          have c62_7 := (congrFun e62 7).trans (nx rfl (nx rfl (nx rfl (nx rfl t7))))
          have c62_8 := (congrFun e62 8).trans (nx rfl (nx rfl (nx rfl (nx rfl t8))))
          have c62_9 := (congrFun e62 9).trans (nx rfl (nx rfl (nx rfl (nx rfl t9))))
          have c62_11 := (congrFun e62 11).trans (nx rfl (nx rfl (nx rfl (nx rfl t11))))
          have c62_16 := (congrFun e62 16).trans (nx rfl (nx rfl (nx rfl (nx rfl t16))))
          have c62_18 := (congrFun e62 18).trans hit
          have c62_68 := (congrFun e62 68).trans (nx rfl (nx rfl (nx rfl (nx rfl t68))))
          have c62_69 := (congrFun e62 69).trans (nx rfl (nx rfl (nx rfl (nx rfl t69))))
          have c62_70 := (congrFun e62 70).trans (nx rfl (nx rfl (nx rfl (nx rfl t70))))
          have c62_159 := (congrFun e62 159).trans (nx rfl (nx rfl (nx rfl (nx rfl t159))))
          have c62_160 := (congrFun e62 160).trans (nx rfl (nx rfl (nx rfl (nx rfl t160))))
          have c62_161 := (congrFun e62 161).trans (nx rfl (nx rfl (nx rfl (nx rfl t161))))
          clear e62
          refine wnil ?_
          refine hK61 _ _ ?_
          clear hK61
          obtain ⟨rr, hrr⟩ : ∃ rr, gI f ls = rr := ⟨_, rfl⟩
          obtain ⟨iz, ib', hlk, hfound, hmiss⟩ : ∃ (iz : Int) (ib' : Bool), Value.tuple #[(gI f ls).getD (.int .i64 0), .bool (gI f ls).isSome] = .tuple #[.int .i64 iz, .bool ib'] ∧ (ib' = true → ∃ i : Nat, iz = (i : Int) ∧ gI f ls = some (.int .i64 (i : Int)) ∧ src[i]? = some (x, f)) ∧ (ib' = false → gI f ls = none) := by
            cases hg : gI f ls with
            | none => exact ⟨0, false, rfl, fun h => (by cases h), fun _ => rfl⟩
            | some u =>
              obtain ⟨i, rfl, hsi⟩ := hSM f u hg
              exact ⟨i, true, rfl, fun _ => ⟨i, rfl, rfl, hsi⟩, fun h => (by cases h)⟩
          refine wp_seq_k (fun K63 hK63 => ?_)
          refine reg ?_
          refine sq rfl (do_load T50 rfl (tm rfl c62_16) (hvs.cell hsG (i := 0) rfl)) ?_
          refine sq rfl (do_move (tm rfl (nx rfl c62_7))) ?_
          refine sq rfl (do_move (tm rfl (nx rfl (nx rfl c62_18)))) ?_
          refine sq rfl ((MapV.look1 keyI Try.underlying50 zero3 mf hsG (k := (v : Int)) (tm rfl (nx rfl hit)) (tm rfl hit)).cast hfz) ?_
          refine sq rfl ((MapV.look2 keyI Try.underlying50 zero3 ms hsG (k := f) (tm rfl (nx rfl (nx rfl (nx rfl hit)))) (tm rfl hit)).cast hlk) ?_
          refine sq rfl (do_move (tm rfl hit)) ?_
          refine sq rfl (do_extract (tm rfl hit) rfl) ?_
          refine sq rfl (do_extract (tm rfl (nx rfl hit)) rfl) ?_
          refine sq rfl (do_assign (tm rfl (nx rfl hit))) ?_
          refine sq rfl (do_assign (tm rfl (nx rfl hit))) ?_
          refine cutL ?_
          intro τ64 e64
          have c64_0 := (congrFun e64 0).trans (nx rfl (nx rfl (nx rfl (nx rfl (nx rfl (nx rfl (nx rfl (nx rfl (nx rfl (nx rfl c62_0))))))))))
          have c64_4 := (congrFun e64 4).trans (nx rfl (nx rfl (nx rfl (nx rfl (nx rfl (nx rfl (nx rfl (nx rfl (nx rfl (nx rfl c62_4))))))))))
          have c64_5 := (congrFun e64 5).trans (nx rfl (nx rfl (nx rfl (nx rfl (nx rfl (nx rfl (nx rfl (nx rfl (nx rfl (nx rfl c62_5))))))))))
          have c64_7 := (congrFun e64 7).trans (nx rfl (nx rfl (nx rfl (nx rfl (nx rfl (nx rfl (nx rfl (nx rfl (nx rfl (nx rfl c62_7))))))))))
          have c64_8 := (congrFun e64 8).trans (nx rfl (nx rfl (nx rfl (nx rfl (nx rfl (nx rfl (nx rfl (nx rfl (nx rfl (nx rfl c62_8))))))))))
          have c64_9 := (congrFun e64 9).trans (nx rfl (nx rfl (nx rfl (nx rfl (nx rfl (nx rfl (nx rfl (nx rfl (nx rfl (nx rfl c62_9))))))))))
          have c64_11 := (congrFun e64 11).trans (nx rfl (nx rfl (nx rfl (nx rfl (nx rfl (nx rfl (nx rfl (nx rfl (nx rfl (nx rfl c62_11))))))))))
          have c64_16 := (congrFun e64 16).trans (nx rfl (nx rfl (nx rfl (nx rfl (nx rfl (nx rfl (nx rfl (nx rfl (nx rfl (nx rfl c62_16))))))))))
          have c64_18 := (congrFun e64 18).trans (nx rfl (nx rfl (nx rfl (nx rfl (nx rfl (nx rfl (nx rfl (nx rfl (nx rfl (nx rfl c62_18))))))))))
          have c64_19 := (congrFun e64 19).trans (nx rfl hit)
          have c64_20 := (congrFun e64 20).trans hit
          have c64_68 := (congrFun e64 68).trans (nx rfl (nx rfl (nx rfl (nx rfl (nx rfl (nx rfl (nx rfl (nx rfl (nx rfl (nx rfl c62_68))))))))))
          have c64_69 := (congrFun e64 69).trans (nx rfl (nx rfl (nx rfl (nx rfl (nx rfl (nx rfl (nx rfl (nx rfl (nx rfl (nx rfl c62_69))))))))))
          have c64_70 := (congrFun e64 70).trans (nx rfl (nx rfl (nx rfl (nx rfl (nx rfl (nx rfl (nx rfl (nx rfl (nx rfl (nx rfl c62_70))))))))))
          have c64_159 := (congrFun e64 159).trans (nx rfl (nx rfl (nx rfl (nx rfl (nx rfl (nx rfl (nx rfl (nx rfl (nx rfl (nx rfl c62_159))))))))))
          have c64_160 := (congrFun e64 160).trans (nx rfl (nx rfl (nx rfl (nx rfl (nx rfl (nx rfl (nx rfl (nx rfl (nx rfl (nx rfl c62_160))))))))))
          have c64_161 := (congrFun e64 161).trans (nx rfl (nx rfl (nx rfl (nx rfl (nx rfl (nx rfl (nx rfl (nx rfl (nx rfl (nx rfl c62_161))))))))))
          clear e64
          refine wnil ?_
          refine hK63 _ _ ?_
          clear hK63
          refine seqJ (N := 405) (fun τ wi => ∃ (G : Nat → Part) (src : List (Nat × Int)) (readers : List (List Int)) (next : List Int) (rdv nv : Value) (ls : List (Int × Value)) (i : Nat), τ 0 = .pointer (some ⟨gb, 0, none⟩) ∧ τ 4 = .pointer (some ⟨pb, 0, none⟩) ∧ τ 68 = .slice (some ⟨bi, oi, none⟩) k ic ∧ τ 69 = .int .i64 (k : Int) ∧ τ 70 = .int .i64 (x : Int) ∧ τ 5 = .int .i64 (x : Int) ∧ τ 7 = .map (some bF) ∧ τ 8 = .slice (some ⟨g0, 0, none⟩) fs.length fc ∧ τ 9 = .map (some bO) ∧ τ 11 = .int .i64 (lwn hh (A x).length) ∧ τ 16 = .pointer (some ⟨bV, 0, none⟩) ∧ τ 159 = .slice (some ⟨g0, 0, none⟩) fs.length fc ∧ τ 160 = .int .i64 (fs.length : Int) ∧ τ 161 = .int .i64 (q : Int) ∧ τ 18 = .int .i64 (v : Int) ∧ τ 19 = .int .i64 (i : Int) ∧
              Split w.heap.size w wi G ∧ HpP G pb n k reads writes writers initial readers next succ pin rv wv wsv rdv nv sv ib nb ∧ Tbl n k A rk x src reads writes writers initial readers next succ ∧ MapV (G 30) bF ik lf ∧ MapV (G 32) bO ik lw ∧ MapV (G 34) bS ik ls ∧ VB (G 35) bV 50 [.map (some bS)] ∧ RowV (G 31) 3 1 (.slice (some ⟨g0, 0, none⟩) fs.length fc) fs.length (fs.flatMap encI) ∧ (∀ (f : Int) (u : Value), gI f ls = some u → ∃ i : Nat, u = .int .i64 (i : Int) ∧ src[i]? = some (x, f)) ∧ gI f ls = some (.int .i64 (i : Int)) ∧ src[i]? = some (x, f) ∧ (∀ q', q' < q → ∃ (v : Nat) (f : Int) (i : Nat), fs[q']? = some (v : Int) ∧ gI (v : Int) lf = some (.int .i64 f) ∧ gI f ls = some (.int .i64 (i : Int))) ∧
              (∀ (i v2 : Nat) (f : Int), src[i]? = some (x, f) → next[i]? = some (v2 : Int) → (v2 : Int) ∈ fs.take q) ∧ (∀ (i y : Nat) (f : Int), src[i]? = some (y, f) → y < x + 1) ∧
              sumLen readers ≤ tot A x + q ∧ readers.length ≤ tot A x + q + 1) ?_ ?_
          · intro QJ hJ hE'
            refine wp_seq_k (fun K65 hK65 => ?_)
            refine reg ?_
            refine sq rfl (do_move (tm rfl c64_20)) ?_
            refine sq rfl (do_not (tm rfl hit)) ?_
            refine wnil ?_
            refine hK65 _ _ ?_
            clear hK65
            cases ib' with
            | true =>
              refine cF rfl hit rfl ?_
              refine wp_skip ?_
              obtain ⟨i, rfl, hgi, hsi⟩ := hfound rfl
              exact hJ _ _ ⟨G, src, readers, next, rdv, nv, ls, i, (nx rfl (nx rfl c64_0)), (nx rfl (nx rfl c64_4)), (nx rfl (nx rfl c64_68)), (nx rfl (nx rfl c64_69)), (nx rfl (nx rfl c64_70)), (nx rfl (nx rfl c64_5)), (nx rfl (nx rfl c64_7)), (nx rfl (nx rfl c64_8)), (nx rfl (nx rfl c64_9)), (nx rfl (nx rfl c64_11)), (nx rfl (nx rfl c64_16)), (nx rfl (nx rfl c64_159)), (nx rfl (nx rfl c64_160)), (nx rfl (nx rfl c64_161)), (nx rfl (nx rfl c64_18)), (nx rfl (nx rfl c64_19)), hsG, hP, hS, mf, mo, ms, hvs, hfr, hSM, hgi, hsi, hSC, hNX, hsx, hv3, by omega⟩
            | false =>
              refine cT rfl hit rfl ?_
              obtain ⟨da, dc, rfl⟩ := hP.t6.slice
              have hnone := hmiss rfl
              refine wp_seq_k (fun K66 hK66 => ?_)
              refine reg ?_
              refine sq rfl (do_move (tm rfl (nx rfl (nx rfl c64_4)))) ?_
              refine sq rfl (do_nilCheck (tm rfl hit)) ?_
              refine sq rfl (fa58_4 (tm rfl hit)) ?_
              refine sq rfl (do_load T37 rfl (tm rfl hit) (hP.p.cell hsG (i := 4) rfl)) ?_
              refine sq rfl (do_len Try.underlying37 (tm rfl hit)) ?_
              refine sq rfl (do_assign (tm rfl hit)) ?_
              refine cutL ?_
              intro τ67 e67
              have c67_0 := (congrFun e67 0).trans (nx rfl (nx rfl (nx rfl (nx rfl (nx rfl (nx rfl (nx rfl (nx rfl c64_0))))))))
              have c67_4 := (congrFun e67 4).trans (nx rfl (nx rfl (nx rfl (nx rfl (nx rfl (nx rfl (nx rfl (nx rfl c64_4))))))))
              have c67_5 := (congrFun e67 5).trans (nx rfl (nx rfl (nx rfl (nx rfl (nx rfl (nx rfl (nx rfl (nx rfl c64_5))))))))
              have c67_7 := (congrFun e67 7).trans (nx rfl (nx rfl (nx rfl (nx rfl (nx rfl (nx rfl (nx rfl (nx rfl c64_7))))))))
              have c67_8 := (congrFun e67 8).trans (nx rfl (nx rfl (nx rfl (nx rfl (nx rfl (nx rfl (nx rfl (nx rfl c64_8))))))))
              have c67_9 := (congrFun e67 9).trans (nx rfl (nx rfl (nx rfl (nx rfl (nx rfl (nx rfl (nx rfl (nx rfl c64_9))))))))
              have c67_11 := (congrFun e67 11).trans (nx rfl (nx rfl (nx rfl (nx rfl (nx rfl (nx rfl (nx rfl (nx rfl c64_11))))))))
              have c67_16 := (congrFun e67 16).trans (nx rfl (nx rfl (nx rfl (nx rfl (nx rfl (nx rfl (nx rfl (nx rfl c64_16))))))))
              have c67_18 := (congrFun e67 18).trans (nx rfl (nx rfl (nx rfl (nx rfl (nx rfl (nx rfl (nx rfl (nx rfl c64_18))))))))
              have c67_19 := (congrFun e67 19).trans hit
              have c67_20 := (congrFun e67 20).trans (nx rfl (nx rfl (nx rfl (nx rfl (nx rfl (nx rfl (nx rfl (nx rfl c64_20))))))))
              have c67_68 := (congrFun e67 68).trans (nx rfl (nx rfl (nx rfl (nx rfl (nx rfl (nx rfl (nx rfl (nx rfl c64_68))))))))
              have c67_69 := (congrFun e67 69).trans (nx rfl (nx rfl (nx rfl (nx rfl (nx rfl (nx rfl (nx rfl (nx rfl c64_69))))))))
              have c67_70 := (congrFun e67 70).trans (nx rfl (nx rfl (nx rfl (nx rfl (nx rfl (nx rfl (nx rfl (nx rfl c64_70))))))))
              have c67_159 := (congrFun e67 159).trans (nx rfl (nx rfl (nx rfl (nx rfl (nx rfl (nx rfl (nx rfl (nx rfl c64_159))))))))
              have c67_160 := (congrFun e67 160).trans (nx rfl (nx rfl (nx rfl (nx rfl (nx rfl (nx rfl (nx rfl (nx rfl c64_160))))))))
              have c67_161 := (congrFun e67 161).trans (nx rfl (nx rfl (nx rfl (nx rfl (nx rfl (nx rfl (nx rfl (nx rfl c64_161))))))))
              clear e67
              refine wnil ?_
              refine hK66 _ _ ?_
              clear hK66
              obtain ⟨xb, V34, ms2, hs2, hput⟩ := ms.put keyI Try.underlying50 hsG f (.int .i64 (readers.length : Int))
              refine wp_seq_k (fun K68 hK68 => ?_)
              refine reg ?_
              refine sq rfl (do_load T50 rfl (tm rfl c67_16) (hvs.cell hsG (i := 0) rfl)) ?_
              refine sq rfl (do_move (tm rfl (nx rfl c67_7))) ?_
              refine sq rfl (do_move (tm rfl (nx rfl (nx rfl c67_18)))) ?_
              refine sq rfl ((MapV.look1 keyI Try.underlying50 zero3 mf hsG (k := (v : Int)) (tm rfl (nx rfl hit)) (tm rfl hit)).cast hfz) ?_
              refine sq rfl (do_move (tm rfl (nx rfl (nx rfl (nx rfl (nx rfl c67_19)))))) ?_
              refine sqn (hput _ _ _ _ _ _ _ _ _ (tm rfl (nx rfl (nx rfl (nx rfl (nx rfl hit))))) (tm rfl (nx rfl hit)) (tm rfl hit)) ?_
              refine cutL ?_
              intro τ69 e69
              have c69_0 := (congrFun e69 0).trans (nx rfl (nx rfl (nx rfl (nx rfl (nx rfl c67_0)))))
              have c69_4 := (congrFun e69 4).trans (nx rfl (nx rfl (nx rfl (nx rfl (nx rfl c67_4)))))
              have c69_5 := (congrFun e69 5).trans (nx rfl (nx rfl (nx rfl (nx rfl (nx rfl c67_5)))))
              have c69_7 := (congrFun e69 7).trans (nx rfl (nx rfl (nx rfl (nx rfl (nx rfl c67_7)))))
              have c69_8 := (congrFun e69 8).trans (nx rfl (nx rfl (nx rfl (nx rfl (nx rfl c67_8)))))
              have c69_9 := (congrFun e69 9).trans (nx rfl (nx rfl (nx rfl (nx rfl (nx rfl c67_9)))))
              have c69_11 := (congrFun e69 11).trans (nx rfl (nx rfl (nx rfl (nx rfl (nx rfl c67_11)))))
              have c69_16 := (congrFun e69 16).trans (nx rfl (nx rfl (nx rfl (nx rfl (nx rfl c67_16)))))
              have c69_18 := (congrFun e69 18).trans (nx rfl (nx rfl (nx rfl (nx rfl (nx rfl c67_18)))))
              have c69_19 := (congrFun e69 19).trans (nx rfl (nx rfl (nx rfl (nx rfl (nx rfl c67_19)))))
              have c69_20 := (congrFun e69 20).trans (nx rfl (nx rfl (nx rfl (nx rfl (nx rfl c67_20)))))
              have c69_68 := (congrFun e69 68).trans (nx rfl (nx rfl (nx rfl (nx rfl (nx rfl c67_68)))))
              have c69_69 := (congrFun e69 69).trans (nx rfl (nx rfl (nx rfl (nx rfl (nx rfl c67_69)))))
              have c69_70 := (congrFun e69 70).trans (nx rfl (nx rfl (nx rfl (nx rfl (nx rfl c67_70)))))
              have c69_159 := (congrFun e69 159).trans (nx rfl (nx rfl (nx rfl (nx rfl (nx rfl c67_159)))))
              have c69_160 := (congrFun e69 160).trans (nx rfl (nx rfl (nx rfl (nx rfl (nx rfl c67_160)))))
              have c69_161 := (congrFun e69 161).trans (nx rfl (nx rfl (nx rfl (nx rfl (nx rfl c67_161)))))
              clear e69
              refine wnil ?_
              refine hK68 _ _ ?_
              clear hK68
              have k2 : Same [34] G (updH G 34 V34) := Same.upd (by decide)
              have hP2 := hP.same k2 (by decide)
              obtain ⟨G3, k3, hs3, _⟩ := blkN hs2 28 22 #[.slice none 0 0]
              have hP3 := hP2.same k3 (by decide)
              obtain ⟨rdv', wd, V6, hap, hs4, hT4⟩ := hP3.t6.grow T37 T22 rfl hs3 (a := ⟨xb.heap.size, 0, none⟩) (c := 1) (new_cell xb #[.slice none 0 0] 22 0 rfl) (by omega) (by decide)
              have k4 : Same [6] G3 (updH G3 6 V6) := Same.upd (by decide)
              have hp4 : VB (updH G3 6 V6 1) pb 58 _ := hP3.p
              obtain ⟨G5, k5, hs5, hp5⟩ := hp4.put hs4 4 rdv'
              refine wp_seq_k (fun K70 hK70 => ?_)
              refine reg ?_
              refine sq rfl (do_move (tm rfl c69_4)) ?_
              refine sq rfl (do_move (tm rfl (nx rfl c69_4))) ?_
              refine sq rfl (do_nilCheck (tm rfl hit)) ?_
              refine sq rfl (fa58_4 (tm rfl hit)) ?_
              refine sq rfl (do_load T37 rfl (tm rfl hit) (hP2.p.cell hs2 (i := 4) rfl)) ?_
              refine sq rfl (do_bs1 T37 T22 rfl (v := .slice none 0 0) rfl rfl) ?_
              refine sq rfl (hap _ _ _ _ _ _ _ _ (tm rfl (nx rfl hit)) (tm rfl hit)) ?_
              refine sq rfl (do_nilCheck (tm rfl (nx rfl (nx rfl (nx rfl (nx rfl (nx rfl (nx rfl hit)))))))) ?_
              refine sq rfl (fa58_4 (tm rfl hit)) ?_
              refine sqn (do_store T37 (tm rfl hit) (tm rfl (nx rfl (nx rfl hit))) hT4.one (hp4.cell hs4 (i := 4) rfl) (hp4.frozen hs4 4)) ?_
              refine cutW ?_
              intro τ71 e71 xe hxe
              have c71_0 := (congrFun e71 0).trans (nx rfl (nx rfl (nx rfl (nx rfl (nx rfl (nx rfl (nx rfl (nx rfl (nx rfl c69_0)))))))))
              have c71_4 := (congrFun e71 4).trans (nx rfl (nx rfl (nx rfl (nx rfl (nx rfl (nx rfl (nx rfl (nx rfl (nx rfl c69_4)))))))))
              have c71_5 := (congrFun e71 5).trans (nx rfl (nx rfl (nx rfl (nx rfl (nx rfl (nx rfl (nx rfl (nx rfl (nx rfl c69_5)))))))))
              have c71_7 := (congrFun e71 7).trans (nx rfl (nx rfl (nx rfl (nx rfl (nx rfl (nx rfl (nx rfl (nx rfl (nx rfl c69_7)))))))))
              have c71_8 := (congrFun e71 8).trans (nx rfl (nx rfl (nx rfl (nx rfl (nx rfl (nx rfl (nx rfl (nx rfl (nx rfl c69_8)))))))))
              have c71_9 := (congrFun e71 9).trans (nx rfl (nx rfl (nx rfl (nx rfl (nx rfl (nx rfl (nx rfl (nx rfl (nx rfl c69_9)))))))))
              have c71_11 := (congrFun e71 11).trans (nx rfl (nx rfl (nx rfl (nx rfl (nx rfl (nx rfl (nx rfl (nx rfl (nx rfl c69_11)))))))))
              have c71_16 := (congrFun e71 16).trans (nx rfl (nx rfl (nx rfl (nx rfl (nx rfl (nx rfl (nx rfl (nx rfl (nx rfl c69_16)))))))))
              have c71_18 := (congrFun e71 18).trans (nx rfl (nx rfl (nx rfl (nx rfl (nx rfl (nx rfl (nx rfl (nx rfl (nx rfl c69_18)))))))))
              have c71_19 := (congrFun e71 19).trans (nx rfl (nx rfl (nx rfl (nx rfl (nx rfl (nx rfl (nx rfl (nx rfl (nx rfl c69_19)))))))))
              have c71_20 := (congrFun e71 20).trans (nx rfl (nx rfl (nx rfl (nx rfl (nx rfl (nx rfl (nx rfl (nx rfl (nx rfl c69_20)))))))))
              have c71_68 := (congrFun e71 68).trans (nx rfl (nx rfl (nx rfl (nx rfl (nx rfl (nx rfl (nx rfl (nx rfl (nx rfl c69_68)))))))))
              have c71_69 := (congrFun e71 69).trans (nx rfl (nx rfl (nx rfl (nx rfl (nx rfl (nx rfl (nx rfl (nx rfl (nx rfl c69_69)))))))))
              have c71_70 := (congrFun e71 70).trans (nx rfl (nx rfl (nx rfl (nx rfl (nx rfl (nx rfl (nx rfl (nx rfl (nx rfl c69_70)))))))))
              have c71_159 := (congrFun e71 159).trans (nx rfl (nx rfl (nx rfl (nx rfl (nx rfl (nx rfl (nx rfl (nx rfl (nx rfl c69_159)))))))))
              have c71_160 := (congrFun e71 160).trans (nx rfl (nx rfl (nx rfl (nx rfl (nx rfl (nx rfl (nx rfl (nx rfl (nx rfl c69_160)))))))))
              have c71_161 := (congrFun e71 161).trans (nx rfl (nx rfl (nx rfl (nx rfl (nx rfl (nx rfl (nx rfl (nx rfl (nx rfl c69_161)))))))))
              clear e71
              refine wnil ?_
              refine hK70 _ _ ?_
              clear hK70
              have hs5' : Split w.heap.size w xe G5 := by rw [hxe]; exact hs5
              have hP5 := hP3.u16 (G' := G5) ((k4.mono (by decide)).trans (k5.mono (by decide))) (by rw [k5 6 (by decide), updH_hit]; exact hT4) hp5
              have kA : Same [1, 6, 28, 34] G G5 := (k2.mono (by decide)).trans ((k3.mono (by decide)).trans ((k4.mono (by decide)).trans (k5.mono (by decide))))
              have ms5 : MapV (G5 34) bS ik (putL (fun a b => a == b) f (.int .i64 (readers.length : Int)) ls) := by
                rw [k5 34 (by decide)]
                show MapV (G3 34) _ _ _
                rw [k3 34 (by decide)]; exact ms2
              clear hxe hs5 hp5 hp4 hap hs4 hT4 k4 k5 hs3 hP3 k3 hs2 hP2 k2 ms2 hput
              obtain ⟨na2, nc2, rfl⟩ := hP5.t7.slice
              have hnl := hS.l6
              obtain ⟨G6, k6, hs6, _⟩ := blkN hs5' 28 3 #[.int .i64 (-1)]
              have hP6 := hP5.same k6 (by decide)
              obtain ⟨nv', wg, V7, hap, hs7, hr7, _, _⟩ := RowV.append T22 T3 rfl (by decide) hP6.t7 hs6 (a := ⟨xe.heap.size, 0, none⟩) (m := 1) (c := 1) (news := encI (-1)) rfl (by
                intro j u hu
                rw [add_plain, Nat.zero_add]
                exact new_cell xe #[.int .i64 (-1)] 3 j hu) (one_I _) (by simp only [maxLen]; omega) (by omega)
              have k7 : Same [7] G6 (updH G6 7 V7) := Same.upd (by decide)
              have hp7 : VB (updH G6 7 V7 1) pb 58 _ := hP6.p
              obtain ⟨G8, k8, hs8, hp8⟩ := hp7.put hs7 5 nv'
              refine reg ?_
              refine sq rfl (do_move (tm rfl c71_4)) ?_
              refine sq rfl (do_move (tm rfl (nx rfl c71_4))) ?_
              refine sq rfl (do_nilCheck (tm rfl hit)) ?_
              refine sq rfl (fa58_5 (tm rfl hit)) ?_
              refine sq rfl (do_load T22 rfl (tm rfl hit) (hP5.p.cell hs5' (i := 5) rfl)) ?_
              refine sq rfl (do_bs1 T22 T3 rfl (v := .int .i64 (-1)) rfl rfl) ?_
              refine sq rfl (hap _ _ _ _ _ _ _ _ (tm rfl (nx rfl hit)) (tm rfl hit)) ?_
              refine sq rfl (do_nilCheck (tm rfl (nx rfl (nx rfl (nx rfl (nx rfl (nx rfl (nx rfl hit)))))))) ?_
              refine sq rfl (fa58_5 (tm rfl hit)) ?_
              refine sqn (do_store T22 (tm rfl hit) (tm rfl (nx rfl (nx rfl hit))) hr7.one (hp7.cell hs7 (i := 5) rfl) (hp7.frozen hs7 5)) ?_
              refine cutW ?_
              intro τ72 e72 xg hxg
              have c72_0 := (congrFun e72 0).trans (nx rfl (nx rfl (nx rfl (nx rfl (nx rfl (nx rfl (nx rfl (nx rfl (nx rfl c71_0)))))))))
              have c72_4 := (congrFun e72 4).trans (nx rfl (nx rfl (nx rfl (nx rfl (nx rfl (nx rfl (nx rfl (nx rfl (nx rfl c71_4)))))))))
              have c72_5 := (congrFun e72 5).trans (nx rfl (nx rfl (nx rfl (nx rfl (nx rfl (nx rfl (nx rfl (nx rfl (nx rfl c71_5)))))))))
              have c72_7 := (congrFun e72 7).trans (nx rfl (nx rfl (nx rfl (nx rfl (nx rfl (nx rfl (nx rfl (nx rfl (nx rfl c71_7)))))))))
              have c72_8 := (congrFun e72 8).trans (nx rfl (nx rfl (nx rfl (nx rfl (nx rfl (nx rfl (nx rfl (nx rfl (nx rfl c71_8)))))))))
              have c72_9 := (congrFun e72 9).trans (nx rfl (nx rfl (nx rfl (nx rfl (nx rfl (nx rfl (nx rfl (nx rfl (nx rfl c71_9)))))))))
              have c72_11 := (congrFun e72 11).trans (nx rfl (nx rfl (nx rfl (nx rfl (nx rfl (nx rfl (nx rfl (nx rfl (nx rfl c71_11)))))))))
              have c72_16 := (congrFun e72 16).trans (nx rfl (nx rfl (nx rfl (nx rfl (nx rfl (nx rfl (nx rfl (nx rfl (nx rfl c71_16)))))))))
              have c72_18 := (congrFun e72 18).trans (nx rfl (nx rfl (nx rfl (nx rfl (nx rfl (nx rfl (nx rfl (nx rfl (nx rfl c71_18)))))))))
              have c72_19 := (congrFun e72 19).trans (nx rfl (nx rfl (nx rfl (nx rfl (nx rfl (nx rfl (nx rfl (nx rfl (nx rfl c71_19)))))))))
              have c72_20 := (congrFun e72 20).trans (nx rfl (nx rfl (nx rfl (nx rfl (nx rfl (nx rfl (nx rfl (nx rfl (nx rfl c71_20)))))))))
              have c72_68 := (congrFun e72 68).trans (nx rfl (nx rfl (nx rfl (nx rfl (nx rfl (nx rfl (nx rfl (nx rfl (nx rfl c71_68)))))))))
              have c72_69 := (congrFun e72 69).trans (nx rfl (nx rfl (nx rfl (nx rfl (nx rfl (nx rfl (nx rfl (nx rfl (nx rfl c71_69)))))))))
              have c72_70 := (congrFun e72 70).trans (nx rfl (nx rfl (nx rfl (nx rfl (nx rfl (nx rfl (nx rfl (nx rfl (nx rfl c71_70)))))))))
              have c72_159 := (congrFun e72 159).trans (nx rfl (nx rfl (nx rfl (nx rfl (nx rfl (nx rfl (nx rfl (nx rfl (nx rfl c71_159)))))))))
              have c72_160 := (congrFun e72 160).trans (nx rfl (nx rfl (nx rfl (nx rfl (nx rfl (nx rfl (nx rfl (nx rfl (nx rfl c71_160)))))))))
              have c72_161 := (congrFun e72 161).trans (nx rfl (nx rfl (nx rfl (nx rfl (nx rfl (nx rfl (nx rfl (nx rfl (nx rfl c71_161)))))))))
              clear e72
              refine wnil ?_
              have hs8' : Split w.heap.size w xg G8 := by rw [hxg]; exact hs8
              have hP8 : HpP G8 pb n k reads writes writers initial (readers ++ [[]]) (next ++ [-1]) succ pin rv wv wsv rdv' nv' sv ib nb := by
                refine hP6.u17 ((k7.mono (by decide)).trans (k8.mono (by decide))) ?_ hp8
                rw [k8 7 (by decide), updH_hit]
                simpa [List.flatMap_append] using hr7
              have kB : Same [1, 6, 7, 28, 34] G G8 := (kA.mono (by decide)).trans ((k6.mono (by decide)).trans ((k7.mono (by decide)).trans (k8.mono (by decide))))
              have ms8 : MapV (G8 34) bS ik (putL (fun a b => a == b) f (.int .i64 (readers.length : Int)) ls) := by
                rw [k8 34 (by decide)]
                show MapV (G6 34) _ _ _
                rw [k6 34 (by decide)]; exact ms5
              clear hxg hs8
              have hsl := hS.l7
              refine hJ _ _ ⟨G8, src ++ [(x, f)], readers ++ [[]], next ++ [-1], rdv', nv', _, readers.length, c72_0, c72_4, c72_68, c72_69, c72_70, c72_5, c72_7, c72_8, c72_9, c72_11, c72_16, c72_159, c72_160, c72_161, c72_18, c72_19, hs8', hP8, hS.grow f h, ?_, ?_, ms8, ?_, ?_, ?_, ?_, ?_, ?_, ?_, ?_, ?_, ?_⟩
              · rw [kB 30 (by decide)]; exact mf
              · rw [kB 32 (by decide)]; exact mo
              · exact kB.vb (t := 35) (by decide) hvs
              · rw [kB 31 (by decide)]; exact hfr
              · intro f' u hu
                rw [gI_put] at hu
                by_cases hff : f' = f
                · rw [if_pos hff] at hu
                  injection hu with hu
                  exact ⟨readers.length, hu.symm, by rw [← hsl, List.getElem?_concat_length, hff]⟩
                · rw [if_neg hff] at hu
                  obtain ⟨i, h1, h2⟩ := hSM f' u hu
                  exact ⟨i, h1, by rw [List.getElem?_append_left (List.getElem?_eq_some_iff.1 h2).1]; exact h2⟩
              · rw [gI_put, if_pos rfl]
              · rw [← hsl, List.getElem?_concat_length]
              · intro q' hq'
                obtain ⟨v2, f2, i2, h1, h2, h3⟩ := hSC q' hq'
                refine ⟨v2, f2, i2, h1, h2, ?_⟩
                rw [gI_put]
                by_cases hff : f2 = f
                · rw [hff, hnone] at h3; cases h3
                · rw [if_neg hff]; exact h3
              · intro i v2 f2 h1 h2
                rcases Nat.lt_or_ge i src.length with hlt2 | hge
                · rw [List.getElem?_append_left hlt2] at h1
                  rw [List.getElem?_append_left (by omega)] at h2
                  exact hNX i v2 f2 h1 h2
                · have hi2 : i = next.length := by
                    have := (List.getElem?_eq_some_iff.1 h2).1
                    simp at this
                    omega
                  rw [hi2, List.getElem?_concat_length] at h2
                  injection h2 with h2
                  omega
              · intro i y f2 h1
                rcases Nat.lt_or_ge i src.length with hlt2 | hge
                · rw [List.getElem?_append_left hlt2] at h1
                  exact hsx i y f2 h1
                · rw [List.getElem?_append_right hge] at h1
                  cases hii : i - src.length with
                  | zero =>
                    rw [hii] at h1
                    simp only [List.getElem?_cons_zero, Option.some.injEq, Prod.mk.injEq] at h1
                    omega
                  | succ q2 => rw [hii] at h1; simp at h1
              · rw [sumLen_app]; simp [sumLen_cons, sumLen_nil]; exact hv3
              · simp; omega
          clear t0 t4 t68 t69 t70 t5 t7 t8 t9 t11 t16 t159 t160 t161 hsG hP hS mf mo ms hvs hfr hSM hSC hNX hsx hv3 hv4 f1 hlk hfound hmiss
          rintro τ wi ⟨G, src, readers, next, rdv, nv, ls, i, t0, t4, t68, t69, t70, t5, t7, t8, t9, t11, t16, t159, t160, t161, t18, t19, hsG, hP, hS, mf, mo, ms, hvs, hfr, hSM, hgi, hsi, hSC, hNX, hsx, hv3, hv4⟩
          have hvr : v < reads.length := by rw [hS.l1]; exact hvn
          have hir : i < readers.length := by rw [← hS.l7]; exact (List.getElem?_eq_some_iff.1 hsi).1
          have hlr := len_le_sum reads v hvr
          have hlrd := len_le_sum readers i hir
          obtain ⟨g, cap, cell, v', w2, J1, J2, J3, hv, F, FC, hap, hst, j1, j2, j3, g1, g2, g3, hT6⟩ := pushP (f := 0) (t := 2) hP.p rfl hP.t2 hsG.drew rfl (by decide) hvr (i : Int) (by omega)
          subst hv
          refine wp_seq_k (fun K73 hK73 => ?_)
          refine draw mixed [13, 14, 16] [(0, 2), (0, 2), (0, 2), (0, 2), (0, 2), (0, 2), (0, 2), (0, 2), (0, 2), (0, 2), (0, 2), (0, 1), (0, 0), (0, 0), (1, 1), (2, 2), (2, 2)] [wi.drew.alloc (.cells #[.int .i64 (i : Int)] 3), w2, w2.setCell ⟨g, v, none⟩ v'] (w2.setCell ⟨g, v, none⟩ v') (upd (upd (upd (upd (upd (upd (upd (upd (upd (upd (upd (upd (upd (upd (upd (upd _ 203 _) 204 _) 205 _) 206 _) 207 _) 208 _) 209 _) 210 _) 211 _) 212 _) 213 _) 214 _) 215 _) 216 _) 217 _) 218 _) (by kernel_rfl) (fun s hs => ovr_off [(203, _), (204, _), (205, _), (206, _), (207, _), (208, _), (209, _), (210, _), (211, _), (212, _), (213, _), (214, _), (215, _), (216, _), (217, _), (218, _)] _ s hs) ⟨(qa rfl (fun _ => (do_move (tm rfl (nx rfl (nx rfl (nx rfl (nx rfl (nx rfl (nx rfl (nx rfl (nx rfl (nx rfl (nx rfl (nx rfl (nx rfl (nx rfl (nx rfl (nx rfl (nx rfl t4))))))))))))))))))) (nx rfl (nx rfl (nx rfl (nx rfl (nx rfl (nx rfl (nx rfl (nx rfl (nx rfl (nx rfl (nx rfl (nx rfl (nx rfl (nx rfl (nx rfl hit)))))))))))))))), (qa rfl (fun _ => (do_nilCheck (tm rfl (nx rfl (nx rfl (nx rfl (nx rfl (nx rfl (nx rfl (nx rfl (nx rfl (nx rfl (nx rfl (nx rfl (nx rfl (nx rfl (nx rfl (nx rfl hit)))))))))))))))))) (nx rfl (nx rfl (nx rfl (nx rfl (nx rfl (nx rfl (nx rfl (nx rfl (nx rfl (nx rfl (nx rfl (nx rfl (nx rfl (nx rfl hit))))))))))))))), (qa rfl (fun _ => (fa58_0 (tm rfl (nx rfl (nx rfl (nx rfl (nx rfl (nx rfl (nx rfl (nx rfl (nx rfl (nx rfl (nx rfl (nx rfl (nx rfl (nx rfl (nx rfl hit))))))))))))))))) (nx rfl (nx rfl (nx rfl (nx rfl (nx rfl (nx rfl (nx rfl (nx rfl (nx rfl (nx rfl (nx rfl (nx rfl (nx rfl hit)))))))))))))), (qr rfl (fun j h1 h2 => (do_load T37 rfl (tm rfl (nx rfl (nx rfl (nx rfl (nx rfl (nx rfl (nx rfl (nx rfl (nx rfl (nx rfl (nx rfl (nx rfl (nx rfl (nx rfl hit)))))))))))))) (F j (by omega)))) (nx rfl (nx rfl (nx rfl (nx rfl (nx rfl (nx rfl (nx rfl (nx rfl (nx rfl (nx rfl (nx rfl (nx rfl hit))))))))))))), (qa rfl (fun _ => (do_move (tm rfl (nx rfl (nx rfl (nx rfl (nx rfl (nx rfl (nx rfl (nx rfl (nx rfl (nx rfl (nx rfl (nx rfl (nx rfl (nx rfl (nx rfl (nx rfl (nx rfl t18))))))))))))))))))) (nx rfl (nx rfl (nx rfl (nx rfl (nx rfl (nx rfl (nx rfl (nx rfl (nx rfl (nx rfl (nx rfl hit)))))))))))), (qa rfl (fun _ => (do_move (tm rfl (nx rfl (nx rfl (nx rfl (nx rfl (nx rfl (nx rfl (nx rfl (nx rfl (nx rfl (nx rfl (nx rfl (nx rfl (nx rfl (nx rfl (nx rfl (nx rfl t4))))))))))))))))))) (nx rfl (nx rfl (nx rfl (nx rfl (nx rfl (nx rfl (nx rfl (nx rfl (nx rfl (nx rfl hit))))))))))), (qa rfl (fun _ => (do_nilCheck (tm rfl (nx rfl (nx rfl (nx rfl (nx rfl (nx rfl (nx rfl (nx rfl (nx rfl (nx rfl (nx rfl hit))))))))))))) (nx rfl (nx rfl (nx rfl (nx rfl (nx rfl (nx rfl (nx rfl (nx rfl (nx rfl hit)))))))))), (qa rfl (fun _ => (fa58_0 (tm rfl (nx rfl (nx rfl (nx rfl (nx rfl (nx rfl (nx rfl (nx rfl (nx rfl (nx rfl hit)))))))))))) (nx rfl (nx rfl (nx rfl (nx rfl (nx rfl (nx rfl (nx rfl (nx rfl hit))))))))), (qr rfl (fun j h1 h2 => (do_load T37 rfl (tm rfl (nx rfl (nx rfl (nx rfl (nx rfl (nx rfl (nx rfl (nx rfl (nx rfl hit))))))))) (F j (by omega)))) (nx rfl (nx rfl (nx rfl (nx rfl (nx rfl (nx rfl (nx rfl hit)))))))), (qa rfl (fun _ => (do_move (tm rfl (nx rfl (nx rfl (nx rfl (nx rfl (nx rfl (nx rfl (nx rfl (nx rfl (nx rfl (nx rfl (nx rfl (nx rfl (nx rfl (nx rfl (nx rfl (nx rfl t18))))))))))))))))))) (nx rfl (nx rfl (nx rfl (nx rfl (nx rfl (nx rfl hit))))))), (qa rfl (fun _ => (ix37 (tm rfl (nx rfl (nx rfl (nx rfl (nx rfl (nx rfl (nx rfl (nx rfl hit)))))))) (tm rfl (nx rfl (nx rfl (nx rfl (nx rfl (nx rfl (nx rfl hit))))))) (by omega))) (nx rfl (nx rfl (nx rfl (nx rfl (nx rfl hit)))))), (qr rfl (fun j h1 h2 => (do_load T22 rfl (tm rfl (nx rfl (nx rfl (nx rfl (nx rfl (nx rfl hit)))))) (FC j (by omega)))) (nx rfl (nx rfl (nx rfl (nx rfl hit))))), (qa rfl (fun _ => (do_move (tm rfl (nx rfl (nx rfl (nx rfl (nx rfl (nx rfl (nx rfl (nx rfl (nx rfl (nx rfl (nx rfl (nx rfl (nx rfl (nx rfl (nx rfl (nx rfl (nx rfl t19))))))))))))))))))) (nx rfl (nx rfl (nx rfl hit)))), (ef rfl (do_bs1 T22 T3 rfl (tm rfl (nx rfl (nx rfl (nx rfl hit)))) rfl) (nx rfl (nx rfl hit))), (ef rfl (hap _ _ _ _ _ _ _ _ (tm rfl (nx rfl (nx rfl (nx rfl (nx rfl hit))))) (tm rfl (nx rfl (nx rfl hit)))) (nx rfl hit)), (qa rfl (fun _ => (ix37 (tm rfl (nx rfl (nx rfl (nx rfl (nx rfl (nx rfl (nx rfl (nx rfl (nx rfl (nx rfl (nx rfl (nx rfl (nx rfl hit))))))))))))) (tm rfl (nx rfl (nx rfl (nx rfl (nx rfl (nx rfl (nx rfl (nx rfl (nx rfl (nx rfl (nx rfl (nx rfl hit)))))))))))) (by omega))) hit), (en rfl (hst _ _ _ _ _ _ _ _ (tm rfl hit) (tm rfl (nx rfl hit)))), trivial⟩ rfl ?_
          intro τ74 e74
          have c74_0 := (congrFun e74 0).trans (nx rfl (nx rfl (nx rfl (nx rfl (nx rfl (nx rfl (nx rfl (nx rfl (nx rfl (nx rfl (nx rfl (nx rfl (nx rfl (nx rfl (nx rfl (nx rfl t0))))))))))))))))
          have c74_4 := (congrFun e74 4).trans (nx rfl (nx rfl (nx rfl (nx rfl (nx rfl (nx rfl (nx rfl (nx rfl (nx rfl (nx rfl (nx rfl (nx rfl (nx rfl (nx rfl (nx rfl (nx rfl t4))))))))))))))))
          have c74_5 := (congrFun e74 5).trans (nx rfl (nx rfl (nx rfl (nx rfl (nx rfl (nx rfl (nx rfl (nx rfl (nx rfl (nx rfl (nx rfl (nx rfl (nx rfl (nx rfl (nx rfl (nx rfl t5))))))))))))))))
          have c74_7 := (congrFun e74 7).trans (nx rfl (nx rfl (nx rfl (nx rfl (nx rfl (nx rfl (nx rfl (nx rfl (nx rfl (nx rfl (nx rfl (nx rfl (nx rfl (nx rfl (nx rfl (nx rfl t7))))))))))))))))
          have c74_8 := (congrFun e74 8).trans (nx rfl (nx rfl (nx rfl (nx rfl (nx rfl (nx rfl (nx rfl (nx rfl (nx rfl (nx rfl (nx rfl (nx rfl (nx rfl (nx rfl (nx rfl (nx rfl t8))))))))))))))))
          have c74_9 := (congrFun e74 9).trans (nx rfl (nx rfl (nx rfl (nx rfl (nx rfl (nx rfl (nx rfl (nx rfl (nx rfl (nx rfl (nx rfl (nx rfl (nx rfl (nx rfl (nx rfl (nx rfl t9))))))))))))))))
          have c74_11 := (congrFun e74 11).trans (nx rfl (nx rfl (nx rfl (nx rfl (nx rfl (nx rfl (nx rfl (nx rfl (nx rfl (nx rfl (nx rfl (nx rfl (nx rfl (nx rfl (nx rfl (nx rfl t11))))))))))))))))
          have c74_16 := (congrFun e74 16).trans (nx rfl (nx rfl (nx rfl (nx rfl (nx rfl (nx rfl (nx rfl (nx rfl (nx rfl (nx rfl (nx rfl (nx rfl (nx rfl (nx rfl (nx rfl (nx rfl t16))))))))))))))))
          have c74_18 := (congrFun e74 18).trans (nx rfl (nx rfl (nx rfl (nx rfl (nx rfl (nx rfl (nx rfl (nx rfl (nx rfl (nx rfl (nx rfl (nx rfl (nx rfl (nx rfl (nx rfl (nx rfl t18))))))))))))))))
          have c74_19 := (congrFun e74 19).trans (nx rfl (nx rfl (nx rfl (nx rfl (nx rfl (nx rfl (nx rfl (nx rfl (nx rfl (nx rfl (nx rfl (nx rfl (nx rfl (nx rfl (nx rfl (nx rfl t19))))))))))))))))
          have c74_68 := (congrFun e74 68).trans (nx rfl (nx rfl (nx rfl (nx rfl (nx rfl (nx rfl (nx rfl (nx rfl (nx rfl (nx rfl (nx rfl (nx rfl (nx rfl (nx rfl (nx rfl (nx rfl t68))))))))))))))))
          have c74_69 := (congrFun e74 69).trans (nx rfl (nx rfl (nx rfl (nx rfl (nx rfl (nx rfl (nx rfl (nx rfl (nx rfl (nx rfl (nx rfl (nx rfl (nx rfl (nx rfl (nx rfl (nx rfl t69))))))))))))))))
          have c74_70 := (congrFun e74 70).trans (nx rfl (nx rfl (nx rfl (nx rfl (nx rfl (nx rfl (nx rfl (nx rfl (nx rfl (nx rfl (nx rfl (nx rfl (nx rfl (nx rfl (nx rfl (nx rfl t70))))))))))))))))
          have c74_159 := (congrFun e74 159).trans (nx rfl (nx rfl (nx rfl (nx rfl (nx rfl (nx rfl (nx rfl (nx rfl (nx rfl (nx rfl (nx rfl (nx rfl (nx rfl (nx rfl (nx rfl (nx rfl t159))))))))))))))))
          have c74_160 := (congrFun e74 160).trans (nx rfl (nx rfl (nx rfl (nx rfl (nx rfl (nx rfl (nx rfl (nx rfl (nx rfl (nx rfl (nx rfl (nx rfl (nx rfl (nx rfl (nx rfl (nx rfl t160))))))))))))))))
          have c74_161 := (congrFun e74 161).trans (nx rfl (nx rfl (nx rfl (nx rfl (nx rfl (nx rfl (nx rfl (nx rfl (nx rfl (nx rfl (nx rfl (nx rfl (nx rfl (nx rfl (nx rfl (nx rfl t161))))))))))))))))
          clear e74
          refine hK73 _ _ ?_
          clear hK73
          have hP1 := hP.u2 j3 hT6
          have kJ : Same [2, 28] G J3 := j3
          clear F FC hap hst j1 j2 g1 g2 hT6 hP hsG j3
          generalize w2.setCell ⟨g, v, none⟩ v' = xw at *
          obtain ⟨g', cap', cell', v'', w3, J1, J2, J4, hv, F, FC, hap, hst, j1, j2, j3, g1, g2, g4, hT6⟩ := pushP (f := 4) (t := 6) hP1.p rfl hP1.t6 g3.drew rfl (by decide) hir (v : Int) (by omega)
          subst hv
          refine wp_seq_k (fun K75 hK75 => ?_)
          refine draw mixed [13, 14, 16] [(0, 2), (0, 2), (0, 2), (0, 2), (0, 2), (0, 2), (0, 2), (0, 2), (0, 2), (0, 2), (0, 2), (0, 1), (0, 0), (0, 0), (1, 1), (2, 2), (2, 2)] [xw.drew.alloc (.cells #[.int .i64 (v : Int)] 3), w3, w3.setCell ⟨g', i, none⟩ v''] (w3.setCell ⟨g', i, none⟩ v'') (upd (upd (upd (upd (upd (upd (upd (upd (upd (upd (upd (upd (upd (upd (upd (upd _ 219 _) 220 _) 221 _) 222 _) 223 _) 224 _) 225 _) 226 _) 227 _) 228 _) 229 _) 230 _) 231 _) 232 _) 233 _) 234 _) (by kernel_rfl) (fun s hs => ovr_off [(219, _), (220, _), (221, _), (222, _), (223, _), (224, _), (225, _), (226, _), (227, _), (228, _), (229, _), (230, _), (231, _), (232, _), (233, _), (234, _)] _ s hs) ⟨(qa rfl (fun _ => (do_move (tm rfl (nx rfl (nx rfl (nx rfl (nx rfl (nx rfl (nx rfl (nx rfl (nx rfl (nx rfl (nx rfl (nx rfl (nx rfl (nx rfl (nx rfl (nx rfl (nx rfl c74_4))))))))))))))))))) (nx rfl (nx rfl (nx rfl (nx rfl (nx rfl (nx rfl (nx rfl (nx rfl (nx rfl (nx rfl (nx rfl (nx rfl (nx rfl (nx rfl (nx rfl hit)))))))))))))))), (qa rfl (fun _ => (do_nilCheck (tm rfl (nx rfl (nx rfl (nx rfl (nx rfl (nx rfl (nx rfl (nx rfl (nx rfl (nx rfl (nx rfl (nx rfl (nx rfl (nx rfl (nx rfl (nx rfl hit)))))))))))))))))) (nx rfl (nx rfl (nx rfl (nx rfl (nx rfl (nx rfl (nx rfl (nx rfl (nx rfl (nx rfl (nx rfl (nx rfl (nx rfl (nx rfl hit))))))))))))))), (qa rfl (fun _ => (fa58_4 (tm rfl (nx rfl (nx rfl (nx rfl (nx rfl (nx rfl (nx rfl (nx rfl (nx rfl (nx rfl (nx rfl (nx rfl (nx rfl (nx rfl (nx rfl hit))))))))))))))))) (nx rfl (nx rfl (nx rfl (nx rfl (nx rfl (nx rfl (nx rfl (nx rfl (nx rfl (nx rfl (nx rfl (nx rfl (nx rfl hit)))))))))))))), (qr rfl (fun j h1 h2 => (do_load T37 rfl (tm rfl (nx rfl (nx rfl (nx rfl (nx rfl (nx rfl (nx rfl (nx rfl (nx rfl (nx rfl (nx rfl (nx rfl (nx rfl (nx rfl hit)))))))))))))) (F j (by omega)))) (nx rfl (nx rfl (nx rfl (nx rfl (nx rfl (nx rfl (nx rfl (nx rfl (nx rfl (nx rfl (nx rfl (nx rfl hit))))))))))))), (qa rfl (fun _ => (do_move (tm rfl (nx rfl (nx rfl (nx rfl (nx rfl (nx rfl (nx rfl (nx rfl (nx rfl (nx rfl (nx rfl (nx rfl (nx rfl (nx rfl (nx rfl (nx rfl (nx rfl c74_19))))))))))))))))))) (nx rfl (nx rfl (nx rfl (nx rfl (nx rfl (nx rfl (nx rfl (nx rfl (nx rfl (nx rfl (nx rfl hit)))))))))))), (qa rfl (fun _ => (do_move (tm rfl (nx rfl (nx rfl (nx rfl (nx rfl (nx rfl (nx rfl (nx rfl (nx rfl (nx rfl (nx rfl (nx rfl (nx rfl (nx rfl (nx rfl (nx rfl (nx rfl c74_4))))))))))))))))))) (nx rfl (nx rfl (nx rfl (nx rfl (nx rfl (nx rfl (nx rfl (nx rfl (nx rfl (nx rfl hit))))))))))), (qa rfl (fun _ => (do_nilCheck (tm rfl (nx rfl (nx rfl (nx rfl (nx rfl (nx rfl (nx rfl (nx rfl (nx rfl (nx rfl (nx rfl hit))))))))))))) (nx rfl (nx rfl (nx rfl (nx rfl (nx rfl (nx rfl (nx rfl (nx rfl (nx rfl hit)))))))))), (qa rfl (fun _ => (fa58_4 (tm rfl (nx rfl (nx rfl (nx rfl (nx rfl (nx rfl (nx rfl (nx rfl (nx rfl (nx rfl hit)))))))))))) (nx rfl (nx rfl (nx rfl (nx rfl (nx rfl (nx rfl (nx rfl (nx rfl hit))))))))), (qr rfl (fun j h1 h2 => (do_load T37 rfl (tm rfl (nx rfl (nx rfl (nx rfl (nx rfl (nx rfl (nx rfl (nx rfl (nx rfl hit))))))))) (F j (by omega)))) (nx rfl (nx rfl (nx rfl (nx rfl (nx rfl (nx rfl (nx rfl hit)))))))), (qa rfl (fun _ => (do_move (tm rfl (nx rfl (nx rfl (nx rfl (nx rfl (nx rfl (nx rfl (nx rfl (nx rfl (nx rfl (nx rfl (nx rfl (nx rfl (nx rfl (nx rfl (nx rfl (nx rfl c74_19))))))))))))))))))) (nx rfl (nx rfl (nx rfl (nx rfl (nx rfl (nx rfl hit))))))), (qa rfl (fun _ => (ix37 (tm rfl (nx rfl (nx rfl (nx rfl (nx rfl (nx rfl (nx rfl (nx rfl hit)))))))) (tm rfl (nx rfl (nx rfl (nx rfl (nx rfl (nx rfl (nx rfl hit))))))) (by omega))) (nx rfl (nx rfl (nx rfl (nx rfl (nx rfl hit)))))), (qr rfl (fun j h1 h2 => (do_load T22 rfl (tm rfl (nx rfl (nx rfl (nx rfl (nx rfl (nx rfl hit)))))) (FC j (by omega)))) (nx rfl (nx rfl (nx rfl (nx rfl hit))))), (qa rfl (fun _ => (do_move (tm rfl (nx rfl (nx rfl (nx rfl (nx rfl (nx rfl (nx rfl (nx rfl (nx rfl (nx rfl (nx rfl (nx rfl (nx rfl (nx rfl (nx rfl (nx rfl (nx rfl c74_18))))))))))))))))))) (nx rfl (nx rfl (nx rfl hit)))), (ef rfl (do_bs1 T22 T3 rfl (tm rfl (nx rfl (nx rfl (nx rfl hit)))) rfl) (nx rfl (nx rfl hit))), (ef rfl (hap _ _ _ _ _ _ _ _ (tm rfl (nx rfl (nx rfl (nx rfl (nx rfl hit))))) (tm rfl (nx rfl (nx rfl hit)))) (nx rfl hit)), (qa rfl (fun _ => (ix37 (tm rfl (nx rfl (nx rfl (nx rfl (nx rfl (nx rfl (nx rfl (nx rfl (nx rfl (nx rfl (nx rfl (nx rfl (nx rfl hit))))))))))))) (tm rfl (nx rfl (nx rfl (nx rfl (nx rfl (nx rfl (nx rfl (nx rfl (nx rfl (nx rfl (nx rfl (nx rfl hit)))))))))))) (by omega))) hit), (en rfl (hst _ _ _ _ _ _ _ _ (tm rfl hit) (tm rfl (nx rfl hit)))), trivial⟩ rfl ?_
          intro τ76 e76
          have c76_0 := (congrFun e76 0).trans (nx rfl (nx rfl (nx rfl (nx rfl (nx rfl (nx rfl (nx rfl (nx rfl (nx rfl (nx rfl (nx rfl (nx rfl (nx rfl (nx rfl (nx rfl (nx rfl c74_0))))))))))))))))
          have c76_4 := (congrFun e76 4).trans (nx rfl (nx rfl (nx rfl (nx rfl (nx rfl (nx rfl (nx rfl (nx rfl (nx rfl (nx rfl (nx rfl (nx rfl (nx rfl (nx rfl (nx rfl (nx rfl c74_4))))))))))))))))
          have c76_5 := (congrFun e76 5).trans (nx rfl (nx rfl (nx rfl (nx rfl (nx rfl (nx rfl (nx rfl (nx rfl (nx rfl (nx rfl (nx rfl (nx rfl (nx rfl (nx rfl (nx rfl (nx rfl c74_5))))))))))))))))
          have c76_7 := (congrFun e76 7).trans (nx rfl (nx rfl (nx rfl (nx rfl (nx rfl (nx rfl (nx rfl (nx rfl (nx rfl (nx rfl (nx rfl (nx rfl (nx rfl (nx rfl (nx rfl (nx rfl c74_7))))))))))))))))
          have c76_8 := (congrFun e76 8).trans (nx rfl (nx rfl (nx rfl (nx rfl (nx rfl (nx rfl (nx rfl (nx rfl (nx rfl (nx rfl (nx rfl (nx rfl (nx rfl (nx rfl (nx rfl (nx rfl c74_8))))))))))))))))
          have c76_9 := (congrFun e76 9).trans (nx rfl (nx rfl (nx rfl (nx rfl (nx rfl (nx rfl (nx rfl (nx rfl (nx rfl (nx rfl (nx rfl (nx rfl (nx rfl (nx rfl (nx rfl (nx rfl c74_9))))))))))))))))
          have c76_11 := (congrFun e76 11).trans (nx rfl (nx rfl (nx rfl (nx rfl (nx rfl (nx rfl (nx rfl (nx rfl (nx rfl (nx rfl (nx rfl (nx rfl (nx rfl (nx rfl (nx rfl (nx rfl c74_11))))))))))))))))
          have c76_16 := (congrFun e76 16).trans (nx rfl (nx rfl (nx rfl (nx rfl (nx rfl (nx rfl (nx rfl (nx rfl (nx rfl (nx rfl (nx rfl (nx rfl (nx rfl (nx rfl (nx rfl (nx rfl c74_16))))))))))))))))
          have c76_18 := (congrFun e76 18).trans (nx rfl (nx rfl (nx rfl (nx rfl (nx rfl (nx rfl (nx rfl (nx rfl (nx rfl (nx rfl (nx rfl (nx rfl (nx rfl (nx rfl (nx rfl (nx rfl c74_18))))))))))))))))
          have c76_19 := (congrFun e76 19).trans (nx rfl (nx rfl (nx rfl (nx rfl (nx rfl (nx rfl (nx rfl (nx rfl (nx rfl (nx rfl (nx rfl (nx rfl (nx rfl (nx rfl (nx rfl (nx rfl c74_19))))))))))))))))
          have c76_68 := (congrFun e76 68).trans (nx rfl (nx rfl (nx rfl (nx rfl (nx rfl (nx rfl (nx rfl (nx rfl (nx rfl (nx rfl (nx rfl (nx rfl (nx rfl (nx rfl (nx rfl (nx rfl c74_68))))))))))))))))
          have c76_69 := (congrFun e76 69).trans (nx rfl (nx rfl (nx rfl (nx rfl (nx rfl (nx rfl (nx rfl (nx rfl (nx rfl (nx rfl (nx rfl (nx rfl (nx rfl (nx rfl (nx rfl (nx rfl c74_69))))))))))))))))
          have c76_70 := (congrFun e76 70).trans (nx rfl (nx rfl (nx rfl (nx rfl (nx rfl (nx rfl (nx rfl (nx rfl (nx rfl (nx rfl (nx rfl (nx rfl (nx rfl (nx rfl (nx rfl (nx rfl c74_70))))))))))))))))
          have c76_159 := (congrFun e76 159).trans (nx rfl (nx rfl (nx rfl (nx rfl (nx rfl (nx rfl (nx rfl (nx rfl (nx rfl (nx rfl (nx rfl (nx rfl (nx rfl (nx rfl (nx rfl (nx rfl c74_159))))))))))))))))
          have c76_160 := (congrFun e76 160).trans (nx rfl (nx rfl (nx rfl (nx rfl (nx rfl (nx rfl (nx rfl (nx rfl (nx rfl (nx rfl (nx rfl (nx rfl (nx rfl (nx rfl (nx rfl (nx rfl c74_160))))))))))))))))
          have c76_161 := (congrFun e76 161).trans (nx rfl (nx rfl (nx rfl (nx rfl (nx rfl (nx rfl (nx rfl (nx rfl (nx rfl (nx rfl (nx rfl (nx rfl (nx rfl (nx rfl (nx rfl (nx rfl c74_161))))))))))))))))
          clear e76
          refine hK75 _ _ ?_
          clear hK75
          have hP2 := hP1.u6 j3 hT6
          have kK : Same [2, 6, 28] G J4 := (kJ.mono (by decide)).trans (j3.mono (by decide))
          have mf2 : MapV (J4 30) bF ik lf := by rw [kK 30 (by decide)]; exact mf
          have mo2 : MapV (J4 32) bO ik lw := by rw [kK 32 (by decide)]; exact mo
          have ms2 : MapV (J4 34) bS ik ls := by rw [kK 34 (by decide)]; exact ms
          have hvs2 := kK.vb (t := 35) (by decide) hvs
          have hfr2 : RowV (J4 31) 3 1 (.slice (some ⟨g0, 0, none⟩) fs.length fc) fs.length (fs.flatMap encI) := by rw [kK 31 (by decide)]; exact hfr
          clear F FC hap hst j1 j2 g1 g2 hT6 hP1 g3 j3 kJ kK mf mo ms hvs hfr
          generalize w3.setCell ⟨g', i, none⟩ v'' = xw' at *
          refine seqJ (N := 405) (fun τ wi => ∃ (G : Nat → Part) (succ : List (List Int)), τ 0 = .pointer (some ⟨gb, 0, none⟩) ∧ τ 4 = .pointer (some ⟨pb, 0, none⟩) ∧ τ 68 = .slice (some ⟨bi, oi, none⟩) k ic ∧ τ 69 = .int .i64 (k : Int) ∧ τ 70 = .int .i64 (x : Int) ∧ τ 5 = .int .i64 (x : Int) ∧ τ 7 = .map (some bF) ∧ τ 8 = .slice (some ⟨g0, 0, none⟩) fs.length fc ∧ τ 9 = .map (some bO) ∧ τ 11 = .int .i64 (lwn hh (A x).length) ∧ τ 16 = .pointer (some ⟨bV, 0, none⟩) ∧ τ 159 = .slice (some ⟨g0, 0, none⟩) fs.length fc ∧ τ 160 = .int .i64 (fs.length : Int) ∧ τ 161 = .int .i64 (q : Int) ∧ τ 18 = .int .i64 (v : Int) ∧ τ 19 = .int .i64 (i : Int) ∧
              Split w.heap.size w wi G ∧ HpP G pb n k (reads.set v (reads[v] ++ [(i : Int)])) writes writers initial (readers.set i (readers[i] ++ [(v : Int)])) next succ pin (.slice (some ⟨g, 0, none⟩) reads.length cap) wv wsv (.slice (some ⟨g', 0, none⟩) readers.length cap') nv sv ib nb ∧ Tbl n k A rk x src reads writes writers initial readers next succ ∧ MapV (G 30) bF ik lf ∧ MapV (G 32) bO ik lw ∧ MapV (G 34) bS ik ls ∧ VB (G 35) bV 50 [.map (some bS)] ∧ RowV (G 31) 3 1 (.slice (some ⟨g0, 0, none⟩) fs.length fc) fs.length (fs.flatMap encI) ∧ sumLen succ ≤ 3 * tot A x + q + 1) ?_ ?_
          · intro QJ hJ hE'
            refine wp_seq_k (fun K77 hK77 => ?_)
            refine reg ?_
            refine sq rfl (do_move (tm rfl c76_7)) ?_
            refine sq rfl (do_move (tm rfl (nx rfl c76_18))) ?_
            refine sq rfl ((MapV.look1 keyI Try.underlying50 zero3 mf2 g4 (k := (v : Int)) (tm rfl (nx rfl hit)) (tm rfl hit)).cast hfz) ?_
            refine sq rfl (do_geq (tm rfl hit) ck) ?_
            refine cutL ?_
            intro τ78 e78
            have c78_0 := (congrFun e78 0).trans (nx rfl (nx rfl (nx rfl (nx rfl c76_0))))
            have c78_4 := (congrFun e78 4).trans (nx rfl (nx rfl (nx rfl (nx rfl c76_4))))
            have c78_5 := (congrFun e78 5).trans (nx rfl (nx rfl (nx rfl (nx rfl c76_5))))
            have c78_7 := (congrFun e78 7).trans (nx rfl (nx rfl (nx rfl (nx rfl c76_7))))
            have c78_8 := (congrFun e78 8).trans (nx rfl (nx rfl (nx rfl (nx rfl c76_8))))
            have c78_9 := (congrFun e78 9).trans (nx rfl (nx rfl (nx rfl (nx rfl c76_9))))
            have c78_11 := (congrFun e78 11).trans (nx rfl (nx rfl (nx rfl (nx rfl c76_11))))
            have c78_16 := (congrFun e78 16).trans (nx rfl (nx rfl (nx rfl (nx rfl c76_16))))
            have c78_18 := (congrFun e78 18).trans (nx rfl (nx rfl (nx rfl (nx rfl c76_18))))
            have c78_19 := (congrFun e78 19).trans (nx rfl (nx rfl (nx rfl (nx rfl c76_19))))
            have c78_68 := (congrFun e78 68).trans (nx rfl (nx rfl (nx rfl (nx rfl c76_68))))
            have c78_69 := (congrFun e78 69).trans (nx rfl (nx rfl (nx rfl (nx rfl c76_69))))
            have c78_70 := (congrFun e78 70).trans (nx rfl (nx rfl (nx rfl (nx rfl c76_70))))
            have c78_159 := (congrFun e78 159).trans (nx rfl (nx rfl (nx rfl (nx rfl c76_159))))
            have c78_160 := (congrFun e78 160).trans (nx rfl (nx rfl (nx rfl (nx rfl c76_160))))
            have c78_161 := (congrFun e78 161).trans (nx rfl (nx rfl (nx rfl (nx rfl c76_161))))
            have c78_238 := (congrFun e78 238).trans hit
            clear e78
            refine wnil ?_
            refine hK77 _ _ ?_
            clear hK77
            by_cases hf0 : f < 0
            · refine cF rfl c78_238 (by simpa using hf0) ?_
              refine wp_skip ?_
              exact hJ _ _ ⟨J4, succ, c78_0, c78_4, c78_68, c78_69, c78_70, c78_5, c78_7, c78_8, c78_9, c78_11, c78_16, c78_159, c78_160, c78_161, c78_18, c78_19, g4, hP2, hS, mf2, mo2, ms2, hvs2, hfr2, by omega⟩
            · refine cT rfl c78_238 (by simp; omega) ?_
              obtain ⟨fn, rfl⟩ : ∃ fn : Nat, f = (fn : Int) := ⟨f.toNat, by omega⟩
              obtain ⟨hlt3, _, hfnn⟩ := hLx.src_lt hsrc
              have hfs : fn < succ.length := by rw [hS.l5]; exact hfnn
              have hls := len_le_sum succ fn hfs
              obtain ⟨g5, cap5, cell5, v5, w5, J1, J2, J5, hv, F, FC, hap, hst, j1, j2, j3, g1, g2, g6, hT6⟩ := pushP (f := 6) (t := 8) hP2.p rfl hP2.t8 g4.drew rfl (by decide) hfs (v : Int) (by omega)
              subst hv
              have LK : ∀ j, j ≤ 2 → ∀ (ρ : Operand → Value) (dst : Option Tmp) (ty : TypeId) (pos : String) (aft : Array Edge) (gg : Option (Nat × Bool)) (x y : Operand), ρ x = .map (some bF) → ρ y = ik (v : Int) → Does Try.prog ⟨dst, .lookup 50 x y false, ty, pos, aft, gg⟩ ρ (stg xw'.drew [xw'.drew.alloc (.cells #[.int .i64 (v : Int)] 3), w5, w5.setCell ⟨g5, fn, none⟩ v5] j) (.int .i64 (fn : Int)) (stg xw'.drew [xw'.drew.alloc (.cells #[.int .i64 (v : Int)] 3), w5, w5.setCell ⟨g5, fn, none⟩ v5] j) :=
                le2 (p := fun j => ∀ (ρ : Operand → Value) (dst : Option Tmp) (ty : TypeId) (pos : String) (aft : Array Edge) (gg : Option (Nat × Bool)) (x y : Operand), ρ x = .map (some bF) → ρ y = ik (v : Int) → Does Try.prog ⟨dst, .lookup 50 x y false, ty, pos, aft, gg⟩ ρ (stg xw'.drew [xw'.drew.alloc (.cells #[.int .i64 (v : Int)] 3), w5, w5.setCell ⟨g5, fn, none⟩ v5] j) (.int .i64 (fn : Int)) (stg xw'.drew [xw'.drew.alloc (.cells #[.int .i64 (v : Int)] 3), w5, w5.setCell ⟨g5, fn, none⟩ v5] j))
                  (fun ρ dst ty pos aft gg x y h1 h2 => (MapV.look1 keyI Try.underlying50 zero3 mf2 g4.drew h1 h2).cast hfz)
                  (fun ρ dst ty pos aft gg x y h1 h2 => (MapV.look1 keyI Try.underlying50 zero3 (show MapV (J1 30) bF ik lf by rw [j1 30 (by decide)]; exact mf2) g1 h1 h2).cast hfz)
                  (fun ρ dst ty pos aft gg x y h1 h2 => (MapV.look1 keyI Try.underlying50 zero3 (show MapV (J2 30) bF ik lf by rw [j2 30 (by decide)]; exact mf2) g2 h1 h2).cast hfz)
              refine draw mixed [17, 18, 20] [(0, 2), (0, 2), (0, 2), (0, 2), (0, 2), (0, 2), (0, 2), (0, 2), (0, 2), (0, 2), (0, 2), (0, 2), (0, 2), (0, 2), (0, 2), (0, 1), (0, 0), (0, 0), (1, 1), (2, 2), (2, 2)] [xw'.drew.alloc (.cells #[.int .i64 (v : Int)] 3), w5, w5.setCell ⟨g5, fn, none⟩ v5] (w5.setCell ⟨g5, fn, none⟩ v5) (upd (upd (upd (upd (upd (upd (upd (upd (upd (upd (upd (upd (upd (upd (upd (upd (upd (upd (upd (upd _ 239 _) 240 _) 241 _) 242 _) 243 _) 244 _) 245 _) 246 _) 247 _) 248 _) 249 _) 250 _) 251 _) 252 _) 253 _) 254 _) 255 _) 256 _) 257 _) 258 _) (by kernel_rfl) (fun s hs => ovr_off [(239, _), (240, _), (241, _), (242, _), (243, _), (244, _), (245, _), (246, _), (247, _), (248, _), (249, _), (250, _), (251, _), (252, _), (253, _), (254, _), (255, _), (256, _), (257, _), (258, _)] _ s hs) ⟨(qa rfl (fun _ => (do_move (tm rfl (nx rfl (nx rfl (nx rfl (nx rfl (nx rfl (nx rfl (nx rfl (nx rfl (nx rfl (nx rfl (nx rfl (nx rfl (nx rfl (nx rfl (nx rfl (nx rfl (nx rfl (nx rfl (nx rfl (nx rfl c78_4))))))))))))))))))))))) (nx rfl (nx rfl (nx rfl (nx rfl (nx rfl (nx rfl (nx rfl (nx rfl (nx rfl (nx rfl (nx rfl (nx rfl (nx rfl (nx rfl (nx rfl (nx rfl (nx rfl (nx rfl (nx rfl hit)))))))))))))))))))), (qa rfl (fun _ => (do_nilCheck (tm rfl (nx rfl (nx rfl (nx rfl (nx rfl (nx rfl (nx rfl (nx rfl (nx rfl (nx rfl (nx rfl (nx rfl (nx rfl (nx rfl (nx rfl (nx rfl (nx rfl (nx rfl (nx rfl (nx rfl hit)))))))))))))))))))))) (nx rfl (nx rfl (nx rfl (nx rfl (nx rfl (nx rfl (nx rfl (nx rfl (nx rfl (nx rfl (nx rfl (nx rfl (nx rfl (nx rfl (nx rfl (nx rfl (nx rfl (nx rfl hit))))))))))))))))))), (qa rfl (fun _ => (fa58_6 (tm rfl (nx rfl (nx rfl (nx rfl (nx rfl (nx rfl (nx rfl (nx rfl (nx rfl (nx rfl (nx rfl (nx rfl (nx rfl (nx rfl (nx rfl (nx rfl (nx rfl (nx rfl (nx rfl hit))))))))))))))))))))) (nx rfl (nx rfl (nx rfl (nx rfl (nx rfl (nx rfl (nx rfl (nx rfl (nx rfl (nx rfl (nx rfl (nx rfl (nx rfl (nx rfl (nx rfl (nx rfl (nx rfl hit)))))))))))))))))), (qr rfl (fun j h1 h2 => (do_load T37 rfl (tm rfl (nx rfl (nx rfl (nx rfl (nx rfl (nx rfl (nx rfl (nx rfl (nx rfl (nx rfl (nx rfl (nx rfl (nx rfl (nx rfl (nx rfl (nx rfl (nx rfl (nx rfl hit)))))))))))))))))) (F j (by omega)))) (nx rfl (nx rfl (nx rfl (nx rfl (nx rfl (nx rfl (nx rfl (nx rfl (nx rfl (nx rfl (nx rfl (nx rfl (nx rfl (nx rfl (nx rfl (nx rfl hit))))))))))))))))), (qa rfl (fun _ => (do_move (tm rfl (nx rfl (nx rfl (nx rfl (nx rfl (nx rfl (nx rfl (nx rfl (nx rfl (nx rfl (nx rfl (nx rfl (nx rfl (nx rfl (nx rfl (nx rfl (nx rfl (nx rfl (nx rfl (nx rfl (nx rfl c78_7))))))))))))))))))))))) (nx rfl (nx rfl (nx rfl (nx rfl (nx rfl (nx rfl (nx rfl (nx rfl (nx rfl (nx rfl (nx rfl (nx rfl (nx rfl (nx rfl (nx rfl hit)))))))))))))))), (qa rfl (fun _ => (do_move (tm rfl (nx rfl (nx rfl (nx rfl (nx rfl (nx rfl (nx rfl (nx rfl (nx rfl (nx rfl (nx rfl (nx rfl (nx rfl (nx rfl (nx rfl (nx rfl (nx rfl (nx rfl (nx rfl (nx rfl (nx rfl c78_18))))))))))))))))))))))) (nx rfl (nx rfl (nx rfl (nx rfl (nx rfl (nx rfl (nx rfl (nx rfl (nx rfl (nx rfl (nx rfl (nx rfl (nx rfl (nx rfl hit))))))))))))))), (qr rfl (fun j h1 h2 => (LK j (by omega) _ _ _ _ _ _ _ _ (tm rfl (nx rfl (nx rfl (nx rfl (nx rfl (nx rfl (nx rfl (nx rfl (nx rfl (nx rfl (nx rfl (nx rfl (nx rfl (nx rfl (nx rfl (nx rfl hit)))))))))))))))) (tm rfl (nx rfl (nx rfl (nx rfl (nx rfl (nx rfl (nx rfl (nx rfl (nx rfl (nx rfl (nx rfl (nx rfl (nx rfl (nx rfl (nx rfl hit))))))))))))))))) (nx rfl (nx rfl (nx rfl (nx rfl (nx rfl (nx rfl (nx rfl (nx rfl (nx rfl (nx rfl (nx rfl (nx rfl (nx rfl hit)))))))))))))), (qa rfl (fun _ => (do_move (tm rfl (nx rfl (nx rfl (nx rfl (nx rfl (nx rfl (nx rfl (nx rfl (nx rfl (nx rfl (nx rfl (nx rfl (nx rfl (nx rfl (nx rfl (nx rfl (nx rfl (nx rfl (nx rfl (nx rfl (nx rfl c78_4))))))))))))))))))))))) (nx rfl (nx rfl (nx rfl (nx rfl (nx rfl (nx rfl (nx rfl (nx rfl (nx rfl (nx rfl (nx rfl (nx rfl hit))))))))))))), (qa rfl (fun _ => (do_nilCheck (tm rfl (nx rfl (nx rfl (nx rfl (nx rfl (nx rfl (nx rfl (nx rfl (nx rfl (nx rfl (nx rfl (nx rfl (nx rfl hit))))))))))))))) (nx rfl (nx rfl (nx rfl (nx rfl (nx rfl (nx rfl (nx rfl (nx rfl (nx rfl (nx rfl (nx rfl hit)))))))))))), (qa rfl (fun _ => (fa58_6 (tm rfl (nx rfl (nx rfl (nx rfl (nx rfl (nx rfl (nx rfl (nx rfl (nx rfl (nx rfl (nx rfl (nx rfl hit)))))))))))))) (nx rfl (nx rfl (nx rfl (nx rfl (nx rfl (nx rfl (nx rfl (nx rfl (nx rfl (nx rfl hit))))))))))), (qr rfl (fun j h1 h2 => (do_load T37 rfl (tm rfl (nx rfl (nx rfl (nx rfl (nx rfl (nx rfl (nx rfl (nx rfl (nx rfl (nx rfl (nx rfl hit))))))))))) (F j (by omega)))) (nx rfl (nx rfl (nx rfl (nx rfl (nx rfl (nx rfl (nx rfl (nx rfl (nx rfl hit)))))))))), (qa rfl (fun _ => (do_move (tm rfl (nx rfl (nx rfl (nx rfl (nx rfl (nx rfl (nx rfl (nx rfl (nx rfl (nx rfl (nx rfl (nx rfl (nx rfl (nx rfl (nx rfl (nx rfl (nx rfl (nx rfl (nx rfl (nx rfl (nx rfl c78_7))))))))))))))))))))))) (nx rfl (nx rfl (nx rfl (nx rfl (nx rfl (nx rfl (nx rfl (nx rfl hit))))))))), (qa rfl (fun _ => (do_move (tm rfl (nx rfl (nx rfl (nx rfl (nx rfl (nx rfl (nx rfl (nx rfl (nx rfl (nx rfl (nx rfl (nx rfl (nx rfl (nx rfl (nx rfl (nx rfl (nx rfl (nx rfl (nx rfl (nx rfl (nx rfl c78_18))))))))))))))))))))))) (nx rfl (nx rfl (nx rfl (nx rfl (nx rfl (nx rfl (nx rfl hit)))))))), (qr rfl (fun j h1 h2 => (LK j (by omega) _ _ _ _ _ _ _ _ (tm rfl (nx rfl (nx rfl (nx rfl (nx rfl (nx rfl (nx rfl (nx rfl (nx rfl hit))))))))) (tm rfl (nx rfl (nx rfl (nx rfl (nx rfl (nx rfl (nx rfl (nx rfl hit)))))))))) (nx rfl (nx rfl (nx rfl (nx rfl (nx rfl (nx rfl hit))))))), (qa rfl (fun _ => (ix37 (tm rfl (nx rfl (nx rfl (nx rfl (nx rfl (nx rfl (nx rfl (nx rfl (nx rfl (nx rfl hit)))))))))) (tm rfl (nx rfl (nx rfl (nx rfl (nx rfl (nx rfl (nx rfl hit))))))) (by omega))) (nx rfl (nx rfl (nx rfl (nx rfl (nx rfl hit)))))), (qr rfl (fun j h1 h2 => (do_load T22 rfl (tm rfl (nx rfl (nx rfl (nx rfl (nx rfl (nx rfl hit)))))) (FC j (by omega)))) (nx rfl (nx rfl (nx rfl (nx rfl hit))))), (qa rfl (fun _ => (do_move (tm rfl (nx rfl (nx rfl (nx rfl (nx rfl (nx rfl (nx rfl (nx rfl (nx rfl (nx rfl (nx rfl (nx rfl (nx rfl (nx rfl (nx rfl (nx rfl (nx rfl (nx rfl (nx rfl (nx rfl (nx rfl c78_18))))))))))))))))))))))) (nx rfl (nx rfl (nx rfl hit)))), (ef rfl (do_bs1 T22 T3 rfl (tm rfl (nx rfl (nx rfl (nx rfl hit)))) rfl) (nx rfl (nx rfl hit))), (ef rfl (hap _ _ _ _ _ _ _ _ (tm rfl (nx rfl (nx rfl (nx rfl (nx rfl hit))))) (tm rfl (nx rfl (nx rfl hit)))) (nx rfl hit)), (qa rfl (fun _ => (ix37 (tm rfl (nx rfl (nx rfl (nx rfl (nx rfl (nx rfl (nx rfl (nx rfl (nx rfl (nx rfl (nx rfl (nx rfl (nx rfl (nx rfl (nx rfl (nx rfl (nx rfl hit))))))))))))))))) (tm rfl (nx rfl (nx rfl (nx rfl (nx rfl (nx rfl (nx rfl (nx rfl (nx rfl (nx rfl (nx rfl (nx rfl (nx rfl (nx rfl hit)))))))))))))) (by omega))) hit), (en rfl (hst _ _ _ _ _ _ _ _ (tm rfl hit) (tm rfl (nx rfl hit)))), trivial⟩ rfl ?_
              intro τ79 e79
              have c79_0 := (congrFun e79 0).trans (nx rfl (nx rfl (nx rfl (nx rfl (nx rfl (nx rfl (nx rfl (nx rfl (nx rfl (nx rfl (nx rfl (nx rfl (nx rfl (nx rfl (nx rfl (nx rfl (nx rfl (nx rfl (nx rfl (nx rfl c78_0))))))))))))))))))))
              have c79_4 := (congrFun e79 4).trans (nx rfl (nx rfl (nx rfl (nx rfl (nx rfl (nx rfl (nx rfl (nx rfl (nx rfl (nx rfl (nx rfl (nx rfl (nx rfl (nx rfl (nx rfl (nx rfl (nx rfl (nx rfl (nx rfl (nx rfl c78_4))))))))))))))))))))
              have c79_5 := (congrFun e79 5).trans (nx rfl (nx rfl (nx rfl (nx rfl (nx rfl (nx rfl (nx rfl (nx rfl (nx rfl (nx rfl (nx rfl (nx rfl (nx rfl (nx rfl (nx rfl (nx rfl (nx rfl (nx rfl (nx rfl (nx rfl c78_5))))))))))))))))))))
              have c79_7 := (congrFun e79 7).trans (nx rfl (nx rfl (nx rfl (nx rfl (nx rfl (nx rfl (nx rfl (nx rfl (nx rfl (nx rfl (nx rfl (nx rfl (nx rfl (nx rfl (nx rfl (nx rfl (nx rfl (nx rfl (nx rfl (nx rfl c78_7))))))))))))))))))))
              have c79_8 := (congrFun e79 8).trans (nx rfl (nx rfl (nx rfl (nx rfl (nx rfl (nx rfl (nx rfl (nx rfl (nx rfl (nx rfl (nx rfl (nx rfl (nx rfl (nx rfl (nx rfl (nx rfl (nx rfl (nx rfl (nx rfl (nx rfl c78_8))))))))))))))))))))
              have c79_9 := (congrFun e79 9).trans (nx rfl (nx rfl (nx rfl (nx rfl (nx rfl (nx rfl (nx rfl (nx rfl (nx rfl (nx rfl (nx rfl (nx rfl (nx rfl (nx rfl (nx rfl (nx rfl (nx rfl (nx rfl (nx rfl (nx rfl c78_9))))))))))))))))))))
              have c79_11 := (congrFun e79 11).trans (nx rfl (nx rfl (nx rfl (nx rfl (nx rfl (nx rfl (nx rfl (nx rfl (nx rfl (nx rfl (nx rfl (nx rfl (nx rfl (nx rfl (nx rfl (nx rfl (nx rfl (nx rfl (nx rfl (nx rfl c78_11))))))))))))))))))))
              have c79_16 := (congrFun e79 16).trans (nx rfl (nx rfl (nx rfl (nx rfl (nx rfl (nx rfl (nx rfl (nx rfl (nx rfl (nx rfl (nx rfl (nx rfl (nx rfl (nx rfl (nx rfl (nx rfl (nx rfl (nx rfl (nx rfl (nx rfl c78_16))))))))))))))))))))
              have c79_18 := (congrFun e79 18).trans (nx rfl (nx rfl (nx rfl (nx rfl (nx rfl (nx rfl (nx rfl (nx rfl (nx rfl (nx rfl (nx rfl (nx rfl (nx rfl (nx rfl (nx rfl (nx rfl (nx rfl (nx rfl (nx rfl (nx rfl c78_18))))))))))))))))))))
              have c79_19 := (congrFun e79 19).trans (nx rfl (nx rfl (nx rfl (nx rfl (nx rfl (nx rfl (nx rfl (nx rfl (nx rfl (nx rfl (nx rfl (nx rfl (nx rfl (nx rfl (nx rfl (nx rfl (nx rfl (nx rfl (nx rfl (nx rfl c78_19))))))))))))))))))))
              have c79_68 := (congrFun e79 68).trans (nx rfl (nx rfl (nx rfl (nx rfl (nx rfl (nx rfl (nx rfl (nx rfl (nx rfl (nx rfl (nx rfl (nx rfl (nx rfl (nx rfl (nx rfl (nx rfl (nx rfl (nx rfl (nx rfl (nx rfl c78_68))))))))))))))))))))
              have c79_69 := (congrFun e79 69).trans (nx rfl (nx rfl (nx rfl (nx rfl (nx rfl (nx rfl (nx rfl (nx rfl (nx rfl (nx rfl (nx rfl (nx rfl (nx rfl (nx rfl (nx rfl (nx rfl (nx rfl (nx rfl (nx rfl (nx rfl c78_69))))))))))))))))))))
              have c79_70 := (congrFun e79 70).trans (nx rfl (nx rfl (nx rfl (nx rfl (nx rfl (nx rfl (nx rfl (nx rfl (nx rfl (nx rfl (nx rfl (nx rfl (nx rfl (nx rfl (nx rfl (nx rfl (nx rfl (nx rfl (nx rfl (nx rfl c78_70))))))))))))))))))))
              have c79_159 := (congrFun e79 159).trans (nx rfl (nx rfl (nx rfl (nx rfl (nx rfl (nx rfl (nx rfl (nx rfl (nx rfl (nx rfl (nx rfl (nx rfl (nx rfl (nx rfl (nx rfl (nx rfl (nx rfl (nx rfl (nx rfl (nx rfl c78_159))))))))))))))))))))
              have c79_160 := (congrFun e79 160).trans (nx rfl (nx rfl (nx rfl (nx rfl (nx rfl (nx rfl (nx rfl (nx rfl (nx rfl (nx rfl (nx rfl (nx rfl (nx rfl (nx rfl (nx rfl (nx rfl (nx rfl (nx rfl (nx rfl (nx rfl c78_160))))))))))))))))))))
              have c79_161 := (congrFun e79 161).trans (nx rfl (nx rfl (nx rfl (nx rfl (nx rfl (nx rfl (nx rfl (nx rfl (nx rfl (nx rfl (nx rfl (nx rfl (nx rfl (nx rfl (nx rfl (nx rfl (nx rfl (nx rfl (nx rfl (nx rfl c78_161))))))))))))))))))))
              clear e79
              refine hJ _ _ ⟨J5, _, c79_0, c79_4, c79_68, c79_69, c79_70, c79_5, c79_7, c79_8, c79_9, c79_11, c79_16, c79_159, c79_160, c79_161, c79_18, c79_19, g6, hP2.u8 j3 hT6, hS.edge hfs hvn hlt3, ?_, ?_, ?_, j3.vb (t := 35) (by decide) hvs2, ?_, by rw [sumLen_push]; omega⟩
              · rw [j3 30 (by decide)]; exact mf2
              · rw [j3 32 (by decide)]; exact mo2
              · rw [j3 34 (by decide)]; exact ms2
              · rw [j3 31 (by decide)]; exact hfr2
          clear t0 t4 t68 t69 t70 t5 t7 t8 t9 t11 t16 t159 t160 t161 t18 t19 hP2 hS mf2 mo2 ms2 hvs2 hfr2 hv5 g4
          rintro τ wi ⟨G, succ, t0, t4, t68, t69, t70, t5, t7, t8, t9, t11, t16, t159, t160, t161, t18, t19, hsG, hP, hS, mf, mo, ms, hvs, hfr, hv5⟩
          obtain ⟨cw, hcw, hcw1, hcw2⟩ := lookB (p := Wt hh (A x).length v) (fun u hu => hsc.w1 v u hu)
          refine wp_seq_k (fun K80 hK80 => ?_)
          refine reg ?_
          refine sq rfl (do_move (tm rfl t9)) ?_
          refine sq rfl (do_move (tm rfl (nx rfl t18))) ?_
          refine sq rfl ((MapV.look1 keyI Try.underlying88 zero4 mo hsG (k := (v : Int)) (tm rfl (nx rfl hit)) (tm rfl hit)).cast hcw) ?_
          refine wnil ?_
          refine hK80 _ _ ?_
          clear hK80
          have hSM' := hSM
          have hmem : ∀ z, z ∈ fs.take q → z ∈ fs.take (q + 1) := by
            intro z hz
            rw [List.take_add_one]
            exact List.mem_append_left _ hz
          have hSC' : ∀ q', q' < q + 1 → ∃ (v : Nat) (f : Int) (i : Nat), fs[q']? = some (v : Int) ∧ gI (v : Int) lf = some (.int .i64 f) ∧ gI f ls = some (.int .i64 (i : Int)) := by
            intro q' hq'
            rcases Nat.lt_or_ge q' q with h1 | h1
            · exact hSC q' h1
            · obtain rfl : q' = q := by omega
              exact ⟨v, f, i, hq?, hlf, hgi⟩
          have hsr : sumLen (reads.set v (reads[v] ++ [(i : Int)])) ≤ tot A x + (q + 1) := by rw [sumLen_push]; omega
          have hsrd : sumLen (readers.set i (readers[i] ++ [(v : Int)])) ≤ tot A x + (q + 1) := by rw [sumLen_push]; omega
          have hin : i < next.length := by rw [hS.l6]; exact hir
          cases cw with
          | false =>
            refine cF rfl hit rfl ?_
            refine wp_skip ?_
            refine inBN ?_
            refine hK60 _ _ ?_
            clear hK60
            have hnw : ¬ WtF A x v := by
              intro hc
              have h1 := hsc.w2 v ((hWF v).1 hc)
              rw [hcw2 rfl] at h1
              cases h1
            refine reg ?_
            refine sq rfl (do_inc (tm rfl (nx rfl (nx rfl (nx rfl t161)))) ck (by omega)) ?_
            refine sq rfl (do_move (tm rfl hit)) ?_
            refine cutL ?_
            intro τ81 e81
            have c81_0 := (congrFun e81 0).trans (nx rfl (nx rfl (nx rfl (nx rfl (nx rfl t0)))))
            have c81_4 := (congrFun e81 4).trans (nx rfl (nx rfl (nx rfl (nx rfl (nx rfl t4)))))
            have c81_5 := (congrFun e81 5).trans (nx rfl (nx rfl (nx rfl (nx rfl (nx rfl t5)))))
            have c81_7 := (congrFun e81 7).trans (nx rfl (nx rfl (nx rfl (nx rfl (nx rfl t7)))))
            have c81_8 := (congrFun e81 8).trans (nx rfl (nx rfl (nx rfl (nx rfl (nx rfl t8)))))
            have c81_9 := (congrFun e81 9).trans (nx rfl (nx rfl (nx rfl (nx rfl (nx rfl t9)))))
            have c81_11 := (congrFun e81 11).trans (nx rfl (nx rfl (nx rfl (nx rfl (nx rfl t11)))))
            have c81_16 := (congrFun e81 16).trans (nx rfl (nx rfl (nx rfl (nx rfl (nx rfl t16)))))
            have c81_18 := (congrFun e81 18).trans (nx rfl (nx rfl (nx rfl (nx rfl (nx rfl t18)))))
            have c81_19 := (congrFun e81 19).trans (nx rfl (nx rfl (nx rfl (nx rfl (nx rfl t19)))))
            have c81_68 := (congrFun e81 68).trans (nx rfl (nx rfl (nx rfl (nx rfl (nx rfl t68)))))
            have c81_69 := (congrFun e81 69).trans (nx rfl (nx rfl (nx rfl (nx rfl (nx rfl t69)))))
            have c81_70 := (congrFun e81 70).trans (nx rfl (nx rfl (nx rfl (nx rfl (nx rfl t70)))))
            have c81_159 := (congrFun e81 159).trans (nx rfl (nx rfl (nx rfl (nx rfl (nx rfl t159)))))
            have c81_160 := (congrFun e81 160).trans (nx rfl (nx rfl (nx rfl (nx rfl (nx rfl t160)))))
            have c81_161 := (congrFun e81 161).trans hit
            clear e81
            refine wnil ?_
            refine hnn' (fs.length - (q + 1)) _ _ (by omega) ⟨q + 1, G, src, _, _, next, succ, _, nv, ls, rfl, by omega, c81_0, c81_4, c81_68, c81_69, c81_70, c81_5, c81_7, c81_8, c81_9, c81_11, c81_16, c81_159, c81_160, c81_161, hsG, hP, hS.read hvr hir hsi (by rw [hhh]; exact hsrc) next rfl (.inr ⟨hnw, rfl⟩), mf, mo, ms, hvs, hfr, hSM, hSC', fun i2 v2 f2 h1 h2 => hmem _ (hNX i2 v2 f2 h1 h2), hsx, hsr, hsrd, by rw [List.length_set]; omega, by omega⟩
          | true =>
            refine cT rfl hit rfl ?_
            have hwv : WtF A x v := (hWF v).2 (hcw1 rfl).1
            have hm1 : next[i]? = some (-1) := by
              obtain ⟨z, hz, hz2⟩ := hS.nx i hin
              rcases hz2 with rfl | ⟨v2, y2, f2, rfl, hv2n, hsi2, hsrc2, hwt2⟩
              · exact hz
              · exfalso
                rw [hsi] at hsi2
                cases hsi2
                rw [hhh] at hsrc2
                have hvv := hLx.one_next hsrc hsrc2 (by rw [hhm]; exact (hWF v).1 hwv) (by rw [hhm]; exact (hWF v2).1 hwt2) hvn hv2n
                subst hvv
                have hmm := hNX i v f hsi hz
                obtain ⟨q2, hq2, hqe⟩ := List.mem_take_iff_getElem.1 hmm
                have := (List.getElem?_inj (i := q2) (j := q) (by omega) hsc.nd).1 (by rw [List.getElem?_eq_getElem (by omega), hqe, hq?])
                omega
            obtain ⟨na2, nc2, rfl⟩ := hP.t7.slice
            obtain ⟨gn, hgn, cn, fn2⟩ := hP.t7.cellS hsG (show (next.flatMap encI)[i]? = some (.int .i64 (-1)) by rw [flat_I]; simp [ints, hm1])
            subst hgn
            refine wp_seq_k (fun K82 hK82 => ?_)
            refine wp_seq_k (fun K83 hK83 => ?_)
            refine reg ?_
            refine sq rfl (do_move (tm rfl (nx rfl (nx rfl (nx rfl t4))))) ?_
            refine sq rfl (do_nilCheck (tm rfl hit)) ?_
            refine sq rfl (fa58_5 (tm rfl hit)) ?_
            refine sq rfl (do_load T22 rfl (tm rfl hit) (hP.p.cell hsG (i := 5) rfl)) ?_
            refine sq rfl (do_move (tm rfl (nx rfl (nx rfl (nx rfl (nx rfl (nx rfl (nx rfl (nx rfl t19))))))))) ?_
            refine sq rfl (ix22 (tm rfl (nx rfl hit)) (tm rfl hit) (by omega)) ?_
            refine sq rfl (do_load T3 rfl (tm rfl hit) cn) ?_
            refine sq rfl (do_geqF (tm rfl hit) ck (by omega)) ?_
            refine cutL ?_
            intro τ84 e84
            have c84_0 := (congrFun e84 0).trans (nx rfl (nx rfl (nx rfl (nx rfl (nx rfl (nx rfl (nx rfl (nx rfl (nx rfl (nx rfl (nx rfl t0)))))))))))
            have c84_4 := (congrFun e84 4).trans (nx rfl (nx rfl (nx rfl (nx rfl (nx rfl (nx rfl (nx rfl (nx rfl (nx rfl (nx rfl (nx rfl t4)))))))))))
            have c84_5 := (congrFun e84 5).trans (nx rfl (nx rfl (nx rfl (nx rfl (nx rfl (nx rfl (nx rfl (nx rfl (nx rfl (nx rfl (nx rfl t5)))))))))))
            have c84_7 := (congrFun e84 7).trans (nx rfl (nx rfl (nx rfl (nx rfl (nx rfl (nx rfl (nx rfl (nx rfl (nx rfl (nx rfl (nx rfl t7)))))))))))
            have c84_8 := (congrFun e84 8).trans (nx rfl (nx rfl (nx rfl (nx rfl (nx rfl (nx rfl (nx rfl (nx rfl (nx rfl (nx rfl (nx rfl t8)))))))))))
            have c84_9 := (congrFun e84 9).trans (nx rfl (nx rfl (nx rfl (nx rfl (nx rfl (nx rfl (nx rfl (nx rfl (nx rfl (nx rfl (nx rfl t9)))))))))))
            have c84_11 := (congrFun e84 11).trans (nx rfl (nx rfl (nx rfl (nx rfl (nx rfl (nx rfl (nx rfl (nx rfl (nx rfl (nx rfl (nx rfl t11)))))))))))
            have c84_16 := (congrFun e84 16).trans (nx rfl (nx rfl (nx rfl (nx rfl (nx rfl (nx rfl (nx rfl (nx rfl (nx rfl (nx rfl (nx rfl t16)))))))))))
            have c84_18 := (congrFun e84 18).trans (nx rfl (nx rfl (nx rfl (nx rfl (nx rfl (nx rfl (nx rfl (nx rfl (nx rfl (nx rfl (nx rfl t18)))))))))))
            have c84_19 := (congrFun e84 19).trans (nx rfl (nx rfl (nx rfl (nx rfl (nx rfl (nx rfl (nx rfl (nx rfl (nx rfl (nx rfl (nx rfl t19)))))))))))
            have c84_68 := (congrFun e84 68).trans (nx rfl (nx rfl (nx rfl (nx rfl (nx rfl (nx rfl (nx rfl (nx rfl (nx rfl (nx rfl (nx rfl t68)))))))))))
            have c84_69 := (congrFun e84 69).trans (nx rfl (nx rfl (nx rfl (nx rfl (nx rfl (nx rfl (nx rfl (nx rfl (nx rfl (nx rfl (nx rfl t69)))))))))))
            have c84_70 := (congrFun e84 70).trans (nx rfl (nx rfl (nx rfl (nx rfl (nx rfl (nx rfl (nx rfl (nx rfl (nx rfl (nx rfl (nx rfl t70)))))))))))
            have c84_159 := (congrFun e84 159).trans (nx rfl (nx rfl (nx rfl (nx rfl (nx rfl (nx rfl (nx rfl (nx rfl (nx rfl (nx rfl (nx rfl t159)))))))))))
            have c84_160 := (congrFun e84 160).trans (nx rfl (nx rfl (nx rfl (nx rfl (nx rfl (nx rfl (nx rfl (nx rfl (nx rfl (nx rfl (nx rfl t160)))))))))))
            have c84_161 := (congrFun e84 161).trans (nx rfl (nx rfl (nx rfl (nx rfl (nx rfl (nx rfl (nx rfl (nx rfl (nx rfl (nx rfl (nx rfl t161)))))))))))
            have c84_269 := (congrFun e84 269).trans hit
            clear e84
            refine wnil ?_
            refine hK83 _ _ ?_
            clear hK83
            refine cF rfl c84_269 rfl ?_
            refine wp_skip ?_
            refine hK82 _ _ ?_
            clear hK82
            obtain ⟨gn2, cap2, V7, hgn2, hs7, hr7, _⟩ := hP.t7.set hsG hin (.int .i64 (v : Int))
            cases hgn2
            refine reg ?_
            refine sq rfl (do_move (tm rfl c84_4)) ?_
            refine sq rfl (do_nilCheck (tm rfl hit)) ?_
            refine sq rfl (fa58_5 (tm rfl hit)) ?_
            refine sq rfl (do_load T22 rfl (tm rfl hit) (hP.p.cell hsG (i := 5) rfl)) ?_
            refine sq rfl (do_move (tm rfl (nx rfl (nx rfl (nx rfl (nx rfl c84_19)))))) ?_
            refine sq rfl (do_move (tm rfl (nx rfl (nx rfl (nx rfl (nx rfl (nx rfl c84_18))))))) ?_
            refine sq rfl (ix22 (tm rfl (nx rfl (nx rfl hit))) (tm rfl (nx rfl hit)) (by omega)) ?_
            refine sqn (do_store T3 (tm rfl hit) (tm rfl (nx rfl hit)) rfl cn fn2) ?_
            refine cutW ?_
            intro τ85 e85 xz hxz
            have c85_0 := (congrFun e85 0).trans (nx rfl (nx rfl (nx rfl (nx rfl (nx rfl (nx rfl (nx rfl c84_0)))))))
            have c85_4 := (congrFun e85 4).trans (nx rfl (nx rfl (nx rfl (nx rfl (nx rfl (nx rfl (nx rfl c84_4)))))))
            have c85_5 := (congrFun e85 5).trans (nx rfl (nx rfl (nx rfl (nx rfl (nx rfl (nx rfl (nx rfl c84_5)))))))
            have c85_7 := (congrFun e85 7).trans (nx rfl (nx rfl (nx rfl (nx rfl (nx rfl (nx rfl (nx rfl c84_7)))))))
            have c85_8 := (congrFun e85 8).trans (nx rfl (nx rfl (nx rfl (nx rfl (nx rfl (nx rfl (nx rfl c84_8)))))))
            have c85_9 := (congrFun e85 9).trans (nx rfl (nx rfl (nx rfl (nx rfl (nx rfl (nx rfl (nx rfl c84_9)))))))
            have c85_11 := (congrFun e85 11).trans (nx rfl (nx rfl (nx rfl (nx rfl (nx rfl (nx rfl (nx rfl c84_11)))))))
            have c85_16 := (congrFun e85 16).trans (nx rfl (nx rfl (nx rfl (nx rfl (nx rfl (nx rfl (nx rfl c84_16)))))))
            have c85_18 := (congrFun e85 18).trans (nx rfl (nx rfl (nx rfl (nx rfl (nx rfl (nx rfl (nx rfl c84_18)))))))
            have c85_19 := (congrFun e85 19).trans (nx rfl (nx rfl (nx rfl (nx rfl (nx rfl (nx rfl (nx rfl c84_19)))))))
            have c85_68 := (congrFun e85 68).trans (nx rfl (nx rfl (nx rfl (nx rfl (nx rfl (nx rfl (nx rfl c84_68)))))))
            have c85_69 := (congrFun e85 69).trans (nx rfl (nx rfl (nx rfl (nx rfl (nx rfl (nx rfl (nx rfl c84_69)))))))
            have c85_70 := (congrFun e85 70).trans (nx rfl (nx rfl (nx rfl (nx rfl (nx rfl (nx rfl (nx rfl c84_70)))))))
            have c85_159 := (congrFun e85 159).trans (nx rfl (nx rfl (nx rfl (nx rfl (nx rfl (nx rfl (nx rfl c84_159)))))))
            have c85_160 := (congrFun e85 160).trans (nx rfl (nx rfl (nx rfl (nx rfl (nx rfl (nx rfl (nx rfl c84_160)))))))
            have c85_161 := (congrFun e85 161).trans (nx rfl (nx rfl (nx rfl (nx rfl (nx rfl (nx rfl (nx rfl c84_161)))))))
            clear e85
            refine wnil ?_
            refine inBN ?_
            refine hK60 _ _ ?_
            clear hK60
            have hs7' : Split w.heap.size w xz (updH G 7 V7) := by rw [hxz]; exact hs7
            have k7 : Same [7] G (updH G 7 V7) := Same.upd (by decide)
            refine reg ?_
            refine sq rfl (do_inc (tm rfl c85_161) ck (by omega)) ?_
            refine sq rfl (do_move (tm rfl hit)) ?_
            refine wnil ?_
            refine hnn' (fs.length - (q + 1)) _ _ (by omega) ⟨q + 1, updH G 7 V7, src, _, _, next.set i (v : Int), succ, _, _, ls, rfl, by omega, (nx rfl (nx rfl c85_0)), (nx rfl (nx rfl c85_4)), (nx rfl (nx rfl c85_68)), (nx rfl (nx rfl c85_69)), (nx rfl (nx rfl c85_70)), (nx rfl (nx rfl c85_5)), (nx rfl (nx rfl c85_7)), (nx rfl (nx rfl c85_8)), (nx rfl (nx rfl c85_9)), (nx rfl (nx rfl c85_11)), (nx rfl (nx rfl c85_16)), (nx rfl (nx rfl c85_159)), (nx rfl (nx rfl c85_160)), hit, hs7', hP.u7 k7 ?_, hS.read hvr hir hsi (by rw [hhh]; exact hsrc) _ (by simp) (.inl ⟨hwv, hm1, rfl⟩), mf, mo, ms, hvs, hfr, hSM, hSC', fun i2 v2 f2 h1 h2 => ?_, hsx, hsr, hsrd, by rw [List.length_set]; omega, by omega⟩
            · rw [updH_hit, List.length_set, flat_I, ← ints_set, ← flat_I]
              exact hr7
            · by_cases hii : i = i2
              · subst hii
                rw [List.getElem?_set_self hin] at h2
                injection h2 with h2
                rw [← h2, List.take_add_one, hq?]
                simp
              · rw [List.getElem?_set_ne hii] at h2
                exact hmem _ (hNX i2 v2 f2 h1 h2)
        · refine wp_seq_k (fun K86 hK86 => ?_)
          refine cF rfl hit (by simpa using h') ?_
          refine wp_exit ?_
          refine thenE ?_
          obtain rfl : q = fs.length := by omega
          exact hx' _ _ ⟨G, src, reads, readers, next, succ, rdv, nv, ls, (nx rfl t0), (nx rfl t4), (nx rfl t68), (nx rfl t69), (nx rfl t70), (nx rfl t5), (nx rfl t7), (nx rfl t8), (nx rfl t9), (nx rfl t11), (nx rfl t16), hsG, hP, hS, mf, mo, ms, hvs, hfr, hSM, hSC, hsx, by omega, by omega, by omega, by omega⟩
      clear t0 t4 t68 t69 t70 t5 t7 t8 t9 t11 hs2 hP2 hS mf2 mo2 ms2 hvs hfr2 hu1 hu3 hu4 hu5 hsx
      rintro τ wi ⟨G, src, reads, readers, next, succ, rdv, nv, ls, t0, t4, t68, t69, t70, t5, t7, t8, t9, t11, t16, hsG, hP, hS, mf, mo, ms, hvs, hfr, hSM, hSC, hsx, hv1, hv3, hv4, hv5⟩
      refine hK56 _ _ ?_
      clear hK56
      refine wp_seq_k (fun K87 hK87 => ?_)
      refine wp_seq_k (fun K88 hK88 => ?_)
      refine reg ?_
      refine sq rfl (do_move (tm rfl t8)) ?_
      refine sq rfl (do_len Try.underlying22 (tm rfl hit)) ?_
      refine sq rfl (do_move (v := .int .i64 ((0 : Nat) : Int)) rfl) ?_
      refine wnil ?_
      refine hK88 _ _ ?_
      clear hK88
      refine forLoop (N := 405) (fun r τ wi => ∃ (q : Nat) (G : Nat → Part) (succ : List (List Int)), r = fs.length - q ∧ q ≤ fs.length ∧ τ 0 = .pointer (some ⟨gb, 0, none⟩) ∧ τ 4 = .pointer (some ⟨pb, 0, none⟩) ∧ τ 68 = .slice (some ⟨bi, oi, none⟩) k ic ∧ τ 69 = .int .i64 (k : Int) ∧ τ 70 = .int .i64 (x : Int) ∧ τ 5 = .int .i64 (x : Int) ∧ τ 7 = .map (some bF) ∧ τ 8 = .slice fa fs.length fc ∧ τ 9 = .map (some bO) ∧ τ 11 = .int .i64 (lwn hh (A x).length) ∧ τ 16 = .pointer (some ⟨bV, 0, none⟩) ∧ τ 278 = .slice fa fs.length fc ∧ τ 279 = .int .i64 (fs.length : Int) ∧ τ 280 = .int .i64 (q : Int) ∧
          Split w.heap.size w wi G ∧ HpP G pb n k reads writes writers initial readers next succ pin rv wv wsv rdv nv sv ib nb ∧ Tbl n k A rk x src reads writes writers initial readers next succ ∧ MapV (G 30) bF ik lf ∧ MapV (G 32) bO ik lw ∧ MapV (G 34) bS ik ls ∧ VB (G 35) bV 50 [.map (some bS)] ∧ RowV (G 31) 3 1 (.slice fa fs.length fc) fs.length (fs.flatMap encI) ∧ sumLen succ ≤ 3 * tot A x + (A x).length + q)
        (fun τ wi => ∃ (G : Nat → Part) (succ : List (List Int)), τ 0 = .pointer (some ⟨gb, 0, none⟩) ∧ τ 4 = .pointer (some ⟨pb, 0, none⟩) ∧ τ 68 = .slice (some ⟨bi, oi, none⟩) k ic ∧ τ 69 = .int .i64 (k : Int) ∧ τ 70 = .int .i64 (x : Int) ∧ τ 5 = .int .i64 (x : Int) ∧ τ 7 = .map (some bF) ∧ τ 8 = .slice fa fs.length fc ∧ τ 9 = .map (some bO) ∧ τ 11 = .int .i64 (lwn hh (A x).length) ∧ τ 16 = .pointer (some ⟨bV, 0, none⟩) ∧
          Split w.heap.size w wi G ∧ HpP G pb n k reads writes writers initial readers next succ pin rv wv wsv rdv nv sv ib nb ∧ Tbl n k A rk x src reads writes writers initial readers next succ ∧ MapV (G 30) bF ik lf ∧ MapV (G 32) bO ik lw ∧ MapV (G 34) bS ik ls ∧ VB (G 35) bV 50 [.map (some bS)] ∧ RowV (G 31) 3 1 (.slice fa fs.length fc) fs.length (fs.flatMap encI) ∧ sumLen succ ≤ 3 * tot A x + 2 * (A x).length) fs.length ?_ ?_ ?_
      · exact ⟨0, G, succ, rfl, Nat.zero_le _, (nx rfl (nx rfl (nx rfl t0))), (nx rfl (nx rfl (nx rfl t4))), (nx rfl (nx rfl (nx rfl t68))), (nx rfl (nx rfl (nx rfl t69))), (nx rfl (nx rfl (nx rfl t70))), (nx rfl (nx rfl (nx rfl t5))), (nx rfl (nx rfl (nx rfl t7))), (nx rfl (nx rfl (nx rfl t8))), (nx rfl (nx rfl (nx rfl t9))), (nx rfl (nx rfl (nx rfl t11))), (nx rfl (nx rfl (nx rfl t16))), (nx rfl (nx rfl hit)), (nx rfl hit), hit, hsG, hP, hS, mf, mo, ms, hvs, hfr, hv5⟩
      · clear t0 t4 t68 t69 t70 t5 t7 t8 t9 t11 t16 hsG hP hS mf mo ms hvs hfr hv5
        rintro Q'' r τ wi hnn' hx' hr' ⟨q, G, succ, rfl, hq, t0, t4, t68, t69, t70, t5, t7, t8, t9, t11, t16, t278, t279, t280, hsG, hP, hS, mf, mo, ms, hvs, hfr, hv5⟩
        refine wp_seq_k (fun K89 hK89 => ?_)
        refine reg ?_
        refine sq rfl (do_lss (tm rfl t280) (tm rfl t279)) ?_
        refine wnil ?_
        refine hK89 _ _ ?_
        clear hK89
        by_cases h' : q < fs.length
        · refine wp_seq_k (fun K90 hK90 => ?_)
          refine cT rfl hit (by simpa using h') ?_
          refine wp_skip ?_
          refine hK90 _ _ ?_
          clear hK90
          obtain ⟨v, f, hfq, hvn, hlf, hsrc⟩ := hffl q h'
          obtain ⟨g0, rfl, f1, _⟩ := hfr.cellS hsG (cellI h')
          rw [hfq] at f1
          have hfz : (gI (v : Int) lf).getD (.int .i64 0) = .int .i64 f := by rw [hlf]; rfl
          obtain ⟨i, hgi, hsi⟩ : ∃ i : Nat, gI f ls = some (.int .i64 (i : Int)) ∧ src[i]? = some (x, f) := by
            obtain ⟨v2, f2, i, e1, e2, e3⟩ := hSC q h'
            rw [List.getElem?_eq_getElem h', hfq] at e1
            injection e1 with e1
            rw [← e1, hlf] at e2
            injection e2 with e2
            injection e2 with _ e2
            rw [← e2] at e3
            obtain ⟨i', e4, e5⟩ := hSM f _ e3
            injection e4 with _ e4
            obtain rfl : i = i' := by omega
            exact ⟨i, e3, e5⟩
          have hiz : (gI f ls).getD (.int .i64 0) = .int .i64 (i : Int) := by rw [hgi]; rfl
          have hin : i < next.length := by rw [hS.l6, ← hS.l7]; exact (List.getElem?_eq_some_iff.1 hsi).1
          obtain ⟨z, hz, hz2⟩ := hS.nx i hin
          obtain ⟨na2, nc2, rfl⟩ := hP.t7.slice
          obtain ⟨gn, hgn, cn, _⟩ := hP.t7.cellS hsG.drew (show (next.flatMap encI)[i]? = some (.int .i64 z) by rw [flat_I]; simp [ints, hz])
          subst hgn
          refine wp_seq_k (fun K91 hK91 => ?_)
          refine wp_block ?_
          refine wp_seq_k (fun K92 hK92 => ?_)
          refine reg ?_
          refine sq rfl (ix22 (tm rfl (nx rfl t278)) (tm rfl (nx rfl t280)) (by omega)) ?_
          refine sq rfl (do_load T3 rfl (tm rfl hit) f1) ?_
          refine sq rfl (do_assign (tm rfl hit)) ?_
          refine cutL ?_
          intro τ93 e93
          have c93_0 := (congrFun e93 0).trans (nx rfl (nx rfl (nx rfl (nx rfl t0))))
          have c93_4 := (congrFun e93 4).trans (nx rfl (nx rfl (nx rfl (nx rfl t4))))
          have c93_5 := (congrFun e93 5).trans (nx rfl (nx rfl (nx rfl (nx rfl t5))))
          have c93_7 := (congrFun e93 7).trans (nx rfl (nx rfl (nx rfl (nx rfl t7))))
          have c93_8 := (congrFun e93 8).trans (nx rfl (nx rfl (nx rfl (nx rfl t8))))
          have c93_9 := (congrFun e93 9).trans (nx rfl (nx rfl (nx rfl (nx rfl t9))))
          have c93_11 := (congrFun e93 11).trans (nx rfl (nx rfl (nx rfl (nx rfl t11))))
          have c93_16 := (congrFun e93 16).trans (nx rfl (nx rfl (nx rfl (nx rfl t16))))
          have c93_22 := (congrFun e93 22).trans hit
          have c93_68 := (congrFun e93 68).trans (nx rfl (nx rfl (nx rfl (nx rfl t68))))
          have c93_69 := (congrFun e93 69).trans (nx rfl (nx rfl (nx rfl (nx rfl t69))))
          have c93_70 := (congrFun e93 70).trans (nx rfl (nx rfl (nx rfl (nx rfl t70))))
          have c93_278 := (congrFun e93 278).trans (nx rfl (nx rfl (nx rfl (nx rfl t278))))
          have c93_279 := (congrFun e93 279).trans (nx rfl (nx rfl (nx rfl (nx rfl t279))))
          have c93_280 := (congrFun e93 280).trans (nx rfl (nx rfl (nx rfl (nx rfl t280))))
          clear e93
          refine wnil ?_
          refine hK92 _ _ ?_
          clear hK92
          refine wp_seq_k (fun K94 hK94 => ?_)
          refine draw mixed [] [(0, 0), (0, 0), (0, 0), (0, 0), (0, 0), (0, 0), (0, 0), (0, 0), (0, 0), (0, 0), (0, 0), (0, 0)] [] (World.drew _) (upd (upd (upd (upd (upd (upd (upd (upd (upd (upd (upd (upd _ 284 _) 285 _) 286 _) 287 _) 288 _) 289 _) 290 _) 291 _) 292 _) 293 _) 294 _) 23 _) (by kernel_rfl) (fun s hs => ovr_off [(284, _), (285, _), (286, _), (287, _), (288, _), (289, _), (290, _), (291, _), (292, _), (293, _), (294, _), (23, _)] _ s hs) ⟨(qa rfl (fun _ => (do_move (tm rfl (nx rfl (nx rfl (nx rfl (nx rfl (nx rfl (nx rfl (nx rfl (nx rfl (nx rfl (nx rfl (nx rfl (nx rfl c93_4))))))))))))))) (nx rfl (nx rfl (nx rfl (nx rfl (nx rfl (nx rfl (nx rfl (nx rfl (nx rfl (nx rfl (nx rfl hit)))))))))))), (qa rfl (fun _ => (do_nilCheck (tm rfl (nx rfl (nx rfl (nx rfl (nx rfl (nx rfl (nx rfl (nx rfl (nx rfl (nx rfl (nx rfl (nx rfl hit)))))))))))))) (nx rfl (nx rfl (nx rfl (nx rfl (nx rfl (nx rfl (nx rfl (nx rfl (nx rfl (nx rfl hit))))))))))), (qa rfl (fun _ => (fa58_5 (tm rfl (nx rfl (nx rfl (nx rfl (nx rfl (nx rfl (nx rfl (nx rfl (nx rfl (nx rfl (nx rfl hit))))))))))))) (nx rfl (nx rfl (nx rfl (nx rfl (nx rfl (nx rfl (nx rfl (nx rfl (nx rfl hit)))))))))), (qk rfl (do_load T22 rfl (tm rfl (nx rfl (nx rfl (nx rfl (nx rfl (nx rfl (nx rfl (nx rfl (nx rfl (nx rfl hit)))))))))) (hP.p.cell hsG.drew (i := 5) rfl)) (nx rfl (nx rfl (nx rfl (nx rfl (nx rfl (nx rfl (nx rfl (nx rfl hit))))))))), (qk rfl (do_load T50 rfl (tm rfl (nx rfl (nx rfl (nx rfl (nx rfl (nx rfl (nx rfl (nx rfl (nx rfl (nx rfl (nx rfl (nx rfl (nx rfl c93_16))))))))))))) (hvs.cell hsG.drew (i := 0) rfl)) (nx rfl (nx rfl (nx rfl (nx rfl (nx rfl (nx rfl (nx rfl hit)))))))), (qa rfl (fun _ => (do_move (tm rfl (nx rfl (nx rfl (nx rfl (nx rfl (nx rfl (nx rfl (nx rfl (nx rfl (nx rfl (nx rfl (nx rfl (nx rfl c93_7))))))))))))))) (nx rfl (nx rfl (nx rfl (nx rfl (nx rfl (nx rfl hit))))))), (qa rfl (fun _ => (do_move (tm rfl (nx rfl (nx rfl (nx rfl (nx rfl (nx rfl (nx rfl (nx rfl (nx rfl (nx rfl (nx rfl (nx rfl (nx rfl c93_22))))))))))))))) (nx rfl (nx rfl (nx rfl (nx rfl (nx rfl hit)))))), (qk rfl ((MapV.look1 keyI Try.underlying50 zero3 mf hsG.drew (k := (v : Int)) (tm rfl (nx rfl (nx rfl (nx rfl (nx rfl (nx rfl (nx rfl hit))))))) (tm rfl (nx rfl (nx rfl (nx rfl (nx rfl (nx rfl hit))))))).cast hfz) (nx rfl (nx rfl (nx rfl (nx rfl hit))))), (qk rfl ((MapV.look1 keyI Try.underlying50 zero3 ms hsG.drew (k := f) (tm rfl (nx rfl (nx rfl (nx rfl (nx rfl (nx rfl (nx rfl (nx rfl hit)))))))) (tm rfl (nx rfl (nx rfl (nx rfl (nx rfl hit)))))).cast hiz) (nx rfl (nx rfl (nx rfl hit)))), (qa rfl (fun _ => (ix22 (tm rfl (nx rfl (nx rfl (nx rfl (nx rfl (nx rfl (nx rfl (nx rfl (nx rfl hit))))))))) (tm rfl (nx rfl (nx rfl (nx rfl hit)))) (by omega))) (nx rfl (nx rfl hit))), (qk rfl (do_load T3 rfl (tm rfl (nx rfl (nx rfl hit))) cn) (nx rfl hit)), (qa rfl (fun _ => (do_assign (tm rfl (nx rfl hit)))) hit), trivial⟩ rfl ?_
          intro τ95 e95
          have c95_0 := (congrFun e95 0).trans (nx rfl (nx rfl (nx rfl (nx rfl (nx rfl (nx rfl (nx rfl (nx rfl (nx rfl (nx rfl (nx rfl (nx rfl c93_0))))))))))))
          have c95_4 := (congrFun e95 4).trans (nx rfl (nx rfl (nx rfl (nx rfl (nx rfl (nx rfl (nx rfl (nx rfl (nx rfl (nx rfl (nx rfl (nx rfl c93_4))))))))))))
          have c95_5 := (congrFun e95 5).trans (nx rfl (nx rfl (nx rfl (nx rfl (nx rfl (nx rfl (nx rfl (nx rfl (nx rfl (nx rfl (nx rfl (nx rfl c93_5))))))))))))
          have c95_7 := (congrFun e95 7).trans (nx rfl (nx rfl (nx rfl (nx rfl (nx rfl (nx rfl (nx rfl (nx rfl (nx rfl (nx rfl (nx rfl (nx rfl c93_7))))))))))))
          have c95_8 := (congrFun e95 8).trans (nx rfl (nx rfl (nx rfl (nx rfl (nx rfl (nx rfl (nx rfl (nx rfl (nx rfl (nx rfl (nx rfl (nx rfl c93_8))))))))))))
          have c95_9 := (congrFun e95 9).trans (nx rfl (nx rfl (nx rfl (nx rfl (nx rfl (nx rfl (nx rfl (nx rfl (nx rfl (nx rfl (nx rfl (nx rfl c93_9))))))))))))
          have c95_11 := (congrFun e95 11).trans (nx rfl (nx rfl (nx rfl (nx rfl (nx rfl (nx rfl (nx rfl (nx rfl (nx rfl (nx rfl (nx rfl (nx rfl c93_11))))))))))))
          have c95_16 := (congrFun e95 16).trans (nx rfl (nx rfl (nx rfl (nx rfl (nx rfl (nx rfl (nx rfl (nx rfl (nx rfl (nx rfl (nx rfl (nx rfl c93_16))))))))))))
          have c95_22 := (congrFun e95 22).trans (nx rfl (nx rfl (nx rfl (nx rfl (nx rfl (nx rfl (nx rfl (nx rfl (nx rfl (nx rfl (nx rfl (nx rfl c93_22))))))))))))
          have c95_23 := (congrFun e95 23).trans hit
          have c95_68 := (congrFun e95 68).trans (nx rfl (nx rfl (nx rfl (nx rfl (nx rfl (nx rfl (nx rfl (nx rfl (nx rfl (nx rfl (nx rfl (nx rfl c93_68))))))))))))
          have c95_69 := (congrFun e95 69).trans (nx rfl (nx rfl (nx rfl (nx rfl (nx rfl (nx rfl (nx rfl (nx rfl (nx rfl (nx rfl (nx rfl (nx rfl c93_69))))))))))))
          have c95_70 := (congrFun e95 70).trans (nx rfl (nx rfl (nx rfl (nx rfl (nx rfl (nx rfl (nx rfl (nx rfl (nx rfl (nx rfl (nx rfl (nx rfl c93_70))))))))))))
          have c95_278 := (congrFun e95 278).trans (nx rfl (nx rfl (nx rfl (nx rfl (nx rfl (nx rfl (nx rfl (nx rfl (nx rfl (nx rfl (nx rfl (nx rfl c93_278))))))))))))
          have c95_279 := (congrFun e95 279).trans (nx rfl (nx rfl (nx rfl (nx rfl (nx rfl (nx rfl (nx rfl (nx rfl (nx rfl (nx rfl (nx rfl (nx rfl c93_279))))))))))))
          have c95_280 := (congrFun e95 280).trans (nx rfl (nx rfl (nx rfl (nx rfl (nx rfl (nx rfl (nx rfl (nx rfl (nx rfl (nx rfl (nx rfl (nx rfl c93_280))))))))))))
          clear e95
          refine hK94 _ _ ?_
          clear hK94
          rcases hz2 with rfl | ⟨v2, y2, f2, rfl, hv2n, hsi2, hsrc2, hwt2⟩
          · refine wp_seq_k (fun K96 hK96 => ?_)
            refine reg ?_
            refine sq rfl (do_move (tm rfl c95_23)) ?_
            refine sq rfl (do_geqF (tm rfl hit) ck (by omega)) ?_
            refine sq rfl (do_move (tm rfl hit)) ?_
            refine sqs rfl rfl hit rfl rfl ?_
            refine sqs rfl rfl (nx rfl hit) rfl rfl ?_
            refine sqs rfl rfl (nx rfl (nx rfl hit)) rfl rfl ?_
            refine sq rfl (do_pickF (tm rfl (nx rfl (nx rfl (nx rfl hit)))) ck) ?_
            refine cutL ?_
            intro τ97 e97
            have c97_0 := (congrFun e97 0).trans (nx rfl (nx rfl (nx rfl (nx rfl (nx rfl (nx rfl (nx rfl c95_0)))))))
            have c97_4 := (congrFun e97 4).trans (nx rfl (nx rfl (nx rfl (nx rfl (nx rfl (nx rfl (nx rfl c95_4)))))))
            have c97_5 := (congrFun e97 5).trans (nx rfl (nx rfl (nx rfl (nx rfl (nx rfl (nx rfl (nx rfl c95_5)))))))
            have c97_7 := (congrFun e97 7).trans (nx rfl (nx rfl (nx rfl (nx rfl (nx rfl (nx rfl (nx rfl c95_7)))))))
            have c97_8 := (congrFun e97 8).trans (nx rfl (nx rfl (nx rfl (nx rfl (nx rfl (nx rfl (nx rfl c95_8)))))))
            have c97_9 := (congrFun e97 9).trans (nx rfl (nx rfl (nx rfl (nx rfl (nx rfl (nx rfl (nx rfl c95_9)))))))
            have c97_11 := (congrFun e97 11).trans (nx rfl (nx rfl (nx rfl (nx rfl (nx rfl (nx rfl (nx rfl c95_11)))))))
            have c97_16 := (congrFun e97 16).trans (nx rfl (nx rfl (nx rfl (nx rfl (nx rfl (nx rfl (nx rfl c95_16)))))))
            have c97_22 := (congrFun e97 22).trans (nx rfl (nx rfl (nx rfl (nx rfl (nx rfl (nx rfl (nx rfl c95_22)))))))
            have c97_23 := (congrFun e97 23).trans (nx rfl (nx rfl (nx rfl (nx rfl (nx rfl (nx rfl (nx rfl c95_23)))))))
            have c97_68 := (congrFun e97 68).trans (nx rfl (nx rfl (nx rfl (nx rfl (nx rfl (nx rfl (nx rfl c95_68)))))))
            have c97_69 := (congrFun e97 69).trans (nx rfl (nx rfl (nx rfl (nx rfl (nx rfl (nx rfl (nx rfl c95_69)))))))
            have c97_70 := (congrFun e97 70).trans (nx rfl (nx rfl (nx rfl (nx rfl (nx rfl (nx rfl (nx rfl c95_70)))))))
            have c97_278 := (congrFun e97 278).trans (nx rfl (nx rfl (nx rfl (nx rfl (nx rfl (nx rfl (nx rfl c95_278)))))))
            have c97_279 := (congrFun e97 279).trans (nx rfl (nx rfl (nx rfl (nx rfl (nx rfl (nx rfl (nx rfl c95_279)))))))
            have c97_280 := (congrFun e97 280).trans (nx rfl (nx rfl (nx rfl (nx rfl (nx rfl (nx rfl (nx rfl c95_280)))))))
            have c97_301 := (congrFun e97 301).trans hit
            clear e97
            refine wnil ?_
            refine hK96 _ _ ?_
            clear hK96
            refine cF rfl c97_301 rfl ?_
            refine wp_skip ?_
            refine inBN ?_
            refine hK91 _ _ ?_
            clear hK91
            refine reg ?_
            refine sq rfl (do_inc (tm rfl c97_280) ck (by omega)) ?_
            refine sq rfl (do_move (tm rfl hit)) ?_
            refine wnil ?_
            exact hnn' (fs.length - (q + 1)) _ _ (by omega) ⟨q + 1, G, succ, rfl, by omega, (nx rfl (nx rfl c97_0)), (nx rfl (nx rfl c97_4)), (nx rfl (nx rfl c97_68)), (nx rfl (nx rfl c97_69)), (nx rfl (nx rfl c97_70)), (nx rfl (nx rfl c97_5)), (nx rfl (nx rfl c97_7)), (nx rfl (nx rfl c97_8)), (nx rfl (nx rfl c97_9)), (nx rfl (nx rfl c97_11)), (nx rfl (nx rfl c97_16)), (nx rfl (nx rfl c97_278)), (nx rfl (nx rfl c97_279)), hit, hsG.drew, hP, hS, mf, mo, ms, hvs, hfr, by omega⟩
          · by_cases hvv : v2 = v
            · refine wp_seq_k (fun K98 hK98 => ?_)
              refine reg ?_
              refine sq rfl (do_move (tm rfl c95_23)) ?_
              refine sq rfl (do_geqT (tm rfl hit) ck (by omega)) ?_
              refine sq rfl (do_move (tm rfl hit)) ?_
              refine sqg rfl rfl hit rfl (do_move (tm rfl (nx rfl (nx rfl (nx rfl c95_23))))) ?_
              refine sqg rfl rfl (nx rfl hit) rfl (do_move (tm rfl (nx rfl (nx rfl (nx rfl (nx rfl c95_22)))))) ?_
              refine sqg rfl rfl (nx rfl (nx rfl hit)) rfl (do_neqF (tm rfl (nx rfl hit)) (tm rfl hit) (by omega)) ?_
              refine sq rfl (do_pickT (tm rfl (nx rfl (nx rfl (nx rfl hit)))) (tm rfl hit)) ?_
              refine cutL ?_
              intro τ99 e99
              have c99_0 := (congrFun e99 0).trans (nx rfl (nx rfl (nx rfl (nx rfl (nx rfl (nx rfl (nx rfl c95_0)))))))
              have c99_4 := (congrFun e99 4).trans (nx rfl (nx rfl (nx rfl (nx rfl (nx rfl (nx rfl (nx rfl c95_4)))))))
              have c99_5 := (congrFun e99 5).trans (nx rfl (nx rfl (nx rfl (nx rfl (nx rfl (nx rfl (nx rfl c95_5)))))))
              have c99_7 := (congrFun e99 7).trans (nx rfl (nx rfl (nx rfl (nx rfl (nx rfl (nx rfl (nx rfl c95_7)))))))
              have c99_8 := (congrFun e99 8).trans (nx rfl (nx rfl (nx rfl (nx rfl (nx rfl (nx rfl (nx rfl c95_8)))))))
              have c99_9 := (congrFun e99 9).trans (nx rfl (nx rfl (nx rfl (nx rfl (nx rfl (nx rfl (nx rfl c95_9)))))))
              have c99_11 := (congrFun e99 11).trans (nx rfl (nx rfl (nx rfl (nx rfl (nx rfl (nx rfl (nx rfl c95_11)))))))
              have c99_16 := (congrFun e99 16).trans (nx rfl (nx rfl (nx rfl (nx rfl (nx rfl (nx rfl (nx rfl c95_16)))))))
              have c99_22 := (congrFun e99 22).trans (nx rfl (nx rfl (nx rfl (nx rfl (nx rfl (nx rfl (nx rfl c95_22)))))))
              have c99_23 := (congrFun e99 23).trans (nx rfl (nx rfl (nx rfl (nx rfl (nx rfl (nx rfl (nx rfl c95_23)))))))
              have c99_68 := (congrFun e99 68).trans (nx rfl (nx rfl (nx rfl (nx rfl (nx rfl (nx rfl (nx rfl c95_68)))))))
              have c99_69 := (congrFun e99 69).trans (nx rfl (nx rfl (nx rfl (nx rfl (nx rfl (nx rfl (nx rfl c95_69)))))))
              have c99_70 := (congrFun e99 70).trans (nx rfl (nx rfl (nx rfl (nx rfl (nx rfl (nx rfl (nx rfl c95_70)))))))
              have c99_278 := (congrFun e99 278).trans (nx rfl (nx rfl (nx rfl (nx rfl (nx rfl (nx rfl (nx rfl c95_278)))))))
              have c99_279 := (congrFun e99 279).trans (nx rfl (nx rfl (nx rfl (nx rfl (nx rfl (nx rfl (nx rfl c95_279)))))))
              have c99_280 := (congrFun e99 280).trans (nx rfl (nx rfl (nx rfl (nx rfl (nx rfl (nx rfl (nx rfl c95_280)))))))
              have c99_301 := (congrFun e99 301).trans hit
              clear e99
              refine wnil ?_
              refine hK98 _ _ ?_
              clear hK98
              refine cF rfl c99_301 rfl ?_
              refine wp_skip ?_
              refine inBN ?_
              refine hK91 _ _ ?_
              clear hK91
              refine reg ?_
              refine sq rfl (do_inc (tm rfl c99_280) ck (by omega)) ?_
              refine sq rfl (do_move (tm rfl hit)) ?_
              refine wnil ?_
              exact hnn' (fs.length - (q + 1)) _ _ (by omega) ⟨q + 1, G, succ, rfl, by omega, (nx rfl (nx rfl c99_0)), (nx rfl (nx rfl c99_4)), (nx rfl (nx rfl c99_68)), (nx rfl (nx rfl c99_69)), (nx rfl (nx rfl c99_70)), (nx rfl (nx rfl c99_5)), (nx rfl (nx rfl c99_7)), (nx rfl (nx rfl c99_8)), (nx rfl (nx rfl c99_9)), (nx rfl (nx rfl c99_11)), (nx rfl (nx rfl c99_16)), (nx rfl (nx rfl c99_278)), (nx rfl (nx rfl c99_279)), hit, hsG.drew, hP, hS, mf, mo, ms, hvs, hfr, by omega⟩
            · refine wp_seq_k (fun K100 hK100 => ?_)
              refine reg ?_
              refine sq rfl (do_move (tm rfl c95_23)) ?_
              refine sq rfl (do_geqT (tm rfl hit) ck (by omega)) ?_
              refine sq rfl (do_move (tm rfl hit)) ?_
              refine sqg rfl rfl hit rfl (do_move (tm rfl (nx rfl (nx rfl (nx rfl c95_23))))) ?_
              refine sqg rfl rfl (nx rfl hit) rfl (do_move (tm rfl (nx rfl (nx rfl (nx rfl (nx rfl c95_22)))))) ?_
              refine sqg rfl rfl (nx rfl (nx rfl hit)) rfl (do_neqT (tm rfl (nx rfl hit)) (tm rfl hit) (by omega)) ?_
              refine sq rfl (do_pickT (tm rfl (nx rfl (nx rfl (nx rfl hit)))) (tm rfl hit)) ?_
              refine cutL ?_
              intro τ101 e101
              have c101_0 := (congrFun e101 0).trans (nx rfl (nx rfl (nx rfl (nx rfl (nx rfl (nx rfl (nx rfl c95_0)))))))
              have c101_4 := (congrFun e101 4).trans (nx rfl (nx rfl (nx rfl (nx rfl (nx rfl (nx rfl (nx rfl c95_4)))))))
              have c101_5 := (congrFun e101 5).trans (nx rfl (nx rfl (nx rfl (nx rfl (nx rfl (nx rfl (nx rfl c95_5)))))))
              have c101_7 := (congrFun e101 7).trans (nx rfl (nx rfl (nx rfl (nx rfl (nx rfl (nx rfl (nx rfl c95_7)))))))
              have c101_8 := (congrFun e101 8).trans (nx rfl (nx rfl (nx rfl (nx rfl (nx rfl (nx rfl (nx rfl c95_8)))))))
              have c101_9 := (congrFun e101 9).trans (nx rfl (nx rfl (nx rfl (nx rfl (nx rfl (nx rfl (nx rfl c95_9)))))))
              have c101_11 := (congrFun e101 11).trans (nx rfl (nx rfl (nx rfl (nx rfl (nx rfl (nx rfl (nx rfl c95_11)))))))
              have c101_16 := (congrFun e101 16).trans (nx rfl (nx rfl (nx rfl (nx rfl (nx rfl (nx rfl (nx rfl c95_16)))))))
              have c101_22 := (congrFun e101 22).trans (nx rfl (nx rfl (nx rfl (nx rfl (nx rfl (nx rfl (nx rfl c95_22)))))))
              have c101_23 := (congrFun e101 23).trans (nx rfl (nx rfl (nx rfl (nx rfl (nx rfl (nx rfl (nx rfl c95_23)))))))
              have c101_68 := (congrFun e101 68).trans (nx rfl (nx rfl (nx rfl (nx rfl (nx rfl (nx rfl (nx rfl c95_68)))))))
              have c101_69 := (congrFun e101 69).trans (nx rfl (nx rfl (nx rfl (nx rfl (nx rfl (nx rfl (nx rfl c95_69)))))))
              have c101_70 := (congrFun e101 70).trans (nx rfl (nx rfl (nx rfl (nx rfl (nx rfl (nx rfl (nx rfl c95_70)))))))
              have c101_278 := (congrFun e101 278).trans (nx rfl (nx rfl (nx rfl (nx rfl (nx rfl (nx rfl (nx rfl c95_278)))))))
              have c101_279 := (congrFun e101 279).trans (nx rfl (nx rfl (nx rfl (nx rfl (nx rfl (nx rfl (nx rfl c95_279)))))))
              have c101_280 := (congrFun e101 280).trans (nx rfl (nx rfl (nx rfl (nx rfl (nx rfl (nx rfl (nx rfl c95_280)))))))
              have c101_301 := (congrFun e101 301).trans hit
              clear e101
              refine wnil ?_
              refine hK100 _ _ ?_
              clear hK100
              refine cT rfl c101_301 rfl ?_
              rw [hsi] at hsi2
              cases hsi2
              rw [hhh] at hsrc2
              have hlt2 := hLx.before_next hsrc hsrc2 (by rw [hhm]; exact (hWF v2).1 hwt2) hvn hv2n hvv
              have hvs' : v < succ.length := by rw [hS.l5]; exact hvn
              have hls := len_le_sum succ v hvs'
              have hsD := hsG.drew
              generalize wi.drew = xd at *
              obtain ⟨g5, cap5, cell5, v5, w5, J1, J2, J5, hv, F, FC, hap, hst, j1, j2, j3, g1, g2, g6, hT6⟩ := pushP (f := 6) (t := 8) hP.p rfl hP.t8 hsD.drew rfl (by decide) hvs' (v2 : Int) (by omega)
              subst hv
              refine draw mixed [13, 14, 16] [(0, 2), (0, 2), (0, 2), (0, 2), (0, 2), (0, 2), (0, 2), (0, 2), (0, 2), (0, 2), (0, 2), (0, 1), (0, 0), (0, 0), (1, 1), (2, 2), (2, 2)] [xd.drew.alloc (.cells #[.int .i64 (v2 : Int)] 3), w5, w5.setCell ⟨g5, v, none⟩ v5] (w5.setCell ⟨g5, v, none⟩ v5) (upd (upd (upd (upd (upd (upd (upd (upd (upd (upd (upd (upd (upd (upd (upd (upd _ 302 _) 303 _) 304 _) 305 _) 306 _) 307 _) 308 _) 309 _) 310 _) 311 _) 312 _) 313 _) 314 _) 315 _) 316 _) 317 _) (by kernel_rfl) (fun s hs => ovr_off [(302, _), (303, _), (304, _), (305, _), (306, _), (307, _), (308, _), (309, _), (310, _), (311, _), (312, _), (313, _), (314, _), (315, _), (316, _), (317, _)] _ s hs) ⟨(qa rfl (fun _ => (do_move (tm rfl (nx rfl (nx rfl (nx rfl (nx rfl (nx rfl (nx rfl (nx rfl (nx rfl (nx rfl (nx rfl (nx rfl (nx rfl (nx rfl (nx rfl (nx rfl (nx rfl c101_4))))))))))))))))))) (nx rfl (nx rfl (nx rfl (nx rfl (nx rfl (nx rfl (nx rfl (nx rfl (nx rfl (nx rfl (nx rfl (nx rfl (nx rfl (nx rfl (nx rfl hit)))))))))))))))), (qa rfl (fun _ => (do_nilCheck (tm rfl (nx rfl (nx rfl (nx rfl (nx rfl (nx rfl (nx rfl (nx rfl (nx rfl (nx rfl (nx rfl (nx rfl (nx rfl (nx rfl (nx rfl (nx rfl hit)))))))))))))))))) (nx rfl (nx rfl (nx rfl (nx rfl (nx rfl (nx rfl (nx rfl (nx rfl (nx rfl (nx rfl (nx rfl (nx rfl (nx rfl (nx rfl hit))))))))))))))), (qa rfl (fun _ => (fa58_6 (tm rfl (nx rfl (nx rfl (nx rfl (nx rfl (nx rfl (nx rfl (nx rfl (nx rfl (nx rfl (nx rfl (nx rfl (nx rfl (nx rfl (nx rfl hit))))))))))))))))) (nx rfl (nx rfl (nx rfl (nx rfl (nx rfl (nx rfl (nx rfl (nx rfl (nx rfl (nx rfl (nx rfl (nx rfl (nx rfl hit)))))))))))))), (qr rfl (fun j h1 h2 => (do_load T37 rfl (tm rfl (nx rfl (nx rfl (nx rfl (nx rfl (nx rfl (nx rfl (nx rfl (nx rfl (nx rfl (nx rfl (nx rfl (nx rfl (nx rfl hit)))))))))))))) (F j (by omega)))) (nx rfl (nx rfl (nx rfl (nx rfl (nx rfl (nx rfl (nx rfl (nx rfl (nx rfl (nx rfl (nx rfl (nx rfl hit))))))))))))), (qa rfl (fun _ => (do_move (tm rfl (nx rfl (nx rfl (nx rfl (nx rfl (nx rfl (nx rfl (nx rfl (nx rfl (nx rfl (nx rfl (nx rfl (nx rfl (nx rfl (nx rfl (nx rfl (nx rfl c101_22))))))))))))))))))) (nx rfl (nx rfl (nx rfl (nx rfl (nx rfl (nx rfl (nx rfl (nx rfl (nx rfl (nx rfl (nx rfl hit)))))))))))), (qa rfl (fun _ => (do_move (tm rfl (nx rfl (nx rfl (nx rfl (nx rfl (nx rfl (nx rfl (nx rfl (nx rfl (nx rfl (nx rfl (nx rfl (nx rfl (nx rfl (nx rfl (nx rfl (nx rfl c101_4))))))))))))))))))) (nx rfl (nx rfl (nx rfl (nx rfl (nx rfl (nx rfl (nx rfl (nx rfl (nx rfl (nx rfl hit))))))))))), (qa rfl (fun _ => (do_nilCheck (tm rfl (nx rfl (nx rfl (nx rfl (nx rfl (nx rfl (nx rfl (nx rfl (nx rfl (nx rfl (nx rfl hit))))))))))))) (nx rfl (nx rfl (nx rfl (nx rfl (nx rfl (nx rfl (nx rfl (nx rfl (nx rfl hit)))))))))), (qa rfl (fun _ => (fa58_6 (tm rfl (nx rfl (nx rfl (nx rfl (nx rfl (nx rfl (nx rfl (nx rfl (nx rfl (nx rfl hit)))))))))))) (nx rfl (nx rfl (nx rfl (nx rfl (nx rfl (nx rfl (nx rfl (nx rfl hit))))))))), (qr rfl (fun j h1 h2 => (do_load T37 rfl (tm rfl (nx rfl (nx rfl (nx rfl (nx rfl (nx rfl (nx rfl (nx rfl (nx rfl hit))))))))) (F j (by omega)))) (nx rfl (nx rfl (nx rfl (nx rfl (nx rfl (nx rfl (nx rfl hit)))))))), (qa rfl (fun _ => (do_move (tm rfl (nx rfl (nx rfl (nx rfl (nx rfl (nx rfl (nx rfl (nx rfl (nx rfl (nx rfl (nx rfl (nx rfl (nx rfl (nx rfl (nx rfl (nx rfl (nx rfl c101_22))))))))))))))))))) (nx rfl (nx rfl (nx rfl (nx rfl (nx rfl (nx rfl hit))))))), (qa rfl (fun _ => (ix37 (tm rfl (nx rfl (nx rfl (nx rfl (nx rfl (nx rfl (nx rfl (nx rfl hit)))))))) (tm rfl (nx rfl (nx rfl (nx rfl (nx rfl (nx rfl (nx rfl hit))))))) (by omega))) (nx rfl (nx rfl (nx rfl (nx rfl (nx rfl hit)))))), (qr rfl (fun j h1 h2 => (do_load T22 rfl (tm rfl (nx rfl (nx rfl (nx rfl (nx rfl (nx rfl hit)))))) (FC j (by omega)))) (nx rfl (nx rfl (nx rfl (nx rfl hit))))), (qa rfl (fun _ => (do_move (tm rfl (nx rfl (nx rfl (nx rfl (nx rfl (nx rfl (nx rfl (nx rfl (nx rfl (nx rfl (nx rfl (nx rfl (nx rfl (nx rfl (nx rfl (nx rfl (nx rfl c101_23))))))))))))))))))) (nx rfl (nx rfl (nx rfl hit)))), (ef rfl (do_bs1 T22 T3 rfl (tm rfl (nx rfl (nx rfl (nx rfl hit)))) rfl) (nx rfl (nx rfl hit))), (ef rfl (hap _ _ _ _ _ _ _ _ (tm rfl (nx rfl (nx rfl (nx rfl (nx rfl hit))))) (tm rfl (nx rfl (nx rfl hit)))) (nx rfl hit)), (qa rfl (fun _ => (ix37 (tm rfl (nx rfl (nx rfl (nx rfl (nx rfl (nx rfl (nx rfl (nx rfl (nx rfl (nx rfl (nx rfl (nx rfl (nx rfl hit))))))))))))) (tm rfl (nx rfl (nx rfl (nx rfl (nx rfl (nx rfl (nx rfl (nx rfl (nx rfl (nx rfl (nx rfl (nx rfl hit)))))))))))) (by omega))) hit), (en rfl (hst _ _ _ _ _ _ _ _ (tm rfl hit) (tm rfl (nx rfl hit)))), trivial⟩ rfl ?_
              intro τ102 e102
              have c102_0 := (congrFun e102 0).trans (nx rfl (nx rfl (nx rfl (nx rfl (nx rfl (nx rfl (nx rfl (nx rfl (nx rfl (nx rfl (nx rfl (nx rfl (nx rfl (nx rfl (nx rfl (nx rfl c101_0))))))))))))))))
              have c102_4 := (congrFun e102 4).trans (nx rfl (nx rfl (nx rfl (nx rfl (nx rfl (nx rfl (nx rfl (nx rfl (nx rfl (nx rfl (nx rfl (nx rfl (nx rfl (nx rfl (nx rfl (nx rfl c101_4))))))))))))))))
              have c102_5 := (congrFun e102 5).trans (nx rfl (nx rfl (nx rfl (nx rfl (nx rfl (nx rfl (nx rfl (nx rfl (nx rfl (nx rfl (nx rfl (nx rfl (nx rfl (nx rfl (nx rfl (nx rfl c101_5))))))))))))))))
              have c102_7 := (congrFun e102 7).trans (nx rfl (nx rfl (nx rfl (nx rfl (nx rfl (nx rfl (nx rfl (nx rfl (nx rfl (nx rfl (nx rfl (nx rfl (nx rfl (nx rfl (nx rfl (nx rfl c101_7))))))))))))))))
              have c102_8 := (congrFun e102 8).trans (nx rfl (nx rfl (nx rfl (nx rfl (nx rfl (nx rfl (nx rfl (nx rfl (nx rfl (nx rfl (nx rfl (nx rfl (nx rfl (nx rfl (nx rfl (nx rfl c101_8))))))))))))))))
              have c102_9 := (congrFun e102 9).trans (nx rfl (nx rfl (nx rfl (nx rfl (nx rfl (nx rfl (nx rfl (nx rfl (nx rfl (nx rfl (nx rfl (nx rfl (nx rfl (nx rfl (nx rfl (nx rfl c101_9))))))))))))))))
              have c102_11 := (congrFun e102 11).trans (nx rfl (nx rfl (nx rfl (nx rfl (nx rfl (nx rfl (nx rfl (nx rfl (nx rfl (nx rfl (nx rfl (nx rfl (nx rfl (nx rfl (nx rfl (nx rfl c101_11))))))))))))))))
              have c102_16 := (congrFun e102 16).trans (nx rfl (nx rfl (nx rfl (nx rfl (nx rfl (nx rfl (nx rfl (nx rfl (nx rfl (nx rfl (nx rfl (nx rfl (nx rfl (nx rfl (nx rfl (nx rfl c101_16))))))))))))))))
              have c102_22 := (congrFun e102 22).trans (nx rfl (nx rfl (nx rfl (nx rfl (nx rfl (nx rfl (nx rfl (nx rfl (nx rfl (nx rfl (nx rfl (nx rfl (nx rfl (nx rfl (nx rfl (nx rfl c101_22))))))))))))))))
              have c102_23 := (congrFun e102 23).trans (nx rfl (nx rfl (nx rfl (nx rfl (nx rfl (nx rfl (nx rfl (nx rfl (nx rfl (nx rfl (nx rfl (nx rfl (nx rfl (nx rfl (nx rfl (nx rfl c101_23))))))))))))))))
              have c102_68 := (congrFun e102 68).trans (nx rfl (nx rfl (nx rfl (nx rfl (nx rfl (nx rfl (nx rfl (nx rfl (nx rfl (nx rfl (nx rfl (nx rfl (nx rfl (nx rfl (nx rfl (nx rfl c101_68))))))))))))))))
              have c102_69 := (congrFun e102 69).trans (nx rfl (nx rfl (nx rfl (nx rfl (nx rfl (nx rfl (nx rfl (nx rfl (nx rfl (nx rfl (nx rfl (nx rfl (nx rfl (nx rfl (nx rfl (nx rfl c101_69))))))))))))))))
              have c102_70 := (congrFun e102 70).trans (nx rfl (nx rfl (nx rfl (nx rfl (nx rfl (nx rfl (nx rfl (nx rfl (nx rfl (nx rfl (nx rfl (nx rfl (nx rfl (nx rfl (nx rfl (nx rfl c101_70))))))))))))))))
              have c102_278 := (congrFun e102 278).trans (nx rfl (nx rfl (nx rfl (nx rfl (nx rfl (nx rfl (nx rfl (nx rfl (nx rfl (nx rfl (nx rfl (nx rfl (nx rfl (nx rfl (nx rfl (nx rfl c101_278))))))))))))))))
              have c102_279 := (congrFun e102 279).trans (nx rfl (nx rfl (nx rfl (nx rfl (nx rfl (nx rfl (nx rfl (nx rfl (nx rfl (nx rfl (nx rfl (nx rfl (nx rfl (nx rfl (nx rfl (nx rfl c101_279))))))))))))))))
              have c102_280 := (congrFun e102 280).trans (nx rfl (nx rfl (nx rfl (nx rfl (nx rfl (nx rfl (nx rfl (nx rfl (nx rfl (nx rfl (nx rfl (nx rfl (nx rfl (nx rfl (nx rfl (nx rfl c101_280))))))))))))))))
              clear e102
              refine inBN ?_
              refine hK91 _ _ ?_
              clear hK91
              refine reg ?_
              refine sq rfl (do_inc (tm rfl c102_280) ck (by omega)) ?_
              refine sq rfl (do_move (tm rfl hit)) ?_
              refine wnil ?_
              refine hnn' (fs.length - (q + 1)) _ _ (by omega) ⟨q + 1, J5, _, rfl, by omega, (nx rfl (nx rfl c102_0)), (nx rfl (nx rfl c102_4)), (nx rfl (nx rfl c102_68)), (nx rfl (nx rfl c102_69)), (nx rfl (nx rfl c102_70)), (nx rfl (nx rfl c102_5)), (nx rfl (nx rfl c102_7)), (nx rfl (nx rfl c102_8)), (nx rfl (nx rfl c102_9)), (nx rfl (nx rfl c102_11)), (nx rfl (nx rfl c102_16)), (nx rfl (nx rfl c102_278)), (nx rfl (nx rfl c102_279)), hit, g6, hP.u8 j3 hT6, hS.edge hvs' hv2n hlt2, ?_, ?_, ?_, j3.vb (t := 35) (by decide) hvs, ?_, by rw [sumLen_push]; omega⟩
              · rw [j3 30 (by decide)]; exact mf
              · rw [j3 32 (by decide)]; exact mo
              · rw [j3 34 (by decide)]; exact ms
              · rw [j3 31 (by decide)]; exact hfr
        · refine wp_seq_k (fun K103 hK103 => ?_)
          refine cF rfl hit (by simpa using h') ?_
          refine wp_exit ?_
          refine thenE ?_
          exact hx' _ _ ⟨G, succ, (nx rfl t0), (nx rfl t4), (nx rfl t68), (nx rfl t69), (nx rfl t70), (nx rfl t5), (nx rfl t7), (nx rfl t8), (nx rfl t9), (nx rfl t11), (nx rfl t16), hsG, hP, hS, mf, mo, ms, hvs, hfr, by omega⟩
      clear t0 t4 t68 t69 t70 t5 t7 t8 t9 t11 t16 hsG hP hS mf mo ms hvs hfr hv5
      rintro τ wi ⟨G, succ, t0, t4, t68, t69, t70, t5, t7, t8, t9, t11, t16, hsG, hP, hS, mf, mo, ms, hvs, hfr, hv5⟩
      refine hK87 _ _ ?_
      clear hK87
      have hres : ∀ z : Int, ∃ res : Int, ((gI z ls = none ∧ res = -1) ∨ gI z ls = some (.int .i64 res)) ∧ (res = -1 ∨ ∃ i : Nat, res = (i : Int) ∧ src[i]? = some (x, z)) := by
        intro z
        cases hg : gI z ls with
        | none => exact ⟨-1, .inl ⟨rfl, rfl⟩, .inl rfl⟩
        | some u =>
          obtain ⟨i, rfl, hsi⟩ := hSM z u hg
          exact ⟨i, .inr rfl, .inr ⟨i, rfl, hsi⟩⟩
      refine wp_seq_k (fun K104 hK104 => ?_)
      refine reg ?_
      refine sq rfl (do_makeFunc (a := #[]) (by simp) (map1 (tm rfl t16))) ?_
      refine sq rfl (do_assign (tm rfl hit)) ?_
      refine wnil ?_
      refine hK104 _ _ ?_
      clear hK104
      obtain ⟨r0, hr0, hr0'⟩ := hres (-1)
      obtain ⟨G1, k1, hs1, ht5⟩ := hP.t5.put hsG.drew x (.int .i64 r0)
      have hxi : x < initial.length := by rw [hS.l4]; exact h
      refine wp_seq_k (fun K105 hK105 => ?_)
      refine draw mixed [8] [(0, 0), (0, 0), (0, 0), (0, 0), (0, 0), (0, 0), (0, 0), (0, 0), (0, 0)] [wi.drew.setCell ⟨ib, x, none⟩ (.int .i64 r0)] (wi.drew.setCell ⟨ib, x, none⟩ (.int .i64 r0)) (upd (upd (upd (upd (upd (upd (upd (upd _ 320 _) 321 _) 322 _) 323 _) 324 _) 325 _) 326 _) 327 _) (by kernel_rfl) (fun s hs => ovr_off [(320, _), (321, _), (322, _), (323, _), (324, _), (325, _), (326, _), (327, _)] _ s hs) ⟨(qa rfl (fun _ => (do_move (tm rfl (nx rfl (nx rfl (nx rfl (nx rfl (nx rfl (nx rfl (nx rfl (nx rfl (nx rfl (nx rfl t4))))))))))))) (nx rfl (nx rfl (nx rfl (nx rfl (nx rfl (nx rfl (nx rfl hit)))))))), (qa rfl (fun _ => (do_nilCheck (tm rfl (nx rfl (nx rfl (nx rfl (nx rfl (nx rfl (nx rfl (nx rfl hit)))))))))) (nx rfl (nx rfl (nx rfl (nx rfl (nx rfl (nx rfl hit))))))), (qa rfl (fun _ => (fa58_3 (tm rfl (nx rfl (nx rfl (nx rfl (nx rfl (nx rfl (nx rfl hit))))))))) (nx rfl (nx rfl (nx rfl (nx rfl (nx rfl hit)))))), (qk rfl (do_load T22 rfl (tm rfl (nx rfl (nx rfl (nx rfl (nx rfl (nx rfl hit)))))) (hP.p.cell hsG.drew (i := 3) rfl)) (nx rfl (nx rfl (nx rfl (nx rfl hit))))), (qa rfl (fun _ => (do_move (tm rfl (nx rfl (nx rfl (nx rfl (nx rfl (nx rfl (nx rfl (nx rfl (nx rfl (nx rfl (nx rfl t5))))))))))))) (nx rfl (nx rfl (nx rfl hit)))), (qa rfl (fun _ => (do_move (tm rfl (nx rfl (nx rfl (nx rfl (nx rfl (nx rfl (nx rfl (nx rfl (nx rfl hit))))))))))) (nx rfl (nx rfl hit))), (qk rfl (do_call (run_callV Try.func43 nm43 bd43 (map1 (v := .int .i64 (-1)) rfl) (tm rfl (nx rfl (nx rfl hit)))) (call43 hsG.drew bV bS ls hvs ms (-1) r0 hr0)) (nx rfl hit)), (qa rfl (fun _ => (ix22 (tm rfl (nx rfl (nx rfl (nx rfl (nx rfl hit))))) (tm rfl (nx rfl (nx rfl (nx rfl hit)))) (by omega))) hit), (en rfl (do_store T3 (tm rfl hit) (tm rfl (nx rfl hit)) rfl (hP.t5.cell hsG.drew (ints_get initial x hxi)) (hP.t5.frozen hsG.drew x))), trivial⟩ rfl ?_
      intro τ106 e106
      have c106_0 := (congrFun e106 0).trans (nx rfl (nx rfl (nx rfl (nx rfl (nx rfl (nx rfl (nx rfl (nx rfl (nx rfl (nx rfl t0))))))))))
      have c106_4 := (congrFun e106 4).trans (nx rfl (nx rfl (nx rfl (nx rfl (nx rfl (nx rfl (nx rfl (nx rfl (nx rfl (nx rfl t4))))))))))
      have c106_5 := (congrFun e106 5).trans (nx rfl (nx rfl (nx rfl (nx rfl (nx rfl (nx rfl (nx rfl (nx rfl (nx rfl (nx rfl t5))))))))))
      have c106_7 := (congrFun e106 7).trans (nx rfl (nx rfl (nx rfl (nx rfl (nx rfl (nx rfl (nx rfl (nx rfl (nx rfl (nx rfl t7))))))))))
      have c106_8 := (congrFun e106 8).trans (nx rfl (nx rfl (nx rfl (nx rfl (nx rfl (nx rfl (nx rfl (nx rfl (nx rfl (nx rfl t8))))))))))
      have c106_9 := (congrFun e106 9).trans (nx rfl (nx rfl (nx rfl (nx rfl (nx rfl (nx rfl (nx rfl (nx rfl (nx rfl (nx rfl t9))))))))))
      have c106_11 := (congrFun e106 11).trans (nx rfl (nx rfl (nx rfl (nx rfl (nx rfl (nx rfl (nx rfl (nx rfl (nx rfl (nx rfl t11))))))))))
      have c106_16 := (congrFun e106 16).trans (nx rfl (nx rfl (nx rfl (nx rfl (nx rfl (nx rfl (nx rfl (nx rfl (nx rfl (nx rfl t16))))))))))
      have c106_24 := (congrFun e106 24).trans (nx rfl (nx rfl (nx rfl (nx rfl (nx rfl (nx rfl (nx rfl (nx rfl hit))))))))
      have c106_68 := (congrFun e106 68).trans (nx rfl (nx rfl (nx rfl (nx rfl (nx rfl (nx rfl (nx rfl (nx rfl (nx rfl (nx rfl t68))))))))))
      have c106_69 := (congrFun e106 69).trans (nx rfl (nx rfl (nx rfl (nx rfl (nx rfl (nx rfl (nx rfl (nx rfl (nx rfl (nx rfl t69))))))))))
      have c106_70 := (congrFun e106 70).trans (nx rfl (nx rfl (nx rfl (nx rfl (nx rfl (nx rfl (nx rfl (nx rfl (nx rfl (nx rfl t70))))))))))
      clear e106
      refine hK105 _ _ ?_
      clear hK105
      rw [ints_set] at ht5
      have hP1 := hP.u5 k1 ht5
      have hS1 := hS.init h hr0'
      have ms1 : MapV (G1 34) bS ik ls := by rw [k1 34 (by decide)]; exact ms
      have hvs1 := k1.vb (t := 35) (by decide) hvs
      clear hsG hP hS mf mo ms hvs hfr k1 ht5
      generalize wi.drew.setCell ⟨ib, x, none⟩ (.int .i64 r0) = xw at *
      generalize initial.set x r0 = initial at *
      have hxw : x < writers.length := by rw [hS1.l3]; exact h
      have hrx : (writers[x]'hxw).length ≤ (A x).length := by
        rw [List.getElem?_eq_getElem hxw] at hrow
        injection hrow with hrow
        rw [hrow]; exact hrowl
      obtain ⟨wsa, wsc, rfl⟩ := hP1.t4.slice
      obtain ⟨gw, cw, hgw, hcw, _, hrw⟩ := hP1.t4.getS hs1 (i := x) hxw
      subst hgw
      obtain ⟨wa, wc, rfl⟩ := hrw.slice
      refine wp_seq_k (fun K107 hK107 => ?_)
      refine reg ?_
      refine sq rfl (do_move (tm rfl c106_4)) ?_
      refine sq rfl (do_nilCheck (tm rfl hit)) ?_
      refine sq rfl (fa58_2 (tm rfl hit)) ?_
      refine sq rfl (do_load T37 rfl (tm rfl hit) (hP1.p.cell hs1 (i := 2) rfl)) ?_
      refine sq rfl (do_move (tm rfl (nx rfl (nx rfl (nx rfl (nx rfl c106_5)))))) ?_
      refine sq rfl (ix37 (tm rfl (nx rfl hit)) (tm rfl hit) (by omega)) ?_
      refine sq rfl (do_load T22 rfl (tm rfl hit) hcw) ?_
      refine sq rfl (do_len Try.underlying22 (tm rfl hit)) ?_
      refine sq rfl (do_move (v := .int .i64 ((0 : Nat) : Int)) rfl) ?_
      refine cutL ?_
      intro τ108 e108
      have c108_0 := (congrFun e108 0).trans (nx rfl (nx rfl (nx rfl (nx rfl (nx rfl (nx rfl (nx rfl (nx rfl (nx rfl c106_0)))))))))
      have c108_4 := (congrFun e108 4).trans (nx rfl (nx rfl (nx rfl (nx rfl (nx rfl (nx rfl (nx rfl (nx rfl (nx rfl c106_4)))))))))
      have c108_5 := (congrFun e108 5).trans (nx rfl (nx rfl (nx rfl (nx rfl (nx rfl (nx rfl (nx rfl (nx rfl (nx rfl c106_5)))))))))
      have c108_7 := (congrFun e108 7).trans (nx rfl (nx rfl (nx rfl (nx rfl (nx rfl (nx rfl (nx rfl (nx rfl (nx rfl c106_7)))))))))
      have c108_8 := (congrFun e108 8).trans (nx rfl (nx rfl (nx rfl (nx rfl (nx rfl (nx rfl (nx rfl (nx rfl (nx rfl c106_8)))))))))
      have c108_9 := (congrFun e108 9).trans (nx rfl (nx rfl (nx rfl (nx rfl (nx rfl (nx rfl (nx rfl (nx rfl (nx rfl c106_9)))))))))
      have c108_11 := (congrFun e108 11).trans (nx rfl (nx rfl (nx rfl (nx rfl (nx rfl (nx rfl (nx rfl (nx rfl (nx rfl c106_11)))))))))
      have c108_16 := (congrFun e108 16).trans (nx rfl (nx rfl (nx rfl (nx rfl (nx rfl (nx rfl (nx rfl (nx rfl (nx rfl c106_16)))))))))
      have c108_24 := (congrFun e108 24).trans (nx rfl (nx rfl (nx rfl (nx rfl (nx rfl (nx rfl (nx rfl (nx rfl (nx rfl c106_24)))))))))
      have c108_68 := (congrFun e108 68).trans (nx rfl (nx rfl (nx rfl (nx rfl (nx rfl (nx rfl (nx rfl (nx rfl (nx rfl c106_68)))))))))
      have c108_69 := (congrFun e108 69).trans (nx rfl (nx rfl (nx rfl (nx rfl (nx rfl (nx rfl (nx rfl (nx rfl (nx rfl c106_69)))))))))
      have c108_70 := (congrFun e108 70).trans (nx rfl (nx rfl (nx rfl (nx rfl (nx rfl (nx rfl (nx rfl (nx rfl (nx rfl c106_70)))))))))
      have c108_334 := (congrFun e108 334).trans (nx rfl (nx rfl hit))
      have c108_335 := (congrFun e108 335).trans (nx rfl hit)
      have c108_336 := (congrFun e108 336).trans hit
      clear e108
      refine wnil ?_
      refine hK107 _ _ ?_
      clear hK107
      have hws := hS1.ws x hxw
      refine forLoop (N := 405) (fun r τ wi => ∃ (q : Nat) (G : Nat → Part) (writes : List (List (Int × Int))) (succ : List (List Int)) (pin : List Bool), r = (writers[x]'hxw).length - q ∧ q ≤ (writers[x]'hxw).length ∧ τ 0 = .pointer (some ⟨gb, 0, none⟩) ∧ τ 4 = .pointer (some ⟨pb, 0, none⟩) ∧ τ 68 = .slice (some ⟨bi, oi, none⟩) k ic ∧ τ 69 = .int .i64 (k : Int) ∧ τ 70 = .int .i64 (x : Int) ∧ τ 5 = .int .i64 (x : Int) ∧ τ 11 = .int .i64 (lwn hh (A x).length) ∧ τ 24 = .func (.func 43) #[] #[.pointer (some ⟨bV, 0, none⟩)] ∧ τ 334 = .slice wa (writers[x]'hxw).length wc ∧ τ 335 = .int .i64 ((writers[x]'hxw).length : Int) ∧ τ 336 = .int .i64 (q : Int) ∧
          Split w.heap.size w wi G ∧ HpP G pb n k reads writes writers initial readers next succ pin rv wv (.slice (some ⟨gw, 0, none⟩) writers.length wsc) rdv nv sv ib nb ∧ Tbl n k A rk (x + 1) src reads writes writers initial readers next succ ∧ MapV (G 34) bS ik ls ∧ VB (G 35) bV 50 [.map (some bS)] ∧ RowV (G 4) 3 1 (.slice wa (writers[x]'hxw).length wc) (writers[x]'hxw).length ((writers[x]'hxw).flatMap encI) ∧ sumLen writes ≤ tot A x + q ∧ sumLen succ ≤ 3 * tot A x + 2 * (A x).length + q)
        (fun τ wi => ∃ (G : Nat → Part) (writes : List (List (Int × Int))) (succ : List (List Int)) (pin : List Bool), τ 0 = .pointer (some ⟨gb, 0, none⟩) ∧ τ 4 = .pointer (some ⟨pb, 0, none⟩) ∧ τ 68 = .slice (some ⟨bi, oi, none⟩) k ic ∧ τ 69 = .int .i64 (k : Int) ∧ τ 70 = .int .i64 (x : Int) ∧
          Split w.heap.size w wi G ∧ HpP G pb n k reads writes writers initial readers next succ pin rv wv (.slice (some ⟨gw, 0, none⟩) writers.length wsc) rdv nv sv ib nb ∧ Tbl n k A rk (x + 1) src reads writes writers initial readers next succ ∧ sumLen writes ≤ tot A (x + 1) ∧ sumLen succ ≤ 3 * tot A (x + 1)) (writers[x]'hxw).length ?_ ?_ ?_
      · exact ⟨0, G1, writes, succ, pin, rfl, Nat.zero_le _, c108_0, c108_4, c108_68, c108_69, c108_70, c108_5, c108_11, c108_24, c108_334, c108_335, c108_336, hs1, hP1, hS1, ms1, hvs1, hrw, hu2, hv5⟩
      · clear t0 t4 t68 t69 t70 t5 t7 t8 t9 t11 t16 hs1 hP1 hS1 ms1 hvs1 hrw hcw hu2 hv5
        rintro Q'' r τ wi hnn' hx' hr' ⟨q, G, writes, succ, pin, rfl, hq, t0, t4, t68, t69, t70, t5, t11, t24, t334, t335, t336, hsG, hP, hS, ms, hvs, hrw, hu2, hv5⟩
        refine wp_seq_k (fun K109 hK109 => ?_)
        refine reg ?_
        refine sq rfl (do_lss (tm rfl t336) (tm rfl t335)) ?_
        refine wnil ?_
        refine hK109 _ _ ?_
        clear hK109
        by_cases h' : q < (writers[x]'hxw).length
        · refine wp_seq_k (fun K110 hK110 => ?_)
          refine cT rfl hit (by simpa using h') ?_
          refine wp_skip ?_
          refine hK110 _ _ ?_
          clear hK110
          obtain ⟨g0, rfl, f1, _⟩ := hrw.cellS hsG (cellI h')
          obtain ⟨v, hvq, hvn, hwv⟩ := hws ((writers[x]'hxw)[q]) (List.getElem_mem _)
          rw [hvq] at f1
          obtain ⟨rs, hrs, hrs'⟩ := hres (v : Int)
          obtain ⟨lv, hlv, hlvn, _⟩ : ∃ lv : Nat, lwn hh (A x).length = (lv : Int) ∧ lv < n ∧ True := by
            have hw' := (hWF v).1 hwv
            have hne := lwn_of_wt hw'
            rcases hLx.lwn_ge (i := (A x).length) (by omega) with h1 | ⟨lv, h1, h2, _⟩
            · exact absurd h1 hne
            · exact ⟨lv, h1, h2, trivial⟩
          refine wp_seq_k (fun K111 hK111 => ?_)
          refine wp_block ?_
          refine wp_seq_k (fun K112 hK112 => ?_)
          refine reg ?_
          refine sq rfl (ix22 (tm rfl (nx rfl t334)) (tm rfl (nx rfl t336)) (by omega)) ?_
          refine sq rfl (do_load T3 rfl (tm rfl hit) f1) ?_
          refine sq rfl (do_assign (tm rfl hit)) ?_
          refine cutL ?_
          intro τ113 e113
          have c113_0 := (congrFun e113 0).trans (nx rfl (nx rfl (nx rfl (nx rfl t0))))
          have c113_4 := (congrFun e113 4).trans (nx rfl (nx rfl (nx rfl (nx rfl t4))))
          have c113_5 := (congrFun e113 5).trans (nx rfl (nx rfl (nx rfl (nx rfl t5))))
          have c113_11 := (congrFun e113 11).trans (nx rfl (nx rfl (nx rfl (nx rfl t11))))
          have c113_24 := (congrFun e113 24).trans (nx rfl (nx rfl (nx rfl (nx rfl t24))))
          have c113_26 := (congrFun e113 26).trans hit
          have c113_68 := (congrFun e113 68).trans (nx rfl (nx rfl (nx rfl (nx rfl t68))))
          have c113_69 := (congrFun e113 69).trans (nx rfl (nx rfl (nx rfl (nx rfl t69))))
          have c113_70 := (congrFun e113 70).trans (nx rfl (nx rfl (nx rfl (nx rfl t70))))
          have c113_334 := (congrFun e113 334).trans (nx rfl (nx rfl (nx rfl (nx rfl t334))))
          have c113_335 := (congrFun e113 335).trans (nx rfl (nx rfl (nx rfl (nx rfl t335))))
          have c113_336 := (congrFun e113 336).trans (nx rfl (nx rfl (nx rfl (nx rfl t336))))
          clear e113
          refine wnil ?_
          refine hK112 _ _ ?_
          clear hK112
          have hvw : v < writes.length := by rw [hS.l2]; exact hvn
          have hlw := len_le_sum writes v hvw
          obtain ⟨g5, cap5, cell5, v5, w5, J1, J2, J5, hv, F, FC, hap, hst, j1, j2, j3, g1, g2, g6, hT6⟩ := pushWr hP.p rfl hP.t3 hsG.drew hvw ((x : Int), rs) (by omega)
          subst hv
          have DK : ∀ j, j ≤ 1 → ∀ (ρ : Operand → Value) (dst : Option Tmp) (ty : TypeId) (pos : String) (aft : Array Edge) (gg : Option (Nat × Bool)) (x1 y1 : Operand), ρ x1 = .func (.func 43) #[] #[.pointer (some ⟨bV, 0, none⟩)] → ρ y1 = .int .i64 (v : Int) → Does Try.prog ⟨dst, .call { callee := .value x1, args := #[y1], argTypes := #[3] }, ty, pos, aft, gg⟩ ρ (stg wi.drew [wi.drew.alloc (.cells #[.int .i64 (x : Int), .int .i64 rs] 63), w5, w5.setCell ⟨g5, v, none⟩ v5] j) (.int .i64 rs) (stg wi.drew [wi.drew.alloc (.cells #[.int .i64 (x : Int), .int .i64 rs] 63), w5, w5.setCell ⟨g5, v, none⟩ v5] j) :=
            le1 (p := fun j => ∀ (ρ : Operand → Value) (dst : Option Tmp) (ty : TypeId) (pos : String) (aft : Array Edge) (gg : Option (Nat × Bool)) (x1 y1 : Operand), ρ x1 = .func (.func 43) #[] #[.pointer (some ⟨bV, 0, none⟩)] → ρ y1 = .int .i64 (v : Int) → Does Try.prog ⟨dst, .call { callee := .value x1, args := #[y1], argTypes := #[3] }, ty, pos, aft, gg⟩ ρ (stg wi.drew [wi.drew.alloc (.cells #[.int .i64 (x : Int), .int .i64 rs] 63), w5, w5.setCell ⟨g5, v, none⟩ v5] j) (.int .i64 rs) (stg wi.drew [wi.drew.alloc (.cells #[.int .i64 (x : Int), .int .i64 rs] 63), w5, w5.setCell ⟨g5, v, none⟩ v5] j))
              (fun ρ dst ty pos aft gg x1 y1 h1 h2 => do_call (run_callV Try.func43 nm43 bd43 (map1 h2) h1) (call43 hsG.drew bV bS ls hvs ms (v : Int) rs hrs))
              (fun ρ dst ty pos aft gg x1 y1 h1 h2 => do_call (run_callV Try.func43 nm43 bd43 (map1 h2) h1) (call43 g1 bV bS ls (j1.vb (t := 35) (by decide) hvs) (by rw [j1 34 (by decide)]; exact ms) (v : Int) rs hrs))
          refine wp_seq_k (fun K114 hK114 => ?_)
          refine draw mixed [17, 18, 20] [(0, 2), (0, 2), (0, 2), (0, 2), (0, 2), (0, 2), (0, 2), (0, 2), (0, 2), (0, 2), (0, 2), (0, 1), (0, 2), (0, 2), (0, 2), (0, 1), (0, 0), (0, 0), (1, 1), (2, 2), (2, 2)] [wi.drew.alloc (.cells #[.int .i64 (x : Int), .int .i64 rs] 63), w5, w5.setCell ⟨g5, v, none⟩ v5] (w5.setCell ⟨g5, v, none⟩ v5) (upd (upd (upd (upd (upd (upd (upd (upd (upd (upd (upd (upd (upd (upd (upd (upd (upd (upd (upd (upd _ 340 _) 341 _) 342 _) 343 _) 344 _) 345 _) 346 _) 347 _) 348 _) 349 _) 350 _) 351 _) 352 _) 353 _) 354 _) 355 _) 356 _) 357 _) 358 _) 359 _) (by kernel_rfl) (fun s hs => ovr_off [(340, _), (341, _), (342, _), (343, _), (344, _), (345, _), (346, _), (347, _), (348, _), (349, _), (350, _), (351, _), (352, _), (353, _), (354, _), (355, _), (356, _), (357, _), (358, _), (359, _)] _ s hs) ⟨(qa rfl (fun _ => (do_move (tm rfl (nx rfl (nx rfl (nx rfl (nx rfl (nx rfl (nx rfl (nx rfl (nx rfl (nx rfl (nx rfl (nx rfl (nx rfl (nx rfl (nx rfl (nx rfl (nx rfl (nx rfl (nx rfl (nx rfl (nx rfl c113_4))))))))))))))))))))))) (nx rfl (nx rfl (nx rfl (nx rfl (nx rfl (nx rfl (nx rfl (nx rfl (nx rfl (nx rfl (nx rfl (nx rfl (nx rfl (nx rfl (nx rfl (nx rfl (nx rfl (nx rfl (nx rfl hit)))))))))))))))))))), (qa rfl (fun _ => (do_nilCheck (tm rfl (nx rfl (nx rfl (nx rfl (nx rfl (nx rfl (nx rfl (nx rfl (nx rfl (nx rfl (nx rfl (nx rfl (nx rfl (nx rfl (nx rfl (nx rfl (nx rfl (nx rfl (nx rfl (nx rfl hit)))))))))))))))))))))) (nx rfl (nx rfl (nx rfl (nx rfl (nx rfl (nx rfl (nx rfl (nx rfl (nx rfl (nx rfl (nx rfl (nx rfl (nx rfl (nx rfl (nx rfl (nx rfl (nx rfl (nx rfl hit))))))))))))))))))), (qa rfl (fun _ => (fa58_1 (tm rfl (nx rfl (nx rfl (nx rfl (nx rfl (nx rfl (nx rfl (nx rfl (nx rfl (nx rfl (nx rfl (nx rfl (nx rfl (nx rfl (nx rfl (nx rfl (nx rfl (nx rfl (nx rfl hit))))))))))))))))))))) (nx rfl (nx rfl (nx rfl (nx rfl (nx rfl (nx rfl (nx rfl (nx rfl (nx rfl (nx rfl (nx rfl (nx rfl (nx rfl (nx rfl (nx rfl (nx rfl (nx rfl hit)))))))))))))))))), (qr rfl (fun j h1 h2 => (do_load T56 rfl (tm rfl (nx rfl (nx rfl (nx rfl (nx rfl (nx rfl (nx rfl (nx rfl (nx rfl (nx rfl (nx rfl (nx rfl (nx rfl (nx rfl (nx rfl (nx rfl (nx rfl (nx rfl hit)))))))))))))))))) (F j (by omega)))) (nx rfl (nx rfl (nx rfl (nx rfl (nx rfl (nx rfl (nx rfl (nx rfl (nx rfl (nx rfl (nx rfl (nx rfl (nx rfl (nx rfl (nx rfl (nx rfl hit))))))))))))))))), (qa rfl (fun _ => (do_move (tm rfl (nx rfl (nx rfl (nx rfl (nx rfl (nx rfl (nx rfl (nx rfl (nx rfl (nx rfl (nx rfl (nx rfl (nx rfl (nx rfl (nx rfl (nx rfl (nx rfl (nx rfl (nx rfl (nx rfl (nx rfl c113_26))))))))))))))))))))))) (nx rfl (nx rfl (nx rfl (nx rfl (nx rfl (nx rfl (nx rfl (nx rfl (nx rfl (nx rfl (nx rfl (nx rfl (nx rfl (nx rfl (nx rfl hit)))))))))))))))), (qa rfl (fun _ => (do_move (tm rfl (nx rfl (nx rfl (nx rfl (nx rfl (nx rfl (nx rfl (nx rfl (nx rfl (nx rfl (nx rfl (nx rfl (nx rfl (nx rfl (nx rfl (nx rfl (nx rfl (nx rfl (nx rfl (nx rfl (nx rfl c113_4))))))))))))))))))))))) (nx rfl (nx rfl (nx rfl (nx rfl (nx rfl (nx rfl (nx rfl (nx rfl (nx rfl (nx rfl (nx rfl (nx rfl (nx rfl (nx rfl hit))))))))))))))), (qa rfl (fun _ => (do_nilCheck (tm rfl (nx rfl (nx rfl (nx rfl (nx rfl (nx rfl (nx rfl (nx rfl (nx rfl (nx rfl (nx rfl (nx rfl (nx rfl (nx rfl (nx rfl hit))))))))))))))))) (nx rfl (nx rfl (nx rfl (nx rfl (nx rfl (nx rfl (nx rfl (nx rfl (nx rfl (nx rfl (nx rfl (nx rfl (nx rfl hit)))))))))))))), (qa rfl (fun _ => (fa58_1 (tm rfl (nx rfl (nx rfl (nx rfl (nx rfl (nx rfl (nx rfl (nx rfl (nx rfl (nx rfl (nx rfl (nx rfl (nx rfl (nx rfl hit)))))))))))))))) (nx rfl (nx rfl (nx rfl (nx rfl (nx rfl (nx rfl (nx rfl (nx rfl (nx rfl (nx rfl (nx rfl (nx rfl hit))))))))))))), (qr rfl (fun j h1 h2 => (do_load T56 rfl (tm rfl (nx rfl (nx rfl (nx rfl (nx rfl (nx rfl (nx rfl (nx rfl (nx rfl (nx rfl (nx rfl (nx rfl (nx rfl hit))))))))))))) (F j (by omega)))) (nx rfl (nx rfl (nx rfl (nx rfl (nx rfl (nx rfl (nx rfl (nx rfl (nx rfl (nx rfl (nx rfl hit)))))))))))), (qa rfl (fun _ => (do_move (tm rfl (nx rfl (nx rfl (nx rfl (nx rfl (nx rfl (nx rfl (nx rfl (nx rfl (nx rfl (nx rfl (nx rfl (nx rfl (nx rfl (nx rfl (nx rfl (nx rfl (nx rfl (nx rfl (nx rfl (nx rfl c113_26))))))))))))))))))))))) (nx rfl (nx rfl (nx rfl (nx rfl (nx rfl (nx rfl (nx rfl (nx rfl (nx rfl (nx rfl hit))))))))))), (qa rfl (fun _ => (ix56 (tm rfl (nx rfl (nx rfl (nx rfl (nx rfl (nx rfl (nx rfl (nx rfl (nx rfl (nx rfl (nx rfl (nx rfl hit)))))))))))) (tm rfl (nx rfl (nx rfl (nx rfl (nx rfl (nx rfl (nx rfl (nx rfl (nx rfl (nx rfl (nx rfl hit))))))))))) (by omega))) (nx rfl (nx rfl (nx rfl (nx rfl (nx rfl (nx rfl (nx rfl (nx rfl (nx rfl hit)))))))))), (qr rfl (fun j h1 h2 => (do_load T61 rfl (tm rfl (nx rfl (nx rfl (nx rfl (nx rfl (nx rfl (nx rfl (nx rfl (nx rfl (nx rfl hit)))))))))) (FC j (by omega)))) (nx rfl (nx rfl (nx rfl (nx rfl (nx rfl (nx rfl (nx rfl (nx rfl hit))))))))), (qa rfl (fun _ => (do_move (tm rfl (nx rfl (nx rfl (nx rfl (nx rfl (nx rfl (nx rfl (nx rfl (nx rfl (nx rfl (nx rfl (nx rfl (nx rfl (nx rfl (nx rfl (nx rfl (nx rfl (nx rfl (nx rfl (nx rfl (nx rfl c113_5))))))))))))))))))))))) (nx rfl (nx rfl (nx rfl (nx rfl (nx rfl (nx rfl (nx rfl hit)))))))), (qa rfl (fun _ => (do_move (tm rfl (nx rfl (nx rfl (nx rfl (nx rfl (nx rfl (nx rfl (nx rfl (nx rfl (nx rfl (nx rfl (nx rfl (nx rfl (nx rfl (nx rfl (nx rfl (nx rfl (nx rfl (nx rfl (nx rfl (nx rfl c113_24))))))))))))))))))))))) (nx rfl (nx rfl (nx rfl (nx rfl (nx rfl (nx rfl hit))))))), (qa rfl (fun _ => (do_move (tm rfl (nx rfl (nx rfl (nx rfl (nx rfl (nx rfl (nx rfl (nx rfl (nx rfl (nx rfl (nx rfl (nx rfl (nx rfl (nx rfl (nx rfl (nx rfl (nx rfl (nx rfl (nx rfl (nx rfl (nx rfl c113_26))))))))))))))))))))))) (nx rfl (nx rfl (nx rfl (nx rfl (nx rfl hit)))))), (qr rfl (fun j h1 h2 => (DK j (by omega) _ _ _ _ _ _ _ _ (tm rfl (nx rfl (nx rfl (nx rfl (nx rfl (nx rfl (nx rfl hit))))))) (tm rfl (nx rfl (nx rfl (nx rfl (nx rfl (nx rfl hit)))))))) (nx rfl (nx rfl (nx rfl (nx rfl hit))))), (qa rfl (fun _ => (do_build63 (tm rfl (nx rfl (nx rfl (nx rfl (nx rfl (nx rfl (nx rfl (nx rfl hit)))))))) (tm rfl (nx rfl (nx rfl (nx rfl (nx rfl hit))))))) (nx rfl (nx rfl (nx rfl hit)))), (ef rfl (do_bs2 T61 T63 (tm rfl (nx rfl (nx rfl (nx rfl hit))))) (nx rfl (nx rfl hit))), (ef rfl (hap _ _ _ _ _ _ _ _ (tm rfl (nx rfl (nx rfl (nx rfl (nx rfl (nx rfl (nx rfl (nx rfl (nx rfl hit))))))))) (tm rfl (nx rfl (nx rfl hit)))) (nx rfl hit)), (qa rfl (fun _ => (ix56 (tm rfl (nx rfl (nx rfl (nx rfl (nx rfl (nx rfl (nx rfl (nx rfl (nx rfl (nx rfl (nx rfl (nx rfl (nx rfl (nx rfl (nx rfl (nx rfl (nx rfl hit))))))))))))))))) (tm rfl (nx rfl (nx rfl (nx rfl (nx rfl (nx rfl (nx rfl (nx rfl (nx rfl (nx rfl (nx rfl (nx rfl (nx rfl (nx rfl (nx rfl (nx rfl hit)))))))))))))))) (by omega))) hit), (en rfl (hst _ _ _ _ _ _ _ _ (tm rfl hit) (tm rfl (nx rfl hit)))), trivial⟩ rfl ?_
          intro τ115 e115
          have c115_0 := (congrFun e115 0).trans (nx rfl (nx rfl (nx rfl (nx rfl (nx rfl (nx rfl (nx rfl (nx rfl (nx rfl (nx rfl (nx rfl (nx rfl (nx rfl (nx rfl (nx rfl (nx rfl (nx rfl (nx rfl (nx rfl (nx rfl c113_0))))))))))))))))))))
          have c115_4 := (congrFun e115 4).trans (nx rfl (nx rfl (nx rfl (nx rfl (nx rfl (nx rfl (nx rfl (nx rfl (nx rfl (nx rfl (nx rfl (nx rfl (nx rfl (nx rfl (nx rfl (nx rfl (nx rfl (nx rfl (nx rfl (nx rfl c113_4))))))))))))))))))))
          have c115_5 := (congrFun e115 5).trans (nx rfl (nx rfl (nx rfl (nx rfl (nx rfl (nx rfl (nx rfl (nx rfl (nx rfl (nx rfl (nx rfl (nx rfl (nx rfl (nx rfl (nx rfl (nx rfl (nx rfl (nx rfl (nx rfl (nx rfl c113_5))))))))))))))))))))
          have c115_11 := (congrFun e115 11).trans (nx rfl (nx rfl (nx rfl (nx rfl (nx rfl (nx rfl (nx rfl (nx rfl (nx rfl (nx rfl (nx rfl (nx rfl (nx rfl (nx rfl (nx rfl (nx rfl (nx rfl (nx rfl (nx rfl (nx rfl c113_11))))))))))))))))))))
          have c115_24 := (congrFun e115 24).trans (nx rfl (nx rfl (nx rfl (nx rfl (nx rfl (nx rfl (nx rfl (nx rfl (nx rfl (nx rfl (nx rfl (nx rfl (nx rfl (nx rfl (nx rfl (nx rfl (nx rfl (nx rfl (nx rfl (nx rfl c113_24))))))))))))))))))))
          have c115_26 := (congrFun e115 26).trans (nx rfl (nx rfl (nx rfl (nx rfl (nx rfl (nx rfl (nx rfl (nx rfl (nx rfl (nx rfl (nx rfl (nx rfl (nx rfl (nx rfl (nx rfl (nx rfl (nx rfl (nx rfl (nx rfl (nx rfl c113_26))))))))))))))))))))
          have c115_68 := (congrFun e115 68).trans (nx rfl (nx rfl (nx rfl (nx rfl (nx rfl (nx rfl (nx rfl (nx rfl (nx rfl (nx rfl (nx rfl (nx rfl (nx rfl (nx rfl (nx rfl (nx rfl (nx rfl (nx rfl (nx rfl (nx rfl c113_68))))))))))))))))))))
          have c115_69 := (congrFun e115 69).trans (nx rfl (nx rfl (nx rfl (nx rfl (nx rfl (nx rfl (nx rfl (nx rfl (nx rfl (nx rfl (nx rfl (nx rfl (nx rfl (nx rfl (nx rfl (nx rfl (nx rfl (nx rfl (nx rfl (nx rfl c113_69))))))))))))))))))))
          have c115_70 := (congrFun e115 70).trans (nx rfl (nx rfl (nx rfl (nx rfl (nx rfl (nx rfl (nx rfl (nx rfl (nx rfl (nx rfl (nx rfl (nx rfl (nx rfl (nx rfl (nx rfl (nx rfl (nx rfl (nx rfl (nx rfl (nx rfl c113_70))))))))))))))))))))
          have c115_334 := (congrFun e115 334).trans (nx rfl (nx rfl (nx rfl (nx rfl (nx rfl (nx rfl (nx rfl (nx rfl (nx rfl (nx rfl (nx rfl (nx rfl (nx rfl (nx rfl (nx rfl (nx rfl (nx rfl (nx rfl (nx rfl (nx rfl c113_334))))))))))))))))))))
          have c115_335 := (congrFun e115 335).trans (nx rfl (nx rfl (nx rfl (nx rfl (nx rfl (nx rfl (nx rfl (nx rfl (nx rfl (nx rfl (nx rfl (nx rfl (nx rfl (nx rfl (nx rfl (nx rfl (nx rfl (nx rfl (nx rfl (nx rfl c113_335))))))))))))))))))))
          have c115_336 := (congrFun e115 336).trans (nx rfl (nx rfl (nx rfl (nx rfl (nx rfl (nx rfl (nx rfl (nx rfl (nx rfl (nx rfl (nx rfl (nx rfl (nx rfl (nx rfl (nx rfl (nx rfl (nx rfl (nx rfl (nx rfl (nx rfl c113_336))))))))))))))))))))
          clear e115
          refine hK114 _ _ ?_
          clear hK114
          have hP1 := hP.u3 j3 hT6
          have hS1 := hS.write hvw h hwv hrs'
          have ms1 : MapV (J5 34) bS ik ls := by rw [j3 34 (by decide)]; exact ms
          have hvs1 := j3.vb (t := 35) (by decide) hvs
          have hrw1 : RowV (J5 4) 3 1 (.slice (some ⟨g0, 0, none⟩) (writers[x]'hxw).length wc) (writers[x]'hxw).length ((writers[x]'hxw).flatMap encI) := by rw [j3 4 (by decide)]; exact hrw
          have hu2' : sumLen (writes.set v (writes[v] ++ [((x : Int), rs)])) ≤ tot A x + (q + 1) := by rw [sumLen_push]; omega
          clear F FC hap hst j1 j2 g1 g2 hT6 hP hsG hS ms hvs hrw j3 DK
          generalize w5.setCell ⟨g5, v, none⟩ v5 = xw at *
          generalize writes.set v (writes[v] ++ [((x : Int), rs)]) = writes' at *
          refine seqJ (N := 405) (fun τ wi => ∃ (G : Nat → Part) (succ : List (List Int)), τ 0 = .pointer (some ⟨gb, 0, none⟩) ∧ τ 4 = .pointer (some ⟨pb, 0, none⟩) ∧ τ 68 = .slice (some ⟨bi, oi, none⟩) k ic ∧ τ 69 = .int .i64 (k : Int) ∧ τ 70 = .int .i64 (x : Int) ∧ τ 5 = .int .i64 (x : Int) ∧ τ 11 = .int .i64 (lwn hh (A x).length) ∧ τ 24 = .func (.func 43) #[] #[.pointer (some ⟨bV, 0, none⟩)] ∧ τ 334 = .slice (some ⟨g0, 0, none⟩) (writers[x]'hxw).length wc ∧ τ 335 = .int .i64 ((writers[x]'hxw).length : Int) ∧ τ 336 = .int .i64 (q : Int) ∧ τ 26 = .int .i64 (v : Int) ∧
              Split w.heap.size w wi G ∧ HpP G pb n k reads writes' writers initial readers next succ pin rv (.slice (some ⟨g5, 0, none⟩) writes.length cap5) (.slice (some ⟨gw, 0, none⟩) writers.length wsc) rdv nv sv ib nb ∧ Tbl n k A rk (x + 1) src reads writes' writers initial readers next succ ∧ MapV (G 34) bS ik ls ∧ VB (G 35) bV 50 [.map (some bS)] ∧ RowV (G 4) 3 1 (.slice (some ⟨g0, 0, none⟩) (writers[x]'hxw).length wc) (writers[x]'hxw).length ((writers[x]'hxw).flatMap encI) ∧ sumLen succ ≤ 3 * tot A x + 2 * (A x).length + q + 1) ?_ ?_
          · intro QJ hJ hE'
            by_cases hvl : v = lv
            · refine wp_seq_k (fun K116 hK116 => ?_)
              refine reg ?_
              refine sq rfl (do_move (tm rfl c115_26)) ?_
              refine sq rfl (do_move (tm rfl (nx rfl c115_11))) ?_
              refine sq rfl (do_neqF (tm rfl (nx rfl hit)) (tm rfl hit) (by rw [hlv, hvl]; simp)) ?_
              refine wnil ?_
              refine hK116 _ _ ?_
              clear hK116
              refine cF rfl hit rfl ?_
              refine wp_skip ?_
              exact hJ _ _ ⟨J5, succ, (nx rfl (nx rfl (nx rfl c115_0))), (nx rfl (nx rfl (nx rfl c115_4))), (nx rfl (nx rfl (nx rfl c115_68))), (nx rfl (nx rfl (nx rfl c115_69))), (nx rfl (nx rfl (nx rfl c115_70))), (nx rfl (nx rfl (nx rfl c115_5))), (nx rfl (nx rfl (nx rfl c115_11))), (nx rfl (nx rfl (nx rfl c115_24))), (nx rfl (nx rfl (nx rfl c115_334))), (nx rfl (nx rfl (nx rfl c115_335))), (nx rfl (nx rfl (nx rfl c115_336))), (nx rfl (nx rfl (nx rfl c115_26))), g6, hP1, hS1, ms1, hvs1, hrw1, by omega⟩
            · refine wp_seq_k (fun K117 hK117 => ?_)
              refine reg ?_
              refine sq rfl (do_move (tm rfl c115_26)) ?_
              refine sq rfl (do_move (tm rfl (nx rfl c115_11))) ?_
              refine sq rfl (do_neqT (tm rfl (nx rfl hit)) (tm rfl hit) (by rw [hlv]; omega)) ?_
              refine wnil ?_
              refine hK117 _ _ ?_
              clear hK117
              refine cT rfl hit rfl ?_
              obtain ⟨hlt4, _⟩ := hLx.last (v := lv) (by rw [hhm]; exact hlv) (by rw [hhm]; exact (hWF v).1 hwv) hvl
              have hvs' : v < succ.length := by rw [hS1.l5]; exact hvn
              have hls := len_le_sum succ v hvs'
              obtain ⟨g7, cap7, cell7, v7, w7, J1, J2, J7, hv, F, FC, hap, hst, j1, j2, j3, g1, g2, g8, hT6⟩ := pushP (f := 6) (t := 8) hP1.p rfl hP1.t8 g6.drew rfl (by decide) hvs' (lv : Int) (by omega)
              subst hv
              rw [hlv] at t11
              refine draw mixed [13, 14, 16] [(0, 2), (0, 2), (0, 2), (0, 2), (0, 2), (0, 2), (0, 2), (0, 2), (0, 2), (0, 2), (0, 2), (0, 1), (0, 0), (0, 0), (1, 1), (2, 2), (2, 2)] [xw.drew.alloc (.cells #[.int .i64 (lv : Int)] 3), w7, w7.setCell ⟨g7, v, none⟩ v7] (w7.setCell ⟨g7, v, none⟩ v7) (upd (upd (upd (upd (upd (upd (upd (upd (upd (upd (upd (upd (upd (upd (upd (upd _ 363 _) 364 _) 365 _) 366 _) 367 _) 368 _) 369 _) 370 _) 371 _) 372 _) 373 _) 374 _) 375 _) 376 _) 377 _) 378 _) (by kernel_rfl) (fun s hs => ovr_off [(363, _), (364, _), (365, _), (366, _), (367, _), (368, _), (369, _), (370, _), (371, _), (372, _), (373, _), (374, _), (375, _), (376, _), (377, _), (378, _)] _ s hs) ⟨(qa rfl (fun _ => (do_move (tm rfl (nx rfl (nx rfl (nx rfl (nx rfl (nx rfl (nx rfl (nx rfl (nx rfl (nx rfl (nx rfl (nx rfl (nx rfl (nx rfl (nx rfl (nx rfl (nx rfl (nx rfl (nx rfl (nx rfl c115_4)))))))))))))))))))))) (nx rfl (nx rfl (nx rfl (nx rfl (nx rfl (nx rfl (nx rfl (nx rfl (nx rfl (nx rfl (nx rfl (nx rfl (nx rfl (nx rfl (nx rfl hit)))))))))))))))), (qa rfl (fun _ => (do_nilCheck (tm rfl (nx rfl (nx rfl (nx rfl (nx rfl (nx rfl (nx rfl (nx rfl (nx rfl (nx rfl (nx rfl (nx rfl (nx rfl (nx rfl (nx rfl (nx rfl hit)))))))))))))))))) (nx rfl (nx rfl (nx rfl (nx rfl (nx rfl (nx rfl (nx rfl (nx rfl (nx rfl (nx rfl (nx rfl (nx rfl (nx rfl (nx rfl hit))))))))))))))), (qa rfl (fun _ => (fa58_6 (tm rfl (nx rfl (nx rfl (nx rfl (nx rfl (nx rfl (nx rfl (nx rfl (nx rfl (nx rfl (nx rfl (nx rfl (nx rfl (nx rfl (nx rfl hit))))))))))))))))) (nx rfl (nx rfl (nx rfl (nx rfl (nx rfl (nx rfl (nx rfl (nx rfl (nx rfl (nx rfl (nx rfl (nx rfl (nx rfl hit)))))))))))))), (qr rfl (fun j h1 h2 => (do_load T37 rfl (tm rfl (nx rfl (nx rfl (nx rfl (nx rfl (nx rfl (nx rfl (nx rfl (nx rfl (nx rfl (nx rfl (nx rfl (nx rfl (nx rfl hit)))))))))))))) (F j (by omega)))) (nx rfl (nx rfl (nx rfl (nx rfl (nx rfl (nx rfl (nx rfl (nx rfl (nx rfl (nx rfl (nx rfl (nx rfl hit))))))))))))), (qa rfl (fun _ => (do_move (tm rfl (nx rfl (nx rfl (nx rfl (nx rfl (nx rfl (nx rfl (nx rfl (nx rfl (nx rfl (nx rfl (nx rfl (nx rfl (nx rfl (nx rfl (nx rfl (nx rfl (nx rfl (nx rfl (nx rfl c115_26)))))))))))))))))))))) (nx rfl (nx rfl (nx rfl (nx rfl (nx rfl (nx rfl (nx rfl (nx rfl (nx rfl (nx rfl (nx rfl hit)))))))))))), (qa rfl (fun _ => (do_move (tm rfl (nx rfl (nx rfl (nx rfl (nx rfl (nx rfl (nx rfl (nx rfl (nx rfl (nx rfl (nx rfl (nx rfl (nx rfl (nx rfl (nx rfl (nx rfl (nx rfl (nx rfl (nx rfl (nx rfl c115_4)))))))))))))))))))))) (nx rfl (nx rfl (nx rfl (nx rfl (nx rfl (nx rfl (nx rfl (nx rfl (nx rfl (nx rfl hit))))))))))), (qa rfl (fun _ => (do_nilCheck (tm rfl (nx rfl (nx rfl (nx rfl (nx rfl (nx rfl (nx rfl (nx rfl (nx rfl (nx rfl (nx rfl hit))))))))))))) (nx rfl (nx rfl (nx rfl (nx rfl (nx rfl (nx rfl (nx rfl (nx rfl (nx rfl hit)))))))))), (qa rfl (fun _ => (fa58_6 (tm rfl (nx rfl (nx rfl (nx rfl (nx rfl (nx rfl (nx rfl (nx rfl (nx rfl (nx rfl hit)))))))))))) (nx rfl (nx rfl (nx rfl (nx rfl (nx rfl (nx rfl (nx rfl (nx rfl hit))))))))), (qr rfl (fun j h1 h2 => (do_load T37 rfl (tm rfl (nx rfl (nx rfl (nx rfl (nx rfl (nx rfl (nx rfl (nx rfl (nx rfl hit))))))))) (F j (by omega)))) (nx rfl (nx rfl (nx rfl (nx rfl (nx rfl (nx rfl (nx rfl hit)))))))), (qa rfl (fun _ => (do_move (tm rfl (nx rfl (nx rfl (nx rfl (nx rfl (nx rfl (nx rfl (nx rfl (nx rfl (nx rfl (nx rfl (nx rfl (nx rfl (nx rfl (nx rfl (nx rfl (nx rfl (nx rfl (nx rfl (nx rfl c115_26)))))))))))))))))))))) (nx rfl (nx rfl (nx rfl (nx rfl (nx rfl (nx rfl hit))))))), (qa rfl (fun _ => (ix37 (tm rfl (nx rfl (nx rfl (nx rfl (nx rfl (nx rfl (nx rfl (nx rfl hit)))))))) (tm rfl (nx rfl (nx rfl (nx rfl (nx rfl (nx rfl (nx rfl hit))))))) (by omega))) (nx rfl (nx rfl (nx rfl (nx rfl (nx rfl hit)))))), (qr rfl (fun j h1 h2 => (do_load T22 rfl (tm rfl (nx rfl (nx rfl (nx rfl (nx rfl (nx rfl hit)))))) (FC j (by omega)))) (nx rfl (nx rfl (nx rfl (nx rfl hit))))), (qa rfl (fun _ => ((do_move (tm rfl (nx rfl (nx rfl (nx rfl (nx rfl (nx rfl (nx rfl (nx rfl (nx rfl (nx rfl (nx rfl (nx rfl (nx rfl (nx rfl (nx rfl (nx rfl (nx rfl (nx rfl (nx rfl (nx rfl c115_11))))))))))))))))))))).cast (show _ = Value.int .i64 (lv : Int) by rw [hlv]))) (nx rfl (nx rfl (nx rfl hit)))), (ef rfl (do_bs1 T22 T3 rfl (tm rfl (nx rfl (nx rfl (nx rfl hit)))) rfl) (nx rfl (nx rfl hit))), (ef rfl (hap _ _ _ _ _ _ _ _ (tm rfl (nx rfl (nx rfl (nx rfl (nx rfl hit))))) (tm rfl (nx rfl (nx rfl hit)))) (nx rfl hit)), (qa rfl (fun _ => (ix37 (tm rfl (nx rfl (nx rfl (nx rfl (nx rfl (nx rfl (nx rfl (nx rfl (nx rfl (nx rfl (nx rfl (nx rfl (nx rfl hit))))))))))))) (tm rfl (nx rfl (nx rfl (nx rfl (nx rfl (nx rfl (nx rfl (nx rfl (nx rfl (nx rfl (nx rfl (nx rfl hit)))))))))))) (by omega))) hit), (en rfl (hst _ _ _ _ _ _ _ _ (tm rfl hit) (tm rfl (nx rfl hit)))), trivial⟩ rfl ?_
              intro τ118 e118
              have c118_0 := (congrFun e118 0).trans (nx rfl (nx rfl (nx rfl (nx rfl (nx rfl (nx rfl (nx rfl (nx rfl (nx rfl (nx rfl (nx rfl (nx rfl (nx rfl (nx rfl (nx rfl (nx rfl (nx rfl (nx rfl (nx rfl c115_0)))))))))))))))))))
              have c118_4 := (congrFun e118 4).trans (nx rfl (nx rfl (nx rfl (nx rfl (nx rfl (nx rfl (nx rfl (nx rfl (nx rfl (nx rfl (nx rfl (nx rfl (nx rfl (nx rfl (nx rfl (nx rfl (nx rfl (nx rfl (nx rfl c115_4)))))))))))))))))))
              have c118_5 := (congrFun e118 5).trans (nx rfl (nx rfl (nx rfl (nx rfl (nx rfl (nx rfl (nx rfl (nx rfl (nx rfl (nx rfl (nx rfl (nx rfl (nx rfl (nx rfl (nx rfl (nx rfl (nx rfl (nx rfl (nx rfl c115_5)))))))))))))))))))
              have c118_11 := (congrFun e118 11).trans (nx rfl (nx rfl (nx rfl (nx rfl (nx rfl (nx rfl (nx rfl (nx rfl (nx rfl (nx rfl (nx rfl (nx rfl (nx rfl (nx rfl (nx rfl (nx rfl (nx rfl (nx rfl (nx rfl c115_11)))))))))))))))))))
              have c118_24 := (congrFun e118 24).trans (nx rfl (nx rfl (nx rfl (nx rfl (nx rfl (nx rfl (nx rfl (nx rfl (nx rfl (nx rfl (nx rfl (nx rfl (nx rfl (nx rfl (nx rfl (nx rfl (nx rfl (nx rfl (nx rfl c115_24)))))))))))))))))))
              have c118_26 := (congrFun e118 26).trans (nx rfl (nx rfl (nx rfl (nx rfl (nx rfl (nx rfl (nx rfl (nx rfl (nx rfl (nx rfl (nx rfl (nx rfl (nx rfl (nx rfl (nx rfl (nx rfl (nx rfl (nx rfl (nx rfl c115_26)))))))))))))))))))
              have c118_68 := (congrFun e118 68).trans (nx rfl (nx rfl (nx rfl (nx rfl (nx rfl (nx rfl (nx rfl (nx rfl (nx rfl (nx rfl (nx rfl (nx rfl (nx rfl (nx rfl (nx rfl (nx rfl (nx rfl (nx rfl (nx rfl c115_68)))))))))))))))))))
              have c118_69 := (congrFun e118 69).trans (nx rfl (nx rfl (nx rfl (nx rfl (nx rfl (nx rfl (nx rfl (nx rfl (nx rfl (nx rfl (nx rfl (nx rfl (nx rfl (nx rfl (nx rfl (nx rfl (nx rfl (nx rfl (nx rfl c115_69)))))))))))))))))))
              have c118_70 := (congrFun e118 70).trans (nx rfl (nx rfl (nx rfl (nx rfl (nx rfl (nx rfl (nx rfl (nx rfl (nx rfl (nx rfl (nx rfl (nx rfl (nx rfl (nx rfl (nx rfl (nx rfl (nx rfl (nx rfl (nx rfl c115_70)))))))))))))))))))
              have c118_334 := (congrFun e118 334).trans (nx rfl (nx rfl (nx rfl (nx rfl (nx rfl (nx rfl (nx rfl (nx rfl (nx rfl (nx rfl (nx rfl (nx rfl (nx rfl (nx rfl (nx rfl (nx rfl (nx rfl (nx rfl (nx rfl c115_334)))))))))))))))))))
              have c118_335 := (congrFun e118 335).trans (nx rfl (nx rfl (nx rfl (nx rfl (nx rfl (nx rfl (nx rfl (nx rfl (nx rfl (nx rfl (nx rfl (nx rfl (nx rfl (nx rfl (nx rfl (nx rfl (nx rfl (nx rfl (nx rfl c115_335)))))))))))))))))))
              have c118_336 := (congrFun e118 336).trans (nx rfl (nx rfl (nx rfl (nx rfl (nx rfl (nx rfl (nx rfl (nx rfl (nx rfl (nx rfl (nx rfl (nx rfl (nx rfl (nx rfl (nx rfl (nx rfl (nx rfl (nx rfl (nx rfl c115_336)))))))))))))))))))
              clear e118
              refine hJ _ _ ⟨J7, _, c118_0, c118_4, c118_68, c118_69, c118_70, c118_5, c118_11, c118_24, c118_334, c118_335, c118_336, c118_26, g8, hP1.u8 j3 hT6, hS1.edge hvs' hlvn hlt4, ?_, j3.vb (t := 35) (by decide) hvs1, ?_, by rw [sumLen_push]; omega⟩
              · rw [j3 34 (by decide)]; exact ms1
              · rw [j3 4 (by decide)]; exact hrw1
          clear t0 t4 t68 t69 t70 t5 t11 t24 t334 t335 t336 hP1 hS1 ms1 hvs1 hrw1 hv5 g6 f1
          rintro τ wi ⟨G, succ, t0, t4, t68, t69, t70, t5, t11, t24, t334, t335, t336, t26, hsG, hP, hS, ms, hvs, hrw, hv5⟩
          obtain ⟨gw2, cw2, hgw2, hcw2, _, hrw2⟩ := hP.t4.getS hsG (i := x) hxw
          cases hgw2
          obtain ⟨wa2, wc2, rfl⟩ := hrw2.slice
          by_cases hlen : 1 < (writers[x]'hxw).length
          · by_cases hr0 : 0 ≤ rs
            · refine wp_seq_k (fun K119 hK119 => ?_)
              refine reg ?_
              refine sq rfl (do_move (tm rfl t4)) ?_
              refine sq rfl (do_nilCheck (tm rfl hit)) ?_
              refine sq rfl (fa58_2 (tm rfl hit)) ?_
              refine sq rfl (do_load T37 rfl (tm rfl hit) (hP.p.cell hsG (i := 2) rfl)) ?_
              refine sq rfl (do_move (tm rfl (nx rfl (nx rfl (nx rfl (nx rfl t5)))))) ?_
              refine sq rfl (ix37 (tm rfl (nx rfl hit)) (tm rfl hit) (by omega)) ?_
              refine sq rfl (do_load T22 rfl (tm rfl hit) hcw2) ?_
              refine sq rfl (do_len Try.underlying22 (tm rfl hit)) ?_
              refine sq rfl (do_gtrT (tm rfl hit) ck (by omega)) ?_
              refine sq rfl (do_move (tm rfl hit)) ?_
              refine sqg rfl rfl hit rfl (do_move (tm rfl (nx rfl (nx rfl (nx rfl (nx rfl (nx rfl (nx rfl (nx rfl (nx rfl (nx rfl (nx rfl t24)))))))))))) ?_
              refine sqg rfl rfl (nx rfl hit) rfl (do_move (tm rfl (nx rfl (nx rfl (nx rfl (nx rfl (nx rfl (nx rfl (nx rfl (nx rfl (nx rfl (nx rfl (nx rfl t26))))))))))))) ?_
              refine sqg rfl rfl (nx rfl (nx rfl hit)) rfl (do_call (run_callV Try.func43 nm43 bd43 (map1 (tm rfl hit)) (tm rfl (nx rfl hit))) (call43 hsG bV bS ls hvs ms (v : Int) rs hrs)) ?_
              refine sqg rfl rfl (nx rfl (nx rfl (nx rfl hit))) rfl (do_geqT (tm rfl hit) ck hr0) ?_
              refine sq rfl (do_pickT (tm rfl (nx rfl (nx rfl (nx rfl (nx rfl hit))))) (tm rfl hit)) ?_
              refine cutL ?_
              intro τ120 e120
              have c120_0 := (congrFun e120 0).trans (nx rfl (nx rfl (nx rfl (nx rfl (nx rfl (nx rfl (nx rfl (nx rfl (nx rfl (nx rfl (nx rfl (nx rfl (nx rfl (nx rfl (nx rfl t0)))))))))))))))
              have c120_4 := (congrFun e120 4).trans (nx rfl (nx rfl (nx rfl (nx rfl (nx rfl (nx rfl (nx rfl (nx rfl (nx rfl (nx rfl (nx rfl (nx rfl (nx rfl (nx rfl (nx rfl t4)))))))))))))))
              have c120_5 := (congrFun e120 5).trans (nx rfl (nx rfl (nx rfl (nx rfl (nx rfl (nx rfl (nx rfl (nx rfl (nx rfl (nx rfl (nx rfl (nx rfl (nx rfl (nx rfl (nx rfl t5)))))))))))))))
              have c120_11 := (congrFun e120 11).trans (nx rfl (nx rfl (nx rfl (nx rfl (nx rfl (nx rfl (nx rfl (nx rfl (nx rfl (nx rfl (nx rfl (nx rfl (nx rfl (nx rfl (nx rfl t11)))))))))))))))
              have c120_24 := (congrFun e120 24).trans (nx rfl (nx rfl (nx rfl (nx rfl (nx rfl (nx rfl (nx rfl (nx rfl (nx rfl (nx rfl (nx rfl (nx rfl (nx rfl (nx rfl (nx rfl t24)))))))))))))))
              have c120_26 := (congrFun e120 26).trans (nx rfl (nx rfl (nx rfl (nx rfl (nx rfl (nx rfl (nx rfl (nx rfl (nx rfl (nx rfl (nx rfl (nx rfl (nx rfl (nx rfl (nx rfl t26)))))))))))))))
              have c120_68 := (congrFun e120 68).trans (nx rfl (nx rfl (nx rfl (nx rfl (nx rfl (nx rfl (nx rfl (nx rfl (nx rfl (nx rfl (nx rfl (nx rfl (nx rfl (nx rfl (nx rfl t68)))))))))))))))
              have c120_69 := (congrFun e120 69).trans (nx rfl (nx rfl (nx rfl (nx rfl (nx rfl (nx rfl (nx rfl (nx rfl (nx rfl (nx rfl (nx rfl (nx rfl (nx rfl (nx rfl (nx rfl t69)))))))))))))))
              have c120_70 := (congrFun e120 70).trans (nx rfl (nx rfl (nx rfl (nx rfl (nx rfl (nx rfl (nx rfl (nx rfl (nx rfl (nx rfl (nx rfl (nx rfl (nx rfl (nx rfl (nx rfl t70)))))))))))))))
              have c120_334 := (congrFun e120 334).trans (nx rfl (nx rfl (nx rfl (nx rfl (nx rfl (nx rfl (nx rfl (nx rfl (nx rfl (nx rfl (nx rfl (nx rfl (nx rfl (nx rfl (nx rfl t334)))))))))))))))
              have c120_335 := (congrFun e120 335).trans (nx rfl (nx rfl (nx rfl (nx rfl (nx rfl (nx rfl (nx rfl (nx rfl (nx rfl (nx rfl (nx rfl (nx rfl (nx rfl (nx rfl (nx rfl t335)))))))))))))))
              have c120_336 := (congrFun e120 336).trans (nx rfl (nx rfl (nx rfl (nx rfl (nx rfl (nx rfl (nx rfl (nx rfl (nx rfl (nx rfl (nx rfl (nx rfl (nx rfl (nx rfl (nx rfl t336)))))))))))))))
              have c120_393 := (congrFun e120 393).trans hit
              clear e120
              refine wnil ?_
              refine hK119 _ _ ?_
              clear hK119
              refine cT rfl c120_393 rfl ?_
              obtain ⟨G9, k9, hs9, ht9⟩ := hP.t9.put hsG v (.bool true)
              have hvp : v < pin.length := by rw [hP.pl]; exact hvn
              refine reg ?_
              refine sq rfl (do_move (tm rfl c120_4)) ?_
              refine sq rfl (do_nilCheck (tm rfl hit)) ?_
              refine sq rfl (fa58_7 (tm rfl hit)) ?_
              refine sq rfl (do_load T23 rfl (tm rfl hit) (hP.p.cell hsG (i := 7) rfl)) ?_
              refine sq rfl (do_move (tm rfl (nx rfl (nx rfl (nx rfl (nx rfl c120_26)))))) ?_
              refine sq rfl (ix23 (tm rfl (nx rfl hit)) (tm rfl hit) (by omega)) ?_
              refine sqn (do_store T4 (tm rfl hit) ck rfl (hP.t9.cell hsG (bools_get pin v hvp)) (hP.t9.frozen hsG v)) ?_
              refine cutW ?_
              intro τ121 e121 xz hxz
              have c121_0 := (congrFun e121 0).trans (nx rfl (nx rfl (nx rfl (nx rfl (nx rfl (nx rfl c120_0))))))
              have c121_4 := (congrFun e121 4).trans (nx rfl (nx rfl (nx rfl (nx rfl (nx rfl (nx rfl c120_4))))))
              have c121_5 := (congrFun e121 5).trans (nx rfl (nx rfl (nx rfl (nx rfl (nx rfl (nx rfl c120_5))))))
              have c121_11 := (congrFun e121 11).trans (nx rfl (nx rfl (nx rfl (nx rfl (nx rfl (nx rfl c120_11))))))
              have c121_24 := (congrFun e121 24).trans (nx rfl (nx rfl (nx rfl (nx rfl (nx rfl (nx rfl c120_24))))))
              have c121_26 := (congrFun e121 26).trans (nx rfl (nx rfl (nx rfl (nx rfl (nx rfl (nx rfl c120_26))))))
              have c121_68 := (congrFun e121 68).trans (nx rfl (nx rfl (nx rfl (nx rfl (nx rfl (nx rfl c120_68))))))
              have c121_69 := (congrFun e121 69).trans (nx rfl (nx rfl (nx rfl (nx rfl (nx rfl (nx rfl c120_69))))))
              have c121_70 := (congrFun e121 70).trans (nx rfl (nx rfl (nx rfl (nx rfl (nx rfl (nx rfl c120_70))))))
              have c121_334 := (congrFun e121 334).trans (nx rfl (nx rfl (nx rfl (nx rfl (nx rfl (nx rfl c120_334))))))
              have c121_335 := (congrFun e121 335).trans (nx rfl (nx rfl (nx rfl (nx rfl (nx rfl (nx rfl c120_335))))))
              have c121_336 := (congrFun e121 336).trans (nx rfl (nx rfl (nx rfl (nx rfl (nx rfl (nx rfl c120_336))))))
              clear e121
              refine wnil ?_
              refine inBN ?_
              refine hK111 _ _ ?_
              clear hK111
              have hs9' : Split w.heap.size w xz G9 := by rw [hxz]; exact hs9
              rw [bools_set] at ht9
              refine reg ?_
              refine sq rfl (do_inc (tm rfl c121_336) ck (by omega)) ?_
              refine sq rfl (do_move (tm rfl hit)) ?_
              refine wnil ?_
              refine hnn' ((writers[x]'hxw).length - (q + 1)) _ _ (by omega) ⟨q + 1, G9, writes', succ, _, rfl, by omega, (nx rfl (nx rfl c121_0)), (nx rfl (nx rfl c121_4)), (nx rfl (nx rfl c121_68)), (nx rfl (nx rfl c121_69)), (nx rfl (nx rfl c121_70)), (nx rfl (nx rfl c121_5)), (nx rfl (nx rfl c121_11)), (nx rfl (nx rfl c121_24)), (nx rfl (nx rfl c121_334)), (nx rfl (nx rfl c121_335)), hit, hs9', hP.u9 k9 ht9 (by rw [List.length_set]; exact hP.pl), hS, ?_, k9.vb (t := 35) (by decide) hvs, ?_, hu2', by omega⟩
              · rw [k9 34 (by decide)]; exact ms
              · rw [k9 4 (by decide)]; exact hrw
            · refine wp_seq_k (fun K122 hK122 => ?_)
              refine reg ?_
              refine sq rfl (do_move (tm rfl t4)) ?_
              refine sq rfl (do_nilCheck (tm rfl hit)) ?_
              refine sq rfl (fa58_2 (tm rfl hit)) ?_
              refine sq rfl (do_load T37 rfl (tm rfl hit) (hP.p.cell hsG (i := 2) rfl)) ?_
              refine sq rfl (do_move (tm rfl (nx rfl (nx rfl (nx rfl (nx rfl t5)))))) ?_
              refine sq rfl (ix37 (tm rfl (nx rfl hit)) (tm rfl hit) (by omega)) ?_
              refine sq rfl (do_load T22 rfl (tm rfl hit) hcw2) ?_
              refine sq rfl (do_len Try.underlying22 (tm rfl hit)) ?_
              refine sq rfl (do_gtrT (tm rfl hit) ck (by omega)) ?_
              refine sq rfl (do_move (tm rfl hit)) ?_
              refine sqg rfl rfl hit rfl (do_move (tm rfl (nx rfl (nx rfl (nx rfl (nx rfl (nx rfl (nx rfl (nx rfl (nx rfl (nx rfl (nx rfl t24)))))))))))) ?_
              refine sqg rfl rfl (nx rfl hit) rfl (do_move (tm rfl (nx rfl (nx rfl (nx rfl (nx rfl (nx rfl (nx rfl (nx rfl (nx rfl (nx rfl (nx rfl (nx rfl t26))))))))))))) ?_
              refine sqg rfl rfl (nx rfl (nx rfl hit)) rfl (do_call (run_callV Try.func43 nm43 bd43 (map1 (tm rfl hit)) (tm rfl (nx rfl hit))) (call43 hsG bV bS ls hvs ms (v : Int) rs hrs)) ?_
              refine sqg rfl rfl (nx rfl (nx rfl (nx rfl hit))) rfl (do_geqF (tm rfl hit) ck hr0) ?_
              refine sq rfl (do_pickT (tm rfl (nx rfl (nx rfl (nx rfl (nx rfl hit))))) (tm rfl hit)) ?_
              refine cutL ?_
              intro τ123 e123
              have c123_0 := (congrFun e123 0).trans (nx rfl (nx rfl (nx rfl (nx rfl (nx rfl (nx rfl (nx rfl (nx rfl (nx rfl (nx rfl (nx rfl (nx rfl (nx rfl (nx rfl (nx rfl t0)))))))))))))))
              have c123_4 := (congrFun e123 4).trans (nx rfl (nx rfl (nx rfl (nx rfl (nx rfl (nx rfl (nx rfl (nx rfl (nx rfl (nx rfl (nx rfl (nx rfl (nx rfl (nx rfl (nx rfl t4)))))))))))))))
              have c123_5 := (congrFun e123 5).trans (nx rfl (nx rfl (nx rfl (nx rfl (nx rfl (nx rfl (nx rfl (nx rfl (nx rfl (nx rfl (nx rfl (nx rfl (nx rfl (nx rfl (nx rfl t5)))))))))))))))
              have c123_11 := (congrFun e123 11).trans (nx rfl (nx rfl (nx rfl (nx rfl (nx rfl (nx rfl (nx rfl (nx rfl (nx rfl (nx rfl (nx rfl (nx rfl (nx rfl (nx rfl (nx rfl t11)))))))))))))))
              have c123_24 := (congrFun e123 24).trans (nx rfl (nx rfl (nx rfl (nx rfl (nx rfl (nx rfl (nx rfl (nx rfl (nx rfl (nx rfl (nx rfl (nx rfl (nx rfl (nx rfl (nx rfl t24)))))))))))))))
              have c123_26 := (congrFun e123 26).trans (nx rfl (nx rfl (nx rfl (nx rfl (nx rfl (nx rfl (nx rfl (nx rfl (nx rfl (nx rfl (nx rfl (nx rfl (nx rfl (nx rfl (nx rfl t26)))))))))))))))
              have c123_68 := (congrFun e123 68).trans (nx rfl (nx rfl (nx rfl (nx rfl (nx rfl (nx rfl (nx rfl (nx rfl (nx rfl (nx rfl (nx rfl (nx rfl (nx rfl (nx rfl (nx rfl t68)))))))))))))))
              have c123_69 := (congrFun e123 69).trans (nx rfl (nx rfl (nx rfl (nx rfl (nx rfl (nx rfl (nx rfl (nx rfl (nx rfl (nx rfl (nx rfl (nx rfl (nx rfl (nx rfl (nx rfl t69)))))))))))))))
              have c123_70 := (congrFun e123 70).trans (nx rfl (nx rfl (nx rfl (nx rfl (nx rfl (nx rfl (nx rfl (nx rfl (nx rfl (nx rfl (nx rfl (nx rfl (nx rfl (nx rfl (nx rfl t70)))))))))))))))
              have c123_334 := (congrFun e123 334).trans (nx rfl (nx rfl (nx rfl (nx rfl (nx rfl (nx rfl (nx rfl (nx rfl (nx rfl (nx rfl (nx rfl (nx rfl (nx rfl (nx rfl (nx rfl t334)))))))))))))))
              have c123_335 := (congrFun e123 335).trans (nx rfl (nx rfl (nx rfl (nx rfl (nx rfl (nx rfl (nx rfl (nx rfl (nx rfl (nx rfl (nx rfl (nx rfl (nx rfl (nx rfl (nx rfl t335)))))))))))))))
              have c123_336 := (congrFun e123 336).trans (nx rfl (nx rfl (nx rfl (nx rfl (nx rfl (nx rfl (nx rfl (nx rfl (nx rfl (nx rfl (nx rfl (nx rfl (nx rfl (nx rfl (nx rfl t336)))))))))))))))
              have c123_393 := (congrFun e123 393).trans hit
              clear e123
              refine wnil ?_
              refine hK122 _ _ ?_
              clear hK122
              refine cF rfl c123_393 rfl ?_
              refine wp_skip ?_
              refine inBN ?_
              refine hK111 _ _ ?_
              clear hK111
              refine reg ?_
              refine sq rfl (do_inc (tm rfl c123_336) ck (by omega)) ?_
              refine sq rfl (do_move (tm rfl hit)) ?_
              refine wnil ?_
              exact hnn' ((writers[x]'hxw).length - (q + 1)) _ _ (by omega) ⟨q + 1, G, writes', succ, pin, rfl, by omega, (nx rfl (nx rfl c123_0)), (nx rfl (nx rfl c123_4)), (nx rfl (nx rfl c123_68)), (nx rfl (nx rfl c123_69)), (nx rfl (nx rfl c123_70)), (nx rfl (nx rfl c123_5)), (nx rfl (nx rfl c123_11)), (nx rfl (nx rfl c123_24)), (nx rfl (nx rfl c123_334)), (nx rfl (nx rfl c123_335)), hit, hsG, hP, hS, ms, hvs, hrw, hu2', by omega⟩
          · refine wp_seq_k (fun K124 hK124 => ?_)
            refine reg ?_
            refine sq rfl (do_move (tm rfl t4)) ?_
            refine sq rfl (do_nilCheck (tm rfl hit)) ?_
            refine sq rfl (fa58_2 (tm rfl hit)) ?_
            refine sq rfl (do_load T37 rfl (tm rfl hit) (hP.p.cell hsG (i := 2) rfl)) ?_
            refine sq rfl (do_move (tm rfl (nx rfl (nx rfl (nx rfl (nx rfl t5)))))) ?_
            refine sq rfl (ix37 (tm rfl (nx rfl hit)) (tm rfl hit) (by omega)) ?_
            refine sq rfl (do_load T22 rfl (tm rfl hit) hcw2) ?_
            refine sq rfl (do_len Try.underlying22 (tm rfl hit)) ?_
            refine sq rfl (do_gtrF (tm rfl hit) ck (by omega)) ?_
            refine sq rfl (do_move (tm rfl hit)) ?_
            refine sqs rfl rfl hit rfl rfl ?_
            refine sqs rfl rfl (nx rfl hit) rfl rfl ?_
            refine sqs rfl rfl (nx rfl (nx rfl hit)) rfl rfl ?_
            refine sqs rfl rfl (nx rfl (nx rfl (nx rfl hit))) rfl rfl ?_
            refine sq rfl (do_pickF (tm rfl (nx rfl (nx rfl (nx rfl (nx rfl hit))))) ck) ?_
            refine cutL ?_
            intro τ125 e125
            have c125_0 := (congrFun e125 0).trans (nx rfl (nx rfl (nx rfl (nx rfl (nx rfl (nx rfl (nx rfl (nx rfl (nx rfl (nx rfl (nx rfl (nx rfl (nx rfl (nx rfl (nx rfl t0)))))))))))))))
            have c125_4 := (congrFun e125 4).trans (nx rfl (nx rfl (nx rfl (nx rfl (nx rfl (nx rfl (nx rfl (nx rfl (nx rfl (nx rfl (nx rfl (nx rfl (nx rfl (nx rfl (nx rfl t4)))))))))))))))
            have c125_5 := (congrFun e125 5).trans (nx rfl (nx rfl (nx rfl (nx rfl (nx rfl (nx rfl (nx rfl (nx rfl (nx rfl (nx rfl (nx rfl (nx rfl (nx rfl (nx rfl (nx rfl t5)))))))))))))))
            have c125_11 := (congrFun e125 11).trans (nx rfl (nx rfl (nx rfl (nx rfl (nx rfl (nx rfl (nx rfl (nx rfl (nx rfl (nx rfl (nx rfl (nx rfl (nx rfl (nx rfl (nx rfl t11)))))))))))))))
            have c125_24 := (congrFun e125 24).trans (nx rfl (nx rfl (nx rfl (nx rfl (nx rfl (nx rfl (nx rfl (nx rfl (nx rfl (nx rfl (nx rfl (nx rfl (nx rfl (nx rfl (nx rfl t24)))))))))))))))
            have c125_26 := (congrFun e125 26).trans (nx rfl (nx rfl (nx rfl (nx rfl (nx rfl (nx rfl (nx rfl (nx rfl (nx rfl (nx rfl (nx rfl (nx rfl (nx rfl (nx rfl (nx rfl t26)))))))))))))))
            have c125_68 := (congrFun e125 68).trans (nx rfl (nx rfl (nx rfl (nx rfl (nx rfl (nx rfl (nx rfl (nx rfl (nx rfl (nx rfl (nx rfl (nx rfl (nx rfl (nx rfl (nx rfl t68)))))))))))))))
            have c125_69 := (congrFun e125 69).trans (nx rfl (nx rfl (nx rfl (nx rfl (nx rfl (nx rfl (nx rfl (nx rfl (nx rfl (nx rfl (nx rfl (nx rfl (nx rfl (nx rfl (nx rfl t69)))))))))))))))
            have c125_70 := (congrFun e125 70).trans (nx rfl (nx rfl (nx rfl (nx rfl (nx rfl (nx rfl (nx rfl (nx rfl (nx rfl (nx rfl (nx rfl (nx rfl (nx rfl (nx rfl (nx rfl t70)))))))))))))))
            have c125_334 := (congrFun e125 334).trans (nx rfl (nx rfl (nx rfl (nx rfl (nx rfl (nx rfl (nx rfl (nx rfl (nx rfl (nx rfl (nx rfl (nx rfl (nx rfl (nx rfl (nx rfl t334)))))))))))))))
            have c125_335 := (congrFun e125 335).trans (nx rfl (nx rfl (nx rfl (nx rfl (nx rfl (nx rfl (nx rfl (nx rfl (nx rfl (nx rfl (nx rfl (nx rfl (nx rfl (nx rfl (nx rfl t335)))))))))))))))
            have c125_336 := (congrFun e125 336).trans (nx rfl (nx rfl (nx rfl (nx rfl (nx rfl (nx rfl (nx rfl (nx rfl (nx rfl (nx rfl (nx rfl (nx rfl (nx rfl (nx rfl (nx rfl t336)))))))))))))))
            have c125_393 := (congrFun e125 393).trans hit
            clear e125
            refine wnil ?_
            refine hK124 _ _ ?_
            clear hK124
            refine cF rfl c125_393 rfl ?_
            refine wp_skip ?_
            refine inBN ?_
            refine hK111 _ _ ?_
            clear hK111
            refine reg ?_
            refine sq rfl (do_inc (tm rfl c125_336) ck (by omega)) ?_
            refine sq rfl (do_move (tm rfl hit)) ?_
            refine wnil ?_
            exact hnn' ((writers[x]'hxw).length - (q + 1)) _ _ (by omega) ⟨q + 1, G, writes', succ, pin, rfl, by omega, (nx rfl (nx rfl c125_0)), (nx rfl (nx rfl c125_4)), (nx rfl (nx rfl c125_68)), (nx rfl (nx rfl c125_69)), (nx rfl (nx rfl c125_70)), (nx rfl (nx rfl c125_5)), (nx rfl (nx rfl c125_11)), (nx rfl (nx rfl c125_24)), (nx rfl (nx rfl c125_334)), (nx rfl (nx rfl c125_335)), hit, hsG, hP, hS, ms, hvs, hrw, hu2', by omega⟩
        · refine wp_seq_k (fun K126 hK126 => ?_)
          refine cF rfl hit (by simpa using h') ?_
          refine wp_exit ?_
          refine thenE ?_
          exact hx' _ _ ⟨G, writes, succ, pin, (nx rfl t0), (nx rfl t4), (nx rfl t68), (nx rfl t69), (nx rfl t70), hsG, hP, hS, by omega, by omega⟩
      clear t0 t4 t68 t69 t70 t5 t7 t8 t9 t11 t16 hs1 hP1 hS1 ms1 hvs1 hrw hcw
      rintro τ wi ⟨G, writes, succ, pin, t0, t4, t68, t69, t70, hsG, hP, hS, hu2, hu5⟩
      refine inBN ?_
      refine hK7 _ _ ?_
      clear hK7
      refine reg ?_
      refine sq rfl (do_inc (tm rfl t70) ck (by omega)) ?_
      refine sq rfl (do_move (tm rfl hit)) ?_
      refine wnil ?_
      exact hnn (k - (x + 1)) _ _ (by omega) ⟨x + 1, G, src, reads, writes, writers, initial, readers, next, succ, pin, rv, wv, _, rdv, nv, sv, ib, nb, rfl, by omega, (nx rfl (nx rfl t0)), (nx rfl (nx rfl t4)), (nx rfl (nx rfl t68)), (nx rfl (nx rfl t69)), hit, hsG, hP, hS, hv1, hu2, hv3, hv4, hu5, fun y hy hyk => hwe y (by omega) hyk, hsx⟩
    · refine wp_seq_k (fun K127 hK127 => ?_)
      refine cF rfl hit (by simpa using h) ?_
      refine wp_exit ?_
      refine thenE ?_
      obtain rfl : x = k := by omega
      exact hx _ _ ⟨G, src, reads, writes, writers, initial, readers, next, succ, pin, rv, wv, wsv, rdv, nv, sv, ib, nb, (nx rfl t4), hsG, hP, hS, hu1, hu2, hu3, hu4, hu5⟩
  clear t0 t4 hsG hP0
  rintro τ wi ⟨G, src, reads, writes, writers, initial, readers, next, succ, pin, rv, wv, wsv, rdv, nv, sv, ib, nb, t4, hsG, hP, hS, hu1, hu2, hu3, hu4, hu5⟩
  refine hK2 _ _ ?_
  clear hK2
  refine wp_seq_k (fun K128 hK128 => ?_)
  refine reg ?_
  refine sq rfl (do_move (tm rfl t4)) ?_
  refine sqc (R := fun _ w' => ∃ H' succ', Split w.heap.size w w' H' ∧ Same [8, 20, 21, 22, 23, 24, 25, 26, 27, 28] G H' ∧ TabV (H' 8) 22 3 1 encI sv succ' ∧ succ'.length = n ∧ (∀ v (h : v < succ'.length), ∀ u ∈ succ'[v], Ed n rk v u) ∧ sumLen succ' ≤ 9 * 196608 + 8589934592) rfl
    (run_callF Try.func34 nm34 bd34 (map1 (tm rfl hit)) rfl) ((force34 hsG pb n 196608 rv wv wsv _ rdv nv sv _ rk (WtF A) _ _ reads writes readers succ hP.p hP.t2 hP.t3 hP.t6 hP.t8 (hS.pf hL hinj) hn (by omega) (by omega) (by omega) (by omega) (by omega) (by omega) hS.l5 hS.ed).mono ?_) ?_
  · rintro e w' ⟨v', rfl, h⟩
    exact ⟨_, rfl, h⟩
  rintro cv w3 ⟨H', succ', hs', k', hT', hl', he', hb'⟩
  refine wnil ?_
  refine hK128 _ _ ?_
  clear hK128
  refine wp_seq_k (fun K129 hK129 => ?_)
  refine reg ?_
  refine sq rfl (do_move (tm rfl (nx rfl (nx rfl t4)))) ?_
  refine sq rfl (do_assign (tm rfl hit)) ?_
  refine sq rfl (do_assign ck) ?_
  refine cutL ?_
  intro τ130 e130
  have c130_2 := (congrFun e130 2).trans (nx rfl hit)
  have c130_3 := (congrFun e130 3).trans hit
  have c130_4 := (congrFun e130 4).trans (nx rfl (nx rfl (nx rfl (nx rfl (nx rfl t4)))))
  clear e130
  refine wnil ?_
  refine hK129 _ _ ?_
  clear hK129
  refine wp_ret ?_
  rw [← hQ]
  refine ret2 rfl rfl rfl c130_2 c130_3 ⟨pb, rfl, H', src, reads, writes, writers, initial, readers, next, succ', pin, rv, wv, wsv, rdv, nv, sv, ib, nb, hs', ?_, { hS with l5 := hl', ed := he' }, by omega, by omega, by omega, by omega, by omega⟩
  exact ⟨k'.vb (by decide) hP.p, by rw [k' 2 (by decide)]; exact hP.t2, by rw [k' 3 (by decide)]; exact hP.t3, by rw [k' 4 (by decide)]; exact hP.t4, k'.vb (by decide) hP.t5, by rw [k' 6 (by decide)]; exact hP.t6, by rw [k' 7 (by decide)]; exact hP.t7, hT', k'.vb (by decide) hP.t9, hP.pl⟩
end Go.Proofs.Qxb6001364a
