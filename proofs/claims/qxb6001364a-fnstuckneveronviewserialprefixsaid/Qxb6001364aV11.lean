/-
  ZZNewViewProblem.
-/
import Derived.Test.Qxb6001364aV10
namespace Go.Proofs.Qxb6001364a
open Go.Fra Go.RowKit Pl
set_option maxRecDepth 100000
set_option linter.unusedVariables false

/-- A slice of slices of bools that can be read. -/
def TabB (w : World) (v : Value) (rows : List (List Bool)) : Prop :=
  ∃ a c, v = .slice a rows.length c ∧ ∀ i (h : i < rows.length), ∃ b o rv, a = some ⟨b, o, none⟩ ∧ w.cell? ⟨b, o + i, none⟩ = some rv ∧ BoolR w rv rows[i]
theorem mk80 {ρ : Operand → Value} {w : World} {dst : Option Tmp} {ty : TypeId} {pos : String} {aft : Array Edge} {g : Option (Nat × Bool)} {x y : Operand} {n : Nat} (hx : ρ x = .int .i64 (n : Int)) (hy : ρ y = .int .i64 (n : Int)) (hn : n ≤ 1048576) :
    Does Try.prog ⟨dst, .makeSlice 80 x y, ty, pos, aft, g⟩ ρ w (.slice (some ⟨w.heap.size, 0, none⟩) n n) (w.alloc (.cells (madeCells #[.int .i64 0, .bool false] (n * 2)) 82)) := by
  refine .inl ?_
  obtain ⟨i, hi, hz, hs, hb⟩ := T82.info
  have := run_make (P := Try.prog) w 80 82 i _ Try.underlying80 hi hz .i64 .i64 n n (by omega) (Int.le_refl _) (by rw [hb]; omega) (by omega)
  simp only [Int.toNat_natCast, hs] at this
  simp [execOp, hx, hy, this, Value.cells]
/-- The cells of a row of accesses, the first i of them. -/
def AccC (A : List (Nat × Bool)) (i : Nat) (cs : List Value) : Prop := cs.length = A.length * 2 ∧ ∀ j (h : j < A.length), j < i → cs[j * 2]? = some (.int .i64 (A[j].1 : Int)) ∧ cs[j * 2 + 1]? = some (.bool A[j].2)

theorem nm38 : (Try.f38.name == "runtime.NumGoroutine") = false := by kernel_rfl
theorem bd38 : Try.f38.body.isNone = false := by kernel_rfl

/-- What a problem in the heap is. -/
def Prob (w0 : World) (w' : World) (pb n k : Nat) (A : Nat → List (Nat × Bool)) (rk : Nat → Nat) : Prop :=
  Below w0.heap.size w0 w' ∧ ∃ (N : Nat) (wN : World) (G : Nat → Part) (src : List (Nat × Int)) (reads : List (List Int)) (writes : List (List (Int × Int))) (writers : List (List Int)) (initial : List Int) (readers : List (List Int)) (next : List Int) (succ : List (List Int)) (pin : List Bool) (rv wv wsv rdv nv sv : Value) (ib nb : Nat),
    w0.heap.size ≤ N ∧ Split N wN w' G ∧ HpP G pb n k reads writes writers initial readers next succ pin rv wv wsv rdv nv sv ib nb ∧ Tbl n k A rk k src reads writes writers initial readers next succ ∧ sumLen reads ≤ 65536 ∧ sumLen writes ≤ 65536 ∧ sumLen readers ≤ 65536 ∧ readers.length ≤ 65536 ∧ sumLen succ ≤ 10000000000

set_option maxHeartbeats 1000000 in
theorem zznew32 (w : World) (n k : Nat) (na ia : Option Addr) (nc ic : Nat) (v2 v3 : Value) (nm : Nat → ByteArray) (A : Nat → List (Nat × Bool)) (rk : Nat → Nat)
    (hit0 : ∀ x, x < k → ∃ b o, ia = some ⟨b, o, none⟩ ∧ w.cell? ⟨b, o + x, none⟩ = some (.string (nm x))) (hnm : ∀ x y, x < k → y < k → nm x = nm y → x = y)
    (hT2 : TabR w v2 ((List.range k).map fun x => (A x).map fun p => (p.1 : Int))) (hT3 : TabB w v3 ((List.range k).map fun x => (A x).map fun p => p.2))
    (hL : ∀ y, y < k → Pl.Loc (loc (A y)) rk n) (hinj : ∀ u v, u < n → v < n → rk u = rk v → u = v) (hn : n ≤ 65536) (hk : k ≤ 65536) (ht : tot A k ≤ 65536) :
    Calls Try.prog 32 #[.slice na n nc, .slice ia k ic, v2, v3] w fun e w' => ∃ pb, e = .returned (.tuple #[.pointer (some ⟨pb, 0, none⟩), .bool true]) ∧ Prob w w' pb n k A rk := by
  obtain ⟨ta, tc, rfl, hT2c⟩ := hT2
  obtain ⟨ba, bc, rfl, hT3c⟩ := hT3
  simp only [List.length_map, List.length_range] at hT2c hT3c ⊢
  have hlen : ∀ x, x < k → (A x).length ≤ 65536 := by
    intro x hx
    have h1 := tot_mono A (x + 1) (k - (x + 1))
    rw [show x + 1 + (k - (x + 1)) = k by omega] at h1
    have h2 : tot A (x + 1) = tot A x + (A x).length := rfl
    omega
  refine enter (args := [.slice na n nc, .slice ia k ic, .slice ta k tc, .slice ba k bc]) Try.func32 rfl Try.ntmps32 rfl ?_
  generalize hQ : bodyPost Try.prog Try.f32 _ = Q
  have s0 : frame0 [Value.slice na n nc, .slice ia k ic, .slice ta k tc, .slice ba k bc] 0 = .slice na n nc := rfl
  have s1 : frame0 [Value.slice na n nc, .slice ia k ic, .slice ta k tc, .slice ba k bc] 1 = .slice ia k ic := rfl
  have s2 : frame0 [Value.slice na n nc, .slice ia k ic, .slice ta k tc, .slice ba k bc] 2 = .slice ta k tc := rfl
  have s3 : frame0 [Value.slice na n nc, .slice ia k ic, .slice ta k tc, .slice ba k bc] 3 = .slice ba k bc := rfl
  generalize frame0 [Value.slice na n nc, .slice ia k ic, .slice ta k tc, .slice ba k bc] = σ at *
  refine wp_seq_k (fun K1 hK1 => ?_)
  refine reg ?_
  refine sq rfl (do_assign ck) ?_
  refine sq rfl (do_assign ck) ?_
  refine wnil ?_
  refine hK1 _ _ ?_
  clear hK1
  refine wp_seq_k (fun K2 hK2 => ?_)
  refine reg ?_
  refine sq rfl (do_move (tm rfl (nx rfl (nx rfl s0)))) ?_
  refine sq rfl (do_move (tm rfl (nx rfl (nx rfl (nx rfl s1))))) ?_
  refine sq rfl do_makeMap ?_
  refine sq rfl (do_build79 (tm rfl (nx rfl (nx rfl hit))) (tm rfl (nx rfl hit)) (tm rfl hit)) ?_
  refine sq rfl (do_box (tm rfl hit)) ?_
  refine sq rfl (do_assign (tm rfl hit)) ?_
  refine cutW ?_
  intro τ3 e3 xa hxa
  have c3_0 := (congrFun e3 0).trans (nx rfl (nx rfl (nx rfl (nx rfl (nx rfl (nx rfl (nx rfl (nx rfl s0))))))))
  have c3_1 := (congrFun e3 1).trans (nx rfl (nx rfl (nx rfl (nx rfl (nx rfl (nx rfl (nx rfl (nx rfl s1))))))))
  have c3_2 := (congrFun e3 2).trans (nx rfl (nx rfl (nx rfl (nx rfl (nx rfl (nx rfl (nx rfl (nx rfl s2))))))))
  have c3_3 := (congrFun e3 3).trans (nx rfl (nx rfl (nx rfl (nx rfl (nx rfl (nx rfl (nx rfl (nx rfl s3))))))))
  have c3_8 := (congrFun e3 8).trans (nx rfl (nx rfl (nx rfl (nx rfl (nx rfl (nx rfl (nx rfl hit)))))))
  have c3_9 := (congrFun e3 9).trans (nx rfl (nx rfl (nx rfl (nx rfl (nx rfl (nx rfl hit))))))
  have c3_10 := (congrFun e3 10).trans hit
  clear e3
  refine wnil ?_
  refine hK2 _ _ ?_
  clear hK2
  obtain ⟨G1, k1, hs1, hm1⟩ := mapN (Split.start w) 1 sk
  obtain ⟨G2, k2, hs2, hg2⟩ := blkN hs1 2 79 #[.slice na n nc, .slice ia k ic, .map (some w.heap.size), .slice none 0 0, .slice none 0 0]
  have hs2' : Split w.heap.size w xa G2 := by rw [hxa]; exact hs2
  clear hs2 hs1 hxa
  generalize hbG : (w.alloc (.map #[] 0)).heap.size = bG at *
  have hm2 : MapV (G2 1) w.heap.size sk [] := by rw [k2 1 (by decide)]; exact hm1
  clear k1 k2 hm1
  generalize hbM : w.heap.size = bM at hm2 hg2
  refine wp_seq_k (fun K4 hK4 => ?_)
  refine wp_seq_k (fun K5 hK5 => ?_)
  refine reg ?_
  refine sq rfl (do_move (tm rfl c3_1)) ?_
  refine sq rfl (do_len Try.underlying52 (tm rfl hit)) ?_
  refine sq rfl (do_move (v := .int .i64 ((0 : Nat) : Int)) rfl) ?_
  refine wnil ?_
  refine hK5 _ _ ?_
  clear hK5
  refine forLoop (N := 68) (fun r τ wi => ∃ (x : Nat) (G : Nat → Part) (l : List (ByteArray × Value)), r = k - x ∧ x ≤ k ∧ τ 1 = .slice ia k ic ∧ τ 2 = .slice ta k tc ∧ τ 3 = .slice ba k bc ∧ τ 10 = .pointer (some ⟨bG, 0, none⟩) ∧ τ 20 = .slice ia k ic ∧ τ 21 = .int .i64 (k : Int) ∧ τ 22 = .int .i64 (x : Int) ∧
      Split w.heap.size w wi G ∧ MapV (G 1) bM sk l ∧ VB (G 2) bG 79 [.slice na n nc, .slice ia k ic, .map (some bM), .slice none 0 0, .slice none 0 0] ∧
      (∀ y, y < x → ∃ b cs, getL (fun a b => decide (a = b)) (nm y) l = some (.slice (some ⟨b, 0, none⟩) (A y).length (A y).length) ∧ VB (G (100 + y)) b 82 cs ∧ AccC (A y) (A y).length cs))
    (fun τ wi => ∃ (G : Nat → Part) (l : List (ByteArray × Value)), τ 10 = .pointer (some ⟨bG, 0, none⟩) ∧
      Split w.heap.size w wi G ∧ MapV (G 1) bM sk l ∧ VB (G 2) bG 79 [.slice na n nc, .slice ia k ic, .map (some bM), .slice none 0 0, .slice none 0 0] ∧
      (∀ y, y < k → ∃ b cs, getL (fun a b => decide (a = b)) (nm y) l = some (.slice (some ⟨b, 0, none⟩) (A y).length (A y).length) ∧ VB (G (100 + y)) b 82 cs ∧ AccC (A y) (A y).length cs)) k ?_ ?_ ?_
  · exact ⟨0, G2, [], rfl, Nat.zero_le _, (nx rfl (nx rfl (nx rfl c3_1))), (nx rfl (nx rfl (nx rfl c3_2))), (nx rfl (nx rfl (nx rfl c3_3))), (nx rfl (nx rfl (nx rfl c3_10))), (nx rfl (nx rfl hit)), (nx rfl hit), hit, hs2', hm2, hg2, fun y hy => by omega⟩
  · clear s0 s1 s2 s3 hs2' hm2 hg2
    rintro Q' r τ wi hnn hx hr ⟨x, G, l, rfl, hi, t1, t2, t3, t10, t20, t21, t22, hsG, hm, hg, hdone⟩
    refine wp_seq_k (fun K6 hK6 => ?_)
    refine reg ?_
    refine sq rfl (do_lss (tm rfl t22) (tm rfl t21)) ?_
    refine wnil ?_
    refine hK6 _ _ ?_
    clear hK6
    by_cases h : x < k
    · refine wp_seq_k (fun K7 hK7 => ?_)
      refine cT rfl hit (by simpa using h) ?_
      refine wp_skip ?_
      refine hK7 _ _ ?_
      clear hK7
      obtain ⟨bi, oi, rfl, ci⟩ := hit0 x h
      have ci' : wi.cell? ⟨bi, oi + x, none⟩ = some (.string (nm x)) := by rw [hsG.below.cell (World.block_lt_of_cell? w _ ci)]; exact ci
      obtain ⟨bt, ot, rvt, rfl, ct, hrt⟩ := hT2c x h
      obtain ⟨bb, ob, rvb, rfl, cb, hrb⟩ := hT3c x h
      simp only [List.getElem_map, List.getElem_range] at hrt hrb
      obtain ⟨at2, ac2, rfl, hct⟩ := hrt
      obtain ⟨ab2, bc2, rfl, hcb⟩ := hrb
      simp only [List.length_map, List.getElem_map] at hct hcb ct cb
      have ct' : wi.cell? ⟨bt, ot + x, none⟩ = some (.slice at2 (A x).length ac2) := by rw [hsG.below.cell (World.block_lt_of_cell? w _ ct)]; exact ct
      have hlx := hlen x h
      refine wp_seq_k (fun K8 hK8 => ?_)
      refine wp_block ?_
      refine wp_seq_k (fun K9 hK9 => ?_)
      refine reg ?_
      refine sq rfl (do_move (tm rfl (nx rfl t22))) ?_
      refine sq rfl (io52 (tm rfl (nx rfl (nx rfl t20))) (tm rfl (nx rfl (nx rfl t22))) (by omega)) ?_
      refine sq rfl (do_load T9 rfl (tm rfl hit) ci') ?_
      refine sq rfl (do_assign (tm rfl (nx rfl (nx rfl hit)))) ?_
      refine sq rfl (do_assign (tm rfl (nx rfl hit))) ?_
      refine cutL ?_
      intro τ10 e10
      have c10_1 := (congrFun e10 1).trans (nx rfl (nx rfl (nx rfl (nx rfl (nx rfl (nx rfl t1))))))
      have c10_2 := (congrFun e10 2).trans (nx rfl (nx rfl (nx rfl (nx rfl (nx rfl (nx rfl t2))))))
      have c10_3 := (congrFun e10 3).trans (nx rfl (nx rfl (nx rfl (nx rfl (nx rfl (nx rfl t3))))))
      have c10_10 := (congrFun e10 10).trans (nx rfl (nx rfl (nx rfl (nx rfl (nx rfl (nx rfl t10))))))
      have c10_11 := (congrFun e10 11).trans (nx rfl hit)
      have c10_12 := (congrFun e10 12).trans hit
      have c10_20 := (congrFun e10 20).trans (nx rfl (nx rfl (nx rfl (nx rfl (nx rfl (nx rfl t20))))))
      have c10_21 := (congrFun e10 21).trans (nx rfl (nx rfl (nx rfl (nx rfl (nx rfl (nx rfl t21))))))
      have c10_22 := (congrFun e10 22).trans (nx rfl (nx rfl (nx rfl (nx rfl (nx rfl (nx rfl t22))))))
      clear e10
      refine wnil ?_
      refine hK9 _ _ ?_
      clear hK9
      refine wp_seq_k (fun K11 hK11 => ?_)
      refine reg ?_
      refine sq rfl (do_move (tm rfl c10_2)) ?_
      refine sq rfl (do_move (tm rfl (nx rfl c10_11))) ?_
      refine sq rfl (io37 (tm rfl (nx rfl hit)) (tm rfl hit) (by omega)) ?_
      refine sq rfl (do_load T22 rfl (tm rfl hit) ct') ?_
      refine sq rfl (do_len Try.underlying22 (tm rfl hit)) ?_
      refine sq rfl (mk80 (tm rfl hit) (tm rfl hit) (by omega)) ?_
      refine sq rfl (do_assign (tm rfl hit)) ?_
      refine cutW ?_
      intro τ12 e12 xa hxa
      have c12_1 := (congrFun e12 1).trans (nx rfl (nx rfl (nx rfl (nx rfl (nx rfl (nx rfl (nx rfl c10_1)))))))
      have c12_2 := (congrFun e12 2).trans (nx rfl (nx rfl (nx rfl (nx rfl (nx rfl (nx rfl (nx rfl c10_2)))))))
      have c12_3 := (congrFun e12 3).trans (nx rfl (nx rfl (nx rfl (nx rfl (nx rfl (nx rfl (nx rfl c10_3)))))))
      have c12_10 := (congrFun e12 10).trans (nx rfl (nx rfl (nx rfl (nx rfl (nx rfl (nx rfl (nx rfl c10_10)))))))
      have c12_11 := (congrFun e12 11).trans (nx rfl (nx rfl (nx rfl (nx rfl (nx rfl (nx rfl (nx rfl c10_11)))))))
      have c12_12 := (congrFun e12 12).trans (nx rfl (nx rfl (nx rfl (nx rfl (nx rfl (nx rfl (nx rfl c10_12)))))))
      have c12_13 := (congrFun e12 13).trans hit
      have c12_20 := (congrFun e12 20).trans (nx rfl (nx rfl (nx rfl (nx rfl (nx rfl (nx rfl (nx rfl c10_20)))))))
      have c12_21 := (congrFun e12 21).trans (nx rfl (nx rfl (nx rfl (nx rfl (nx rfl (nx rfl (nx rfl c10_21)))))))
      have c12_22 := (congrFun e12 22).trans (nx rfl (nx rfl (nx rfl (nx rfl (nx rfl (nx rfl (nx rfl c10_22)))))))
      clear e12
      refine wnil ?_
      refine hK11 _ _ ?_
      clear hK11
      obtain ⟨G1, k1, hraw, hB⟩ := blkN hsG (100 + x) 82 (madeCells #[.int .i64 0, .bool false] ((A x).length * 2))
      have hs1 : Split w.heap.size w xa G1 := by rw [hxa]; exact hraw
      clear hxa hraw
      generalize wi.heap.size = bL at *
      have hm1 : MapV (G1 1) bM sk l := by rw [k1 1 (by simp; omega)]; exact hm
      have hg1 := k1.vb (t := 2) (by simp; omega) hg
      have hd1 : ∀ y, y < x → ∃ b cs, getL (fun a b => decide (a = b)) (nm y) l = some (.slice (some ⟨b, 0, none⟩) (A y).length (A y).length) ∧ VB (G1 (100 + y)) b 82 cs ∧ AccC (A y) (A y).length cs := by
        intro y hy
        obtain ⟨b, cs, h1, h2, h3⟩ := hdone y hy
        exact ⟨b, cs, h1, k1.vb (by simp; omega) h2, h3⟩
      have hA0 : AccC (A x) 0 (madeCells #[.int .i64 0, .bool false] ((A x).length * 2)).toList := ⟨by simp [madeCells], fun j _ h => by omega⟩
      generalize (madeCells #[.int .i64 0, .bool false] ((A x).length * 2)).toList = cs0 at *
      clear hsG hm hg hdone k1
      refine wp_seq_k (fun K13 hK13 => ?_)
      refine wp_seq_k (fun K14 hK14 => ?_)
      refine reg ?_
      refine sq rfl (do_move (tm rfl c12_13)) ?_
      refine sq rfl (do_len Try.underlying80 (tm rfl hit)) ?_
      refine sq rfl (do_move (v := .int .i64 ((0 : Nat) : Int)) rfl) ?_
      refine wnil ?_
      refine hK14 _ _ ?_
      clear hK14
      refine forLoop (N := 68) (fun r τ wi => ∃ (i : Nat) (G : Nat → Part) (cs : List Value), r = (A x).length - i ∧ i ≤ (A x).length ∧ τ 1 = .slice (some ⟨bi, oi, none⟩) k ic ∧ τ 2 = .slice (some ⟨bt, ot, none⟩) k tc ∧ τ 3 = .slice (some ⟨bb, ob, none⟩) k bc ∧ τ 10 = .pointer (some ⟨bG, 0, none⟩) ∧ τ 20 = .slice (some ⟨bi, oi, none⟩) k ic ∧ τ 21 = .int .i64 (k : Int) ∧ τ 22 = .int .i64 (x : Int) ∧ τ 11 = .int .i64 (x : Int) ∧ τ 12 = .string (nm x) ∧ τ 13 = .slice (some ⟨bL, 0, none⟩) (A x).length (A x).length ∧ τ 34 = .int .i64 ((A x).length : Int) ∧ τ 35 = .int .i64 (i : Int) ∧
          Split w.heap.size w wi G ∧ Same [100 + x] G1 G ∧ VB (G (100 + x)) bL 82 cs ∧ AccC (A x) i cs)
        (fun τ wi => ∃ (G : Nat → Part) (cs : List Value), τ 1 = .slice (some ⟨bi, oi, none⟩) k ic ∧ τ 2 = .slice (some ⟨bt, ot, none⟩) k tc ∧ τ 3 = .slice (some ⟨bb, ob, none⟩) k bc ∧ τ 10 = .pointer (some ⟨bG, 0, none⟩) ∧ τ 20 = .slice (some ⟨bi, oi, none⟩) k ic ∧ τ 21 = .int .i64 (k : Int) ∧ τ 22 = .int .i64 (x : Int) ∧ τ 12 = .string (nm x) ∧ τ 13 = .slice (some ⟨bL, 0, none⟩) (A x).length (A x).length ∧
          Split w.heap.size w wi G ∧ Same [100 + x] G1 G ∧ VB (G (100 + x)) bL 82 cs ∧ AccC (A x) (A x).length cs) (A x).length ?_ ?_ ?_
      · exact ⟨0, G1, cs0, rfl, Nat.zero_le _, (nx rfl (nx rfl (nx rfl c12_1))), (nx rfl (nx rfl (nx rfl c12_2))), (nx rfl (nx rfl (nx rfl c12_3))), (nx rfl (nx rfl (nx rfl c12_10))), (nx rfl (nx rfl (nx rfl c12_20))), (nx rfl (nx rfl (nx rfl c12_21))), (nx rfl (nx rfl (nx rfl c12_22))), (nx rfl (nx rfl (nx rfl c12_11))), (nx rfl (nx rfl (nx rfl c12_12))), (nx rfl (nx rfl (nx rfl c12_13))), (nx rfl hit), hit, hs1, Same.refl _ _, hB, hA0⟩
      · clear t1 t2 t3 t10 t20 t21 t22 hB hA0 ci' ct'
        rintro Q'' r τ wi hnn' hx' hr' ⟨i, G, cs, rfl, hi', t1, t2, t3, t10, t20, t21, t22, t11, t12, t13, t34, t35, hsG, kG, hB, hA⟩
        refine wp_seq_k (fun K15 hK15 => ?_)
        refine reg ?_
        refine sq rfl (do_lss (tm rfl t35) (tm rfl t34)) ?_
        refine wnil ?_
        refine hK15 _ _ ?_
        clear hK15
        by_cases h' : i < (A x).length
        · refine wp_seq_k (fun K16 hK16 => ?_)
          refine cT rfl hit (by simpa using h') ?_
          refine wp_skip ?_
          refine hK16 _ _ ?_
          clear hK16
          obtain ⟨b1, o1, hae, c1⟩ := hct i h'
          obtain ⟨b2, o2, hbe, c2⟩ := hcb i h'
          subst hae
          subst hbe
          have bel := hsG.below.drew
          have e1 : wi.drew.cell? ⟨bt, ot + x, none⟩ = some (.slice (some ⟨b1, o1, none⟩) (A x).length ac2) := by rw [bel.cell (World.block_lt_of_cell? w _ ct)]; exact ct
          have e2 : wi.drew.cell? ⟨b1, o1 + i, none⟩ = some (.int .i64 ((A x)[i].1 : Int)) := by rw [bel.cell (World.block_lt_of_cell? w _ c1)]; exact c1
          have e3 : wi.drew.cell? ⟨bb, ob + x, none⟩ = some (.slice (some ⟨b2, o2, none⟩) (A x).length bc2) := by rw [bel.cell (World.block_lt_of_cell? w _ cb)]; exact cb
          have e4 : wi.drew.cell? ⟨b2, o2 + i, none⟩ = some (.bool (A x)[i].2) := by rw [bel.cell (World.block_lt_of_cell? w _ c2)]; exact c2
          have hl0 : i * 2 < cs.length := by rw [hA.1]; omega
          have hl1 : i * 2 + 1 < cs.length := by rw [hA.1]; omega
          obtain ⟨G2, k2, hs2, hB2⟩ := hB.put hsG.drew (i * 2) (.int .i64 ((A x)[i].1 : Int))
          obtain ⟨G3, k3, hs3, hB3⟩ := hB2.put hs2 (i * 2 + 1) (.bool (A x)[i].2)
          refine wp_seq_k (fun K17 hK17 => ?_)
          refine wp_block ?_
          refine wp_seq_k (fun K18 hK18 => ?_)
          refine reg ?_
          refine sq rfl (do_move (tm rfl (nx rfl t35))) ?_
          refine sq rfl (do_assign (tm rfl hit)) ?_
          refine wnil ?_
          refine hK18 _ _ ?_
          clear hK18
          refine draw mixed [18] [(0, 0), (0, 0), (0, 0), (0, 0), (0, 0), (0, 0), (0, 0), (0, 0), (0, 0), (0, 0), (0, 0), (0, 0), (0, 0), (0, 0), (0, 0), (0, 0), (0, 0), (0, 0), (0, 0)] [(wi.drew.setCell ⟨bL, i * 2, none⟩ (.int .i64 ((A x)[i].1 : Int))).setCell ⟨bL, i * 2 + 1, none⟩ (.bool (A x)[i].2)] ((wi.drew.setCell ⟨bL, i * 2, none⟩ (.int .i64 ((A x)[i].1 : Int))).setCell ⟨bL, i * 2 + 1, none⟩ (.bool (A x)[i].2)) (upd (upd (upd (upd (upd (upd (upd (upd (upd (upd (upd (upd (upd (upd (upd (upd (upd (upd _ 38 _) 39 _) 40 _) 41 _) 42 _) 43 _) 44 _) 45 _) 46 _) 47 _) 48 _) 49 _) 50 _) 51 _) 52 _) 53 _) 54 _) 55 _) (by kernel_rfl) (fun s hs => ovr_off [(38, _), (39, _), (40, _), (41, _), (42, _), (43, _), (44, _), (45, _), (46, _), (47, _), (48, _), (49, _), (50, _), (51, _), (52, _), (53, _), (54, _), (55, _)] _ s hs) ⟨(qa rfl (fun _ => (do_move (tm rfl (nx rfl (nx rfl (nx rfl (nx rfl (nx rfl (nx rfl (nx rfl (nx rfl (nx rfl (nx rfl (nx rfl (nx rfl (nx rfl (nx rfl (nx rfl (nx rfl (nx rfl (nx rfl (nx rfl (nx rfl (nx rfl t13)))))))))))))))))))))))) (nx rfl (nx rfl (nx rfl (nx rfl (nx rfl (nx rfl (nx rfl (nx rfl (nx rfl (nx rfl (nx rfl (nx rfl (nx rfl (nx rfl (nx rfl (nx rfl (nx rfl hit)))))))))))))))))), (qa rfl (fun _ => (do_move (tm rfl (nx rfl (nx rfl (nx rfl (nx rfl (nx rfl (nx rfl (nx rfl (nx rfl (nx rfl (nx rfl (nx rfl (nx rfl (nx rfl (nx rfl (nx rfl (nx rfl (nx rfl (nx rfl hit))))))))))))))))))))) (nx rfl (nx rfl (nx rfl (nx rfl (nx rfl (nx rfl (nx rfl (nx rfl (nx rfl (nx rfl (nx rfl (nx rfl (nx rfl (nx rfl (nx rfl (nx rfl hit))))))))))))))))), (qa rfl (fun _ => (do_move (tm rfl (nx rfl (nx rfl (nx rfl (nx rfl (nx rfl (nx rfl (nx rfl (nx rfl (nx rfl (nx rfl (nx rfl (nx rfl (nx rfl (nx rfl (nx rfl (nx rfl (nx rfl (nx rfl (nx rfl (nx rfl (nx rfl t2)))))))))))))))))))))))) (nx rfl (nx rfl (nx rfl (nx rfl (nx rfl (nx rfl (nx rfl (nx rfl (nx rfl (nx rfl (nx rfl (nx rfl (nx rfl (nx rfl (nx rfl hit)))))))))))))))), (qa rfl (fun _ => (do_move (tm rfl (nx rfl (nx rfl (nx rfl (nx rfl (nx rfl (nx rfl (nx rfl (nx rfl (nx rfl (nx rfl (nx rfl (nx rfl (nx rfl (nx rfl (nx rfl (nx rfl (nx rfl (nx rfl (nx rfl (nx rfl (nx rfl t11)))))))))))))))))))))))) (nx rfl (nx rfl (nx rfl (nx rfl (nx rfl (nx rfl (nx rfl (nx rfl (nx rfl (nx rfl (nx rfl (nx rfl (nx rfl (nx rfl hit))))))))))))))), (qa rfl (fun _ => (io37 (tm rfl (nx rfl (nx rfl (nx rfl (nx rfl (nx rfl (nx rfl (nx rfl (nx rfl (nx rfl (nx rfl (nx rfl (nx rfl (nx rfl (nx rfl (nx rfl hit)))))))))))))))) (tm rfl (nx rfl (nx rfl (nx rfl (nx rfl (nx rfl (nx rfl (nx rfl (nx rfl (nx rfl (nx rfl (nx rfl (nx rfl (nx rfl (nx rfl hit))))))))))))))) (by omega))) (nx rfl (nx rfl (nx rfl (nx rfl (nx rfl (nx rfl (nx rfl (nx rfl (nx rfl (nx rfl (nx rfl (nx rfl (nx rfl hit)))))))))))))), (qk rfl (do_load T22 rfl (tm rfl (nx rfl (nx rfl (nx rfl (nx rfl (nx rfl (nx rfl (nx rfl (nx rfl (nx rfl (nx rfl (nx rfl (nx rfl (nx rfl hit)))))))))))))) e1) (nx rfl (nx rfl (nx rfl (nx rfl (nx rfl (nx rfl (nx rfl (nx rfl (nx rfl (nx rfl (nx rfl (nx rfl hit))))))))))))), (qa rfl (fun _ => (do_move (tm rfl (nx rfl (nx rfl (nx rfl (nx rfl (nx rfl (nx rfl (nx rfl (nx rfl (nx rfl (nx rfl (nx rfl (nx rfl (nx rfl (nx rfl (nx rfl (nx rfl (nx rfl (nx rfl hit))))))))))))))))))))) (nx rfl (nx rfl (nx rfl (nx rfl (nx rfl (nx rfl (nx rfl (nx rfl (nx rfl (nx rfl (nx rfl hit)))))))))))), (qa rfl (fun _ => (io22 (tm rfl (nx rfl (nx rfl (nx rfl (nx rfl (nx rfl (nx rfl (nx rfl (nx rfl (nx rfl (nx rfl (nx rfl (nx rfl hit))))))))))))) (tm rfl (nx rfl (nx rfl (nx rfl (nx rfl (nx rfl (nx rfl (nx rfl (nx rfl (nx rfl (nx rfl (nx rfl hit)))))))))))) (by omega))) (nx rfl (nx rfl (nx rfl (nx rfl (nx rfl (nx rfl (nx rfl (nx rfl (nx rfl (nx rfl hit))))))))))), (qk rfl (do_load T3 rfl (tm rfl (nx rfl (nx rfl (nx rfl (nx rfl (nx rfl (nx rfl (nx rfl (nx rfl (nx rfl (nx rfl hit))))))))))) e2) (nx rfl (nx rfl (nx rfl (nx rfl (nx rfl (nx rfl (nx rfl (nx rfl (nx rfl hit)))))))))), (qa rfl (fun _ => (do_move (tm rfl (nx rfl (nx rfl (nx rfl (nx rfl (nx rfl (nx rfl (nx rfl (nx rfl (nx rfl (nx rfl (nx rfl (nx rfl (nx rfl (nx rfl (nx rfl (nx rfl (nx rfl (nx rfl (nx rfl (nx rfl (nx rfl t3)))))))))))))))))))))))) (nx rfl (nx rfl (nx rfl (nx rfl (nx rfl (nx rfl (nx rfl (nx rfl hit))))))))), (qa rfl (fun _ => (do_move (tm rfl (nx rfl (nx rfl (nx rfl (nx rfl (nx rfl (nx rfl (nx rfl (nx rfl (nx rfl (nx rfl (nx rfl (nx rfl (nx rfl (nx rfl (nx rfl (nx rfl (nx rfl (nx rfl (nx rfl (nx rfl (nx rfl t11)))))))))))))))))))))))) (nx rfl (nx rfl (nx rfl (nx rfl (nx rfl (nx rfl (nx rfl hit)))))))), (qa rfl (fun _ => (io54 (tm rfl (nx rfl (nx rfl (nx rfl (nx rfl (nx rfl (nx rfl (nx rfl (nx rfl hit))))))))) (tm rfl (nx rfl (nx rfl (nx rfl (nx rfl (nx rfl (nx rfl (nx rfl hit)))))))) (by omega))) (nx rfl (nx rfl (nx rfl (nx rfl (nx rfl (nx rfl hit))))))), (qk rfl (do_load T23 rfl (tm rfl (nx rfl (nx rfl (nx rfl (nx rfl (nx rfl (nx rfl hit))))))) e3) (nx rfl (nx rfl (nx rfl (nx rfl (nx rfl hit)))))), (qa rfl (fun _ => (do_move (tm rfl (nx rfl (nx rfl (nx rfl (nx rfl (nx rfl (nx rfl (nx rfl (nx rfl (nx rfl (nx rfl (nx rfl (nx rfl (nx rfl (nx rfl (nx rfl (nx rfl (nx rfl (nx rfl hit))))))))))))))))))))) (nx rfl (nx rfl (nx rfl (nx rfl hit))))), (qa rfl (fun _ => (io23 (tm rfl (nx rfl (nx rfl (nx rfl (nx rfl (nx rfl hit)))))) (tm rfl (nx rfl (nx rfl (nx rfl (nx rfl hit))))) (by omega))) (nx rfl (nx rfl (nx rfl hit)))), (qk rfl (do_load T4 rfl (tm rfl (nx rfl (nx rfl (nx rfl hit)))) e4) (nx rfl (nx rfl hit))), (qa rfl (fun _ => (do_build82 (tm rfl (nx rfl (nx rfl (nx rfl (nx rfl (nx rfl (nx rfl (nx rfl (nx rfl (nx rfl hit)))))))))) (tm rfl (nx rfl (nx rfl hit))))) (nx rfl hit)), (qa rfl (fun _ => (ix80 (tm rfl (nx rfl (nx rfl (nx rfl (nx rfl (nx rfl (nx rfl (nx rfl (nx rfl (nx rfl (nx rfl (nx rfl (nx rfl (nx rfl (nx rfl (nx rfl (nx rfl (nx rfl hit)))))))))))))))))) (tm rfl (nx rfl (nx rfl (nx rfl (nx rfl (nx rfl (nx rfl (nx rfl (nx rfl (nx rfl (nx rfl (nx rfl (nx rfl (nx rfl (nx rfl (nx rfl (nx rfl hit))))))))))))))))) (by omega))) hit), (en rfl (do_store2 T82 (tm rfl hit) (tm rfl (nx rfl hit)) rfl rfl (hB.cell hsG.drew (List.getElem?_eq_getElem hl0)) (hB.cell hsG.drew (List.getElem?_eq_getElem hl1)) (hB.frozen hsG.drew _) (hB.frozen hsG.drew _))), trivial⟩ rfl ?_
          intro τ19 e19
          have c19_1 := (congrFun e19 1).trans (nx rfl (nx rfl (nx rfl (nx rfl (nx rfl (nx rfl (nx rfl (nx rfl (nx rfl (nx rfl (nx rfl (nx rfl (nx rfl (nx rfl (nx rfl (nx rfl (nx rfl (nx rfl (nx rfl (nx rfl (nx rfl t1)))))))))))))))))))))
          have c19_2 := (congrFun e19 2).trans (nx rfl (nx rfl (nx rfl (nx rfl (nx rfl (nx rfl (nx rfl (nx rfl (nx rfl (nx rfl (nx rfl (nx rfl (nx rfl (nx rfl (nx rfl (nx rfl (nx rfl (nx rfl (nx rfl (nx rfl (nx rfl t2)))))))))))))))))))))
          have c19_3 := (congrFun e19 3).trans (nx rfl (nx rfl (nx rfl (nx rfl (nx rfl (nx rfl (nx rfl (nx rfl (nx rfl (nx rfl (nx rfl (nx rfl (nx rfl (nx rfl (nx rfl (nx rfl (nx rfl (nx rfl (nx rfl (nx rfl (nx rfl t3)))))))))))))))))))))
          have c19_10 := (congrFun e19 10).trans (nx rfl (nx rfl (nx rfl (nx rfl (nx rfl (nx rfl (nx rfl (nx rfl (nx rfl (nx rfl (nx rfl (nx rfl (nx rfl (nx rfl (nx rfl (nx rfl (nx rfl (nx rfl (nx rfl (nx rfl (nx rfl t10)))))))))))))))))))))
          have c19_11 := (congrFun e19 11).trans (nx rfl (nx rfl (nx rfl (nx rfl (nx rfl (nx rfl (nx rfl (nx rfl (nx rfl (nx rfl (nx rfl (nx rfl (nx rfl (nx rfl (nx rfl (nx rfl (nx rfl (nx rfl (nx rfl (nx rfl (nx rfl t11)))))))))))))))))))))
          have c19_12 := (congrFun e19 12).trans (nx rfl (nx rfl (nx rfl (nx rfl (nx rfl (nx rfl (nx rfl (nx rfl (nx rfl (nx rfl (nx rfl (nx rfl (nx rfl (nx rfl (nx rfl (nx rfl (nx rfl (nx rfl (nx rfl (nx rfl (nx rfl t12)))))))))))))))))))))
          have c19_13 := (congrFun e19 13).trans (nx rfl (nx rfl (nx rfl (nx rfl (nx rfl (nx rfl (nx rfl (nx rfl (nx rfl (nx rfl (nx rfl (nx rfl (nx rfl (nx rfl (nx rfl (nx rfl (nx rfl (nx rfl (nx rfl (nx rfl (nx rfl t13)))))))))))))))))))))
          have c19_14 := (congrFun e19 14).trans (nx rfl (nx rfl (nx rfl (nx rfl (nx rfl (nx rfl (nx rfl (nx rfl (nx rfl (nx rfl (nx rfl (nx rfl (nx rfl (nx rfl (nx rfl (nx rfl (nx rfl (nx rfl hit))))))))))))))))))
          have c19_20 := (congrFun e19 20).trans (nx rfl (nx rfl (nx rfl (nx rfl (nx rfl (nx rfl (nx rfl (nx rfl (nx rfl (nx rfl (nx rfl (nx rfl (nx rfl (nx rfl (nx rfl (nx rfl (nx rfl (nx rfl (nx rfl (nx rfl (nx rfl t20)))))))))))))))))))))
          have c19_21 := (congrFun e19 21).trans (nx rfl (nx rfl (nx rfl (nx rfl (nx rfl (nx rfl (nx rfl (nx rfl (nx rfl (nx rfl (nx rfl (nx rfl (nx rfl (nx rfl (nx rfl (nx rfl (nx rfl (nx rfl (nx rfl (nx rfl (nx rfl t21)))))))))))))))))))))
          have c19_22 := (congrFun e19 22).trans (nx rfl (nx rfl (nx rfl (nx rfl (nx rfl (nx rfl (nx rfl (nx rfl (nx rfl (nx rfl (nx rfl (nx rfl (nx rfl (nx rfl (nx rfl (nx rfl (nx rfl (nx rfl (nx rfl (nx rfl (nx rfl t22)))))))))))))))))))))
          have c19_34 := (congrFun e19 34).trans (nx rfl (nx rfl (nx rfl (nx rfl (nx rfl (nx rfl (nx rfl (nx rfl (nx rfl (nx rfl (nx rfl (nx rfl (nx rfl (nx rfl (nx rfl (nx rfl (nx rfl (nx rfl (nx rfl (nx rfl (nx rfl t34)))))))))))))))))))))
          have c19_35 := (congrFun e19 35).trans (nx rfl (nx rfl (nx rfl (nx rfl (nx rfl (nx rfl (nx rfl (nx rfl (nx rfl (nx rfl (nx rfl (nx rfl (nx rfl (nx rfl (nx rfl (nx rfl (nx rfl (nx rfl (nx rfl (nx rfl (nx rfl t35)))))))))))))))))))))
          clear e19
          refine inBN ?_
          refine hK17 _ _ ?_
          clear hK17
          refine reg ?_
          refine sq rfl (do_inc (tm rfl c19_35) ck (by omega)) ?_
          refine sq rfl (do_move (tm rfl hit)) ?_
          refine wnil ?_
          refine hnn' ((A x).length - (i + 1)) _ _ (by omega) ⟨i + 1, G3, _, rfl, by omega, (nx rfl (nx rfl c19_1)), (nx rfl (nx rfl c19_2)), (nx rfl (nx rfl c19_3)), (nx rfl (nx rfl c19_10)), (nx rfl (nx rfl c19_20)), (nx rfl (nx rfl c19_21)), (nx rfl (nx rfl c19_22)), (nx rfl (nx rfl c19_11)), (nx rfl (nx rfl c19_12)), (nx rfl (nx rfl c19_13)), (nx rfl (nx rfl c19_34)), hit, hs3, kG.trans (k2.trans k3), hB3, by simp [hA.1], ?_⟩
          intro j hj hji
          by_cases hij : i = j
          · subst hij
            constructor
            · rw [List.getElem?_set_ne (by omega), List.getElem?_set_self hl0]
            · rw [List.getElem?_set_self (by simpa using hl1)]
          · rw [List.getElem?_set_ne (by omega), List.getElem?_set_ne (by omega), List.getElem?_set_ne (by omega), List.getElem?_set_ne (by omega)]
            exact hA.2 j hj (by omega)
        · refine wp_seq_k (fun K20 hK20 => ?_)
          refine cF rfl hit (by simpa using h') ?_
          refine wp_exit ?_
          refine thenE ?_
          obtain rfl : i = (A x).length := by omega
          exact hx' _ _ ⟨G, cs, (nx rfl t1), (nx rfl t2), (nx rfl t3), (nx rfl t10), (nx rfl t20), (nx rfl t21), (nx rfl t22), (nx rfl t12), (nx rfl t13), hsG, kG, hB, hA⟩
      clear t1 t2 t3 t10 t20 t21 t22 hB hA0 ci' ct'
      rintro τ wi ⟨G, cs, t1, t2, t3, t10, t20, t21, t22, t12, t13, hsG, kG, hB, hA⟩
      refine hK13 _ _ ?_
      clear hK13
      have hgG := kG.vb (t := 2) (by simp; omega) hg1
      have hmG : MapV (G 1) bM sk l := by rw [kG 1 (by simp; omega)]; exact hm1
      obtain ⟨xb, V1, hm2, hs2, hput⟩ := hmG.put keyStr Try.underlying76 hsG (nm x) (.slice (some ⟨bL, 0, none⟩) (A x).length (A x).length)
      have k2 : Same [1] G (updH G 1 V1) := Same.upd (by decide)
      refine reg ?_
      refine sq rfl (do_move (tm rfl t10)) ?_
      refine sq rfl (do_nilCheck (tm rfl hit)) ?_
      refine sq rfl (fa79_2 (tm rfl hit)) ?_
      refine sq rfl (do_load T76 rfl (tm rfl hit) (hgG.cell hsG (i := 2) rfl)) ?_
      refine sq rfl (do_move (tm rfl (nx rfl (nx rfl (nx rfl (nx rfl t12)))))) ?_
      refine sq rfl (do_move (tm rfl (nx rfl (nx rfl (nx rfl (nx rfl (nx rfl t13))))))) ?_
      refine sqn (hput _ _ _ _ _ _ _ _ _ (tm rfl (nx rfl (nx rfl hit))) (tm rfl (nx rfl hit)) (tm rfl hit)) ?_
      refine cutL ?_
      intro τ21 e21
      have c21_1 := (congrFun e21 1).trans (nx rfl (nx rfl (nx rfl (nx rfl (nx rfl (nx rfl t1))))))
      have c21_2 := (congrFun e21 2).trans (nx rfl (nx rfl (nx rfl (nx rfl (nx rfl (nx rfl t2))))))
      have c21_3 := (congrFun e21 3).trans (nx rfl (nx rfl (nx rfl (nx rfl (nx rfl (nx rfl t3))))))
      have c21_10 := (congrFun e21 10).trans (nx rfl (nx rfl (nx rfl (nx rfl (nx rfl (nx rfl t10))))))
      have c21_12 := (congrFun e21 12).trans (nx rfl (nx rfl (nx rfl (nx rfl (nx rfl (nx rfl t12))))))
      have c21_13 := (congrFun e21 13).trans (nx rfl (nx rfl (nx rfl (nx rfl (nx rfl (nx rfl t13))))))
      have c21_20 := (congrFun e21 20).trans (nx rfl (nx rfl (nx rfl (nx rfl (nx rfl (nx rfl t20))))))
      have c21_21 := (congrFun e21 21).trans (nx rfl (nx rfl (nx rfl (nx rfl (nx rfl (nx rfl t21))))))
      have c21_22 := (congrFun e21 22).trans (nx rfl (nx rfl (nx rfl (nx rfl (nx rfl (nx rfl t22))))))
      clear e21
      refine wnil ?_
      refine inBN ?_
      refine hK8 _ _ ?_
      clear hK8
      refine reg ?_
      refine sq rfl (do_inc (tm rfl c21_22) ck (by omega)) ?_
      refine sq rfl (do_move (tm rfl hit)) ?_
      refine wnil ?_
      refine hnn (k - (x + 1)) _ _ (by omega) ⟨x + 1, updH G 1 V1, _, rfl, by omega, (nx rfl (nx rfl c21_1)), (nx rfl (nx rfl c21_2)), (nx rfl (nx rfl c21_3)), (nx rfl (nx rfl c21_10)), (nx rfl (nx rfl c21_20)), (nx rfl (nx rfl c21_21)), hit, hs2, hm2, k2.vb (t := 2) (by decide) hgG, ?_⟩
      intro y hy
      rw [getL_put keyStr.law]
      by_cases hyx : y = x
      · subst hyx
        exact ⟨bL, cs, by simp, k2.vb (by simp; omega) hB, hA⟩
      · obtain ⟨b, cs', h1, h2, h3⟩ := hd1 y (by omega)
        have hne : ¬ nm y = nm x := fun e => hyx (hnm y x (by omega) h e)
        refine ⟨b, cs', by simpa [hne] using h1, k2.vb (by simp; omega) (kG.vb (by simp; omega) h2), h3⟩
    · refine wp_seq_k (fun K22 hK22 => ?_)
      refine cF rfl hit (by simpa using h) ?_
      refine wp_exit ?_
      refine thenE ?_
      exact hx _ _ ⟨G, l, (nx rfl t10), hsG, hm, hg, fun y hy => hdone y (by omega)⟩
  clear s0 s1 s2 s3 hs2' hm2 hg2
  rintro τ wi ⟨G, l, t10, hsG, hm, hg, hdone⟩
  refine hK4 _ _ ?_
  clear hK4
  have hNs := hsG.base
  have hbel := hsG.below
  have hi1 : ∀ x, x < k → ∃ b o, ia = some ⟨b, o, none⟩ ∧ wi.cell? ⟨b, o + x, none⟩ = some (.string (nm x)) := by
    intro x hx
    obtain ⟨b, o, e, c⟩ := hit0 x hx
    exact ⟨b, o, e, by rw [hbel.cell (World.block_lt_of_cell? w _ c)]; exact c⟩
  have hmw : ∃ es clock, wi.heap[bM]? = some (.map es clock) ∧ es.toList.map (fun e => (e.key, e.val)) = l.map (fun p => (sk p.1, p.2)) := by
    obtain ⟨es, clock, h1, h2⟩ := hm
    exact ⟨es, clock, hsG.heap h1, h2⟩
  have hav : ∀ x, x < k → getL (fun a b => decide (a = b)) (nm x) l = some ((getL (fun a b => decide (a = b)) (nm x) l).getD (.bool false)) ∧ AccR wi ((getL (fun a b => decide (a = b)) (nm x) l).getD (.bool false)) (A x) := by
    intro x hx
    obtain ⟨b, cs, h1, h2, h3⟩ := hdone x hx
    rw [h1]
    refine ⟨rfl, _, _, rfl, fun i hi => ⟨b, 0, rfl, ?_, ?_⟩⟩
    · rw [Nat.zero_add]; exact h2.cell hsG (h3.2 i hi hi).1
    · rw [Nat.zero_add]; exact h2.cell hsG (h3.2 i hi hi).2
  refine wp_seq_k (fun K23 hK23 => ?_)
  refine reg ?_
  refine sq rfl (do_move (tm rfl t10)) ?_
  refine sqc (R := fun v w' => ∃ pb, v = .tuple #[.pointer (some ⟨pb, 0, none⟩), .bool true] ∧ Prob w w' pb n k A rk) rfl
    (run_callF Try.func38 nm38 bd38 (map1 (tm rfl hit)) rfl) ((new38 wi bG n k bM na ia nc ic nm A _ l rk (hg.cell hsG (i := 0) rfl) (hg.cell hsG (i := 1) rfl) (hg.cell hsG (i := 2) rfl) hi1 hmw hav hL hinj hn hk ht).mono ?_) ?_
  · rintro e w' ⟨pb, rfl, G', src, reads, writes, writers, initial, readers, next, succ, pin, rv, wv, wsv, rdv, nv, sv, ib, nb, h1, h2⟩
    refine ⟨_, rfl, pb, rfl, hbel.trans (h1.below.mono hNs), _, _, G', src, reads, writes, writers, initial, readers, next, succ, pin, rv, wv, wsv, rdv, nv, sv, ib, nb, hNs, h1, h2⟩
  rintro cv w3 ⟨pb, rfl, hpr⟩
  refine sq rfl (do_extract (tm rfl hit) rfl) ?_
  refine sq rfl (do_extract (tm rfl (nx rfl hit)) rfl) ?_
  refine sq rfl (do_assign (tm rfl (nx rfl hit))) ?_
  refine sq rfl (do_assign (tm rfl (nx rfl hit))) ?_
  refine cutL ?_
  intro τ24 e24
  have c24_8 := (congrFun e24 8).trans (nx rfl hit)
  have c24_9 := (congrFun e24 9).trans hit
  have c24_10 := (congrFun e24 10).trans (nx rfl (nx rfl (nx rfl (nx rfl (nx rfl (nx rfl t10))))))
  clear e24
  refine wnil ?_
  refine hK23 _ _ ?_
  clear hK23
  refine wp_ret ?_
  rw [← hQ]
  exact ret2 rfl rfl rfl c24_8 c24_9 ⟨pb, rfl, hpr⟩
end Go.Proofs.Qxb6001364a
