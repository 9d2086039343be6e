/-
  ZZMakeRow, and THE LAW FnMakeRowDecodesBackToKeyAndFields: the walk.
-/
import Derived.Test.Qxb6000003aW10
namespace Go.Proofs.Qxb6000003a
open Go.Fra Go.RowKit
set_option maxRecDepth 100000
set_option linter.unusedVariables false

section
variable {ρ : Operand → Value} {w : World} {dst : Option Tmp} {ty : TypeId} {pos : String} {aft : Array Edge} {g : Option (Nat × Bool)}
theorem run_build52 (k z : Int) (s : ByteArray) (w : World) :
    (Instr.build 52 #[(0, .int .u8 k), (1, .int .i64 z), (2, .string s)]).run Try.prog w = .ok (.agg #[.int .u8 k, .int .i64 z, .string s]) w := by kernel_rfl
theorem do_build52 {x0 x1 x2 : Operand} {k z : Int} {s : ByteArray} (h0 : ρ x0 = .int .u8 k) (h1 : ρ x1 = .int .i64 z) (h2 : ρ x2 = .string s) :
    Does Try.prog ⟨dst, .build 52 #[(0, x0), (1, x1), (2, x2)], ty, pos, aft, g⟩ ρ w (.agg #[.int .u8 k, .int .i64 z, .string s]) w := by
  refine .inl ?_
  simp [execOp, h0, h1, h2, run_build52]
theorem do_mk49 {x y : Operand} {n : Nat} (hx : ρ x = .int .i64 (n : Int)) (hy : ρ y = .int .i64 (n : Int)) (hn : n ≤ 1048576) :
    Does Try.prog ⟨dst, .makeSlice 49 x y, ty, pos, aft, g⟩ ρ w (.slice (some ⟨w.heap.size, 0, none⟩) n n) (w.alloc (.cells (madeCells #[.int .u8 0, .int .i64 0, .string ⟨#[]⟩] (n * 3)) 52)) := by
  refine .inl ?_
  obtain ⟨i, hi, hz, hs, hb⟩ := T52.info
  have := run_make (P := Try.prog) w 49 52 i _ Try.underlying49 hi hz .i64 .i64 n n (by omega) (Int.le_refl _) (by rw [hb]; omega) (by omega)
  simp only [Int.toNat_natCast, hs] at this
  simp [execOp, hx, hy, this, Value.cells]
theorem do_copyNew {dT elem : TypeId} {x y : Operand} {b n dc : Nat} {a : Addr} {sc : Nat} {cs : List Value} {d : TypeDesc} {z z0 : Value} {by_ : Nat} (hu : Try.prog.underlying dT = some (.slice elem)) (T : TyI Try.prog elem d z 1 by_)
    (hB : Blk w b elem (List.replicate n z0)) (hx : ρ x = .slice (some ⟨b, 0, none⟩) n dc) (hy : ρ y = .slice (some a) n sc) (hn : cs.length = n)
    (hsrc : ∀ j v, cs[j]? = some v → w.cell? (a.add j) = some v) (h1 : ∀ v ∈ cs, v.oneCell' = true) :
    Does Try.prog ⟨dst, .call { callee := .builtin .copy, args := #[x, y], argTypes := #[dT, dT] }, ty, pos, aft, g⟩ ρ w (.int .i64 (n : Int)) (w.setCells b 0 cs) := by
  refine do_copy hu T hx hy hn hsrc (fun j hj => ?_) (fun j hj => ?_) h1
  · rw [Nat.zero_add, hB.cell (v := z0) (by rw [List.getElem?_replicate, if_pos (by omega)])]; rfl
  · exact hB.frozen _
end
theorem copied_blk {w : World} {b n : Nat} {t : TypeId} {z : Value} {cs : List Value} (h : Blk w b t (List.replicate n z)) (hn : cs.length = n) : Blk (w.setCells b 0 cs) b t cs := by
  have := Blk.setCells cs 0 w _ h (by simp [hn])
  rw [List.take_zero, List.nil_append, Nat.zero_add, List.drop_of_length_le (by simp [hn]), List.append_nil] at this
  exact this

theorem U8S.below {w w' : World} {v : Value} {zs : List Int} (h : U8S w v zs) (hb : Below w.heap.size w w') : U8S w' v zs := by
  obtain ⟨a, c, rfl, hc⟩ := h
  refine ⟨a, c, rfl, fun i hi => ?_⟩
  obtain ⟨b, o, ha, hcc⟩ := hc i hi
  exact ⟨b, o, ha, by rw [hb.cell (World.block_lt_of_cell? w _ hcc)]; exact hcc⟩
theorem I64S.belowR {w w' : World} {v : Value} {zs : List Int} (h : I64S w v zs) (hb : Below w.heap.size w w') : I64S w' v zs := by
  obtain ⟨a, c, rfl, hc⟩ := h
  refine ⟨a, c, rfl, fun i hi => ?_⟩
  obtain ⟨b, o, ha, hcc⟩ := hc i hi
  exact ⟨b, o, ha, by rw [hb.cell (World.block_lt_of_cell? w _ hcc)]; exact hcc⟩
theorem StrS.belowR {w w' : World} {v : Value} {ss : List ByteArray} (h : StrS w v ss) (hb : Below w.heap.size w w') : StrS w' v ss := by
  obtain ⟨a, c, rfl, hc⟩ := h
  refine ⟨a, c, rfl, fun i hi => ?_⟩
  obtain ⟨b, o, ha, hcc⟩ := hc i hi
  exact ⟨b, o, ha, by rw [hb.cell (World.block_lt_of_cell? w _ hcc)]; exact hcc⟩

theorem nm30 : (Try.f30.name == "runtime.NumGoroutine") = false := by kernel_rfl
theorem bd30 : Try.f30.body.isNone = false := by kernel_rfl

theorem zzMakeRow25 (w : World) (key : ByteArray) (vk vn vs : Value) (ks zs : List Int) (ss : List ByteArray) (hK : U8S w vk ks) (hN : I64S w vn zs) (hS : StrS w vs ss) (h1 : zs.length = ks.length) (h2 : ss.length = ks.length)
    (hk : ∀ k ∈ ks, k = 1 ∨ k = 2) (l0 : key.size ≤ 1048576) (l1 : ks.length ≤ 1048576) (l3 : ∀ s ∈ ss, s.size ≤ 1048576) :
    Calls Try.prog 25 #[.string key, vk, vn, vs] w fun e w' => e = .returned (.string ⟨(rowOf key (flds ks zs ss)).toArray⟩) ∧ Below w.heap.size w w' := by
  obtain ⟨a1, c1, rfl, hKc⟩ := hK
  obtain ⟨a2, c2, rfl, hNc⟩ := hN
  obtain ⟨a3, c3, rfl, hSc⟩ := hS
  have hfl : (flds ks zs ss).length = ks.length := flds_length ks zs ss h1 h2
  refine enter (args := [.string key, .slice a1 ks.length c1, .slice a2 zs.length c2, .slice a3 ss.length c3]) Try.func25 rfl Try.ntmps25 rfl ?_
  generalize hQ : bodyPost Try.prog Try.f25 _ = Q
  have s0 : frame0 [Value.string key, .slice a1 ks.length c1, .slice a2 zs.length c2, .slice a3 ss.length c3] 0 = .string key := rfl
  have s1 : frame0 [Value.string key, .slice a1 ks.length c1, .slice a2 zs.length c2, .slice a3 ss.length c3] 1 = .slice a1 ks.length c1 := rfl
  have s2 : frame0 [Value.string key, .slice a1 ks.length c1, .slice a2 zs.length c2, .slice a3 ss.length c3] 2 = .slice a2 zs.length c2 := rfl
  have s3 : frame0 [Value.string key, .slice a1 ks.length c1, .slice a2 zs.length c2, .slice a3 ss.length c3] 3 = .slice a3 ss.length c3 := rfl
  generalize frame0 [Value.string key, .slice a1 ks.length c1, .slice a2 zs.length c2, .slice a3 ss.length c3] = σ at *
  refine wp_seq_k (fun K1 hK1 => ?_)
  refine reg ?_
  refine sq rfl (do_assign ck) ?_
  refine wnil ?_
  refine hK1 _ _ ?_
  clear hK1
  refine wp_seq_k (fun K2 hK2 => ?_)
  refine reg ?_
  refine sq rfl (do_move (tm rfl (nx rfl s1))) ?_
  refine sq rfl (do_len Try.underlying23 (tm rfl hit)) ?_
  refine sq rfl (do_mk49 (tm rfl hit) (tm rfl hit) l1) ?_
  refine sq rfl (do_assign (tm rfl hit)) ?_
  refine cutL ?_
  intro τ3 e3
  have c3_0 := (congrFun e3 0).trans (nx rfl (nx rfl (nx rfl (nx rfl (nx rfl s0)))))
  have c3_1 := (congrFun e3 1).trans (nx rfl (nx rfl (nx rfl (nx rfl (nx rfl s1)))))
  have c3_2 := (congrFun e3 2).trans (nx rfl (nx rfl (nx rfl (nx rfl (nx rfl s2)))))
  have c3_3 := (congrFun e3 3).trans (nx rfl (nx rfl (nx rfl (nx rfl (nx rfl s3)))))
  have c3_8 := (congrFun e3 8).trans (nx rfl (nx rfl (nx rfl (nx rfl hit))))
  have c3_9 := (congrFun e3 9).trans hit
  clear e3
  refine wnil ?_
  refine hK2 _ _ ?_
  clear hK2
  refine wp_seq_k (fun K4 hK4 => ?_)
  refine wp_seq_k (fun K5 hK5 => ?_)
  refine reg ?_
  refine sq rfl (do_assign (v := .int .i64 ((0 : Nat) : Int)) rfl) ?_
  refine wnil ?_
  refine hK5 _ _ ?_
  clear hK5
  refine forLoop (N := 39) (fun k τ wi => ∃ i cs, k = ks.length - i ∧ i ≤ ks.length ∧ τ 0 = .string key ∧ τ 1 = .slice a1 ks.length c1 ∧ τ 2 = .slice a2 zs.length c2 ∧ τ 3 = .slice a3 ss.length c3 ∧ τ 9 = .slice (some ⟨w.heap.size, 0, none⟩) ks.length ks.length ∧ τ 10 = .int .i64 (i : Int) ∧
      Blk wi w.heap.size 52 cs ∧ cs.length = ks.length * 3 ∧ (∀ j (h : j < ks.length), j < i → cs[j * 3]? = some (.int .u8 ks[j]) ∧ cs[j * 3 + 1]? = some (.int .i64 zs[j]) ∧ cs[j * 3 + 2]? = some (.string ss[j])) ∧ Below w.heap.size w wi)
    (fun τ wi => ∃ cs, τ 0 = .string key ∧ τ 9 = .slice (some ⟨w.heap.size, 0, none⟩) ks.length ks.length ∧
      Blk wi w.heap.size 52 cs ∧ (∀ j (h : j < ks.length), cs[j * 3]? = some (.int .u8 ks[j]) ∧ cs[j * 3 + 1]? = some (.int .i64 zs[j]) ∧ cs[j * 3 + 2]? = some (.string ss[j])) ∧ Below w.heap.size w wi) ks.length ?_ ?_ ?_
  · exact ⟨0, _, rfl, Nat.zero_le _, (nx rfl c3_0), (nx rfl c3_1), (nx rfl c3_2), (nx rfl c3_3), (nx rfl c3_9), hit, Blk.new w _ 52, by simp [madeCells], fun j _ h => by omega, (Below.refl _ _).alloc (Nat.le_refl _) _⟩
  · clear s0 s1 s2 s3
    rintro Q' k τ wi hnn hx hr ⟨i, cs, rfl, hi, t0, t1, t2, t3, t9, t10, hB, hcl, hcc, hbel⟩
    refine wp_seq_k (fun K6 hK6 => ?_)
    refine wp_seq_k (fun K7 hK7 => ?_)
    refine reg ?_
    refine sq rfl (do_move (tm rfl t10)) ?_
    refine sq rfl (do_move (tm rfl (nx rfl t1))) ?_
    refine sq rfl (do_len Try.underlying23 (tm rfl hit)) ?_
    refine sq rfl (do_lss (tm rfl (nx rfl (nx rfl hit))) (tm rfl hit)) ?_
    refine cutL ?_
    intro τ8 e8
    have c8_0 := (congrFun e8 0).trans (nx rfl (nx rfl (nx rfl (nx rfl t0))))
    have c8_1 := (congrFun e8 1).trans (nx rfl (nx rfl (nx rfl (nx rfl t1))))
    have c8_2 := (congrFun e8 2).trans (nx rfl (nx rfl (nx rfl (nx rfl t2))))
    have c8_3 := (congrFun e8 3).trans (nx rfl (nx rfl (nx rfl (nx rfl t3))))
    have c8_9 := (congrFun e8 9).trans (nx rfl (nx rfl (nx rfl (nx rfl t9))))
    have c8_10 := (congrFun e8 10).trans (nx rfl (nx rfl (nx rfl (nx rfl t10))))
    have c8_17 := (congrFun e8 17).trans hit
    clear e8
    refine wnil ?_
    refine hK7 _ _ ?_
    clear hK7
    by_cases h : i < ks.length
    · refine cT rfl c8_17 (by simpa using h) ?_
      refine wp_skip ?_
      refine hK6 _ _ ?_
      clear hK6
      obtain ⟨b1, o1, rfl, hc1⟩ := hKc i h
      obtain ⟨b2, o2, rfl, hc2⟩ := hNc i (by omega)
      obtain ⟨b3, o3, rfl, hc3⟩ := hSc i (by omega)
      rw [← hbel.cell (World.block_lt_of_cell? w _ hc1)] at hc1
      rw [← hbel.cell (World.block_lt_of_cell? w _ hc2)] at hc2
      rw [← hbel.cell (World.block_lt_of_cell? w _ hc3)] at hc3
      obtain ⟨w4, hw4⟩ : ∃ w4, w4 = ((wi.drew.setCell ⟨w.heap.size, i * 3, none⟩ (.int .u8 ks[i])).setCell ⟨w.heap.size, i * 3 + 1, none⟩ (.int .i64 zs[i])).setCell ⟨w.heap.size, i * 3 + 2, none⟩ (.string ss[i]) := ⟨_, rfl⟩
      have hBd : Blk wi.drew w.heap.size 52 cs := hB
      have hst : ∀ (ρ : Operand → Value) (ty : TypeId) (pos : String) (aft : Array Edge) (x y : Operand), ρ x = .pointer (some ⟨w.heap.size, i * 3, none⟩) → ρ y = .agg #[.int .u8 ks[i], .int .i64 zs[i], .string ss[i]] →
          Does Try.prog ⟨none, .store 52 x y, ty, pos, aft, none⟩ ρ (stg wi.drew [w4] 0) undef (stg wi.drew [w4] (0 + 1)) := by
        intro ρ ty pos aft x y h1 h2
        show Does Try.prog _ ρ wi.drew undef w4
        rw [hw4]
        exact do_store3 T52 h1 h2 rfl rfl rfl (hBd.cell (List.getElem?_eq_getElem (by omega))) (hBd.cell (List.getElem?_eq_getElem (by omega))) (hBd.cell (List.getElem?_eq_getElem (by omega))) (hBd.frozen _) (hBd.frozen _) (hBd.frozen _)
      refine wp_seq_k (fun K9 hK9 => ?_)
      refine wp_block ?_
      refine draw mixed [16] [(0, 0), (0, 0), (0, 0), (0, 0), (0, 0), (0, 0), (0, 0), (0, 0), (0, 0), (0, 0), (0, 0), (0, 0), (0, 0), (0, 0), (0, 0), (0, 0), (0, 0)] [w4] (w4) (upd (upd (upd (upd (upd (upd (upd (upd (upd (upd (upd (upd (upd (upd (upd (upd _ 20 _) 21 _) 22 _) 23 _) 24 _) 25 _) 26 _) 27 _) 28 _) 29 _) 30 _) 31 _) 32 _) 33 _) 34 _) 35 _) (by kernel_rfl) (fun s hs => ovr_off [(20, _), (21, _), (22, _), (23, _), (24, _), (25, _), (26, _), (27, _), (28, _), (29, _), (30, _), (31, _), (32, _), (33, _), (34, _), (35, _)] _ s hs) ⟨(qa rfl (fun _ => (do_move (tm rfl (nx rfl (nx rfl (nx rfl (nx rfl (nx rfl (nx rfl (nx rfl (nx rfl (nx rfl (nx rfl (nx rfl (nx rfl (nx rfl (nx rfl (nx rfl (nx rfl c8_9))))))))))))))))))) (nx rfl (nx rfl (nx rfl (nx rfl (nx rfl (nx rfl (nx rfl (nx rfl (nx rfl (nx rfl (nx rfl (nx rfl (nx rfl (nx rfl (nx rfl hit)))))))))))))))), (qa rfl (fun _ => (do_move (tm rfl (nx rfl (nx rfl (nx rfl (nx rfl (nx rfl (nx rfl (nx rfl (nx rfl (nx rfl (nx rfl (nx rfl (nx rfl (nx rfl (nx rfl (nx rfl (nx rfl c8_10))))))))))))))))))) (nx rfl (nx rfl (nx rfl (nx rfl (nx rfl (nx rfl (nx rfl (nx rfl (nx rfl (nx rfl (nx rfl (nx rfl (nx rfl (nx rfl hit))))))))))))))), (qa rfl (fun _ => (do_move (tm rfl (nx rfl (nx rfl (nx rfl (nx rfl (nx rfl (nx rfl (nx rfl (nx rfl (nx rfl (nx rfl (nx rfl (nx rfl (nx rfl (nx rfl (nx rfl (nx rfl c8_1))))))))))))))))))) (nx rfl (nx rfl (nx rfl (nx rfl (nx rfl (nx rfl (nx rfl (nx rfl (nx rfl (nx rfl (nx rfl (nx rfl (nx rfl hit)))))))))))))), (qa rfl (fun _ => (do_move (tm rfl (nx rfl (nx rfl (nx rfl (nx rfl (nx rfl (nx rfl (nx rfl (nx rfl (nx rfl (nx rfl (nx rfl (nx rfl (nx rfl (nx rfl (nx rfl (nx rfl c8_10))))))))))))))))))) (nx rfl (nx rfl (nx rfl (nx rfl (nx rfl (nx rfl (nx rfl (nx rfl (nx rfl (nx rfl (nx rfl (nx rfl hit))))))))))))), (qa rfl (fun _ => (io23 (tm rfl (nx rfl (nx rfl (nx rfl (nx rfl (nx rfl (nx rfl (nx rfl (nx rfl (nx rfl (nx rfl (nx rfl (nx rfl (nx rfl hit)))))))))))))) (tm rfl (nx rfl (nx rfl (nx rfl (nx rfl (nx rfl (nx rfl (nx rfl (nx rfl (nx rfl (nx rfl (nx rfl (nx rfl hit))))))))))))) (by omega))) (nx rfl (nx rfl (nx rfl (nx rfl (nx rfl (nx rfl (nx rfl (nx rfl (nx rfl (nx rfl (nx rfl hit)))))))))))), (qk rfl (do_load T5 rfl (tm rfl (nx rfl (nx rfl (nx rfl (nx rfl (nx rfl (nx rfl (nx rfl (nx rfl (nx rfl (nx rfl (nx rfl hit)))))))))))) hc1) (nx rfl (nx rfl (nx rfl (nx rfl (nx rfl (nx rfl (nx rfl (nx rfl (nx rfl (nx rfl hit))))))))))), (qa rfl (fun _ => (do_move (tm rfl (nx rfl (nx rfl (nx rfl (nx rfl (nx rfl (nx rfl (nx rfl (nx rfl (nx rfl (nx rfl (nx rfl (nx rfl (nx rfl (nx rfl (nx rfl (nx rfl c8_2))))))))))))))))))) (nx rfl (nx rfl (nx rfl (nx rfl (nx rfl (nx rfl (nx rfl (nx rfl (nx rfl hit)))))))))), (qa rfl (fun _ => (do_move (tm rfl (nx rfl (nx rfl (nx rfl (nx rfl (nx rfl (nx rfl (nx rfl (nx rfl (nx rfl (nx rfl (nx rfl (nx rfl (nx rfl (nx rfl (nx rfl (nx rfl c8_10))))))))))))))))))) (nx rfl (nx rfl (nx rfl (nx rfl (nx rfl (nx rfl (nx rfl (nx rfl hit))))))))), (qa rfl (fun _ => (io32 (tm rfl (nx rfl (nx rfl (nx rfl (nx rfl (nx rfl (nx rfl (nx rfl (nx rfl (nx rfl hit)))))))))) (tm rfl (nx rfl (nx rfl (nx rfl (nx rfl (nx rfl (nx rfl (nx rfl (nx rfl hit))))))))) (by omega))) (nx rfl (nx rfl (nx rfl (nx rfl (nx rfl (nx rfl (nx rfl hit)))))))), (qk rfl (do_load T2 rfl (tm rfl (nx rfl (nx rfl (nx rfl (nx rfl (nx rfl (nx rfl (nx rfl hit)))))))) hc2) (nx rfl (nx rfl (nx rfl (nx rfl (nx rfl (nx rfl hit))))))), (qa rfl (fun _ => (do_move (tm rfl (nx rfl (nx rfl (nx rfl (nx rfl (nx rfl (nx rfl (nx rfl (nx rfl (nx rfl (nx rfl (nx rfl (nx rfl (nx rfl (nx rfl (nx rfl (nx rfl c8_3))))))))))))))))))) (nx rfl (nx rfl (nx rfl (nx rfl (nx rfl hit)))))), (qa rfl (fun _ => (do_move (tm rfl (nx rfl (nx rfl (nx rfl (nx rfl (nx rfl (nx rfl (nx rfl (nx rfl (nx rfl (nx rfl (nx rfl (nx rfl (nx rfl (nx rfl (nx rfl (nx rfl c8_10))))))))))))))))))) (nx rfl (nx rfl (nx rfl (nx rfl hit))))), (qa rfl (fun _ => (io30 (tm rfl (nx rfl (nx rfl (nx rfl (nx rfl (nx rfl hit)))))) (tm rfl (nx rfl (nx rfl (nx rfl (nx rfl hit))))) (by omega))) (nx rfl (nx rfl (nx rfl hit)))), (qk rfl (do_load T9 rfl (tm rfl (nx rfl (nx rfl (nx rfl hit)))) hc3) (nx rfl (nx rfl hit))), (qa rfl (fun _ => (do_build52 (tm rfl (nx rfl (nx rfl (nx rfl (nx rfl (nx rfl (nx rfl (nx rfl (nx rfl (nx rfl (nx rfl hit))))))))))) (tm rfl (nx rfl (nx rfl (nx rfl (nx rfl (nx rfl (nx rfl hit))))))) (tm rfl (nx rfl (nx rfl hit))))) (nx rfl hit)), (qa rfl (fun _ => (ix49 (tm rfl (nx rfl (nx rfl (nx rfl (nx rfl (nx rfl (nx rfl (nx rfl (nx rfl (nx rfl (nx rfl (nx rfl (nx rfl (nx rfl (nx rfl (nx rfl hit)))))))))))))))) (tm rfl (nx rfl (nx rfl (nx rfl (nx rfl (nx rfl (nx rfl (nx rfl (nx rfl (nx rfl (nx rfl (nx rfl (nx rfl (nx rfl (nx rfl hit))))))))))))))) (by omega))) hit), (en rfl (hst _ _ _ _ _ _ (tm rfl hit) (tm rfl (nx rfl hit)))), trivial⟩ rfl ?_
      intro τ10 e10
      have c10_0 := (congrFun e10 0).trans (nx rfl (nx rfl (nx rfl (nx rfl (nx rfl (nx rfl (nx rfl (nx rfl (nx rfl (nx rfl (nx rfl (nx rfl (nx rfl (nx rfl (nx rfl (nx rfl c8_0))))))))))))))))
      have c10_1 := (congrFun e10 1).trans (nx rfl (nx rfl (nx rfl (nx rfl (nx rfl (nx rfl (nx rfl (nx rfl (nx rfl (nx rfl (nx rfl (nx rfl (nx rfl (nx rfl (nx rfl (nx rfl c8_1))))))))))))))))
      have c10_2 := (congrFun e10 2).trans (nx rfl (nx rfl (nx rfl (nx rfl (nx rfl (nx rfl (nx rfl (nx rfl (nx rfl (nx rfl (nx rfl (nx rfl (nx rfl (nx rfl (nx rfl (nx rfl c8_2))))))))))))))))
      have c10_3 := (congrFun e10 3).trans (nx rfl (nx rfl (nx rfl (nx rfl (nx rfl (nx rfl (nx rfl (nx rfl (nx rfl (nx rfl (nx rfl (nx rfl (nx rfl (nx rfl (nx rfl (nx rfl c8_3))))))))))))))))
      have c10_9 := (congrFun e10 9).trans (nx rfl (nx rfl (nx rfl (nx rfl (nx rfl (nx rfl (nx rfl (nx rfl (nx rfl (nx rfl (nx rfl (nx rfl (nx rfl (nx rfl (nx rfl (nx rfl c8_9))))))))))))))))
      have c10_10 := (congrFun e10 10).trans (nx rfl (nx rfl (nx rfl (nx rfl (nx rfl (nx rfl (nx rfl (nx rfl (nx rfl (nx rfl (nx rfl (nx rfl (nx rfl (nx rfl (nx rfl (nx rfl c8_10))))))))))))))))
      clear e10
      refine inBN ?_
      refine hK9 _ _ ?_
      clear hK9
      refine reg ?_
      refine sq rfl (do_move (tm rfl c10_10)) ?_
      refine sq rfl (do_inc (tm rfl hit) ck (by omega)) ?_
      refine sq rfl (do_assign (tm rfl hit)) ?_
      refine wnil ?_
      have hB4 : Blk w4 w.heap.size 52 (((cs.set (i * 3) (.int .u8 ks[i])).set (i * 3 + 1) (.int .i64 zs[i])).set (i * 3 + 2) (.string ss[i])) := by
        rw [hw4]; exact ((hBd.set _ _).set _ _).set _ _
      have hbel4 : Below w.heap.size w w4 := by
        rw [hw4]
        exact ((hbel.drew.setCell (Nat.le_refl _) _).setCell (Nat.le_refl _) _).setCell (Nat.le_refl _) _
      refine hnn (ks.length - (i + 1)) _ _ (by omega) ⟨i + 1, _, rfl, by omega, (nx rfl (nx rfl (nx rfl c10_0))), (nx rfl (nx rfl (nx rfl c10_1))), (nx rfl (nx rfl (nx rfl c10_2))), (nx rfl (nx rfl (nx rfl c10_3))), (nx rfl (nx rfl (nx rfl c10_9))), hit, hB4, by simp [hcl], ?_, hbel4⟩
      intro j hj hj'
      rcases Nat.lt_or_ge j i with hji | hji
      · obtain ⟨e4, e5, e6⟩ := hcc j hj hji
        refine ⟨?_, ?_, ?_⟩
        · rw [List.getElem?_set_ne (by omega), List.getElem?_set_ne (by omega), List.getElem?_set_ne (by omega)]; exact e4
        · rw [List.getElem?_set_ne (by omega), List.getElem?_set_ne (by omega), List.getElem?_set_ne (by omega)]; exact e5
        · rw [List.getElem?_set_ne (by omega), List.getElem?_set_ne (by omega), List.getElem?_set_ne (by omega)]; exact e6
      · obtain rfl : j = i := by omega
        refine ⟨?_, ?_, ?_⟩
        · rw [List.getElem?_set_ne (by omega), List.getElem?_set_ne (by omega), List.getElem?_set_self (by omega)]
        · rw [List.getElem?_set_ne (by omega), List.getElem?_set_self (by simp; omega)]
        · rw [List.getElem?_set_self (by simp; omega)]
    · refine cF rfl c8_17 (by simpa using h) ?_
      refine wp_exit ?_
      refine thenE ?_
      obtain rfl : i = ks.length := by omega
      exact hx _ _ ⟨cs, c8_0, c8_9, hB, fun j hj => hcc j hj hj, hbel⟩
  clear s0 s1 s2 s3
  rintro τ wi ⟨cs, t0, t9, hB, hcc, hbel⟩
  refine hK4 _ _ ?_
  clear hK4
  refine wp_seq_k (fun K11 hK11 => ?_)
  refine reg ?_
  refine sq rfl (do_move (tm rfl t0)) ?_
  refine sq rfl (do_move (tm rfl (nx rfl t9))) ?_
  have hfc : FldCells cs (flds ks zs ss) := by
    intro j hj
    have hj' : j < ks.length := by omega
    have e := flds_get ks zs ss h1 h2 j hj'
    rw [List.getElem?_eq_getElem hj] at e
    injection e with e
    obtain ⟨e1, e2, e3⟩ := hcc j hj'
    rw [e]
    refine ⟨?_, e2, e3⟩
    rw [e1]
    rcases hk ks[j] (List.getElem_mem _) with q | q <;> (rw [q]; rfl)
  have hsz : ∀ f ∈ flds ks zs ss, f.2.2.size ≤ 1048576 := by
    intro f hf
    obtain ⟨j, hj, rfl⟩ := List.mem_iff_getElem.1 hf
    have e := flds_get ks zs ss h1 h2 j (by omega)
    rw [List.getElem?_eq_getElem hj] at e
    injection e with e
    rw [e]
    exact l3 _ (List.getElem_mem _)
  have hcall := makeRow30 wi key w.heap.size ks.length cs (flds ks zs ss) hB hfc l0 (by omega) hsz
  rw [hfl] at hcall
  refine sqc (R := fun v w' => v = .string ⟨(rowOf key (flds ks zs ss)).toArray⟩ ∧ Below w.heap.size w w') rfl
    (run_callF Try.func30 nm30 bd30 (map2 (tm rfl (nx rfl hit)) (tm rfl hit)) rfl) (hcall.mono ?_) ?_
  · rintro e w' ⟨rfl, h1⟩
    exact ⟨_, rfl, rfl, hbel.trans (h1.mono hbel.size)⟩
  rintro v w' ⟨rfl, hb⟩
  refine sq rfl (do_assign (tm rfl hit)) ?_
  refine cutL ?_
  intro τ12 e12
  have c12_0 := (congrFun e12 0).trans (nx rfl (nx rfl (nx rfl (nx rfl t0))))
  have c12_8 := (congrFun e12 8).trans hit
  have c12_9 := (congrFun e12 9).trans (nx rfl (nx rfl (nx rfl (nx rfl t9))))
  clear e12
  refine wnil ?_
  refine hK11 _ _ ?_
  clear hK11
  refine wp_ret ?_
  rw [← hQ]
  exact ret1 rfl rfl c12_8 ⟨rfl, hb⟩

theorem nm22 : (Try.f22.name == "runtime.NumGoroutine") = false := by kernel_rfl
theorem bd22 : Try.f22.body.isNone = false := by kernel_rfl
theorem nm23 : (Try.f23.name == "runtime.NumGoroutine") = false := by kernel_rfl
theorem bd23 : Try.f23.body.isNone = false := by kernel_rfl
theorem nm24 : (Try.f24.name == "runtime.NumGoroutine") = false := by kernel_rfl
theorem bd24 : Try.f24.body.isNone = false := by kernel_rfl
theorem nm25 : (Try.f25.name == "runtime.NumGoroutine") = false := by kernel_rfl
theorem bd25 : Try.f25.body.isNone = false := by kernel_rfl
theorem nm26 : (Try.f26.name == "runtime.NumGoroutine") = false := by kernel_rfl
theorem bd26 : Try.f26.body.isNone = false := by kernel_rfl

theorem walk7 (w : World) (key : ByteArray) (vk vn vs : Value) (ks zs : List Int) (ss : List ByteArray) (hK : U8S w vk ks) (hN : I64S w vn zs) (hS : StrS w vs ss) (hz : ∀ z ∈ zs, -9223372036854775808 ≤ z ∧ z < 9223372036854775808) :
    Calls Try.prog 7 #[.string key, vk, vn, vs] w fun e w' => e = .returned (.bool true) ∧ Below w.heap.size w w' := by
  refine enter (args := [.string key, vk, vn, vs]) Try.func7 rfl Try.ntmps7 rfl ?_
  generalize hQ : bodyPost Try.prog Try.f7 _ = Q
  have hF : ∀ τ w', τ 8 = .bool true → Below w.heap.size w w' → Q .ret (Fr 68 τ) w' := by
    intro τ w' h hb
    rw [← hQ]
    exact ret1 rfl rfl h ⟨rfl, hb⟩
  clear hQ
  have s0 : frame0 [Value.string key, vk, vn, vs] 0 = .string key := rfl
  have s1 : frame0 [Value.string key, vk, vn, vs] 1 = vk := rfl
  have s2 : frame0 [Value.string key, vk, vn, vs] 2 = vn := rfl
  have s3 : frame0 [Value.string key, vk, vn, vs] 3 = vs := rfl
  generalize frame0 [Value.string key, vk, vn, vs] = σ at *
  refine wp_seq_k (fun K13 hK13 => ?_)
  refine reg ?_
  refine sq rfl (do_assign ck) ?_
  refine wnil ?_
  refine hK13 _ _ ?_
  clear hK13
  refine wp_seq_k (fun K14 hK14 => ?_)
  refine wp_seq_k (fun K15 hK15 => ?_)
  refine reg ?_
  refine sq rfl (do_move (tm rfl (nx rfl s0))) ?_
  refine sq rfl (do_move (tm rfl (nx rfl (nx rfl s1)))) ?_
  refine sq rfl (do_move (tm rfl (nx rfl (nx rfl (nx rfl s2))))) ?_
  refine sq rfl (do_move (tm rfl (nx rfl (nx rfl (nx rfl (nx rfl s3)))))) ?_
  refine sqc (R := fun v w' => ∃ b, v = .bool b ∧ w = w' ∧ (b = true → key.size ≤ 1048576 ∧ ks.length ≤ 1048576 ∧ zs.length ≤ 1048576 ∧ ss.length ≤ 1048576 ∧ ∀ s ∈ ss, s.size ≤ 1048576)) rfl
    (run_callF Try.func22 nm22 bd22 (map4 (tm rfl (nx rfl (nx rfl (nx rfl hit)))) (tm rfl (nx rfl (nx rfl hit))) (tm rfl (nx rfl hit)) (tm rfl hit)) rfl) ((bytes22 w key _ _ _ ks zs ss hK hN hS).mono ?_) ?_
  · rintro e w' ⟨b, rfl, rfl, hb⟩
    exact ⟨_, rfl, b, rfl, rfl, hb⟩
  rintro v _ ⟨b, rfl, rfl, hb⟩
  refine sq rfl (do_not (tm rfl hit)) ?_
  refine cutL ?_
  intro τ16 e16
  have c16_0 := (congrFun e16 0).trans (nx rfl (nx rfl (nx rfl (nx rfl (nx rfl (nx rfl (nx rfl s0)))))))
  have c16_1 := (congrFun e16 1).trans (nx rfl (nx rfl (nx rfl (nx rfl (nx rfl (nx rfl (nx rfl s1)))))))
  have c16_2 := (congrFun e16 2).trans (nx rfl (nx rfl (nx rfl (nx rfl (nx rfl (nx rfl (nx rfl s2)))))))
  have c16_3 := (congrFun e16 3).trans (nx rfl (nx rfl (nx rfl (nx rfl (nx rfl (nx rfl (nx rfl s3)))))))
  have c16_8 := (congrFun e16 8).trans (nx rfl (nx rfl (nx rfl (nx rfl (nx rfl (nx rfl hit))))))
  have c16_18 := (congrFun e16 18).trans hit
  clear e16
  refine wnil ?_
  refine hK15 _ _ ?_
  clear hK15
  refine cB rfl c16_18 (fun h1 => ?_) (fun h1 => ?_)
  · refine wp_seq_k (fun K17 hK17 => ?_)
    refine reg ?_
    refine sq rfl (do_assign ck) ?_
    refine wnil ?_
    refine hK17 _ _ ?_
    clear hK17
    refine wp_ret ?_
    refine thenR ?_
    exact hF _ _ hit (Below.refl _ _)
  refine wp_skip ?_
  refine hK14 _ _ ?_
  clear hK14
  have hb' : b = true := by simpa using h1
  obtain ⟨l0, l1, l2, l3, l4⟩ := hb hb'
  clear hb h1 hb'
  refine wp_seq_k (fun K18 hK18 => ?_)
  refine wp_seq_k (fun K19 hK19 => ?_)
  refine reg ?_
  refine sq rfl (do_move (tm rfl c16_0)) ?_
  refine sq rfl (do_move (tm rfl (nx rfl c16_1))) ?_
  refine sq rfl (do_move (tm rfl (nx rfl (nx rfl c16_2)))) ?_
  refine sq rfl (do_move (tm rfl (nx rfl (nx rfl (nx rfl c16_3))))) ?_
  refine sqc (R := fun v w' => ∃ b, v = .bool b ∧ w = w') rfl
    (run_callF Try.func23 nm23 bd23 (map4 (tm rfl (nx rfl (nx rfl (nx rfl hit)))) (tm rfl (nx rfl (nx rfl hit))) (tm rfl (nx rfl hit)) (tm rfl hit)) rfl) ((inBounds23 w key _ _ _ ks zs ss hK hN hS l0 l1 l2 l3).mono ?_) ?_
  · rintro e w' ⟨b, rfl, rfl⟩
    exact ⟨_, rfl, b, rfl, rfl⟩
  rintro v _ ⟨b', rfl, rfl⟩
  refine sq rfl (do_not (tm rfl hit)) ?_
  refine cutL ?_
  intro τ20 e20
  have c20_0 := (congrFun e20 0).trans (nx rfl (nx rfl (nx rfl (nx rfl (nx rfl (nx rfl c16_0))))))
  have c20_1 := (congrFun e20 1).trans (nx rfl (nx rfl (nx rfl (nx rfl (nx rfl (nx rfl c16_1))))))
  have c20_2 := (congrFun e20 2).trans (nx rfl (nx rfl (nx rfl (nx rfl (nx rfl (nx rfl c16_2))))))
  have c20_3 := (congrFun e20 3).trans (nx rfl (nx rfl (nx rfl (nx rfl (nx rfl (nx rfl c16_3))))))
  have c20_8 := (congrFun e20 8).trans (nx rfl (nx rfl (nx rfl (nx rfl (nx rfl (nx rfl c16_8))))))
  have c20_24 := (congrFun e20 24).trans hit
  clear e20
  refine wnil ?_
  refine hK19 _ _ ?_
  clear hK19
  refine cB rfl c20_24 (fun h1 => ?_) (fun h1 => ?_)
  · refine wp_seq_k (fun K21 hK21 => ?_)
    refine reg ?_
    refine sq rfl (do_assign ck) ?_
    refine wnil ?_
    refine hK21 _ _ ?_
    clear hK21
    refine wp_ret ?_
    refine thenR ?_
    exact hF _ _ hit (Below.refl _ _)
  refine wp_skip ?_
  refine hK18 _ _ ?_
  clear hK18
  clear h1
  refine wp_seq_k (fun K22 hK22 => ?_)
  refine wp_seq_k (fun K23 hK23 => ?_)
  refine reg ?_
  refine sq rfl (do_move (tm rfl c20_1)) ?_
  refine sq rfl (do_move (tm rfl (nx rfl c20_2))) ?_
  refine sq rfl (do_move (tm rfl (nx rfl (nx rfl c20_3)))) ?_
  refine sqc (R := fun v w' => ∃ b, v = .bool b ∧ w = w' ∧ (b = true → zs.length = ks.length ∧ ss.length = ks.length ∧ ∀ k ∈ ks, k = 1 ∨ k = 2)) rfl
    (run_callF Try.func24 nm24 bd24 (map3 (tm rfl (nx rfl (nx rfl hit))) (tm rfl (nx rfl hit)) (tm rfl hit)) rfl) ((rowFields24 w _ _ _ ks zs ss hK hN hS l1).mono ?_) ?_
  · rintro e w' ⟨b, rfl, rfl, hb⟩
    exact ⟨_, rfl, b, rfl, rfl, hb⟩
  rintro v _ ⟨b2, rfl, rfl, hb⟩
  refine sq rfl (do_not (tm rfl hit)) ?_
  refine cutL ?_
  intro τ24 e24
  have c24_0 := (congrFun e24 0).trans (nx rfl (nx rfl (nx rfl (nx rfl (nx rfl c20_0)))))
  have c24_1 := (congrFun e24 1).trans (nx rfl (nx rfl (nx rfl (nx rfl (nx rfl c20_1)))))
  have c24_2 := (congrFun e24 2).trans (nx rfl (nx rfl (nx rfl (nx rfl (nx rfl c20_2)))))
  have c24_3 := (congrFun e24 3).trans (nx rfl (nx rfl (nx rfl (nx rfl (nx rfl c20_3)))))
  have c24_8 := (congrFun e24 8).trans (nx rfl (nx rfl (nx rfl (nx rfl (nx rfl c20_8)))))
  have c24_29 := (congrFun e24 29).trans hit
  clear e24
  refine wnil ?_
  refine hK23 _ _ ?_
  clear hK23
  refine cB rfl c24_29 (fun h1 => ?_) (fun h1 => ?_)
  · refine wp_seq_k (fun K25 hK25 => ?_)
    refine reg ?_
    refine sq rfl (do_assign ck) ?_
    refine wnil ?_
    refine hK25 _ _ ?_
    clear hK25
    refine wp_ret ?_
    refine thenR ?_
    exact hF _ _ hit (Below.refl _ _)
  refine wp_skip ?_
  refine hK22 _ _ ?_
  clear hK22
  have hb' : b2 = true := by simpa using h1
  obtain ⟨hzl, hsl, hks⟩ := hb hb'
  clear hb h1 hb'
  refine seqJ (fun τ w' => ∃ v, τ 0 = .string key ∧ τ 1 = v ∧ τ 2 = vn ∧ τ 3 = vs ∧ U8S w' v ks ∧ Below w.heap.size w w') ?_ ?_
  · intro Q' hQn _
    obtain ⟨a1, c1, rfl, hKc⟩ := id hK
    refine wp_seq_k (fun K26 hK26 => ?_)
    refine reg ?_
    refine sq rfl (do_move (tm rfl c24_1)) ?_
    refine sq rfl (do_nnilS Try.underlying23 (tm rfl hit) ck) ?_
    refine wnil ?_
    refine hK26 _ _ ?_
    clear hK26
    cases a1 with
    | none =>
      refine cF rfl hit rfl ?_
      refine wp_skip ?_
      exact hQn _ _ ⟨_, (nx rfl (nx rfl c24_0)), (nx rfl (nx rfl c24_1)), (nx rfl (nx rfl c24_2)), (nx rfl (nx rfl c24_3)), hK, Below.refl _ _⟩
    | some q =>
      refine cT rfl hit rfl ?_
      refine wp_seq_k (fun K27 hK27 => ?_)
      refine reg ?_
      refine sq rfl (do_move (tm rfl (nx rfl (nx rfl c24_1)))) ?_
      refine sq rfl (do_len Try.underlying23 (tm rfl hit)) ?_
      refine sq rfl (mk23 (tm rfl hit) (tm rfl hit) l1) ?_
      refine sq rfl (do_assign (tm rfl hit)) ?_
      refine cutW ?_
      intro τ28 e28 w2 hw2
      have c28_0 := (congrFun e28 0).trans (nx rfl (nx rfl (nx rfl (nx rfl (nx rfl (nx rfl c24_0))))))
      have c28_1 := (congrFun e28 1).trans (nx rfl (nx rfl (nx rfl (nx rfl (nx rfl (nx rfl c24_1))))))
      have c28_2 := (congrFun e28 2).trans (nx rfl (nx rfl (nx rfl (nx rfl (nx rfl (nx rfl c24_2))))))
      have c28_3 := (congrFun e28 3).trans (nx rfl (nx rfl (nx rfl (nx rfl (nx rfl (nx rfl c24_3))))))
      have c28_8 := (congrFun e28 8).trans (nx rfl (nx rfl (nx rfl (nx rfl (nx rfl (nx rfl c24_8))))))
      have c28_9 := (congrFun e28 9).trans hit
      clear e28
      refine wnil ?_
      refine hK27 _ _ ?_
      clear hK27
      have hB2 : Blk w2 w.heap.size 5 (List.replicate ks.length (.int .u8 0)) := by
        have := Blk.new w (madeCells #[.int .u8 0] ks.length) 5
        rw [made_list] at this
        rw [hw2]; exact this
      have hbel2 : Below w.heap.size w w2 := by rw [hw2]; exact (Below.refl _ _).alloc (Nat.le_refl _) _
      clear hw2
      have hsrc : ∀ (j : Nat) (v : Value), (ks.map (Value.int .u8))[j]? = some v → w2.cell? (q.add j) = some v := by
        intro j v hv
        rw [List.getElem?_map] at hv
        rcases Nat.lt_or_ge j ks.length with hj | hj
        · rw [List.getElem?_eq_getElem hj] at hv
          cases hv
          obtain ⟨b, o, e, hc⟩ := hKc j hj
          cases e
          rw [add_plain, hbel2.cell (World.block_lt_of_cell? w _ hc), hc]
        · rw [List.getElem?_eq_none hj] at hv
          cases hv
      refine wp_seq_k (fun K29 hK29 => ?_)
      refine reg ?_
      refine sq rfl (do_move (tm rfl c28_9)) ?_
      refine sq rfl (do_move (tm rfl (nx rfl c28_1))) ?_
      refine sq rfl (do_copyNew Try.underlying23 T5 hB2 (tm rfl (nx rfl hit)) (tm rfl hit) (List.length_map _) hsrc (by intro v hv; simp at hv; obtain ⟨z, _, rfl⟩ := hv; rfl)) ?_
      refine cutW ?_
      intro τ30 e30 w3 hw3
      have c30_0 := (congrFun e30 0).trans (nx rfl (nx rfl (nx rfl c28_0)))
      have c30_1 := (congrFun e30 1).trans (nx rfl (nx rfl (nx rfl c28_1)))
      have c30_2 := (congrFun e30 2).trans (nx rfl (nx rfl (nx rfl c28_2)))
      have c30_3 := (congrFun e30 3).trans (nx rfl (nx rfl (nx rfl c28_3)))
      have c30_8 := (congrFun e30 8).trans (nx rfl (nx rfl (nx rfl c28_8)))
      have c30_9 := (congrFun e30 9).trans (nx rfl (nx rfl (nx rfl c28_9)))
      clear e30
      refine wnil ?_
      refine hK29 _ _ ?_
      clear hK29
      refine reg ?_
      refine sq rfl (do_move (tm rfl c30_9)) ?_
      refine sq rfl (do_assign (tm rfl hit)) ?_
      refine wnil ?_
      have hB3 : Blk w3 w.heap.size 5 (ks.map (Value.int .u8)) := by rw [hw3]; exact copied_blk hB2 (List.length_map _)
      have hbel3 : Below w.heap.size w w3 := by rw [hw3]; exact Below_setCells (Nat.le_refl _) _ _ _ hbel2
      refine hQn _ _ ⟨_, (nx rfl (nx rfl c30_0)), hit, (nx rfl (nx rfl c30_2)), (nx rfl (nx rfl c30_3)), ⟨some ⟨w.heap.size, 0, none⟩, ks.length, rfl, fun i hi => ⟨_, _, rfl, ?_⟩⟩, hbel3⟩
      rw [Nat.zero_add]
      exact hB3.cell (by simp [hi])
  clear s0 s1 s2 s3
  rintro τ w1 ⟨vk', t0, t1, t2, t3, hK1, hbel1⟩
  have hN1 := hN.belowR hbel1
  have hS1 := hS.belowR hbel1
  refine seqJ (fun τ w' => ∃ v, τ 0 = .string key ∧ τ 1 = vk' ∧ τ 2 = v ∧ τ 3 = vs ∧ I64S w' v zs ∧ Below w1.heap.size w1 w') ?_ ?_
  · intro Q' hQn _
    obtain ⟨a1, c1, rfl, hKc⟩ := id hN1
    refine wp_seq_k (fun K31 hK31 => ?_)
    refine reg ?_
    refine sq rfl (do_move (tm rfl t2)) ?_
    refine sq rfl (do_nnilS Try.underlying32 (tm rfl hit) ck) ?_
    refine wnil ?_
    refine hK31 _ _ ?_
    clear hK31
    cases a1 with
    | none =>
      refine cF rfl hit rfl ?_
      refine wp_skip ?_
      exact hQn _ _ ⟨_, (nx rfl (nx rfl t0)), (nx rfl (nx rfl t1)), (nx rfl (nx rfl t2)), (nx rfl (nx rfl t3)), hN1, Below.refl _ _⟩
    | some q =>
      refine cT rfl hit rfl ?_
      refine wp_seq_k (fun K32 hK32 => ?_)
      refine reg ?_
      refine sq rfl (do_move (tm rfl (nx rfl (nx rfl t2)))) ?_
      refine sq rfl (do_len Try.underlying32 (tm rfl hit)) ?_
      refine sq rfl (mk32 (tm rfl hit) (tm rfl hit) l2) ?_
      refine sq rfl (do_assign (tm rfl hit)) ?_
      refine cutW ?_
      intro τ33 e33 w2 hw2
      have c33_0 := (congrFun e33 0).trans (nx rfl (nx rfl (nx rfl (nx rfl (nx rfl (nx rfl t0))))))
      have c33_1 := (congrFun e33 1).trans (nx rfl (nx rfl (nx rfl (nx rfl (nx rfl (nx rfl t1))))))
      have c33_2 := (congrFun e33 2).trans (nx rfl (nx rfl (nx rfl (nx rfl (nx rfl (nx rfl t2))))))
      have c33_3 := (congrFun e33 3).trans (nx rfl (nx rfl (nx rfl (nx rfl (nx rfl (nx rfl t3))))))
      have c33_10 := (congrFun e33 10).trans hit
      clear e33
      refine wnil ?_
      refine hK32 _ _ ?_
      clear hK32
      have hB2 : Blk w2 w1.heap.size 2 (List.replicate zs.length (.int .i64 0)) := by
        have := Blk.new w1 (madeCells #[.int .i64 0] zs.length) 2
        rw [made_list] at this
        rw [hw2]; exact this
      have hbel2 : Below w1.heap.size w1 w2 := by rw [hw2]; exact (Below.refl _ _).alloc (Nat.le_refl _) _
      clear hw2
      have hsrc : ∀ (j : Nat) (v : Value), (zs.map (Value.int .i64))[j]? = some v → w2.cell? (q.add j) = some v := by
        intro j v hv
        rw [List.getElem?_map] at hv
        rcases Nat.lt_or_ge j zs.length with hj | hj
        · rw [List.getElem?_eq_getElem hj] at hv
          cases hv
          obtain ⟨b, o, e, hc⟩ := hKc j hj
          cases e
          rw [add_plain, hbel2.cell (World.block_lt_of_cell? w1 _ hc), hc]
        · rw [List.getElem?_eq_none hj] at hv
          cases hv
      refine wp_seq_k (fun K34 hK34 => ?_)
      refine reg ?_
      refine sq rfl (do_move (tm rfl c33_10)) ?_
      refine sq rfl (do_move (tm rfl (nx rfl c33_2))) ?_
      refine sq rfl (do_copyNew Try.underlying32 T2 hB2 (tm rfl (nx rfl hit)) (tm rfl hit) (List.length_map _) hsrc (by intro v hv; simp at hv; obtain ⟨z, _, rfl⟩ := hv; rfl)) ?_
      refine cutW ?_
      intro τ35 e35 w3 hw3
      have c35_0 := (congrFun e35 0).trans (nx rfl (nx rfl (nx rfl c33_0)))
      have c35_1 := (congrFun e35 1).trans (nx rfl (nx rfl (nx rfl c33_1)))
      have c35_2 := (congrFun e35 2).trans (nx rfl (nx rfl (nx rfl c33_2)))
      have c35_3 := (congrFun e35 3).trans (nx rfl (nx rfl (nx rfl c33_3)))
      have c35_10 := (congrFun e35 10).trans (nx rfl (nx rfl (nx rfl c33_10)))
      clear e35
      refine wnil ?_
      refine hK34 _ _ ?_
      clear hK34
      refine reg ?_
      refine sq rfl (do_move (tm rfl c35_10)) ?_
      refine sq rfl (do_assign (tm rfl hit)) ?_
      refine wnil ?_
      have hB3 : Blk w3 w1.heap.size 2 (zs.map (Value.int .i64)) := by rw [hw3]; exact copied_blk hB2 (List.length_map _)
      have hbel3 : Below w1.heap.size w1 w3 := by rw [hw3]; exact Below_setCells (Nat.le_refl _) _ _ _ hbel2
      refine hQn _ _ ⟨_, (nx rfl (nx rfl c35_0)), (nx rfl (nx rfl c35_1)), hit, (nx rfl (nx rfl c35_3)), ⟨some ⟨w1.heap.size, 0, none⟩, zs.length, rfl, fun i hi => ⟨_, _, rfl, ?_⟩⟩, hbel3⟩
      rw [Nat.zero_add]
      exact hB3.cell (by simp [hi])
  clear t0 t1 t2 t3
  rintro τ w2 ⟨vn', t0, t1, t2, t3, hN2, hbel2⟩
  have hK2 := hK1.below hbel2
  have hS2 := hS1.belowR hbel2
  refine seqJ (fun τ w' => ∃ v, τ 0 = .string key ∧ τ 1 = vk' ∧ τ 2 = vn' ∧ τ 3 = v ∧ StrS w' v ss ∧ Below w2.heap.size w2 w') ?_ ?_
  · intro Q' hQn _
    obtain ⟨a1, c1, rfl, hKc⟩ := id hS2
    refine wp_seq_k (fun K36 hK36 => ?_)
    refine reg ?_
    refine sq rfl (do_move (tm rfl t3)) ?_
    refine sq rfl (do_nnilS Try.underlying30 (tm rfl hit) ck) ?_
    refine wnil ?_
    refine hK36 _ _ ?_
    clear hK36
    cases a1 with
    | none =>
      refine cF rfl hit rfl ?_
      refine wp_skip ?_
      exact hQn _ _ ⟨_, (nx rfl (nx rfl t0)), (nx rfl (nx rfl t1)), (nx rfl (nx rfl t2)), (nx rfl (nx rfl t3)), hS2, Below.refl _ _⟩
    | some q =>
      refine cT rfl hit rfl ?_
      refine wp_seq_k (fun K37 hK37 => ?_)
      refine reg ?_
      refine sq rfl (do_move (tm rfl (nx rfl (nx rfl t3)))) ?_
      refine sq rfl (do_len Try.underlying30 (tm rfl hit)) ?_
      refine sq rfl (mk30 (tm rfl hit) (tm rfl hit) l3) ?_
      refine sq rfl (do_assign (tm rfl hit)) ?_
      refine cutW ?_
      intro τ38 e38 w4 hw4
      have c38_0 := (congrFun e38 0).trans (nx rfl (nx rfl (nx rfl (nx rfl (nx rfl (nx rfl t0))))))
      have c38_1 := (congrFun e38 1).trans (nx rfl (nx rfl (nx rfl (nx rfl (nx rfl (nx rfl t1))))))
      have c38_2 := (congrFun e38 2).trans (nx rfl (nx rfl (nx rfl (nx rfl (nx rfl (nx rfl t2))))))
      have c38_3 := (congrFun e38 3).trans (nx rfl (nx rfl (nx rfl (nx rfl (nx rfl (nx rfl t3))))))
      have c38_11 := (congrFun e38 11).trans hit
      clear e38
      refine wnil ?_
      refine hK37 _ _ ?_
      clear hK37
      have hB2 : Blk w4 w2.heap.size 9 (List.replicate ss.length (.string ⟨#[]⟩)) := by
        have := Blk.new w2 (madeCells #[.string ⟨#[]⟩] ss.length) 9
        rw [made_list] at this
        rw [hw4]; exact this
      have hbel4 : Below w2.heap.size w2 w4 := by rw [hw4]; exact (Below.refl _ _).alloc (Nat.le_refl _) _
      clear hw4
      have hsrc : ∀ (j : Nat) (v : Value), (ss.map Value.string)[j]? = some v → w4.cell? (q.add j) = some v := by
        intro j v hv
        rw [List.getElem?_map] at hv
        rcases Nat.lt_or_ge j ss.length with hj | hj
        · rw [List.getElem?_eq_getElem hj] at hv
          cases hv
          obtain ⟨b, o, e, hc⟩ := hKc j hj
          cases e
          rw [add_plain, hbel4.cell (World.block_lt_of_cell? w2 _ hc), hc]
        · rw [List.getElem?_eq_none hj] at hv
          cases hv
      refine wp_seq_k (fun K39 hK39 => ?_)
      refine reg ?_
      refine sq rfl (do_move (tm rfl c38_11)) ?_
      refine sq rfl (do_move (tm rfl (nx rfl c38_3))) ?_
      refine sq rfl (do_copyNew Try.underlying30 T9 hB2 (tm rfl (nx rfl hit)) (tm rfl hit) (List.length_map _) hsrc (by intro v hv; simp at hv; obtain ⟨z, _, rfl⟩ := hv; rfl)) ?_
      refine cutW ?_
      intro τ40 e40 w3 hw3
      have c40_0 := (congrFun e40 0).trans (nx rfl (nx rfl (nx rfl c38_0)))
      have c40_1 := (congrFun e40 1).trans (nx rfl (nx rfl (nx rfl c38_1)))
      have c40_2 := (congrFun e40 2).trans (nx rfl (nx rfl (nx rfl c38_2)))
      have c40_3 := (congrFun e40 3).trans (nx rfl (nx rfl (nx rfl c38_3)))
      have c40_11 := (congrFun e40 11).trans (nx rfl (nx rfl (nx rfl c38_11)))
      clear e40
      refine wnil ?_
      refine hK39 _ _ ?_
      clear hK39
      refine reg ?_
      refine sq rfl (do_move (tm rfl c40_11)) ?_
      refine sq rfl (do_assign (tm rfl hit)) ?_
      refine wnil ?_
      have hB3 : Blk w3 w2.heap.size 9 (ss.map Value.string) := by rw [hw3]; exact copied_blk hB2 (List.length_map _)
      have hbel3 : Below w2.heap.size w2 w3 := by rw [hw3]; exact Below_setCells (Nat.le_refl _) _ _ _ hbel4
      refine hQn _ _ ⟨_, (nx rfl (nx rfl c40_0)), (nx rfl (nx rfl c40_1)), (nx rfl (nx rfl c40_2)), hit, ⟨some ⟨w2.heap.size, 0, none⟩, ss.length, rfl, fun i hi => ⟨_, _, rfl, ?_⟩⟩, hbel3⟩
      rw [Nat.zero_add]
      exact hB3.cell (by simp [hi])
  clear t0 t1 t2 t3
  rintro τ w3 ⟨vs', t0, t1, t2, t3, hS3, hbel3⟩
  have hK3 := hK2.below hbel3
  have hN3 := hN2.belowR hbel3
  refine wp_seq_k (fun K41 hK41 => ?_)
  refine reg ?_
  refine sq rfl (do_move (tm rfl t0)) ?_
  refine sq rfl (do_move (tm rfl (nx rfl t1))) ?_
  refine sq rfl (do_move (tm rfl (nx rfl (nx rfl t2)))) ?_
  refine sq rfl (do_move (tm rfl (nx rfl (nx rfl (nx rfl t3))))) ?_
  refine sqc (R := fun v w' => v = .string ⟨(rowOf key (flds ks zs ss)).toArray⟩ ∧ Below w3.heap.size w3 w') rfl
    (run_callF Try.func25 nm25 bd25 (map4 (tm rfl (nx rfl (nx rfl (nx rfl hit)))) (tm rfl (nx rfl (nx rfl hit))) (tm rfl (nx rfl hit)) (tm rfl hit)) rfl) ((zzMakeRow25 w3 key _ _ _ ks zs ss hK3 hN3 hS3 hzl hsl hks l0 l1 l4).mono ?_) ?_
  · rintro e w' ⟨rfl, h1⟩
    exact ⟨_, rfl, rfl, h1⟩
  rintro v w4 ⟨rfl, hbel4⟩
  refine sq rfl (do_assign (tm rfl hit)) ?_
  refine cutL ?_
  intro τ42 e42
  have c42_0 := (congrFun e42 0).trans (nx rfl (nx rfl (nx rfl (nx rfl (nx rfl (nx rfl t0))))))
  have c42_1 := (congrFun e42 1).trans (nx rfl (nx rfl (nx rfl (nx rfl (nx rfl (nx rfl t1))))))
  have c42_2 := (congrFun e42 2).trans (nx rfl (nx rfl (nx rfl (nx rfl (nx rfl (nx rfl t2))))))
  have c42_3 := (congrFun e42 3).trans (nx rfl (nx rfl (nx rfl (nx rfl (nx rfl (nx rfl t3))))))
  have c42_12 := (congrFun e42 12).trans hit
  clear e42
  refine wnil ?_
  refine hK41 _ _ ?_
  clear hK41
  refine wp_seq_k (fun K43 hK43 => ?_)
  refine reg ?_
  refine sq rfl (do_move (tm rfl c42_12)) ?_
  refine sq rfl (do_move (tm rfl (nx rfl c42_0))) ?_
  refine sq rfl (do_move (tm rfl (nx rfl (nx rfl c42_1)))) ?_
  refine sq rfl (do_move (tm rfl (nx rfl (nx rfl (nx rfl c42_2))))) ?_
  refine sq rfl (do_move (tm rfl (nx rfl (nx rfl (nx rfl (nx rfl c42_3)))))) ?_
  have hfl : (flds ks zs ss).length = ks.length := flds_length ks zs ss hzl hsl
  have hsz : ∀ f ∈ flds ks zs ss, f.2.2.size ≤ 1048576 := by
    intro f hf
    obtain ⟨j, hj, rfl⟩ := List.mem_iff_getElem.1 hf
    have e := flds_get ks zs ss hzl hsl j (by omega)
    rw [List.getElem?_eq_getElem hj] at e
    injection e with e
    rw [e]
    exact l4 _ (List.getElem_mem _)
  refine sqc (R := fun v w' => v = .bool true ∧ Below w4.heap.size w4 w') rfl
    (run_callF Try.func26 nm26 bd26 (map5 (tm rfl (nx rfl (nx rfl (nx rfl (nx rfl hit))))) (tm rfl (nx rfl (nx rfl (nx rfl hit)))) (tm rfl (nx rfl (nx rfl hit))) (tm rfl (nx rfl hit)) (tm rfl hit)) rfl)
    ((decodes26 w4 key _ _ _ ks zs ss (hK3.below hbel4) (hN3.belowR hbel4) (hS3.belowR hbel4) hzl hsl hks hz l0 l1 l4 _ rfl (row_le key _ l0 (by omega) hsz)).mono ?_) ?_
  · rintro e w' ⟨rfl, h1⟩
    exact ⟨_, rfl, rfl, h1⟩
  rintro v w5 ⟨rfl, hbel5⟩
  refine sq rfl (do_assign (tm rfl hit)) ?_
  refine cutL ?_
  intro τ44 e44
  have c44_0 := (congrFun e44 0).trans (nx rfl (nx rfl (nx rfl (nx rfl (nx rfl (nx rfl (nx rfl c42_0)))))))
  have c44_1 := (congrFun e44 1).trans (nx rfl (nx rfl (nx rfl (nx rfl (nx rfl (nx rfl (nx rfl c42_1)))))))
  have c44_2 := (congrFun e44 2).trans (nx rfl (nx rfl (nx rfl (nx rfl (nx rfl (nx rfl (nx rfl c42_2)))))))
  have c44_3 := (congrFun e44 3).trans (nx rfl (nx rfl (nx rfl (nx rfl (nx rfl (nx rfl (nx rfl c42_3)))))))
  have c44_8 := (congrFun e44 8).trans hit
  have c44_12 := (congrFun e44 12).trans (nx rfl (nx rfl (nx rfl (nx rfl (nx rfl (nx rfl (nx rfl c42_12)))))))
  clear e44
  refine wnil ?_
  refine hK43 _ _ ?_
  clear hK43
  refine wp_ret ?_
  have e1 := hbel1.trans (hbel2.mono hbel1.size)
  have e2 := e1.trans (hbel3.mono e1.size)
  have e3 := e2.trans (hbel4.mono e2.size)
  exact hF _ _ c44_8 (e3.trans (hbel5.mono e3.size))
end Go.Proofs.Qxb6000003a
