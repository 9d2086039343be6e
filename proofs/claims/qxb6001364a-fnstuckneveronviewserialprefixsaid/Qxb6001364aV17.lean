/-
  has, unplaced, the search.
-/
import Derived.Test.Qxb6001364aV17h
namespace Go.Proofs.Qxb6001364a
open Go.Fra Go.RowKit Pl
set_option maxRecDepth 100000
set_option linter.unusedVariables false

theorem has42 (w : World) (bw m mc v : Nat) (ws : List Nat) (z : Nat) (hB : Blk w bw 65 (u64s ws)) (hm : ws.length = m) (hz : ws[v / 64]? = some z) (hz64 : z < 2 ^ 64) (hv : v ≤ 65536) :
    Calls Try.prog 42 #[.slice (some ⟨bw, 0, none⟩) m mc, .int .i64 (v : Int)] w fun e w' => e = .returned (.bool (z.testBit (v % 64))) ∧ w' = w.drew := by
  refine enter (args := [.slice (some ⟨bw, 0, none⟩) m mc, .int .i64 (v : Int)]) Try.func42 rfl Try.ntmps42 rfl ?_
  generalize hQ : bodyPost Try.prog Try.f42 _ = Q
  have s0 : frame0 [Value.slice (some ⟨bw, 0, none⟩) m mc, .int .i64 (v : Int)] 0 = .slice (some ⟨bw, 0, none⟩) m mc := rfl
  have s1 : frame0 [Value.slice (some ⟨bw, 0, none⟩) m mc, .int .i64 (v : Int)] 1 = .int .i64 (v : Int) := rfl
  generalize frame0 [Value.slice (some ⟨bw, 0, none⟩) m mc, .int .i64 (v : Int)] = σ at *
  have hlt : v / 64 < m := by rw [← hm]; exact (List.getElem?_eq_some_iff.1 hz).1
  have hmod : v % 64 < 64 := Nat.mod_lt _ (by decide)
  have hc : w.drew.cell? ⟨bw, v / 64, none⟩ = some (.int .u64 (z : Int)) := hB.drew.cell (by simp [u64s, hz])
  refine wp_seq_k (fun K1 hK1 => ?_)
  refine reg ?_
  refine sq rfl (do_assign ck) ?_
  refine wnil ?_
  refine hK1 _ _ ?_
  clear hK1
  refine wp_seq_k (fun K2 hK2 => ?_)
  refine draw mixed [] [(0, 0), (0, 0), (0, 0), (0, 0), (0, 0), (0, 0), (0, 0), (0, 0), (0, 0), (0, 0), (0, 0)] [] (World.drew _) (upd (upd (upd (upd (upd (upd (upd (upd (upd (upd (upd _ 5 _) 6 _) 7 _) 8 _) 9 _) 10 _) 11 _) 12 _) 13 _) 14 _) 4 _) (by kernel_rfl) (fun s hs => ovr_off [(5, _), (6, _), (7, _), (8, _), (9, _), (10, _), (11, _), (12, _), (13, _), (14, _), (4, _)] _ s hs) ⟨(qa rfl (fun _ => (do_move (tm rfl (nx rfl (nx rfl (nx rfl (nx rfl (nx rfl (nx rfl (nx rfl (nx rfl (nx rfl (nx rfl (nx rfl (nx rfl s0))))))))))))))) (nx rfl (nx rfl (nx rfl (nx rfl (nx rfl (nx rfl (nx rfl (nx rfl (nx rfl (nx rfl hit))))))))))), (qa rfl (fun _ => (do_move (tm rfl (nx rfl (nx rfl (nx rfl (nx rfl (nx rfl (nx rfl (nx rfl (nx rfl (nx rfl (nx rfl (nx rfl (nx rfl s1))))))))))))))) (nx rfl (nx rfl (nx rfl (nx rfl (nx rfl (nx rfl (nx rfl (nx rfl (nx rfl hit)))))))))), (qa rfl (fun _ => (do_quo (b := 64) (tm rfl (nx rfl (nx rfl (nx rfl (nx rfl (nx rfl (nx rfl (nx rfl (nx rfl (nx rfl hit)))))))))) rfl (by decide) rfl (by omega))) (nx rfl (nx rfl (nx rfl (nx rfl (nx rfl (nx rfl (nx rfl (nx rfl hit))))))))), (qa rfl (fun _ => (do_index T69 T65 (tm rfl (nx rfl (nx rfl (nx rfl (nx rfl (nx rfl (nx rfl (nx rfl (nx rfl (nx rfl (nx rfl hit))))))))))) (tm rfl (nx rfl (nx rfl (nx rfl (nx rfl (nx rfl (nx rfl (nx rfl (nx rfl hit))))))))) hlt (show 0 + v / 64 * 1 = v / 64 by omega))) (nx rfl (nx rfl (nx rfl (nx rfl (nx rfl (nx rfl (nx rfl hit)))))))), (qk rfl (do_load T65 rfl (tm rfl (nx rfl (nx rfl (nx rfl (nx rfl (nx rfl (nx rfl (nx rfl hit)))))))) hc) (nx rfl (nx rfl (nx rfl (nx rfl (nx rfl (nx rfl hit))))))), (qa rfl (fun _ => (do_move (tm rfl (nx rfl (nx rfl (nx rfl (nx rfl (nx rfl (nx rfl (nx rfl (nx rfl (nx rfl (nx rfl (nx rfl (nx rfl s1))))))))))))))) (nx rfl (nx rfl (nx rfl (nx rfl (nx rfl hit)))))), (qa rfl (fun _ => (do_rem (b := 64) (tm rfl (nx rfl (nx rfl (nx rfl (nx rfl (nx rfl hit)))))) rfl (by decide) rfl (by omega))) (nx rfl (nx rfl (nx rfl (nx rfl hit))))), (qa rfl (fun _ => (do_shl (k := .u64) (a := 1) rfl (tm rfl (nx rfl (nx rfl (nx rfl (nx rfl hit))))) (show v % 64 ≤ 64 by omega) (shl_u64 hmod))) (nx rfl (nx rfl (nx rfl hit)))), (qa rfl (fun _ => (do_and (tm rfl (nx rfl (nx rfl (nx rfl (nx rfl (nx rfl (nx rfl hit))))))) (tm rfl (nx rfl (nx rfl (nx rfl hit)))) (and_u64 z (2 ^ (v % 64)) hz64 (pow_lt64 hmod)))) (nx rfl (nx rfl hit))), (qa rfl (fun _ => (do_neqK (k := .u64) (tm rfl (nx rfl (nx rfl hit))) rfl (and_ne z (v % 64)))) (nx rfl hit)), (qa rfl (fun _ => (do_assign (tm rfl (nx rfl hit)))) hit), trivial⟩ rfl ?_
  intro τ3 e3
  have c3_0 := (congrFun e3 0).trans (nx rfl (nx rfl (nx rfl (nx rfl (nx rfl (nx rfl (nx rfl (nx rfl (nx rfl (nx rfl (nx rfl (nx rfl s0))))))))))))
  have c3_1 := (congrFun e3 1).trans (nx rfl (nx rfl (nx rfl (nx rfl (nx rfl (nx rfl (nx rfl (nx rfl (nx rfl (nx rfl (nx rfl (nx rfl s1))))))))))))
  have c3_4 := (congrFun e3 4).trans hit
  clear e3
  refine hK2 _ _ ?_
  clear hK2
  refine wp_ret ?_
  rw [← hQ]
  exact ret1 rfl rfl c3_4 ⟨rfl, rfl⟩
theorem nm42 : (Try.f42.name == "runtime.NumGoroutine") = false := by kernel_rfl
theorem bd42 : Try.f42.body.isNone = false := by kernel_rfl

theorem unpl41 (w : World) (bv sb bw m mc bl n nc v : Nat) (ws : List Nat) (z : Nat) (lo : List Int) (hv0 : w.cell? ⟨bv, 0, none⟩ = some (.pointer (some ⟨sb, 0, none⟩))) (h7 : w.cell? ⟨sb, 7, none⟩ = some (.slice (some ⟨bw, 0, none⟩) m mc)) (h4 : w.cell? ⟨sb, 4, none⟩ = some (.slice (some ⟨bl, 0, none⟩) n nc))
    (hB : Blk w bw 65 (u64s ws)) (hm : ws.length = m) (hz : ws[v / 64]? = some z) (hz64 : z < 2 ^ 64) (hv : v ≤ 65536) (hvn : v < n) (hlc : w.cell? ⟨bl, v, none⟩ = some (.int .i64 (v : Int))) :
    Calls Try.prog 41 (#[.int .i64 (v : Int)] ++ #[.pointer (some ⟨bv, 0, none⟩)]) w fun e w' => e = .returned (.bool (!z.testBit (v % 64))) ∧ w' = w.drew.drew := by
  refine enter (args := [.int .i64 (v : Int), .pointer (some ⟨bv, 0, none⟩)]) Try.func41 rfl Try.ntmps41 rfl ?_
  generalize hQ : bodyPost Try.prog Try.f41 _ = Q
  have s0 : frame0 [Value.int .i64 (v : Int), .pointer (some ⟨bv, 0, none⟩)] 0 = .int .i64 (v : Int) := rfl
  have s1 : frame0 [Value.int .i64 (v : Int), .pointer (some ⟨bv, 0, none⟩)] 1 = .pointer (some ⟨bv, 0, none⟩) := rfl
  generalize frame0 [Value.int .i64 (v : Int), .pointer (some ⟨bv, 0, none⟩)] = σ at *
  have A : ∀ (a : Addr) (u : Value), w.cell? a = some u → ∀ j, j ≤ 1 → (stg w.drew [w.drew.drew] j).cell? a = some u := fun a u h => le1 (p := fun j => (stg w.drew [w.drew.drew] j).cell? a = some u) h h
  have hhas := has42 w.drew bw m mc v ws z hB.drew hm hz hz64 hv
  refine wp_seq_k (fun K4 hK4 => ?_)
  refine reg ?_
  refine sq rfl (do_assign ck) ?_
  refine wnil ?_
  refine hK4 _ _ ?_
  clear hK4
  refine wp_seq_k (fun K5 hK5 => ?_)
  refine draw mixed [11] [(0, 1), (0, 1), (0, 1), (0, 0), (0, 1), (0, 1), (0, 1), (0, 1), (0, 1), (0, 1), (0, 0), (0, 0), (1, 1), (1, 1)] [w.drew.drew] (w.drew.drew) (upd (upd (upd (upd (upd (upd (upd (upd (upd (upd (upd (upd (upd (upd _ 4 _) 5 _) 6 _) 7 _) 8 _) 9 _) 10 _) 11 _) 12 _) 13 _) 14 _) 15 _) 16 _) 3 _) (by kernel_rfl) (fun s hs => ovr_off [(4, _), (5, _), (6, _), (7, _), (8, _), (9, _), (10, _), (11, _), (12, _), (13, _), (14, _), (15, _), (16, _), (3, _)] _ s hs) ⟨(qr rfl (fun j h1 h2 => (do_load T45 rfl (tm rfl (nx rfl (nx rfl (nx rfl (nx rfl (nx rfl (nx rfl (nx rfl (nx rfl (nx rfl (nx rfl (nx rfl (nx rfl (nx rfl (nx rfl (nx rfl s1)))))))))))))))) (A _ _ hv0 j (by omega)))) (nx rfl (nx rfl (nx rfl (nx rfl (nx rfl (nx rfl (nx rfl (nx rfl (nx rfl (nx rfl (nx rfl (nx rfl (nx rfl hit)))))))))))))), (qa rfl (fun _ => (do_nilCheck (tm rfl (nx rfl (nx rfl (nx rfl (nx rfl (nx rfl (nx rfl (nx rfl (nx rfl (nx rfl (nx rfl (nx rfl (nx rfl (nx rfl hit)))))))))))))))) (nx rfl (nx rfl (nx rfl (nx rfl (nx rfl (nx rfl (nx rfl (nx rfl (nx rfl (nx rfl (nx rfl (nx rfl hit))))))))))))), (qa rfl (fun _ => (fa72_7 (tm rfl (nx rfl (nx rfl (nx rfl (nx rfl (nx rfl (nx rfl (nx rfl (nx rfl (nx rfl (nx rfl (nx rfl (nx rfl hit))))))))))))))) (nx rfl (nx rfl (nx rfl (nx rfl (nx rfl (nx rfl (nx rfl (nx rfl (nx rfl (nx rfl (nx rfl hit)))))))))))), (qk rfl (do_load T69 rfl (tm rfl (nx rfl (nx rfl (nx rfl (nx rfl (nx rfl (nx rfl (nx rfl (nx rfl (nx rfl (nx rfl (nx rfl hit)))))))))))) (A _ _ h7 0 (by omega))) (nx rfl (nx rfl (nx rfl (nx rfl (nx rfl (nx rfl (nx rfl (nx rfl (nx rfl (nx rfl hit))))))))))), (qr rfl (fun j h1 h2 => (do_load T45 rfl (tm rfl (nx rfl (nx rfl (nx rfl (nx rfl (nx rfl (nx rfl (nx rfl (nx rfl (nx rfl (nx rfl (nx rfl (nx rfl (nx rfl (nx rfl (nx rfl s1)))))))))))))))) (A _ _ hv0 j (by omega)))) (nx rfl (nx rfl (nx rfl (nx rfl (nx rfl (nx rfl (nx rfl (nx rfl (nx rfl hit)))))))))), (qa rfl (fun _ => (do_nilCheck (tm rfl (nx rfl (nx rfl (nx rfl (nx rfl (nx rfl (nx rfl (nx rfl (nx rfl (nx rfl hit)))))))))))) (nx rfl (nx rfl (nx rfl (nx rfl (nx rfl (nx rfl (nx rfl (nx rfl hit))))))))), (qa rfl (fun _ => (fa72_4 (tm rfl (nx rfl (nx rfl (nx rfl (nx rfl (nx rfl (nx rfl (nx rfl (nx rfl hit))))))))))) (nx rfl (nx rfl (nx rfl (nx rfl (nx rfl (nx rfl (nx rfl hit)))))))), (qr rfl (fun j h1 h2 => (do_load T22 rfl (tm rfl (nx rfl (nx rfl (nx rfl (nx rfl (nx rfl (nx rfl (nx rfl hit)))))))) (A _ _ h4 j (by omega)))) (nx rfl (nx rfl (nx rfl (nx rfl (nx rfl (nx rfl hit))))))), (qa rfl (fun _ => (do_move (tm rfl (nx rfl (nx rfl (nx rfl (nx rfl (nx rfl (nx rfl (nx rfl (nx rfl (nx rfl (nx rfl (nx rfl (nx rfl (nx rfl (nx rfl (nx rfl s0)))))))))))))))))) (nx rfl (nx rfl (nx rfl (nx rfl (nx rfl hit)))))), (qa rfl (fun _ => (ix22 (tm rfl (nx rfl (nx rfl (nx rfl (nx rfl (nx rfl (nx rfl hit))))))) (tm rfl (nx rfl (nx rfl (nx rfl (nx rfl (nx rfl hit)))))) (by omega))) (nx rfl (nx rfl (nx rfl (nx rfl hit))))), (qk rfl (do_load T3 rfl (tm rfl (nx rfl (nx rfl (nx rfl (nx rfl hit))))) (A _ _ hlc 0 (by omega))) (nx rfl (nx rfl (nx rfl hit)))), (ef rfl (do_call (run_callF Try.func42 nm42 bd42 (map2 (tm rfl (nx rfl (nx rfl (nx rfl (nx rfl (nx rfl (nx rfl (nx rfl (nx rfl (nx rfl (nx rfl hit))))))))))) (tm rfl (nx rfl (nx rfl (nx rfl hit))))) rfl) hhas) (nx rfl (nx rfl hit))), (qa rfl (fun _ => (do_not (tm rfl (nx rfl (nx rfl hit))))) (nx rfl hit)), (qa rfl (fun _ => (do_assign (tm rfl (nx rfl hit)))) hit), trivial⟩ rfl ?_
  intro τ6 e6
  have c6_0 := (congrFun e6 0).trans (nx rfl (nx rfl (nx rfl (nx rfl (nx rfl (nx rfl (nx rfl (nx rfl (nx rfl (nx rfl (nx rfl (nx rfl (nx rfl (nx rfl (nx rfl s0)))))))))))))))
  have c6_1 := (congrFun e6 1).trans (nx rfl (nx rfl (nx rfl (nx rfl (nx rfl (nx rfl (nx rfl (nx rfl (nx rfl (nx rfl (nx rfl (nx rfl (nx rfl (nx rfl (nx rfl s1)))))))))))))))
  have c6_3 := (congrFun e6 3).trans hit
  clear e6
  refine hK5 _ _ ?_
  clear hK5
  refine wp_ret ?_
  rw [← hQ]
  exact ret1 rfl rfl c6_3 ⟨rfl, rfl⟩
theorem nm41 : (Try.f41.name == "runtime.NumGoroutine") = false := by kernel_rfl
theorem bd41 : Try.f41.body.isNone = false := by kernel_rfl

theorem search36 (w : World) (p a5 a6 a2 a4 a7 : Option Addr) (n5 n6 n2 n4 n7 c5 c6 c2 c4 c7 : Nat) (l : Int) :
    Calls Try.prog 36 #[.pointer p, .slice a5 n5 c5, .slice a6 n6 c6, .slice a2 n2 c2, .slice a4 n4 c4, .slice a7 n7 c7, .int .i64 l] w fun e w' => e = .returned (.pointer (some ⟨w.heap.size, 0, none⟩)) ∧ w' = w.alloc (.cells #[.pointer p, .slice none 0 0, .slice a2 n2 c2, .slice none 0 0, .slice a4 n4 c4, .slice a5 n5 c5, .slice a6 n6 c6, .slice a7 n7 c7, .slice none 0 0, .slice none 0 0, .slice none 0 0, .pointer none, .int .i64 l, .bool false, .slice none 0 0, .slice none 0 0, .slice none 0 0] 72) := by
  refine enter (args := [Value.pointer p, .slice a5 n5 c5, .slice a6 n6 c6, .slice a2 n2 c2, .slice a4 n4 c4, .slice a7 n7 c7, .int .i64 l]) Try.func36 rfl Try.ntmps36 rfl ?_
  generalize hQ : bodyPost Try.prog Try.f36 _ = Q
  have s0 : frame0 [Value.pointer p, .slice a5 n5 c5, .slice a6 n6 c6, .slice a2 n2 c2, .slice a4 n4 c4, .slice a7 n7 c7, .int .i64 l] 0 = .pointer p := rfl
  have s1 : frame0 [Value.pointer p, .slice a5 n5 c5, .slice a6 n6 c6, .slice a2 n2 c2, .slice a4 n4 c4, .slice a7 n7 c7, .int .i64 l] 1 = .slice a5 n5 c5 := rfl
  have s2 : frame0 [Value.pointer p, .slice a5 n5 c5, .slice a6 n6 c6, .slice a2 n2 c2, .slice a4 n4 c4, .slice a7 n7 c7, .int .i64 l] 2 = .slice a6 n6 c6 := rfl
  have s3 : frame0 [Value.pointer p, .slice a5 n5 c5, .slice a6 n6 c6, .slice a2 n2 c2, .slice a4 n4 c4, .slice a7 n7 c7, .int .i64 l] 3 = .slice a2 n2 c2 := rfl
  have s4 : frame0 [Value.pointer p, .slice a5 n5 c5, .slice a6 n6 c6, .slice a2 n2 c2, .slice a4 n4 c4, .slice a7 n7 c7, .int .i64 l] 4 = .slice a4 n4 c4 := rfl
  have s5 : frame0 [Value.pointer p, .slice a5 n5 c5, .slice a6 n6 c6, .slice a2 n2 c2, .slice a4 n4 c4, .slice a7 n7 c7, .int .i64 l] 5 = .slice a7 n7 c7 := rfl
  have s6 : frame0 [Value.pointer p, .slice a5 n5 c5, .slice a6 n6 c6, .slice a2 n2 c2, .slice a4 n4 c4, .slice a7 n7 c7, .int .i64 l] 6 = .int .i64 l := rfl
  generalize frame0 [Value.pointer p, .slice a5 n5 c5, .slice a6 n6 c6, .slice a2 n2 c2, .slice a4 n4 c4, .slice a7 n7 c7, .int .i64 l] = σ at *
  refine wp_seq_k (fun K7 hK7 => ?_)
  refine reg ?_
  refine sq rfl (do_assign ck) ?_
  refine wnil ?_
  refine hK7 _ _ ?_
  clear hK7
  refine wp_seq_k (fun K8 hK8 => ?_)
  refine reg ?_
  refine sq rfl (do_move (tm rfl (nx rfl s0))) ?_
  refine sq rfl (do_move (tm rfl (nx rfl (nx rfl s1)))) ?_
  refine sq rfl (do_move (tm rfl (nx rfl (nx rfl (nx rfl s2))))) ?_
  refine sq rfl (do_move (tm rfl (nx rfl (nx rfl (nx rfl (nx rfl s3)))))) ?_
  refine sq rfl (do_move (tm rfl (nx rfl (nx rfl (nx rfl (nx rfl (nx rfl s4))))))) ?_
  refine sq rfl (do_move (tm rfl (nx rfl (nx rfl (nx rfl (nx rfl (nx rfl (nx rfl s5)))))))) ?_
  refine sq rfl (do_move (tm rfl (nx rfl (nx rfl (nx rfl (nx rfl (nx rfl (nx rfl (nx rfl s6))))))))) ?_
  refine sq rfl (do_build72 (tm rfl (nx rfl (nx rfl (nx rfl (nx rfl (nx rfl (nx rfl hit))))))) (tm rfl (nx rfl (nx rfl (nx rfl (nx rfl (nx rfl hit)))))) (tm rfl (nx rfl (nx rfl (nx rfl (nx rfl hit))))) (tm rfl (nx rfl (nx rfl (nx rfl hit)))) (tm rfl (nx rfl (nx rfl hit))) (tm rfl (nx rfl hit)) (tm rfl hit)) ?_
  refine sq rfl (do_box (tm rfl hit)) ?_
  refine sq rfl (do_assign (tm rfl hit)) ?_
  refine cutL ?_
  intro τ9 e9
  have c9_14 := (congrFun e9 14).trans hit
  clear e9
  refine wnil ?_
  refine hK8 _ _ ?_
  clear hK8
  refine wp_ret ?_
  rw [← hQ]
  exact ret1 rfl rfl c9_14 ⟨rfl, rfl⟩
theorem nm36 : (Try.f36.name == "runtime.NumGoroutine") = false := by kernel_rfl
theorem bd36 : Try.f36.body.isNone = false := by kernel_rfl
theorem nm35 : (Try.f35.name == "runtime.NumGoroutine") = false := by kernel_rfl
theorem bd35 : Try.f35.body.isNone = false := by kernel_rfl
end Go.Proofs.Qxb6001364a
