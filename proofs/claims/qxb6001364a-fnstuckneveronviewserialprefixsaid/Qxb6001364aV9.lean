/-
  newViewProblem's closure.
-/
import Derived.Test.Qxb6001364aV10h
namespace Go.Proofs.Qxb6001364a
open Go.Fra Go.RowKit Pl
set_option maxRecDepth 100000
set_option linter.unusedVariables false
theorem keyI : KeyOk Try.prog 3 ik (fun a b => a == b) := keyInt Try.underlying3
theorem call43 {N : Nat} {w0 w : World} {G : Nat → Part} (hs : Split N w0 w G) (sb mb : Nat) (ls : List (Int × Value)) (hv : VB (G 35) sb 50 [.map (some mb)]) (hm : MapV (G 34) mb ik ls) (z res : Int)
    (hr : (gI z ls = none ∧ res = -1) ∨ gI z ls = some (.int .i64 res)) :
    Calls Try.prog 43 (#[.int .i64 z] ++ #[.pointer (some ⟨sb, 0, none⟩)]) w fun e w' => e = .returned (.int .i64 res) ∧ w' = w := by
  refine enter (args := [.int .i64 z, .pointer (some ⟨sb, 0, none⟩)]) Try.func43 rfl Try.ntmps43 rfl ?_
  generalize hQ : bodyPost Try.prog Try.f43 _ = Q
  have s0 : frame0 [Value.int .i64 z, .pointer (some ⟨sb, 0, none⟩)] 0 = .int .i64 z := rfl
  have s1 : frame0 [Value.int .i64 z, .pointer (some ⟨sb, 0, none⟩)] 1 = .pointer (some ⟨sb, 0, none⟩) := rfl
  generalize frame0 [Value.int .i64 z, .pointer (some ⟨sb, 0, none⟩)] = σ at *
  refine wp_seq_k (fun K1 hK1 => ?_)
  refine reg ?_
  refine sq rfl (do_assign (v := .int .i64 ((0 : Nat) : Int)) rfl) ?_
  refine wnil ?_
  refine hK1 _ _ ?_
  clear hK1
  rcases hr with ⟨hn, rfl⟩ | hsome
  · refine wp_seq_k (fun K2 hK2 => ?_)
    refine wp_seq_k (fun K3 hK3 => ?_)
    refine reg ?_
    refine sq rfl (do_load T50 rfl (tm rfl (nx rfl s1)) (hv.cell hs (i := 0) rfl)) ?_
    refine sq rfl (do_move (tm rfl (nx rfl (nx rfl s0)))) ?_
    refine sq rfl ((MapV.look2 keyI Try.underlying50 zero3 hm hs (k := z) (tm rfl (nx rfl hit)) (tm rfl hit)).cast (show _ = Value.tuple #[.int .i64 0, .bool false] by rw [show getL (fun a b => a == b) z ls = none from hn]; rfl)) ?_
    refine sq rfl (do_move (tm rfl hit)) ?_
    refine sq rfl (do_extract (tm rfl hit) rfl) ?_
    refine sq rfl (do_extract (tm rfl (nx rfl hit)) rfl) ?_
    refine sq rfl (do_assign (tm rfl (nx rfl hit))) ?_
    refine sq rfl (do_assign (tm rfl (nx rfl hit))) ?_
    refine cutL ?_
    intro τ4 e4
    have c4_0 := (congrFun e4 0).trans (nx rfl (nx rfl (nx rfl (nx rfl (nx rfl (nx rfl (nx rfl (nx rfl (nx rfl s0)))))))))
    have c4_1 := (congrFun e4 1).trans (nx rfl (nx rfl (nx rfl (nx rfl (nx rfl (nx rfl (nx rfl (nx rfl (nx rfl s1)))))))))
    have c4_3 := (congrFun e4 3).trans (nx rfl (nx rfl (nx rfl (nx rfl (nx rfl (nx rfl (nx rfl (nx rfl hit))))))))
    have c4_4 := (congrFun e4 4).trans (nx rfl hit)
    have c4_5 := (congrFun e4 5).trans hit
    clear e4
    refine wnil ?_
    refine hK3 _ _ ?_
    clear hK3
    refine wp_seq_k (fun K5 hK5 => ?_)
    refine reg ?_
    refine sq rfl (do_move (tm rfl c4_5)) ?_
    refine wnil ?_
    refine hK5 _ _ ?_
    clear hK5
    refine cF rfl hit rfl ?_
    refine wp_skip ?_
    refine hK2 _ _ ?_
    clear hK2
    refine wp_seq_k (fun K6 hK6 => ?_)
    refine reg ?_
    refine sq rfl (do_assign ck) ?_
    refine wnil ?_
    refine hK6 _ _ ?_
    clear hK6
    refine wp_ret ?_
    rw [← hQ]
    exact ret1 rfl rfl hit ⟨rfl, rfl⟩
  · refine wp_seq_k (fun K7 hK7 => ?_)
    refine wp_seq_k (fun K8 hK8 => ?_)
    refine reg ?_
    refine sq rfl (do_load T50 rfl (tm rfl (nx rfl s1)) (hv.cell hs (i := 0) rfl)) ?_
    refine sq rfl (do_move (tm rfl (nx rfl (nx rfl s0)))) ?_
    refine sq rfl ((MapV.look2 keyI Try.underlying50 zero3 hm hs (k := z) (tm rfl (nx rfl hit)) (tm rfl hit)).cast (show _ = Value.tuple #[.int .i64 res, .bool true] by rw [show getL (fun a b => a == b) z ls = some (.int .i64 res) from hsome]; rfl)) ?_
    refine sq rfl (do_move (tm rfl hit)) ?_
    refine sq rfl (do_extract (tm rfl hit) rfl) ?_
    refine sq rfl (do_extract (tm rfl (nx rfl hit)) rfl) ?_
    refine sq rfl (do_assign (tm rfl (nx rfl hit))) ?_
    refine sq rfl (do_assign (tm rfl (nx rfl hit))) ?_
    refine cutL ?_
    intro τ9 e9
    have c9_0 := (congrFun e9 0).trans (nx rfl (nx rfl (nx rfl (nx rfl (nx rfl (nx rfl (nx rfl (nx rfl (nx rfl s0)))))))))
    have c9_1 := (congrFun e9 1).trans (nx rfl (nx rfl (nx rfl (nx rfl (nx rfl (nx rfl (nx rfl (nx rfl (nx rfl s1)))))))))
    have c9_3 := (congrFun e9 3).trans (nx rfl (nx rfl (nx rfl (nx rfl (nx rfl (nx rfl (nx rfl (nx rfl hit))))))))
    have c9_4 := (congrFun e9 4).trans (nx rfl hit)
    have c9_5 := (congrFun e9 5).trans hit
    clear e9
    refine wnil ?_
    refine hK8 _ _ ?_
    clear hK8
    refine wp_seq_k (fun K10 hK10 => ?_)
    refine reg ?_
    refine sq rfl (do_move (tm rfl c9_5)) ?_
    refine wnil ?_
    refine hK10 _ _ ?_
    clear hK10
    refine cT rfl hit rfl ?_
    refine wp_seq_k (fun K11 hK11 => ?_)
    refine reg ?_
    refine sq rfl (do_move (tm rfl (nx rfl c9_4))) ?_
    refine sq rfl (do_assign (tm rfl hit)) ?_
    refine wnil ?_
    refine hK11 _ _ ?_
    clear hK11
    refine wp_ret ?_
    refine thenR ?_
    rw [← hQ]
    exact ret1 rfl rfl hit ⟨rfl, rfl⟩
theorem nm43 : (Try.f43.name == "runtime.NumGoroutine") = false := by kernel_rfl
theorem bd43 : Try.f43.body.isNone = false := by kernel_rfl
theorem nm34 : (Try.f34.name == "runtime.NumGoroutine") = false := by kernel_rfl
theorem bd34 : Try.f34.body.isNone = false := by kernel_rfl
end Go.Proofs.Qxb6001364a
