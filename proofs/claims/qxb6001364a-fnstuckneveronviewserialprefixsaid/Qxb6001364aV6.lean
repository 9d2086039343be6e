/-
  itoa.
-/
import Derived.Test.Qxb6001364aHu
namespace Go.Proofs.Qxb6001364a
open Go.Fra Go.RowKit
set_option maxRecDepth 100000
set_option linter.unusedVariables false

/-- The number that digits write, behind a. -/
def dval (a : Nat) (ds : List Int) : Nat := ds.foldl (fun a d => a * 10 + (d.toNat - 48)) a
def strOf (ds : List Int) : ByteArray := ds.foldl (fun r n => r.push (UInt8.ofNat n.toNat)) ByteArray.empty
theorem push_list (b : ByteArray) (x : UInt8) : (b.push x).data.toList = b.data.toList ++ [x] := by simp [ByteArray.push]
theorem strOf_list (ds : List Int) : ∀ b : ByteArray, (ds.foldl (fun r n => r.push (UInt8.ofNat n.toNat)) b).data.toList = b.data.toList ++ ds.map (fun n => UInt8.ofNat n.toNat) := by
  induction ds with
  | nil => intro b; simp
  | cons d ds ih =>
    intro b
    rw [List.foldl_cons, ih, push_list]
    simp
def sval (s : ByteArray) : Nat := s.data.toList.foldl (fun a d => a * 10 + (d.toNat - 48)) 0
theorem sval_strOf (ds : List Int) (h : ∀ d ∈ ds, 0 ≤ d ∧ d < 256) : sval (strOf ds) = dval 0 ds := by
  unfold sval strOf dval
  rw [strOf_list]
  have : (ByteArray.empty).data.toList = [] := rfl
  rw [this, List.nil_append, List.foldl_map]
  generalize 0 = a
  induction ds generalizing a with
  | nil => rfl
  | cons d ds ih =>
    have hd := h d (by simp)
    simp only [List.foldl_cons]
    have e : (UInt8.ofNat d.toNat).toNat = d.toNat := by
      rw [UInt8.toNat_ofNat']
      exact Nat.mod_eq_of_lt (by omega)
    rw [e]
    exact ih (fun d hd => h d (by simp [hd])) _
theorem size_strOf (ds : List Int) : (strOf ds).size = ds.length := by
  have := congrArg List.length (strOf_list ds ByteArray.empty)
  simp only [List.length_append, List.length_map] at this
  have e : (ByteArray.empty).data.toList.length = 0 := rfl
  rw [e] at this
  have h2 : (strOf ds).data.toList.length = 0 + ds.length := this
  show (strOf ds).data.size = ds.length
  rw [← Array.length_toList, h2, Nat.zero_add]
def u8s (zs : List Int) : List Value := zs.map (Value.int .u8)
theorem pow_pos' (j : Nat) : 0 < 10 ^ j := Nat.pow_pos (by decide)

theorem itoa31 (w : World) (x0 : Nat) (hx0 : x0 < 100000000) :
    Calls Try.prog 31 #[.int .i64 (x0 : Int)] w fun e w' => ∃ s : ByteArray, e = .returned (.string s) ∧ sval s = x0 ∧ s.size ≤ 24 ∧ Below w.heap.size w w' := by
  refine enter (args := [.int .i64 (x0 : Int)]) Try.func31 rfl Try.ntmps31 rfl ?_
  generalize hQ : bodyPost Try.prog Try.f31 _ = Q
  have s0 : frame0 [Value.int .i64 (x0 : Int)] 0 = .int .i64 (x0 : Int) := rfl
  generalize frame0 [Value.int .i64 (x0 : Int)] = σ at *
  refine wp_seq_k (fun K1 hK1 => ?_)
  refine reg ?_
  refine sq rfl (do_assign ck) ?_
  refine wnil ?_
  refine hK1 _ _ ?_
  clear hK1
  refine wp_seq_k (fun K2 hK2 => ?_)
  refine wp_seq_k (fun K3 hK3 => ?_)
  refine reg ?_
  refine sq rfl (do_move (tm rfl (nx rfl s0))) ?_
  refine sq rfl (do_leq (tm rfl hit) ck) ?_
  refine wnil ?_
  refine hK3 _ _ ?_
  clear hK3
  by_cases hz : x0 = 0
  · refine cT rfl hit (by simp; omega) ?_
    refine wp_seq_k (fun K4 hK4 => ?_)
    refine reg ?_
    refine sq rfl (do_assign ck) ?_
    refine cutL ?_
    intro τ5 e5
    have c5_0 := (congrFun e5 0).trans (nx rfl (nx rfl (nx rfl (nx rfl s0))))
    have c5_2 := (congrFun e5 2).trans hit
    clear e5
    refine wnil ?_
    refine hK4 _ _ ?_
    clear hK4
    refine wp_ret ?_
    refine thenR ?_
    rw [← hQ]
    refine ret1 rfl rfl c5_2 ⟨_, rfl, ?_, by decide, Below.refl _ _⟩
    subst hz
    decide
  · refine cF rfl hit (by simp; omega) ?_
    refine wp_skip ?_
    refine hK2 _ _ ?_
    clear hK2
    refine wp_seq_k (fun K6 hK6 => ?_)
    refine reg ?_
    refine sq rfl (do_alloc T73) ?_
    refine cutW ?_
    intro τ7 e7 wa hwa
    have c7_0 := (congrFun e7 0).trans (nx rfl (nx rfl (nx rfl (nx rfl s0))))
    have c7_2 := (congrFun e7 2).trans (nx rfl (nx rfl (nx rfl hit)))
    have c7_3 := (congrFun e7 3).trans hit
    clear e7
    refine wnil ?_
    refine hK6 _ _ ?_
    clear hK6
    have hB : Blk wa w.heap.size 73 (u8s (List.replicate 24 0)) := by
      rw [hwa]
      exact Blk.new w _ 73
    have hbel : Below w.heap.size w wa := by rw [hwa]; exact (Below.refl _ _).alloc (Nat.le_refl _) _
    clear hwa
    refine wp_seq_k (fun K8 hK8 => ?_)
    refine reg ?_
    refine sq rfl (do_assign (v := .int .i64 ((24 : Nat) : Int)) rfl) ?_
    refine wnil ?_
    refine hK8 _ _ ?_
    clear hK8
    refine wp_seq_k (fun K9 hK9 => ?_)
    refine forLoop (N := 22) (fun r τ wi => ∃ (x j : Nat) (bs : List Int), r = x ∧ j ≤ 8 ∧ x < 10 ^ (8 - j) ∧ (x = 0 → 1 ≤ j) ∧ τ 0 = .int .i64 (x : Int) ∧ τ 3 = .pointer (some ⟨w.heap.size, 0, none⟩) ∧ τ 4 = .int .i64 ((24 - j : Nat) : Int) ∧
        bs.length = 24 ∧ Blk wi w.heap.size 73 (u8s bs) ∧ (∀ d ∈ bs, 0 ≤ d ∧ d < 256) ∧ dval x (bs.drop (24 - j)) = x0 ∧ Below w.heap.size w wi)
      (fun τ wi => ∃ (j : Nat) (bs : List Int), 1 ≤ j ∧ j ≤ 8 ∧ τ 3 = .pointer (some ⟨w.heap.size, 0, none⟩) ∧ τ 4 = .int .i64 ((24 - j : Nat) : Int) ∧
        bs.length = 24 ∧ Blk wi w.heap.size 73 (u8s bs) ∧ (∀ d ∈ bs, 0 ≤ d ∧ d < 256) ∧ dval 0 (bs.drop (24 - j)) = x0 ∧ Below w.heap.size w wi) x0 ?_ ?_ ?_
    · exact ⟨x0, 0, List.replicate 24 0, rfl, Nat.zero_le _, hx0, fun h => absurd h hz, (nx rfl c7_0), (nx rfl c7_3), hit, by simp, hB, fun d hd => (by rw [List.eq_of_mem_replicate hd]; omega), by simp [dval], hbel⟩
    · clear s0 hB hbel
      rintro Q' r τ wi hnn hx hr ⟨x, j, bs, hrx, hj, hxp, hx1, t0, t3, t4, hbl, hB, hbs, hdv, hbel⟩
      refine wp_seq_k (fun K10 hK10 => ?_)
      refine wp_seq_k (fun K11 hK11 => ?_)
      refine reg ?_
      refine sq rfl (do_move (tm rfl t0)) ?_
      refine sq rfl (do_gtr (tm rfl hit) ck) ?_
      refine wnil ?_
      refine hK11 _ _ ?_
      clear hK11
      by_cases h : 0 < x
      · refine cT rfl hit (by simp; omega) ?_
        refine wp_skip ?_
        refine hK10 _ _ ?_
        clear hK10
        have hj8 : j < 8 := by
          rcases Nat.lt_or_ge j 8 with h1 | h1
          · exact h1
          · have : 8 - j = 0 := by omega
            rw [this] at hxp
            simp at hxp
            omega
        have hxs : x < 100000000 := by
          have : 10 ^ (8 - j) ≤ 10 ^ 8 := Nat.pow_le_pow_right (by decide) (by omega)
          omega
        have hm10 : x % 10 < 10 := Nat.mod_lt _ (by decide)
        refine wp_block ?_
        refine wp_seq_k (fun K12 hK12 => ?_)
        refine reg ?_
        refine sq rfl (do_move (tm rfl (nx rfl (nx rfl t4)))) ?_
        refine sq rfl ((do_sub (tm rfl hit) ck ⟨by omega, by omega⟩).cast (show _ = Value.int .i64 ((24 - (j + 1) : Nat) : Int) by congr 1; omega)) ?_
        refine sq rfl (do_assign (tm rfl hit)) ?_
        refine cutL ?_
        intro τ13 e13
        have c13_0 := (congrFun e13 0).trans (nx rfl (nx rfl (nx rfl (nx rfl (nx rfl t0)))))
        have c13_3 := (congrFun e13 3).trans (nx rfl (nx rfl (nx rfl (nx rfl (nx rfl t3)))))
        have c13_4 := (congrFun e13 4).trans hit
        clear e13
        refine wnil ?_
        refine hK12 _ _ ?_
        clear hK12
        refine wp_seq_k (fun K14 hK14 => ?_)
        refine reg ?_
        refine sq rfl (do_move (tm rfl c13_4)) ?_
        refine sq rfl (do_move (tm rfl (nx rfl c13_0))) ?_
        refine sq rfl (do_rem (b := 10) (tm rfl hit) rfl (by decide) rfl (by omega)) ?_
        refine sq rfl (do_addM (a := 48) rfl (tm rfl hit) (by omega)) ?_
        refine sq rfl (do_conv (k := .u8) Try.underlying3 Try.underlying5 (tm rfl hit) (show IntKind.u8.wrap ((48 + x % 10 : Nat) : Int) = ((48 + x % 10 : Nat) : Int) by rw [wrap_u8]; congr 1; omega)) ?_
        refine sq rfl (do_indexA (n := 24) (e := 5) T73 T5 (tm rfl (nx rfl (nx rfl (nx rfl (nx rfl (nx rfl c13_3)))))) (tm rfl (nx rfl (nx rfl (nx rfl (nx rfl hit))))) (by omega) (show 0 + (24 - (j + 1)) * 1 = 24 - (j + 1) by omega)) ?_
        refine sqn (do_store T5 (tm rfl hit) (tm rfl (nx rfl hit)) rfl (hB.cell (show (u8s bs)[24 - (j + 1)]? = some (.int .u8 (bs[24 - (j + 1)]'(by omega))) by simp [u8s])) (hB.frozen _)) ?_
        refine cutW ?_
        intro τ15 e15 w2 hw2
        have c15_0 := (congrFun e15 0).trans (nx rfl (nx rfl (nx rfl (nx rfl (nx rfl (nx rfl c13_0))))))
        have c15_3 := (congrFun e15 3).trans (nx rfl (nx rfl (nx rfl (nx rfl (nx rfl (nx rfl c13_3))))))
        have c15_4 := (congrFun e15 4).trans (nx rfl (nx rfl (nx rfl (nx rfl (nx rfl (nx rfl c13_4))))))
        clear e15
        refine wnil ?_
        refine hK14 _ _ ?_
        clear hK14
        refine reg ?_
        refine sq rfl (do_move (tm rfl c15_0)) ?_
        refine sq rfl (do_quo (b := 10) (tm rfl hit) rfl (by decide) rfl (by omega)) ?_
        refine sq rfl (do_assign (tm rfl hit)) ?_
        refine wnil ?_
        refine inBN ?_
        refine hnn (x / 10) _ _ (by omega) ⟨x / 10, j + 1, bs.set (24 - (j + 1)) ((48 + x % 10 : Nat) : Int), rfl, by omega, ?_, fun _ => by omega, hit, (nx rfl (nx rfl (nx rfl c15_3))), (nx rfl (nx rfl (nx rfl c15_4))), by simp [hbl], ?_, ?_, ?_, ?_⟩
        · have e : 10 ^ (8 - j) = 10 ^ (8 - (j + 1)) * 10 := by rw [← Nat.pow_succ]; congr 1; omega
          rw [e] at hxp
          omega
        · rw [hw2, show u8s (bs.set (24 - (j + 1)) ((48 + x % 10 : Nat) : Int)) = (u8s bs).set (24 - (j + 1)) (.int .u8 ((48 + x % 10 : Nat) : Int)) by simp [u8s, List.map_set]]
          exact hB.set _ _
        · intro d hd
          rcases List.mem_or_eq_of_mem_set hd with h1 | h1
          · exact hbs d h1
          · rw [h1]; omega
        · have e : (bs.set (24 - (j + 1)) ((48 + x % 10 : Nat) : Int)).drop (24 - (j + 1)) = ((48 + x % 10 : Nat) : Int) :: bs.drop (24 - j) := by
            rw [List.drop_eq_getElem_cons (by simp; omega), List.getElem_set_self, List.drop_set_of_lt (by omega), show 24 - (j + 1) + 1 = 24 - j by omega]
          rw [e]
          unfold dval at hdv ⊢
          rw [List.foldl_cons]
          have e2 : x / 10 * 10 + (((48 + x % 10 : Nat) : Int).toNat - 48) = x := by omega
          rw [e2]
          exact hdv
        · rw [hw2]; exact hbel.setCell (Nat.le_refl _) _
      · refine cF rfl hit (by simp; omega) ?_
        refine wp_exit ?_
        refine thenE ?_
        obtain rfl : x = 0 := by omega
        exact hx _ _ ⟨j, bs, hx1 rfl, hj, (nx rfl (nx rfl t3)), (nx rfl (nx rfl t4)), hbl, hB, hbs, hdv, hbel⟩
    clear s0 hB hbel
    rintro τ wi ⟨j, bs, hj1, hj, t3, t4, hbl, hB, hbs, hdv, hbel⟩
    refine hK9 _ _ ?_
    clear hK9
    have hdl : (bs.drop (24 - j)).length = 24 - (24 - j) := by rw [List.length_drop, hbl]
    have hcells : ∀ i v, ((bs.drop (24 - j)).map (Value.int .u8))[i]? = some v → wi.cell? ((⟨w.heap.size, 24 - j, none⟩ : Addr).add i) = some v := by
      intro i v hv
      rw [add_plain]
      refine hB.cell ?_
      rw [← hv, List.getElem?_map, List.getElem?_drop]
      simp [u8s]
    refine wp_seq_k (fun K16 hK16 => ?_)
    refine reg ?_
    refine sq rfl (do_move (tm rfl t4)) ?_
    refine sq rfl ((do_sliceA (n := 24) (e := 5) T73 T5 (tm rfl (nx rfl t3)) (tm rfl hit) (by omega)).cast (show _ = Value.slice (some ⟨w.heap.size, 24 - j, none⟩) (bs.drop (24 - j)).length (24 - (24 - j)) by rw [hdl])) ?_
    refine sq rfl (do_convBS Try.underlying74 Try.underlying5 Try.underlying9 (tm rfl hit) hcells) ?_
    refine sq rfl (do_assign (tm rfl hit)) ?_
    refine cutL ?_
    intro τ17 e17
    have c17_2 := (congrFun e17 2).trans hit
    have c17_3 := (congrFun e17 3).trans (nx rfl (nx rfl (nx rfl (nx rfl t3))))
    have c17_4 := (congrFun e17 4).trans (nx rfl (nx rfl (nx rfl (nx rfl t4))))
    clear e17
    refine wnil ?_
    refine hK16 _ _ ?_
    clear hK16
    refine wp_ret ?_
    rw [← hQ]
    refine ret1 rfl rfl c17_2 ⟨strOf (bs.drop (24 - j)), rfl, ?_, ?_, hbel⟩
    · rw [sval_strOf _ (fun d hd => hbs d (List.mem_of_mem_drop hd))]; exact hdv
    · rw [size_strOf, hdl]; omega
end Go.Proofs.Qxb6001364a
