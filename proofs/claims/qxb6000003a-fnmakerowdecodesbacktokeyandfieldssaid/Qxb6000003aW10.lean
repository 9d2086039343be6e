/-
  zzDecodesTo.
-/
import Derived.Test.Qxb6000003aW9
import Derived.Test.Qxb6000003aSq
namespace Go.Proofs.Qxb6000003a
open Go.Fra Go.RowKit
set_option maxRecDepth 100000
set_option linter.unusedVariables false

theorem row_le (key : ByteArray) (fs : List Fld) (l0 : key.size ≤ 1048576) (l1 : fs.length ≤ 1048576) (l2 : ∀ f ∈ fs, f.2.2.size ≤ 1048576) : (rowOf key fs).length ≤ 4398046511104 := by
  have h := flat_le fs l2 fs.length
  rw [List.take_of_length_le (Nat.le_refl _)] at h
  have hkl : key.data.toList.length = key.size := by rw [Array.length_toList]; rfl
  unfold rowOf
  rw [List.length_append, hkl]
  omega

set_option maxHeartbeats 1600000 in
theorem decodes26 (w : World) (key : ByteArray) (vk vn vs : Value) (ks zs : List Int) (ss : List ByteArray) (hK : U8S w vk ks) (hN : I64S w vn zs) (hS : StrS w vs ss) (h1 : zs.length = ks.length) (h2 : ss.length = ks.length)
    (hk : ∀ k ∈ ks, k = 1 ∨ k = 2) (hz : ∀ z ∈ zs, -9223372036854775808 ≤ z ∧ z < 9223372036854775808) (l0 : key.size ≤ 1048576) (l1 : ks.length ≤ 1048576) (l3 : ∀ s ∈ ss, s.size ≤ 1048576)
    (R : List UInt8) (hR : R = rowOf key (flds ks zs ss)) (hRl : R.length ≤ 4398046511104) :
    Calls Try.prog 26 #[.string ⟨R.toArray⟩, .string key, vk, vn, vs] w fun e w' => e = .returned (.bool true) ∧ Below w.heap.size w w' := by
  obtain ⟨a1, c1, rfl, hK⟩ := hK
  obtain ⟨a2, c2, rfl, hN⟩ := hN
  obtain ⟨a3, c3, rfl, hS⟩ := hS
  have hkl : key.data.toList.length = key.size := by rw [Array.length_toList]; rfl
  have hfl : (flds ks zs ss).length = ks.length := flds_length ks zs ss h1 h2
  have hkd : R.drop 0 = key.data.toList ++ (flds ks zs ss).flatMap enc := by rw [hR]; rfl
  have hkr : key.size ≤ R.length := by
    have := congrArg List.length hkd
    rw [List.length_append, hkl] at this
    simp at this
    omega
  have hdrop : ∀ i (h : i < ks.length), ((flds ks zs ss).drop i).flatMap enc = enc (ks[i] == 1, zs[i]'(by rw [h1]; exact h), ss[i]'(by rw [h2]; exact h)) ++ ((flds ks zs ss).drop (i + 1)).flatMap enc := by
    intro i h
    have e := flds_get ks zs ss h1 h2 i h
    rw [List.drop_eq_getElem_cons (by omega), List.flatMap_cons]
    rw [List.getElem?_eq_getElem (by omega)] at e
    injection e with e
    rw [e]
  have hst : R.drop key.size = ((flds ks zs ss).drop 0).flatMap enc := by
    have := drop_next hkd
    rw [hkl, Nat.zero_add] at this
    rw [this]
    rfl
  have hext : (⟨R.toArray⟩ : ByteArray).extract 0 key.size = key := by
    rw [ba_extract, hkd, Nat.sub_zero, ← hkl, List.take_left]
  generalize hfs : flds ks zs ss = fs at *
  clear hR hkd hfs
  have hsize : (⟨R.toArray⟩ : ByteArray).size = R.length := ba_size R
  generalize hrow : (⟨R.toArray⟩ : ByteArray) = row at *
  have hget : ∀ n, row[n]? = R[n]? := fun n => by rw [← hrow]; exact ba_get R n
  refine enter (args := [.string row, .string key, .slice a1 ks.length c1, .slice a2 zs.length c2, .slice a3 ss.length c3]) Try.func26 rfl Try.ntmps26 rfl ?_
  generalize hQ : bodyPost Try.prog Try.f26 _ = Q
  have s0 : frame0 [Value.string row, .string key, .slice a1 ks.length c1, .slice a2 zs.length c2, .slice a3 ss.length c3] 0 = .string row := rfl
  have s1 : frame0 [Value.string row, .string key, .slice a1 ks.length c1, .slice a2 zs.length c2, .slice a3 ss.length c3] 1 = .string key := rfl
  have s2 : frame0 [Value.string row, .string key, .slice a1 ks.length c1, .slice a2 zs.length c2, .slice a3 ss.length c3] 2 = .slice a1 ks.length c1 := rfl
  have s3 : frame0 [Value.string row, .string key, .slice a1 ks.length c1, .slice a2 zs.length c2, .slice a3 ss.length c3] 3 = .slice a2 zs.length c2 := rfl
  have s4 : frame0 [Value.string row, .string key, .slice a1 ks.length c1, .slice a2 zs.length c2, .slice a3 ss.length c3] 4 = .slice a3 ss.length c3 := rfl
  generalize frame0 [Value.string row, .string key, .slice a1 ks.length c1, .slice a2 zs.length c2, .slice a3 ss.length c3] = σ at *
  refine wp_seq_k (fun K1 hK1 => ?_)
  refine reg ?_
  refine sq rfl (do_assign ck) ?_
  refine wnil ?_
  refine hK1 _ _ ?_
  clear hK1
  refine wp_seq_k (fun K2 hK2 => ?_)
  refine wp_seq_k (fun K3 hK3 => ?_)
  refine reg ?_
  refine sq rfl (do_move (tm rfl (nx rfl s0))) ?_
  refine sq rfl (do_lenStr Try.underlying9 (tm rfl hit)) ?_
  refine sq rfl (do_move (tm rfl (nx rfl (nx rfl (nx rfl s1))))) ?_
  refine sq rfl (do_lenStr Try.underlying9 (tm rfl hit)) ?_
  refine sq rfl (do_lssF (tm rfl (nx rfl (nx rfl hit))) (tm rfl hit) (by omega)) ?_
  refine sq rfl (do_move (tm rfl hit)) ?_
  refine sqg rfl rfl hit rfl (do_move (tm rfl (nx rfl (nx rfl (nx rfl (nx rfl (nx rfl (nx rfl (nx rfl s0))))))))) ?_
  refine sqg rfl rfl (nx rfl hit) rfl (do_move (tm rfl (nx rfl (nx rfl (nx rfl (nx rfl (nx rfl (nx rfl (nx rfl (nx rfl s1)))))))))) ?_
  refine sqg rfl rfl (nx rfl (nx rfl hit)) rfl (do_lenStr Try.underlying9 (tm rfl hit)) ?_
  refine sqg rfl rfl (nx rfl (nx rfl (nx rfl hit))) rfl (do_sliceS Try.underlying9 (tm rfl (nx rfl (nx rfl hit))) (tm rfl hit) (by omega)) ?_
  refine sqg rfl rfl (nx rfl (nx rfl (nx rfl (nx rfl hit)))) rfl (do_move (tm rfl (nx rfl (nx rfl (nx rfl (nx rfl (nx rfl (nx rfl (nx rfl (nx rfl (nx rfl (nx rfl (nx rfl s1))))))))))))) ?_
  refine sqg rfl rfl (nx rfl (nx rfl (nx rfl (nx rfl (nx rfl hit))))) rfl (do_neqSF (tm rfl (nx rfl hit)) (tm rfl hit) hext) ?_
  refine sq rfl (do_pickF (tm rfl (nx rfl (nx rfl (nx rfl (nx rfl (nx rfl (nx rfl hit))))))) (tm rfl hit)) ?_
  refine cutL ?_
  intro τ4 e4
  have c4_0 := (congrFun e4 0).trans (nx rfl (nx rfl (nx rfl (nx rfl (nx rfl (nx rfl (nx rfl (nx rfl (nx rfl (nx rfl (nx rfl (nx rfl (nx rfl (nx rfl s0))))))))))))))
  have c4_1 := (congrFun e4 1).trans (nx rfl (nx rfl (nx rfl (nx rfl (nx rfl (nx rfl (nx rfl (nx rfl (nx rfl (nx rfl (nx rfl (nx rfl (nx rfl (nx rfl s1))))))))))))))
  have c4_2 := (congrFun e4 2).trans (nx rfl (nx rfl (nx rfl (nx rfl (nx rfl (nx rfl (nx rfl (nx rfl (nx rfl (nx rfl (nx rfl (nx rfl (nx rfl (nx rfl s2))))))))))))))
  have c4_3 := (congrFun e4 3).trans (nx rfl (nx rfl (nx rfl (nx rfl (nx rfl (nx rfl (nx rfl (nx rfl (nx rfl (nx rfl (nx rfl (nx rfl (nx rfl (nx rfl s3))))))))))))))
  have c4_4 := (congrFun e4 4).trans (nx rfl (nx rfl (nx rfl (nx rfl (nx rfl (nx rfl (nx rfl (nx rfl (nx rfl (nx rfl (nx rfl (nx rfl (nx rfl (nx rfl s4))))))))))))))
  have c4_10 := (congrFun e4 10).trans (nx rfl (nx rfl (nx rfl (nx rfl (nx rfl (nx rfl (nx rfl (nx rfl (nx rfl (nx rfl (nx rfl (nx rfl (nx rfl hit)))))))))))))
  have c4_32 := (congrFun e4 32).trans hit
  clear e4
  refine wnil ?_
  refine hK3 _ _ ?_
  clear hK3
  refine cF rfl c4_32 rfl ?_
  refine wp_skip ?_
  refine hK2 _ _ ?_
  clear hK2
  refine wp_seq_k (fun K5 hK5 => ?_)
  refine reg ?_
  refine sq rfl (do_move (tm rfl c4_1)) ?_
  refine sq rfl (do_lenStr Try.underlying9 (tm rfl hit)) ?_
  refine sq rfl (do_assign (tm rfl hit)) ?_
  refine wnil ?_
  refine hK5 _ _ ?_
  clear hK5
  refine wp_seq_k (fun K6 hK6 => ?_)
  refine wp_seq_k (fun K7 hK7 => ?_)
  refine reg ?_
  refine sq rfl (do_assign (v := .int .i64 ((0 : Nat) : Int)) rfl) ?_
  refine cutL ?_
  intro τ8 e8
  have c8_0 := (congrFun e8 0).trans (nx rfl (nx rfl (nx rfl (nx rfl c4_0))))
  have c8_1 := (congrFun e8 1).trans (nx rfl (nx rfl (nx rfl (nx rfl c4_1))))
  have c8_2 := (congrFun e8 2).trans (nx rfl (nx rfl (nx rfl (nx rfl c4_2))))
  have c8_3 := (congrFun e8 3).trans (nx rfl (nx rfl (nx rfl (nx rfl c4_3))))
  have c8_4 := (congrFun e8 4).trans (nx rfl (nx rfl (nx rfl (nx rfl c4_4))))
  have c8_10 := (congrFun e8 10).trans (nx rfl (nx rfl (nx rfl (nx rfl c4_10))))
  have c8_11 := (congrFun e8 11).trans (nx rfl hit)
  have c8_12 := (congrFun e8 12).trans hit
  clear e8
  refine wnil ?_
  refine hK7 _ _ ?_
  clear hK7
  refine forLoop (N := 145) (fun k τ wi => ∃ i p : Nat, k = ks.length - i ∧ i ≤ ks.length ∧ p ≤ R.length ∧ R.drop p = (fs.drop i).flatMap enc ∧ τ 0 = .string row ∧ τ 2 = .slice a1 ks.length c1 ∧ τ 3 = .slice a2 zs.length c2 ∧ τ 4 = .slice a3 ss.length c3 ∧
      τ 11 = .int .i64 (p : Int) ∧ τ 12 = .int .i64 (i : Int) ∧ Below w.heap.size w wi)
    (fun τ wi => τ 0 = .string row ∧ τ 11 = .int .i64 (R.length : Int) ∧ Below w.heap.size w wi) ks.length ?_ ?_ ?_
  · exact ⟨0, key.size, rfl, Nat.zero_le _, hkr, hst, c8_0, c8_2, c8_3, c8_4, c8_11, c8_12, Below.refl _ _⟩
  · clear s0 s1 s2 s3 s4
    rintro Q' k τ wi hnn hx hr ⟨i, p, rfl, hi, hp, hd, t0, t2, t3, t4, t11, t12, hbi⟩
    refine wp_seq_k (fun K9 hK9 => ?_)
    refine wp_seq_k (fun K10 hK10 => ?_)
    refine reg ?_
    refine sq rfl (do_move (tm rfl t12)) ?_
    refine sq rfl (do_move (tm rfl (nx rfl t2))) ?_
    refine sq rfl (do_len Try.underlying23 (tm rfl hit)) ?_
    refine sq rfl (do_lss (tm rfl (nx rfl (nx rfl hit))) (tm rfl hit)) ?_
    refine cutL ?_
    intro τ11 e11
    have c11_0 := (congrFun e11 0).trans (nx rfl (nx rfl (nx rfl (nx rfl t0))))
    have c11_2 := (congrFun e11 2).trans (nx rfl (nx rfl (nx rfl (nx rfl t2))))
    have c11_3 := (congrFun e11 3).trans (nx rfl (nx rfl (nx rfl (nx rfl t3))))
    have c11_4 := (congrFun e11 4).trans (nx rfl (nx rfl (nx rfl (nx rfl t4))))
    have c11_11 := (congrFun e11 11).trans (nx rfl (nx rfl (nx rfl (nx rfl t11))))
    have c11_12 := (congrFun e11 12).trans (nx rfl (nx rfl (nx rfl (nx rfl t12))))
    have c11_38 := (congrFun e11 38).trans hit
    clear e11
    refine wnil ?_
    refine hK10 _ _ ?_
    clear hK10
    by_cases h : i < ks.length
    · refine cT rfl c11_38 (by simpa using h) ?_
      refine wp_skip ?_
      refine hK9 _ _ ?_
      clear hK9
      rw [hdrop i h] at hd
      have hki := hk ks[i] (List.getElem_mem _)
      have hzi := hz zs[i] (List.getElem_mem _)
      have hsi := l3 ss[i] (List.getElem_mem _)
      obtain ⟨b1, o1, rfl, hc1⟩ := hK i h
      obtain ⟨b2, o2, rfl, hc2⟩ := hN i (by omega)
      obtain ⟨b3, o3, rfl, hc3⟩ := hS i (by omega)
      have hc1' : ∀ wj, Below w.heap.size w wj → wj.cell? ⟨b1, o1 + i, none⟩ = some (.int .u8 ks[i]) := fun wj hb => by rw [hb.cell (World.block_lt_of_cell? w _ hc1)]; exact hc1
      have hc2' : ∀ wj, Below w.heap.size w wj → wj.cell? ⟨b2, o2 + i, none⟩ = some (.int .i64 zs[i]) := fun wj hb => by rw [hb.cell (World.block_lt_of_cell? w _ hc2)]; exact hc2
      have hc3' : ∀ wj, Below w.heap.size w wj → wj.cell? ⟨b3, o3 + i, none⟩ = some (.string ss[i]) := fun wj hb => by rw [hb.cell (World.block_lt_of_cell? w _ hc3)]; exact hc3
      obtain ⟨kb, tl, hen, hkb⟩ : ∃ (kb : Bool) (tl : List UInt8), enc (ks[i] == 1, zs[i], ss[i]) = UInt8.ofNat (kd kb) :: tl ∧ ks[i] = (kd kb : Int) ∧ (kb = true → tl = le8 (uOf zs[i])) ∧ (kb = false → tl = uv ss[i].size ++ ss[i].data.toList) := by
        rcases hki with e | e
        · exact ⟨true, _, by rw [e]; rfl, by rw [e]; rfl, fun _ => rfl, fun h => by cases h⟩
        · exact ⟨false, _, by rw [e]; rfl, by rw [e]; rfl, fun h => (by cases h), fun _ => rfl⟩
      obtain ⟨hkb, htT, htF⟩ := hkb
      rw [hen, List.cons_append] at hd
      have hd1 : R.drop p = [UInt8.ofNat (kd kb)] ++ (tl ++ (fs.drop (i + 1)).flatMap enc) := hd
      have hpl := drop_lt hd1 (by simp)
      have hr0 : row[p]? = some (UInt8.ofNat (kd kb)) := by rw [hget]; exact drop_get (x := 0) hd1 (by simp)
      have hd2 := drop_next hd1
      have hbn : (((UInt8.ofNat (kd kb)).toNat : Nat) : Int) = (kd kb : Int) := by cases kb <;> rfl
      simp only [List.length_cons, List.length_nil, Nat.zero_add] at hpl hd2
      clear hd hd1 hen hki
      refine wp_seq_k (fun K12 hK12 => ?_)
      refine wp_block ?_
      refine wp_seq_k (fun K13 hK13 => ?_)
      refine wp_seq_k (fun K14 hK14 => ?_)
      refine reg ?_
      refine sq rfl (do_move (tm rfl c11_11)) ?_
      refine sq rfl (do_move (tm rfl (nx rfl c11_0))) ?_
      refine sq rfl (do_lenStr Try.underlying9 (tm rfl hit)) ?_
      refine sq rfl (do_geq (tm rfl (nx rfl (nx rfl hit))) (tm rfl hit)) ?_
      refine cutL ?_
      intro τ15 e15
      have c15_0 := (congrFun e15 0).trans (nx rfl (nx rfl (nx rfl (nx rfl c11_0))))
      have c15_2 := (congrFun e15 2).trans (nx rfl (nx rfl (nx rfl (nx rfl c11_2))))
      have c15_3 := (congrFun e15 3).trans (nx rfl (nx rfl (nx rfl (nx rfl c11_3))))
      have c15_4 := (congrFun e15 4).trans (nx rfl (nx rfl (nx rfl (nx rfl c11_4))))
      have c15_11 := (congrFun e15 11).trans (nx rfl (nx rfl (nx rfl (nx rfl c11_11))))
      have c15_12 := (congrFun e15 12).trans (nx rfl (nx rfl (nx rfl (nx rfl c11_12))))
      have c15_44 := (congrFun e15 44).trans hit
      clear e15
      refine wnil ?_
      refine hK14 _ _ ?_
      clear hK14
      refine cF rfl c15_44 (by simp; omega) ?_
      refine wp_skip ?_
      refine hK13 _ _ ?_
      clear hK13
      refine wp_seq_k (fun K16 hK16 => ?_)
      refine reg ?_
      refine sq rfl (do_move (tm rfl c15_0)) ?_
      refine sq rfl (do_move (tm rfl (nx rfl c15_11))) ?_
      refine sq rfl (do_indexS Try.underlying9 (tm rfl (nx rfl hit)) (tm rfl hit) hr0) ?_
      refine sq rfl (do_assign (tm rfl hit)) ?_
      refine cutL ?_
      intro τ17 e17
      have c17_0 := (congrFun e17 0).trans (nx rfl (nx rfl (nx rfl (nx rfl c15_0))))
      have c17_2 := (congrFun e17 2).trans (nx rfl (nx rfl (nx rfl (nx rfl c15_2))))
      have c17_3 := (congrFun e17 3).trans (nx rfl (nx rfl (nx rfl (nx rfl c15_3))))
      have c17_4 := (congrFun e17 4).trans (nx rfl (nx rfl (nx rfl (nx rfl c15_4))))
      have c17_11 := (congrFun e17 11).trans (nx rfl (nx rfl (nx rfl (nx rfl c15_11))))
      have c17_12 := (congrFun e17 12).trans (nx rfl (nx rfl (nx rfl (nx rfl c15_12))))
      have c17_13 := (congrFun e17 13).trans hit
      clear e17
      refine wnil ?_
      refine hK16 _ _ ?_
      clear hK16
      refine wp_seq_k (fun K18 hK18 => ?_)
      refine reg ?_
      refine sq rfl (do_move (tm rfl c17_11)) ?_
      refine sq rfl (do_inc (tm rfl hit) ck (by omega)) ?_
      refine sq rfl (do_assign (tm rfl hit)) ?_
      refine wnil ?_
      refine hK18 _ _ ?_
      clear hK18
      refine wp_seq_k (fun K19 hK19 => ?_)
      refine wp_seq_k (fun K20 hK20 => ?_)
      refine reg ?_
      refine sq rfl (do_move (tm rfl (nx rfl (nx rfl (nx rfl c17_13))))) ?_
      refine sq rfl (do_move (tm rfl (nx rfl (nx rfl (nx rfl (nx rfl c17_2)))))) ?_
      refine sq rfl (do_move (tm rfl (nx rfl (nx rfl (nx rfl (nx rfl (nx rfl c17_12))))))) ?_
      refine sq rfl (io23 (tm rfl (nx rfl hit)) (tm rfl hit) (by omega)) ?_
      refine sq rfl (do_load T5 rfl (tm rfl hit) (hc1' _ hbi)) ?_
      refine sq rfl (do_neqK (tm rfl (nx rfl (nx rfl (nx rfl (nx rfl hit))))) (tm rfl hit) (r := false) (by rw [hbn, hkb]; simp)) ?_
      refine cutL ?_
      intro τ21 e21
      have c21_0 := (congrFun e21 0).trans (nx rfl (nx rfl (nx rfl (nx rfl (nx rfl (nx rfl (nx rfl (nx rfl (nx rfl c17_0)))))))))
      have c21_2 := (congrFun e21 2).trans (nx rfl (nx rfl (nx rfl (nx rfl (nx rfl (nx rfl (nx rfl (nx rfl (nx rfl c17_2)))))))))
      have c21_3 := (congrFun e21 3).trans (nx rfl (nx rfl (nx rfl (nx rfl (nx rfl (nx rfl (nx rfl (nx rfl (nx rfl c17_3)))))))))
      have c21_4 := (congrFun e21 4).trans (nx rfl (nx rfl (nx rfl (nx rfl (nx rfl (nx rfl (nx rfl (nx rfl (nx rfl c17_4)))))))))
      have c21_11 := (congrFun e21 11).trans (nx rfl (nx rfl (nx rfl (nx rfl (nx rfl (nx rfl hit))))))
      have c21_12 := (congrFun e21 12).trans (nx rfl (nx rfl (nx rfl (nx rfl (nx rfl (nx rfl (nx rfl (nx rfl (nx rfl c17_12)))))))))
      have c21_13 := (congrFun e21 13).trans (nx rfl (nx rfl (nx rfl (nx rfl (nx rfl (nx rfl (nx rfl (nx rfl (nx rfl c17_13)))))))))
      have c21_55 := (congrFun e21 55).trans hit
      clear e21
      refine wnil ?_
      refine hK20 _ _ ?_
      clear hK20
      refine cF rfl c21_55 rfl ?_
      refine wp_skip ?_
      refine hK19 _ _ ?_
      clear hK19
      refine wp_seq_k (fun K22 hK22 => ?_)
      refine wp_seq_k (fun K23 hK23 => ?_)
      refine reg ?_
      refine sq rfl (do_move (tm rfl c21_13)) ?_
      refine sq rfl (do_eqlK (tm rfl hit) ck (r := kb) (by rw [hbn]; cases kb <;> rfl)) ?_
      refine wnil ?_
      refine hK23 _ _ ?_
      clear hK23
      cases kb with
      | true =>
        refine cT rfl hit rfl ?_
        obtain rfl := htT rfl
        have hl8 := drop_lt hd2 (by rw [le8_length]; omega)
        rw [le8_length] at hl8
        have hu : uOf zs[i] < 2 ^ 64 := uOf_lt _
        generalize hU : uOf zs[i] = U at *
        refine wp_seq_k (fun K24 hK24 => ?_)
        refine wp_seq_k (fun K25 hK25 => ?_)
        refine reg ?_
        refine sq rfl (do_move (tm rfl (nx rfl (nx rfl c21_0)))) ?_
        refine sq rfl (do_lenStr Try.underlying9 (tm rfl hit)) ?_
        refine sq rfl (do_move (tm rfl (nx rfl (nx rfl (nx rfl (nx rfl c21_11)))))) ?_
        refine sq rfl (do_sub (tm rfl (nx rfl hit)) (tm rfl hit) (by omega)) ?_
        refine sq rfl (do_lss (tm rfl hit) ck) ?_
        refine cutL ?_
        intro τ26 e26
        have c26_0 := (congrFun e26 0).trans (nx rfl (nx rfl (nx rfl (nx rfl (nx rfl (nx rfl (nx rfl c21_0)))))))
        have c26_2 := (congrFun e26 2).trans (nx rfl (nx rfl (nx rfl (nx rfl (nx rfl (nx rfl (nx rfl c21_2)))))))
        have c26_3 := (congrFun e26 3).trans (nx rfl (nx rfl (nx rfl (nx rfl (nx rfl (nx rfl (nx rfl c21_3)))))))
        have c26_4 := (congrFun e26 4).trans (nx rfl (nx rfl (nx rfl (nx rfl (nx rfl (nx rfl (nx rfl c21_4)))))))
        have c26_11 := (congrFun e26 11).trans (nx rfl (nx rfl (nx rfl (nx rfl (nx rfl (nx rfl (nx rfl c21_11)))))))
        have c26_12 := (congrFun e26 12).trans (nx rfl (nx rfl (nx rfl (nx rfl (nx rfl (nx rfl (nx rfl c21_12)))))))
        have c26_13 := (congrFun e26 13).trans (nx rfl (nx rfl (nx rfl (nx rfl (nx rfl (nx rfl (nx rfl c21_13)))))))
        have c26_62 := (congrFun e26 62).trans hit
        clear e26
        refine wnil ?_
        refine hK25 _ _ ?_
        clear hK25
        refine cF rfl c26_62 (by simp; omega) ?_
        refine wp_skip ?_
        refine hK24 _ _ ?_
        clear hK24
        refine wp_seq_k (fun K27 hK27 => ?_)
        refine reg ?_
        refine sq rfl (do_assign (v := .int .u64 ((0 : Nat) : Int)) rfl) ?_
        refine wnil ?_
        refine hK27 _ _ ?_
        clear hK27
        refine wp_seq_k (fun K28 hK28 => ?_)
        refine wp_seq_k (fun K29 hK29 => ?_)
        refine reg ?_
        refine sq rfl (do_assign (v := .int .i64 (7 - ((0 : Nat) : Int))) rfl) ?_
        refine wnil ?_
        refine hK29 _ _ ?_
        clear hK29
        refine forLoop (N := 145) (fun k τ wj => ∃ j : Nat, k = 8 - j ∧ j ≤ 8 ∧ τ 0 = .string row ∧ τ 2 = .slice (some ⟨b1, o1, none⟩) ks.length c1 ∧ τ 3 = .slice (some ⟨b2, o2, none⟩) zs.length c2 ∧ τ 4 = .slice (some ⟨b3, o3, none⟩) ss.length c3 ∧
            τ 11 = .int .i64 ((p + 1 : Nat) : Int) ∧ τ 12 = .int .i64 (i : Int) ∧ τ 14 = .int .u64 ((U / 2 ^ (8 * (8 - j)) : Nat) : Int) ∧ τ 15 = .int .i64 (7 - (j : Int)) ∧ wj = wi)
          (fun τ wj => τ 0 = .string row ∧ τ 2 = .slice (some ⟨b1, o1, none⟩) ks.length c1 ∧ τ 3 = .slice (some ⟨b2, o2, none⟩) zs.length c2 ∧ τ 4 = .slice (some ⟨b3, o3, none⟩) ss.length c3 ∧
            τ 11 = .int .i64 ((p + 1 : Nat) : Int) ∧ τ 12 = .int .i64 (i : Int) ∧ τ 14 = .int .u64 (U : Int) ∧ wj = wi) 8 ?_ ?_ ?_
        · refine ⟨0, rfl, by omega, (nx rfl (nx rfl c26_0)), (nx rfl (nx rfl c26_2)), (nx rfl (nx rfl c26_3)), (nx rfl (nx rfl c26_4)), (nx rfl (nx rfl c26_11)), (nx rfl (nx rfl c26_12)), ?_, hit, rfl⟩
          rw [show U / 2 ^ (8 * (8 - 0)) = 0 from Nat.div_eq_of_lt (by simpa using hu)]
          exact (nx rfl hit)
        · rintro Q'' k ξ wj hnn' hx' hr' ⟨j, rfl, hj, x0, x2, x3, x4, x11, x12, x14, x15, rfl⟩
          by_cases h' : j < 8
          · replace x15 : ξ 15 = .int .i64 ((7 - j : Nat) : Int) := by rw [x15]; congr 1; omega
            refine wp_seq_k (fun K30 hK30 => ?_)
            refine wp_seq_k (fun K31 hK31 => ?_)
            refine reg ?_
            refine sq rfl (do_move (tm rfl x15)) ?_
            refine sq rfl (do_geq (tm rfl hit) ck) ?_
            refine wnil ?_
            refine hK31 _ _ ?_
            clear hK31
            refine cT rfl hit (by simp) ?_
            refine wp_skip ?_
            refine hK30 _ _ ?_
            clear hK30
            have hb : row[p + 1 + (7 - j)]? = some (UInt8.ofNat (U / 2 ^ (8 * (7 - j)))) := by
              rw [hget, drop_get hd2 (by rw [le8_length]; omega), le8_get U (7 - j) (by omega)]
            have hbt : (((UInt8.ofNat (U / 2 ^ (8 * (7 - j)))).toNat : Nat) : Int) = ((U / 2 ^ (8 * (7 - j)) % 256 : Nat) : Int) := by simp
            have hlt1 : U / 2 ^ (8 * (8 - j)) < 2 ^ 56 := by
              refine Nat.div_lt_of_lt_mul ?_
              have : (2 : Nat) ^ 8 ≤ 2 ^ (8 * (8 - j)) := Nat.pow_le_pow_right (by omega) (by omega)
              calc U < 2 ^ 8 * 2 ^ 56 := by omega
                _ ≤ 2 ^ (8 * (8 - j)) * 2 ^ 56 := Nat.mul_le_mul_right _ this
            have hsh : IntKind.u64.wrap (((U / 2 ^ (8 * (8 - j)) : Nat) : Int) * 2 ^ 8) = ((U / 2 ^ (8 * (8 - j)) * 2 ^ 8 : Nat) : Int) := by
              rw [wrap_u64]; omega
            have hcv : IntKind.u64.wrap (((UInt8.ofNat (U / 2 ^ (8 * (7 - j)))).toNat : Nat) : Int) = ((U / 2 ^ (8 * (7 - j)) % 256 : Nat) : Int) := by
              rw [hbt, wrap_u64]; omega
            have hor : IntKind.u64.wrap ((BitVec.ofInt IntKind.u64.bits ((U / 2 ^ (8 * (8 - j)) * 2 ^ 8 : Nat) : Int) ||| BitVec.ofInt IntKind.u64.bits ((U / 2 ^ (8 * (7 - j)) % 256 : Nat) : Int)).toNat : Int) = ((U / 2 ^ (8 * (8 - (j + 1))) : Nat) : Int) := by
              rw [or_u64 _ _ (by omega) (by omega), or_add _ _ 8 (by omega)]
              have := u_step U (7 - j)
              rw [show 7 - j + 1 = 8 - j by omega] at this
              rw [show 8 - (j + 1) = 7 - j by omega]
              omega
            refine wp_seq_k (fun K32 hK32 => ?_)
            refine wp_block ?_
            refine reg ?_
            refine sq rfl (do_move (tm rfl (nx rfl (nx rfl x14)))) ?_
            refine sq rfl (do_shl (n := 8) (tm rfl hit) ck (by decide) hsh) ?_
            refine sq rfl (do_move (tm rfl (nx rfl (nx rfl (nx rfl (nx rfl x0)))))) ?_
            refine sq rfl (do_move (tm rfl (nx rfl (nx rfl (nx rfl (nx rfl (nx rfl x11))))))) ?_
            refine sq rfl (do_move (tm rfl (nx rfl (nx rfl (nx rfl (nx rfl (nx rfl (nx rfl x15)))))))) ?_
            refine sq rfl (do_addM (tm rfl (nx rfl hit)) (tm rfl hit) (by omega)) ?_
            refine sq rfl (do_indexS Try.underlying9 (tm rfl (nx rfl (nx rfl (nx rfl hit)))) (tm rfl hit) hb) ?_
            refine sq rfl (do_conv Try.underlying5 Try.underlying54 (tm rfl hit) hcv) ?_
            refine sq rfl (do_or (tm rfl (nx rfl (nx rfl (nx rfl (nx rfl (nx rfl (nx rfl hit))))))) (tm rfl hit) hor) ?_
            refine sq rfl (do_assign (tm rfl hit)) ?_
            refine cutL ?_
            intro τ33 e33
            have c33_0 := (congrFun e33 0).trans (nx rfl (nx rfl (nx rfl (nx rfl (nx rfl (nx rfl (nx rfl (nx rfl (nx rfl (nx rfl (nx rfl (nx rfl x0))))))))))))
            have c33_2 := (congrFun e33 2).trans (nx rfl (nx rfl (nx rfl (nx rfl (nx rfl (nx rfl (nx rfl (nx rfl (nx rfl (nx rfl (nx rfl (nx rfl x2))))))))))))
            have c33_3 := (congrFun e33 3).trans (nx rfl (nx rfl (nx rfl (nx rfl (nx rfl (nx rfl (nx rfl (nx rfl (nx rfl (nx rfl (nx rfl (nx rfl x3))))))))))))
            have c33_4 := (congrFun e33 4).trans (nx rfl (nx rfl (nx rfl (nx rfl (nx rfl (nx rfl (nx rfl (nx rfl (nx rfl (nx rfl (nx rfl (nx rfl x4))))))))))))
            have c33_11 := (congrFun e33 11).trans (nx rfl (nx rfl (nx rfl (nx rfl (nx rfl (nx rfl (nx rfl (nx rfl (nx rfl (nx rfl (nx rfl (nx rfl x11))))))))))))
            have c33_12 := (congrFun e33 12).trans (nx rfl (nx rfl (nx rfl (nx rfl (nx rfl (nx rfl (nx rfl (nx rfl (nx rfl (nx rfl (nx rfl (nx rfl x12))))))))))))
            have c33_14 := (congrFun e33 14).trans hit
            have c33_15 := (congrFun e33 15).trans (nx rfl (nx rfl (nx rfl (nx rfl (nx rfl (nx rfl (nx rfl (nx rfl (nx rfl (nx rfl (nx rfl (nx rfl x15))))))))))))
            clear e33
            refine wnil ?_
            refine inBN ?_
            refine hK32 _ _ ?_
            clear hK32
            refine reg ?_
            refine sq rfl (do_move (tm rfl c33_15)) ?_
            refine sq rfl (do_sub (tm rfl hit) ck (by omega)) ?_
            refine sq rfl (do_assign (tm rfl hit)) ?_
            refine wnil ?_
            refine hnn' (8 - (j + 1)) _ _ (by omega) ⟨j + 1, rfl, by omega, (nx rfl (nx rfl (nx rfl c33_0))), (nx rfl (nx rfl (nx rfl c33_2))), (nx rfl (nx rfl (nx rfl c33_3))), (nx rfl (nx rfl (nx rfl c33_4))), (nx rfl (nx rfl (nx rfl c33_11))), (nx rfl (nx rfl (nx rfl c33_12))), (nx rfl (nx rfl (nx rfl c33_14))), ?_, rfl⟩
            rw [show 7 - ((j + 1 : Nat) : Int) = ((7 - j : Nat) : Int) - 1 by omega]
            exact hit
          · refine wp_seq_k (fun K34 hK34 => ?_)
            refine wp_seq_k (fun K35 hK35 => ?_)
            refine reg ?_
            refine sq rfl (do_move (tm rfl x15)) ?_
            refine sq rfl (do_geq (tm rfl hit) ck) ?_
            refine wnil ?_
            refine hK35 _ _ ?_
            clear hK35
            refine cF rfl hit (by simp; omega) ?_
            refine wp_exit ?_
            refine thenE ?_
            obtain rfl : j = 8 := by omega
            refine hx' _ _ ⟨(nx rfl (nx rfl x0)), (nx rfl (nx rfl x2)), (nx rfl (nx rfl x3)), (nx rfl (nx rfl x4)), (nx rfl (nx rfl x11)), (nx rfl (nx rfl x12)), ?_, rfl⟩
            rw [show U = U / 2 ^ (8 * (8 - 8)) by simp]
            exact (nx rfl (nx rfl x14))
        clear t0 t2 t3 t4 t11 t12
        rintro τ _ ⟨t0, t2, t3, t4, t11, t12, t14, rfl⟩
        refine hK28 _ _ ?_
        clear hK28
        refine wp_seq_k (fun K36 hK36 => ?_)
        refine reg ?_
        refine sq rfl (do_move (tm rfl t11)) ?_
        refine sq rfl (do_addM (b := 8) (tm rfl hit) ck (by omega)) ?_
        refine sq rfl (do_assign (tm rfl hit)) ?_
        refine wnil ?_
        refine hK36 _ _ ?_
        clear hK36
        have hback : IntKind.i64.wrap (U : Int) = zs[i] := by
          rw [← hU, uOf, Int.toNat_of_nonneg (by omega)]
          exact wrap_back _ hzi.1 hzi.2
        refine wp_seq_k (fun K37 hK37 => ?_)
        refine wp_seq_k (fun K38 hK38 => ?_)
        refine reg ?_
        refine sq rfl (do_move (tm rfl (nx rfl (nx rfl (nx rfl t14))))) ?_
        refine sq rfl (do_conv Try.underlying54 Try.underlying2 (tm rfl hit) hback) ?_
        refine sq rfl (do_move (tm rfl (nx rfl (nx rfl (nx rfl (nx rfl (nx rfl t3))))))) ?_
        refine sq rfl (do_move (tm rfl (nx rfl (nx rfl (nx rfl (nx rfl (nx rfl (nx rfl t12)))))))) ?_
        refine sq rfl (io32 (tm rfl (nx rfl hit)) (tm rfl hit) (by omega)) ?_
        refine sq rfl (do_load T2 rfl (tm rfl hit) (hc2' _ hbi)) ?_
        refine sq rfl (do_neqF (tm rfl (nx rfl (nx rfl (nx rfl (nx rfl hit))))) (tm rfl hit) (fun hne => hne rfl)) ?_
        refine cutL ?_
        intro τ39 e39
        have c39_0 := (congrFun e39 0).trans (nx rfl (nx rfl (nx rfl (nx rfl (nx rfl (nx rfl (nx rfl (nx rfl (nx rfl (nx rfl t0))))))))))
        have c39_2 := (congrFun e39 2).trans (nx rfl (nx rfl (nx rfl (nx rfl (nx rfl (nx rfl (nx rfl (nx rfl (nx rfl (nx rfl t2))))))))))
        have c39_3 := (congrFun e39 3).trans (nx rfl (nx rfl (nx rfl (nx rfl (nx rfl (nx rfl (nx rfl (nx rfl (nx rfl (nx rfl t3))))))))))
        have c39_4 := (congrFun e39 4).trans (nx rfl (nx rfl (nx rfl (nx rfl (nx rfl (nx rfl (nx rfl (nx rfl (nx rfl (nx rfl t4))))))))))
        have c39_11 := (congrFun e39 11).trans (nx rfl (nx rfl (nx rfl (nx rfl (nx rfl (nx rfl (nx rfl hit)))))))
        have c39_12 := (congrFun e39 12).trans (nx rfl (nx rfl (nx rfl (nx rfl (nx rfl (nx rfl (nx rfl (nx rfl (nx rfl (nx rfl t12))))))))))
        have c39_14 := (congrFun e39 14).trans (nx rfl (nx rfl (nx rfl (nx rfl (nx rfl (nx rfl (nx rfl (nx rfl (nx rfl (nx rfl t14))))))))))
        have c39_84 := (congrFun e39 84).trans hit
        clear e39
        refine wnil ?_
        refine hK38 _ _ ?_
        clear hK38
        refine cF rfl c39_84 rfl ?_
        refine wp_skip ?_
        refine hK37 _ _ ?_
        clear hK37
        refine wp_exit ?_
        refine thenE ?_
        refine inB ?_
        refine hK12 _ _ ?_
        clear hK12
        refine reg ?_
        refine sq rfl (do_move (tm rfl c39_12)) ?_
        refine sq rfl (do_inc (tm rfl hit) ck (by omega)) ?_
        refine sq rfl (do_assign (tm rfl hit)) ?_
        refine wnil ?_
        have hd3 := drop_next hd2
        rw [le8_length] at hd3
        exact hnn (ks.length - (i + 1)) _ _ (by omega) ⟨i + 1, p + 1 + 8, rfl, by omega, by omega, hd3, (nx rfl (nx rfl (nx rfl c39_0))), (nx rfl (nx rfl (nx rfl c39_2))), (nx rfl (nx rfl (nx rfl c39_3))), (nx rfl (nx rfl (nx rfl c39_4))), (nx rfl (nx rfl (nx rfl c39_11))), hit, hbi⟩
      | false =>
        refine cF rfl hit rfl ?_
        refine wp_skip ?_
        refine hK22 _ _ ?_
        clear hK22
        obtain rfl := htF rfl
        rw [List.append_assoc] at hd2
        refine wp_seq_k (fun K40 hK40 => ?_)
        refine reg ?_
        refine sq rfl (do_assign (v := .int .i64 ((0 : Nat) : Int)) rfl) ?_
        refine wnil ?_
        refine hK40 _ _ ?_
        clear hK40
        refine wp_seq_k (fun K41 hK41 => ?_)
        refine reg ?_
        refine sq rfl (do_assign (v := .int .i64 ((0 : Nat) : Int)) rfl) ?_
        refine cutL ?_
        intro τ42 e42
        have c42_0 := (congrFun e42 0).trans (nx rfl (nx rfl (nx rfl (nx rfl c21_0))))
        have c42_2 := (congrFun e42 2).trans (nx rfl (nx rfl (nx rfl (nx rfl c21_2))))
        have c42_3 := (congrFun e42 3).trans (nx rfl (nx rfl (nx rfl (nx rfl c21_3))))
        have c42_4 := (congrFun e42 4).trans (nx rfl (nx rfl (nx rfl (nx rfl c21_4))))
        have c42_11 := (congrFun e42 11).trans (nx rfl (nx rfl (nx rfl (nx rfl c21_11))))
        have c42_12 := (congrFun e42 12).trans (nx rfl (nx rfl (nx rfl (nx rfl c21_12))))
        have c42_13 := (congrFun e42 13).trans (nx rfl (nx rfl (nx rfl (nx rfl c21_13))))
        have c42_16 := (congrFun e42 16).trans (nx rfl hit)
        have c42_17 := (congrFun e42 17).trans hit
        clear e42
        refine wnil ?_
        refine hK41 _ _ ?_
        clear hK41
        refine wp_seq_k (fun K43 hK43 => ?_)
        refine reg ?_
        refine sq rfl (do_assign ck) ?_
        refine wnil ?_
        refine hK43 _ _ ?_
        clear hK43
        refine wp_seq_k (fun K44 hK44 => ?_)
        refine forLoop (N := 145) (fun k τ wj => τ 0 = .string row ∧ τ 2 = .slice (some ⟨b1, o1, none⟩) ks.length c1 ∧ τ 3 = .slice (some ⟨b2, o2, none⟩) zs.length c2 ∧ τ 4 = .slice (some ⟨b3, o3, none⟩) ss.length c3 ∧ τ 12 = .int .i64 (i : Int) ∧ wj = wi ∧
            ((∃ j m q : Nat, k = m + 1 ∧ m = ss[i].size / 128 ^ j ∧ j ≤ 2 ∧ (0 < j → 0 < m) ∧ q ≤ R.length ∧ R.drop q = uv m ++ (ss[i].data.toList ++ (fs.drop (i + 1)).flatMap enc) ∧
                τ 11 = .int .i64 (q : Int) ∧ τ 16 = .int .i64 ((ss[i].size % 128 ^ j : Nat) : Int) ∧ τ 17 = .int .i64 ((7 * j : Nat) : Int) ∧ τ 18 = .bool false) ∨
             (∃ q : Nat, k = 0 ∧ q ≤ R.length ∧ R.drop q = ss[i].data.toList ++ (fs.drop (i + 1)).flatMap enc ∧ τ 11 = .int .i64 (q : Int) ∧ τ 16 = .int .i64 (ss[i].size : Int) ∧ τ 18 = .bool true)))
          (fun τ wj => τ 0 = .string row ∧ τ 2 = .slice (some ⟨b1, o1, none⟩) ks.length c1 ∧ τ 3 = .slice (some ⟨b2, o2, none⟩) zs.length c2 ∧ τ 4 = .slice (some ⟨b3, o3, none⟩) ss.length c3 ∧ τ 12 = .int .i64 (i : Int) ∧ wj = wi ∧
            ∃ q : Nat, q ≤ R.length ∧ R.drop q = ss[i].data.toList ++ (fs.drop (i + 1)).flatMap enc ∧ τ 11 = .int .i64 (q : Int) ∧ τ 16 = .int .i64 (ss[i].size : Int)) (ss[i].size + 1) ?_ ?_ ?_
        · refine ⟨(nx rfl c42_0), (nx rfl c42_2), (nx rfl c42_3), (nx rfl c42_4), (nx rfl c42_12), rfl, .inl ⟨0, ss[i].size, p + 1, rfl, by simp, by omega, by omega, by omega, hd2, (nx rfl c42_11), ?_, (nx rfl c42_17), hit⟩⟩
          rw [show ss[i].size % 128 ^ 0 = 0 by rw [Nat.pow_zero, Nat.mod_one]]
          exact (nx rfl c42_16)
        · rintro Q'' k ξ wj hnn' hx' hr' ⟨x0, x2, x3, x4, x12, rfl, ⟨j, m, q, rfl, hm, hj, hjm, hq, hdq, x11, x16, x17, x18⟩ | ⟨q, rfl, hq, hdq, x11, x16, x18⟩⟩
          · refine wp_seq_k (fun K45 hK45 => ?_)
            refine wp_seq_k (fun K46 hK46 => ?_)
            refine reg ?_
            refine sq rfl (do_move (tm rfl x18)) ?_
            refine sq rfl (do_not (tm rfl hit)) ?_
            refine wnil ?_
            refine hK46 _ _ ?_
            clear hK46
            refine cT rfl hit rfl ?_
            refine wp_skip ?_
            refine hK45 _ _ ?_
            clear hK45
            have hql := drop_lt hdq (uv_pos m)
            have hup := uv_pos m
            obtain ⟨cb, hcb, hcn, hcm⟩ : ∃ cb : UInt8, (uv m)[0]? = some cb ∧ cb.toNat = (if m < 128 then m else m % 128 + 128) ∧ cb.toNat % 128 = m % 128 := by
              by_cases hm' : m < 128
              · refine ⟨UInt8.ofNat m, by rw [uv_small hm']; rfl, ?_, ?_⟩
                · rw [if_pos hm']; first | (simp; done) | (simp; omega)
                · first | (simp; done) | (simp; omega)
              · refine ⟨UInt8.ofNat (m % 128 + 128), by rw [uv_big hm']; rfl, ?_, ?_⟩
                · rw [if_neg hm']; first | (simp; done) | (simp; omega)
                · first | (simp; done) | (simp; omega)
            have hrq : row[q]? = some cb := by
              rw [hget]
              have := drop_get (x := 0) hdq hup
              rw [Nat.add_zero] at this
              rw [this]
              rw [List.getElem?_eq_getElem hup] at hcb
              exact hcb
            have hcl : cb.toNat < 256 := cb.toNat_lt
            refine wp_block ?_
            refine wp_seq_k (fun K47 hK47 => ?_)
            refine wp_seq_k (fun K48 hK48 => ?_)
            refine reg ?_
            refine sq rfl (do_move (tm rfl (nx rfl (nx rfl x11)))) ?_
            refine sq rfl (do_move (tm rfl (nx rfl (nx rfl (nx rfl x0))))) ?_
            refine sq rfl (do_lenStr Try.underlying9 (tm rfl hit)) ?_
            refine sq rfl (do_geqF (tm rfl (nx rfl (nx rfl hit))) (tm rfl hit) (by omega)) ?_
            refine sq rfl (do_move (tm rfl hit)) ?_
            refine sqg rfl rfl hit rfl (do_move (tm rfl (nx rfl (nx rfl (nx rfl (nx rfl (nx rfl (nx rfl (nx rfl x17))))))))) ?_
            refine sqg rfl rfl (nx rfl hit) rfl (do_gtrF (tm rfl hit) ck (by omega)) ?_
            refine sq rfl (do_pickF (tm rfl (nx rfl (nx rfl hit))) (tm rfl hit)) ?_
            refine cutL ?_
            intro τ49 e49
            have c49_0 := (congrFun e49 0).trans (nx rfl (nx rfl (nx rfl (nx rfl (nx rfl (nx rfl (nx rfl (nx rfl (nx rfl (nx rfl x0))))))))))
            have c49_2 := (congrFun e49 2).trans (nx rfl (nx rfl (nx rfl (nx rfl (nx rfl (nx rfl (nx rfl (nx rfl (nx rfl (nx rfl x2))))))))))
            have c49_3 := (congrFun e49 3).trans (nx rfl (nx rfl (nx rfl (nx rfl (nx rfl (nx rfl (nx rfl (nx rfl (nx rfl (nx rfl x3))))))))))
            have c49_4 := (congrFun e49 4).trans (nx rfl (nx rfl (nx rfl (nx rfl (nx rfl (nx rfl (nx rfl (nx rfl (nx rfl (nx rfl x4))))))))))
            have c49_11 := (congrFun e49 11).trans (nx rfl (nx rfl (nx rfl (nx rfl (nx rfl (nx rfl (nx rfl (nx rfl (nx rfl (nx rfl x11))))))))))
            have c49_12 := (congrFun e49 12).trans (nx rfl (nx rfl (nx rfl (nx rfl (nx rfl (nx rfl (nx rfl (nx rfl (nx rfl (nx rfl x12))))))))))
            have c49_16 := (congrFun e49 16).trans (nx rfl (nx rfl (nx rfl (nx rfl (nx rfl (nx rfl (nx rfl (nx rfl (nx rfl (nx rfl x16))))))))))
            have c49_17 := (congrFun e49 17).trans (nx rfl (nx rfl (nx rfl (nx rfl (nx rfl (nx rfl (nx rfl (nx rfl (nx rfl (nx rfl x17))))))))))
            have c49_18 := (congrFun e49 18).trans (nx rfl (nx rfl (nx rfl (nx rfl (nx rfl (nx rfl (nx rfl (nx rfl (nx rfl (nx rfl x18))))))))))
            have c49_94 := (congrFun e49 94).trans hit
            clear e49
            refine wnil ?_
            refine hK48 _ _ ?_
            clear hK48
            refine cF rfl c49_94 rfl ?_
            refine wp_skip ?_
            refine hK47 _ _ ?_
            clear hK47
            refine wp_seq_k (fun K50 hK50 => ?_)
            refine reg ?_
            refine sq rfl (do_move (tm rfl c49_0)) ?_
            refine sq rfl (do_move (tm rfl (nx rfl c49_11))) ?_
            refine sq rfl (do_indexS Try.underlying9 (tm rfl (nx rfl hit)) (tm rfl hit) hrq) ?_
            refine sq rfl (do_assign (tm rfl hit)) ?_
            refine cutL ?_
            intro τ51 e51
            have c51_0 := (congrFun e51 0).trans (nx rfl (nx rfl (nx rfl (nx rfl c49_0))))
            have c51_2 := (congrFun e51 2).trans (nx rfl (nx rfl (nx rfl (nx rfl c49_2))))
            have c51_3 := (congrFun e51 3).trans (nx rfl (nx rfl (nx rfl (nx rfl c49_3))))
            have c51_4 := (congrFun e51 4).trans (nx rfl (nx rfl (nx rfl (nx rfl c49_4))))
            have c51_11 := (congrFun e51 11).trans (nx rfl (nx rfl (nx rfl (nx rfl c49_11))))
            have c51_12 := (congrFun e51 12).trans (nx rfl (nx rfl (nx rfl (nx rfl c49_12))))
            have c51_16 := (congrFun e51 16).trans (nx rfl (nx rfl (nx rfl (nx rfl c49_16))))
            have c51_17 := (congrFun e51 17).trans (nx rfl (nx rfl (nx rfl (nx rfl c49_17))))
            have c51_18 := (congrFun e51 18).trans (nx rfl (nx rfl (nx rfl (nx rfl c49_18))))
            have c51_19 := (congrFun e51 19).trans hit
            clear e51
            refine wnil ?_
            refine hK50 _ _ ?_
            clear hK50
            refine wp_seq_k (fun K52 hK52 => ?_)
            refine reg ?_
            refine sq rfl (do_move (tm rfl c51_11)) ?_
            refine sq rfl (do_inc (tm rfl hit) ck (by omega)) ?_
            refine sq rfl (do_assign (tm rfl hit)) ?_
            refine wnil ?_
            refine hK52 _ _ ?_
            clear hK52
            have hp7 : (2 : Nat) ^ (7 * j) ≤ 16384 := by
              have : (2 : Nat) ^ (7 * j) ≤ 2 ^ 14 := Nat.pow_le_pow_right (by omega) (by omega)
              omega
            have hmd : m % 128 * 2 ^ (7 * j) ≤ 127 * 16384 := Nat.mul_le_mul (by omega) hp7
            have hand : IntKind.u8.wrap ((BitVec.ofInt IntKind.u8.bits ((cb.toNat : Nat) : Int) &&& BitVec.ofInt IntKind.u8.bits 127).toNat : Int) = ((m % 128 : Nat) : Int) := by
              rw [and_u8 _ hcl, hcm]
            have hcv : IntKind.i64.wrap ((m % 128 : Nat) : Int) = ((m % 128 : Nat) : Int) := wrap_i64_small _ (by omega)
            have hsh : IntKind.i64.wrap (((m % 128 : Nat) : Int) * 2 ^ (7 * j)) = ((m % 128 * 2 ^ (7 * j) : Nat) : Int) := by
              rw [show ((m % 128 : Nat) : Int) * 2 ^ (7 * j) = ((m % 128 * 2 ^ (7 * j) : Nat) : Int) by simp]
              exact wrap_i64_small _ (by omega)
            have hnl : ss[i].size % 128 ^ j < 2 ^ (7 * j) := by rw [← pow128]; exact Nat.mod_lt _ (Nat.pow_pos (by omega))
            have hor : IntKind.i64.wrap ((BitVec.ofInt IntKind.i64.bits ((ss[i].size % 128 ^ j : Nat) : Int) ||| BitVec.ofInt IntKind.i64.bits ((m % 128 * 2 ^ (7 * j) : Nat) : Int)).toNat : Int) = ((ss[i].size % 128 ^ (j + 1) : Nat) : Int) := by
              rw [or_i64 _ _ (by omega) (by omega), Nat.or_comm, or_add _ _ _ hnl, ← uv_step ss[i].size j m hm, pow128]
              omega
            refine wp_seq_k (fun K53 hK53 => ?_)
            refine reg ?_
            refine sq rfl (do_move (tm rfl (nx rfl (nx rfl (nx rfl c51_16))))) ?_
            refine sq rfl (do_move (tm rfl (nx rfl (nx rfl (nx rfl (nx rfl c51_19)))))) ?_
            refine sq rfl (do_and (tm rfl hit) ck hand) ?_
            refine sq rfl (do_conv Try.underlying5 Try.underlying3 (tm rfl hit) hcv) ?_
            refine sq rfl (do_move (tm rfl (nx rfl (nx rfl (nx rfl (nx rfl (nx rfl (nx rfl (nx rfl c51_17))))))))) ?_
            refine sq rfl (do_shl (n := 7 * j) (tm rfl (nx rfl hit)) (tm rfl hit) (by show 7 * j ≤ 64; omega) hsh) ?_
            refine sq rfl (do_or (tm rfl (nx rfl (nx rfl (nx rfl (nx rfl (nx rfl hit)))))) (tm rfl hit) hor) ?_
            refine sq rfl (do_assign (tm rfl hit)) ?_
            refine cutL ?_
            intro τ54 e54
            have c54_0 := (congrFun e54 0).trans (nx rfl (nx rfl (nx rfl (nx rfl (nx rfl (nx rfl (nx rfl (nx rfl (nx rfl (nx rfl (nx rfl c51_0)))))))))))
            have c54_2 := (congrFun e54 2).trans (nx rfl (nx rfl (nx rfl (nx rfl (nx rfl (nx rfl (nx rfl (nx rfl (nx rfl (nx rfl (nx rfl c51_2)))))))))))
            have c54_3 := (congrFun e54 3).trans (nx rfl (nx rfl (nx rfl (nx rfl (nx rfl (nx rfl (nx rfl (nx rfl (nx rfl (nx rfl (nx rfl c51_3)))))))))))
            have c54_4 := (congrFun e54 4).trans (nx rfl (nx rfl (nx rfl (nx rfl (nx rfl (nx rfl (nx rfl (nx rfl (nx rfl (nx rfl (nx rfl c51_4)))))))))))
            have c54_11 := (congrFun e54 11).trans (nx rfl (nx rfl (nx rfl (nx rfl (nx rfl (nx rfl (nx rfl (nx rfl hit))))))))
            have c54_12 := (congrFun e54 12).trans (nx rfl (nx rfl (nx rfl (nx rfl (nx rfl (nx rfl (nx rfl (nx rfl (nx rfl (nx rfl (nx rfl c51_12)))))))))))
            have c54_16 := (congrFun e54 16).trans hit
            have c54_17 := (congrFun e54 17).trans (nx rfl (nx rfl (nx rfl (nx rfl (nx rfl (nx rfl (nx rfl (nx rfl (nx rfl (nx rfl (nx rfl c51_17)))))))))))
            have c54_18 := (congrFun e54 18).trans (nx rfl (nx rfl (nx rfl (nx rfl (nx rfl (nx rfl (nx rfl (nx rfl (nx rfl (nx rfl (nx rfl c51_18)))))))))))
            have c54_19 := (congrFun e54 19).trans (nx rfl (nx rfl (nx rfl (nx rfl (nx rfl (nx rfl (nx rfl (nx rfl (nx rfl (nx rfl (nx rfl c51_19)))))))))))
            clear e54
            refine wnil ?_
            refine hK53 _ _ ?_
            clear hK53
            by_cases hm' : m < 128
            · rw [if_pos hm'] at hcn
              refine wp_seq_k (fun K55 hK55 => ?_)
              refine reg ?_
              refine sq rfl (do_move (tm rfl c54_19)) ?_
              refine sq rfl (do_lssK (tm rfl hit) ck (r := true) (by rw [hcn]; simp; omega)) ?_
              refine wnil ?_
              refine hK55 _ _ ?_
              clear hK55
              refine cT rfl hit rfl ?_
              have hfin : ss[i].size % 128 ^ (j + 1) = ss[i].size := by
                refine Nat.mod_eq_of_lt ?_
                rw [Nat.pow_succ, Nat.mul_comm]
                exact (Nat.div_lt_iff_lt_mul (Nat.pow_pos (by omega))).1 (by rw [← hm]; exact hm')
              have hdn : R.drop (q + 1) = ss[i].data.toList ++ (fs.drop (i + 1)).flatMap enc := by
                have := drop_next hdq
                rwa [uv_small hm'] at this
              rw [uv_small hm'] at hql
              simp only [List.length_cons, List.length_nil, Nat.zero_add] at hql
              by_cases hm0 : m = 0
              · obtain rfl : j = 0 := by omega
                refine wp_seq_k (fun K56 hK56 => ?_)
                refine wp_seq_k (fun K57 hK57 => ?_)
                refine reg ?_
                refine sq rfl (do_move (tm rfl (nx rfl (nx rfl c54_19)))) ?_
                refine sq rfl (do_eqlK (tm rfl hit) ck (r := true) (by rw [hcn, hm0]; rfl)) ?_
                refine sq rfl (do_move (tm rfl hit)) ?_
                refine sqg rfl rfl hit rfl (do_move (tm rfl (nx rfl (nx rfl (nx rfl (nx rfl (nx rfl c54_17))))))) ?_
                refine sqg rfl rfl (nx rfl hit) rfl (do_gtrF (tm rfl hit) ck (by omega)) ?_
                refine sq rfl (do_pickT (tm rfl (nx rfl (nx rfl hit))) (tm rfl hit)) ?_
                refine cutL ?_
                intro τ58 e58
                have c58_0 := (congrFun e58 0).trans (nx rfl (nx rfl (nx rfl (nx rfl (nx rfl (nx rfl (nx rfl (nx rfl c54_0))))))))
                have c58_2 := (congrFun e58 2).trans (nx rfl (nx rfl (nx rfl (nx rfl (nx rfl (nx rfl (nx rfl (nx rfl c54_2))))))))
                have c58_3 := (congrFun e58 3).trans (nx rfl (nx rfl (nx rfl (nx rfl (nx rfl (nx rfl (nx rfl (nx rfl c54_3))))))))
                have c58_4 := (congrFun e58 4).trans (nx rfl (nx rfl (nx rfl (nx rfl (nx rfl (nx rfl (nx rfl (nx rfl c54_4))))))))
                have c58_11 := (congrFun e58 11).trans (nx rfl (nx rfl (nx rfl (nx rfl (nx rfl (nx rfl (nx rfl (nx rfl c54_11))))))))
                have c58_12 := (congrFun e58 12).trans (nx rfl (nx rfl (nx rfl (nx rfl (nx rfl (nx rfl (nx rfl (nx rfl c54_12))))))))
                have c58_16 := (congrFun e58 16).trans (nx rfl (nx rfl (nx rfl (nx rfl (nx rfl (nx rfl (nx rfl (nx rfl c54_16))))))))
                have c58_17 := (congrFun e58 17).trans (nx rfl (nx rfl (nx rfl (nx rfl (nx rfl (nx rfl (nx rfl (nx rfl c54_17))))))))
                have c58_18 := (congrFun e58 18).trans (nx rfl (nx rfl (nx rfl (nx rfl (nx rfl (nx rfl (nx rfl (nx rfl c54_18))))))))
                have c58_19 := (congrFun e58 19).trans (nx rfl (nx rfl (nx rfl (nx rfl (nx rfl (nx rfl (nx rfl (nx rfl c54_19))))))))
                have c58_114 := (congrFun e58 114).trans hit
                clear e58
                refine wnil ?_
                refine hK57 _ _ ?_
                clear hK57
                refine cF rfl c58_114 rfl ?_
                refine wp_skip ?_
                refine hK56 _ _ ?_
                clear hK56
                refine reg ?_
                refine sq rfl (do_assign ck) ?_
                refine wnil ?_
                refine inBN ?_
                refine hnn' 0 _ _ (by omega) ⟨(nx rfl c58_0), (nx rfl c58_2), (nx rfl c58_3), (nx rfl c58_4), (nx rfl c58_12), rfl, .inr ⟨q + 1, rfl, hql, hdn, (nx rfl c58_11), ?_, hit⟩⟩
                exact Eq.trans (nx rfl c58_16) (by rw [hfin])
              · refine wp_seq_k (fun K59 hK59 => ?_)
                refine wp_seq_k (fun K60 hK60 => ?_)
                refine reg ?_
                refine sq rfl (do_move (tm rfl (nx rfl (nx rfl c54_19)))) ?_
                refine sq rfl (do_eqlK (tm rfl hit) ck (r := false) (by rw [hcn]; simp; omega)) ?_
                refine sq rfl (do_move (tm rfl hit)) ?_
                refine sqs rfl rfl hit rfl rfl ?_
                refine sqs rfl rfl (nx rfl hit) rfl rfl ?_
                refine sq rfl (do_pickF (tm rfl (nx rfl (nx rfl hit))) ck) ?_
                refine cutL ?_
                intro τ61 e61
                have c61_0 := (congrFun e61 0).trans (nx rfl (nx rfl (nx rfl (nx rfl (nx rfl (nx rfl (nx rfl (nx rfl c54_0))))))))
                have c61_2 := (congrFun e61 2).trans (nx rfl (nx rfl (nx rfl (nx rfl (nx rfl (nx rfl (nx rfl (nx rfl c54_2))))))))
                have c61_3 := (congrFun e61 3).trans (nx rfl (nx rfl (nx rfl (nx rfl (nx rfl (nx rfl (nx rfl (nx rfl c54_3))))))))
                have c61_4 := (congrFun e61 4).trans (nx rfl (nx rfl (nx rfl (nx rfl (nx rfl (nx rfl (nx rfl (nx rfl c54_4))))))))
                have c61_11 := (congrFun e61 11).trans (nx rfl (nx rfl (nx rfl (nx rfl (nx rfl (nx rfl (nx rfl (nx rfl c54_11))))))))
                have c61_12 := (congrFun e61 12).trans (nx rfl (nx rfl (nx rfl (nx rfl (nx rfl (nx rfl (nx rfl (nx rfl c54_12))))))))
                have c61_16 := (congrFun e61 16).trans (nx rfl (nx rfl (nx rfl (nx rfl (nx rfl (nx rfl (nx rfl (nx rfl c54_16))))))))
                have c61_17 := (congrFun e61 17).trans (nx rfl (nx rfl (nx rfl (nx rfl (nx rfl (nx rfl (nx rfl (nx rfl c54_17))))))))
                have c61_18 := (congrFun e61 18).trans (nx rfl (nx rfl (nx rfl (nx rfl (nx rfl (nx rfl (nx rfl (nx rfl c54_18))))))))
                have c61_19 := (congrFun e61 19).trans (nx rfl (nx rfl (nx rfl (nx rfl (nx rfl (nx rfl (nx rfl (nx rfl c54_19))))))))
                have c61_114 := (congrFun e61 114).trans hit
                clear e61
                refine wnil ?_
                refine hK60 _ _ ?_
                clear hK60
                refine cF rfl c61_114 rfl ?_
                refine wp_skip ?_
                refine hK59 _ _ ?_
                clear hK59
                refine reg ?_
                refine sq rfl (do_assign ck) ?_
                refine wnil ?_
                refine inBN ?_
                refine hnn' 0 _ _ (by omega) ⟨(nx rfl c61_0), (nx rfl c61_2), (nx rfl c61_3), (nx rfl c61_4), (nx rfl c61_12), rfl, .inr ⟨q + 1, rfl, hql, hdn, (nx rfl c61_11), ?_, hit⟩⟩
                exact Eq.trans (nx rfl c61_16) (by rw [hfin])
            · rw [if_neg hm'] at hcn
              refine wp_seq_k (fun K62 hK62 => ?_)
              refine reg ?_
              refine sq rfl (do_move (tm rfl c54_19)) ?_
              refine sq rfl (do_lssK (tm rfl hit) ck (r := false) (by rw [hcn, decide_eq_false_iff_not]; omega)) ?_
              refine wnil ?_
              refine hK62 _ _ ?_
              clear hK62
              refine cF rfl hit rfl ?_
              refine reg ?_
              refine sq rfl (do_move (tm rfl (nx rfl (nx rfl c54_17)))) ?_
              refine sq rfl (do_addM (b := 7) (tm rfl hit) ck (by omega)) ?_
              refine sq rfl (do_assign (tm rfl hit)) ?_
              refine cutL ?_
              intro τ63 e63
              have c63_0 := (congrFun e63 0).trans (nx rfl (nx rfl (nx rfl (nx rfl (nx rfl c54_0)))))
              have c63_2 := (congrFun e63 2).trans (nx rfl (nx rfl (nx rfl (nx rfl (nx rfl c54_2)))))
              have c63_3 := (congrFun e63 3).trans (nx rfl (nx rfl (nx rfl (nx rfl (nx rfl c54_3)))))
              have c63_4 := (congrFun e63 4).trans (nx rfl (nx rfl (nx rfl (nx rfl (nx rfl c54_4)))))
              have c63_11 := (congrFun e63 11).trans (nx rfl (nx rfl (nx rfl (nx rfl (nx rfl c54_11)))))
              have c63_12 := (congrFun e63 12).trans (nx rfl (nx rfl (nx rfl (nx rfl (nx rfl c54_12)))))
              have c63_16 := (congrFun e63 16).trans (nx rfl (nx rfl (nx rfl (nx rfl (nx rfl c54_16)))))
              have c63_17 := (congrFun e63 17).trans hit
              have c63_18 := (congrFun e63 18).trans (nx rfl (nx rfl (nx rfl (nx rfl (nx rfl c54_18)))))
              have c63_19 := (congrFun e63 19).trans (nx rfl (nx rfl (nx rfl (nx rfl (nx rfl c54_19)))))
              clear e63
              refine wnil ?_
              refine inBN ?_
              have hdn : R.drop (q + 1) = uv (m / 128) ++ (ss[i].data.toList ++ (fs.drop (i + 1)).flatMap enc) := by
                rw [uv_big hm', List.cons_append] at hdq
                have := drop_next (l := [UInt8.ofNat (m % 128 + 128)]) hdq
                exact this
              have hm2 : m / 128 = ss[i].size / 128 ^ (j + 1) := by rw [hm, Nat.pow_succ, Nat.div_div_eq_div_mul]
              have hj1 : j + 1 ≤ 2 := by
                rcases Nat.lt_or_ge j 2 with h'' | h''
                · omega
                · obtain rfl : j = 2 := by omega
                  omega
              exact hnn' (m / 128 + 1) _ _ (by omega) ⟨c63_0, c63_2, c63_3, c63_4, c63_12, rfl, .inl ⟨j + 1, m / 128, q + 1, rfl, hm2, hj1, by omega, by omega, hdn, c63_11, c63_16, c63_17, c63_18⟩⟩
          · refine wp_seq_k (fun K64 hK64 => ?_)
            refine wp_seq_k (fun K65 hK65 => ?_)
            refine reg ?_
            refine sq rfl (do_move (tm rfl x18)) ?_
            refine sq rfl (do_not (tm rfl hit)) ?_
            refine wnil ?_
            refine hK65 _ _ ?_
            clear hK65
            refine cF rfl hit rfl ?_
            refine wp_exit ?_
            refine thenE ?_
            exact hx' _ _ ⟨(nx rfl (nx rfl x0)), (nx rfl (nx rfl x2)), (nx rfl (nx rfl x3)), (nx rfl (nx rfl x4)), (nx rfl (nx rfl x12)), rfl, q, hq, hdq, (nx rfl (nx rfl x11)), (nx rfl (nx rfl x16))⟩
        clear t0 t2 t3 t4 t11 t12
        rintro τ _ ⟨t0, t2, t3, t4, t12, rfl, q, hq, hdq, t11, t16⟩
        refine hK44 _ _ ?_
        clear hK44
        have hsl : ss[i].data.toList.length = ss[i].size := by rw [Array.length_toList]; rfl
        have hqs : q + ss[i].size ≤ R.length := by
          have := congrArg List.length hdq
          rw [List.length_drop, List.length_append, hsl] at this
          omega
        have hex : row.extract q (q + ss[i].size) = ss[i] := by
          rw [← hrow, ba_extract, hdq, Nat.add_sub_cancel_left, ← hsl, List.take_left]
        refine wp_seq_k (fun K66 hK66 => ?_)
        refine wp_seq_k (fun K67 hK67 => ?_)
        refine reg ?_
        refine sq rfl (do_move (tm rfl t16)) ?_
        refine sq rfl (do_lssF (tm rfl hit) ck (by omega)) ?_
        refine sq rfl (do_move (tm rfl hit)) ?_
        refine sqg rfl rfl hit rfl (do_move (tm rfl (nx rfl (nx rfl (nx rfl t0))))) ?_
        refine sqg rfl rfl (nx rfl hit) rfl (do_lenStr Try.underlying9 (tm rfl hit)) ?_
        refine sqg rfl rfl (nx rfl (nx rfl hit)) rfl (do_move (tm rfl (nx rfl (nx rfl (nx rfl (nx rfl (nx rfl t11))))))) ?_
        refine sqg rfl rfl (nx rfl (nx rfl (nx rfl hit))) rfl (do_sub (tm rfl (nx rfl hit)) (tm rfl hit) (by omega)) ?_
        refine sqg rfl rfl (nx rfl (nx rfl (nx rfl (nx rfl hit)))) rfl (do_move (tm rfl (nx rfl (nx rfl (nx rfl (nx rfl (nx rfl (nx rfl (nx rfl t16))))))))) ?_
        refine sqg rfl rfl (nx rfl (nx rfl (nx rfl (nx rfl (nx rfl hit))))) rfl (do_lssF (tm rfl (nx rfl hit)) (tm rfl hit) (by omega)) ?_
        refine sq rfl (do_pickF (tm rfl (nx rfl (nx rfl (nx rfl (nx rfl (nx rfl (nx rfl hit))))))) (tm rfl hit)) ?_
        refine cutL ?_
        intro τ68 e68
        have c68_0 := (congrFun e68 0).trans (nx rfl (nx rfl (nx rfl (nx rfl (nx rfl (nx rfl (nx rfl (nx rfl (nx rfl (nx rfl t0))))))))))
        have c68_2 := (congrFun e68 2).trans (nx rfl (nx rfl (nx rfl (nx rfl (nx rfl (nx rfl (nx rfl (nx rfl (nx rfl (nx rfl t2))))))))))
        have c68_3 := (congrFun e68 3).trans (nx rfl (nx rfl (nx rfl (nx rfl (nx rfl (nx rfl (nx rfl (nx rfl (nx rfl (nx rfl t3))))))))))
        have c68_4 := (congrFun e68 4).trans (nx rfl (nx rfl (nx rfl (nx rfl (nx rfl (nx rfl (nx rfl (nx rfl (nx rfl (nx rfl t4))))))))))
        have c68_11 := (congrFun e68 11).trans (nx rfl (nx rfl (nx rfl (nx rfl (nx rfl (nx rfl (nx rfl (nx rfl (nx rfl (nx rfl t11))))))))))
        have c68_12 := (congrFun e68 12).trans (nx rfl (nx rfl (nx rfl (nx rfl (nx rfl (nx rfl (nx rfl (nx rfl (nx rfl (nx rfl t12))))))))))
        have c68_16 := (congrFun e68 16).trans (nx rfl (nx rfl (nx rfl (nx rfl (nx rfl (nx rfl (nx rfl (nx rfl (nx rfl (nx rfl t16))))))))))
        have c68_126 := (congrFun e68 126).trans hit
        clear e68
        refine wnil ?_
        refine hK67 _ _ ?_
        clear hK67
        refine cF rfl c68_126 rfl ?_
        refine wp_skip ?_
        refine hK66 _ _ ?_
        clear hK66
        refine wp_seq_k (fun K69 hK69 => ?_)
        refine wp_seq_k (fun K70 hK70 => ?_)
        refine draw mixed [] [(0, 0), (0, 0), (0, 0), (0, 0), (0, 0), (0, 0), (0, 0), (0, 0), (0, 0), (0, 0), (0, 0)] [] (World.drew _) (upd (upd (upd (upd (upd (upd (upd (upd (upd (upd (upd _ 127 _) 128 _) 129 _) 130 _) 131 _) 132 _) 133 _) 134 _) 135 _) 136 _) 137 _) (by kernel_rfl) (fun s hs => ovr_off [(127, _), (128, _), (129, _), (130, _), (131, _), (132, _), (133, _), (134, _), (135, _), (136, _), (137, _)] _ s hs) ⟨(qa rfl (fun _ => (do_move (tm rfl (nx rfl (nx rfl (nx rfl (nx rfl (nx rfl (nx rfl (nx rfl (nx rfl (nx rfl (nx rfl (nx rfl c68_0)))))))))))))) (nx rfl (nx rfl (nx rfl (nx rfl (nx rfl (nx rfl (nx rfl (nx rfl (nx rfl (nx rfl hit))))))))))), (qa rfl (fun _ => (do_move (tm rfl (nx rfl (nx rfl (nx rfl (nx rfl (nx rfl (nx rfl (nx rfl (nx rfl (nx rfl (nx rfl (nx rfl c68_11)))))))))))))) (nx rfl (nx rfl (nx rfl (nx rfl (nx rfl (nx rfl (nx rfl (nx rfl (nx rfl hit)))))))))), (qa rfl (fun _ => (do_move (tm rfl (nx rfl (nx rfl (nx rfl (nx rfl (nx rfl (nx rfl (nx rfl (nx rfl (nx rfl (nx rfl (nx rfl c68_11)))))))))))))) (nx rfl (nx rfl (nx rfl (nx rfl (nx rfl (nx rfl (nx rfl (nx rfl hit))))))))), (qa rfl (fun _ => (do_move (tm rfl (nx rfl (nx rfl (nx rfl (nx rfl (nx rfl (nx rfl (nx rfl (nx rfl (nx rfl (nx rfl (nx rfl c68_16)))))))))))))) (nx rfl (nx rfl (nx rfl (nx rfl (nx rfl (nx rfl (nx rfl hit)))))))), (qa rfl (fun _ => (do_addM (tm rfl (nx rfl (nx rfl (nx rfl (nx rfl (nx rfl (nx rfl (nx rfl (nx rfl hit))))))))) (tm rfl (nx rfl (nx rfl (nx rfl (nx rfl (nx rfl (nx rfl (nx rfl hit)))))))) (by omega))) (nx rfl (nx rfl (nx rfl (nx rfl (nx rfl (nx rfl hit))))))), (qa rfl (fun _ => (do_sliceS2 Try.underlying9 (tm rfl (nx rfl (nx rfl (nx rfl (nx rfl (nx rfl (nx rfl (nx rfl (nx rfl (nx rfl (nx rfl hit))))))))))) (tm rfl (nx rfl (nx rfl (nx rfl (nx rfl (nx rfl (nx rfl (nx rfl (nx rfl (nx rfl hit)))))))))) (tm rfl (nx rfl (nx rfl (nx rfl (nx rfl (nx rfl (nx rfl hit))))))) (by omega) (by omega))) (nx rfl (nx rfl (nx rfl (nx rfl (nx rfl hit)))))), (qa rfl (fun _ => (do_move (tm rfl (nx rfl (nx rfl (nx rfl (nx rfl (nx rfl (nx rfl (nx rfl (nx rfl (nx rfl (nx rfl (nx rfl c68_4)))))))))))))) (nx rfl (nx rfl (nx rfl (nx rfl hit))))), (qa rfl (fun _ => (do_move (tm rfl (nx rfl (nx rfl (nx rfl (nx rfl (nx rfl (nx rfl (nx rfl (nx rfl (nx rfl (nx rfl (nx rfl c68_12)))))))))))))) (nx rfl (nx rfl (nx rfl hit)))), (qa rfl (fun _ => (io30 (tm rfl (nx rfl (nx rfl (nx rfl (nx rfl hit))))) (tm rfl (nx rfl (nx rfl (nx rfl hit)))) (by omega))) (nx rfl (nx rfl hit))), (qk rfl (do_load T9 rfl (tm rfl (nx rfl (nx rfl hit))) (hc3' _ hbi.drew)) (nx rfl hit)), (qa rfl (fun _ => (do_neqSF (tm rfl (nx rfl (nx rfl (nx rfl (nx rfl (nx rfl hit)))))) (tm rfl (nx rfl hit)) hex)) hit), trivial⟩ rfl ?_
        intro τ71 e71
        have c71_0 := (congrFun e71 0).trans (nx rfl (nx rfl (nx rfl (nx rfl (nx rfl (nx rfl (nx rfl (nx rfl (nx rfl (nx rfl (nx rfl c68_0)))))))))))
        have c71_2 := (congrFun e71 2).trans (nx rfl (nx rfl (nx rfl (nx rfl (nx rfl (nx rfl (nx rfl (nx rfl (nx rfl (nx rfl (nx rfl c68_2)))))))))))
        have c71_3 := (congrFun e71 3).trans (nx rfl (nx rfl (nx rfl (nx rfl (nx rfl (nx rfl (nx rfl (nx rfl (nx rfl (nx rfl (nx rfl c68_3)))))))))))
        have c71_4 := (congrFun e71 4).trans (nx rfl (nx rfl (nx rfl (nx rfl (nx rfl (nx rfl (nx rfl (nx rfl (nx rfl (nx rfl (nx rfl c68_4)))))))))))
        have c71_11 := (congrFun e71 11).trans (nx rfl (nx rfl (nx rfl (nx rfl (nx rfl (nx rfl (nx rfl (nx rfl (nx rfl (nx rfl (nx rfl c68_11)))))))))))
        have c71_12 := (congrFun e71 12).trans (nx rfl (nx rfl (nx rfl (nx rfl (nx rfl (nx rfl (nx rfl (nx rfl (nx rfl (nx rfl (nx rfl c68_12)))))))))))
        have c71_16 := (congrFun e71 16).trans (nx rfl (nx rfl (nx rfl (nx rfl (nx rfl (nx rfl (nx rfl (nx rfl (nx rfl (nx rfl (nx rfl c68_16)))))))))))
        have c71_137 := (congrFun e71 137).trans hit
        clear e71
        refine hK70 _ _ ?_
        clear hK70
        refine cF rfl c71_137 rfl ?_
        refine wp_skip ?_
        refine hK69 _ _ ?_
        clear hK69
        refine reg ?_
        refine sq rfl (do_move (tm rfl c71_11)) ?_
        refine sq rfl (do_move (tm rfl (nx rfl c71_16))) ?_
        refine sq rfl (do_addM (tm rfl (nx rfl hit)) (tm rfl hit) (by omega)) ?_
        refine sq rfl (do_assign (tm rfl hit)) ?_
        refine cutL ?_
        intro τ72 e72
        have c72_0 := (congrFun e72 0).trans (nx rfl (nx rfl (nx rfl (nx rfl c71_0))))
        have c72_2 := (congrFun e72 2).trans (nx rfl (nx rfl (nx rfl (nx rfl c71_2))))
        have c72_3 := (congrFun e72 3).trans (nx rfl (nx rfl (nx rfl (nx rfl c71_3))))
        have c72_4 := (congrFun e72 4).trans (nx rfl (nx rfl (nx rfl (nx rfl c71_4))))
        have c72_11 := (congrFun e72 11).trans hit
        have c72_12 := (congrFun e72 12).trans (nx rfl (nx rfl (nx rfl (nx rfl c71_12))))
        have c72_16 := (congrFun e72 16).trans (nx rfl (nx rfl (nx rfl (nx rfl c71_16))))
        clear e72
        refine wnil ?_
        refine inBN ?_
        refine hK12 _ _ ?_
        clear hK12
        refine reg ?_
        refine sq rfl (do_move (tm rfl c72_12)) ?_
        refine sq rfl (do_inc (tm rfl hit) ck (by omega)) ?_
        refine sq rfl (do_assign (tm rfl hit)) ?_
        refine wnil ?_
        have hd3 := drop_next hdq
        rw [hsl] at hd3
        exact hnn (ks.length - (i + 1)) _ _ (by omega) ⟨i + 1, q + ss[i].size, rfl, by omega, hqs, hd3, (nx rfl (nx rfl (nx rfl c72_0))), (nx rfl (nx rfl (nx rfl c72_2))), (nx rfl (nx rfl (nx rfl c72_3))), (nx rfl (nx rfl (nx rfl c72_4))), (nx rfl (nx rfl (nx rfl c72_11))), hit, hbi.drew⟩
    · refine cF rfl c11_38 (by simpa using h) ?_
      refine wp_exit ?_
      refine thenE ?_
      obtain rfl : i = ks.length := by omega
      rw [show fs.drop ks.length = [] from List.drop_of_length_le (by omega)] at hd
      have := congrArg List.length hd
      rw [List.length_drop] at this
      simp at this
      obtain rfl : p = R.length := by omega
      exact hx _ _ ⟨c11_0, c11_11, hbi⟩
  clear s0 s1 s2 s3 s4
  rintro τ wi ⟨t0, t11, hbi⟩
  refine hK6 _ _ ?_
  clear hK6
  refine wp_seq_k (fun K73 hK73 => ?_)
  refine reg ?_
  refine sq rfl (do_move (tm rfl t11)) ?_
  refine sq rfl (do_move (tm rfl (nx rfl t0))) ?_
  refine sq rfl (do_lenStr Try.underlying9 (tm rfl hit)) ?_
  refine sq rfl (do_eqlT (tm rfl (nx rfl (nx rfl hit))) (tm rfl hit) (by rw [hsize])) ?_
  refine sq rfl (do_assign (tm rfl hit)) ?_
  refine cutL ?_
  intro τ74 e74
  have c74_0 := (congrFun e74 0).trans (nx rfl (nx rfl (nx rfl (nx rfl (nx rfl t0)))))
  have c74_10 := (congrFun e74 10).trans hit
  have c74_11 := (congrFun e74 11).trans (nx rfl (nx rfl (nx rfl (nx rfl (nx rfl t11)))))
  clear e74
  refine wnil ?_
  refine hK73 _ _ ?_
  clear hK73
  refine wp_ret ?_
  rw [← hQ]
  exact ret1 rfl rfl c74_10 ⟨rfl, hbi⟩
end Go.Proofs.Qxb6000003a
