/-
  FnMakeRowDecodesBackToKeyAndFields: the bounds, the fields' kinds.
-/
import Derived.Test.Qxb6000003aW1
import Derived.Test.Qxb6000003aHq
namespace Go.Proofs.Qxb6000003a
open Go.Fra Go.RowKit
set_option maxRecDepth 100000
set_option linter.unusedVariables false

/-- A slice of bytes that can be read. -/
def U8S (w : World) (v : Value) (ks : List Int) : Prop :=
  ∃ a c, v = .slice a ks.length c ∧ ∀ i (h : i < ks.length), ∃ b o, a = some ⟨b, o, none⟩ ∧ w.cell? ⟨b, o + i, none⟩ = some (.int .u8 ks[i])

theorem bytes22 (w : World) (key : ByteArray) (vk vn vs : Value) (ks zs : List Int) (ss : List ByteArray) (hK : U8S w vk ks) (hN : I64S w vn zs) (hS : StrS w vs ss) :
    Calls Try.prog 22 #[.string key, vk, vn, vs] w fun e w' => ∃ b, e = .returned (.bool b) ∧ w' = w ∧ (b = true → key.size ≤ 1048576 ∧ ks.length ≤ 1048576 ∧ zs.length ≤ 1048576 ∧ ss.length ≤ 1048576 ∧ ∀ s ∈ ss, s.size ≤ 1048576) := by
  obtain ⟨a1, c1, rfl, hK⟩ := hK
  obtain ⟨a2, c2, rfl, hN⟩ := hN
  obtain ⟨a3, c3, rfl, hS⟩ := hS
  refine enter (args := [.string key, .slice a1 ks.length c1, .slice a2 zs.length c2, .slice a3 ss.length c3]) Try.func22 rfl Try.ntmps22 rfl ?_
  generalize hQ : bodyPost Try.prog Try.f22 _ = Q
  have hF : ∀ τ, τ 8 = .bool false → Q .ret (Fr 68 τ) w := by
    intro τ h
    rw [← hQ]
    exact ret1 rfl rfl h ⟨false, rfl, rfl, fun h => by cases h⟩
  have s0 : frame0 [Value.string key, .slice a1 ks.length c1, .slice a2 zs.length c2, .slice a3 ss.length c3] 0 = .string key := rfl
  have s1 : frame0 [Value.string key, .slice a1 ks.length c1, .slice a2 zs.length c2, .slice a3 ss.length c3] 1 = .slice a1 ks.length c1 := rfl
  have s2 : frame0 [Value.string key, .slice a1 ks.length c1, .slice a2 zs.length c2, .slice a3 ss.length c3] 2 = .slice a2 zs.length c2 := rfl
  have s3 : frame0 [Value.string key, .slice a1 ks.length c1, .slice a2 zs.length c2, .slice a3 ss.length c3] 3 = .slice a3 ss.length c3 := rfl
  generalize frame0 [Value.string key, .slice a1 ks.length c1, .slice a2 zs.length c2, .slice a3 ss.length c3] = σ at *
  refine wp_seq_k (fun K1 hK1 => ?_)
  refine reg ?_
  refine sq rfl (do_assign ck) ?_
  refine wnil ?_
  refine hK1 _ _ ?_
  clear hK1
  refine wp_seq_k (fun K2 hK2 => ?_)
  refine reg ?_
  refine sq rfl (do_assign (v := .int .i64 ((0 : Nat) : Int)) rfl) ?_
  refine wnil ?_
  refine hK2 _ _ ?_
  clear hK2
  refine wp_seq_k (fun K3 hK3 => ?_)
  refine wp_seq_k (fun K4 hK4 => ?_)
  refine reg ?_
  refine sq rfl (do_move (tm rfl (nx rfl (nx rfl s0)))) ?_
  refine sq rfl (do_lenStr Try.underlying9 (tm rfl hit)) ?_
  refine sq rfl (do_gtr (tm rfl hit) ck) ?_
  refine cutL ?_
  intro τ5 e5
  have c5_0 := (congrFun e5 0).trans (nx rfl (nx rfl (nx rfl (nx rfl (nx rfl s0)))))
  have c5_1 := (congrFun e5 1).trans (nx rfl (nx rfl (nx rfl (nx rfl (nx rfl s1)))))
  have c5_2 := (congrFun e5 2).trans (nx rfl (nx rfl (nx rfl (nx rfl (nx rfl s2)))))
  have c5_3 := (congrFun e5 3).trans (nx rfl (nx rfl (nx rfl (nx rfl (nx rfl s3)))))
  have c5_8 := (congrFun e5 8).trans (nx rfl (nx rfl (nx rfl (nx rfl hit))))
  have c5_9 := (congrFun e5 9).trans (nx rfl (nx rfl (nx rfl hit)))
  have c5_13 := (congrFun e5 13).trans hit
  clear e5
  refine wnil ?_
  refine hK4 _ _ ?_
  clear hK4
  refine cB rfl c5_13 (fun h1 => ?_) (fun h1 => ?_)
  · refine wp_seq_k (fun K6 hK6 => ?_)
    refine reg ?_
    refine sq rfl (do_assign ck) ?_
    refine wnil ?_
    refine hK6 _ _ ?_
    clear hK6
    refine wp_ret ?_
    refine thenR ?_
    exact hF _ hit 
  refine wp_skip ?_
  refine hK3 _ _ ?_
  clear hK3
  simp at h1
  refine wp_seq_k (fun K7 hK7 => ?_)
  refine reg ?_
  refine sq rfl (do_move (tm rfl c5_9)) ?_
  refine sq rfl (do_move (tm rfl (nx rfl c5_0))) ?_
  refine sq rfl (do_lenStr Try.underlying9 (tm rfl hit)) ?_
  refine sq rfl (do_addM (tm rfl (nx rfl (nx rfl hit))) (tm rfl hit) (by omega)) ?_
  refine sq rfl (do_assign (tm rfl hit)) ?_
  refine cutL ?_
  intro τ8 e8
  have c8_0 := (congrFun e8 0).trans (nx rfl (nx rfl (nx rfl (nx rfl (nx rfl c5_0)))))
  have c8_1 := (congrFun e8 1).trans (nx rfl (nx rfl (nx rfl (nx rfl (nx rfl c5_1)))))
  have c8_2 := (congrFun e8 2).trans (nx rfl (nx rfl (nx rfl (nx rfl (nx rfl c5_2)))))
  have c8_3 := (congrFun e8 3).trans (nx rfl (nx rfl (nx rfl (nx rfl (nx rfl c5_3)))))
  have c8_8 := (congrFun e8 8).trans (nx rfl (nx rfl (nx rfl (nx rfl (nx rfl c5_8)))))
  have c8_9 := (congrFun e8 9).trans hit
  clear e8
  refine wnil ?_
  refine hK7 _ _ ?_
  clear hK7
  refine wp_seq_k (fun K9 hK9 => ?_)
  refine wp_seq_k (fun K10 hK10 => ?_)
  refine reg ?_
  refine sq rfl (do_move (tm rfl c8_9)) ?_
  refine sq rfl (do_gtr (tm rfl hit) ck) ?_
  refine wnil ?_
  refine hK10 _ _ ?_
  clear hK10
  refine cB rfl hit (fun h2 => ?_) (fun h2 => ?_)
  · refine wp_seq_k (fun K11 hK11 => ?_)
    refine reg ?_
    refine sq rfl (do_assign ck) ?_
    refine wnil ?_
    refine hK11 _ _ ?_
    clear hK11
    refine wp_ret ?_
    refine thenR ?_
    exact hF _ hit 
  refine wp_skip ?_
  refine hK9 _ _ ?_
  clear hK9
  simp at h2
  refine wp_seq_k (fun K12 hK12 => ?_)
  refine wp_seq_k (fun K13 hK13 => ?_)
  refine reg ?_
  refine sq rfl (do_move (tm rfl (nx rfl (nx rfl c8_1)))) ?_
  refine sq rfl (do_len Try.underlying23 (tm rfl hit)) ?_
  refine sq rfl (do_gtr (tm rfl hit) ck) ?_
  refine cutL ?_
  intro τ14 e14
  have c14_0 := (congrFun e14 0).trans (nx rfl (nx rfl (nx rfl (nx rfl (nx rfl c8_0)))))
  have c14_1 := (congrFun e14 1).trans (nx rfl (nx rfl (nx rfl (nx rfl (nx rfl c8_1)))))
  have c14_2 := (congrFun e14 2).trans (nx rfl (nx rfl (nx rfl (nx rfl (nx rfl c8_2)))))
  have c14_3 := (congrFun e14 3).trans (nx rfl (nx rfl (nx rfl (nx rfl (nx rfl c8_3)))))
  have c14_8 := (congrFun e14 8).trans (nx rfl (nx rfl (nx rfl (nx rfl (nx rfl c8_8)))))
  have c14_9 := (congrFun e14 9).trans (nx rfl (nx rfl (nx rfl (nx rfl (nx rfl c8_9)))))
  have c14_22 := (congrFun e14 22).trans hit
  clear e14
  refine wnil ?_
  refine hK13 _ _ ?_
  clear hK13
  refine cB rfl c14_22 (fun h3 => ?_) (fun h3 => ?_)
  · refine wp_seq_k (fun K15 hK15 => ?_)
    refine reg ?_
    refine sq rfl (do_assign ck) ?_
    refine wnil ?_
    refine hK15 _ _ ?_
    clear hK15
    refine wp_ret ?_
    refine thenR ?_
    exact hF _ hit 
  refine wp_skip ?_
  refine hK12 _ _ ?_
  clear hK12
  simp at h3
  refine wp_seq_k (fun K16 hK16 => ?_)
  refine reg ?_
  refine sq rfl (do_move (tm rfl c14_9)) ?_
  refine sq rfl (do_move (tm rfl (nx rfl c14_1))) ?_
  refine sq rfl (do_len Try.underlying23 (tm rfl hit)) ?_
  refine sq rfl (do_addM (tm rfl (nx rfl (nx rfl hit))) (tm rfl hit) (by omega)) ?_
  refine sq rfl (do_assign (tm rfl hit)) ?_
  refine cutL ?_
  intro τ17 e17
  have c17_0 := (congrFun e17 0).trans (nx rfl (nx rfl (nx rfl (nx rfl (nx rfl c14_0)))))
  have c17_1 := (congrFun e17 1).trans (nx rfl (nx rfl (nx rfl (nx rfl (nx rfl c14_1)))))
  have c17_2 := (congrFun e17 2).trans (nx rfl (nx rfl (nx rfl (nx rfl (nx rfl c14_2)))))
  have c17_3 := (congrFun e17 3).trans (nx rfl (nx rfl (nx rfl (nx rfl (nx rfl c14_3)))))
  have c17_8 := (congrFun e17 8).trans (nx rfl (nx rfl (nx rfl (nx rfl (nx rfl c14_8)))))
  have c17_9 := (congrFun e17 9).trans hit
  clear e17
  refine wnil ?_
  refine hK16 _ _ ?_
  clear hK16
  refine wp_seq_k (fun K18 hK18 => ?_)
  refine wp_seq_k (fun K19 hK19 => ?_)
  refine reg ?_
  refine sq rfl (do_move (tm rfl c17_9)) ?_
  refine sq rfl (do_gtr (tm rfl hit) ck) ?_
  refine wnil ?_
  refine hK19 _ _ ?_
  clear hK19
  refine cB rfl hit (fun h4 => ?_) (fun h4 => ?_)
  · refine wp_seq_k (fun K20 hK20 => ?_)
    refine reg ?_
    refine sq rfl (do_assign ck) ?_
    refine wnil ?_
    refine hK20 _ _ ?_
    clear hK20
    refine wp_ret ?_
    refine thenR ?_
    exact hF _ hit 
  refine wp_skip ?_
  refine hK18 _ _ ?_
  clear hK18
  simp at h4
  refine wp_seq_k (fun K21 hK21 => ?_)
  refine wp_seq_k (fun K22 hK22 => ?_)
  refine reg ?_
  refine sq rfl (do_move (tm rfl (nx rfl (nx rfl c17_2)))) ?_
  refine sq rfl (do_len Try.underlying32 (tm rfl hit)) ?_
  refine sq rfl (do_gtr (tm rfl hit) ck) ?_
  refine cutL ?_
  intro τ23 e23
  have c23_0 := (congrFun e23 0).trans (nx rfl (nx rfl (nx rfl (nx rfl (nx rfl c17_0)))))
  have c23_1 := (congrFun e23 1).trans (nx rfl (nx rfl (nx rfl (nx rfl (nx rfl c17_1)))))
  have c23_2 := (congrFun e23 2).trans (nx rfl (nx rfl (nx rfl (nx rfl (nx rfl c17_2)))))
  have c23_3 := (congrFun e23 3).trans (nx rfl (nx rfl (nx rfl (nx rfl (nx rfl c17_3)))))
  have c23_8 := (congrFun e23 8).trans (nx rfl (nx rfl (nx rfl (nx rfl (nx rfl c17_8)))))
  have c23_9 := (congrFun e23 9).trans (nx rfl (nx rfl (nx rfl (nx rfl (nx rfl c17_9)))))
  have c23_31 := (congrFun e23 31).trans hit
  clear e23
  refine wnil ?_
  refine hK22 _ _ ?_
  clear hK22
  refine cB rfl c23_31 (fun h5 => ?_) (fun h5 => ?_)
  · refine wp_seq_k (fun K24 hK24 => ?_)
    refine reg ?_
    refine sq rfl (do_assign ck) ?_
    refine wnil ?_
    refine hK24 _ _ ?_
    clear hK24
    refine wp_ret ?_
    refine thenR ?_
    exact hF _ hit 
  refine wp_skip ?_
  refine hK21 _ _ ?_
  clear hK21
  simp at h5
  refine wp_seq_k (fun K25 hK25 => ?_)
  refine reg ?_
  refine sq rfl (do_move (tm rfl c23_9)) ?_
  refine sq rfl (do_move (tm rfl (nx rfl c23_2))) ?_
  refine sq rfl (do_len Try.underlying32 (tm rfl hit)) ?_
  refine sq rfl (do_addM (tm rfl (nx rfl (nx rfl hit))) (tm rfl hit) (by omega)) ?_
  refine sq rfl (do_assign (tm rfl hit)) ?_
  refine cutL ?_
  intro τ26 e26
  have c26_0 := (congrFun e26 0).trans (nx rfl (nx rfl (nx rfl (nx rfl (nx rfl c23_0)))))
  have c26_1 := (congrFun e26 1).trans (nx rfl (nx rfl (nx rfl (nx rfl (nx rfl c23_1)))))
  have c26_2 := (congrFun e26 2).trans (nx rfl (nx rfl (nx rfl (nx rfl (nx rfl c23_2)))))
  have c26_3 := (congrFun e26 3).trans (nx rfl (nx rfl (nx rfl (nx rfl (nx rfl c23_3)))))
  have c26_8 := (congrFun e26 8).trans (nx rfl (nx rfl (nx rfl (nx rfl (nx rfl c23_8)))))
  have c26_9 := (congrFun e26 9).trans hit
  clear e26
  refine wnil ?_
  refine hK25 _ _ ?_
  clear hK25
  refine wp_seq_k (fun K27 hK27 => ?_)
  refine wp_seq_k (fun K28 hK28 => ?_)
  refine reg ?_
  refine sq rfl (do_move (tm rfl c26_9)) ?_
  refine sq rfl (do_gtr (tm rfl hit) ck) ?_
  refine wnil ?_
  refine hK28 _ _ ?_
  clear hK28
  refine cB rfl hit (fun h6 => ?_) (fun h6 => ?_)
  · refine wp_seq_k (fun K29 hK29 => ?_)
    refine reg ?_
    refine sq rfl (do_assign ck) ?_
    refine wnil ?_
    refine hK29 _ _ ?_
    clear hK29
    refine wp_ret ?_
    refine thenR ?_
    exact hF _ hit 
  refine wp_skip ?_
  refine hK27 _ _ ?_
  clear hK27
  simp at h6
  refine wp_seq_k (fun K30 hK30 => ?_)
  refine wp_seq_k (fun K31 hK31 => ?_)
  refine reg ?_
  refine sq rfl (do_move (tm rfl (nx rfl (nx rfl c26_3)))) ?_
  refine sq rfl (do_len Try.underlying30 (tm rfl hit)) ?_
  refine sq rfl (do_gtr (tm rfl hit) ck) ?_
  refine cutL ?_
  intro τ32 e32
  have c32_0 := (congrFun e32 0).trans (nx rfl (nx rfl (nx rfl (nx rfl (nx rfl c26_0)))))
  have c32_1 := (congrFun e32 1).trans (nx rfl (nx rfl (nx rfl (nx rfl (nx rfl c26_1)))))
  have c32_2 := (congrFun e32 2).trans (nx rfl (nx rfl (nx rfl (nx rfl (nx rfl c26_2)))))
  have c32_3 := (congrFun e32 3).trans (nx rfl (nx rfl (nx rfl (nx rfl (nx rfl c26_3)))))
  have c32_8 := (congrFun e32 8).trans (nx rfl (nx rfl (nx rfl (nx rfl (nx rfl c26_8)))))
  have c32_9 := (congrFun e32 9).trans (nx rfl (nx rfl (nx rfl (nx rfl (nx rfl c26_9)))))
  have c32_40 := (congrFun e32 40).trans hit
  clear e32
  refine wnil ?_
  refine hK31 _ _ ?_
  clear hK31
  refine cB rfl c32_40 (fun h7 => ?_) (fun h7 => ?_)
  · refine wp_seq_k (fun K33 hK33 => ?_)
    refine reg ?_
    refine sq rfl (do_assign ck) ?_
    refine wnil ?_
    refine hK33 _ _ ?_
    clear hK33
    refine wp_ret ?_
    refine thenR ?_
    exact hF _ hit 
  refine wp_skip ?_
  refine hK30 _ _ ?_
  clear hK30
  simp at h7
  refine wp_seq_k (fun K34 hK34 => ?_)
  refine reg ?_
  refine sq rfl (do_move (tm rfl c32_9)) ?_
  refine sq rfl (do_move (tm rfl (nx rfl c32_3))) ?_
  refine sq rfl (do_len Try.underlying30 (tm rfl hit)) ?_
  refine sq rfl (do_addM (tm rfl (nx rfl (nx rfl hit))) (tm rfl hit) (by omega)) ?_
  refine sq rfl (do_assign (tm rfl hit)) ?_
  refine cutL ?_
  intro τ35 e35
  have c35_0 := (congrFun e35 0).trans (nx rfl (nx rfl (nx rfl (nx rfl (nx rfl c32_0)))))
  have c35_1 := (congrFun e35 1).trans (nx rfl (nx rfl (nx rfl (nx rfl (nx rfl c32_1)))))
  have c35_2 := (congrFun e35 2).trans (nx rfl (nx rfl (nx rfl (nx rfl (nx rfl c32_2)))))
  have c35_3 := (congrFun e35 3).trans (nx rfl (nx rfl (nx rfl (nx rfl (nx rfl c32_3)))))
  have c35_8 := (congrFun e35 8).trans (nx rfl (nx rfl (nx rfl (nx rfl (nx rfl c32_8)))))
  have c35_9 := (congrFun e35 9).trans hit
  clear e35
  refine wnil ?_
  refine hK34 _ _ ?_
  clear hK34
  refine wp_seq_k (fun K36 hK36 => ?_)
  refine wp_seq_k (fun K37 hK37 => ?_)
  refine reg ?_
  refine sq rfl (do_move (tm rfl c35_9)) ?_
  refine sq rfl (do_gtr (tm rfl hit) ck) ?_
  refine wnil ?_
  refine hK37 _ _ ?_
  clear hK37
  refine cB rfl hit (fun h8 => ?_) (fun h8 => ?_)
  · refine wp_seq_k (fun K38 hK38 => ?_)
    refine reg ?_
    refine sq rfl (do_assign ck) ?_
    refine wnil ?_
    refine hK38 _ _ ?_
    clear hK38
    refine wp_ret ?_
    refine thenR ?_
    exact hF _ hit 
  refine wp_skip ?_
  refine hK36 _ _ ?_
  clear hK36
  simp at h8
  refine wp_seq_k (fun K39 hK39 => ?_)
  refine wp_seq_k (fun K40 hK40 => ?_)
  refine reg ?_
  refine sq rfl (do_assign (v := .int .i64 ((0 : Nat) : Int)) rfl) ?_
  refine wnil ?_
  refine hK40 _ _ ?_
  clear hK40
  refine forLoop (N := 68) (fun k τ wi => w = wi ∧ ∃ i z : Nat, k = ss.length - i ∧ i ≤ ss.length ∧ z ≤ 1048576 ∧ τ 3 = .slice a3 ss.length c3 ∧
    τ 9 = .int .i64 (z : Int) ∧ τ 10 = .int .i64 (i : Int) ∧ ∀ j (h : j < ss.length), j < i → ss[j].size ≤ 1048576)
    (fun τ wi => w = wi ∧ ∀ s ∈ ss, s.size ≤ 1048576) ss.length ?_ ?_ ?_
  · exact ⟨rfl, 0, 0 + key.size + ks.length + zs.length + ss.length, rfl, Nat.zero_le _, by omega, (nx rfl (nx rfl (nx rfl c35_3))), (nx rfl (nx rfl (nx rfl c35_9))), hit, fun j _ h => by omega⟩
  · rintro Q' k τ wi hn hx hr ⟨rfl, i, z, rfl, hi, hz, t3, t9, t10, hsz⟩
    refine wp_seq_k (fun K41 hK41 => ?_)
    refine wp_seq_k (fun K42 hK42 => ?_)
    refine reg ?_
    refine sq rfl (do_move (tm rfl t10)) ?_
    refine sq rfl (do_move (tm rfl (nx rfl t3))) ?_
    refine sq rfl (do_len Try.underlying30 (tm rfl hit)) ?_
    refine sq rfl (do_lss (tm rfl (nx rfl (nx rfl hit))) (tm rfl hit)) ?_
    refine cutL ?_
    intro τ43 e43
    have c43_3 := (congrFun e43 3).trans (nx rfl (nx rfl (nx rfl (nx rfl t3))))
    have c43_9 := (congrFun e43 9).trans (nx rfl (nx rfl (nx rfl (nx rfl t9))))
    have c43_10 := (congrFun e43 10).trans (nx rfl (nx rfl (nx rfl (nx rfl t10))))
    have c43_50 := (congrFun e43 50).trans hit
    clear e43
    refine wnil ?_
    refine hK42 _ _ ?_
    clear hK42
    by_cases h : i < ss.length
    · obtain ⟨b, o, rfl, hc⟩ := hS i h
      refine cT rfl c43_50 (by simpa using h) ?_
      refine wp_skip ?_
      refine hK41 _ _ ?_
      clear hK41
      refine wp_seq_k (fun K44 hK44 => ?_)
      refine wp_block ?_
      refine wp_seq_k (fun K45 hK45 => ?_)
      refine wp_seq_k (fun K46 hK46 => ?_)
      refine reg ?_
      refine sq rfl (do_move (tm rfl c43_3)) ?_
      refine sq rfl (do_move (tm rfl (nx rfl c43_10))) ?_
      refine sq rfl (io30 (tm rfl (nx rfl hit)) (tm rfl hit) (by omega)) ?_
      refine sq rfl (do_load T9 rfl (tm rfl hit) hc) ?_
      refine sq rfl (do_lenStr Try.underlying9 (tm rfl hit)) ?_
      refine sq rfl (do_gtr (tm rfl hit) ck) ?_
      refine cutL ?_
      intro τ47 e47
      have c47_3 := (congrFun e47 3).trans (nx rfl (nx rfl (nx rfl (nx rfl (nx rfl (nx rfl c43_3))))))
      have c47_9 := (congrFun e47 9).trans (nx rfl (nx rfl (nx rfl (nx rfl (nx rfl (nx rfl c43_9))))))
      have c47_10 := (congrFun e47 10).trans (nx rfl (nx rfl (nx rfl (nx rfl (nx rfl (nx rfl c43_10))))))
      have c47_58 := (congrFun e47 58).trans hit
      clear e47
      refine wnil ?_
      refine hK46 _ _ ?_
      clear hK46
      refine cB rfl c47_58 (fun g1 => ?_) (fun g1 => ?_)
      · refine wp_seq_k (fun K48 hK48 => ?_)
        refine reg ?_
        refine sq rfl (do_assign ck) ?_
        refine wnil ?_
        refine hK48 _ _ ?_
        clear hK48
        refine wp_ret ?_
        refine thenR ?_
        refine inBR ?_
        refine thenR ?_
        exact hr _ _ (hF _ hit) 
      refine wp_skip ?_
      refine hK45 _ _ ?_
      clear hK45
      simp at g1
      refine wp_seq_k (fun K49 hK49 => ?_)
      refine reg ?_
      refine sq rfl (do_move (tm rfl c47_9)) ?_
      refine sq rfl (do_move (tm rfl (nx rfl c47_3))) ?_
      refine sq rfl (do_move (tm rfl (nx rfl (nx rfl c47_10)))) ?_
      refine sq rfl (io30 (tm rfl (nx rfl hit)) (tm rfl hit) (by omega)) ?_
      refine sq rfl (do_load T9 rfl (tm rfl hit) hc) ?_
      refine sq rfl (do_lenStr Try.underlying9 (tm rfl hit)) ?_
      refine sq rfl (do_addM (tm rfl (nx rfl (nx rfl (nx rfl (nx rfl (nx rfl hit)))))) (tm rfl hit) (by omega)) ?_
      refine sq rfl (do_assign (tm rfl hit)) ?_
      refine cutL ?_
      intro τ50 e50
      have c50_3 := (congrFun e50 3).trans (nx rfl (nx rfl (nx rfl (nx rfl (nx rfl (nx rfl (nx rfl (nx rfl c47_3))))))))
      have c50_9 := (congrFun e50 9).trans hit
      have c50_10 := (congrFun e50 10).trans (nx rfl (nx rfl (nx rfl (nx rfl (nx rfl (nx rfl (nx rfl (nx rfl c47_10))))))))
      clear e50
      refine wnil ?_
      refine hK49 _ _ ?_
      clear hK49
      refine wp_seq_k (fun K51 hK51 => ?_)
      refine reg ?_
      refine sq rfl (do_move (tm rfl c50_9)) ?_
      refine sq rfl (do_gtr (tm rfl hit) ck) ?_
      refine wnil ?_
      refine hK51 _ _ ?_
      clear hK51
      refine cB rfl hit (fun g2 => ?_) (fun g2 => ?_)
      · refine wp_seq_k (fun K52 hK52 => ?_)
        refine reg ?_
        refine sq rfl (do_assign ck) ?_
        refine wnil ?_
        refine hK52 _ _ ?_
        clear hK52
        refine wp_ret ?_
        refine inBR ?_
        refine thenR ?_
        exact hr _ _ (hF _ hit) 
      refine wp_skip ?_
      refine inBN ?_
      refine hK44 _ _ ?_
      clear hK44
      simp at g2
      refine reg ?_
      refine sq rfl (do_move (tm rfl (nx rfl (nx rfl c50_10)))) ?_
      refine sq rfl (do_inc (tm rfl hit) ck (by omega)) ?_
      refine sq rfl (do_assign (tm rfl hit)) ?_
      refine cutL ?_
      intro τ53 e53
      have c53_3 := (congrFun e53 3).trans (nx rfl (nx rfl (nx rfl (nx rfl (nx rfl c50_3)))))
      have c53_9 := (congrFun e53 9).trans (nx rfl (nx rfl (nx rfl (nx rfl (nx rfl c50_9)))))
      have c53_10 := (congrFun e53 10).trans hit
      clear e53
      refine wnil ?_
      refine hn (ss.length - (i + 1)) _ _ (by omega) ⟨rfl, i + 1, z + ss[i].size, rfl, by omega, by omega, c53_3, c53_9, c53_10, fun j hj hji => ?_⟩
      rcases Nat.lt_or_ge j i with h' | h'
      · exact hsz j hj h'
      · obtain rfl : j = i := by omega
        omega
    · refine cF rfl c43_50 (by simpa using h) ?_
      refine wp_exit ?_
      refine thenE ?_
      refine hx _ _ ⟨rfl, fun s hs => ?_⟩
      obtain ⟨j, hj, rfl⟩ := List.mem_iff_getElem.1 hs
      exact hsz j hj (by omega)
  clear s0 s1 s2 s3
  rintro τ _ ⟨rfl, hsz⟩
  refine hK39 _ _ ?_
  clear hK39
  refine wp_seq_k (fun K54 hK54 => ?_)
  refine reg ?_
  refine sq rfl (do_assign ck) ?_
  refine wnil ?_
  refine hK54 _ _ ?_
  clear hK54
  refine wp_ret ?_
  rw [← hQ]
  exact ret1 rfl rfl hit ⟨true, rfl, rfl, fun _ => ⟨by omega, by omega, by omega, by omega, hsz⟩⟩

theorem inBounds23 (w : World) (key : ByteArray) (vk vn vs : Value) (ks zs : List Int) (ss : List ByteArray) (hK : U8S w vk ks) (hN : I64S w vn zs) (hS : StrS w vs ss)
    (l0 : key.size ≤ 1048576) (l1 : ks.length ≤ 1048576) (l2 : zs.length ≤ 1048576) (l3 : ss.length ≤ 1048576) :
    Calls Try.prog 23 #[.string key, vk, vn, vs] w fun e w' => ∃ b, e = .returned (.bool b) ∧ w' = w := by
  obtain ⟨a1, c1, rfl, hK⟩ := hK
  obtain ⟨a2, c2, rfl, hN⟩ := hN
  obtain ⟨a3, c3, rfl, hS⟩ := hS
  refine enter (args := [.string key, .slice a1 ks.length c1, .slice a2 zs.length c2, .slice a3 ss.length c3]) Try.func23 rfl Try.ntmps23 rfl ?_
  generalize hQ : bodyPost Try.prog Try.f23 _ = Q
  have hF : ∀ τ b, τ 8 = .bool b → Q .ret (Fr 65 τ) w := by
    intro τ b h
    rw [← hQ]
    exact ret1 rfl rfl h ⟨b, rfl, rfl⟩
  clear hQ
  have s0 : frame0 [Value.string key, .slice a1 ks.length c1, .slice a2 zs.length c2, .slice a3 ss.length c3] 0 = .string key := rfl
  have s1 : frame0 [Value.string key, .slice a1 ks.length c1, .slice a2 zs.length c2, .slice a3 ss.length c3] 1 = .slice a1 ks.length c1 := rfl
  have s2 : frame0 [Value.string key, .slice a1 ks.length c1, .slice a2 zs.length c2, .slice a3 ss.length c3] 2 = .slice a2 zs.length c2 := rfl
  have s3 : frame0 [Value.string key, .slice a1 ks.length c1, .slice a2 zs.length c2, .slice a3 ss.length c3] 3 = .slice a3 ss.length c3 := rfl
  generalize frame0 [Value.string key, .slice a1 ks.length c1, .slice a2 zs.length c2, .slice a3 ss.length c3] = σ at *
  refine wp_seq_k (fun K55 hK55 => ?_)
  refine reg ?_
  refine sq rfl (do_assign ck) ?_
  refine wnil ?_
  refine hK55 _ _ ?_
  clear hK55
  have q0 : ¬ ((1048576 : Int) < (key.size : Int)) := by omega
  have q1 : ¬ ((1048576 : Int) < (ks.length : Int)) := by omega
  by_cases q2 : (131072 : Int) < (zs.length : Int)
  · refine wp_seq_k (fun K56 hK56 => ?_)
    refine wp_seq_k (fun K57 hK57 => ?_)
    refine reg ?_
    refine sq rfl (do_move (tm rfl (nx rfl s0))) ?_
    refine sq rfl (do_lenStr Try.underlying9 (tm rfl hit)) ?_
    refine sq rfl (do_gtrF (tm rfl hit) ck q0) ?_
    refine sq rfl (do_move (tm rfl hit)) ?_
    refine sqg rfl rfl hit rfl (do_move (tm rfl (nx rfl (nx rfl (nx rfl (nx rfl (nx rfl s1))))))) ?_
    refine sqg rfl rfl (nx rfl hit) rfl (do_len Try.underlying23 (tm rfl hit)) ?_
    refine sqg rfl rfl (nx rfl (nx rfl hit)) rfl (do_gtrF (tm rfl hit) ck q1) ?_
    refine sq rfl (do_pickF (tm rfl (nx rfl (nx rfl (nx rfl hit)))) (tm rfl hit)) ?_
    refine sq rfl (do_move (tm rfl hit)) ?_
    refine sqg rfl rfl hit rfl (do_move (tm rfl (nx rfl (nx rfl (nx rfl (nx rfl (nx rfl (nx rfl (nx rfl (nx rfl (nx rfl (nx rfl s2)))))))))))) ?_
    refine sqg rfl rfl (nx rfl hit) rfl (do_len Try.underlying32 (tm rfl hit)) ?_
    refine sqg rfl rfl (nx rfl (nx rfl hit)) rfl (do_gtrT (tm rfl hit) ck q2) ?_
    refine sq rfl (do_pickF (tm rfl (nx rfl (nx rfl (nx rfl hit)))) (tm rfl hit)) ?_
    refine sq rfl (do_move (tm rfl hit)) ?_
    refine sqs rfl rfl hit rfl rfl ?_
    refine sqs rfl rfl (nx rfl hit) rfl rfl ?_
    refine sqs rfl rfl (nx rfl (nx rfl hit)) rfl rfl ?_
    refine sq rfl (do_pickT (tm rfl (nx rfl (nx rfl (nx rfl hit)))) ck) ?_
    refine cutL ?_
    intro τ58 e58
    have c58_0 := (congrFun e58 0).trans (nx rfl (nx rfl (nx rfl (nx rfl (nx rfl (nx rfl (nx rfl (nx rfl (nx rfl (nx rfl (nx rfl (nx rfl (nx rfl (nx rfl (nx rfl (nx rfl (nx rfl (nx rfl (nx rfl s0)))))))))))))))))))
    have c58_1 := (congrFun e58 1).trans (nx rfl (nx rfl (nx rfl (nx rfl (nx rfl (nx rfl (nx rfl (nx rfl (nx rfl (nx rfl (nx rfl (nx rfl (nx rfl (nx rfl (nx rfl (nx rfl (nx rfl (nx rfl (nx rfl s1)))))))))))))))))))
    have c58_2 := (congrFun e58 2).trans (nx rfl (nx rfl (nx rfl (nx rfl (nx rfl (nx rfl (nx rfl (nx rfl (nx rfl (nx rfl (nx rfl (nx rfl (nx rfl (nx rfl (nx rfl (nx rfl (nx rfl (nx rfl (nx rfl s2)))))))))))))))))))
    have c58_3 := (congrFun e58 3).trans (nx rfl (nx rfl (nx rfl (nx rfl (nx rfl (nx rfl (nx rfl (nx rfl (nx rfl (nx rfl (nx rfl (nx rfl (nx rfl (nx rfl (nx rfl (nx rfl (nx rfl (nx rfl (nx rfl s3)))))))))))))))))))
    have c58_8 := (congrFun e58 8).trans (nx rfl (nx rfl (nx rfl (nx rfl (nx rfl (nx rfl (nx rfl (nx rfl (nx rfl (nx rfl (nx rfl (nx rfl (nx rfl (nx rfl (nx rfl (nx rfl (nx rfl (nx rfl hit))))))))))))))))))
    have c58_28 := (congrFun e58 28).trans hit
    clear e58
    refine wnil ?_
    refine hK57 _ _ ?_
    clear hK57
    refine cB rfl c58_28 (fun h1 => ?_) (fun h1 => ?_)
    · refine wp_seq_k (fun K59 hK59 => ?_)
      refine reg ?_
      refine sq rfl (do_assign ck) ?_
      refine wnil ?_
      refine hK59 _ _ ?_
      clear hK59
      refine wp_ret ?_
      refine thenR ?_
      exact hF _ _ hit 
    refine wp_skip ?_
    refine hK56 _ _ ?_
    clear hK56
    cases h1
  refine wp_seq_k (fun K60 hK60 => ?_)
  refine wp_seq_k (fun K61 hK61 => ?_)
  refine reg ?_
  refine sq rfl (do_move (tm rfl (nx rfl s0))) ?_
  refine sq rfl (do_lenStr Try.underlying9 (tm rfl hit)) ?_
  refine sq rfl (do_gtrF (tm rfl hit) ck q0) ?_
  refine sq rfl (do_move (tm rfl hit)) ?_
  refine sqg rfl rfl hit rfl (do_move (tm rfl (nx rfl (nx rfl (nx rfl (nx rfl (nx rfl s1))))))) ?_
  refine sqg rfl rfl (nx rfl hit) rfl (do_len Try.underlying23 (tm rfl hit)) ?_
  refine sqg rfl rfl (nx rfl (nx rfl hit)) rfl (do_gtrF (tm rfl hit) ck q1) ?_
  refine sq rfl (do_pickF (tm rfl (nx rfl (nx rfl (nx rfl hit)))) (tm rfl hit)) ?_
  refine sq rfl (do_move (tm rfl hit)) ?_
  refine sqg rfl rfl hit rfl (do_move (tm rfl (nx rfl (nx rfl (nx rfl (nx rfl (nx rfl (nx rfl (nx rfl (nx rfl (nx rfl (nx rfl s2)))))))))))) ?_
  refine sqg rfl rfl (nx rfl hit) rfl (do_len Try.underlying32 (tm rfl hit)) ?_
  refine sqg rfl rfl (nx rfl (nx rfl hit)) rfl (do_gtrF (tm rfl hit) ck q2) ?_
  refine sq rfl (do_pickF (tm rfl (nx rfl (nx rfl (nx rfl hit)))) (tm rfl hit)) ?_
  refine sq rfl (do_move (tm rfl hit)) ?_
  refine sqg rfl rfl hit rfl (do_move (tm rfl (nx rfl (nx rfl (nx rfl (nx rfl (nx rfl (nx rfl (nx rfl (nx rfl (nx rfl (nx rfl (nx rfl (nx rfl (nx rfl (nx rfl (nx rfl s3))))))))))))))))) ?_
  refine sqg rfl rfl (nx rfl hit) rfl (do_len Try.underlying30 (tm rfl hit)) ?_
  refine sqg rfl rfl (nx rfl (nx rfl hit)) rfl (do_gtr (tm rfl hit) ck) ?_
  refine sq rfl (do_pickF (tm rfl (nx rfl (nx rfl (nx rfl hit)))) (tm rfl hit)) ?_
  refine cutL ?_
  intro τ62 e62
  have c62_0 := (congrFun e62 0).trans (nx rfl (nx rfl (nx rfl (nx rfl (nx rfl (nx rfl (nx rfl (nx rfl (nx rfl (nx rfl (nx rfl (nx rfl (nx rfl (nx rfl (nx rfl (nx rfl (nx rfl (nx rfl (nx rfl s0)))))))))))))))))))
  have c62_1 := (congrFun e62 1).trans (nx rfl (nx rfl (nx rfl (nx rfl (nx rfl (nx rfl (nx rfl (nx rfl (nx rfl (nx rfl (nx rfl (nx rfl (nx rfl (nx rfl (nx rfl (nx rfl (nx rfl (nx rfl (nx rfl s1)))))))))))))))))))
  have c62_2 := (congrFun e62 2).trans (nx rfl (nx rfl (nx rfl (nx rfl (nx rfl (nx rfl (nx rfl (nx rfl (nx rfl (nx rfl (nx rfl (nx rfl (nx rfl (nx rfl (nx rfl (nx rfl (nx rfl (nx rfl (nx rfl s2)))))))))))))))))))
  have c62_3 := (congrFun e62 3).trans (nx rfl (nx rfl (nx rfl (nx rfl (nx rfl (nx rfl (nx rfl (nx rfl (nx rfl (nx rfl (nx rfl (nx rfl (nx rfl (nx rfl (nx rfl (nx rfl (nx rfl (nx rfl (nx rfl s3)))))))))))))))))))
  have c62_8 := (congrFun e62 8).trans (nx rfl (nx rfl (nx rfl (nx rfl (nx rfl (nx rfl (nx rfl (nx rfl (nx rfl (nx rfl (nx rfl (nx rfl (nx rfl (nx rfl (nx rfl (nx rfl (nx rfl (nx rfl hit))))))))))))))))))
  have c62_28 := (congrFun e62 28).trans hit
  clear e62
  refine wnil ?_
  refine hK61 _ _ ?_
  clear hK61
  refine cB rfl c62_28 (fun h1 => ?_) (fun h1 => ?_)
  · refine wp_seq_k (fun K63 hK63 => ?_)
    refine reg ?_
    refine sq rfl (do_assign ck) ?_
    refine wnil ?_
    refine hK63 _ _ ?_
    clear hK63
    refine wp_ret ?_
    refine thenR ?_
    exact hF _ _ hit 
  refine wp_skip ?_
  refine hK60 _ _ ?_
  clear hK60
  refine wp_seq_k (fun K64 hK64 => ?_)
  refine reg ?_
  refine sq rfl (do_move (tm rfl c62_0)) ?_
  refine sq rfl (do_lenStr Try.underlying9 (tm rfl hit)) ?_
  refine sq rfl (do_move (tm rfl (nx rfl (nx rfl c62_1)))) ?_
  refine sq rfl (do_len Try.underlying23 (tm rfl hit)) ?_
  refine sq rfl (do_add (tm rfl (nx rfl (nx rfl hit))) (tm rfl hit) (by omega)) ?_
  refine sq rfl (do_move (tm rfl (nx rfl (nx rfl (nx rfl (nx rfl (nx rfl c62_2))))))) ?_
  refine sq rfl (do_len Try.underlying32 (tm rfl hit)) ?_
  refine sq rfl (do_mul ck (tm rfl hit) (by omega)) ?_
  refine sq rfl (do_add (tm rfl (nx rfl (nx rfl (nx rfl hit)))) (tm rfl hit) (by omega)) ?_
  refine sq rfl (do_move (tm rfl (nx rfl (nx rfl (nx rfl (nx rfl (nx rfl (nx rfl (nx rfl (nx rfl (nx rfl c62_3))))))))))) ?_
  refine sq rfl (do_len Try.underlying30 (tm rfl hit)) ?_
  refine sq rfl (do_mul ck (tm rfl hit) (by omega)) ?_
  refine sq rfl (do_add (tm rfl (nx rfl (nx rfl (nx rfl hit)))) (tm rfl hit) (by omega)) ?_
  refine sq rfl (do_assign (tm rfl hit)) ?_
  refine cutL ?_
  intro τ65 e65
  have c65_0 := (congrFun e65 0).trans (nx rfl (nx rfl (nx rfl (nx rfl (nx rfl (nx rfl (nx rfl (nx rfl (nx rfl (nx rfl (nx rfl (nx rfl (nx rfl (nx rfl c62_0))))))))))))))
  have c65_1 := (congrFun e65 1).trans (nx rfl (nx rfl (nx rfl (nx rfl (nx rfl (nx rfl (nx rfl (nx rfl (nx rfl (nx rfl (nx rfl (nx rfl (nx rfl (nx rfl c62_1))))))))))))))
  have c65_2 := (congrFun e65 2).trans (nx rfl (nx rfl (nx rfl (nx rfl (nx rfl (nx rfl (nx rfl (nx rfl (nx rfl (nx rfl (nx rfl (nx rfl (nx rfl (nx rfl c62_2))))))))))))))
  have c65_3 := (congrFun e65 3).trans (nx rfl (nx rfl (nx rfl (nx rfl (nx rfl (nx rfl (nx rfl (nx rfl (nx rfl (nx rfl (nx rfl (nx rfl (nx rfl (nx rfl c62_3))))))))))))))
  have c65_8 := (congrFun e65 8).trans (nx rfl (nx rfl (nx rfl (nx rfl (nx rfl (nx rfl (nx rfl (nx rfl (nx rfl (nx rfl (nx rfl (nx rfl (nx rfl (nx rfl c62_8))))))))))))))
  have c65_9 := (congrFun e65 9).trans hit
  clear e65
  refine wnil ?_
  refine hK64 _ _ ?_
  clear hK64
  refine wp_seq_k (fun K66 hK66 => ?_)
  refine wp_seq_k (fun K67 hK67 => ?_)
  refine reg ?_
  refine sq rfl (do_move (tm rfl c65_9)) ?_
  refine sq rfl (do_gtr (tm rfl hit) ck) ?_
  refine wnil ?_
  refine hK67 _ _ ?_
  clear hK67
  refine cB rfl hit (fun h2 => ?_) (fun h2 => ?_)
  · refine wp_seq_k (fun K68 hK68 => ?_)
    refine reg ?_
    refine sq rfl (do_assign ck) ?_
    refine wnil ?_
    refine hK68 _ _ ?_
    clear hK68
    refine wp_ret ?_
    refine thenR ?_
    exact hF _ _ hit 
  refine wp_skip ?_
  refine hK66 _ _ ?_
  clear hK66
  simp at h2
  refine wp_seq_k (fun K69 hK69 => ?_)
  refine wp_seq_k (fun K70 hK70 => ?_)
  refine reg ?_
  refine sq rfl (do_assign (v := .int .i64 ((0 : Nat) : Int)) rfl) ?_
  refine wnil ?_
  refine hK70 _ _ ?_
  clear hK70
  refine forLoop (N := 65) (fun k τ wi => w = wi ∧ ∃ (i : Nat) (z : Int), k = ss.length - i ∧ i ≤ ss.length ∧ 0 ≤ z ∧ z ≤ 1048576 ∧ τ 3 = .slice a3 ss.length c3 ∧ τ 9 = .int .i64 z ∧ τ 10 = .int .i64 (i : Int))
    (fun τ wi => w = wi) ss.length ?_ ?_ ?_
  · exact ⟨rfl, 0, _, rfl, Nat.zero_le _, by omega, by omega, (nx rfl (nx rfl (nx rfl c65_3))), (nx rfl (nx rfl (nx rfl c65_9))), hit⟩
  · rintro Q' k τ wi hn hx hr ⟨rfl, i, z, rfl, hi, hz0, hz, t3, t9, t10⟩
    refine wp_seq_k (fun K71 hK71 => ?_)
    refine wp_seq_k (fun K72 hK72 => ?_)
    refine reg ?_
    refine sq rfl (do_move (tm rfl t10)) ?_
    refine sq rfl (do_move (tm rfl (nx rfl t3))) ?_
    refine sq rfl (do_len Try.underlying30 (tm rfl hit)) ?_
    refine sq rfl (do_lss (tm rfl (nx rfl (nx rfl hit))) (tm rfl hit)) ?_
    refine cutL ?_
    intro τ73 e73
    have c73_3 := (congrFun e73 3).trans (nx rfl (nx rfl (nx rfl (nx rfl t3))))
    have c73_9 := (congrFun e73 9).trans (nx rfl (nx rfl (nx rfl (nx rfl t9))))
    have c73_10 := (congrFun e73 10).trans (nx rfl (nx rfl (nx rfl (nx rfl t10))))
    have c73_47 := (congrFun e73 47).trans hit
    clear e73
    refine wnil ?_
    refine hK72 _ _ ?_
    clear hK72
    by_cases h : i < ss.length
    · obtain ⟨b, o, rfl, hc⟩ := hS i h
      refine cT rfl c73_47 (by simpa using h) ?_
      refine wp_skip ?_
      refine hK71 _ _ ?_
      clear hK71
      refine wp_seq_k (fun K74 hK74 => ?_)
      refine wp_block ?_
      refine wp_seq_k (fun K75 hK75 => ?_)
      refine wp_seq_k (fun K76 hK76 => ?_)
      refine reg ?_
      refine sq rfl (do_move (tm rfl c73_3)) ?_
      refine sq rfl (do_move (tm rfl (nx rfl c73_10))) ?_
      refine sq rfl (io30 (tm rfl (nx rfl hit)) (tm rfl hit) (by omega)) ?_
      refine sq rfl (do_load T9 rfl (tm rfl hit) hc) ?_
      refine sq rfl (do_lenStr Try.underlying9 (tm rfl hit)) ?_
      refine sq rfl (do_gtr (tm rfl hit) ck) ?_
      refine cutL ?_
      intro τ77 e77
      have c77_3 := (congrFun e77 3).trans (nx rfl (nx rfl (nx rfl (nx rfl (nx rfl (nx rfl c73_3))))))
      have c77_9 := (congrFun e77 9).trans (nx rfl (nx rfl (nx rfl (nx rfl (nx rfl (nx rfl c73_9))))))
      have c77_10 := (congrFun e77 10).trans (nx rfl (nx rfl (nx rfl (nx rfl (nx rfl (nx rfl c73_10))))))
      have c77_55 := (congrFun e77 55).trans hit
      clear e77
      refine wnil ?_
      refine hK76 _ _ ?_
      clear hK76
      refine cB rfl c77_55 (fun g1 => ?_) (fun g1 => ?_)
      · refine wp_seq_k (fun K78 hK78 => ?_)
        refine reg ?_
        refine sq rfl (do_assign ck) ?_
        refine wnil ?_
        refine hK78 _ _ ?_
        clear hK78
        refine wp_ret ?_
        refine thenR ?_
        refine inBR ?_
        refine thenR ?_
        exact hr _ _ (hF _ _ hit) 
      refine wp_skip ?_
      refine hK75 _ _ ?_
      clear hK75
      simp at g1
      refine wp_seq_k (fun K79 hK79 => ?_)
      refine reg ?_
      refine sq rfl (do_move (tm rfl c77_9)) ?_
      refine sq rfl (do_move (tm rfl (nx rfl c77_3))) ?_
      refine sq rfl (do_move (tm rfl (nx rfl (nx rfl c77_10)))) ?_
      refine sq rfl (io30 (tm rfl (nx rfl hit)) (tm rfl hit) (by omega)) ?_
      refine sq rfl (do_load T9 rfl (tm rfl hit) hc) ?_
      refine sq rfl (do_lenStr Try.underlying9 (tm rfl hit)) ?_
      refine sq rfl (do_add (tm rfl (nx rfl (nx rfl (nx rfl (nx rfl (nx rfl hit)))))) (tm rfl hit) (by omega)) ?_
      refine sq rfl (do_assign (tm rfl hit)) ?_
      refine cutL ?_
      intro τ80 e80
      have c80_3 := (congrFun e80 3).trans (nx rfl (nx rfl (nx rfl (nx rfl (nx rfl (nx rfl (nx rfl (nx rfl c77_3))))))))
      have c80_9 := (congrFun e80 9).trans hit
      have c80_10 := (congrFun e80 10).trans (nx rfl (nx rfl (nx rfl (nx rfl (nx rfl (nx rfl (nx rfl (nx rfl c77_10))))))))
      clear e80
      refine wnil ?_
      refine hK79 _ _ ?_
      clear hK79
      refine wp_seq_k (fun K81 hK81 => ?_)
      refine reg ?_
      refine sq rfl (do_move (tm rfl c80_9)) ?_
      refine sq rfl (do_gtr (tm rfl hit) ck) ?_
      refine wnil ?_
      refine hK81 _ _ ?_
      clear hK81
      refine cB rfl hit (fun g2 => ?_) (fun g2 => ?_)
      · refine wp_seq_k (fun K82 hK82 => ?_)
        refine reg ?_
        refine sq rfl (do_assign ck) ?_
        refine wnil ?_
        refine hK82 _ _ ?_
        clear hK82
        refine wp_ret ?_
        refine inBR ?_
        refine thenR ?_
        exact hr _ _ (hF _ _ hit) 
      refine wp_skip ?_
      refine inBN ?_
      refine hK74 _ _ ?_
      clear hK74
      simp at g2
      refine reg ?_
      refine sq rfl (do_move (tm rfl (nx rfl (nx rfl c80_10)))) ?_
      refine sq rfl (do_inc (tm rfl hit) ck (by omega)) ?_
      refine sq rfl (do_assign (tm rfl hit)) ?_
      refine cutL ?_
      intro τ83 e83
      have c83_3 := (congrFun e83 3).trans (nx rfl (nx rfl (nx rfl (nx rfl (nx rfl c80_3)))))
      have c83_9 := (congrFun e83 9).trans (nx rfl (nx rfl (nx rfl (nx rfl (nx rfl c80_9)))))
      have c83_10 := (congrFun e83 10).trans hit
      clear e83
      refine wnil ?_
      exact hn (ss.length - (i + 1)) _ _ (by omega) ⟨rfl, i + 1, z + (ss[i].size : Int), rfl, by omega, by omega, by omega, c83_3, c83_9, c83_10⟩
    · refine cF rfl c73_47 (by simpa using h) ?_
      refine wp_exit ?_
      refine thenE ?_
      exact hx _ _ rfl
  clear s0 s1 s2 s3
  rintro τ _ rfl
  refine hK69 _ _ ?_
  clear hK69
  refine wp_seq_k (fun K84 hK84 => ?_)
  refine reg ?_
  refine sq rfl (do_assign ck) ?_
  refine wnil ?_
  refine hK84 _ _ ?_
  clear hK84
  refine wp_ret ?_
  exact hF _ _ hit

theorem rowFields24 (w : World) (vk vn vs : Value) (ks zs : List Int) (ss : List ByteArray) (hK : U8S w vk ks) (hN : I64S w vn zs) (hS : StrS w vs ss) (l1 : ks.length ≤ 1048576) :
    Calls Try.prog 24 #[vk, vn, vs] w fun e w' => ∃ b, e = .returned (.bool b) ∧ w' = w ∧ (b = true → zs.length = ks.length ∧ ss.length = ks.length ∧ ∀ k ∈ ks, k = 1 ∨ k = 2) := by
  obtain ⟨a1, c1, rfl, hK⟩ := hK
  obtain ⟨a2, c2, rfl, hN⟩ := hN
  obtain ⟨a3, c3, rfl, hS⟩ := hS
  refine enter (args := [.slice a1 ks.length c1, .slice a2 zs.length c2, .slice a3 ss.length c3]) Try.func24 rfl Try.ntmps24 rfl ?_
  generalize hQ : bodyPost Try.prog Try.f24 _ = Q
  have hF : ∀ τ, τ 6 = .bool false → Q .ret (Fr 38 τ) w := by
    intro τ h
    rw [← hQ]
    exact ret1 rfl rfl h ⟨false, rfl, rfl, fun h => by cases h⟩
  have s0 : frame0 [Value.slice a1 ks.length c1, .slice a2 zs.length c2, .slice a3 ss.length c3] 0 = .slice a1 ks.length c1 := rfl
  have s1 : frame0 [Value.slice a1 ks.length c1, .slice a2 zs.length c2, .slice a3 ss.length c3] 1 = .slice a2 zs.length c2 := rfl
  have s2 : frame0 [Value.slice a1 ks.length c1, .slice a2 zs.length c2, .slice a3 ss.length c3] 2 = .slice a3 ss.length c3 := rfl
  generalize frame0 [Value.slice a1 ks.length c1, .slice a2 zs.length c2, .slice a3 ss.length c3] = σ at *
  refine wp_seq_k (fun K85 hK85 => ?_)
  refine reg ?_
  refine sq rfl (do_assign ck) ?_
  refine wnil ?_
  refine hK85 _ _ ?_
  clear hK85
  by_cases q1 : ((zs.length : Int) ≠ (ks.length : Int))
  · refine wp_seq_k (fun K86 hK86 => ?_)
    refine wp_seq_k (fun K87 hK87 => ?_)
    refine reg ?_
    refine sq rfl (do_move (tm rfl (nx rfl s1))) ?_
    refine sq rfl (do_len Try.underlying32 (tm rfl hit)) ?_
    refine sq rfl (do_move (tm rfl (nx rfl (nx rfl (nx rfl s0))))) ?_
    refine sq rfl (do_len Try.underlying23 (tm rfl hit)) ?_
    refine sq rfl (do_neqT (tm rfl (nx rfl (nx rfl hit))) (tm rfl hit) q1) ?_
    refine sq rfl (do_move (tm rfl hit)) ?_
    refine sqs rfl rfl hit rfl rfl ?_
    refine sqs rfl rfl (nx rfl hit) rfl rfl ?_
    refine sqs rfl rfl (nx rfl (nx rfl hit)) rfl rfl ?_
    refine sqs rfl rfl (nx rfl (nx rfl (nx rfl hit))) rfl rfl ?_
    refine sqs rfl rfl (nx rfl (nx rfl (nx rfl (nx rfl hit)))) rfl rfl ?_
    refine sq rfl (do_pickT (tm rfl (nx rfl (nx rfl (nx rfl (nx rfl (nx rfl hit)))))) ck) ?_
    refine cutL ?_
    intro τ88 e88
    have c88_0 := (congrFun e88 0).trans (nx rfl (nx rfl (nx rfl (nx rfl (nx rfl (nx rfl (nx rfl (nx rfl (nx rfl (nx rfl (nx rfl (nx rfl (nx rfl s0)))))))))))))
    have c88_1 := (congrFun e88 1).trans (nx rfl (nx rfl (nx rfl (nx rfl (nx rfl (nx rfl (nx rfl (nx rfl (nx rfl (nx rfl (nx rfl (nx rfl (nx rfl s1)))))))))))))
    have c88_2 := (congrFun e88 2).trans (nx rfl (nx rfl (nx rfl (nx rfl (nx rfl (nx rfl (nx rfl (nx rfl (nx rfl (nx rfl (nx rfl (nx rfl (nx rfl s2)))))))))))))
    have c88_6 := (congrFun e88 6).trans (nx rfl (nx rfl (nx rfl (nx rfl (nx rfl (nx rfl (nx rfl (nx rfl (nx rfl (nx rfl (nx rfl (nx rfl hit))))))))))))
    have c88_19 := (congrFun e88 19).trans hit
    clear e88
    refine wnil ?_
    refine hK87 _ _ ?_
    clear hK87
    refine cB rfl c88_19 (fun h1 => ?_) (fun h1 => ?_)
    · refine wp_seq_k (fun K89 hK89 => ?_)
      refine reg ?_
      refine sq rfl (do_assign ck) ?_
      refine wnil ?_
      refine hK89 _ _ ?_
      clear hK89
      refine wp_ret ?_
      refine thenR ?_
      exact hF _ hit 
    refine wp_skip ?_
    refine hK86 _ _ ?_
    clear hK86
    cases h1
  refine wp_seq_k (fun K90 hK90 => ?_)
  refine wp_seq_k (fun K91 hK91 => ?_)
  refine reg ?_
  refine sq rfl (do_move (tm rfl (nx rfl s1))) ?_
  refine sq rfl (do_len Try.underlying32 (tm rfl hit)) ?_
  refine sq rfl (do_move (tm rfl (nx rfl (nx rfl (nx rfl s0))))) ?_
  refine sq rfl (do_len Try.underlying23 (tm rfl hit)) ?_
  refine sq rfl (do_neqF (tm rfl (nx rfl (nx rfl hit))) (tm rfl hit) q1) ?_
  refine sq rfl (do_move (tm rfl hit)) ?_
  refine sqg rfl rfl hit rfl (do_move (tm rfl (nx rfl (nx rfl (nx rfl (nx rfl (nx rfl (nx rfl (nx rfl s2))))))))) ?_
  refine sqg rfl rfl (nx rfl hit) rfl (do_len Try.underlying30 (tm rfl hit)) ?_
  refine sqg rfl rfl (nx rfl (nx rfl hit)) rfl (do_move (tm rfl (nx rfl (nx rfl (nx rfl (nx rfl (nx rfl (nx rfl (nx rfl (nx rfl (nx rfl s0))))))))))) ?_
  refine sqg rfl rfl (nx rfl (nx rfl (nx rfl hit))) rfl (do_len Try.underlying23 (tm rfl hit)) ?_
  refine sqg rfl rfl (nx rfl (nx rfl (nx rfl (nx rfl hit)))) rfl (do_neq (tm rfl (nx rfl (nx rfl hit))) (tm rfl hit)) ?_
  refine sq rfl (do_pickF (tm rfl (nx rfl (nx rfl (nx rfl (nx rfl (nx rfl hit)))))) (tm rfl hit)) ?_
  refine cutL ?_
  intro τ92 e92
  have c92_0 := (congrFun e92 0).trans (nx rfl (nx rfl (nx rfl (nx rfl (nx rfl (nx rfl (nx rfl (nx rfl (nx rfl (nx rfl (nx rfl (nx rfl (nx rfl s0)))))))))))))
  have c92_1 := (congrFun e92 1).trans (nx rfl (nx rfl (nx rfl (nx rfl (nx rfl (nx rfl (nx rfl (nx rfl (nx rfl (nx rfl (nx rfl (nx rfl (nx rfl s1)))))))))))))
  have c92_2 := (congrFun e92 2).trans (nx rfl (nx rfl (nx rfl (nx rfl (nx rfl (nx rfl (nx rfl (nx rfl (nx rfl (nx rfl (nx rfl (nx rfl (nx rfl s2)))))))))))))
  have c92_6 := (congrFun e92 6).trans (nx rfl (nx rfl (nx rfl (nx rfl (nx rfl (nx rfl (nx rfl (nx rfl (nx rfl (nx rfl (nx rfl (nx rfl hit))))))))))))
  have c92_19 := (congrFun e92 19).trans hit
  clear e92
  refine wnil ?_
  refine hK91 _ _ ?_
  clear hK91
  refine cB rfl c92_19 (fun h1 => ?_) (fun h1 => ?_)
  · refine wp_seq_k (fun K93 hK93 => ?_)
    refine reg ?_
    refine sq rfl (do_assign ck) ?_
    refine wnil ?_
    refine hK93 _ _ ?_
    clear hK93
    refine wp_ret ?_
    refine thenR ?_
    exact hF _ hit 
  refine wp_skip ?_
  refine hK90 _ _ ?_
  clear hK90
  simp at h1
  have q1' : zs.length = ks.length := by omega
  have q2' : ss.length = ks.length := by omega
  refine wp_seq_k (fun K94 hK94 => ?_)
  refine wp_seq_k (fun K95 hK95 => ?_)
  refine reg ?_
  refine sq rfl (do_assign (v := .int .i64 ((0 : Nat) : Int)) rfl) ?_
  refine wnil ?_
  refine hK95 _ _ ?_
  clear hK95
  refine forLoop (N := 38) (fun k τ wi => w = wi ∧ ∃ i : Nat, k = ks.length - i ∧ i ≤ ks.length ∧ τ 0 = .slice a1 ks.length c1 ∧ τ 7 = .int .i64 (i : Int) ∧ ∀ j (h : j < ks.length), j < i → ks[j] = 1 ∨ ks[j] = 2)
    (fun τ wi => w = wi ∧ ∀ k ∈ ks, k = 1 ∨ k = 2) ks.length ?_ ?_ ?_
  · exact ⟨rfl, 0, rfl, Nat.zero_le _, (nx rfl c92_0), hit, fun j _ h => by omega⟩
  · rintro Q' k τ wi hn hx hr ⟨rfl, i, rfl, hi, t0, t7, hks⟩
    refine wp_seq_k (fun K96 hK96 => ?_)
    refine wp_seq_k (fun K97 hK97 => ?_)
    refine reg ?_
    refine sq rfl (do_move (tm rfl t7)) ?_
    refine sq rfl (do_move (tm rfl (nx rfl t0))) ?_
    refine sq rfl (do_len Try.underlying23 (tm rfl hit)) ?_
    refine sq rfl (do_lss (tm rfl (nx rfl (nx rfl hit))) (tm rfl hit)) ?_
    refine cutL ?_
    intro τ98 e98
    have c98_0 := (congrFun e98 0).trans (nx rfl (nx rfl (nx rfl (nx rfl t0))))
    have c98_7 := (congrFun e98 7).trans (nx rfl (nx rfl (nx rfl (nx rfl t7))))
    have c98_23 := (congrFun e98 23).trans hit
    clear e98
    refine wnil ?_
    refine hK97 _ _ ?_
    clear hK97
    by_cases h : i < ks.length
    · obtain ⟨b, o, rfl, hc⟩ := hK i h
      refine cT rfl c98_23 (by simpa using h) ?_
      refine wp_skip ?_
      refine hK96 _ _ ?_
      clear hK96
      by_cases e1 : ks[i] = 1
      · refine wp_seq_k (fun K99 hK99 => ?_)
        refine wp_block ?_
        refine wp_seq_k (fun K100 hK100 => ?_)
        refine reg ?_
        refine sq rfl (do_move (tm rfl c98_0)) ?_
        refine sq rfl (do_move (tm rfl (nx rfl c98_7))) ?_
        refine sq rfl (io23 (tm rfl (nx rfl hit)) (tm rfl hit) (by omega)) ?_
        refine sq rfl (do_load T5 rfl (tm rfl hit) hc) ?_
        refine sq rfl (do_neqK (tm rfl hit) ck (r := false) (by simp [e1])) ?_
        refine sq rfl (do_move (tm rfl hit)) ?_
        refine sqs rfl rfl hit rfl rfl ?_
        refine sqs rfl rfl (nx rfl hit) rfl rfl ?_
        refine sqs rfl rfl (nx rfl (nx rfl hit)) rfl rfl ?_
        refine sqs rfl rfl (nx rfl (nx rfl (nx rfl hit))) rfl rfl ?_
        refine sqs rfl rfl (nx rfl (nx rfl (nx rfl (nx rfl hit)))) rfl rfl ?_
        refine sq rfl (do_pickF (tm rfl (nx rfl (nx rfl (nx rfl (nx rfl (nx rfl hit)))))) ck) ?_
        refine cutL ?_
        intro τ101 e101
        have c101_0 := (congrFun e101 0).trans (nx rfl (nx rfl (nx rfl (nx rfl (nx rfl (nx rfl (nx rfl (nx rfl (nx rfl (nx rfl (nx rfl (nx rfl c98_0))))))))))))
        have c101_7 := (congrFun e101 7).trans (nx rfl (nx rfl (nx rfl (nx rfl (nx rfl (nx rfl (nx rfl (nx rfl (nx rfl (nx rfl (nx rfl (nx rfl c98_7))))))))))))
        have c101_37 := (congrFun e101 37).trans hit
        clear e101
        refine wnil ?_
        refine hK100 _ _ ?_
        clear hK100
        refine cB rfl c101_37 (fun g1 => ?_) (fun g1 => ?_)
        · refine wp_seq_k (fun K102 hK102 => ?_)
          refine reg ?_
          refine sq rfl (do_assign ck) ?_
          refine wnil ?_
          refine hK102 _ _ ?_
          clear hK102
          refine wp_ret ?_
          refine inBR ?_
          refine thenR ?_
          exact hr _ _ (hF _ hit) 
        refine wp_skip ?_
        refine inBN ?_
        refine hK99 _ _ ?_
        clear hK99
        refine reg ?_
        refine sq rfl (do_move (tm rfl c101_7)) ?_
        refine sq rfl (do_inc (tm rfl hit) ck (by omega)) ?_
        refine sq rfl (do_assign (tm rfl hit)) ?_
        refine wnil ?_
        refine hn (ks.length - (i + 1)) _ _ (by omega) ⟨rfl, i + 1, rfl, by omega, (nx rfl (nx rfl (nx rfl c101_0))), hit, fun j hj hji => ?_⟩
        rcases Nat.lt_or_ge j i with h' | h'
        · exact hks j hj h'
        · obtain rfl : j = i := by omega
          exact .inl e1
      · refine wp_seq_k (fun K103 hK103 => ?_)
        refine wp_block ?_
        refine wp_seq_k (fun K104 hK104 => ?_)
        refine reg ?_
        refine sq rfl (do_move (tm rfl c98_0)) ?_
        refine sq rfl (do_move (tm rfl (nx rfl c98_7))) ?_
        refine sq rfl (io23 (tm rfl (nx rfl hit)) (tm rfl hit) (by omega)) ?_
        refine sq rfl (do_load T5 rfl (tm rfl hit) hc) ?_
        refine sq rfl (do_neqK (tm rfl hit) ck (r := true) (by simp [e1])) ?_
        refine sq rfl (do_move (tm rfl hit)) ?_
        refine sqg rfl rfl hit rfl (do_move (tm rfl (nx rfl (nx rfl (nx rfl (nx rfl (nx rfl (nx rfl c98_0)))))))) ?_
        refine sqg rfl rfl (nx rfl hit) rfl (do_move (tm rfl (nx rfl (nx rfl (nx rfl (nx rfl (nx rfl (nx rfl (nx rfl c98_7))))))))) ?_
        refine sqg rfl rfl (nx rfl (nx rfl hit)) rfl (io23 (tm rfl (nx rfl hit)) (tm rfl hit) (by omega)) ?_
        refine sqg rfl rfl (nx rfl (nx rfl (nx rfl hit))) rfl (do_load T5 rfl (tm rfl hit) hc) ?_
        refine sqg rfl rfl (nx rfl (nx rfl (nx rfl (nx rfl hit)))) rfl (do_neqK (tm rfl hit) ck rfl) ?_
        refine sq rfl (do_pickT (tm rfl (nx rfl (nx rfl (nx rfl (nx rfl (nx rfl hit)))))) (tm rfl hit)) ?_
        refine cutL ?_
        intro τ105 e105
        have c105_0 := (congrFun e105 0).trans (nx rfl (nx rfl (nx rfl (nx rfl (nx rfl (nx rfl (nx rfl (nx rfl (nx rfl (nx rfl (nx rfl (nx rfl c98_0))))))))))))
        have c105_7 := (congrFun e105 7).trans (nx rfl (nx rfl (nx rfl (nx rfl (nx rfl (nx rfl (nx rfl (nx rfl (nx rfl (nx rfl (nx rfl (nx rfl c98_7))))))))))))
        have c105_37 := (congrFun e105 37).trans hit
        clear e105
        refine wnil ?_
        refine hK104 _ _ ?_
        clear hK104
        refine cB rfl c105_37 (fun g1 => ?_) (fun g1 => ?_)
        · refine wp_seq_k (fun K106 hK106 => ?_)
          refine reg ?_
          refine sq rfl (do_assign ck) ?_
          refine wnil ?_
          refine hK106 _ _ ?_
          clear hK106
          refine wp_ret ?_
          refine inBR ?_
          refine thenR ?_
          exact hr _ _ (hF _ hit) 
        refine wp_skip ?_
        refine inBN ?_
        refine hK103 _ _ ?_
        clear hK103
        simp at g1
        refine reg ?_
        refine sq rfl (do_move (tm rfl c105_7)) ?_
        refine sq rfl (do_inc (tm rfl hit) ck (by omega)) ?_
        refine sq rfl (do_assign (tm rfl hit)) ?_
        refine wnil ?_
        refine hn (ks.length - (i + 1)) _ _ (by omega) ⟨rfl, i + 1, rfl, by omega, (nx rfl (nx rfl (nx rfl c105_0))), hit, fun j hj hji => ?_⟩
        rcases Nat.lt_or_ge j i with h' | h'
        · exact hks j hj h'
        · obtain rfl : j = i := by omega
          exact .inr g1
    · refine cF rfl c98_23 (by simpa using h) ?_
      refine wp_exit ?_
      refine thenE ?_
      refine hx _ _ ⟨rfl, fun s hs => ?_⟩
      obtain ⟨j, hj, rfl⟩ := List.mem_iff_getElem.1 hs
      exact hks j hj (by omega)
  clear s0 s1 s2
  rintro τ _ ⟨rfl, hks⟩
  refine hK94 _ _ ?_
  clear hK94
  refine wp_seq_k (fun K107 hK107 => ?_)
  refine reg ?_
  refine sq rfl (do_assign ck) ?_
  refine wnil ?_
  refine hK107 _ _ ?_
  clear hK107
  refine wp_ret ?_
  rw [← hQ]
  exact ret1 rfl rfl hit ⟨true, rfl, rfl, fun _ => ⟨q1', q2', hks⟩⟩
end Go.Proofs.Qxb6000003a
