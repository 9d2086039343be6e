/-
  THE BOUNDS: zzBytes, zzCallsInBounds, zzCallsMatch.
-/
import Derived.Test.Qxb6000003aHp
namespace Go.Proofs.Qxb6000003a
open Go.Fra Go.RowKit
set_option maxRecDepth 100000
set_option linter.unusedVariables false

/-- A slice of strings that can be read. -/
def StrS (w : World) (v : Value) (ss : List ByteArray) : Prop :=
  ∃ a c, v = .slice a ss.length c ∧ ∀ i (h : i < ss.length), ∃ b o, a = some ⟨b, o, none⟩ ∧ w.cell? ⟨b, o + i, none⟩ = some (.string ss[i])
def I64S (w : World) (v : Value) (zs : List Int) : Prop :=
  ∃ a c, v = .slice a zs.length c ∧ ∀ i (h : i < zs.length), ∃ b o, a = some ⟨b, o, none⟩ ∧ w.cell? ⟨b, o + i, none⟩ = some (.int .i64 zs[i])
/-- A slice of slices of strings: the slices avs, each of which reads as its row. -/
def ArgS (w : World) (v : Value) (avs : List Value) (rows : List (List ByteArray)) : Prop :=
  avs.length = rows.length ∧ ∃ a c, v = .slice a rows.length c ∧ ∀ i (h : i < rows.length) (h' : i < avs.length), ∃ b o, a = some ⟨b, o, none⟩ ∧ w.cell? ⟨b, o + i, none⟩ = some avs[i] ∧ StrS w avs[i] rows[i]

theorem bytes15 (w : World) (vp va vs : Value) (ps : List ByteArray) (avs : List Value) (rows : List (List ByteArray)) (zs : List Int) (hP : StrS w vp ps) (hA : ArgS w va avs rows) (hS : I64S w vs zs) :
    Calls Try.prog 15 #[vp, va, vs] w fun e w' => ∃ b, e = .returned (.bool b) ∧ w' = w ∧ (b = true → ps.length ≤ 1048576 ∧ rows.length ≤ 1048576 ∧ zs.length ≤ 1048576 ∧ ∀ r ∈ rows, r.length ≤ 1048576 ∧ ∀ s ∈ r, s.size ≤ 1048576) := by
  obtain ⟨a0, c0, rfl, hP⟩ := hP
  obtain ⟨hal, a1, c1, rfl, hA⟩ := hA
  obtain ⟨a2, c2, rfl, hS⟩ := hS
  refine enter (args := [.slice a0 ps.length c0, .slice a1 rows.length c1, .slice a2 zs.length c2]) Try.func15 rfl Try.ntmps15 rfl ?_
  generalize hQ : bodyPost Try.prog Try.f15 _ = Q
  have hF : ∀ τ, τ 6 = .bool false → Q .ret (Fr 110 τ) w := by
    intro τ h
    rw [← hQ]
    exact ret1 rfl rfl h ⟨false, rfl, rfl, fun h => by cases h⟩
  have s0 : frame0 [Value.slice a0 ps.length c0, .slice a1 rows.length c1, .slice a2 zs.length c2] 0 = .slice a0 ps.length c0 := rfl
  have s1 : frame0 [Value.slice a0 ps.length c0, .slice a1 rows.length c1, .slice a2 zs.length c2] 1 = .slice a1 rows.length c1 := rfl
  have s2 : frame0 [Value.slice a0 ps.length c0, .slice a1 rows.length c1, .slice a2 zs.length c2] 2 = .slice a2 zs.length c2 := rfl
  generalize frame0 [Value.slice a0 ps.length c0, .slice a1 rows.length c1, .slice a2 zs.length c2] = σ at *
  refine wp_seq_k (fun K1 hK1 => ?_)
  refine reg ?_
  refine sq rfl (do_assign ck) ?_
  refine wnil ?_
  refine hK1 _ _ ?_
  clear hK1 K1
  refine wp_seq_k (fun K2 hK2 => ?_)
  refine reg ?_
  refine sq rfl (do_assign (v := .int .i64 ((0 : Nat) : Int)) rfl) ?_
  refine wnil ?_
  refine hK2 _ _ ?_
  clear hK2 K2
  refine wp_seq_k (fun K3 hK3 => ?_)
  refine wp_seq_k (fun K4 hK4 => ?_)
  refine reg ?_
  refine sq rfl (do_move (tm rfl (nx rfl (nx rfl s0)))) ?_
  refine sq rfl (do_len Try.underlying30 (tm rfl hit)) ?_
  refine sq rfl (do_gtr (tm rfl hit) ck) ?_
  refine cutL ?_
  intro τ5 e5
  have c5_0 := (congrFun e5 0).trans (nx rfl (nx rfl (nx rfl (nx rfl (nx rfl s0)))))
  have c5_1 := (congrFun e5 1).trans (nx rfl (nx rfl (nx rfl (nx rfl (nx rfl s1)))))
  have c5_2 := (congrFun e5 2).trans (nx rfl (nx rfl (nx rfl (nx rfl (nx rfl s2)))))
  have c5_6 := (congrFun e5 6).trans (nx rfl (nx rfl (nx rfl (nx rfl hit))))
  have c5_7 := (congrFun e5 7).trans (nx rfl (nx rfl (nx rfl hit)))
  have c5_13 := (congrFun e5 13).trans hit
  clear e5
  refine wnil ?_
  refine hK4 _ _ ?_
  clear hK4 K4
  refine cB rfl c5_13 (fun h1 => ?_) (fun h1 => ?_)
  · refine wp_seq_k (fun K6 hK6 => ?_)
    refine reg ?_
    refine sq rfl (do_assign ck) ?_
    refine wnil ?_
    refine hK6 _ _ ?_
    clear hK6 K6
    refine wp_ret ?_
    refine thenR ?_
    exact hF _ hit
  refine wp_skip ?_
  refine hK3 _ _ ?_
  clear hK3 K3
  simp at h1
  refine wp_seq_k (fun K7 hK7 => ?_)
  refine reg ?_
  refine sq rfl (do_move (tm rfl c5_7)) ?_
  refine sq rfl (do_move (tm rfl (nx rfl c5_0))) ?_
  refine sq rfl (do_len Try.underlying30 (tm rfl hit)) ?_
  refine sq rfl (do_addM (tm rfl (nx rfl (nx rfl hit))) (tm rfl hit) (by omega)) ?_
  refine sq rfl (do_assign (tm rfl hit)) ?_
  refine cutL ?_
  intro τ8 e8
  have c8_0 := (congrFun e8 0).trans (nx rfl (nx rfl (nx rfl (nx rfl (nx rfl c5_0)))))
  have c8_1 := (congrFun e8 1).trans (nx rfl (nx rfl (nx rfl (nx rfl (nx rfl c5_1)))))
  have c8_2 := (congrFun e8 2).trans (nx rfl (nx rfl (nx rfl (nx rfl (nx rfl c5_2)))))
  have c8_6 := (congrFun e8 6).trans (nx rfl (nx rfl (nx rfl (nx rfl (nx rfl c5_6)))))
  have c8_7 := (congrFun e8 7).trans hit
  clear e8
  refine wnil ?_
  refine hK7 _ _ ?_
  clear hK7 K7
  refine wp_seq_k (fun K9 hK9 => ?_)
  refine wp_seq_k (fun K10 hK10 => ?_)
  refine reg ?_
  refine sq rfl (do_move (tm rfl c8_7)) ?_
  refine sq rfl (do_gtr (tm rfl hit) ck) ?_
  refine wnil ?_
  refine hK10 _ _ ?_
  clear hK10 K10
  refine cB rfl hit (fun h2 => ?_) (fun h2 => ?_)
  · refine wp_seq_k (fun K11 hK11 => ?_)
    refine reg ?_
    refine sq rfl (do_assign ck) ?_
    refine wnil ?_
    refine hK11 _ _ ?_
    clear hK11 K11
    refine wp_ret ?_
    refine thenR ?_
    exact hF _ hit
  refine wp_skip ?_
  refine hK9 _ _ ?_
  clear hK9 K9
  simp at h2
  refine wp_seq_k (fun K12 hK12 => ?_)
  refine wp_seq_k (fun K13 hK13 => ?_)
  refine reg ?_
  refine sq rfl (do_assign (v := .int .i64 ((0 : Nat) : Int)) rfl) ?_
  refine wnil ?_
  refine hK13 _ _ ?_
  clear hK13 K13
  refine forLoop (N := 110) (fun k τ wi => w = wi ∧ ∃ i z : Nat, k = ps.length - i ∧ i ≤ ps.length ∧ z ≤ 1048576 ∧ τ 0 = .slice a0 ps.length c0 ∧ τ 1 = .slice a1 rows.length c1 ∧ τ 2 = .slice a2 zs.length c2 ∧
    τ 7 = .int .i64 (z : Int) ∧ τ 8 = .int .i64 (i : Int))
    (fun τ wi => w = wi ∧ ∃ z : Nat, z ≤ 1048576 ∧ τ 1 = .slice a1 rows.length c1 ∧ τ 2 = .slice a2 zs.length c2 ∧ τ 7 = .int .i64 (z : Int)) ps.length ?_ ?_ ?_
  · exact ⟨rfl, 0, 0 + ps.length, rfl, Nat.zero_le _, by omega, (nx rfl (nx rfl (nx rfl c8_0))), (nx rfl (nx rfl (nx rfl c8_1))), (nx rfl (nx rfl (nx rfl c8_2))), (nx rfl (nx rfl (nx rfl c8_7))), hit⟩
  · rintro Q' k τ wi hn hx hr ⟨rfl, i, z, rfl, hi, hz, t0, t1, t2, t7, t8⟩
    refine wp_seq_k (fun K14 hK14 => ?_)
    refine wp_seq_k (fun K15 hK15 => ?_)
    refine reg ?_
    refine sq rfl (do_move (tm rfl t8)) ?_
    refine sq rfl (do_move (tm rfl (nx rfl t0))) ?_
    refine sq rfl (do_len Try.underlying30 (tm rfl hit)) ?_
    refine sq rfl (do_lss (tm rfl (nx rfl (nx rfl hit))) (tm rfl hit)) ?_
    refine cutL ?_
    intro τ16 e16
    have c16_0 := (congrFun e16 0).trans (nx rfl (nx rfl (nx rfl (nx rfl t0))))
    have c16_1 := (congrFun e16 1).trans (nx rfl (nx rfl (nx rfl (nx rfl t1))))
    have c16_2 := (congrFun e16 2).trans (nx rfl (nx rfl (nx rfl (nx rfl t2))))
    have c16_7 := (congrFun e16 7).trans (nx rfl (nx rfl (nx rfl (nx rfl t7))))
    have c16_8 := (congrFun e16 8).trans (nx rfl (nx rfl (nx rfl (nx rfl t8))))
    have c16_23 := (congrFun e16 23).trans hit
    clear e16
    refine wnil ?_
    refine hK15 _ _ ?_
    clear hK15 K15
    by_cases h : i < ps.length
    · obtain ⟨b, o, rfl, hc⟩ := hP i h
      refine cT rfl c16_23 (by simpa using h) ?_
      refine wp_skip ?_
      refine hK14 _ _ ?_
      clear hK14 K14
      refine wp_seq_k (fun K17 hK17 => ?_)
      refine wp_block ?_
      refine wp_seq_k (fun K18 hK18 => ?_)
      refine wp_seq_k (fun K19 hK19 => ?_)
      refine reg ?_
      refine sq rfl (do_move (tm rfl c16_0)) ?_
      refine sq rfl (do_move (tm rfl (nx rfl c16_8))) ?_
      refine sq rfl (io30 (tm rfl (nx rfl hit)) (tm rfl hit) (by omega)) ?_
      refine sq rfl (do_load T9 rfl (tm rfl hit) hc) ?_
      refine sq rfl (do_lenStr Try.underlying9 (tm rfl hit)) ?_
      refine sq rfl (do_gtr (tm rfl hit) ck) ?_
      refine cutL ?_
      intro τ20 e20
      have c20_0 := (congrFun e20 0).trans (nx rfl (nx rfl (nx rfl (nx rfl (nx rfl (nx rfl c16_0))))))
      have c20_1 := (congrFun e20 1).trans (nx rfl (nx rfl (nx rfl (nx rfl (nx rfl (nx rfl c16_1))))))
      have c20_2 := (congrFun e20 2).trans (nx rfl (nx rfl (nx rfl (nx rfl (nx rfl (nx rfl c16_2))))))
      have c20_7 := (congrFun e20 7).trans (nx rfl (nx rfl (nx rfl (nx rfl (nx rfl (nx rfl c16_7))))))
      have c20_8 := (congrFun e20 8).trans (nx rfl (nx rfl (nx rfl (nx rfl (nx rfl (nx rfl c16_8))))))
      have c20_31 := (congrFun e20 31).trans hit
      clear e20
      refine wnil ?_
      refine hK19 _ _ ?_
      clear hK19 K19
      refine cB rfl c20_31 (fun g1 => ?_) (fun g1 => ?_)
      · refine wp_seq_k (fun K21 hK21 => ?_)
        refine reg ?_
        refine sq rfl (do_assign ck) ?_
        refine wnil ?_
        refine hK21 _ _ ?_
        clear hK21 K21
        refine wp_ret ?_
        refine thenR ?_
        refine inBR ?_
        refine thenR ?_
        exact hr _ _ (hF _ hit)
      refine wp_skip ?_
      refine hK18 _ _ ?_
      clear hK18 K18
      simp at g1
      refine wp_seq_k (fun K22 hK22 => ?_)
      refine reg ?_
      refine sq rfl (do_move (tm rfl c20_7)) ?_
      refine sq rfl (do_move (tm rfl (nx rfl c20_0))) ?_
      refine sq rfl (do_move (tm rfl (nx rfl (nx rfl c20_8)))) ?_
      refine sq rfl (io30 (tm rfl (nx rfl hit)) (tm rfl hit) (by omega)) ?_
      refine sq rfl (do_load T9 rfl (tm rfl hit) hc) ?_
      refine sq rfl (do_lenStr Try.underlying9 (tm rfl hit)) ?_
      refine sq rfl (do_addM (tm rfl (nx rfl (nx rfl (nx rfl (nx rfl (nx rfl hit)))))) (tm rfl hit) (by omega)) ?_
      refine sq rfl (do_assign (tm rfl hit)) ?_
      refine cutL ?_
      intro τ23 e23
      have c23_0 := (congrFun e23 0).trans (nx rfl (nx rfl (nx rfl (nx rfl (nx rfl (nx rfl (nx rfl (nx rfl c20_0))))))))
      have c23_1 := (congrFun e23 1).trans (nx rfl (nx rfl (nx rfl (nx rfl (nx rfl (nx rfl (nx rfl (nx rfl c20_1))))))))
      have c23_2 := (congrFun e23 2).trans (nx rfl (nx rfl (nx rfl (nx rfl (nx rfl (nx rfl (nx rfl (nx rfl c20_2))))))))
      have c23_7 := (congrFun e23 7).trans hit
      have c23_8 := (congrFun e23 8).trans (nx rfl (nx rfl (nx rfl (nx rfl (nx rfl (nx rfl (nx rfl (nx rfl c20_8))))))))
      clear e23
      refine wnil ?_
      refine hK22 _ _ ?_
      clear hK22 K22
      refine wp_seq_k (fun K24 hK24 => ?_)
      refine reg ?_
      refine sq rfl (do_move (tm rfl c23_7)) ?_
      refine sq rfl (do_gtr (tm rfl hit) ck) ?_
      refine wnil ?_
      refine hK24 _ _ ?_
      clear hK24 K24
      refine cB rfl hit (fun g2 => ?_) (fun g2 => ?_)
      · refine wp_seq_k (fun K25 hK25 => ?_)
        refine reg ?_
        refine sq rfl (do_assign ck) ?_
        refine wnil ?_
        refine hK25 _ _ ?_
        clear hK25 K25
        refine wp_ret ?_
        refine inBR ?_
        refine thenR ?_
        exact hr _ _ (hF _ hit)
      refine wp_skip ?_
      refine inBN ?_
      refine hK17 _ _ ?_
      clear hK17 K17
      simp at g2
      refine reg ?_
      refine sq rfl (do_move (tm rfl (nx rfl (nx rfl c23_8)))) ?_
      refine sq rfl (do_inc (tm rfl hit) ck (by omega)) ?_
      refine sq rfl (do_assign (tm rfl hit)) ?_
      refine cutL ?_
      intro τ26 e26
      have c26_0 := (congrFun e26 0).trans (nx rfl (nx rfl (nx rfl (nx rfl (nx rfl c23_0)))))
      have c26_1 := (congrFun e26 1).trans (nx rfl (nx rfl (nx rfl (nx rfl (nx rfl c23_1)))))
      have c26_2 := (congrFun e26 2).trans (nx rfl (nx rfl (nx rfl (nx rfl (nx rfl c23_2)))))
      have c26_7 := (congrFun e26 7).trans (nx rfl (nx rfl (nx rfl (nx rfl (nx rfl c23_7)))))
      have c26_8 := (congrFun e26 8).trans hit
      clear e26
      refine wnil ?_
      exact hn (ps.length - (i + 1)) _ _ (by omega) ⟨rfl, i + 1, z + ps[i].size, rfl, by omega, by omega, c26_0, c26_1, c26_2, c26_7, c26_8⟩
    · refine cF rfl c16_23 (by simpa using h) ?_
      refine wp_exit ?_
      refine thenE ?_
      exact hx _ _ ⟨rfl, z, hz, c16_1, c16_2, c16_7⟩
  clear s0 s1 s2
  rintro τ _ ⟨rfl, z, hz, t1, t2, t7⟩
  refine hK12 _ _ ?_
  clear hK12 K12
  refine wp_seq_k (fun K27 hK27 => ?_)
  refine wp_seq_k (fun K28 hK28 => ?_)
  refine reg ?_
  refine sq rfl (do_move (tm rfl t1)) ?_
  refine sq rfl (do_len Try.underlying31 (tm rfl hit)) ?_
  refine sq rfl (do_gtr (tm rfl hit) ck) ?_
  refine wnil ?_
  refine hK28 _ _ ?_
  clear hK28 K28
  refine cB rfl hit (fun h3 => ?_) (fun h3 => ?_)
  · refine wp_seq_k (fun K29 hK29 => ?_)
    refine reg ?_
    refine sq rfl (do_assign ck) ?_
    refine wnil ?_
    refine hK29 _ _ ?_
    clear hK29 K29
    refine wp_ret ?_
    refine thenR ?_
    exact hF _ hit
  refine wp_skip ?_
  refine hK27 _ _ ?_
  clear hK27 K27
  simp at h3
  refine wp_seq_k (fun K30 hK30 => ?_)
  refine reg ?_
  refine sq rfl (do_move (tm rfl (nx rfl (nx rfl (nx rfl t7))))) ?_
  refine sq rfl (do_move (tm rfl (nx rfl (nx rfl (nx rfl (nx rfl t1)))))) ?_
  refine sq rfl (do_len Try.underlying31 (tm rfl hit)) ?_
  refine sq rfl (do_addM (tm rfl (nx rfl (nx rfl hit))) (tm rfl hit) (by omega)) ?_
  refine sq rfl (do_assign (tm rfl hit)) ?_
  refine cutL ?_
  intro τ31 e31
  have c31_1 := (congrFun e31 1).trans (nx rfl (nx rfl (nx rfl (nx rfl (nx rfl (nx rfl (nx rfl (nx rfl t1))))))))
  have c31_2 := (congrFun e31 2).trans (nx rfl (nx rfl (nx rfl (nx rfl (nx rfl (nx rfl (nx rfl (nx rfl t2))))))))
  have c31_7 := (congrFun e31 7).trans hit
  clear e31
  refine wnil ?_
  refine hK30 _ _ ?_
  clear hK30 K30
  refine wp_seq_k (fun K32 hK32 => ?_)
  refine wp_seq_k (fun K33 hK33 => ?_)
  refine reg ?_
  refine sq rfl (do_move (tm rfl c31_7)) ?_
  refine sq rfl (do_gtr (tm rfl hit) ck) ?_
  refine wnil ?_
  refine hK33 _ _ ?_
  clear hK33 K33
  refine cB rfl hit (fun h4 => ?_) (fun h4 => ?_)
  · refine wp_seq_k (fun K34 hK34 => ?_)
    refine reg ?_
    refine sq rfl (do_assign ck) ?_
    refine wnil ?_
    refine hK34 _ _ ?_
    clear hK34 K34
    refine wp_ret ?_
    refine thenR ?_
    exact hF _ hit
  refine wp_skip ?_
  refine hK32 _ _ ?_
  clear hK32 K32
  simp at h4
  refine wp_seq_k (fun K35 hK35 => ?_)
  refine wp_seq_k (fun K36 hK36 => ?_)
  refine reg ?_
  refine sq rfl (do_assign (v := .int .i64 ((0 : Nat) : Int)) rfl) ?_
  refine wnil ?_
  refine hK36 _ _ ?_
  clear hK36 K36
  refine forLoop (N := 110) (fun k τ wj => w = wj ∧ ∃ i z : Nat, k = rows.length - i ∧ i ≤ rows.length ∧ z ≤ 1048576 ∧ τ 1 = .slice a1 rows.length c1 ∧ τ 2 = .slice a2 zs.length c2 ∧
    τ 7 = .int .i64 (z : Int) ∧ τ 9 = .int .i64 (i : Int) ∧ ∀ j (h : j < rows.length), j < i → rows[j].length ≤ 1048576 ∧ ∀ s ∈ rows[j], s.size ≤ 1048576)
    (fun τ wj => w = wj ∧ ∃ z : Nat, z ≤ 1048576 ∧ τ 2 = .slice a2 zs.length c2 ∧ τ 7 = .int .i64 (z : Int) ∧ ∀ j (h : j < rows.length), rows[j].length ≤ 1048576 ∧ ∀ s ∈ rows[j], s.size ≤ 1048576) rows.length ?_ ?_ ?_
  · exact ⟨rfl, 0, z + rows.length, rfl, Nat.zero_le _, by omega, (nx rfl (nx rfl (nx rfl c31_1))), (nx rfl (nx rfl (nx rfl c31_2))), (nx rfl (nx rfl (nx rfl c31_7))), hit, fun j _ h => by omega⟩
  · clear t1 t2 t7
    rintro Q' k ν wj hn hx hr ⟨rfl, i, z, rfl, hi, hz, u1, u2, u7, u9, hlens⟩
    refine wp_seq_k (fun K37 hK37 => ?_)
    refine wp_seq_k (fun K38 hK38 => ?_)
    refine reg ?_
    refine sq rfl (do_move (tm rfl u9)) ?_
    refine sq rfl (do_move (tm rfl (nx rfl u1))) ?_
    refine sq rfl (do_len Try.underlying31 (tm rfl hit)) ?_
    refine sq rfl (do_lss (tm rfl (nx rfl (nx rfl hit))) (tm rfl hit)) ?_
    refine cutL ?_
    intro τ39 e39
    have c39_1 := (congrFun e39 1).trans (nx rfl (nx rfl (nx rfl (nx rfl u1))))
    have c39_2 := (congrFun e39 2).trans (nx rfl (nx rfl (nx rfl (nx rfl u2))))
    have c39_7 := (congrFun e39 7).trans (nx rfl (nx rfl (nx rfl (nx rfl u7))))
    have c39_9 := (congrFun e39 9).trans (nx rfl (nx rfl (nx rfl (nx rfl u9))))
    have c39_53 := (congrFun e39 53).trans hit
    clear e39
    refine wnil ?_
    refine hK38 _ _ ?_
    clear hK38 K38
    by_cases h : i < rows.length
    · obtain ⟨b, o, rfl, hc, hrow⟩ := hA i h (by omega)
      obtain ⟨ra, rc, hre, hrc⟩ := hrow
      rw [hre] at hc
      refine cT rfl c39_53 (by simpa using h) ?_
      refine wp_skip ?_
      refine hK37 _ _ ?_
      clear hK37 K37
      refine wp_seq_k (fun K40 hK40 => ?_)
      refine wp_block ?_
      refine wp_seq_k (fun K41 hK41 => ?_)
      refine wp_seq_k (fun K42 hK42 => ?_)
      refine reg ?_
      refine sq rfl (do_move (tm rfl c39_1)) ?_
      refine sq rfl (do_move (tm rfl (nx rfl c39_9))) ?_
      refine sq rfl (io31 (tm rfl (nx rfl hit)) (tm rfl hit) (by omega)) ?_
      refine sq rfl (do_load T30 rfl (tm rfl hit) hc) ?_
      refine sq rfl (do_len Try.underlying30 (tm rfl hit)) ?_
      refine sq rfl (do_gtr (tm rfl hit) ck) ?_
      refine cutL ?_
      intro τ43 e43
      have c43_1 := (congrFun e43 1).trans (nx rfl (nx rfl (nx rfl (nx rfl (nx rfl (nx rfl c39_1))))))
      have c43_2 := (congrFun e43 2).trans (nx rfl (nx rfl (nx rfl (nx rfl (nx rfl (nx rfl c39_2))))))
      have c43_7 := (congrFun e43 7).trans (nx rfl (nx rfl (nx rfl (nx rfl (nx rfl (nx rfl c39_7))))))
      have c43_9 := (congrFun e43 9).trans (nx rfl (nx rfl (nx rfl (nx rfl (nx rfl (nx rfl c39_9))))))
      have c43_61 := (congrFun e43 61).trans hit
      clear e43
      refine wnil ?_
      refine hK42 _ _ ?_
      clear hK42 K42
      refine cB rfl c43_61 (fun g1 => ?_) (fun g1 => ?_)
      · refine wp_seq_k (fun K44 hK44 => ?_)
        refine reg ?_
        refine sq rfl (do_assign ck) ?_
        refine wnil ?_
        refine hK44 _ _ ?_
        clear hK44 K44
        refine wp_ret ?_
        refine thenR ?_
        refine inBR ?_
        refine thenR ?_
        exact hr _ _ (hF _ hit)
      refine wp_skip ?_
      refine hK41 _ _ ?_
      clear hK41 K41
      simp at g1
      refine wp_seq_k (fun K45 hK45 => ?_)
      refine reg ?_
      refine sq rfl (do_move (tm rfl c43_7)) ?_
      refine sq rfl (do_move (tm rfl (nx rfl c43_1))) ?_
      refine sq rfl (do_move (tm rfl (nx rfl (nx rfl c43_9)))) ?_
      refine sq rfl (io31 (tm rfl (nx rfl hit)) (tm rfl hit) (by omega)) ?_
      refine sq rfl (do_load T30 rfl (tm rfl hit) hc) ?_
      refine sq rfl (do_len Try.underlying30 (tm rfl hit)) ?_
      refine sq rfl (do_addM (tm rfl (nx rfl (nx rfl (nx rfl (nx rfl (nx rfl hit)))))) (tm rfl hit) (by omega)) ?_
      refine sq rfl (do_assign (tm rfl hit)) ?_
      refine cutL ?_
      intro τ46 e46
      have c46_1 := (congrFun e46 1).trans (nx rfl (nx rfl (nx rfl (nx rfl (nx rfl (nx rfl (nx rfl (nx rfl c43_1))))))))
      have c46_2 := (congrFun e46 2).trans (nx rfl (nx rfl (nx rfl (nx rfl (nx rfl (nx rfl (nx rfl (nx rfl c43_2))))))))
      have c46_7 := (congrFun e46 7).trans hit
      have c46_9 := (congrFun e46 9).trans (nx rfl (nx rfl (nx rfl (nx rfl (nx rfl (nx rfl (nx rfl (nx rfl c43_9))))))))
      clear e46
      refine wnil ?_
      refine hK45 _ _ ?_
      clear hK45 K45
      refine wp_seq_k (fun K47 hK47 => ?_)
      refine wp_seq_k (fun K48 hK48 => ?_)
      refine reg ?_
      refine sq rfl (do_move (tm rfl c46_7)) ?_
      refine sq rfl (do_gtr (tm rfl hit) ck) ?_
      refine wnil ?_
      refine hK48 _ _ ?_
      clear hK48 K48
      refine cB rfl hit (fun g2 => ?_) (fun g2 => ?_)
      · refine wp_seq_k (fun K49 hK49 => ?_)
        refine reg ?_
        refine sq rfl (do_assign ck) ?_
        refine wnil ?_
        refine hK49 _ _ ?_
        clear hK49 K49
        refine wp_ret ?_
        refine thenR ?_
        refine inBR ?_
        refine thenR ?_
        exact hr _ _ (hF _ hit)
      refine wp_skip ?_
      refine hK47 _ _ ?_
      clear hK47 K47
      simp at g2
      refine wp_seq_k (fun K50 hK50 => ?_)
      refine reg ?_
      refine sq rfl (do_assign (v := .int .i64 ((0 : Nat) : Int)) rfl) ?_
      refine wnil ?_
      refine hK50 _ _ ?_
      clear hK50 K50
      refine forLoop (N := 110) (fun k τ wk => w = wk ∧ ∃ j z : Nat, k = rows[i].length - j ∧ j ≤ rows[i].length ∧ z ≤ 1048576 ∧ τ 1 = .slice (some ⟨b, o, none⟩) rows.length c1 ∧ τ 2 = .slice a2 zs.length c2 ∧
        τ 7 = .int .i64 (z : Int) ∧ τ 9 = .int .i64 (i : Int) ∧ τ 10 = .int .i64 (j : Int) ∧ ∀ x (h : x < rows[i].length), x < j → rows[i][x].size ≤ 1048576)
        (fun τ wk => w = wk ∧ ∃ z : Nat, z ≤ 1048576 ∧ τ 1 = .slice (some ⟨b, o, none⟩) rows.length c1 ∧ τ 2 = .slice a2 zs.length c2 ∧ τ 7 = .int .i64 (z : Int) ∧ τ 9 = .int .i64 (i : Int) ∧ ∀ s ∈ rows[i], s.size ≤ 1048576) rows[i].length ?_ ?_ ?_
      · exact ⟨rfl, 0, z + rows[i].length, rfl, Nat.zero_le _, by omega, (nx rfl (nx rfl (nx rfl c46_1))), (nx rfl (nx rfl (nx rfl c46_2))), (nx rfl (nx rfl (nx rfl c46_7))), (nx rfl (nx rfl (nx rfl c46_9))), hit, fun x _ h => by omega⟩
      · rintro Q'' k ξ wk hn' hx' hr' ⟨rfl, j, z, rfl, hj, hz, x1, x2, x7, x9, x10, hsz⟩
        refine wp_seq_k (fun K51 hK51 => ?_)
        refine wp_seq_k (fun K52 hK52 => ?_)
        refine reg ?_
        refine sq rfl (do_move (tm rfl x10)) ?_
        refine sq rfl (do_move (tm rfl (nx rfl x1))) ?_
        refine sq rfl (do_move (tm rfl (nx rfl (nx rfl x9)))) ?_
        refine sq rfl (io31 (tm rfl (nx rfl hit)) (tm rfl hit) (by omega)) ?_
        refine sq rfl (do_load T30 rfl (tm rfl hit) hc) ?_
        refine sq rfl (do_len Try.underlying30 (tm rfl hit)) ?_
        refine sq rfl (do_lss (tm rfl (nx rfl (nx rfl (nx rfl (nx rfl (nx rfl hit)))))) (tm rfl hit)) ?_
        refine cutL ?_
        intro τ53 e53
        have c53_1 := (congrFun e53 1).trans (nx rfl (nx rfl (nx rfl (nx rfl (nx rfl (nx rfl (nx rfl x1)))))))
        have c53_2 := (congrFun e53 2).trans (nx rfl (nx rfl (nx rfl (nx rfl (nx rfl (nx rfl (nx rfl x2)))))))
        have c53_7 := (congrFun e53 7).trans (nx rfl (nx rfl (nx rfl (nx rfl (nx rfl (nx rfl (nx rfl x7)))))))
        have c53_9 := (congrFun e53 9).trans (nx rfl (nx rfl (nx rfl (nx rfl (nx rfl (nx rfl (nx rfl x9)))))))
        have c53_10 := (congrFun e53 10).trans (nx rfl (nx rfl (nx rfl (nx rfl (nx rfl (nx rfl (nx rfl x10)))))))
        have c53_77 := (congrFun e53 77).trans hit
        clear e53
        refine wnil ?_
        refine hK52 _ _ ?_
        clear hK52 K52
        by_cases h' : j < rows[i].length
        · obtain ⟨b', o', rfl, hc'⟩ := hrc j h'
          refine cT rfl c53_77 (by simpa using h') ?_
          refine wp_skip ?_
          refine hK51 _ _ ?_
          clear hK51 K51
          refine wp_seq_k (fun K54 hK54 => ?_)
          refine wp_block ?_
          refine wp_seq_k (fun K55 hK55 => ?_)
          refine wp_seq_k (fun K56 hK56 => ?_)
          refine reg ?_
          refine sq rfl (do_move (tm rfl c53_1)) ?_
          refine sq rfl (do_move (tm rfl (nx rfl c53_9))) ?_
          refine sq rfl (io31 (tm rfl (nx rfl hit)) (tm rfl hit) (by omega)) ?_
          refine sq rfl (do_load T30 rfl (tm rfl hit) hc) ?_
          refine sq rfl (do_move (tm rfl (nx rfl (nx rfl (nx rfl (nx rfl c53_10)))))) ?_
          refine sq rfl (io30 (tm rfl (nx rfl hit)) (tm rfl hit) (by omega)) ?_
          refine sq rfl (do_load T9 rfl (tm rfl hit) hc') ?_
          refine sq rfl (do_lenStr Try.underlying9 (tm rfl hit)) ?_
          refine sq rfl (do_gtr (tm rfl hit) ck) ?_
          refine cutL ?_
          intro τ57 e57
          have c57_1 := (congrFun e57 1).trans (nx rfl (nx rfl (nx rfl (nx rfl (nx rfl (nx rfl (nx rfl (nx rfl (nx rfl c53_1)))))))))
          have c57_2 := (congrFun e57 2).trans (nx rfl (nx rfl (nx rfl (nx rfl (nx rfl (nx rfl (nx rfl (nx rfl (nx rfl c53_2)))))))))
          have c57_7 := (congrFun e57 7).trans (nx rfl (nx rfl (nx rfl (nx rfl (nx rfl (nx rfl (nx rfl (nx rfl (nx rfl c53_7)))))))))
          have c57_9 := (congrFun e57 9).trans (nx rfl (nx rfl (nx rfl (nx rfl (nx rfl (nx rfl (nx rfl (nx rfl (nx rfl c53_9)))))))))
          have c57_10 := (congrFun e57 10).trans (nx rfl (nx rfl (nx rfl (nx rfl (nx rfl (nx rfl (nx rfl (nx rfl (nx rfl c53_10)))))))))
          have c57_88 := (congrFun e57 88).trans hit
          clear e57
          refine wnil ?_
          refine hK56 _ _ ?_
          clear hK56 K56
          refine cB rfl c57_88 (fun g3 => ?_) (fun g3 => ?_)
          · refine wp_seq_k (fun K58 hK58 => ?_)
            refine reg ?_
            refine sq rfl (do_assign ck) ?_
            refine wnil ?_
            refine hK58 _ _ ?_
            clear hK58 K58
            refine wp_ret ?_
            refine thenR ?_
            refine inBR ?_
            refine thenR ?_
            exact hr' _ _ (hr _ _ (hF _ hit))
          refine wp_skip ?_
          refine hK55 _ _ ?_
          clear hK55 K55
          simp at g3
          refine wp_seq_k (fun K59 hK59 => ?_)
          refine reg ?_
          refine sq rfl (do_move (tm rfl c57_7)) ?_
          refine sq rfl (do_move (tm rfl (nx rfl c57_1))) ?_
          refine sq rfl (do_move (tm rfl (nx rfl (nx rfl c57_9)))) ?_
          refine sq rfl (io31 (tm rfl (nx rfl hit)) (tm rfl hit) (by omega)) ?_
          refine sq rfl (do_load T30 rfl (tm rfl hit) hc) ?_
          refine sq rfl (do_move (tm rfl (nx rfl (nx rfl (nx rfl (nx rfl (nx rfl c57_10))))))) ?_
          refine sq rfl (io30 (tm rfl (nx rfl hit)) (tm rfl hit) (by omega)) ?_
          refine sq rfl (do_load T9 rfl (tm rfl hit) hc') ?_
          refine sq rfl (do_lenStr Try.underlying9 (tm rfl hit)) ?_
          refine sq rfl (do_addM (tm rfl (nx rfl (nx rfl (nx rfl (nx rfl (nx rfl (nx rfl (nx rfl (nx rfl hit))))))))) (tm rfl hit) (by omega)) ?_
          refine sq rfl (do_assign (tm rfl hit)) ?_
          refine cutL ?_
          intro τ60 e60
          have c60_1 := (congrFun e60 1).trans (nx rfl (nx rfl (nx rfl (nx rfl (nx rfl (nx rfl (nx rfl (nx rfl (nx rfl (nx rfl (nx rfl c57_1)))))))))))
          have c60_2 := (congrFun e60 2).trans (nx rfl (nx rfl (nx rfl (nx rfl (nx rfl (nx rfl (nx rfl (nx rfl (nx rfl (nx rfl (nx rfl c57_2)))))))))))
          have c60_7 := (congrFun e60 7).trans hit
          have c60_9 := (congrFun e60 9).trans (nx rfl (nx rfl (nx rfl (nx rfl (nx rfl (nx rfl (nx rfl (nx rfl (nx rfl (nx rfl (nx rfl c57_9)))))))))))
          have c60_10 := (congrFun e60 10).trans (nx rfl (nx rfl (nx rfl (nx rfl (nx rfl (nx rfl (nx rfl (nx rfl (nx rfl (nx rfl (nx rfl c57_10)))))))))))
          clear e60
          refine wnil ?_
          refine hK59 _ _ ?_
          clear hK59 K59
          refine wp_seq_k (fun K61 hK61 => ?_)
          refine reg ?_
          refine sq rfl (do_move (tm rfl c60_7)) ?_
          refine sq rfl (do_gtr (tm rfl hit) ck) ?_
          refine wnil ?_
          refine hK61 _ _ ?_
          clear hK61 K61
          refine cB rfl hit (fun g4 => ?_) (fun g4 => ?_)
          · refine wp_seq_k (fun K62 hK62 => ?_)
            refine reg ?_
            refine sq rfl (do_assign ck) ?_
            refine wnil ?_
            refine hK62 _ _ ?_
            clear hK62 K62
            refine wp_ret ?_
            refine inBR ?_
            refine thenR ?_
            exact hr' _ _ (hr _ _ (hF _ hit))
          refine wp_skip ?_
          refine inBN ?_
          refine hK54 _ _ ?_
          clear hK54 K54
          simp at g4
          refine reg ?_
          refine sq rfl (do_move (tm rfl (nx rfl (nx rfl c60_10)))) ?_
          refine sq rfl (do_inc (tm rfl hit) ck (by omega)) ?_
          refine sq rfl (do_assign (tm rfl hit)) ?_
          refine cutL ?_
          intro τ63 e63
          have c63_1 := (congrFun e63 1).trans (nx rfl (nx rfl (nx rfl (nx rfl (nx rfl c60_1)))))
          have c63_2 := (congrFun e63 2).trans (nx rfl (nx rfl (nx rfl (nx rfl (nx rfl c60_2)))))
          have c63_7 := (congrFun e63 7).trans (nx rfl (nx rfl (nx rfl (nx rfl (nx rfl c60_7)))))
          have c63_9 := (congrFun e63 9).trans (nx rfl (nx rfl (nx rfl (nx rfl (nx rfl c60_9)))))
          have c63_10 := (congrFun e63 10).trans hit
          clear e63
          refine wnil ?_
          refine hn' (rows[i].length - (j + 1)) _ _ (by omega) ⟨rfl, j + 1, z + rows[i][j].size, rfl, by omega, by omega, c63_1, c63_2, c63_7, c63_9, c63_10, ?_⟩
          intro x hx hlt
          rcases Nat.lt_or_ge x j with hh | hh
          · exact hsz x hx hh
          · obtain rfl : x = j := by omega
            omega
        · refine cF rfl c53_77 (by simpa using h') ?_
          refine wp_exit ?_
          refine thenE ?_
          refine hx' _ _ ⟨rfl, z, hz, c53_1, c53_2, c53_7, c53_9, ?_⟩
          intro s hs
          obtain ⟨x, hxl, rfl⟩ := List.getElem_of_mem hs
          exact hsz x hxl (by omega)
      clear u1 u2 u7 u9
      rintro ν _ ⟨rfl, z, hz, u1, u2, u7, u9, hsz⟩
      refine inBN ?_
      refine hK40 _ _ ?_
      clear hK40 K40
      refine reg ?_
      refine sq rfl (do_move (tm rfl u9)) ?_
      refine sq rfl (do_inc (tm rfl hit) ck (by omega)) ?_
      refine sq rfl (do_assign (tm rfl hit)) ?_
      refine wnil ?_
      refine hn (rows.length - (i + 1)) _ _ (by omega) ⟨rfl, i + 1, z, rfl, by omega, by omega, (nx rfl (nx rfl (nx rfl u1))), (nx rfl (nx rfl (nx rfl u2))), (nx rfl (nx rfl (nx rfl u7))), hit, ?_⟩
      intro j' hj' hlt
      rcases Nat.lt_or_ge j' i with hh | hh
      · exact hlens j' hj' hh
      · obtain rfl : j' = i := by omega
        exact ⟨by omega, hsz⟩
    · refine cF rfl c39_53 (by simpa using h) ?_
      refine wp_exit ?_
      refine thenE ?_
      exact hx _ _ ⟨rfl, z, hz, c39_2, c39_7, fun j hj => hlens j hj (by omega)⟩
  clear t1 t2 t7
  rintro τ _ ⟨rfl, z, hz, t2, t7, hlens⟩
  refine hK35 _ _ ?_
  clear hK35 K35
  refine wp_seq_k (fun K64 hK64 => ?_)
  refine wp_seq_k (fun K65 hK65 => ?_)
  refine reg ?_
  refine sq rfl (do_move (tm rfl t2)) ?_
  refine sq rfl (do_len Try.underlying32 (tm rfl hit)) ?_
  refine sq rfl (do_gtr (tm rfl hit) ck) ?_
  refine wnil ?_
  refine hK65 _ _ ?_
  clear hK65 K65
  refine cB rfl hit (fun h5 => ?_) (fun h5 => ?_)
  · refine wp_seq_k (fun K66 hK66 => ?_)
    refine reg ?_
    refine sq rfl (do_assign ck) ?_
    refine wnil ?_
    refine hK66 _ _ ?_
    clear hK66 K66
    refine wp_ret ?_
    refine thenR ?_
    exact hF _ hit
  refine wp_skip ?_
  refine hK64 _ _ ?_
  clear hK64 K64
  simp at h5
  refine wp_seq_k (fun K67 hK67 => ?_)
  refine reg ?_
  refine sq rfl (do_move (tm rfl (nx rfl (nx rfl (nx rfl t7))))) ?_
  refine sq rfl (do_move (tm rfl (nx rfl (nx rfl (nx rfl (nx rfl t2)))))) ?_
  refine sq rfl (do_len Try.underlying32 (tm rfl hit)) ?_
  refine sq rfl (do_addM (tm rfl (nx rfl (nx rfl hit))) (tm rfl hit) (by omega)) ?_
  refine sq rfl (do_assign (tm rfl hit)) ?_
  refine cutL ?_
  intro τ68 e68
  have c68_2 := (congrFun e68 2).trans (nx rfl (nx rfl (nx rfl (nx rfl (nx rfl (nx rfl (nx rfl (nx rfl t2))))))))
  have c68_7 := (congrFun e68 7).trans hit
  clear e68
  refine wnil ?_
  refine hK67 _ _ ?_
  clear hK67 K67
  refine wp_seq_k (fun K69 hK69 => ?_)
  refine wp_seq_k (fun K70 hK70 => ?_)
  refine reg ?_
  refine sq rfl (do_move (tm rfl c68_7)) ?_
  refine sq rfl (do_gtr (tm rfl hit) ck) ?_
  refine wnil ?_
  refine hK70 _ _ ?_
  clear hK70 K70
  refine cB rfl hit (fun h6 => ?_) (fun h6 => ?_)
  · refine wp_seq_k (fun K71 hK71 => ?_)
    refine reg ?_
    refine sq rfl (do_assign ck) ?_
    refine wnil ?_
    refine hK71 _ _ ?_
    clear hK71 K71
    refine wp_ret ?_
    refine thenR ?_
    exact hF _ hit
  refine wp_skip ?_
  refine hK69 _ _ ?_
  clear hK69 K69
  refine wp_seq_k (fun K72 hK72 => ?_)
  refine reg ?_
  refine sq rfl (do_assign ck) ?_
  refine wnil ?_
  refine hK72 _ _ ?_
  clear hK72 K72
  refine wp_ret ?_
  rw [← hQ]
  refine ret1 rfl rfl hit ⟨true, rfl, rfl, fun _ => ⟨by omega, by omega, by omega, ?_⟩⟩
  intro r hr
  obtain ⟨j, hj, rfl⟩ := List.getElem_of_mem hr
  exact hlens j hj
theorem bytes20 (w : World) (vp va vs : Value) (ps : List ByteArray) (avs : List Value) (rows : List (List ByteArray)) (zs : List Int) (hP : StrS w vp ps) (hA : ArgS w va avs rows) (hS : I64S w vs zs) :
    Calls Try.prog 20 #[vp, va, vs] w fun e w' => ∃ b, e = .returned (.bool b) ∧ w' = w ∧ (b = true → ps.length ≤ 1048576 ∧ rows.length ≤ 1048576 ∧ zs.length ≤ 1048576 ∧ ∀ r ∈ rows, r.length ≤ 1048576 ∧ ∀ s ∈ r, s.size ≤ 1048576) := by
  obtain ⟨a0, c0, rfl, hP⟩ := hP
  obtain ⟨hal, a1, c1, rfl, hA⟩ := hA
  obtain ⟨a2, c2, rfl, hS⟩ := hS
  refine enter (args := [.slice a0 ps.length c0, .slice a1 rows.length c1, .slice a2 zs.length c2]) Try.func20 rfl Try.ntmps20 rfl ?_
  generalize hQ : bodyPost Try.prog Try.f20 _ = Q
  have hF : ∀ τ, τ 6 = .bool false → Q .ret (Fr 110 τ) w := by
    intro τ h
    rw [← hQ]
    exact ret1 rfl rfl h ⟨false, rfl, rfl, fun h => by cases h⟩
  have s0 : frame0 [Value.slice a0 ps.length c0, .slice a1 rows.length c1, .slice a2 zs.length c2] 0 = .slice a0 ps.length c0 := rfl
  have s1 : frame0 [Value.slice a0 ps.length c0, .slice a1 rows.length c1, .slice a2 zs.length c2] 1 = .slice a1 rows.length c1 := rfl
  have s2 : frame0 [Value.slice a0 ps.length c0, .slice a1 rows.length c1, .slice a2 zs.length c2] 2 = .slice a2 zs.length c2 := rfl
  generalize frame0 [Value.slice a0 ps.length c0, .slice a1 rows.length c1, .slice a2 zs.length c2] = σ at *
  refine wp_seq_k (fun K73 hK73 => ?_)
  refine reg ?_
  refine sq rfl (do_assign ck) ?_
  refine wnil ?_
  refine hK73 _ _ ?_
  clear hK73 K73
  refine wp_seq_k (fun K74 hK74 => ?_)
  refine reg ?_
  refine sq rfl (do_assign (v := .int .i64 ((0 : Nat) : Int)) rfl) ?_
  refine wnil ?_
  refine hK74 _ _ ?_
  clear hK74 K74
  refine wp_seq_k (fun K75 hK75 => ?_)
  refine wp_seq_k (fun K76 hK76 => ?_)
  refine reg ?_
  refine sq rfl (do_move (tm rfl (nx rfl (nx rfl s0)))) ?_
  refine sq rfl (do_len Try.underlying30 (tm rfl hit)) ?_
  refine sq rfl (do_gtr (tm rfl hit) ck) ?_
  refine cutL ?_
  intro τ77 e77
  have c77_0 := (congrFun e77 0).trans (nx rfl (nx rfl (nx rfl (nx rfl (nx rfl s0)))))
  have c77_1 := (congrFun e77 1).trans (nx rfl (nx rfl (nx rfl (nx rfl (nx rfl s1)))))
  have c77_2 := (congrFun e77 2).trans (nx rfl (nx rfl (nx rfl (nx rfl (nx rfl s2)))))
  have c77_6 := (congrFun e77 6).trans (nx rfl (nx rfl (nx rfl (nx rfl hit))))
  have c77_7 := (congrFun e77 7).trans (nx rfl (nx rfl (nx rfl hit)))
  have c77_13 := (congrFun e77 13).trans hit
  clear e77
  refine wnil ?_
  refine hK76 _ _ ?_
  clear hK76 K76
  refine cB rfl c77_13 (fun h1 => ?_) (fun h1 => ?_)
  · refine wp_seq_k (fun K78 hK78 => ?_)
    refine reg ?_
    refine sq rfl (do_assign ck) ?_
    refine wnil ?_
    refine hK78 _ _ ?_
    clear hK78 K78
    refine wp_ret ?_
    refine thenR ?_
    exact hF _ hit
  refine wp_skip ?_
  refine hK75 _ _ ?_
  clear hK75 K75
  simp at h1
  refine wp_seq_k (fun K79 hK79 => ?_)
  refine reg ?_
  refine sq rfl (do_move (tm rfl c77_7)) ?_
  refine sq rfl (do_move (tm rfl (nx rfl c77_0))) ?_
  refine sq rfl (do_len Try.underlying30 (tm rfl hit)) ?_
  refine sq rfl (do_addM (tm rfl (nx rfl (nx rfl hit))) (tm rfl hit) (by omega)) ?_
  refine sq rfl (do_assign (tm rfl hit)) ?_
  refine cutL ?_
  intro τ80 e80
  have c80_0 := (congrFun e80 0).trans (nx rfl (nx rfl (nx rfl (nx rfl (nx rfl c77_0)))))
  have c80_1 := (congrFun e80 1).trans (nx rfl (nx rfl (nx rfl (nx rfl (nx rfl c77_1)))))
  have c80_2 := (congrFun e80 2).trans (nx rfl (nx rfl (nx rfl (nx rfl (nx rfl c77_2)))))
  have c80_6 := (congrFun e80 6).trans (nx rfl (nx rfl (nx rfl (nx rfl (nx rfl c77_6)))))
  have c80_7 := (congrFun e80 7).trans hit
  clear e80
  refine wnil ?_
  refine hK79 _ _ ?_
  clear hK79 K79
  refine wp_seq_k (fun K81 hK81 => ?_)
  refine wp_seq_k (fun K82 hK82 => ?_)
  refine reg ?_
  refine sq rfl (do_move (tm rfl c80_7)) ?_
  refine sq rfl (do_gtr (tm rfl hit) ck) ?_
  refine wnil ?_
  refine hK82 _ _ ?_
  clear hK82 K82
  refine cB rfl hit (fun h2 => ?_) (fun h2 => ?_)
  · refine wp_seq_k (fun K83 hK83 => ?_)
    refine reg ?_
    refine sq rfl (do_assign ck) ?_
    refine wnil ?_
    refine hK83 _ _ ?_
    clear hK83 K83
    refine wp_ret ?_
    refine thenR ?_
    exact hF _ hit
  refine wp_skip ?_
  refine hK81 _ _ ?_
  clear hK81 K81
  simp at h2
  refine wp_seq_k (fun K84 hK84 => ?_)
  refine wp_seq_k (fun K85 hK85 => ?_)
  refine reg ?_
  refine sq rfl (do_assign (v := .int .i64 ((0 : Nat) : Int)) rfl) ?_
  refine wnil ?_
  refine hK85 _ _ ?_
  clear hK85 K85
  refine forLoop (N := 110) (fun k τ wi => w = wi ∧ ∃ i z : Nat, k = ps.length - i ∧ i ≤ ps.length ∧ z ≤ 1048576 ∧ τ 0 = .slice a0 ps.length c0 ∧ τ 1 = .slice a1 rows.length c1 ∧ τ 2 = .slice a2 zs.length c2 ∧
    τ 7 = .int .i64 (z : Int) ∧ τ 8 = .int .i64 (i : Int))
    (fun τ wi => w = wi ∧ ∃ z : Nat, z ≤ 1048576 ∧ τ 1 = .slice a1 rows.length c1 ∧ τ 2 = .slice a2 zs.length c2 ∧ τ 7 = .int .i64 (z : Int)) ps.length ?_ ?_ ?_
  · exact ⟨rfl, 0, 0 + ps.length, rfl, Nat.zero_le _, by omega, (nx rfl (nx rfl (nx rfl c80_0))), (nx rfl (nx rfl (nx rfl c80_1))), (nx rfl (nx rfl (nx rfl c80_2))), (nx rfl (nx rfl (nx rfl c80_7))), hit⟩
  · rintro Q' k τ wi hn hx hr ⟨rfl, i, z, rfl, hi, hz, t0, t1, t2, t7, t8⟩
    refine wp_seq_k (fun K86 hK86 => ?_)
    refine wp_seq_k (fun K87 hK87 => ?_)
    refine reg ?_
    refine sq rfl (do_move (tm rfl t8)) ?_
    refine sq rfl (do_move (tm rfl (nx rfl t0))) ?_
    refine sq rfl (do_len Try.underlying30 (tm rfl hit)) ?_
    refine sq rfl (do_lss (tm rfl (nx rfl (nx rfl hit))) (tm rfl hit)) ?_
    refine cutL ?_
    intro τ88 e88
    have c88_0 := (congrFun e88 0).trans (nx rfl (nx rfl (nx rfl (nx rfl t0))))
    have c88_1 := (congrFun e88 1).trans (nx rfl (nx rfl (nx rfl (nx rfl t1))))
    have c88_2 := (congrFun e88 2).trans (nx rfl (nx rfl (nx rfl (nx rfl t2))))
    have c88_7 := (congrFun e88 7).trans (nx rfl (nx rfl (nx rfl (nx rfl t7))))
    have c88_8 := (congrFun e88 8).trans (nx rfl (nx rfl (nx rfl (nx rfl t8))))
    have c88_23 := (congrFun e88 23).trans hit
    clear e88
    refine wnil ?_
    refine hK87 _ _ ?_
    clear hK87 K87
    by_cases h : i < ps.length
    · obtain ⟨b, o, rfl, hc⟩ := hP i h
      refine cT rfl c88_23 (by simpa using h) ?_
      refine wp_skip ?_
      refine hK86 _ _ ?_
      clear hK86 K86
      refine wp_seq_k (fun K89 hK89 => ?_)
      refine wp_block ?_
      refine wp_seq_k (fun K90 hK90 => ?_)
      refine wp_seq_k (fun K91 hK91 => ?_)
      refine reg ?_
      refine sq rfl (do_move (tm rfl c88_0)) ?_
      refine sq rfl (do_move (tm rfl (nx rfl c88_8))) ?_
      refine sq rfl (io30 (tm rfl (nx rfl hit)) (tm rfl hit) (by omega)) ?_
      refine sq rfl (do_load T9 rfl (tm rfl hit) hc) ?_
      refine sq rfl (do_lenStr Try.underlying9 (tm rfl hit)) ?_
      refine sq rfl (do_gtr (tm rfl hit) ck) ?_
      refine cutL ?_
      intro τ92 e92
      have c92_0 := (congrFun e92 0).trans (nx rfl (nx rfl (nx rfl (nx rfl (nx rfl (nx rfl c88_0))))))
      have c92_1 := (congrFun e92 1).trans (nx rfl (nx rfl (nx rfl (nx rfl (nx rfl (nx rfl c88_1))))))
      have c92_2 := (congrFun e92 2).trans (nx rfl (nx rfl (nx rfl (nx rfl (nx rfl (nx rfl c88_2))))))
      have c92_7 := (congrFun e92 7).trans (nx rfl (nx rfl (nx rfl (nx rfl (nx rfl (nx rfl c88_7))))))
      have c92_8 := (congrFun e92 8).trans (nx rfl (nx rfl (nx rfl (nx rfl (nx rfl (nx rfl c88_8))))))
      have c92_31 := (congrFun e92 31).trans hit
      clear e92
      refine wnil ?_
      refine hK91 _ _ ?_
      clear hK91 K91
      refine cB rfl c92_31 (fun g1 => ?_) (fun g1 => ?_)
      · refine wp_seq_k (fun K93 hK93 => ?_)
        refine reg ?_
        refine sq rfl (do_assign ck) ?_
        refine wnil ?_
        refine hK93 _ _ ?_
        clear hK93 K93
        refine wp_ret ?_
        refine thenR ?_
        refine inBR ?_
        refine thenR ?_
        exact hr _ _ (hF _ hit)
      refine wp_skip ?_
      refine hK90 _ _ ?_
      clear hK90 K90
      simp at g1
      refine wp_seq_k (fun K94 hK94 => ?_)
      refine reg ?_
      refine sq rfl (do_move (tm rfl c92_7)) ?_
      refine sq rfl (do_move (tm rfl (nx rfl c92_0))) ?_
      refine sq rfl (do_move (tm rfl (nx rfl (nx rfl c92_8)))) ?_
      refine sq rfl (io30 (tm rfl (nx rfl hit)) (tm rfl hit) (by omega)) ?_
      refine sq rfl (do_load T9 rfl (tm rfl hit) hc) ?_
      refine sq rfl (do_lenStr Try.underlying9 (tm rfl hit)) ?_
      refine sq rfl (do_addM (tm rfl (nx rfl (nx rfl (nx rfl (nx rfl (nx rfl hit)))))) (tm rfl hit) (by omega)) ?_
      refine sq rfl (do_assign (tm rfl hit)) ?_
      refine cutL ?_
      intro τ95 e95
      have c95_0 := (congrFun e95 0).trans (nx rfl (nx rfl (nx rfl (nx rfl (nx rfl (nx rfl (nx rfl (nx rfl c92_0))))))))
      have c95_1 := (congrFun e95 1).trans (nx rfl (nx rfl (nx rfl (nx rfl (nx rfl (nx rfl (nx rfl (nx rfl c92_1))))))))
      have c95_2 := (congrFun e95 2).trans (nx rfl (nx rfl (nx rfl (nx rfl (nx rfl (nx rfl (nx rfl (nx rfl c92_2))))))))
      have c95_7 := (congrFun e95 7).trans hit
      have c95_8 := (congrFun e95 8).trans (nx rfl (nx rfl (nx rfl (nx rfl (nx rfl (nx rfl (nx rfl (nx rfl c92_8))))))))
      clear e95
      refine wnil ?_
      refine hK94 _ _ ?_
      clear hK94 K94
      refine wp_seq_k (fun K96 hK96 => ?_)
      refine reg ?_
      refine sq rfl (do_move (tm rfl c95_7)) ?_
      refine sq rfl (do_gtr (tm rfl hit) ck) ?_
      refine wnil ?_
      refine hK96 _ _ ?_
      clear hK96 K96
      refine cB rfl hit (fun g2 => ?_) (fun g2 => ?_)
      · refine wp_seq_k (fun K97 hK97 => ?_)
        refine reg ?_
        refine sq rfl (do_assign ck) ?_
        refine wnil ?_
        refine hK97 _ _ ?_
        clear hK97 K97
        refine wp_ret ?_
        refine inBR ?_
        refine thenR ?_
        exact hr _ _ (hF _ hit)
      refine wp_skip ?_
      refine inBN ?_
      refine hK89 _ _ ?_
      clear hK89 K89
      simp at g2
      refine reg ?_
      refine sq rfl (do_move (tm rfl (nx rfl (nx rfl c95_8)))) ?_
      refine sq rfl (do_inc (tm rfl hit) ck (by omega)) ?_
      refine sq rfl (do_assign (tm rfl hit)) ?_
      refine cutL ?_
      intro τ98 e98
      have c98_0 := (congrFun e98 0).trans (nx rfl (nx rfl (nx rfl (nx rfl (nx rfl c95_0)))))
      have c98_1 := (congrFun e98 1).trans (nx rfl (nx rfl (nx rfl (nx rfl (nx rfl c95_1)))))
      have c98_2 := (congrFun e98 2).trans (nx rfl (nx rfl (nx rfl (nx rfl (nx rfl c95_2)))))
      have c98_7 := (congrFun e98 7).trans (nx rfl (nx rfl (nx rfl (nx rfl (nx rfl c95_7)))))
      have c98_8 := (congrFun e98 8).trans hit
      clear e98
      refine wnil ?_
      exact hn (ps.length - (i + 1)) _ _ (by omega) ⟨rfl, i + 1, z + ps[i].size, rfl, by omega, by omega, c98_0, c98_1, c98_2, c98_7, c98_8⟩
    · refine cF rfl c88_23 (by simpa using h) ?_
      refine wp_exit ?_
      refine thenE ?_
      exact hx _ _ ⟨rfl, z, hz, c88_1, c88_2, c88_7⟩
  clear s0 s1 s2
  rintro τ _ ⟨rfl, z, hz, t1, t2, t7⟩
  refine hK84 _ _ ?_
  clear hK84 K84
  refine wp_seq_k (fun K99 hK99 => ?_)
  refine wp_seq_k (fun K100 hK100 => ?_)
  refine reg ?_
  refine sq rfl (do_move (tm rfl t1)) ?_
  refine sq rfl (do_len Try.underlying31 (tm rfl hit)) ?_
  refine sq rfl (do_gtr (tm rfl hit) ck) ?_
  refine wnil ?_
  refine hK100 _ _ ?_
  clear hK100 K100
  refine cB rfl hit (fun h3 => ?_) (fun h3 => ?_)
  · refine wp_seq_k (fun K101 hK101 => ?_)
    refine reg ?_
    refine sq rfl (do_assign ck) ?_
    refine wnil ?_
    refine hK101 _ _ ?_
    clear hK101 K101
    refine wp_ret ?_
    refine thenR ?_
    exact hF _ hit
  refine wp_skip ?_
  refine hK99 _ _ ?_
  clear hK99 K99
  simp at h3
  refine wp_seq_k (fun K102 hK102 => ?_)
  refine reg ?_
  refine sq rfl (do_move (tm rfl (nx rfl (nx rfl (nx rfl t7))))) ?_
  refine sq rfl (do_move (tm rfl (nx rfl (nx rfl (nx rfl (nx rfl t1)))))) ?_
  refine sq rfl (do_len Try.underlying31 (tm rfl hit)) ?_
  refine sq rfl (do_addM (tm rfl (nx rfl (nx rfl hit))) (tm rfl hit) (by omega)) ?_
  refine sq rfl (do_assign (tm rfl hit)) ?_
  refine cutL ?_
  intro τ103 e103
  have c103_1 := (congrFun e103 1).trans (nx rfl (nx rfl (nx rfl (nx rfl (nx rfl (nx rfl (nx rfl (nx rfl t1))))))))
  have c103_2 := (congrFun e103 2).trans (nx rfl (nx rfl (nx rfl (nx rfl (nx rfl (nx rfl (nx rfl (nx rfl t2))))))))
  have c103_7 := (congrFun e103 7).trans hit
  clear e103
  refine wnil ?_
  refine hK102 _ _ ?_
  clear hK102 K102
  refine wp_seq_k (fun K104 hK104 => ?_)
  refine wp_seq_k (fun K105 hK105 => ?_)
  refine reg ?_
  refine sq rfl (do_move (tm rfl c103_7)) ?_
  refine sq rfl (do_gtr (tm rfl hit) ck) ?_
  refine wnil ?_
  refine hK105 _ _ ?_
  clear hK105 K105
  refine cB rfl hit (fun h4 => ?_) (fun h4 => ?_)
  · refine wp_seq_k (fun K106 hK106 => ?_)
    refine reg ?_
    refine sq rfl (do_assign ck) ?_
    refine wnil ?_
    refine hK106 _ _ ?_
    clear hK106 K106
    refine wp_ret ?_
    refine thenR ?_
    exact hF _ hit
  refine wp_skip ?_
  refine hK104 _ _ ?_
  clear hK104 K104
  simp at h4
  refine wp_seq_k (fun K107 hK107 => ?_)
  refine wp_seq_k (fun K108 hK108 => ?_)
  refine reg ?_
  refine sq rfl (do_assign (v := .int .i64 ((0 : Nat) : Int)) rfl) ?_
  refine wnil ?_
  refine hK108 _ _ ?_
  clear hK108 K108
  refine forLoop (N := 110) (fun k τ wj => w = wj ∧ ∃ i z : Nat, k = rows.length - i ∧ i ≤ rows.length ∧ z ≤ 1048576 ∧ τ 1 = .slice a1 rows.length c1 ∧ τ 2 = .slice a2 zs.length c2 ∧
    τ 7 = .int .i64 (z : Int) ∧ τ 9 = .int .i64 (i : Int) ∧ ∀ j (h : j < rows.length), j < i → rows[j].length ≤ 1048576 ∧ ∀ s ∈ rows[j], s.size ≤ 1048576)
    (fun τ wj => w = wj ∧ ∃ z : Nat, z ≤ 1048576 ∧ τ 2 = .slice a2 zs.length c2 ∧ τ 7 = .int .i64 (z : Int) ∧ ∀ j (h : j < rows.length), rows[j].length ≤ 1048576 ∧ ∀ s ∈ rows[j], s.size ≤ 1048576) rows.length ?_ ?_ ?_
  · exact ⟨rfl, 0, z + rows.length, rfl, Nat.zero_le _, by omega, (nx rfl (nx rfl (nx rfl c103_1))), (nx rfl (nx rfl (nx rfl c103_2))), (nx rfl (nx rfl (nx rfl c103_7))), hit, fun j _ h => by omega⟩
  · clear t1 t2 t7
    rintro Q' k ν wj hn hx hr ⟨rfl, i, z, rfl, hi, hz, u1, u2, u7, u9, hlens⟩
    refine wp_seq_k (fun K109 hK109 => ?_)
    refine wp_seq_k (fun K110 hK110 => ?_)
    refine reg ?_
    refine sq rfl (do_move (tm rfl u9)) ?_
    refine sq rfl (do_move (tm rfl (nx rfl u1))) ?_
    refine sq rfl (do_len Try.underlying31 (tm rfl hit)) ?_
    refine sq rfl (do_lss (tm rfl (nx rfl (nx rfl hit))) (tm rfl hit)) ?_
    refine cutL ?_
    intro τ111 e111
    have c111_1 := (congrFun e111 1).trans (nx rfl (nx rfl (nx rfl (nx rfl u1))))
    have c111_2 := (congrFun e111 2).trans (nx rfl (nx rfl (nx rfl (nx rfl u2))))
    have c111_7 := (congrFun e111 7).trans (nx rfl (nx rfl (nx rfl (nx rfl u7))))
    have c111_9 := (congrFun e111 9).trans (nx rfl (nx rfl (nx rfl (nx rfl u9))))
    have c111_53 := (congrFun e111 53).trans hit
    clear e111
    refine wnil ?_
    refine hK110 _ _ ?_
    clear hK110 K110
    by_cases h : i < rows.length
    · obtain ⟨b, o, rfl, hc, hrow⟩ := hA i h (by omega)
      obtain ⟨ra, rc, hre, hrc⟩ := hrow
      rw [hre] at hc
      refine cT rfl c111_53 (by simpa using h) ?_
      refine wp_skip ?_
      refine hK109 _ _ ?_
      clear hK109 K109
      refine wp_seq_k (fun K112 hK112 => ?_)
      refine wp_block ?_
      refine wp_seq_k (fun K113 hK113 => ?_)
      refine wp_seq_k (fun K114 hK114 => ?_)
      refine reg ?_
      refine sq rfl (do_move (tm rfl c111_1)) ?_
      refine sq rfl (do_move (tm rfl (nx rfl c111_9))) ?_
      refine sq rfl (io31 (tm rfl (nx rfl hit)) (tm rfl hit) (by omega)) ?_
      refine sq rfl (do_load T30 rfl (tm rfl hit) hc) ?_
      refine sq rfl (do_len Try.underlying30 (tm rfl hit)) ?_
      refine sq rfl (do_gtr (tm rfl hit) ck) ?_
      refine cutL ?_
      intro τ115 e115
      have c115_1 := (congrFun e115 1).trans (nx rfl (nx rfl (nx rfl (nx rfl (nx rfl (nx rfl c111_1))))))
      have c115_2 := (congrFun e115 2).trans (nx rfl (nx rfl (nx rfl (nx rfl (nx rfl (nx rfl c111_2))))))
      have c115_7 := (congrFun e115 7).trans (nx rfl (nx rfl (nx rfl (nx rfl (nx rfl (nx rfl c111_7))))))
      have c115_9 := (congrFun e115 9).trans (nx rfl (nx rfl (nx rfl (nx rfl (nx rfl (nx rfl c111_9))))))
      have c115_61 := (congrFun e115 61).trans hit
      clear e115
      refine wnil ?_
      refine hK114 _ _ ?_
      clear hK114 K114
      refine cB rfl c115_61 (fun g1 => ?_) (fun g1 => ?_)
      · refine wp_seq_k (fun K116 hK116 => ?_)
        refine reg ?_
        refine sq rfl (do_assign ck) ?_
        refine wnil ?_
        refine hK116 _ _ ?_
        clear hK116 K116
        refine wp_ret ?_
        refine thenR ?_
        refine inBR ?_
        refine thenR ?_
        exact hr _ _ (hF _ hit)
      refine wp_skip ?_
      refine hK113 _ _ ?_
      clear hK113 K113
      simp at g1
      refine wp_seq_k (fun K117 hK117 => ?_)
      refine reg ?_
      refine sq rfl (do_move (tm rfl c115_7)) ?_
      refine sq rfl (do_move (tm rfl (nx rfl c115_1))) ?_
      refine sq rfl (do_move (tm rfl (nx rfl (nx rfl c115_9)))) ?_
      refine sq rfl (io31 (tm rfl (nx rfl hit)) (tm rfl hit) (by omega)) ?_
      refine sq rfl (do_load T30 rfl (tm rfl hit) hc) ?_
      refine sq rfl (do_len Try.underlying30 (tm rfl hit)) ?_
      refine sq rfl (do_addM (tm rfl (nx rfl (nx rfl (nx rfl (nx rfl (nx rfl hit)))))) (tm rfl hit) (by omega)) ?_
      refine sq rfl (do_assign (tm rfl hit)) ?_
      refine cutL ?_
      intro τ118 e118
      have c118_1 := (congrFun e118 1).trans (nx rfl (nx rfl (nx rfl (nx rfl (nx rfl (nx rfl (nx rfl (nx rfl c115_1))))))))
      have c118_2 := (congrFun e118 2).trans (nx rfl (nx rfl (nx rfl (nx rfl (nx rfl (nx rfl (nx rfl (nx rfl c115_2))))))))
      have c118_7 := (congrFun e118 7).trans hit
      have c118_9 := (congrFun e118 9).trans (nx rfl (nx rfl (nx rfl (nx rfl (nx rfl (nx rfl (nx rfl (nx rfl c115_9))))))))
      clear e118
      refine wnil ?_
      refine hK117 _ _ ?_
      clear hK117 K117
      refine wp_seq_k (fun K119 hK119 => ?_)
      refine wp_seq_k (fun K120 hK120 => ?_)
      refine reg ?_
      refine sq rfl (do_move (tm rfl c118_7)) ?_
      refine sq rfl (do_gtr (tm rfl hit) ck) ?_
      refine wnil ?_
      refine hK120 _ _ ?_
      clear hK120 K120
      refine cB rfl hit (fun g2 => ?_) (fun g2 => ?_)
      · refine wp_seq_k (fun K121 hK121 => ?_)
        refine reg ?_
        refine sq rfl (do_assign ck) ?_
        refine wnil ?_
        refine hK121 _ _ ?_
        clear hK121 K121
        refine wp_ret ?_
        refine thenR ?_
        refine inBR ?_
        refine thenR ?_
        exact hr _ _ (hF _ hit)
      refine wp_skip ?_
      refine hK119 _ _ ?_
      clear hK119 K119
      simp at g2
      refine wp_seq_k (fun K122 hK122 => ?_)
      refine reg ?_
      refine sq rfl (do_assign (v := .int .i64 ((0 : Nat) : Int)) rfl) ?_
      refine wnil ?_
      refine hK122 _ _ ?_
      clear hK122 K122
      refine forLoop (N := 110) (fun k τ wk => w = wk ∧ ∃ j z : Nat, k = rows[i].length - j ∧ j ≤ rows[i].length ∧ z ≤ 1048576 ∧ τ 1 = .slice (some ⟨b, o, none⟩) rows.length c1 ∧ τ 2 = .slice a2 zs.length c2 ∧
        τ 7 = .int .i64 (z : Int) ∧ τ 9 = .int .i64 (i : Int) ∧ τ 10 = .int .i64 (j : Int) ∧ ∀ x (h : x < rows[i].length), x < j → rows[i][x].size ≤ 1048576)
        (fun τ wk => w = wk ∧ ∃ z : Nat, z ≤ 1048576 ∧ τ 1 = .slice (some ⟨b, o, none⟩) rows.length c1 ∧ τ 2 = .slice a2 zs.length c2 ∧ τ 7 = .int .i64 (z : Int) ∧ τ 9 = .int .i64 (i : Int) ∧ ∀ s ∈ rows[i], s.size ≤ 1048576) rows[i].length ?_ ?_ ?_
      · exact ⟨rfl, 0, z + rows[i].length, rfl, Nat.zero_le _, by omega, (nx rfl (nx rfl (nx rfl c118_1))), (nx rfl (nx rfl (nx rfl c118_2))), (nx rfl (nx rfl (nx rfl c118_7))), (nx rfl (nx rfl (nx rfl c118_9))), hit, fun x _ h => by omega⟩
      · rintro Q'' k ξ wk hn' hx' hr' ⟨rfl, j, z, rfl, hj, hz, x1, x2, x7, x9, x10, hsz⟩
        refine wp_seq_k (fun K123 hK123 => ?_)
        refine wp_seq_k (fun K124 hK124 => ?_)
        refine reg ?_
        refine sq rfl (do_move (tm rfl x10)) ?_
        refine sq rfl (do_move (tm rfl (nx rfl x1))) ?_
        refine sq rfl (do_move (tm rfl (nx rfl (nx rfl x9)))) ?_
        refine sq rfl (io31 (tm rfl (nx rfl hit)) (tm rfl hit) (by omega)) ?_
        refine sq rfl (do_load T30 rfl (tm rfl hit) hc) ?_
        refine sq rfl (do_len Try.underlying30 (tm rfl hit)) ?_
        refine sq rfl (do_lss (tm rfl (nx rfl (nx rfl (nx rfl (nx rfl (nx rfl hit)))))) (tm rfl hit)) ?_
        refine cutL ?_
        intro τ125 e125
        have c125_1 := (congrFun e125 1).trans (nx rfl (nx rfl (nx rfl (nx rfl (nx rfl (nx rfl (nx rfl x1)))))))
        have c125_2 := (congrFun e125 2).trans (nx rfl (nx rfl (nx rfl (nx rfl (nx rfl (nx rfl (nx rfl x2)))))))
        have c125_7 := (congrFun e125 7).trans (nx rfl (nx rfl (nx rfl (nx rfl (nx rfl (nx rfl (nx rfl x7)))))))
        have c125_9 := (congrFun e125 9).trans (nx rfl (nx rfl (nx rfl (nx rfl (nx rfl (nx rfl (nx rfl x9)))))))
        have c125_10 := (congrFun e125 10).trans (nx rfl (nx rfl (nx rfl (nx rfl (nx rfl (nx rfl (nx rfl x10)))))))
        have c125_77 := (congrFun e125 77).trans hit
        clear e125
        refine wnil ?_
        refine hK124 _ _ ?_
        clear hK124 K124
        by_cases h' : j < rows[i].length
        · obtain ⟨b', o', rfl, hc'⟩ := hrc j h'
          refine cT rfl c125_77 (by simpa using h') ?_
          refine wp_skip ?_
          refine hK123 _ _ ?_
          clear hK123 K123
          refine wp_seq_k (fun K126 hK126 => ?_)
          refine wp_block ?_
          refine wp_seq_k (fun K127 hK127 => ?_)
          refine wp_seq_k (fun K128 hK128 => ?_)
          refine reg ?_
          refine sq rfl (do_move (tm rfl c125_1)) ?_
          refine sq rfl (do_move (tm rfl (nx rfl c125_9))) ?_
          refine sq rfl (io31 (tm rfl (nx rfl hit)) (tm rfl hit) (by omega)) ?_
          refine sq rfl (do_load T30 rfl (tm rfl hit) hc) ?_
          refine sq rfl (do_move (tm rfl (nx rfl (nx rfl (nx rfl (nx rfl c125_10)))))) ?_
          refine sq rfl (io30 (tm rfl (nx rfl hit)) (tm rfl hit) (by omega)) ?_
          refine sq rfl (do_load T9 rfl (tm rfl hit) hc') ?_
          refine sq rfl (do_lenStr Try.underlying9 (tm rfl hit)) ?_
          refine sq rfl (do_gtr (tm rfl hit) ck) ?_
          refine cutL ?_
          intro τ129 e129
          have c129_1 := (congrFun e129 1).trans (nx rfl (nx rfl (nx rfl (nx rfl (nx rfl (nx rfl (nx rfl (nx rfl (nx rfl c125_1)))))))))
          have c129_2 := (congrFun e129 2).trans (nx rfl (nx rfl (nx rfl (nx rfl (nx rfl (nx rfl (nx rfl (nx rfl (nx rfl c125_2)))))))))
          have c129_7 := (congrFun e129 7).trans (nx rfl (nx rfl (nx rfl (nx rfl (nx rfl (nx rfl (nx rfl (nx rfl (nx rfl c125_7)))))))))
          have c129_9 := (congrFun e129 9).trans (nx rfl (nx rfl (nx rfl (nx rfl (nx rfl (nx rfl (nx rfl (nx rfl (nx rfl c125_9)))))))))
          have c129_10 := (congrFun e129 10).trans (nx rfl (nx rfl (nx rfl (nx rfl (nx rfl (nx rfl (nx rfl (nx rfl (nx rfl c125_10)))))))))
          have c129_88 := (congrFun e129 88).trans hit
          clear e129
          refine wnil ?_
          refine hK128 _ _ ?_
          clear hK128 K128
          refine cB rfl c129_88 (fun g3 => ?_) (fun g3 => ?_)
          · refine wp_seq_k (fun K130 hK130 => ?_)
            refine reg ?_
            refine sq rfl (do_assign ck) ?_
            refine wnil ?_
            refine hK130 _ _ ?_
            clear hK130 K130
            refine wp_ret ?_
            refine thenR ?_
            refine inBR ?_
            refine thenR ?_
            exact hr' _ _ (hr _ _ (hF _ hit))
          refine wp_skip ?_
          refine hK127 _ _ ?_
          clear hK127 K127
          simp at g3
          refine wp_seq_k (fun K131 hK131 => ?_)
          refine reg ?_
          refine sq rfl (do_move (tm rfl c129_7)) ?_
          refine sq rfl (do_move (tm rfl (nx rfl c129_1))) ?_
          refine sq rfl (do_move (tm rfl (nx rfl (nx rfl c129_9)))) ?_
          refine sq rfl (io31 (tm rfl (nx rfl hit)) (tm rfl hit) (by omega)) ?_
          refine sq rfl (do_load T30 rfl (tm rfl hit) hc) ?_
          refine sq rfl (do_move (tm rfl (nx rfl (nx rfl (nx rfl (nx rfl (nx rfl c129_10))))))) ?_
          refine sq rfl (io30 (tm rfl (nx rfl hit)) (tm rfl hit) (by omega)) ?_
          refine sq rfl (do_load T9 rfl (tm rfl hit) hc') ?_
          refine sq rfl (do_lenStr Try.underlying9 (tm rfl hit)) ?_
          refine sq rfl (do_addM (tm rfl (nx rfl (nx rfl (nx rfl (nx rfl (nx rfl (nx rfl (nx rfl (nx rfl hit))))))))) (tm rfl hit) (by omega)) ?_
          refine sq rfl (do_assign (tm rfl hit)) ?_
          refine cutL ?_
          intro τ132 e132
          have c132_1 := (congrFun e132 1).trans (nx rfl (nx rfl (nx rfl (nx rfl (nx rfl (nx rfl (nx rfl (nx rfl (nx rfl (nx rfl (nx rfl c129_1)))))))))))
          have c132_2 := (congrFun e132 2).trans (nx rfl (nx rfl (nx rfl (nx rfl (nx rfl (nx rfl (nx rfl (nx rfl (nx rfl (nx rfl (nx rfl c129_2)))))))))))
          have c132_7 := (congrFun e132 7).trans hit
          have c132_9 := (congrFun e132 9).trans (nx rfl (nx rfl (nx rfl (nx rfl (nx rfl (nx rfl (nx rfl (nx rfl (nx rfl (nx rfl (nx rfl c129_9)))))))))))
          have c132_10 := (congrFun e132 10).trans (nx rfl (nx rfl (nx rfl (nx rfl (nx rfl (nx rfl (nx rfl (nx rfl (nx rfl (nx rfl (nx rfl c129_10)))))))))))
          clear e132
          refine wnil ?_
          refine hK131 _ _ ?_
          clear hK131 K131
          refine wp_seq_k (fun K133 hK133 => ?_)
          refine reg ?_
          refine sq rfl (do_move (tm rfl c132_7)) ?_
          refine sq rfl (do_gtr (tm rfl hit) ck) ?_
          refine wnil ?_
          refine hK133 _ _ ?_
          clear hK133 K133
          refine cB rfl hit (fun g4 => ?_) (fun g4 => ?_)
          · refine wp_seq_k (fun K134 hK134 => ?_)
            refine reg ?_
            refine sq rfl (do_assign ck) ?_
            refine wnil ?_
            refine hK134 _ _ ?_
            clear hK134 K134
            refine wp_ret ?_
            refine inBR ?_
            refine thenR ?_
            exact hr' _ _ (hr _ _ (hF _ hit))
          refine wp_skip ?_
          refine inBN ?_
          refine hK126 _ _ ?_
          clear hK126 K126
          simp at g4
          refine reg ?_
          refine sq rfl (do_move (tm rfl (nx rfl (nx rfl c132_10)))) ?_
          refine sq rfl (do_inc (tm rfl hit) ck (by omega)) ?_
          refine sq rfl (do_assign (tm rfl hit)) ?_
          refine cutL ?_
          intro τ135 e135
          have c135_1 := (congrFun e135 1).trans (nx rfl (nx rfl (nx rfl (nx rfl (nx rfl c132_1)))))
          have c135_2 := (congrFun e135 2).trans (nx rfl (nx rfl (nx rfl (nx rfl (nx rfl c132_2)))))
          have c135_7 := (congrFun e135 7).trans (nx rfl (nx rfl (nx rfl (nx rfl (nx rfl c132_7)))))
          have c135_9 := (congrFun e135 9).trans (nx rfl (nx rfl (nx rfl (nx rfl (nx rfl c132_9)))))
          have c135_10 := (congrFun e135 10).trans hit
          clear e135
          refine wnil ?_
          refine hn' (rows[i].length - (j + 1)) _ _ (by omega) ⟨rfl, j + 1, z + rows[i][j].size, rfl, by omega, by omega, c135_1, c135_2, c135_7, c135_9, c135_10, ?_⟩
          intro x hx hlt
          rcases Nat.lt_or_ge x j with hh | hh
          · exact hsz x hx hh
          · obtain rfl : x = j := by omega
            omega
        · refine cF rfl c125_77 (by simpa using h') ?_
          refine wp_exit ?_
          refine thenE ?_
          refine hx' _ _ ⟨rfl, z, hz, c125_1, c125_2, c125_7, c125_9, ?_⟩
          intro s hs
          obtain ⟨x, hxl, rfl⟩ := List.getElem_of_mem hs
          exact hsz x hxl (by omega)
      clear u1 u2 u7 u9
      rintro ν _ ⟨rfl, z, hz, u1, u2, u7, u9, hsz⟩
      refine inBN ?_
      refine hK112 _ _ ?_
      clear hK112 K112
      refine reg ?_
      refine sq rfl (do_move (tm rfl u9)) ?_
      refine sq rfl (do_inc (tm rfl hit) ck (by omega)) ?_
      refine sq rfl (do_assign (tm rfl hit)) ?_
      refine wnil ?_
      refine hn (rows.length - (i + 1)) _ _ (by omega) ⟨rfl, i + 1, z, rfl, by omega, by omega, (nx rfl (nx rfl (nx rfl u1))), (nx rfl (nx rfl (nx rfl u2))), (nx rfl (nx rfl (nx rfl u7))), hit, ?_⟩
      intro j' hj' hlt
      rcases Nat.lt_or_ge j' i with hh | hh
      · exact hlens j' hj' hh
      · obtain rfl : j' = i := by omega
        exact ⟨by omega, hsz⟩
    · refine cF rfl c111_53 (by simpa using h) ?_
      refine wp_exit ?_
      refine thenE ?_
      exact hx _ _ ⟨rfl, z, hz, c111_2, c111_7, fun j hj => hlens j hj (by omega)⟩
  clear t1 t2 t7
  rintro τ _ ⟨rfl, z, hz, t2, t7, hlens⟩
  refine hK107 _ _ ?_
  clear hK107 K107
  refine wp_seq_k (fun K136 hK136 => ?_)
  refine wp_seq_k (fun K137 hK137 => ?_)
  refine reg ?_
  refine sq rfl (do_move (tm rfl t2)) ?_
  refine sq rfl (do_len Try.underlying32 (tm rfl hit)) ?_
  refine sq rfl (do_gtr (tm rfl hit) ck) ?_
  refine wnil ?_
  refine hK137 _ _ ?_
  clear hK137 K137
  refine cB rfl hit (fun h5 => ?_) (fun h5 => ?_)
  · refine wp_seq_k (fun K138 hK138 => ?_)
    refine reg ?_
    refine sq rfl (do_assign ck) ?_
    refine wnil ?_
    refine hK138 _ _ ?_
    clear hK138 K138
    refine wp_ret ?_
    refine thenR ?_
    exact hF _ hit
  refine wp_skip ?_
  refine hK136 _ _ ?_
  clear hK136 K136
  simp at h5
  refine wp_seq_k (fun K139 hK139 => ?_)
  refine reg ?_
  refine sq rfl (do_move (tm rfl (nx rfl (nx rfl (nx rfl t7))))) ?_
  refine sq rfl (do_move (tm rfl (nx rfl (nx rfl (nx rfl (nx rfl t2)))))) ?_
  refine sq rfl (do_len Try.underlying32 (tm rfl hit)) ?_
  refine sq rfl (do_addM (tm rfl (nx rfl (nx rfl hit))) (tm rfl hit) (by omega)) ?_
  refine sq rfl (do_assign (tm rfl hit)) ?_
  refine cutL ?_
  intro τ140 e140
  have c140_2 := (congrFun e140 2).trans (nx rfl (nx rfl (nx rfl (nx rfl (nx rfl (nx rfl (nx rfl (nx rfl t2))))))))
  have c140_7 := (congrFun e140 7).trans hit
  clear e140
  refine wnil ?_
  refine hK139 _ _ ?_
  clear hK139 K139
  refine wp_seq_k (fun K141 hK141 => ?_)
  refine wp_seq_k (fun K142 hK142 => ?_)
  refine reg ?_
  refine sq rfl (do_move (tm rfl c140_7)) ?_
  refine sq rfl (do_gtr (tm rfl hit) ck) ?_
  refine wnil ?_
  refine hK142 _ _ ?_
  clear hK142 K142
  refine cB rfl hit (fun h6 => ?_) (fun h6 => ?_)
  · refine wp_seq_k (fun K143 hK143 => ?_)
    refine reg ?_
    refine sq rfl (do_assign ck) ?_
    refine wnil ?_
    refine hK143 _ _ ?_
    clear hK143 K143
    refine wp_ret ?_
    refine thenR ?_
    exact hF _ hit
  refine wp_skip ?_
  refine hK141 _ _ ?_
  clear hK141 K141
  refine wp_seq_k (fun K144 hK144 => ?_)
  refine reg ?_
  refine sq rfl (do_assign ck) ?_
  refine wnil ?_
  refine hK144 _ _ ?_
  clear hK144 K144
  refine wp_ret ?_
  rw [← hQ]
  refine ret1 rfl rfl hit ⟨true, rfl, rfl, fun _ => ⟨by omega, by omega, by omega, ?_⟩⟩
  intro r hr
  obtain ⟨j, hj, rfl⟩ := List.getElem_of_mem hr
  exact hlens j hj
end Go.Proofs.Qxb6000003a
