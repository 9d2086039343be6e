/-
  THE LAW FnCloneCallsSharesNoArgsWithItsInputOrItself: the walk.
-/
import Derived.Test.Qxb6000003aW6
namespace Go.Proofs.Qxb6000003a
open Go.Fra Go.RowKit
set_option maxRecDepth 100000
set_option linter.unusedVariables false

theorem nm20 : (Try.f20.name == "runtime.NumGoroutine") = false := by kernel_rfl
theorem bd20 : Try.f20.body.isNone = false := by kernel_rfl
theorem nm21 : (Try.f21.name == "runtime.NumGoroutine") = false := by kernel_rfl
theorem bd21 : Try.f21.body.isNone = false := by kernel_rfl

theorem I64S.below {w w' : World} {v : Value} {zs : List Int} (h : I64S w v zs) (hb : Below w.heap.size w w') : I64S w' v zs := by
  obtain ⟨a, c, rfl, hc⟩ := h
  refine ⟨a, c, rfl, fun i hi => ?_⟩
  obtain ⟨b, o, ha, hcc⟩ := hc i hi
  exact ⟨b, o, ha, by rw [hb.cell (World.block_lt_of_cell? w _ hcc)]; exact hcc⟩
theorem ArgS.below {w w' : World} {v : Value} {avs : List Value} {rows : List (List ByteArray)} (h : ArgS w v avs rows) (hb : Below w.heap.size w w') : ArgS w' v avs rows := by
  obtain ⟨hl, a, c, rfl, hc⟩ := h
  refine ⟨hl, a, c, rfl, fun i hi hi' => ?_⟩
  obtain ⟨b, o, ha, hcc, hs⟩ := hc i hi hi'
  exact ⟨b, o, ha, by rw [hb.cell (World.block_lt_of_cell? w _ hcc)]; exact hcc, hs.below hb⟩

/-- A string, with a mark or without. -/
def bang (b : Bool) (s : ByteArray) : ByteArray := if b then s ++ ⟨#[33]⟩ else s

/-- The calls of the copy: where their argument rows lie, which do not touch one another, and which elements are marked. -/
structure Got (S : Nat) (w : World) (ga : Option Addr) (ca : Nat → Option Addr) (cc : Nat → Nat) (rows : List (List ByteArray)) (m : Nat → Nat → Bool) : Prop where
  head : ∀ k (h : k < rows.length), ∃ gb, ga = some ⟨gb, 0, none⟩ ∧ w.cell? ⟨gb, k * 3 + 1, none⟩ = some (.slice (ca k) rows[k].length (cc k))
  cell : ∀ k (h : k < rows.length) x (hx : x < rows[k].length), ∃ g, ca k = some ⟨g, 0, none⟩ ∧ S ≤ g ∧ (∀ gb, ga = some ⟨gb, 0, none⟩ → gb ≠ g) ∧ w.cell? ⟨g, x, none⟩ = some (.string (bang (m k x) rows[k][x])) ∧ w.frozen? ⟨g, x, none⟩ = false
  apart : ∀ j k g, j < rows.length → k < rows.length → ca j = some ⟨g, 0, none⟩ → ca k = some ⟨g, 0, none⟩ → j = k

theorem Got.ext {S : Nat} {w w' : World} {ga : Option Addr} {ca : Nat → Option Addr} {cc : Nat → Nat} {rows : List (List ByteArray)} {m m' : Nat → Nat → Bool} (h : Got S w ga ca cc rows m) (hw : w'.heap = w.heap)
    (hm : ∀ k (h : k < rows.length) x (hx : x < rows[k].length), m' k x = m k x) : Got S w' ga ca cc rows m' := by
  have e1 : ∀ a, w'.cell? a = w.cell? a := fun a => by simp [World.cell?, hw]
  have e2 : ∀ a, w'.frozen? a = w.frozen? a := fun a => by simp [World.frozen?, hw]
  refine ⟨fun k hk => ?_, fun k hk x hx => ?_, h.apart⟩
  · obtain ⟨gb, f1, f2⟩ := h.head k hk
    exact ⟨gb, f1, by rw [e1]; exact f2⟩
  · obtain ⟨g, f1, f2, f3, f4, f5⟩ := h.cell k hk x hx
    exact ⟨g, f1, f2, f3, by rw [e1, hm k hk x hx]; exact f4, by rw [e2]; exact f5⟩

theorem Got.mark {S : Nat} {w : World} {ga : Option Addr} {ca : Nat → Option Addr} {cc : Nat → Nat} {rows : List (List ByteArray)} {m m' : Nat → Nat → Bool} (h : Got S w ga ca cc rows m) (i j g : Nat) (hi : i < rows.length) (hj : j < rows[i].length)
    (hg : ca i = some ⟨g, 0, none⟩) (hm : ∀ k x, m' k x = (m k x || (k == i && x == j))) : Got S (w.setCell ⟨g, j, none⟩ (.string (rows[i][j] ++ ⟨#[33]⟩))) ga ca cc rows m' := by
  refine ⟨fun k hk => ?_, fun k hk x hx => ?_, h.apart⟩
  · obtain ⟨gb, f1, f2⟩ := h.head k hk
    obtain ⟨g', e1, _, e3, _⟩ := h.cell i hi j hj
    rw [hg] at e1
    cases e1
    refine ⟨gb, f1, ?_⟩
    rw [World.cell?_setCell_other (w := w) (a := ⟨g, j, none⟩) (b := ⟨gb, k * 3 + 1, none⟩) (h := by intro e; injection e with e; exact e3 gb f1 e.symm)]
    exact f2
  · obtain ⟨g', e1, e2, e3, e4, e5⟩ := h.cell k hk x hx
    refine ⟨g', e1, e2, e3, ?_, by rw [World.frozen?_setCell]; exact e5⟩
    by_cases hk' : k = i ∧ x = j
    · obtain ⟨rfl, rfl⟩ := hk'
      rw [hg] at e1
      cases e1
      rw [World.cell?_setCell_same (h := e4), hm]
      simp [bang]
    · have hm' : m' k x = m k x := by
        rw [hm]
        have : (k == i && x == j) = false := by
          rw [Bool.eq_false_iff]; simpa using fun a b => hk' ⟨a, b⟩
        simp [this]
      rw [hm', World.cell?_setCell_other (w := w) (a := ⟨g, j, none⟩) (b := ⟨g', x, none⟩) (h := ?_)]
      · exact e4
      · intro e
        injection e with e ex
        subst e
        exact hk' ⟨h.apart k i g hk hi e1 hg, ex.symm⟩

def argA (avs : List Value) (k : Nat) : Option Addr := match avs[k]? with
  | some (.slice a _ _) => a
  | _ => none
def argC (avs : List Value) (k : Nat) : Nat := match avs[k]? with
  | some (.slice _ _ c) => c
  | _ => 0

theorem Copies.got {w2 w3 : World} {B S n : Nat} {cs' avs avs' : List Value} {ps : List ByteArray} {zs : List Int} {rows : List (List ByteArray)} (hB : Blk w3 B 38 cs') (hcc : CallCells cs' ps avs' zs n) (hcop : Copies w2 w3 B avs avs' rows n)
    (hrl : rows.length = n) (hS : S ≤ w2.heap.size) : Got S w3 (some ⟨B, 0, none⟩) (argA avs') (argC avs') rows (fun _ _ => false) := by
  have hone : ∀ k (h : k < rows.length), avs'[k]? = some (.slice (argA avs' k) rows[k].length (argC avs' k)) := by
    intro k hk
    obtain ⟨av, v, ss, f1, f2, f3, f4⟩ := hcop.one k (by omega)
    rw [List.getElem?_eq_getElem hk] at f3
    cases f3
    rcases f4 with ⟨c, _, rfl, e⟩ | ⟨p, n', c, g, cap, _, rfl, _⟩
    · simp [argA, argC, f2, e]
    · simp [argA, argC, f2]
  refine ⟨fun k hk => ⟨B, rfl, ?_⟩, fun k hk x hx => ?_, fun j k g hj hk h1 h2 => ?_⟩
  · obtain ⟨p, v, z, _, f2, _, _, f5, _⟩ := hcc k (by omega)
    rw [hone k hk] at f2
    cases f2
    exact hB.cell f5
  · obtain ⟨av, v, ss, f1, f2, f3, f4⟩ := hcop.one k (by omega)
    rw [List.getElem?_eq_getElem hk] at f3
    cases f3
    rcases f4 with ⟨c, _, rfl, e⟩ | ⟨p, n', c, g, cap, _, rfl, hg, hown⟩
    · rw [e] at hx; simp at hx
    · have hfar := hcop.far k _ g f2 rfl
      refine ⟨g, by simp [argA, f2], by omega, fun gb e => by cases e; omega, ?_, ?_⟩
      · have := hown.cells (g := g) rfl x (.string rows[k][x]) (by simp [strs, hx])
        rw [add_plain] at this
        simpa [bang] using this
      · rcases hown.2 with ⟨e, _⟩ | ⟨g', cap', cur, e, _, hh, _⟩
        · cases e
        · cases e
          simp [World.frozen?, hh]
  · exact hcop.apart j k _ _ g (hone j hj) (hone k hk) (by rw [h1]; rfl) (by rw [h2]; rfl)

def upto (i j k x : Nat) : Bool := decide (k < i ∨ (k = i ∧ x < j))
theorem upto_step (i j k x : Nat) : upto i (j + 1) k x = (upto i j k x || (k == i && x == j)) := by
  rw [Bool.eq_iff_iff]
  simp [upto]
  omega

set_option maxHeartbeats 1000000 in
theorem walk6 (w : World) (vp va vs : Value) (ps : List ByteArray) (avs : List Value) (rows : List (List ByteArray)) (zs : List Int) (hP : StrS w vp ps) (hA : ArgS w va avs rows) (hS : I64S w vs zs) :
    Calls Try.prog 6 #[vp, va, vs] w fun e w' => e = .returned (.bool true) ∧ Below w.heap.size w w' := by
  obtain ⟨a0, c0, rfl, hPc⟩ := id hP
  obtain ⟨hal, a1, c1, rfl, hAc⟩ := id hA
  obtain ⟨a2, c2, rfl, hSc⟩ := id hS
  refine enter (args := [.slice a0 ps.length c0, .slice a1 rows.length c1, .slice a2 zs.length c2]) Try.func6 rfl Try.ntmps6 rfl ?_
  generalize hQ : bodyPost Try.prog Try.f6 _ = Q
  have hF : ∀ τ w', τ 6 = .bool true → Below w.heap.size w w' → Q .ret (Fr 142 τ) w' := by
    intro τ w' h hb
    rw [← hQ]
    exact ret1 rfl rfl h ⟨rfl, hb⟩
  clear hQ
  have s0 : frame0 [Value.slice a0 ps.length c0, .slice a1 rows.length c1, .slice a2 zs.length c2] 0 = .slice a0 ps.length c0 := rfl
  have s1 : frame0 [Value.slice a0 ps.length c0, .slice a1 rows.length c1, .slice a2 zs.length c2] 1 = .slice a1 rows.length c1 := rfl
  have s2 : frame0 [Value.slice a0 ps.length c0, .slice a1 rows.length c1, .slice a2 zs.length c2] 2 = .slice a2 zs.length c2 := rfl
  generalize frame0 [Value.slice a0 ps.length c0, .slice a1 rows.length c1, .slice a2 zs.length c2] = σ at *
  refine wp_seq_k (fun K1 hK1 => ?_)
  refine reg ?_
  refine sq rfl (do_assign ck) ?_
  refine wnil ?_
  refine hK1 _ _ ?_
  clear hK1
  refine wp_seq_k (fun K2 hK2 => ?_)
  refine wp_seq_k (fun K3 hK3 => ?_)
  refine reg ?_
  refine sq rfl (do_move (tm rfl (nx rfl s0))) ?_
  refine sq rfl (do_move (tm rfl (nx rfl (nx rfl s1)))) ?_
  refine sq rfl (do_move (tm rfl (nx rfl (nx rfl (nx rfl s2))))) ?_
  refine sqc (R := fun v w' => ∃ b, v = .bool b ∧ w = w' ∧ (b = true → ps.length ≤ 1048576 ∧ rows.length ≤ 1048576 ∧ zs.length ≤ 1048576 ∧ ∀ r ∈ rows, r.length ≤ 1048576 ∧ ∀ s ∈ r, s.size ≤ 1048576)) rfl
    (run_callF Try.func20 nm20 bd20 (map3 (tm rfl (nx rfl (nx rfl hit))) (tm rfl (nx rfl hit)) (tm rfl hit)) rfl) ((bytes20 w _ _ _ ps avs rows zs hP hA hS).mono ?_) ?_
  · rintro e w' ⟨b, rfl, rfl, hb⟩
    exact ⟨_, rfl, b, rfl, rfl, hb⟩
  rintro v _ ⟨b, rfl, rfl, hb⟩
  refine sq rfl (do_not (tm rfl hit)) ?_
  refine cutL ?_
  intro τ4 e4
  have c4_0 := (congrFun e4 0).trans (nx rfl (nx rfl (nx rfl (nx rfl (nx rfl (nx rfl s0))))))
  have c4_1 := (congrFun e4 1).trans (nx rfl (nx rfl (nx rfl (nx rfl (nx rfl (nx rfl s1))))))
  have c4_2 := (congrFun e4 2).trans (nx rfl (nx rfl (nx rfl (nx rfl (nx rfl (nx rfl s2))))))
  have c4_6 := (congrFun e4 6).trans (nx rfl (nx rfl (nx rfl (nx rfl (nx rfl hit)))))
  have c4_17 := (congrFun e4 17).trans hit
  clear e4
  refine wnil ?_
  refine hK3 _ _ ?_
  clear hK3
  refine cB rfl c4_17 (fun h1 => ?_) (fun h1 => ?_)
  · refine wp_seq_k (fun K5 hK5 => ?_)
    refine reg ?_
    refine sq rfl (do_assign ck) ?_
    refine wnil ?_
    refine hK5 _ _ ?_
    clear hK5
    refine wp_ret ?_
    refine thenR ?_
    exact hF _ _ hit (Below.refl _ _)
  refine wp_skip ?_
  refine hK2 _ _ ?_
  clear hK2
  have hb' : b = true := by simpa using h1
  obtain ⟨l1, l2, l3, l45⟩ := hb hb'
  have l4 : ∀ r ∈ rows, r.length ≤ 1048576 := fun r hr => (l45 r hr).1
  clear hb h1 hb'
  refine wp_seq_k (fun K6 hK6 => ?_)
  refine wp_seq_k (fun K7 hK7 => ?_)
  refine reg ?_
  refine sq rfl (do_move (tm rfl c4_0)) ?_
  refine sq rfl (do_move (tm rfl (nx rfl c4_1))) ?_
  refine sq rfl (do_move (tm rfl (nx rfl (nx rfl c4_2)))) ?_
  refine sqc (R := fun v w' => ∃ b, v = .bool b ∧ w = w') rfl
    (run_callF Try.func16 nm16 bd16 (map3 (tm rfl (nx rfl (nx rfl hit))) (tm rfl (nx rfl hit)) (tm rfl hit)) rfl) ((inBounds16 w _ _ _ ps avs rows zs hP hA hS l1 l2 l3 l4).mono ?_) ?_
  · rintro e w' ⟨b, rfl, rfl⟩
    exact ⟨_, rfl, b, rfl, rfl⟩
  rintro v _ ⟨b', rfl, rfl⟩
  refine sq rfl (do_not (tm rfl hit)) ?_
  refine cutL ?_
  intro τ8 e8
  have c8_0 := (congrFun e8 0).trans (nx rfl (nx rfl (nx rfl (nx rfl (nx rfl c4_0)))))
  have c8_1 := (congrFun e8 1).trans (nx rfl (nx rfl (nx rfl (nx rfl (nx rfl c4_1)))))
  have c8_2 := (congrFun e8 2).trans (nx rfl (nx rfl (nx rfl (nx rfl (nx rfl c4_2)))))
  have c8_6 := (congrFun e8 6).trans (nx rfl (nx rfl (nx rfl (nx rfl (nx rfl c4_6)))))
  have c8_22 := (congrFun e8 22).trans hit
  clear e8
  refine wnil ?_
  refine hK7 _ _ ?_
  clear hK7
  refine cB rfl c8_22 (fun h1 => ?_) (fun h1 => ?_)
  · refine wp_seq_k (fun K9 hK9 => ?_)
    refine reg ?_
    refine sq rfl (do_assign ck) ?_
    refine wnil ?_
    refine hK9 _ _ ?_
    clear hK9
    refine wp_ret ?_
    refine thenR ?_
    exact hF _ _ hit (Below.refl _ _)
  refine wp_skip ?_
  refine hK6 _ _ ?_
  clear hK6
  clear h1
  refine wp_seq_k (fun K10 hK10 => ?_)
  refine wp_seq_k (fun K11 hK11 => ?_)
  refine reg ?_
  refine sq rfl (do_move (tm rfl c8_0)) ?_
  refine sq rfl (do_move (tm rfl (nx rfl c8_1))) ?_
  refine sq rfl (do_move (tm rfl (nx rfl (nx rfl c8_2)))) ?_
  refine sqc (R := fun v w' => v = .bool (decide (rows.length = ps.length ∧ zs.length = ps.length)) ∧ w = w') rfl
    (run_callF Try.func17 nm17 bd17 (map3 (tm rfl (nx rfl (nx rfl hit))) (tm rfl (nx rfl hit)) (tm rfl hit)) rfl) ((match17 w _ _ _ _ _ _ _ _ _).mono ?_) ?_
  · rintro e w' ⟨rfl, rfl⟩
    exact ⟨_, rfl, rfl, rfl⟩
  rintro v _ ⟨rfl, rfl⟩
  refine sq rfl (do_not (tm rfl hit)) ?_
  refine cutL ?_
  intro τ12 e12
  have c12_0 := (congrFun e12 0).trans (nx rfl (nx rfl (nx rfl (nx rfl (nx rfl c8_0)))))
  have c12_1 := (congrFun e12 1).trans (nx rfl (nx rfl (nx rfl (nx rfl (nx rfl c8_1)))))
  have c12_2 := (congrFun e12 2).trans (nx rfl (nx rfl (nx rfl (nx rfl (nx rfl c8_2)))))
  have c12_6 := (congrFun e12 6).trans (nx rfl (nx rfl (nx rfl (nx rfl (nx rfl c8_6)))))
  have c12_27 := (congrFun e12 27).trans hit
  clear e12
  refine wnil ?_
  refine hK11 _ _ ?_
  clear hK11
  refine cB rfl c12_27 (fun h1 => ?_) (fun h1 => ?_)
  · refine wp_seq_k (fun K13 hK13 => ?_)
    refine reg ?_
    refine sq rfl (do_assign ck) ?_
    refine wnil ?_
    refine hK13 _ _ ?_
    clear hK13
    refine wp_ret ?_
    refine thenR ?_
    exact hF _ _ hit (Below.refl _ _)
  refine wp_skip ?_
  refine hK10 _ _ ?_
  clear hK10
  simp at h1
  obtain ⟨hrl, hzl⟩ := h1
  refine wp_seq_k (fun K14 hK14 => ?_)
  refine reg ?_
  refine sq rfl (do_move (tm rfl c12_1)) ?_
  refine sqc (R := fun v w' => ∃ ovs, ArgS w' v ovs rows ∧ Below w.heap.size w w') rfl
    (run_callF Try.func21 nm21 bd21 (map1 (tm rfl hit)) rfl) ((cloneArgs21 w _ avs rows hA l2 l4).mono ?_) ?_
  · rintro e w' ⟨v, ovs, rfl, h⟩
    exact ⟨_, rfl, ovs, h⟩
  rintro v w1 ⟨ovs, hO, hb1⟩
  refine sq rfl (do_assign (tm rfl hit)) ?_
  refine wnil ?_
  refine hK14 _ _ ?_
  clear hK14
  obtain ⟨hol, oa, oc, rfl, hOc⟩ := id hO
  have hP1 := hP.below hb1
  have hA1 := hA.below hb1
  have hS1 := hS.below hb1
  refine wp_seq_k (fun K15 hK15 => ?_)
  refine reg ?_
  refine sq rfl (do_move (tm rfl (nx rfl (nx rfl (nx rfl c12_0))))) ?_
  refine sq rfl (do_move (tm rfl (nx rfl (nx rfl (nx rfl (nx rfl c12_1)))))) ?_
  refine sq rfl (do_move (tm rfl (nx rfl (nx rfl (nx rfl (nx rfl (nx rfl c12_2))))))) ?_
  refine sqc (R := fun v w' => Below w1.heap.size w1 w' ∧ ((ps.length = 0 ∧ ∃ a c, v = .slice a 0 c) ∨
      (0 < ps.length ∧ ∃ cs, v = .slice (some ⟨w1.heap.size, 0, none⟩) ps.length ps.length ∧ Blk w' w1.heap.size 38 cs ∧ CallCells cs ps avs zs ps.length))) rfl
    (run_callF Try.func19 nm19 bd19 (map3 (tm rfl (nx rfl (nx rfl hit))) (tm rfl (nx rfl hit)) (tm rfl hit)) rfl) ?_ ?_
  · cases a0 with
    | none =>
      have h0 : ps.length = 0 := by
        rcases Nat.eq_zero_or_pos ps.length with h | h
        · exact h
        · obtain ⟨b, o, h1, _⟩ := hPc 0 h; cases h1
      refine (build19_nil w1 _ _ _ _).mono ?_
      rintro e w' ⟨rfl, rfl⟩
      exact ⟨_, rfl, Below.refl _ _, .inl ⟨h0, _, _, rfl⟩⟩
    | some q =>
      refine (build19 w1 q c0 _ _ ps avs rows zs ps.length hP1 hA1 hS1 l1 rfl hrl hzl).mono ?_
      rintro e w' ⟨cs, rfl, h1, h2, h3⟩
      refine ⟨_, rfl, h3, ?_⟩
      rcases Nat.eq_zero_or_pos ps.length with h | h
      · exact .inl ⟨h, _, _, by rw [h]⟩
      · exact .inr ⟨h, cs, rfl, h1, h2⟩
  rintro v w2 ⟨hb2, hv⟩
  refine sqc (R := fun v w' => ∃ ga gc ca cc, v = .slice ga ps.length gc ∧ Got w1.heap.size w' ga ca cc rows (fun _ _ => false) ∧ Below w1.heap.size w1 w') rfl
    (run_callF Try.func18 nm18 bd18 (map1 (tm rfl hit)) rfl) (zzClone18 w2 _ ?_) ?_
  · rcases hv with ⟨h0, a, c, rfl⟩ | ⟨h0, cs, rfl, hB1, hcc1⟩
    · refine (cloneCalls29_nil w2 _ _).mono ?_
      rintro e w' ⟨rfl, rfl⟩
      refine ⟨_, rfl, none, 0, fun _ => none, fun _ => 0, by rw [h0], ⟨fun k hk => by omega, fun k hk => by omega, fun j k g hj => by omega⟩, hb2⟩
    · have hav : ∀ j (h : j < rows.length) (h' : j < avs.length), StrS w2 avs[j] rows[j] := by
        intro j h h'
        obtain ⟨_, _, _, _, hs⟩ := hAc j h h'
        exact (hs.below hb1).below hb2
      refine (cloneCalls29 w2 w1.heap.size ps.length ps.length cs ps avs zs rows (by omega) l1 hB1 hcc1 hrl (by omega) hav l4).mono ?_
      rintro e w' ⟨cs', avs', rfl, hB2, hcc2, hcop, hb3, hal2⟩
      exact ⟨_, rfl, _, _, _, _, rfl, hcop.got hB2 hcc2 hrl hb2.size, hb2.trans (hb3.mono hb2.size)⟩
  rintro v w3 ⟨ga, gc, ca, cc, rfl, hgot, hb3⟩
  clear hv hb2 hP1 hA1 hS1
  refine sq rfl (do_assign (tm rfl hit)) ?_
  refine cutL ?_
  intro τ16 e16
  have c16_0 := (congrFun e16 0).trans (nx rfl (nx rfl (nx rfl (nx rfl (nx rfl (nx rfl (nx rfl (nx rfl (nx rfl c12_0)))))))))
  have c16_1 := (congrFun e16 1).trans (nx rfl (nx rfl (nx rfl (nx rfl (nx rfl (nx rfl (nx rfl (nx rfl (nx rfl c12_1)))))))))
  have c16_2 := (congrFun e16 2).trans (nx rfl (nx rfl (nx rfl (nx rfl (nx rfl (nx rfl (nx rfl (nx rfl (nx rfl c12_2)))))))))
  have c16_6 := (congrFun e16 6).trans (nx rfl (nx rfl (nx rfl (nx rfl (nx rfl (nx rfl (nx rfl (nx rfl (nx rfl c12_6)))))))))
  have c16_7 := (congrFun e16 7).trans (nx rfl (nx rfl (nx rfl (nx rfl (nx rfl (nx rfl hit))))))
  have c16_8 := (congrFun e16 8).trans hit
  have c16_28 := (congrFun e16 28).trans (nx rfl (nx rfl (nx rfl (nx rfl (nx rfl (nx rfl (nx rfl (nx rfl hit))))))))
  have c16_29 := (congrFun e16 29).trans (nx rfl (nx rfl (nx rfl (nx rfl (nx rfl (nx rfl (nx rfl hit)))))))
  clear e16
  refine wnil ?_
  refine hK15 _ _ ?_
  clear hK15
  refine wp_seq_k (fun K17 hK17 => ?_)
  refine wp_seq_k (fun K18 hK18 => ?_)
  refine reg ?_
  refine sq rfl (do_move (tm rfl c16_8)) ?_
  refine sq rfl (do_len Try.underlying34 (tm rfl hit)) ?_
  refine sq rfl (do_move (tm rfl (nx rfl (nx rfl c16_0)))) ?_
  refine sq rfl (do_len Try.underlying30 (tm rfl hit)) ?_
  refine sq rfl (do_neq (tm rfl (nx rfl (nx rfl hit))) (tm rfl hit)) ?_
  refine cutL ?_
  intro τ19 e19
  have c19_0 := (congrFun e19 0).trans (nx rfl (nx rfl (nx rfl (nx rfl (nx rfl c16_0)))))
  have c19_1 := (congrFun e19 1).trans (nx rfl (nx rfl (nx rfl (nx rfl (nx rfl c16_1)))))
  have c19_2 := (congrFun e19 2).trans (nx rfl (nx rfl (nx rfl (nx rfl (nx rfl c16_2)))))
  have c19_6 := (congrFun e19 6).trans (nx rfl (nx rfl (nx rfl (nx rfl (nx rfl c16_6)))))
  have c19_7 := (congrFun e19 7).trans (nx rfl (nx rfl (nx rfl (nx rfl (nx rfl c16_7)))))
  have c19_8 := (congrFun e19 8).trans (nx rfl (nx rfl (nx rfl (nx rfl (nx rfl c16_8)))))
  have c19_28 := (congrFun e19 28).trans (nx rfl (nx rfl (nx rfl (nx rfl (nx rfl c16_28)))))
  have c19_29 := (congrFun e19 29).trans (nx rfl (nx rfl (nx rfl (nx rfl (nx rfl c16_29)))))
  have c19_39 := (congrFun e19 39).trans hit
  clear e19
  refine wnil ?_
  refine hK18 _ _ ?_
  clear hK18
  refine cF rfl c19_39 (by simp) ?_
  refine wp_skip ?_
  refine hK17 _ _ ?_
  clear hK17
  refine wp_seq_k (fun K20 hK20 => ?_)
  refine wp_seq_k (fun K21 hK21 => ?_)
  refine reg ?_
  refine sq rfl (do_assign (v := .int .i64 ((0 : Nat) : Int)) rfl) ?_
  refine wnil ?_
  refine hK21 _ _ ?_
  clear hK21
  refine forLoop (N := 142) (fun k τ wi => ∃ i, k = ps.length - i ∧ i ≤ ps.length ∧ τ 1 = .slice a1 rows.length c1 ∧ τ 7 = .slice oa rows.length oc ∧ τ 8 = .slice ga ps.length gc ∧ τ 9 = .int .i64 (i : Int) ∧
      Got w1.heap.size wi ga ca cc rows (upto i 0) ∧ Below w1.heap.size w1 wi)
    (fun τ wi => τ 1 = .slice a1 rows.length c1 ∧ τ 7 = .slice oa rows.length oc ∧ τ 8 = .slice ga ps.length gc ∧ Got w1.heap.size wi ga ca cc rows (upto rows.length 0) ∧ Below w1.heap.size w1 wi) ps.length ?_ ?_ ?_
  · exact ⟨0, rfl, Nat.zero_le _, (nx rfl c19_1), (nx rfl c19_7), (nx rfl c19_8), hit, hgot.ext rfl (fun k _ x _ => by simp [upto]), hb3⟩
  · clear s0 s1 s2
    rintro Q' k τ wi hnn hx hr ⟨i, rfl, hi, t1, t7, t8, t9, hgi, hbi⟩
    refine wp_seq_k (fun K22 hK22 => ?_)
    refine wp_seq_k (fun K23 hK23 => ?_)
    refine reg ?_
    refine sq rfl (do_move (tm rfl t9)) ?_
    refine sq rfl (do_move (tm rfl (nx rfl t8))) ?_
    refine sq rfl (do_len Try.underlying34 (tm rfl hit)) ?_
    refine sq rfl (do_lss (tm rfl (nx rfl (nx rfl hit))) (tm rfl hit)) ?_
    refine cutL ?_
    intro τ24 e24
    have c24_1 := (congrFun e24 1).trans (nx rfl (nx rfl (nx rfl (nx rfl t1))))
    have c24_7 := (congrFun e24 7).trans (nx rfl (nx rfl (nx rfl (nx rfl t7))))
    have c24_8 := (congrFun e24 8).trans (nx rfl (nx rfl (nx rfl (nx rfl t8))))
    have c24_9 := (congrFun e24 9).trans (nx rfl (nx rfl (nx rfl (nx rfl t9))))
    have c24_43 := (congrFun e24 43).trans hit
    clear e24
    refine wnil ?_
    refine hK23 _ _ ?_
    clear hK23
    by_cases h : i < ps.length
    · refine cT rfl c24_43 (by simpa using h) ?_
      refine wp_skip ?_
      refine hK22 _ _ ?_
      clear hK22
      obtain ⟨gb, rfl, hgh⟩ := hgi.head i (by omega)
      obtain ⟨ob, oo, rfl, hoc, hos⟩ := hOc i (by omega) (by omega)
      obtain ⟨ra, rc, hre, hrc⟩ := hos
      have hoc' : wi.cell? ⟨ob, oo + i, none⟩ = some (.slice ra rows[i].length rc) := by rw [hbi.cell (World.block_lt_of_cell? w1 _ hoc), hoc, hre]
      have hli := l4 rows[i] (List.getElem_mem _)
      refine wp_seq_k (fun K25 hK25 => ?_)
      refine wp_block ?_
      refine wp_seq_k (fun K26 hK26 => ?_)
      refine wp_seq_k (fun K27 hK27 => ?_)
      refine draw mixed [] [(0, 0), (0, 0), (0, 0), (0, 0), (0, 0), (0, 0), (0, 0), (0, 0), (0, 0), (0, 0), (0, 0), (0, 0)] [] (World.drew _) (upd (upd (upd (upd (upd (upd (upd (upd (upd (upd (upd (upd _ 46 _) 47 _) 48 _) 49 _) 50 _) 51 _) 52 _) 53 _) 54 _) 55 _) 56 _) 57 _) (by kernel_rfl) (fun s hs => ovr_off [(46, _), (47, _), (48, _), (49, _), (50, _), (51, _), (52, _), (53, _), (54, _), (55, _), (56, _), (57, _)] _ s hs) ⟨(qa rfl (fun _ => (do_move (tm rfl (nx rfl (nx rfl (nx rfl (nx rfl (nx rfl (nx rfl (nx rfl (nx rfl (nx rfl (nx rfl (nx rfl (nx rfl c24_8))))))))))))))) (nx rfl (nx rfl (nx rfl (nx rfl (nx rfl (nx rfl (nx rfl (nx rfl (nx rfl (nx rfl (nx rfl hit)))))))))))), (qa rfl (fun _ => (do_move (tm rfl (nx rfl (nx rfl (nx rfl (nx rfl (nx rfl (nx rfl (nx rfl (nx rfl (nx rfl (nx rfl (nx rfl (nx rfl c24_9))))))))))))))) (nx rfl (nx rfl (nx rfl (nx rfl (nx rfl (nx rfl (nx rfl (nx rfl (nx rfl (nx rfl hit))))))))))), (qa rfl (fun _ => (ix34 (tm rfl (nx rfl (nx rfl (nx rfl (nx rfl (nx rfl (nx rfl (nx rfl (nx rfl (nx rfl (nx rfl (nx rfl hit)))))))))))) (tm rfl (nx rfl (nx rfl (nx rfl (nx rfl (nx rfl (nx rfl (nx rfl (nx rfl (nx rfl (nx rfl hit))))))))))) (by omega))) (nx rfl (nx rfl (nx rfl (nx rfl (nx rfl (nx rfl (nx rfl (nx rfl (nx rfl hit)))))))))), (qa rfl (fun _ => (fa38_1 (tm rfl (nx rfl (nx rfl (nx rfl (nx rfl (nx rfl (nx rfl (nx rfl (nx rfl (nx rfl hit)))))))))))) (nx rfl (nx rfl (nx rfl (nx rfl (nx rfl (nx rfl (nx rfl (nx rfl hit))))))))), (qk rfl (do_load T30 rfl (tm rfl (nx rfl (nx rfl (nx rfl (nx rfl (nx rfl (nx rfl (nx rfl (nx rfl hit))))))))) hgh) (nx rfl (nx rfl (nx rfl (nx rfl (nx rfl (nx rfl (nx rfl hit)))))))), (qa rfl (fun _ => (do_len Try.underlying30 (tm rfl (nx rfl (nx rfl (nx rfl (nx rfl (nx rfl (nx rfl (nx rfl hit)))))))))) (nx rfl (nx rfl (nx rfl (nx rfl (nx rfl (nx rfl hit))))))), (qa rfl (fun _ => (do_move (tm rfl (nx rfl (nx rfl (nx rfl (nx rfl (nx rfl (nx rfl (nx rfl (nx rfl (nx rfl (nx rfl (nx rfl (nx rfl c24_7))))))))))))))) (nx rfl (nx rfl (nx rfl (nx rfl (nx rfl hit)))))), (qa rfl (fun _ => (do_move (tm rfl (nx rfl (nx rfl (nx rfl (nx rfl (nx rfl (nx rfl (nx rfl (nx rfl (nx rfl (nx rfl (nx rfl (nx rfl c24_9))))))))))))))) (nx rfl (nx rfl (nx rfl (nx rfl hit))))), (qa rfl (fun _ => (io31 (tm rfl (nx rfl (nx rfl (nx rfl (nx rfl (nx rfl hit)))))) (tm rfl (nx rfl (nx rfl (nx rfl (nx rfl hit))))) (by omega))) (nx rfl (nx rfl (nx rfl hit)))), (qk rfl (do_load T30 rfl (tm rfl (nx rfl (nx rfl (nx rfl hit)))) hoc') (nx rfl (nx rfl hit))), (qa rfl (fun _ => (do_len Try.underlying30 (tm rfl (nx rfl (nx rfl hit))))) (nx rfl hit)), (qa rfl (fun _ => (do_neq (tm rfl (nx rfl (nx rfl (nx rfl (nx rfl (nx rfl (nx rfl hit))))))) (tm rfl (nx rfl hit)))) hit), trivial⟩ rfl ?_
      intro τ28 e28
      have c28_1 := (congrFun e28 1).trans (nx rfl (nx rfl (nx rfl (nx rfl (nx rfl (nx rfl (nx rfl (nx rfl (nx rfl (nx rfl (nx rfl (nx rfl c24_1))))))))))))
      have c28_7 := (congrFun e28 7).trans (nx rfl (nx rfl (nx rfl (nx rfl (nx rfl (nx rfl (nx rfl (nx rfl (nx rfl (nx rfl (nx rfl (nx rfl c24_7))))))))))))
      have c28_8 := (congrFun e28 8).trans (nx rfl (nx rfl (nx rfl (nx rfl (nx rfl (nx rfl (nx rfl (nx rfl (nx rfl (nx rfl (nx rfl (nx rfl c24_8))))))))))))
      have c28_9 := (congrFun e28 9).trans (nx rfl (nx rfl (nx rfl (nx rfl (nx rfl (nx rfl (nx rfl (nx rfl (nx rfl (nx rfl (nx rfl (nx rfl c24_9))))))))))))
      have c28_57 := (congrFun e28 57).trans hit
      clear e28
      refine hK27 _ _ ?_
      clear hK27
      refine cF rfl c28_57 (by simp) ?_
      refine wp_skip ?_
      refine hK26 _ _ ?_
      clear hK26
      refine wp_seq_k (fun K29 hK29 => ?_)
      refine reg ?_
      refine sq rfl (do_assign (v := .int .i64 ((0 : Nat) : Int)) rfl) ?_
      refine wnil ?_
      refine hK29 _ _ ?_
      clear hK29
      refine forLoop (N := 142) (fun k τ wj => ∃ j, k = rows[i].length - j ∧ j ≤ rows[i].length ∧ τ 1 = .slice a1 rows.length c1 ∧ τ 7 = .slice (some ⟨ob, oo, none⟩) rows.length oc ∧ τ 8 = .slice (some ⟨gb, 0, none⟩) ps.length gc ∧ τ 9 = .int .i64 (i : Int) ∧ τ 10 = .int .i64 (j : Int) ∧
          Got w1.heap.size wj (some ⟨gb, 0, none⟩) ca cc rows (upto i j) ∧ Below w1.heap.size w1 wj)
        (fun τ wj => τ 1 = .slice a1 rows.length c1 ∧ τ 7 = .slice (some ⟨ob, oo, none⟩) rows.length oc ∧ τ 8 = .slice (some ⟨gb, 0, none⟩) ps.length gc ∧ τ 9 = .int .i64 (i : Int) ∧
          Got w1.heap.size wj (some ⟨gb, 0, none⟩) ca cc rows (upto (i + 1) 0) ∧ Below w1.heap.size w1 wj) rows[i].length ?_ ?_ ?_
      · exact ⟨0, rfl, Nat.zero_le _, (nx rfl c28_1), (nx rfl c28_7), (nx rfl c28_8), (nx rfl c28_9), hit, hgi.ext rfl (fun _ _ _ _ => rfl), hbi.drew⟩
      · clear t1 t7 t8 t9
        rintro Q'' k ξ wj hnn' hx' hr' ⟨j, rfl, hj, x1, x7, x8, x9, x10, hgj, hbj⟩
        obtain ⟨gb', e, hgh'⟩ := hgj.head i (by omega)
        cases e
        refine wp_seq_k (fun K30 hK30 => ?_)
        refine wp_seq_k (fun K31 hK31 => ?_)
        refine reg ?_
        refine sq rfl (do_move (tm rfl x10)) ?_
        refine sq rfl (do_move (tm rfl (nx rfl x8))) ?_
        refine sq rfl (do_move (tm rfl (nx rfl (nx rfl x9)))) ?_
        refine sq rfl (ix34 (tm rfl (nx rfl hit)) (tm rfl hit) (by omega)) ?_
        refine sq rfl (fa38_1 (tm rfl hit)) ?_
        refine sq rfl (do_load T30 rfl (tm rfl hit) hgh') ?_
        refine sq rfl (do_len Try.underlying30 (tm rfl hit)) ?_
        refine sq rfl (do_lss (tm rfl (nx rfl (nx rfl (nx rfl (nx rfl (nx rfl (nx rfl hit))))))) (tm rfl hit)) ?_
        refine cutL ?_
        intro τ32 e32
        have c32_1 := (congrFun e32 1).trans (nx rfl (nx rfl (nx rfl (nx rfl (nx rfl (nx rfl (nx rfl (nx rfl x1))))))))
        have c32_7 := (congrFun e32 7).trans (nx rfl (nx rfl (nx rfl (nx rfl (nx rfl (nx rfl (nx rfl (nx rfl x7))))))))
        have c32_8 := (congrFun e32 8).trans (nx rfl (nx rfl (nx rfl (nx rfl (nx rfl (nx rfl (nx rfl (nx rfl x8))))))))
        have c32_9 := (congrFun e32 9).trans (nx rfl (nx rfl (nx rfl (nx rfl (nx rfl (nx rfl (nx rfl (nx rfl x9))))))))
        have c32_10 := (congrFun e32 10).trans (nx rfl (nx rfl (nx rfl (nx rfl (nx rfl (nx rfl (nx rfl (nx rfl x10))))))))
        have c32_65 := (congrFun e32 65).trans hit
        clear e32
        refine wnil ?_
        refine hK31 _ _ ?_
        clear hK31
        by_cases h' : j < rows[i].length
        · refine cT rfl c32_65 (by simpa using h') ?_
          refine wp_skip ?_
          refine hK30 _ _ ?_
          clear hK30
          obtain ⟨g, hca, hSg, hgbg, hcell, hfr⟩ := hgj.cell i (by omega) j h'
          have hun : bang (upto i j i j) rows[i][j] = rows[i][j] := by simp [bang, upto]
          rw [hun] at hcell
          rw [hca] at hgh'
          have hsz := (l45 rows[i] (List.getElem_mem _)).2 rows[i][j] (List.getElem_mem _)
          obtain ⟨w4, hw4⟩ : ∃ w4, w4 = wj.drew.setCell ⟨g, j, none⟩ (.string (rows[i][j] ++ ⟨#[33]⟩)) := ⟨_, rfl⟩
          have hst : ∀ (ρ : Operand → Value) (ty : TypeId) (pos : String) (aft : Array Edge) (x y : Operand), ρ x = .pointer (some ⟨g, j, none⟩) → ρ y = .string (rows[i][j] ++ ⟨#[33]⟩) →
              Does Try.prog ⟨none, .store 9 x y, ty, pos, aft, none⟩ ρ (stg wj.drew [w4] 0) undef (stg wj.drew [w4] (0 + 1)) := by
            intro ρ ty pos aft x y h1 h2
            show Does Try.prog _ ρ wj.drew undef w4
            rw [hw4]
            exact do_store T9 h1 h2 rfl hcell hfr
          refine wp_seq_k (fun K33 hK33 => ?_)
          refine wp_block ?_
          refine draw mixed [16] [(0, 0), (0, 0), (0, 0), (0, 0), (0, 0), (0, 0), (0, 0), (0, 0), (0, 0), (0, 0), (0, 0), (0, 0), (0, 0), (0, 0), (0, 0), (0, 0), (0, 0)] [w4] (w4) (upd (upd (upd (upd (upd (upd (upd (upd (upd (upd (upd (upd (upd (upd (upd (upd _ 68 _) 69 _) 70 _) 71 _) 72 _) 73 _) 74 _) 75 _) 76 _) 77 _) 78 _) 79 _) 80 _) 81 _) 82 _) 83 _) (by kernel_rfl) (fun s hs => ovr_off [(68, _), (69, _), (70, _), (71, _), (72, _), (73, _), (74, _), (75, _), (76, _), (77, _), (78, _), (79, _), (80, _), (81, _), (82, _), (83, _)] _ s hs) ⟨(qa rfl (fun _ => (do_move (tm rfl (nx rfl (nx rfl (nx rfl (nx rfl (nx rfl (nx rfl (nx rfl (nx rfl (nx rfl (nx rfl (nx rfl (nx rfl (nx rfl (nx rfl (nx rfl (nx rfl c32_8))))))))))))))))))) (nx rfl (nx rfl (nx rfl (nx rfl (nx rfl (nx rfl (nx rfl (nx rfl (nx rfl (nx rfl (nx rfl (nx rfl (nx rfl (nx rfl (nx rfl hit)))))))))))))))), (qa rfl (fun _ => (do_move (tm rfl (nx rfl (nx rfl (nx rfl (nx rfl (nx rfl (nx rfl (nx rfl (nx rfl (nx rfl (nx rfl (nx rfl (nx rfl (nx rfl (nx rfl (nx rfl (nx rfl c32_9))))))))))))))))))) (nx rfl (nx rfl (nx rfl (nx rfl (nx rfl (nx rfl (nx rfl (nx rfl (nx rfl (nx rfl (nx rfl (nx rfl (nx rfl (nx rfl hit))))))))))))))), (qa rfl (fun _ => (ix34 (tm rfl (nx rfl (nx rfl (nx rfl (nx rfl (nx rfl (nx rfl (nx rfl (nx rfl (nx rfl (nx rfl (nx rfl (nx rfl (nx rfl (nx rfl (nx rfl hit)))))))))))))))) (tm rfl (nx rfl (nx rfl (nx rfl (nx rfl (nx rfl (nx rfl (nx rfl (nx rfl (nx rfl (nx rfl (nx rfl (nx rfl (nx rfl (nx rfl hit))))))))))))))) (by omega))) (nx rfl (nx rfl (nx rfl (nx rfl (nx rfl (nx rfl (nx rfl (nx rfl (nx rfl (nx rfl (nx rfl (nx rfl (nx rfl hit)))))))))))))), (qa rfl (fun _ => (fa38_1 (tm rfl (nx rfl (nx rfl (nx rfl (nx rfl (nx rfl (nx rfl (nx rfl (nx rfl (nx rfl (nx rfl (nx rfl (nx rfl (nx rfl hit)))))))))))))))) (nx rfl (nx rfl (nx rfl (nx rfl (nx rfl (nx rfl (nx rfl (nx rfl (nx rfl (nx rfl (nx rfl (nx rfl hit))))))))))))), (qk rfl (do_load T30 rfl (tm rfl (nx rfl (nx rfl (nx rfl (nx rfl (nx rfl (nx rfl (nx rfl (nx rfl (nx rfl (nx rfl (nx rfl (nx rfl hit))))))))))))) hgh') (nx rfl (nx rfl (nx rfl (nx rfl (nx rfl (nx rfl (nx rfl (nx rfl (nx rfl (nx rfl (nx rfl hit)))))))))))), (qa rfl (fun _ => (do_move (tm rfl (nx rfl (nx rfl (nx rfl (nx rfl (nx rfl (nx rfl (nx rfl (nx rfl (nx rfl (nx rfl (nx rfl (nx rfl (nx rfl (nx rfl (nx rfl (nx rfl c32_10))))))))))))))))))) (nx rfl (nx rfl (nx rfl (nx rfl (nx rfl (nx rfl (nx rfl (nx rfl (nx rfl (nx rfl hit))))))))))), (qa rfl (fun _ => (do_move (tm rfl (nx rfl (nx rfl (nx rfl (nx rfl (nx rfl (nx rfl (nx rfl (nx rfl (nx rfl (nx rfl (nx rfl (nx rfl (nx rfl (nx rfl (nx rfl (nx rfl c32_8))))))))))))))))))) (nx rfl (nx rfl (nx rfl (nx rfl (nx rfl (nx rfl (nx rfl (nx rfl (nx rfl hit)))))))))), (qa rfl (fun _ => (do_move (tm rfl (nx rfl (nx rfl (nx rfl (nx rfl (nx rfl (nx rfl (nx rfl (nx rfl (nx rfl (nx rfl (nx rfl (nx rfl (nx rfl (nx rfl (nx rfl (nx rfl c32_9))))))))))))))))))) (nx rfl (nx rfl (nx rfl (nx rfl (nx rfl (nx rfl (nx rfl (nx rfl hit))))))))), (qa rfl (fun _ => (ix34 (tm rfl (nx rfl (nx rfl (nx rfl (nx rfl (nx rfl (nx rfl (nx rfl (nx rfl (nx rfl hit)))))))))) (tm rfl (nx rfl (nx rfl (nx rfl (nx rfl (nx rfl (nx rfl (nx rfl (nx rfl hit))))))))) (by omega))) (nx rfl (nx rfl (nx rfl (nx rfl (nx rfl (nx rfl (nx rfl hit)))))))), (qa rfl (fun _ => (fa38_1 (tm rfl (nx rfl (nx rfl (nx rfl (nx rfl (nx rfl (nx rfl (nx rfl hit)))))))))) (nx rfl (nx rfl (nx rfl (nx rfl (nx rfl (nx rfl hit))))))), (qk rfl (do_load T30 rfl (tm rfl (nx rfl (nx rfl (nx rfl (nx rfl (nx rfl (nx rfl hit))))))) hgh') (nx rfl (nx rfl (nx rfl (nx rfl (nx rfl hit)))))), (qa rfl (fun _ => (do_move (tm rfl (nx rfl (nx rfl (nx rfl (nx rfl (nx rfl (nx rfl (nx rfl (nx rfl (nx rfl (nx rfl (nx rfl (nx rfl (nx rfl (nx rfl (nx rfl (nx rfl c32_10))))))))))))))))))) (nx rfl (nx rfl (nx rfl (nx rfl hit))))), (qa rfl (fun _ => (ix30 (tm rfl (nx rfl (nx rfl (nx rfl (nx rfl (nx rfl hit)))))) (tm rfl (nx rfl (nx rfl (nx rfl (nx rfl hit))))) (by omega))) (nx rfl (nx rfl (nx rfl hit)))), (qk rfl (do_load T9 rfl (tm rfl (nx rfl (nx rfl (nx rfl hit)))) hcell) (nx rfl (nx rfl hit))), (qa rfl (fun _ => (do_addS (tm rfl (nx rfl (nx rfl hit))) ck (by show rows[i][j].size + 1 ≤ _; omega))) (nx rfl hit)), (qa rfl (fun _ => (ix30 (tm rfl (nx rfl (nx rfl (nx rfl (nx rfl (nx rfl (nx rfl (nx rfl (nx rfl (nx rfl (nx rfl (nx rfl hit)))))))))))) (tm rfl (nx rfl (nx rfl (nx rfl (nx rfl (nx rfl (nx rfl (nx rfl (nx rfl (nx rfl (nx rfl hit))))))))))) (by omega))) hit), (en rfl (hst _ _ _ _ _ _ (tm rfl hit) (tm rfl (nx rfl hit)))), trivial⟩ rfl ?_
          intro τ34 e34
          have c34_1 := (congrFun e34 1).trans (nx rfl (nx rfl (nx rfl (nx rfl (nx rfl (nx rfl (nx rfl (nx rfl (nx rfl (nx rfl (nx rfl (nx rfl (nx rfl (nx rfl (nx rfl (nx rfl c32_1))))))))))))))))
          have c34_7 := (congrFun e34 7).trans (nx rfl (nx rfl (nx rfl (nx rfl (nx rfl (nx rfl (nx rfl (nx rfl (nx rfl (nx rfl (nx rfl (nx rfl (nx rfl (nx rfl (nx rfl (nx rfl c32_7))))))))))))))))
          have c34_8 := (congrFun e34 8).trans (nx rfl (nx rfl (nx rfl (nx rfl (nx rfl (nx rfl (nx rfl (nx rfl (nx rfl (nx rfl (nx rfl (nx rfl (nx rfl (nx rfl (nx rfl (nx rfl c32_8))))))))))))))))
          have c34_9 := (congrFun e34 9).trans (nx rfl (nx rfl (nx rfl (nx rfl (nx rfl (nx rfl (nx rfl (nx rfl (nx rfl (nx rfl (nx rfl (nx rfl (nx rfl (nx rfl (nx rfl (nx rfl c32_9))))))))))))))))
          have c34_10 := (congrFun e34 10).trans (nx rfl (nx rfl (nx rfl (nx rfl (nx rfl (nx rfl (nx rfl (nx rfl (nx rfl (nx rfl (nx rfl (nx rfl (nx rfl (nx rfl (nx rfl (nx rfl c32_10))))))))))))))))
          clear e34
          refine inBN ?_
          refine hK33 _ _ ?_
          clear hK33
          refine reg ?_
          refine sq rfl (do_move (tm rfl c34_10)) ?_
          refine sq rfl (do_inc (tm rfl hit) ck (by omega)) ?_
          refine sq rfl (do_assign (tm rfl hit)) ?_
          refine wnil ?_
          have hgd : Got w1.heap.size wj.drew (some ⟨gb, 0, none⟩) ca cc rows (upto i j) := hgj.ext rfl (fun _ _ _ _ => rfl)
          refine hnn' (rows[i].length - (j + 1)) _ _ (by omega) ⟨j + 1, rfl, by omega, (nx rfl (nx rfl (nx rfl c34_1))), (nx rfl (nx rfl (nx rfl c34_7))), (nx rfl (nx rfl (nx rfl c34_8))), (nx rfl (nx rfl (nx rfl c34_9))), hit, ?_, ?_⟩
          · rw [hw4]; exact hgd.mark i j g (by omega) h' hca (upto_step i j)
          · rw [hw4]; exact hbj.drew.setCell hSg _
        · refine cF rfl c32_65 (by simpa using h') ?_
          refine wp_exit ?_
          refine thenE ?_
          have ej : j = rows[i].length := by omega
          refine hx' _ _ ⟨c32_1, c32_7, c32_8, c32_9, hgj.ext rfl (fun k hk x hx => ?_), hbj⟩
          rw [Bool.eq_iff_iff]
          simp only [upto, decide_eq_true_eq]
          constructor
          · intro hh
            rcases Nat.lt_or_ge k i with hki | hki
            · exact .inl hki
            · obtain rfl : k = i := by omega
              exact .inr ⟨rfl, by omega⟩
          · omega
      clear t1 t7 t8 t9
      rintro τ wj ⟨t1, t7, t8, t9, hgj, hbj⟩
      refine inBN ?_
      refine hK25 _ _ ?_
      clear hK25
      refine reg ?_
      refine sq rfl (do_move (tm rfl t9)) ?_
      refine sq rfl (do_inc (tm rfl hit) ck (by omega)) ?_
      refine sq rfl (do_assign (tm rfl hit)) ?_
      refine wnil ?_
      exact hnn (ps.length - (i + 1)) _ _ (by omega) ⟨i + 1, rfl, by omega, (nx rfl (nx rfl (nx rfl t1))), (nx rfl (nx rfl (nx rfl t7))), (nx rfl (nx rfl (nx rfl t8))), hit, hgj, hbj⟩
    · refine cF rfl c24_43 (by simpa using h) ?_
      refine wp_exit ?_
      refine thenE ?_
      obtain rfl : i = rows.length := by omega
      exact hx _ _ ⟨c24_1, c24_7, c24_8, hgi, hbi⟩
  clear s0 s1 s2
  rintro τ wi ⟨t1, t7, t8, hgi, hbi⟩
  refine hK20 _ _ ?_
  clear hK20
  refine wp_seq_k (fun K35 hK35 => ?_)
  refine wp_seq_k (fun K36 hK36 => ?_)
  refine reg ?_
  refine sq rfl (do_assign (v := .int .i64 ((0 : Nat) : Int)) rfl) ?_
  refine wnil ?_
  refine hK36 _ _ ?_
  clear hK36
  refine forLoop (N := 142) (fun k τ wi => ∃ i, k = rows.length - i ∧ i ≤ rows.length ∧ τ 1 = .slice a1 rows.length c1 ∧ τ 7 = .slice oa rows.length oc ∧ τ 8 = .slice ga ps.length gc ∧ τ 11 = .int .i64 (i : Int) ∧
      Got w1.heap.size wi ga ca cc rows (upto rows.length 0) ∧ Below w1.heap.size w1 wi)
    (fun τ wi => Below w1.heap.size w1 wi) rows.length ?_ ?_ ?_
  · exact ⟨0, rfl, Nat.zero_le _, (nx rfl t1), (nx rfl t7), (nx rfl t8), hit, hgi, hbi⟩
  · clear t1 t7 t8 hgi hbi
    rintro Q' k τ wi hnn hx hr ⟨i, rfl, hi, t1, t7, t8, t11, hgi, hbi⟩
    refine wp_seq_k (fun K37 hK37 => ?_)
    refine wp_seq_k (fun K38 hK38 => ?_)
    refine reg ?_
    refine sq rfl (do_move (tm rfl t11)) ?_
    refine sq rfl (do_move (tm rfl (nx rfl t1))) ?_
    refine sq rfl (do_len Try.underlying31 (tm rfl hit)) ?_
    refine sq rfl (do_lss (tm rfl (nx rfl (nx rfl hit))) (tm rfl hit)) ?_
    refine cutL ?_
    intro τ39 e39
    have c39_1 := (congrFun e39 1).trans (nx rfl (nx rfl (nx rfl (nx rfl t1))))
    have c39_7 := (congrFun e39 7).trans (nx rfl (nx rfl (nx rfl (nx rfl t7))))
    have c39_8 := (congrFun e39 8).trans (nx rfl (nx rfl (nx rfl (nx rfl t8))))
    have c39_11 := (congrFun e39 11).trans (nx rfl (nx rfl (nx rfl (nx rfl t11))))
    have c39_87 := (congrFun e39 87).trans hit
    clear e39
    refine wnil ?_
    refine hK38 _ _ ?_
    clear hK38
    by_cases h : i < rows.length
    · refine cT rfl c39_87 (by simpa using h) ?_
      refine wp_skip ?_
      refine hK37 _ _ ?_
      clear hK37
      obtain ⟨b1, o1, rfl, hc1, hr1⟩ := hAc i h (by omega)
      obtain ⟨ra, rc, hre, hrc⟩ := hr1
      obtain ⟨ob, oo, rfl, hoc, hos⟩ := hOc i h (by omega)
      obtain ⟨oqa, oqc, hqe, hqc⟩ := hos
      have hc1' : ∀ wj, Below w1.heap.size w1 wj → wj.cell? ⟨b1, o1 + i, none⟩ = some (.slice ra rows[i].length rc) := by
        intro wj hbj
        have hlt := World.block_lt_of_cell? w _ hc1
        rw [hbj.cell (Nat.lt_of_lt_of_le hlt hb1.size), hb1.cell hlt, hc1, hre]
      have hoc' : ∀ wj, Below w1.heap.size w1 wj → wj.cell? ⟨ob, oo + i, none⟩ = some (.slice oqa rows[i].length oqc) := by
        intro wj hbj
        rw [hbj.cell (World.block_lt_of_cell? w1 _ hoc), hoc, hqe]
      have hli := l4 rows[i] (List.getElem_mem _)
      refine wp_seq_k (fun K40 hK40 => ?_)
      refine wp_block ?_
      refine wp_seq_k (fun K41 hK41 => ?_)
      refine wp_seq_k (fun K42 hK42 => ?_)
      refine draw mixed [] [(0, 0), (0, 0), (0, 0), (0, 0), (0, 0), (0, 0), (0, 0), (0, 0), (0, 0), (0, 0), (0, 0)] [] (World.drew _) (upd (upd (upd (upd (upd (upd (upd (upd (upd (upd (upd _ 90 _) 91 _) 92 _) 93 _) 94 _) 95 _) 96 _) 97 _) 98 _) 99 _) 100 _) (by kernel_rfl) (fun s hs => ovr_off [(90, _), (91, _), (92, _), (93, _), (94, _), (95, _), (96, _), (97, _), (98, _), (99, _), (100, _)] _ s hs) ⟨(qa rfl (fun _ => (do_move (tm rfl (nx rfl (nx rfl (nx rfl (nx rfl (nx rfl (nx rfl (nx rfl (nx rfl (nx rfl (nx rfl (nx rfl c39_1)))))))))))))) (nx rfl (nx rfl (nx rfl (nx rfl (nx rfl (nx rfl (nx rfl (nx rfl (nx rfl (nx rfl hit))))))))))), (qa rfl (fun _ => (do_move (tm rfl (nx rfl (nx rfl (nx rfl (nx rfl (nx rfl (nx rfl (nx rfl (nx rfl (nx rfl (nx rfl (nx rfl c39_11)))))))))))))) (nx rfl (nx rfl (nx rfl (nx rfl (nx rfl (nx rfl (nx rfl (nx rfl (nx rfl hit)))))))))), (qa rfl (fun _ => (io31 (tm rfl (nx rfl (nx rfl (nx rfl (nx rfl (nx rfl (nx rfl (nx rfl (nx rfl (nx rfl (nx rfl hit))))))))))) (tm rfl (nx rfl (nx rfl (nx rfl (nx rfl (nx rfl (nx rfl (nx rfl (nx rfl (nx rfl hit)))))))))) (by omega))) (nx rfl (nx rfl (nx rfl (nx rfl (nx rfl (nx rfl (nx rfl (nx rfl hit))))))))), (qk rfl (do_load T30 rfl (tm rfl (nx rfl (nx rfl (nx rfl (nx rfl (nx rfl (nx rfl (nx rfl (nx rfl hit))))))))) (hc1' _ hbi.drew)) (nx rfl (nx rfl (nx rfl (nx rfl (nx rfl (nx rfl (nx rfl hit)))))))), (qa rfl (fun _ => (do_len Try.underlying30 (tm rfl (nx rfl (nx rfl (nx rfl (nx rfl (nx rfl (nx rfl (nx rfl hit)))))))))) (nx rfl (nx rfl (nx rfl (nx rfl (nx rfl (nx rfl hit))))))), (qa rfl (fun _ => (do_move (tm rfl (nx rfl (nx rfl (nx rfl (nx rfl (nx rfl (nx rfl (nx rfl (nx rfl (nx rfl (nx rfl (nx rfl c39_7)))))))))))))) (nx rfl (nx rfl (nx rfl (nx rfl (nx rfl hit)))))), (qa rfl (fun _ => (do_move (tm rfl (nx rfl (nx rfl (nx rfl (nx rfl (nx rfl (nx rfl (nx rfl (nx rfl (nx rfl (nx rfl (nx rfl c39_11)))))))))))))) (nx rfl (nx rfl (nx rfl (nx rfl hit))))), (qa rfl (fun _ => (io31 (tm rfl (nx rfl (nx rfl (nx rfl (nx rfl (nx rfl hit)))))) (tm rfl (nx rfl (nx rfl (nx rfl (nx rfl hit))))) (by omega))) (nx rfl (nx rfl (nx rfl hit)))), (qk rfl (do_load T30 rfl (tm rfl (nx rfl (nx rfl (nx rfl hit)))) (hoc' _ hbi.drew)) (nx rfl (nx rfl hit))), (qa rfl (fun _ => (do_len Try.underlying30 (tm rfl (nx rfl (nx rfl hit))))) (nx rfl hit)), (qa rfl (fun _ => (do_neq (tm rfl (nx rfl (nx rfl (nx rfl (nx rfl (nx rfl (nx rfl hit))))))) (tm rfl (nx rfl hit)))) hit), trivial⟩ rfl ?_
      intro τ43 e43
      have c43_1 := (congrFun e43 1).trans (nx rfl (nx rfl (nx rfl (nx rfl (nx rfl (nx rfl (nx rfl (nx rfl (nx rfl (nx rfl (nx rfl c39_1)))))))))))
      have c43_7 := (congrFun e43 7).trans (nx rfl (nx rfl (nx rfl (nx rfl (nx rfl (nx rfl (nx rfl (nx rfl (nx rfl (nx rfl (nx rfl c39_7)))))))))))
      have c43_8 := (congrFun e43 8).trans (nx rfl (nx rfl (nx rfl (nx rfl (nx rfl (nx rfl (nx rfl (nx rfl (nx rfl (nx rfl (nx rfl c39_8)))))))))))
      have c43_11 := (congrFun e43 11).trans (nx rfl (nx rfl (nx rfl (nx rfl (nx rfl (nx rfl (nx rfl (nx rfl (nx rfl (nx rfl (nx rfl c39_11)))))))))))
      have c43_100 := (congrFun e43 100).trans hit
      clear e43
      refine hK42 _ _ ?_
      clear hK42
      refine cF rfl c43_100 (by simp) ?_
      refine wp_skip ?_
      refine hK41 _ _ ?_
      clear hK41
      refine wp_seq_k (fun K44 hK44 => ?_)
      refine reg ?_
      refine sq rfl (do_assign (v := .int .i64 ((0 : Nat) : Int)) rfl) ?_
      refine wnil ?_
      refine hK44 _ _ ?_
      clear hK44
      refine forLoop (N := 142) (fun k τ wj => ∃ j, k = rows[i].length - j ∧ j ≤ rows[i].length ∧ τ 1 = .slice (some ⟨b1, o1, none⟩) rows.length c1 ∧ τ 7 = .slice (some ⟨ob, oo, none⟩) rows.length oc ∧ τ 8 = .slice ga ps.length gc ∧ τ 11 = .int .i64 (i : Int) ∧ τ 12 = .int .i64 (j : Int) ∧
          Got w1.heap.size wj ga ca cc rows (upto rows.length 0) ∧ Below w1.heap.size w1 wj)
        (fun τ wj => τ 1 = .slice (some ⟨b1, o1, none⟩) rows.length c1 ∧ τ 7 = .slice (some ⟨ob, oo, none⟩) rows.length oc ∧ τ 8 = .slice ga ps.length gc ∧ τ 11 = .int .i64 (i : Int) ∧
          Got w1.heap.size wj ga ca cc rows (upto rows.length 0) ∧ Below w1.heap.size w1 wj) rows[i].length ?_ ?_ ?_
      · exact ⟨0, rfl, Nat.zero_le _, (nx rfl c43_1), (nx rfl c43_7), (nx rfl c43_8), (nx rfl c43_11), hit, hgi.ext rfl (fun _ _ _ _ => rfl), hbi.drew⟩
      · clear t1 t7 t8 t11
        rintro Q'' k ξ wj hnn' hx' hr' ⟨j, rfl, hj, x1, x7, x8, x11, x12, hgj, hbj⟩
        have hc1j := hc1' wj hbj
        have hocj := hoc' wj hbj
        refine wp_seq_k (fun K45 hK45 => ?_)
        refine wp_seq_k (fun K46 hK46 => ?_)
        refine reg ?_
        refine sq rfl (do_move (tm rfl x12)) ?_
        refine sq rfl (do_move (tm rfl (nx rfl x1))) ?_
        refine sq rfl (do_move (tm rfl (nx rfl (nx rfl x11)))) ?_
        refine sq rfl (io31 (tm rfl (nx rfl hit)) (tm rfl hit) (by omega)) ?_
        refine sq rfl (do_load T30 rfl (tm rfl hit) hc1j) ?_
        refine sq rfl (do_len Try.underlying30 (tm rfl hit)) ?_
        refine sq rfl (do_lss (tm rfl (nx rfl (nx rfl (nx rfl (nx rfl (nx rfl hit)))))) (tm rfl hit)) ?_
        refine cutL ?_
        intro τ47 e47
        have c47_1 := (congrFun e47 1).trans (nx rfl (nx rfl (nx rfl (nx rfl (nx rfl (nx rfl (nx rfl x1)))))))
        have c47_7 := (congrFun e47 7).trans (nx rfl (nx rfl (nx rfl (nx rfl (nx rfl (nx rfl (nx rfl x7)))))))
        have c47_8 := (congrFun e47 8).trans (nx rfl (nx rfl (nx rfl (nx rfl (nx rfl (nx rfl (nx rfl x8)))))))
        have c47_11 := (congrFun e47 11).trans (nx rfl (nx rfl (nx rfl (nx rfl (nx rfl (nx rfl (nx rfl x11)))))))
        have c47_12 := (congrFun e47 12).trans (nx rfl (nx rfl (nx rfl (nx rfl (nx rfl (nx rfl (nx rfl x12)))))))
        have c47_107 := (congrFun e47 107).trans hit
        clear e47
        refine wnil ?_
        refine hK46 _ _ ?_
        clear hK46
        by_cases h' : j < rows[i].length
        · refine cT rfl c47_107 (by simpa using h') ?_
          refine wp_skip ?_
          refine hK45 _ _ ?_
          clear hK45
          obtain ⟨gb, rfl, hgh⟩ := hgj.head i h
          obtain ⟨g, hca, hSg, hgbg, hcell, hfr⟩ := hgj.cell i h j h'
          have hun : bang (upto rows.length 0 i j) rows[i][j] = rows[i][j] ++ ⟨#[33]⟩ := by simp [bang, upto, h]
          rw [hun] at hcell
          rw [hca] at hgh
          have hsz := (l45 rows[i] (List.getElem_mem _)).2 rows[i][j] (List.getElem_mem _)
          obtain ⟨rb, ro, rfl, hrj⟩ := hrc j h'
          obtain ⟨qb, qo, rfl, hqj⟩ := hqc j h'
          have R1 : wj.cell? ⟨rb, ro + j, none⟩ = some (.string rows[i][j]) := by
            have hlt := World.block_lt_of_cell? w _ hrj
            rw [hbj.cell (Nat.lt_of_lt_of_le hlt hb1.size), hb1.cell hlt]; exact hrj
          have R2 : wj.cell? ⟨qb, qo + j, none⟩ = some (.string rows[i][j]) := by rw [hbj.cell (World.block_lt_of_cell? w1 _ hqj)]; exact hqj
          refine wp_seq_k (fun K48 hK48 => ?_)
          refine wp_block ?_
          refine wp_seq_k (fun K49 hK49 => ?_)
          refine wp_seq_k (fun K50 hK50 => ?_)
          refine draw mixed [] [(0, 0), (0, 0), (0, 0), (0, 0), (0, 0), (0, 0), (0, 0), (0, 0), (0, 0), (0, 0), (0, 0), (0, 0), (0, 0), (0, 0), (0, 0)] [] (World.drew _) (upd (upd (upd (upd (upd (upd (upd (upd (upd (upd (upd (upd (upd (upd (upd _ 110 _) 111 _) 112 _) 113 _) 114 _) 115 _) 116 _) 117 _) 118 _) 119 _) 120 _) 121 _) 122 _) 123 _) 124 _) (by kernel_rfl) (fun s hs => ovr_off [(110, _), (111, _), (112, _), (113, _), (114, _), (115, _), (116, _), (117, _), (118, _), (119, _), (120, _), (121, _), (122, _), (123, _), (124, _)] _ s hs) ⟨(qa rfl (fun _ => (do_move (tm rfl (nx rfl (nx rfl (nx rfl (nx rfl (nx rfl (nx rfl (nx rfl (nx rfl (nx rfl (nx rfl (nx rfl (nx rfl (nx rfl (nx rfl (nx rfl c47_1)))))))))))))))))) (nx rfl (nx rfl (nx rfl (nx rfl (nx rfl (nx rfl (nx rfl (nx rfl (nx rfl (nx rfl (nx rfl (nx rfl (nx rfl (nx rfl hit))))))))))))))), (qa rfl (fun _ => (do_move (tm rfl (nx rfl (nx rfl (nx rfl (nx rfl (nx rfl (nx rfl (nx rfl (nx rfl (nx rfl (nx rfl (nx rfl (nx rfl (nx rfl (nx rfl (nx rfl c47_11)))))))))))))))))) (nx rfl (nx rfl (nx rfl (nx rfl (nx rfl (nx rfl (nx rfl (nx rfl (nx rfl (nx rfl (nx rfl (nx rfl (nx rfl hit)))))))))))))), (qa rfl (fun _ => (io31 (tm rfl (nx rfl (nx rfl (nx rfl (nx rfl (nx rfl (nx rfl (nx rfl (nx rfl (nx rfl (nx rfl (nx rfl (nx rfl (nx rfl (nx rfl hit))))))))))))))) (tm rfl (nx rfl (nx rfl (nx rfl (nx rfl (nx rfl (nx rfl (nx rfl (nx rfl (nx rfl (nx rfl (nx rfl (nx rfl (nx rfl hit)))))))))))))) (by omega))) (nx rfl (nx rfl (nx rfl (nx rfl (nx rfl (nx rfl (nx rfl (nx rfl (nx rfl (nx rfl (nx rfl (nx rfl hit))))))))))))), (qk rfl (do_load T30 rfl (tm rfl (nx rfl (nx rfl (nx rfl (nx rfl (nx rfl (nx rfl (nx rfl (nx rfl (nx rfl (nx rfl (nx rfl (nx rfl hit))))))))))))) hc1j) (nx rfl (nx rfl (nx rfl (nx rfl (nx rfl (nx rfl (nx rfl (nx rfl (nx rfl (nx rfl (nx rfl hit)))))))))))), (qa rfl (fun _ => (do_move (tm rfl (nx rfl (nx rfl (nx rfl (nx rfl (nx rfl (nx rfl (nx rfl (nx rfl (nx rfl (nx rfl (nx rfl (nx rfl (nx rfl (nx rfl (nx rfl c47_12)))))))))))))))))) (nx rfl (nx rfl (nx rfl (nx rfl (nx rfl (nx rfl (nx rfl (nx rfl (nx rfl (nx rfl hit))))))))))), (qa rfl (fun _ => (io30 (tm rfl (nx rfl (nx rfl (nx rfl (nx rfl (nx rfl (nx rfl (nx rfl (nx rfl (nx rfl (nx rfl (nx rfl hit)))))))))))) (tm rfl (nx rfl (nx rfl (nx rfl (nx rfl (nx rfl (nx rfl (nx rfl (nx rfl (nx rfl (nx rfl hit))))))))))) (by omega))) (nx rfl (nx rfl (nx rfl (nx rfl (nx rfl (nx rfl (nx rfl (nx rfl (nx rfl hit)))))))))), (qk rfl (do_load T9 rfl (tm rfl (nx rfl (nx rfl (nx rfl (nx rfl (nx rfl (nx rfl (nx rfl (nx rfl (nx rfl hit)))))))))) R1) (nx rfl (nx rfl (nx rfl (nx rfl (nx rfl (nx rfl (nx rfl (nx rfl hit))))))))), (qa rfl (fun _ => (do_move (tm rfl (nx rfl (nx rfl (nx rfl (nx rfl (nx rfl (nx rfl (nx rfl (nx rfl (nx rfl (nx rfl (nx rfl (nx rfl (nx rfl (nx rfl (nx rfl c47_7)))))))))))))))))) (nx rfl (nx rfl (nx rfl (nx rfl (nx rfl (nx rfl (nx rfl hit)))))))), (qa rfl (fun _ => (do_move (tm rfl (nx rfl (nx rfl (nx rfl (nx rfl (nx rfl (nx rfl (nx rfl (nx rfl (nx rfl (nx rfl (nx rfl (nx rfl (nx rfl (nx rfl (nx rfl c47_11)))))))))))))))))) (nx rfl (nx rfl (nx rfl (nx rfl (nx rfl (nx rfl hit))))))), (qa rfl (fun _ => (io31 (tm rfl (nx rfl (nx rfl (nx rfl (nx rfl (nx rfl (nx rfl (nx rfl hit)))))))) (tm rfl (nx rfl (nx rfl (nx rfl (nx rfl (nx rfl (nx rfl hit))))))) (by omega))) (nx rfl (nx rfl (nx rfl (nx rfl (nx rfl hit)))))), (qk rfl (do_load T30 rfl (tm rfl (nx rfl (nx rfl (nx rfl (nx rfl (nx rfl hit)))))) hocj) (nx rfl (nx rfl (nx rfl (nx rfl hit))))), (qa rfl (fun _ => (do_move (tm rfl (nx rfl (nx rfl (nx rfl (nx rfl (nx rfl (nx rfl (nx rfl (nx rfl (nx rfl (nx rfl (nx rfl (nx rfl (nx rfl (nx rfl (nx rfl c47_12)))))))))))))))))) (nx rfl (nx rfl (nx rfl hit)))), (qa rfl (fun _ => (io30 (tm rfl (nx rfl (nx rfl (nx rfl (nx rfl hit))))) (tm rfl (nx rfl (nx rfl (nx rfl hit)))) (by omega))) (nx rfl (nx rfl hit))), (qk rfl (do_load T9 rfl (tm rfl (nx rfl (nx rfl hit))) R2) (nx rfl hit)), (qa rfl (fun _ => (do_neqSF (tm rfl (nx rfl (nx rfl (nx rfl (nx rfl (nx rfl (nx rfl (nx rfl (nx rfl hit))))))))) (tm rfl (nx rfl hit)) rfl)) hit), trivial⟩ rfl ?_
          intro τ51 e51
          have c51_1 := (congrFun e51 1).trans (nx rfl (nx rfl (nx rfl (nx rfl (nx rfl (nx rfl (nx rfl (nx rfl (nx rfl (nx rfl (nx rfl (nx rfl (nx rfl (nx rfl (nx rfl c47_1)))))))))))))))
          have c51_7 := (congrFun e51 7).trans (nx rfl (nx rfl (nx rfl (nx rfl (nx rfl (nx rfl (nx rfl (nx rfl (nx rfl (nx rfl (nx rfl (nx rfl (nx rfl (nx rfl (nx rfl c47_7)))))))))))))))
          have c51_8 := (congrFun e51 8).trans (nx rfl (nx rfl (nx rfl (nx rfl (nx rfl (nx rfl (nx rfl (nx rfl (nx rfl (nx rfl (nx rfl (nx rfl (nx rfl (nx rfl (nx rfl c47_8)))))))))))))))
          have c51_11 := (congrFun e51 11).trans (nx rfl (nx rfl (nx rfl (nx rfl (nx rfl (nx rfl (nx rfl (nx rfl (nx rfl (nx rfl (nx rfl (nx rfl (nx rfl (nx rfl (nx rfl c47_11)))))))))))))))
          have c51_12 := (congrFun e51 12).trans (nx rfl (nx rfl (nx rfl (nx rfl (nx rfl (nx rfl (nx rfl (nx rfl (nx rfl (nx rfl (nx rfl (nx rfl (nx rfl (nx rfl (nx rfl c47_12)))))))))))))))
          have c51_124 := (congrFun e51 124).trans hit
          clear e51
          refine hK50 _ _ ?_
          clear hK50
          refine cF rfl c51_124 rfl ?_
          refine wp_skip ?_
          refine hK49 _ _ ?_
          clear hK49
          refine wp_seq_k (fun K52 hK52 => ?_)
          refine draw mixed [] [(0, 0), (0, 0), (0, 0), (0, 0), (0, 0), (0, 0), (0, 0), (0, 0), (0, 0), (0, 0), (0, 0), (0, 0), (0, 0), (0, 0), (0, 0), (0, 0), (0, 0)] [] (World.drew _) (upd (upd (upd (upd (upd (upd (upd (upd (upd (upd (upd (upd (upd (upd (upd (upd (upd _ 125 _) 126 _) 127 _) 128 _) 129 _) 130 _) 131 _) 132 _) 133 _) 134 _) 135 _) 136 _) 137 _) 138 _) 139 _) 140 _) 141 _) (by kernel_rfl) (fun s hs => ovr_off [(125, _), (126, _), (127, _), (128, _), (129, _), (130, _), (131, _), (132, _), (133, _), (134, _), (135, _), (136, _), (137, _), (138, _), (139, _), (140, _), (141, _)] _ s hs) ⟨(qa rfl (fun _ => (do_move (tm rfl (nx rfl (nx rfl (nx rfl (nx rfl (nx rfl (nx rfl (nx rfl (nx rfl (nx rfl (nx rfl (nx rfl (nx rfl (nx rfl (nx rfl (nx rfl (nx rfl (nx rfl c51_8)))))))))))))))))))) (nx rfl (nx rfl (nx rfl (nx rfl (nx rfl (nx rfl (nx rfl (nx rfl (nx rfl (nx rfl (nx rfl (nx rfl (nx rfl (nx rfl (nx rfl (nx rfl hit))))))))))))))))), (qa rfl (fun _ => (do_move (tm rfl (nx rfl (nx rfl (nx rfl (nx rfl (nx rfl (nx rfl (nx rfl (nx rfl (nx rfl (nx rfl (nx rfl (nx rfl (nx rfl (nx rfl (nx rfl (nx rfl (nx rfl c51_11)))))))))))))))))))) (nx rfl (nx rfl (nx rfl (nx rfl (nx rfl (nx rfl (nx rfl (nx rfl (nx rfl (nx rfl (nx rfl (nx rfl (nx rfl (nx rfl (nx rfl hit)))))))))))))))), (qa rfl (fun _ => (ix34 (tm rfl (nx rfl (nx rfl (nx rfl (nx rfl (nx rfl (nx rfl (nx rfl (nx rfl (nx rfl (nx rfl (nx rfl (nx rfl (nx rfl (nx rfl (nx rfl (nx rfl hit))))))))))))))))) (tm rfl (nx rfl (nx rfl (nx rfl (nx rfl (nx rfl (nx rfl (nx rfl (nx rfl (nx rfl (nx rfl (nx rfl (nx rfl (nx rfl (nx rfl (nx rfl hit)))))))))))))))) (by omega))) (nx rfl (nx rfl (nx rfl (nx rfl (nx rfl (nx rfl (nx rfl (nx rfl (nx rfl (nx rfl (nx rfl (nx rfl (nx rfl (nx rfl hit))))))))))))))), (qa rfl (fun _ => (fa38_1 (tm rfl (nx rfl (nx rfl (nx rfl (nx rfl (nx rfl (nx rfl (nx rfl (nx rfl (nx rfl (nx rfl (nx rfl (nx rfl (nx rfl (nx rfl hit))))))))))))))))) (nx rfl (nx rfl (nx rfl (nx rfl (nx rfl (nx rfl (nx rfl (nx rfl (nx rfl (nx rfl (nx rfl (nx rfl (nx rfl hit)))))))))))))), (qk rfl (do_load T30 rfl (tm rfl (nx rfl (nx rfl (nx rfl (nx rfl (nx rfl (nx rfl (nx rfl (nx rfl (nx rfl (nx rfl (nx rfl (nx rfl (nx rfl hit)))))))))))))) hgh) (nx rfl (nx rfl (nx rfl (nx rfl (nx rfl (nx rfl (nx rfl (nx rfl (nx rfl (nx rfl (nx rfl (nx rfl hit))))))))))))), (qa rfl (fun _ => (do_move (tm rfl (nx rfl (nx rfl (nx rfl (nx rfl (nx rfl (nx rfl (nx rfl (nx rfl (nx rfl (nx rfl (nx rfl (nx rfl (nx rfl (nx rfl (nx rfl (nx rfl (nx rfl c51_12)))))))))))))))))))) (nx rfl (nx rfl (nx rfl (nx rfl (nx rfl (nx rfl (nx rfl (nx rfl (nx rfl (nx rfl (nx rfl hit)))))))))))), (qa rfl (fun _ => (ix30 (tm rfl (nx rfl (nx rfl (nx rfl (nx rfl (nx rfl (nx rfl (nx rfl (nx rfl (nx rfl (nx rfl (nx rfl (nx rfl hit))))))))))))) (tm rfl (nx rfl (nx rfl (nx rfl (nx rfl (nx rfl (nx rfl (nx rfl (nx rfl (nx rfl (nx rfl (nx rfl hit)))))))))))) (by omega))) (nx rfl (nx rfl (nx rfl (nx rfl (nx rfl (nx rfl (nx rfl (nx rfl (nx rfl (nx rfl hit))))))))))), (qk rfl (do_load T9 rfl (tm rfl (nx rfl (nx rfl (nx rfl (nx rfl (nx rfl (nx rfl (nx rfl (nx rfl (nx rfl (nx rfl hit))))))))))) hcell) (nx rfl (nx rfl (nx rfl (nx rfl (nx rfl (nx rfl (nx rfl (nx rfl (nx rfl hit)))))))))), (qa rfl (fun _ => (do_move (tm rfl (nx rfl (nx rfl (nx rfl (nx rfl (nx rfl (nx rfl (nx rfl (nx rfl (nx rfl (nx rfl (nx rfl (nx rfl (nx rfl (nx rfl (nx rfl (nx rfl (nx rfl c51_7)))))))))))))))))))) (nx rfl (nx rfl (nx rfl (nx rfl (nx rfl (nx rfl (nx rfl (nx rfl hit))))))))), (qa rfl (fun _ => (do_move (tm rfl (nx rfl (nx rfl (nx rfl (nx rfl (nx rfl (nx rfl (nx rfl (nx rfl (nx rfl (nx rfl (nx rfl (nx rfl (nx rfl (nx rfl (nx rfl (nx rfl (nx rfl c51_11)))))))))))))))))))) (nx rfl (nx rfl (nx rfl (nx rfl (nx rfl (nx rfl (nx rfl hit)))))))), (qa rfl (fun _ => (io31 (tm rfl (nx rfl (nx rfl (nx rfl (nx rfl (nx rfl (nx rfl (nx rfl (nx rfl hit))))))))) (tm rfl (nx rfl (nx rfl (nx rfl (nx rfl (nx rfl (nx rfl (nx rfl hit)))))))) (by omega))) (nx rfl (nx rfl (nx rfl (nx rfl (nx rfl (nx rfl hit))))))), (qk rfl (do_load T30 rfl (tm rfl (nx rfl (nx rfl (nx rfl (nx rfl (nx rfl (nx rfl hit))))))) hocj) (nx rfl (nx rfl (nx rfl (nx rfl (nx rfl hit)))))), (qa rfl (fun _ => (do_move (tm rfl (nx rfl (nx rfl (nx rfl (nx rfl (nx rfl (nx rfl (nx rfl (nx rfl (nx rfl (nx rfl (nx rfl (nx rfl (nx rfl (nx rfl (nx rfl (nx rfl (nx rfl c51_12)))))))))))))))))))) (nx rfl (nx rfl (nx rfl (nx rfl hit))))), (qa rfl (fun _ => (io30 (tm rfl (nx rfl (nx rfl (nx rfl (nx rfl (nx rfl hit)))))) (tm rfl (nx rfl (nx rfl (nx rfl (nx rfl hit))))) (by omega))) (nx rfl (nx rfl (nx rfl hit)))), (qk rfl (do_load T9 rfl (tm rfl (nx rfl (nx rfl (nx rfl hit)))) R2) (nx rfl (nx rfl hit))), (qa rfl (fun _ => (do_addS (tm rfl (nx rfl (nx rfl hit))) ck (by show rows[i][j].size + 1 ≤ _; omega))) (nx rfl hit)), (qa rfl (fun _ => (do_neqSF (tm rfl (nx rfl (nx rfl (nx rfl (nx rfl (nx rfl (nx rfl (nx rfl (nx rfl (nx rfl hit)))))))))) (tm rfl (nx rfl hit)) rfl)) hit), trivial⟩ rfl ?_
          intro τ53 e53
          have c53_1 := (congrFun e53 1).trans (nx rfl (nx rfl (nx rfl (nx rfl (nx rfl (nx rfl (nx rfl (nx rfl (nx rfl (nx rfl (nx rfl (nx rfl (nx rfl (nx rfl (nx rfl (nx rfl (nx rfl c51_1)))))))))))))))))
          have c53_7 := (congrFun e53 7).trans (nx rfl (nx rfl (nx rfl (nx rfl (nx rfl (nx rfl (nx rfl (nx rfl (nx rfl (nx rfl (nx rfl (nx rfl (nx rfl (nx rfl (nx rfl (nx rfl (nx rfl c51_7)))))))))))))))))
          have c53_8 := (congrFun e53 8).trans (nx rfl (nx rfl (nx rfl (nx rfl (nx rfl (nx rfl (nx rfl (nx rfl (nx rfl (nx rfl (nx rfl (nx rfl (nx rfl (nx rfl (nx rfl (nx rfl (nx rfl c51_8)))))))))))))))))
          have c53_11 := (congrFun e53 11).trans (nx rfl (nx rfl (nx rfl (nx rfl (nx rfl (nx rfl (nx rfl (nx rfl (nx rfl (nx rfl (nx rfl (nx rfl (nx rfl (nx rfl (nx rfl (nx rfl (nx rfl c51_11)))))))))))))))))
          have c53_12 := (congrFun e53 12).trans (nx rfl (nx rfl (nx rfl (nx rfl (nx rfl (nx rfl (nx rfl (nx rfl (nx rfl (nx rfl (nx rfl (nx rfl (nx rfl (nx rfl (nx rfl (nx rfl (nx rfl c51_12)))))))))))))))))
          have c53_141 := (congrFun e53 141).trans hit
          clear e53
          refine hK52 _ _ ?_
          clear hK52
          refine cF rfl c53_141 rfl ?_
          refine wp_skip ?_
          refine inBN ?_
          refine hK48 _ _ ?_
          clear hK48
          refine reg ?_
          refine sq rfl (do_move (tm rfl c53_12)) ?_
          refine sq rfl (do_inc (tm rfl hit) ck (by omega)) ?_
          refine sq rfl (do_assign (tm rfl hit)) ?_
          refine wnil ?_
          exact hnn' (rows[i].length - (j + 1)) _ _ (by omega) ⟨j + 1, rfl, by omega, (nx rfl (nx rfl (nx rfl c53_1))), (nx rfl (nx rfl (nx rfl c53_7))), (nx rfl (nx rfl (nx rfl c53_8))), (nx rfl (nx rfl (nx rfl c53_11))), hit, hgj.ext rfl (fun _ _ _ _ => rfl), hbj.drew.drew⟩
        · refine cF rfl c47_107 (by simpa using h') ?_
          refine wp_exit ?_
          refine thenE ?_
          exact hx' _ _ ⟨c47_1, c47_7, c47_8, c47_11, hgj, hbj⟩
      clear t1 t7 t8 t11
      rintro τ wj ⟨t1, t7, t8, t11, hgj, hbj⟩
      refine inBN ?_
      refine hK40 _ _ ?_
      clear hK40
      refine reg ?_
      refine sq rfl (do_move (tm rfl t11)) ?_
      refine sq rfl (do_inc (tm rfl hit) ck (by omega)) ?_
      refine sq rfl (do_assign (tm rfl hit)) ?_
      refine wnil ?_
      exact hnn (rows.length - (i + 1)) _ _ (by omega) ⟨i + 1, rfl, by omega, (nx rfl (nx rfl (nx rfl t1))), (nx rfl (nx rfl (nx rfl t7))), (nx rfl (nx rfl (nx rfl t8))), hit, hgj, hbj⟩
    · refine cF rfl c39_87 (by simpa using h) ?_
      refine wp_exit ?_
      refine thenE ?_
      exact hx _ _ hbi
  clear t1 t7 t8
  rintro τ wi hbi
  refine hK35 _ _ ?_
  clear hK35
  refine wp_seq_k (fun K54 hK54 => ?_)
  refine reg ?_
  refine sq rfl (do_assign ck) ?_
  refine wnil ?_
  refine hK54 _ _ ?_
  clear hK54
  refine wp_ret ?_
  exact hF _ _ hit (hb1.trans (hbi.mono hb1.size))
end Go.Proofs.Qxb6000003a
