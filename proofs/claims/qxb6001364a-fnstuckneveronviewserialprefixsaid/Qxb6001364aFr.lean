/-
  FRAMES AS FUNCTIONS: a frame of N slots is 'Fr N σ', σ : Nat → Value; an operation that writes slot d turns σ into 'upd σ d v'.
  Rules for a region in the text's order ('sq ..') and for a region that draws its order ('draw_rule').
-/
import Derived.WalkKit
import Derived.Orders
import Derived.KernelRfl
namespace Go.Fra

def upd (σ : Nat → Value) (d : Nat) (v : Value) : Nat → Value := fun t => cond (Nat.beq t d) v (σ t)

theorem hit {σ : Nat → Value} {d : Nat} {v : Value} : upd σ d v d = v := by simp [upd]
theorem nx {σ : Nat → Value} {d t : Nat} {u v : Value} (h : Nat.beq t d = false) (e : σ t = v) : upd σ d u t = v := by simp [upd, h, e]

def Fr (N : Nat) (σ : Nat → Value) : Act := ⟨Array.ofFn (n := N) fun i => σ i.1, []⟩

theorem Fr.get {N : Nat} {σ : Nat → Value} {t : Nat} (h : t < N) : (Fr N σ).tmps[t]? = some (σ t) := by
  simp [Fr, h]
theorem Fr.getD {N : Nat} {σ : Nat → Value} {t : Nat} (h : t < N) : (Fr N σ).tmps.getD t undef = σ t := by
  simp [Fr, h]
theorem Fr.size {N : Nat} {σ : Nat → Value} : (Fr N σ).tmps.size = N := by simp [Fr]

/-- An operand that is a slot. -/
theorem tm {N : Nat} {σ : Nat → Value} {t : Nat} {v : Value} (ht : Nat.blt t N = true) (h : σ t = v) : (Fr N σ).eval (.tmp t) = v := by
  rw [← h]
  exact Fr.getD (by simpa [Nat.blt_eq] using ht)

theorem Fr.put {N : Nat} {σ : Nat → Value} {d : Nat} {v : Value} (hd : d < N) : (Fr N σ).put (some d) v = Fr N (upd σ d v) := by
  simp only [Act.put, Fr, Act.mk.injEq, and_true]
  apply Array.ext_getElem?
  intro i
  rw [Array.getElem?_setIfInBounds]
  by_cases hi : i < N
  · by_cases h : d = i
    · subst h; simp [hi, upd]
    · have : Nat.beq i d = false := by
        cases hb : Nat.beq i d with
        | false => rfl
        | true => exact absurd (Nat.eq_of_beq_eq_true hb).symm h
      simp [hi, h, upd, this]
  · have h : d ≠ i := by omega
    simp [hi, h]

theorem Fr.ext {N : Nat} {σ τ : Nat → Value} (h : ∀ s, s < N → σ s = τ s) : Fr N σ = Fr N τ := by
  simp only [Fr, Act.mk.injEq, and_true]
  congr 1
  funext i
  exact h i.1 i.2

/-- The frame at a call's start. -/
def frame0 (args : List Value) : Nat → Value := fun t => args.getD t undef

theorem Fr.entry (args : List Value) (N : Nat) (h : args.length ≤ N) :
    ({ tmps := args.toArray ++ Array.replicate (N - args.toArray.size) undef, defers := [] } : Act) = Fr N (frame0 args) := by
  simp only [Fr, Act.mk.injEq, and_true]
  apply Array.ext
  · simp; omega
  · intro i h1 h2
    simp only [Array.size_ofFn] at h2
    simp only [Array.getElem_ofFn, frame0]
    by_cases hi : i < args.length
    · rw [Array.getElem_append_left (by simpa using hi)]
      simp [hi]
    · rw [Array.getElem_append_right (by simpa using hi)]
      simp [Nat.le_of_not_lt hi]

theorem enter {P : Program} {f : FuncId} {fn : Func} {c : Code} {args : List Value} {w : World} {R : Ending → World → Prop} {N : Nat}
    (hf : P.funcs[f]? = some fn) (hb : fn.body = some c) (hN : fn.ntmps = N) (hl : Nat.ble args.length N = true)
    (h : c.wp P (bodyPost P fn R) (Fr N (frame0 args)) w) : Calls P f args.toArray w R := by
  refine calls_of_wp hf hb ?_
  rw [hN, Fr.entry args N (Nat.le_of_ble_eq_true hl)]
  exact h

/-- What an operation does: it gives v and leaves w'; a call of a Go function likewise. -/
def Does (P : Program) (o : Oper) (ρ : Operand → Value) (w : World) (v : Value) (w' : World) : Prop :=
  (execOp ρ o).run P w = .ok (.value v) w' ∨ ((execOp ρ o).run P w = .ok .skip w' ∧ v = undef) ∨
  ∃ g args, (execOp ρ o).run P w = .ok (.enter g args) w ∧ Calls P g args w fun e w'' => e = .returned v ∧ w'' = w'

theorem Does.wp {P : Program} {o : Oper} {a : Act} {w w' : World} {v : Value} {K : Act → World → Prop} {Q : Exit → Act → World → Prop}
    (h : Does P o a.eval w v w') (k : K (a.put o.dst v) w') : o.wp P a w K Q := by
  unfold Oper.wp
  rcases h with h | ⟨h, rfl⟩ | ⟨g, args, h, hc⟩
  · rw [h]; exact k
  · rw [h]; exact k
  · rw [h]
    refine hc.mono ?_
    rintro e w'' ⟨rfl, rfl⟩
    exact k

/-- The rest of a region's list, shut: 'whnf' does not open it. -/
structure WL (P : Program) (ops : Array Oper) (Q : Exit → Act → World → Prop) (l : List Oper) (a : Act) (w : World) : Prop where
  out : wpList P ops Q l a w

section seq
variable {P : Program} {N : Nat} {σ : Nat → Value} {ops : Array Oper} {Q : Exit → Act → World → Prop} {rest : List Oper} {w w' : World} {v : Value}
  {d : Nat} {op : Op} {ty : TypeId} {pos : String} {aft : Array Edge}

theorem wnil {a : Act} (h : Q .normal a w) : WL P ops Q [] a w := ⟨wpList_nil h⟩

theorem sq (hd : Nat.blt d N = true) (h : Does P ⟨some d, op, ty, pos, aft, none⟩ (Fr N σ).eval w v w')
    (k : WL P ops Q rest (Fr N (upd σ d v)) w') : WL P ops Q (⟨some d, op, ty, pos, aft, none⟩ :: rest) (Fr N σ) w := by
  refine ⟨wpList_plain rfl fun K hK => h.wp (hK _ _ ?_)⟩
  show wpList P ops Q rest ((Fr N σ).put (some d) v) w'
  rw [Fr.put (by simpa [Nat.blt_eq] using hd)]
  exact k.out

theorem sqn (h : Does P ⟨none, op, ty, pos, aft, none⟩ (Fr N σ).eval w v w')
    (k : WL P ops Q rest (Fr N σ) w') : WL P ops Q (⟨none, op, ty, pos, aft, none⟩ :: rest) (Fr N σ) w :=
  ⟨wpList_plain rfl fun _ hK => h.wp (hK _ _ k.out)⟩

/-- A guarded operation that is carried out: operation j of the region, which wrote slot g, gave 'want'. -/
theorem sqg {l : List Oper} {j g : Nat} {want : Bool} (hj : (l[j]?).bind (·.dst) = some g) (hg : Nat.blt g N = true) (hv : σ g = .bool want) (hd : Nat.blt d N = true)
    (h : Does P ⟨some d, op, ty, pos, aft, some (j, want)⟩ (Fr N σ).eval w v w')
    (k : WL P l.toArray Q rest (Fr N (upd σ d v)) w') : WL P l.toArray Q (⟨some d, op, ty, pos, aft, some (j, want)⟩ :: rest) (Fr N σ) w := by
  refine ⟨wpList_step fun K hK => ?_⟩
  have hy : Region.wanted ⟨some d, op, ty, pos, aft, some (j, want)⟩ (yielded l.toArray (Fr N σ).tmps) = true := by
    have hgN : g < N := by simpa [Nat.blt_eq] using hg
    simp [Region.wanted, yielded, List.getElem?_toArray, hj, Fr.get hgN, hv]
  rw [if_pos hy]
  refine h.wp (hK _ _ ?_)
  show wpList P l.toArray Q rest ((Fr N σ).put (some d) v) w'
  rw [Fr.put (by simpa [Nat.blt_eq] using hd)]
  exact k.out

/-- A guarded operation that is left out. -/
theorem sqs {l : List Oper} {j g : Nat} {want b : Bool} (hj : (l[j]?).bind (·.dst) = some g) (hg : Nat.blt g N = true) (hv : σ g = .bool b) (hb : (b == want) = false) (hd : Nat.blt d N = true)
    (k : WL P l.toArray Q rest (Fr N (upd σ d undef)) w) : WL P l.toArray Q (⟨some d, op, ty, pos, aft, some (j, want)⟩ :: rest) (Fr N σ) w := by
  refine ⟨wpList_step fun K hK => ?_⟩
  have hy : ¬ Region.wanted ⟨some d, op, ty, pos, aft, some (j, want)⟩ (yielded l.toArray (Fr N σ).tmps) = true := by
    have hgN : g < N := by simpa [Nat.blt_eq] using hg
    simp [Region.wanted, yielded, List.getElem?_toArray, hj, Fr.get hgN, hv]
    simpa using hb
  rw [if_neg hy]
  refine hK _ _ ?_
  show wpList P l.toArray Q rest ((Fr N σ).put (some d) undef) w
  rw [Fr.put (by simpa [Nat.blt_eq] using hd)]
  exact k.out

/-- A call of a Go function. -/
theorem sqc {g : FuncId} {args : Array Value} {R : Value → World → Prop} (hd : Nat.blt d N = true)
    (hr : (execOp (Fr N σ).eval ⟨some d, op, ty, pos, aft, none⟩).run P w = .ok (.enter g args) w)
    (hc : Calls P g args w fun e w' => ∃ v, e = .returned v ∧ R v w')
    (k : ∀ v w', R v w' → WL P ops Q rest (Fr N (upd σ d v)) w') : WL P ops Q (⟨some d, op, ty, pos, aft, none⟩ :: rest) (Fr N σ) w := by
  refine ⟨wpList_plain rfl fun K hK => ?_⟩
  unfold Oper.wp
  rw [hr]
  refine hc.mono ?_
  rintro e w' ⟨v, rfl, hR⟩
  refine hK _ _ ?_
  show wpList P ops Q rest ((Fr N σ).put (some d) v) w'
  rw [Fr.put (by simpa [Nat.blt_eq] using hd)]
  exact (k v w' hR).out

/-- An append that may grow. -/
theorem sqR {R : Value → World → Prop} (hd : Nat.blt d N = true) (h : ∃ v w', Does P ⟨some d, op, ty, pos, aft, none⟩ (Fr N σ).eval w v w' ∧ R v w')
    (k : ∀ v w', R v w' → WL P ops Q rest (Fr N (upd σ d v)) w') : WL P ops Q (⟨some d, op, ty, pos, aft, none⟩ :: rest) (Fr N σ) w := by
  obtain ⟨v, w', hd', hR⟩ := h
  exact sq hd hd' (k v w' hR)
end seq

theorem reg {P : Program} {Q : Exit → Act → World → Prop} {a : Act} {w : World} {id : Nat} {l : List Oper} (h : WL P l.toArray Q l a w) :
    (Code.region id l.toArray false).wp P Q a w := wp_region_lit h.out

/-- The frame under a new name. -/
theorem cutL {P : Program} {ops : Array Oper} {Q : Exit → Act → World → Prop} {N : Nat} {σ : Nat → Value} {w : World} (h : ∀ τ, τ = σ → WL P ops Q [] (Fr N τ) w) : WL P ops Q [] (Fr N σ) w := h σ rfl

/-- The frame and the world under new names. -/
theorem cutW {P : Program} {ops : Array Oper} {Q : Exit → Act → World → Prop} {N : Nat} {σ : Nat → Value} {w : World} (h : ∀ τ, τ = σ → ∀ w', w' = w → WL P ops Q [] (Fr N τ) w') : WL P ops Q [] (Fr N σ) w := h σ rfl w rfl

theorem exists_min (p : Nat → Prop) (h : ∃ k, p k) : ∃ k, p k ∧ ∀ j, p j → k ≤ j := by
  obtain ⟨k, hk⟩ := h
  induction k using Nat.strongRecOn with
  | ind k ih =>
    by_cases hm : ∃ j, j < k ∧ p j
    · obtain ⟨j, hj, hp⟩ := hm
      exact ih j hj hp
    · refine ⟨k, hk, fun j hj => ?_⟩
      rcases Nat.lt_or_ge j k with h | h
      · exact absurd ⟨j, h, hj⟩ hm
      · exact h

/-- A loop: the invariant bears the number of rounds that are left at most. -/
theorem loopK {P : Program} {c : Code} {Q : Exit → Act → World → Prop} {a : Act} {w : World} (I : Nat → Act → World → Prop) (k : Nat) (h0 : I k a w)
    (hs : ∀ k a w, I k a w → c.wp P (Exit.then (fun a' w' => ∃ k', k' < k ∧ I k' a' w') Q) a w) : (Code.loop c).wp P Q a w := by
  refine wp_loop (fun a w => ∃ k, I k a w) (fun a w => Classical.epsilon fun k => I k a w ∧ ∀ j, I j a w → k ≤ j) ⟨k, h0⟩ ?_
  intro a w hI
  have hm := Classical.epsilon_spec (exists_min _ hI)
  refine wp_mono (hs _ a w hm.1) ?_
  intro e a' w' hq
  cases e with
  | normal =>
    obtain ⟨k', hk', hI'⟩ := hq
    have hm' := Classical.epsilon_spec (exists_min (fun k => I k a' w') ⟨k', hI'⟩)
    exact ⟨⟨k', hI'⟩, Nat.lt_of_le_of_lt (hm'.2 k' hI') hk'⟩
  | _ => exact hq

/-- The same for frames that are functions. -/
theorem loopF {P : Program} {c : Code} {Q : Exit → Act → World → Prop} {N : Nat} {σ : Nat → Value} {w : World} (I : Nat → (Nat → Value) → World → Prop) (k : Nat) (h0 : I k σ w)
    (hs : ∀ k σ w, I k σ w → c.wp P (Exit.then (fun a' w' => ∃ k' σ', k' < k ∧ a' = Fr N σ' ∧ I k' σ' w') Q) (Fr N σ) w) : (Code.loop c).wp P Q (Fr N σ) w := by
  refine loopK (fun k a w => ∃ σ, a = Fr N σ ∧ I k σ w) k ⟨σ, rfl, h0⟩ ?_
  rintro k _ w ⟨σ, rfl, hI⟩
  refine wp_mono (hs k σ w hI) ?_
  intro e a' w' hq
  cases e with
  | normal =>
    obtain ⟨k', σ', hk', rfl, hI'⟩ := hq
    exact ⟨k', hk', σ', rfl, hI'⟩
  | _ => exact hq

/-- A loop in its block, the outside hidden: 'I k' at the head of a round, 'X' where the loop is left. -/
theorem forLoop {P : Program} {c : Code} {Q : Exit → Act → World → Prop} {N id : Nat} {σ : Nat → Value} {w : World} (I : Nat → (Nat → Value) → World → Prop) (X : (Nat → Value) → World → Prop) (k : Nat) (h0 : I k σ w)
    (hs : ∀ (Q' : Exit → Act → World → Prop) (k : Nat) (σ : Nat → Value) (w : World), (∀ k' σ' w', k' < k → I k' σ' w' → Q' .normal (Fr N σ') w') → (∀ σ' w', X σ' w' → Q' (.exit id) (Fr N σ') w') →
      (∀ a w, Q .ret a w → Q' .ret a w) → I k σ w → c.wp P Q' (Fr N σ) w)
    (hX : ∀ σ' w', X σ' w' → Q .normal (Fr N σ') w') : (Code.block id (Code.loop c)).wp P Q (Fr N σ) w := by
  refine wp_block (loopF I k h0 ?_)
  intro k σ w hI
  refine hs _ k σ w ?_ ?_ ?_ hI
  · intro k' σ' w' hk hI'
    exact ⟨k', σ', hk, rfl, hI'⟩
  · intro σ' w' h
    show Exit.inBlock id Q (.exit id) (Fr N σ') w'
    simp only [Exit.inBlock, if_true]
    exact hX σ' w' h
  · intro a w h
    exact h

/-- An assertion between two statements. -/
theorem seqJ {P : Program} {x y : Code} {Q : Exit → Act → World → Prop} {N : Nat} {σ : Nat → Value} {w : World} (J : (Nat → Value) → World → Prop)
    (hx : ∀ Q' : Exit → Act → World → Prop, (∀ σ' w', J σ' w' → Q' .normal (Fr N σ') w') → (∀ e a w, e ≠ .normal → Q e a w → Q' e a w) → x.wp P Q' (Fr N σ) w)
    (hy : ∀ σ' w', J σ' w' → y.wp P Q (Fr N σ') w') : (Code.seq x y).wp P Q (Fr N σ) w := by
  refine wp_seq (hx _ ?_ ?_)
  · intro σ' w' h; exact hy σ' w' h
  · intro e a w hne h
    cases e with
    | normal => exact absurd rfl hne
    | _ => exact h

theorem inBN {Q : Exit → Act → World → Prop} {a : Act} {w : World} {id : Nat} (h : Q .normal a w) : Exit.inBlock id Q .normal a w := h

theorem ret1 {P : Program} {fn : Func} {t N : Nat} {σ : Nat → Value} {v : Value} {w : World} {R : Ending → World → Prop} (hr : fn.results = #[.tmp t]) (ht : Nat.blt t N = true) (hv : σ t = v) (hR : R (.returned v) w) :
    bodyPost P fn R .ret (Fr N σ) w := by
  refine bodyPost_ret (results_tmp hr _ _ _) rfl ?_
  rw [Fr.getD (by simpa [Nat.blt_eq] using ht), hv]
  exact hR

theorem ret2 {P : Program} {fn : Func} {t u N : Nat} {σ : Nat → Value} {v v' : Value} {w : World} {R : Ending → World → Prop} (hr : fn.results = #[.tmp t, .tmp u]) (ht : Nat.blt t N = true) (hu : Nat.blt u N = true)
    (hv : σ t = v) (hv' : σ u = v') (hR : R (.returned (.tuple #[v, v'])) w) : bodyPost P fn R .ret (Fr N σ) w := by
  refine bodyPost_ret (results_tmp2 hr _ _ _) rfl ?_
  rw [Fr.getD (by simpa [Nat.blt_eq] using ht), hv, Fr.getD (by simpa [Nat.blt_eq] using hu), hv']
  exact hR

theorem inB {Q : Exit → Act → World → Prop} {a : Act} {w : World} {id : Nat} (h : Q .normal a w) : Exit.inBlock id Q (.exit id) a w := by
  simp [Exit.inBlock, h]

theorem thenE {R : Act → World → Prop} {Q : Exit → Act → World → Prop} {a : Act} {w : World} {id : Nat} (h : Q (.exit id) a w) : Exit.then R Q (.exit id) a w := h
theorem thenR {R : Act → World → Prop} {Q : Exit → Act → World → Prop} {a : Act} {w : World} (h : Q .ret a w) : Exit.then R Q .ret a w := h
theorem inBR {Q : Exit → Act → World → Prop} {a : Act} {w : World} {id : Nat} (h : Q .ret a w) : Exit.inBlock id Q .ret a w := h
theorem inBx {Q : Exit → Act → World → Prop} {a : Act} {w : World} {id j : Nat} (hne : Nat.beq j id = false) (h : Q (.exit j) a w) : Exit.inBlock id Q (.exit j) a w := by
  have : j ≠ id := fun e => by subst e; simp at hne
  simp only [Exit.inBlock]
  split
  · rename_i heq
    cases heq
    exact absurd rfl this
  · exact h

section cond
variable {P : Program} {Q : Exit → Act → World → Prop} {N t : Nat} {σ : Nat → Value} {w : World} {x y : Code} {b : Bool}
theorem cT (ht : Nat.blt t N = true) (h : σ t = .bool b) (hb : b = true) (k : x.wp P Q (Fr N σ) w) : (Code.cond (.tmp t) x y).wp P Q (Fr N σ) w :=
  wp_cond_true (tm ht (by rw [h, hb])) k
theorem cF (ht : Nat.blt t N = true) (h : σ t = .bool b) (hb : b = false) (k : y.wp P Q (Fr N σ) w) : (Code.cond (.tmp t) x y).wp P Q (Fr N σ) w :=
  wp_cond_false (tm ht (by rw [h, hb])) k
theorem cB (ht : Nat.blt t N = true) (h : σ t = .bool b) (kt : b = true → x.wp P Q (Fr N σ) w) (kf : b = false → y.wp P Q (Fr N σ) w) : (Code.cond (.tmp t) x y).wp P Q (Fr N σ) w :=
  wp_cond_split (tm ht h) kt kf
end cond

/-! ### Places in a function's code -/
def nav : List Nat → Code → Code
  | [], c => c
  | 0 :: p, .seq a _ => nav p a
  | _ :: p, .seq _ b => nav p b
  | 0 :: p, .cond _ a _ => nav p a
  | _ :: p, .cond _ _ b => nav p b
  | _ :: p, .block _ c => nav p c
  | _ :: p, .loop c => nav p c
  | _ :: p, .scope c => nav p c
  | _, c => c


theorem ck {N : Nat} {σ : Nat → Value} {v : Value} : (Fr N σ).eval (.const v) = v := rfl
theorem le1 {p : Nat → Prop} (h0 : p 0) (h1 : p 1) : ∀ j, j ≤ 1 → p j
  | 0, _ => h0
  | 1, _ => h1
  | j + 2, h => absurd h (by omega)
theorem le2 {p : Nat → Prop} (h0 : p 0) (h1 : p 1) (h2 : p 2) : ∀ j, j ≤ 2 → p j
  | 0, _ => h0
  | 1, _ => h1
  | 2, _ => h2
  | j + 3, h => absurd h (by omega)
end Go.Fra
