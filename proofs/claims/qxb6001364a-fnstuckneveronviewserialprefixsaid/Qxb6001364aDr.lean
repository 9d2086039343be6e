/-
  A REGION THAT DRAWS ITS ORDER, ONE RULE: every operation is quiet (it gives its value in each of the worlds in which it may come up) or it is one of a chain of effects.
-/
import Derived.Test.Qxb6001364aFr
namespace Go.Fra

def bound (o : Oper) (i : Nat) : Bool := o.after.any fun e => Region.binds .any e && e.on == i
def tmpsOf (ops : Array Oper) (o : Oper) : List Nat := o.looksAt ops
def notSelect (o : Oper) : Bool := match o.op with | .select .. => false | _ => true

def dstsOf (ops : Array Oper) : List Nat := ops.toList.filterMap (·.dst)

/-- One operation's row of the plan. -/
def rowOk (N : Nat) (ops : Array Oper) (E : List Nat) (pl : List (Nat × Nat)) (i : Nat) : Bool :=
  match ops[i]?, pl[i]? with
  | some o, some (lo, hi) =>
    notSelect o &&
    (match o.dst with | some d => Nat.blt d N && (List.range ops.size).all (fun j => j == i || ((ops[j]?).bind (·.dst)) != some d) | none => true) &&
    o.after.all (fun e => !Region.binds .any e || Nat.blt e.on i) &&
    (tmpsOf ops o).all (fun t => (List.range ops.size).all fun j => ((ops[j]?).bind (·.dst)) != some t || bound o j) &&
    (lo == 0 || (match E[lo - 1]? with | some e => bound o e | none => false)) &&
    (hi == E.length || (match E[hi]? with | some e => e == i || (match ops[e]? with | some x => bound x i | none => false) | none => false)) &&
    (match E.idxOf? i with | some k => lo == k && hi == k | none => true)
  | _, _ => false

def planOk (N : Nat) (ops : Array Oper) (E : List Nat) (pl : List (Nat × Nat)) : Bool :=
  (List.range ops.size).all (rowOk N ops E pl) && E.all (fun e => Nat.blt e ops.size) && E.zipIdx.all (fun x => E.idxOf? x.1 == some x.2)

/-- What one operation must be shown to do: a quiet one at each stage from lo to hi; the k-th effect from stage k to stage k + 1. -/
def DoesG (P : Program) (N : Nat) (ops : Array Oper) (F : Nat → Value) (o : Oper) (w : World) (v : Value) (w' : World) : Prop :=
  if Region.wanted o (yielded ops (Fr N F).tmps) then Does P o (Fr N F).eval w v w' else v = undef ∧ w' = w

def valOf (F : Nat → Value) (o : Oper) (v : Value) : Prop := match o.dst with | some d => F d = v | none => True

def RowDo (P : Program) (N : Nat) (ops : Array Oper) (E : List Nat) (F : Nat → Value) (st : Nat → World) (i : Nat) (o : Oper) (lh : Nat × Nat) : Prop :=
  match E.idxOf? i with
  | some k => ∃ v, DoesG P N ops F o (st k) v (st (k + 1)) ∧ valOf F o v
  | none => ∀ j, lh.1 ≤ j → j ≤ lh.2 → ∃ v, DoesG P N ops F o (st j) v (st j) ∧ valOf F o v

section
variable {P : Program} {N : Nat} {ops : Array Oper} {E : List Nat} {pl : List (Nat × Nat)} {σ F : Nat → Value} {st : Nat → World} {Q : Exit → Act → World → Prop}

structure Inv (N : Nat) (ops : Array Oper) (E : List Nat) (σ F : Nat → Value) (st : Nat → World) (listed : Array Bool) (a : Act) (w : World) : Prop where
  size : listed.size = ops.size
  closed : ∀ i o, ops[i]? = some o → listed.getD i false = true → ∀ x ∈ o.after, Region.binds .any x = true → listed.getD x.on false = true
  ex : ∃ (τ : Nat → Value) (j : Nat), a = Fr N τ ∧ w = st j ∧ j ≤ E.length ∧ (∀ k e, E[k]? = some e → (listed.getD e false = true ↔ k < j)) ∧
    (∀ s, s ∉ dstsOf ops → τ s = σ s) ∧ (∀ i o d, ops[i]? = some o → o.dst = some d → τ d = if listed.getD i false then F d else σ d)

theorem all_range {n : Nat} {p : Nat → Bool} (h : (List.range n).all p = true) (i : Nat) (hi : i < n) : p i = true :=
  List.all_eq_true.1 h i (List.mem_range.2 hi)

theorem getD_true_of {l : Array Bool} {i : Nat} (hs : i < l.size) (h : l.getD i true = false) : l.getD i false = false := by
  simp [hs] at h ⊢; exact h

theorem bound_listed {o : Oper} {e : Nat} {listed : Array Bool} (hb : bound o e = true) (h : ∀ x ∈ o.after, Region.binds .any x = true → listed.getD x.on false = true) : listed.getD e false = true := by
  unfold bound at hb
  rw [Array.any_eq_true] at hb
  obtain ⟨i, hi, hx⟩ := hb
  simp only [Bool.and_eq_true, beq_iff_eq] at hx
  have := h _ (Array.getElem_mem hi) hx.1
  rw [hx.2] at this
  exact this

theorem set_getD (l : Array Bool) (i k : Nat) (hi : i < l.size) : (l.setIfInBounds i true).getD k false = if k = i then true else l.getD k false := by
  simp only [Array.getD_eq_getD_getElem?]
  rw [Array.getElem?_setIfInBounds]
  by_cases h : i = k
  · subst h; simp [hi]
  · have h' : k ≠ i := fun e => h e.symm
    simp [h, h']

theorem wanted_same {o : Oper} {τ : Nat → Value} (h : ∀ t ∈ o.looksAt ops, τ t = F t) :
    Region.wanted o (yielded ops (Fr N τ).tmps) = Region.wanted o (yielded ops (Fr N F).tmps) := by
  unfold Region.wanted
  cases hg : o.guard with
  | none => rfl
  | some gw =>
    obtain ⟨g, want⟩ := gw
    have : yielded ops (Fr N τ).tmps g = yielded ops (Fr N F).tmps g := by
      unfold yielded
      cases ht : (ops[g]?).bind (·.dst) with
      | none => rfl
      | some t =>
        have hm : t ∈ o.looksAt ops := by simp [Oper.looksAt, hg, ht]
        have := h t hm
        by_cases hN : t < N
        · simp [Fr.get hN, this]
        · simp [Fr, hN]
    simp only [this]

theorem eval_same {o : Oper} {τ : Nat → Value} (hs : notSelect o = true) (h : ∀ t ∈ o.looksAt ops, τ t = F t) :
    execOp (Fr N τ).eval o = execOp (Fr N F).eval o := by
  refine execOp_congr o (fun cs b e => by simp [notSelect, e] at hs) fun x hx => ?_
  cases x with
  | tmp t =>
    have hm : t ∈ o.looksAt ops := List.mem_append_left _ (List.mem_filterMap.2 ⟨.tmp t, by simpa using hx, rfl⟩)
    have := h t hm
    by_cases hN : t < N
    · simp [Act.eval, Fr, hN, this]
    · simp [Act.eval, Fr, hN]
  | _ => rfl

theorem inv_step (hp : planOk N ops E pl = true) (hF : ∀ s, s ∉ dstsOf ops → F s = σ s)
    (hdo : ∀ i o lh, ops[i]? = some o → pl[i]? = some lh → RowDo P N ops E F st i o lh)
    {listed : Array Bool} {a : Act} {w : World} (hI : Inv N ops E σ F st listed a w) {i : Nat} (hi : i ∈ Region.ready .any ops listed) :
    wpOp P ops Q i (Inv N ops E σ F st (listed.setIfInBounds i true)) a w := by
  obtain ⟨hsz, hcl, τ, j, rfl, rfl, hjE, hE, hτ, hτd⟩ := hI
  rw [mem_ready] at hi
  obtain ⟨hli, o, ho, hedge⟩ := hi
  have hio : i < ops.size := (Array.getElem?_eq_some_iff.1 ho).1
  have hil : i < listed.size := by omega
  have hli' := getD_true_of hil hli
  unfold planOk at hp
  simp only [Bool.and_eq_true] at hp
  obtain ⟨⟨hrows, hEr⟩, hEidx⟩ := hp
  have hrow := all_range hrows i hio
  unfold rowOk at hrow
  rw [ho] at hrow
  cases hpl : pl[i]? with
  | none => simp [hpl] at hrow
  | some lh =>
    obtain ⟨lo, hh⟩ := lh
    simp only [hpl, Bool.and_eq_true] at hrow
    obtain ⟨⟨⟨⟨⟨⟨hsel, hdst⟩, haft⟩, htm⟩, hlo⟩, hhi⟩, hidx⟩ := hrow
    -- the operands hold their final values
    have hops : ∀ t ∈ o.looksAt ops, τ t = F t := by
      intro t ht
      have h1 := List.all_eq_true.1 htm t ht
      by_cases hm : t ∈ dstsOf ops
      · obtain ⟨x, hx, hxd⟩ := List.mem_filterMap.1 hm
        obtain ⟨k, hk, rfl⟩ := List.getElem_of_mem hx
        have hk' : k < ops.size := by simpa using hk
        have hok : ops[k]? = some ops[k] := Array.getElem?_eq_getElem hk'
        have h2 := all_range h1 k hk'
        simp only [Array.getElem_toList] at hxd
        simp only [hok, Option.bind_some, hxd, bne_self_eq_false, Bool.false_or] at h2
        have h3 := bound_listed h2 hedge
        have h4 := hτd k _ t hok hxd
        rw [h4, h3]; rfl
      · rw [hτ t hm, hF t hm]
    have hwant := wanted_same (N := N) hops
    have hexec := eval_same (N := N) hsel hops
    -- the stage
    have hjlo : lo ≤ j := by
      rcases Nat.eq_zero_or_pos lo with h0 | h0
      · omega
      · have hne : (lo == 0) = false := by simpa using (Nat.ne_of_gt h0)
        simp only [hne, Bool.false_or] at hlo
        cases he : E[lo - 1]? with
        | none => simp [he] at hlo
        | some e =>
          simp only [he] at hlo
          have := (hE (lo - 1) e he).1 (bound_listed hlo hedge)
          omega
    have hjhi : j ≤ hh := by
      by_cases h0 : hh = E.length
      · omega
      · have hne : (hh == E.length) = false := by simpa using h0
        simp only [hne, Bool.false_or] at hhi
        cases he : E[hh]? with
        | none => simp [he] at hhi
        | some e =>
          simp only [he, Bool.or_eq_true, beq_iff_eq] at hhi
          have hnl : ¬ listed.getD e false = true := by
            rcases hhi with rfl | hb
            · rw [hli']; simp
            · cases hx : ops[e]? with
              | none => simp [hx] at hb
              | some x =>
                simp only [hx] at hb
                intro hl
                have := bound_listed hb (hcl e x hx hl)
                rw [hli'] at this
                cases this
          have := mt (hE hh e he).2 hnl
          omega
    -- the operation, and the invariant behind it
    have hclosed : ∀ k x, ops[k]? = some x → (listed.setIfInBounds i true).getD k false = true → ∀ y ∈ x.after, Region.binds .any y = true → (listed.setIfInBounds i true).getD y.on false = true := by
      intro k x hx hk y hy hb
      rw [set_getD _ _ _ hil] at hk ⊢
      by_cases hyi : y.on = i
      · simp [hyi]
      · simp only [hyi, if_false]
        by_cases hki : k = i
        · subst hki
          rw [ho] at hx
          cases hx
          exact hedge y hy hb
        · simp only [hki, if_false] at hk
          exact hcl k x hx hk y hy hb
    have hnew : ∀ (v : Value) (j' : Nat), valOf F o v → (∀ k e, E[k]? = some e → ((listed.setIfInBounds i true).getD e false = true ↔ k < j')) → j' ≤ E.length →
        Inv N ops E σ F st (listed.setIfInBounds i true) ((Fr N τ).put o.dst v) (st j') := by
      intro v j' hv hj' hjl
      refine ⟨by simp [hsz], hclosed, ?_⟩
      cases hd : o.dst with
      | none =>
        refine ⟨τ, j', rfl, rfl, hjl, hj', hτ, ?_⟩
        intro k x d hx hxd
        have hki : k ≠ i := by rintro rfl; rw [ho] at hx; cases hx; rw [hd] at hxd; cases hxd
        rw [set_getD _ _ _ hil]
        simp only [hki, if_false]
        exact hτd k x d hx hxd
      | some d0 =>
        simp only [hd, Bool.and_eq_true] at hdst
        obtain ⟨hdN, hdu⟩ := hdst
        have hdN' : d0 < N := by simpa [Nat.blt_eq] using hdN
        have hv' : F d0 = v := by simpa [valOf, hd] using hv
        refine ⟨upd τ d0 v, j', Fr.put hdN', rfl, hjl, hj', ?_, ?_⟩
        · intro s hs
          have hne : s ≠ d0 := by
            rintro rfl
            exact hs (List.mem_filterMap.2 ⟨o, by rw [Array.mem_toList_iff]; exact Array.mem_of_getElem? ho, hd⟩)
          have : Nat.beq s d0 = false := by
            cases hb : Nat.beq s d0 with
            | false => rfl
            | true => exact absurd (Nat.eq_of_beq_eq_true hb) hne
          simp only [upd, this, cond_false]
          exact hτ s hs
        · intro k x d hx hxd
          rw [set_getD _ _ _ hil]
          by_cases hki : k = i
          · subst hki
            rw [ho] at hx
            cases hx
            rw [hd] at hxd
            cases hxd
            simp [upd, hv']
          · have hkN : k < ops.size := (Array.getElem?_eq_some_iff.1 hx).1
            have h1 := all_range hdu k hkN
            have hkb : (k == i) = false := by simpa using hki
            simp only [hkb, Bool.false_or, hx, Option.bind_some, hxd] at h1
            have hne : d ≠ d0 := by rintro rfl; simp at h1
            have : Nat.beq d d0 = false := by
              cases hb : Nat.beq d d0 with
              | false => rfl
              | true => exact absurd (Nat.eq_of_beq_eq_true hb) hne
            simp only [upd, this, cond_false, hki, if_false]
            exact hτd k x d hx hxd
    have hrd := hdo i o (lo, hh) ho hpl
    unfold RowDo at hrd
    have hfin : ∀ (v : Value) (w' : World), DoesG P N ops F o (st j) v w' → Inv N ops E σ F st (listed.setIfInBounds i true) ((Fr N τ).put o.dst v) w' →
        wpOp P ops Q i (Inv N ops E σ F st (listed.setIfInBounds i true)) (Fr N τ) (st j) := by
      intro v w' hd hinv
      unfold wpOp
      rw [ho]
      simp only []
      unfold DoesG at hd
      rw [hwant]
      split
      · rename_i hw
        rw [if_pos hw] at hd
        refine .inl (Does.wp (v := v) (w' := w') ?_ hinv)
        unfold Does at hd ⊢
        rw [hexec]
        exact hd
      · rename_i hw
        rw [if_neg hw] at hd
        obtain ⟨rfl, rfl⟩ := hd
        exact hinv
    cases hk : E.idxOf? i with
    | none =>
      rw [hk] at hrd
      simp only [] at hrd
      obtain ⟨v, hd, hv⟩ := hrd j hjlo hjhi
      refine hfin v (st j) hd (hnew v j hv ?_ hjE)
      intro k e he
      have hei : e ≠ i := by
        rintro rfl
        rw [List.idxOf?_eq_none_iff] at hk
        exact hk (List.mem_of_getElem? he)
      rw [set_getD _ _ _ hil]
      simp only [hei, if_false]
      exact hE k e he
    | some k =>
      rw [hk] at hrd
      simp only [] at hrd
      simp only [hk, Bool.and_eq_true, beq_iff_eq] at hidx
      obtain ⟨hlk, hhk⟩ := hidx
      have hjk : j = k := by omega
      subst hjk
      obtain ⟨v, hd, hv⟩ := hrd
      have hkE : E[j]? = some i := by
        have := (List.idxOf?_eq_some_iff.1 hk)
        obtain ⟨h1, h2, _⟩ := this
        rw [List.getElem?_eq_getElem h1]
        simpa using h2
      have hjlt : j < E.length := (List.getElem?_eq_some_iff.1 hkE).1
      refine hfin v (st (j + 1)) hd (hnew v (j + 1) hv ?_ hjlt)
      intro k e he
      rw [set_getD _ _ _ hil]
      have huniq : ∀ (a b : Nat), E[a]? = some b → E.idxOf? b = some a := by
        intro a b hab
        have := List.all_eq_true.1 hEidx (b, a) (List.mem_zipIdx_iff_getElem?.2 hab)
        simpa using this
      by_cases hei : e = i
      · subst hei
        have h1 := huniq k e he
        have h2 := huniq j e hkE
        rw [h1] at h2
        cases h2
        simp
      · simp only [hei, if_false]
        have hkj : k ≠ j := by rintro rfl; rw [hkE] at he; cases he; exact hei rfl
        rw [hE k e he]
        omega

theorem inv_end (hp : planOk N ops E pl = true) {listed : Array Bool} {a : Act} {w : World} (hF : ∀ s, s ∉ dstsOf ops → F s = σ s)
    (hI : Inv N ops E σ F st listed a w) (hr : Region.ready .any ops listed = []) : a = Fr N F ∧ w = st E.length := by
  obtain ⟨hsz, hcl, τ, j, rfl, rfl, hjE, hE, hτ, hτd⟩ := hI
  unfold planOk at hp
  simp only [Bool.and_eq_true] at hp
  obtain ⟨⟨hrows, hEr⟩, hEidx⟩ := hp
  have hall : ∀ n i, i ≤ n → i < ops.size → listed.getD i false = true := by
    intro n
    induction n with
    | zero =>
      intro i hi his
      have hi0 : i = 0 := by omega
      subst hi0
      cases hl : listed.getD 0 false with
      | true => rfl
      | false =>
        exfalso
        have ho : ops[0]? = some ops[0] := Array.getElem?_eq_getElem his
        have : 0 ∈ Region.ready .any ops listed := by
          rw [mem_ready]
          refine ⟨by have : 0 < listed.size := by omega
                     simp [this] at hl ⊢; exact hl, ops[0], ho, ?_⟩
          intro e he hb
          have hrow := all_range hrows 0 his
          unfold rowOk at hrow
          rw [ho] at hrow
          cases hpl : pl[0]? with
          | none => simp [hpl] at hrow
          | some lh =>
            simp only [hpl, Bool.and_eq_true] at hrow
            have h3 := hrow.1.1.1.1.2
            have := (Array.all_eq_true_iff_forall_mem.1 h3) e he
            simp [hb] at this
        rw [hr] at this
        cases this
    | succ n ih =>
      intro i hi his
      rcases Nat.lt_or_ge i (n + 1) with h | h
      · exact ih i (by omega) his
      · have hin : i = n + 1 := by omega
        subst hin
        cases hl : listed.getD (n + 1) false with
        | true => rfl
        | false =>
          exfalso
          have ho : ops[n + 1]? = some ops[n + 1] := Array.getElem?_eq_getElem his
          have : n + 1 ∈ Region.ready .any ops listed := by
            rw [mem_ready]
            refine ⟨by have : n + 1 < listed.size := by omega
                       simp [this] at hl ⊢; exact hl, ops[n + 1], ho, ?_⟩
            intro e he hb
            have hrow := all_range hrows (n + 1) his
            unfold rowOk at hrow
            rw [ho] at hrow
            cases hpl : pl[n + 1]? with
            | none => simp [hpl] at hrow
            | some lh =>
              simp only [hpl, Bool.and_eq_true] at hrow
              have h3 := hrow.1.1.1.1.2
              have := (Array.all_eq_true_iff_forall_mem.1 h3) e he
              simp only [hb, Bool.not_true, Bool.false_or] at this
              have hlt : e.on < n + 1 := by simpa [Nat.blt_eq] using this
              exact ih e.on (by omega) (by omega)
          rw [hr] at this
          cases this
  have hj : j = E.length := by
    rcases Nat.lt_or_ge j E.length with h | h
    · have he : E[j]? = some E[j] := List.getElem?_eq_getElem h
      have hes := List.all_eq_true.1 hEr _ (List.getElem_mem h)
      have := (hE j _ he).1 (hall _ _ (Nat.le_refl _) (by simpa [Nat.blt_eq] using hes))
      omega
    · omega
  refine ⟨Fr.ext fun s _ => ?_, by rw [hj]⟩
  by_cases hm : s ∈ dstsOf ops
  · obtain ⟨x, hx, hxd⟩ := List.mem_filterMap.1 hm
    obtain ⟨k, hk, rfl⟩ := List.getElem_of_mem hx
    have hk' : k < ops.size := by simpa using hk
    have hok : ops[k]? = some ops[k] := Array.getElem?_eq_getElem hk'
    simp only [Array.getElem_toList] at hxd
    rw [hτd k _ s hok hxd, hall _ _ (Nat.le_refl _) hk']
    rfl
  · rw [hτ s hm, hF s hm]

theorem wpAny_of_inv (hp : planOk N ops E pl = true) (hF : ∀ s, s ∉ dstsOf ops → F s = σ s)
    (hdo : ∀ i o lh, ops[i]? = some o → pl[i]? = some lh → RowDo P N ops E F st i o lh)
    (hk : Q .normal (Fr N F) (st E.length)) : ∀ (fuel : Nat) (listed : Array Bool) (a : Act) (w : World),
    (listed.toList.filter (· == false)).length ≤ fuel → Inv N ops E σ F st listed a w → wpAny P .any ops Q fuel listed a w := by
  intro fuel
  induction fuel with
  | zero =>
    intro listed a w hc hI
    have hr : Region.ready .any ops listed = [] := by
      cases hr : Region.ready .any ops listed with
      | nil => rfl
      | cons i l =>
        exfalso
        have hi : i ∈ Region.ready .any ops listed := by rw [hr]; exact List.mem_cons_self
        rw [mem_ready] at hi
        obtain ⟨hli, o, ho, _⟩ := hi
        have hio : i < listed.size := by have := (Array.getElem?_eq_some_iff.1 ho).1; have := hI.size; omega
        have hf : listed[i] = false := by simpa [hio] using hli
        have : listed[i] ∈ listed.toList.filter (· == false) := List.mem_filter.2 ⟨by simp, by simp [hf]⟩
        have := List.length_pos_of_mem this
        omega
    have := inv_end hp hF hI hr
    exact ⟨hr, by rw [this.1, this.2]; exact hk⟩
  | succ fuel ih =>
    intro listed a w hc hI
    refine ⟨fun hr => ?_, fun i hi => ?_⟩
    · have := inv_end hp hF hI hr
      rw [this.1, this.2]; exact hk
    · have hstep := inv_step (Q := Q) hp hF hdo hI hi
      refine wpOp_mono (fun a' w' h' => ih _ a' w' ?_ h') hstep
      rw [mem_ready] at hi
      obtain ⟨hli, o, ho, _⟩ := hi
      have hio : i < listed.size := by have := (Array.getElem?_eq_some_iff.1 ho).1; have := hI.size; omega
      have hf : listed[i] = false := by simpa [hio] using hli
      have hcount : ((listed.setIfInBounds i true).toList.filter (· == false)).length + 1 ≤ (listed.toList.filter (· == false)).length := by
        rw [Array.toList_setIfInBounds]
        have hi' : i < listed.toList.length := by simpa using hio
        have e1 : listed.toList = listed.toList.take i ++ listed.toList[i] :: listed.toList.drop (i + 1) := by
          rw [List.getElem_cons_drop, List.take_append_drop]
        have hfl : listed.toList[i] = false := by simpa using hf
        rw [List.set_eq_take_append_cons_drop, if_pos hi']
        conv => rhs; rw [e1]
        simp [List.filter_append, hfl]
        omega
      omega

theorem rep_false (n i : Nat) : (Array.replicate n false).getD i false = false := by
  simp only [Array.getD_eq_getD_getElem?, Array.getElem?_replicate]
  split <;> rfl

/-- THE RULE. -/
theorem draw_rule {id : Nat} {w : World} (hm : P.follows .mixedOrders = true) (E : List Nat) (pl : List (Nat × Nat)) (st : Nat → World) (F : Nat → Value)
    (hp : planOk N ops E pl = true) (h0 : st 0 = w.drew) (hF : ∀ s, s ∉ dstsOf ops → F s = σ s)
    (hdo : ∀ i o lh, ops[i]? = some o → pl[i]? = some lh → RowDo P N ops E F st i o lh)
    (hk : Q .normal (Fr N F) (st E.length)) : (Code.region id ops true).wp P Q (Fr N σ) w := by
  refine wp_region_any hm ?_
  show wpAny P .any ops Q ops.size (Array.replicate ops.size false) (Fr N σ) w.drew
  rw [← h0]
  refine wpAny_of_inv hp hF hdo hk _ _ _ _ (by simp) ⟨by simp, ?_, σ, 0, rfl, rfl, Nat.zero_le _, ?_, fun _ _ => rfl, ?_⟩
  · intro i o ho hl
    rw [rep_false] at hl
    cases hl
  · intro k e he
    rw [rep_false]
    simp
  · intro i o d ho hd
    rw [rep_false]
    simp
end

def ovr (σ : Nat → Value) (l : List (Nat × Value)) : Nat → Value := l.foldl (fun τ p => upd τ p.1 p.2) σ
theorem ovr_off : ∀ (l : List (Nat × Value)) (σ : Nat → Value) (s : Nat), s ∉ l.map (·.1) → ovr σ l s = σ s
  | [], _, _, _ => rfl
  | p :: l, σ, s, h => by
    simp only [List.map_cons, List.mem_cons, not_or] at h
    have h1 : Nat.beq s p.1 = false := by
      cases hb : Nat.beq s p.1 with
      | false => rfl
      | true => exact absurd (Nat.eq_of_beq_eq_true hb) h.1
    have := ovr_off l (upd σ p.1 p.2) s h.2
    show ovr (upd σ p.1 p.2) l s = σ s
    rw [this]
    simp [upd, h1]

/-! ### How the rule is fed -/
def AllDo (P : Program) (N : Nat) (ops : Array Oper) (E : List Nat) (F : Nat → Value) (st : Nat → World) : Nat → List Oper → List (Nat × Nat) → Prop
  | _, [], _ => True
  | i, o :: os, lh :: ls => RowDo P N ops E F st i o lh ∧ AllDo P N ops E F st (i + 1) os ls
  | _, _ :: _, [] => False

theorem allDo_at {P : Program} {N : Nat} {ops : Array Oper} {E : List Nat} {F : Nat → Value} {st : Nat → World} : ∀ (os : List Oper) (ls : List (Nat × Nat)) (k : Nat), AllDo P N ops E F st k os ls →
    ∀ i o lh, os[i]? = some o → ls[i]? = some lh → RowDo P N ops E F st (k + i) o lh
  | [], _, _, _, i, o, lh, h, _ => by simp at h
  | _ :: _, [], _, h, _, _, _, _, _ => h.elim
  | x :: os, y :: ls, k, h, i, o, lh, ho, hl => by
    cases i with
    | zero =>
      simp only [List.getElem?_cons_zero, Option.some.injEq] at ho hl
      subst ho; subst hl
      exact h.1
    | succ i =>
      simp only [List.getElem?_cons_succ] at ho hl
      have := allDo_at os ls (k + 1) h.2 i o lh ho hl
      rwa [show k + 1 + i = k + (i + 1) by omega] at this

/-- Stages: the world ahead of the first effect, then the worlds behind each. -/
def stg (w : World) (l : List World) : Nat → World
  | 0 => w
  | j + 1 => l.getD j w

theorem draw {P : Program} {N : Nat} {σ : Nat → Value} {Q : Exit → Act → World → Prop} {id : Nat} {w : World} {l : List Oper} (hm : P.follows .mixedOrders = true) (E : List Nat) (pl : List (Nat × Nat)) (ws : List World) (wf : World) (F : Nat → Value)
    (hp : planOk N l.toArray E pl = true) (hF : ∀ s, s ∉ dstsOf l.toArray → F s = σ s)
    (hdo : AllDo P N l.toArray E F (stg w.drew ws) 0 l pl) (hfin : stg w.drew ws E.length = wf) (hk : ∀ τ, τ = F → Q .normal (Fr N τ) wf) : (Code.region id l.toArray true).wp P Q (Fr N σ) w := by
  refine draw_rule hm E pl (stg w.drew ws) F hp rfl hF ?_ (by rw [hfin]; exact hk F rfl)
  intro i o lh ho hl
  have := allDo_at l pl 0 hdo i o lh (by simpa using ho) hl
  rwa [Nat.zero_add] at this

section
variable {P : Program} {N : Nat} {ops : Array Oper} {E : List Nat} {F : Nat → Value} {st : Nat → World} {i d k lo hi : Nat} {op : Op} {ty : TypeId} {pos : String} {aft : Array Edge} {v : Value}

theorem doesG_plain {o : Oper} {w w' : World} (hg : o.guard = none) (h : Does P o (Fr N F).eval w v w') : DoesG P N ops F o w v w' := by
  unfold DoesG
  rw [if_pos (by simp [Region.wanted, hg])]
  exact h

/-- A quiet operation that looks at no memory. -/
theorem qa (hi_ : E.idxOf? i = none) (h : ∀ w, Does P ⟨some d, op, ty, pos, aft, none⟩ (Fr N F).eval w v w) (hv : F d = v) : RowDo P N ops E F st i ⟨some d, op, ty, pos, aft, none⟩ (lo, hi) := by
  unfold RowDo
  rw [hi_]
  exact fun j _ _ => ⟨v, doesG_plain rfl (h _), hv⟩
/-- A quiet operation at one stage. -/
theorem qk (hi_ : E.idxOf? i = none) (h : Does P ⟨some d, op, ty, pos, aft, none⟩ (Fr N F).eval (st k) v (st k)) (hv : F d = v) : RowDo P N ops E F st i ⟨some d, op, ty, pos, aft, none⟩ (k, k) := by
  unfold RowDo
  rw [hi_]
  intro j h1 h2
  obtain rfl : j = k := Nat.le_antisymm h2 h1
  exact ⟨v, doesG_plain rfl h, hv⟩
/-- A quiet operation at several stages. -/
theorem qr (hi_ : E.idxOf? i = none) (h : ∀ j, lo ≤ j → j ≤ hi → Does P ⟨some d, op, ty, pos, aft, none⟩ (Fr N F).eval (st j) v (st j)) (hv : F d = v) : RowDo P N ops E F st i ⟨some d, op, ty, pos, aft, none⟩ (lo, hi) := by
  unfold RowDo
  rw [hi_]
  exact fun j h1 h2 => ⟨v, doesG_plain rfl (h j h1 h2), hv⟩
/-- An effect. -/
theorem ef (hi_ : E.idxOf? i = some k) (h : Does P ⟨some d, op, ty, pos, aft, none⟩ (Fr N F).eval (st k) v (st (k + 1))) (hv : F d = v) : RowDo P N ops E F st i ⟨some d, op, ty, pos, aft, none⟩ (k, k) := by
  unfold RowDo
  rw [hi_]
  exact ⟨v, doesG_plain rfl h, hv⟩
theorem en (hi_ : E.idxOf? i = some k) (h : Does P ⟨none, op, ty, pos, aft, none⟩ (Fr N F).eval (st k) v (st (k + 1))) : RowDo P N ops E F st i ⟨none, op, ty, pos, aft, none⟩ (k, k) := by
  unfold RowDo
  rw [hi_]
  exact ⟨v, doesG_plain rfl h, trivial⟩
/-- A guarded quiet operation that is carried out. -/
theorem qg {l : List Oper} {j g : Nat} {want : Bool} (hi_ : E.idxOf? i = none) (hj : (l[j]?).bind (·.dst) = some g) (hg : Nat.blt g N = true) (hgv : F g = .bool want)
    (h : ∀ s, lo ≤ s → s ≤ hi → Does P ⟨some d, op, ty, pos, aft, some (j, want)⟩ (Fr N F).eval (st s) v (st s)) (hv : F d = v) : RowDo P N l.toArray E F st i ⟨some d, op, ty, pos, aft, some (j, want)⟩ (lo, hi) := by
  unfold RowDo
  rw [hi_]
  intro s h1 h2
  refine ⟨v, ?_, hv⟩
  unfold DoesG
  have hgN : g < N := by simpa [Nat.blt_eq] using hg
  rw [if_pos (by simp [Region.wanted, yielded, List.getElem?_toArray, hj, Fr.get hgN, hgv])]
  exact h s h1 h2
theorem qgk {l : List Oper} {j g : Nat} {want : Bool} (hi_ : E.idxOf? i = none) (hj : (l[j]?).bind (·.dst) = some g) (hg : Nat.blt g N = true) (hgv : F g = .bool want)
    (h : Does P ⟨some d, op, ty, pos, aft, some (j, want)⟩ (Fr N F).eval (st k) v (st k)) (hv : F d = v) : RowDo P N l.toArray E F st i ⟨some d, op, ty, pos, aft, some (j, want)⟩ (k, k) :=
  qg hi_ hj hg hgv (fun s h1 h2 => by obtain rfl : s = k := Nat.le_antisymm h2 h1
                                      exact h) hv
/-- A guarded quiet operation that is left out. -/
theorem qs {l : List Oper} {j g : Nat} {want b : Bool} (hi_ : E.idxOf? i = none) (hj : (l[j]?).bind (·.dst) = some g) (hg : Nat.blt g N = true) (hgv : F g = .bool b) (hb : (b == want) = false)
    (hv : F d = undef) : RowDo P N l.toArray E F st i ⟨some d, op, ty, pos, aft, some (j, want)⟩ (lo, hi) := by
  unfold RowDo
  rw [hi_]
  intro s h1 h2
  refine ⟨undef, ?_, hv⟩
  unfold DoesG
  have hgN : g < N := by simpa [Nat.blt_eq] using hg
  have hb' : ¬ b = want := by simpa using hb
  rw [if_neg (by simp [Region.wanted, yielded, List.getElem?_toArray, hj, Fr.get hgN, hgv, hb'])]
  exact ⟨rfl, rfl⟩
end
end Go.Fra
