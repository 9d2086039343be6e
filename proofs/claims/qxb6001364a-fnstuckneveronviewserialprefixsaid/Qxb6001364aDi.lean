/-
  A REGION THAT DRAWS ITS ORDER, BY AN INVARIANT: for a region whose effects stand in no order.
-/
import Derived.Test.Qxb6001364aDr
namespace Go.Fra
def plainRow (N : Nat) (ops : Array Oper) (i : Nat) : Bool :=
  match ops[i]? with
  | some o => (match o.dst with | some d => Nat.blt d N | none => false) && o.guard.isNone && o.after.all (fun e => !Region.binds .any e || Nat.blt e.on i)
  | none => false
def plainOk (N : Nat) (ops : Array Oper) : Bool := (List.range ops.size).all (plainRow N ops)

structure InvI (N : Nat) (ops : Array Oper) (I : (Nat → Bool) → (Nat → Value) → World → Prop) (listed : Array Bool) (a : Act) (w : World) : Prop where
  size : listed.size = ops.size
  ex : ∃ τ, a = Fr N τ ∧ I (fun j => listed.getD j false) τ w

theorem invI_step {P : Program} {N : Nat} {ops : Array Oper} {I : (Nat → Bool) → (Nat → Value) → World → Prop} {Q : Exit → Act → World → Prop} (hp : plainOk N ops = true) (hstep : ∀ (i : Nat) (L : Nat → Bool) (τ : Nat → Value) (w : World) (o : Oper) (d : Nat), ops[i]? = some o → o.dst = some d → L i = false → I L τ w → (∀ e ∈ o.after, Region.binds .any e = true → L e.on = true) →
    ∃ v w', Does P o (Fr N τ).eval w v w' ∧ I (fun j => cond (Nat.beq j i) true (L j)) (upd τ d v) w') {listed : Array Bool} {a : Act} {w : World} (hI : InvI N ops I listed a w) {i : Nat} (hi : i ∈ Region.ready .any ops listed) :
    wpOp P ops Q i (InvI N ops I (listed.setIfInBounds i true)) a w := by
  obtain ⟨hsz, τ, rfl, hI⟩ := hI
  rw [mem_ready] at hi
  obtain ⟨hli, o, ho, hedge⟩ := hi
  have hio : i < ops.size := (Array.getElem?_eq_some_iff.1 ho).1
  have hil : i < listed.size := by omega
  have hrow := all_range hp i hio
  unfold plainRow at hrow
  rw [ho] at hrow
  simp only [Bool.and_eq_true] at hrow
  obtain ⟨⟨hd, hg⟩, _⟩ := hrow
  cases hdst : o.dst with
  | none => simp [hdst] at hd
  | some d =>
    simp only [hdst] at hd
    obtain ⟨v, w', hdo, hI'⟩ := hstep i _ τ w o d ho hdst (getD_true_of hil hli) hI hedge
    unfold wpOp
    rw [ho]
    simp only []
    have hg' : o.guard = none := by simpa using hg
    rw [if_pos (by simp [Region.wanted, hg'])]
    refine .inl (Does.wp hdo ⟨by simp [hsz], upd τ d v, ?_, ?_⟩)
    · rw [hdst]; exact Fr.put (by simpa [Nat.blt_eq] using hd)
    · have e : (fun j => (listed.setIfInBounds i true).getD j false) = fun j => cond (Nat.beq j i) true (listed.getD j false) := by
        funext j
        rw [set_getD _ _ _ hil]
        by_cases hj : j = i
        · subst hj; simp
        · have : Nat.beq j i = false := by
            cases hb : Nat.beq j i with
            | false => rfl
            | true => exact absurd (Nat.eq_of_beq_eq_true hb) hj
          simp [hj, this]
      rw [e]; exact hI'
theorem invI_all {N : Nat} {ops : Array Oper} (hp : plainOk N ops = true) {listed : Array Bool} (hsz : listed.size = ops.size) (hr : Region.ready .any ops listed = []) : ∀ n i, i ≤ n → i < ops.size → listed.getD i false = true := by
  intro n
  induction n with
  | zero =>
    intro i hi his
    have hi0 : i = 0 := by omega
    subst hi0
    cases hl : listed.getD 0 false with
    | true => rfl
    | false =>
      exfalso
      have ho : ops[0]? = some ops[0] := Array.getElem?_eq_getElem his
      have : 0 ∈ Region.ready .any ops listed := by
        rw [mem_ready]
        refine ⟨by have : 0 < listed.size := by omega
                   simp [this] at hl ⊢; exact hl, ops[0], ho, ?_⟩
        intro e he hb
        have hrow := all_range hp 0 his
        unfold plainRow at hrow
        rw [ho] at hrow
        simp only [Bool.and_eq_true] at hrow
        have := (Array.all_eq_true_iff_forall_mem.1 hrow.2) e he
        simp [hb] at this
      rw [hr] at this
      cases this
  | succ n ih =>
    intro i hi his
    rcases Nat.lt_or_ge i (n + 1) with h | h
    · exact ih i (by omega) his
    · have hin : i = n + 1 := by omega
      subst hin
      cases hl : listed.getD (n + 1) false with
      | true => rfl
      | false =>
        exfalso
        have ho : ops[n + 1]? = some ops[n + 1] := Array.getElem?_eq_getElem his
        have : n + 1 ∈ Region.ready .any ops listed := by
          rw [mem_ready]
          refine ⟨by have : n + 1 < listed.size := by omega
                     simp [this] at hl ⊢; exact hl, ops[n + 1], ho, ?_⟩
          intro e he hb
          have hrow := all_range hp (n + 1) his
          unfold plainRow at hrow
          rw [ho] at hrow
          simp only [Bool.and_eq_true] at hrow
          have := (Array.all_eq_true_iff_forall_mem.1 hrow.2) e he
          simp only [hb, Bool.not_true, Bool.false_or] at this
          have hlt : e.on < n + 1 := by simpa [Nat.blt_eq] using this
          exact ih e.on (by omega) (by omega)
        rw [hr] at this
        cases this
theorem wpAny_of_invI {P : Program} {N : Nat} {ops : Array Oper} {I : (Nat → Bool) → (Nat → Value) → World → Prop} {Q : Exit → Act → World → Prop} (hp : plainOk N ops = true) (hstep : ∀ (i : Nat) (L : Nat → Bool) (τ : Nat → Value) (w : World) (o : Oper) (d : Nat), ops[i]? = some o → o.dst = some d → L i = false → I L τ w → (∀ e ∈ o.after, Region.binds .any e = true → L e.on = true) →
    ∃ v w', Does P o (Fr N τ).eval w v w' ∧ I (fun j => cond (Nat.beq j i) true (L j)) (upd τ d v) w') (hend : ∀ (L : Nat → Bool) (τ : Nat → Value) (w : World), (∀ i, i < ops.size → L i = true) → I L τ w → Q .normal (Fr N τ) w) : ∀ (fuel : Nat) (listed : Array Bool) (a : Act) (w : World),
    (listed.toList.filter (· == false)).length ≤ fuel → InvI N ops I listed a w → wpAny P .any ops Q fuel listed a w := by
  intro fuel
  induction fuel with
  | zero =>
    intro listed a w hc hI
    have hr : Region.ready .any ops listed = [] := by
      cases hr : Region.ready .any ops listed with
      | nil => rfl
      | cons i l =>
        exfalso
        have hi : i ∈ Region.ready .any ops listed := by rw [hr]; exact List.mem_cons_self
        rw [mem_ready] at hi
        obtain ⟨hli, o, ho, _⟩ := hi
        have hio : i < listed.size := by have := (Array.getElem?_eq_some_iff.1 ho).1; have := hI.size; omega
        have hf : listed[i] = false := by simpa [hio] using hli
        have : listed[i] ∈ listed.toList.filter (· == false) := List.mem_filter.2 ⟨by simp, by simp [hf]⟩
        have := List.length_pos_of_mem this
        omega
    obtain ⟨hsz, τ, rfl, hI⟩ := hI
    exact ⟨hr, hend _ τ w (fun i hi => invI_all hp hsz hr i i (Nat.le_refl _) hi) hI⟩
  | succ fuel ih =>
    intro listed a w hc hI
    refine ⟨fun hr => ?_, fun i hi => ?_⟩
    · obtain ⟨hsz, τ, rfl, hI⟩ := hI
      exact hend _ τ w (fun i hi => invI_all hp hsz hr i i (Nat.le_refl _) hi) hI
    · have hst := invI_step (Q := Q) hp hstep hI hi
      refine wpOp_mono (fun a' w' h' => ih _ a' w' ?_ h') hst
      rw [mem_ready] at hi
      obtain ⟨hli, o, ho, _⟩ := hi
      have hio : i < listed.size := by have := (Array.getElem?_eq_some_iff.1 ho).1; have := hI.size; omega
      have hf : listed[i] = false := by simpa [hio] using hli
      have hcount : ((listed.setIfInBounds i true).toList.filter (· == false)).length + 1 ≤ (listed.toList.filter (· == false)).length := by
        rw [Array.toList_setIfInBounds]
        have hi' : i < listed.toList.length := by simpa using hio
        have e1 : listed.toList = listed.toList.take i ++ listed.toList[i] :: listed.toList.drop (i + 1) := by
          rw [List.getElem_cons_drop, List.take_append_drop]
        have hfl : listed.toList[i] = false := by simpa using hf
        rw [List.set_eq_take_append_cons_drop, if_pos hi']
        conv => rhs; rw [e1]
        simp [List.filter_append, hfl]
        omega
      omega
/-- THE RULE. -/
theorem drawI {P : Program} {N : Nat} {σ : Nat → Value} {Q : Exit → Act → World → Prop} {id : Nat} {w : World} {l : List Oper} (hm : P.follows .mixedOrders = true) (I : (Nat → Bool) → (Nat → Value) → World → Prop)
    (hp : plainOk N l.toArray = true) (h0 : I (fun _ => false) σ w.drew)
    (hstep : ∀ (i : Nat) (L : Nat → Bool) (τ : Nat → Value) (w : World) (o : Oper) (d : Nat), l.toArray[i]? = some o → o.dst = some d → L i = false → I L τ w → (∀ e ∈ o.after, Region.binds .any e = true → L e.on = true) →
      ∃ v w', Does P o (Fr N τ).eval w v w' ∧ I (fun j => cond (Nat.beq j i) true (L j)) (upd τ d v) w')
    (hend : ∀ (L : Nat → Bool) (τ : Nat → Value) (w : World), (∀ i, i < l.toArray.size → L i = true) → I L τ w → Q .normal (Fr N τ) w) : (Code.region id l.toArray true).wp P Q (Fr N σ) w := by
  refine wp_region_any hm ?_
  show wpAny P .any l.toArray Q l.toArray.size (Array.replicate l.toArray.size false) (Fr N σ) w.drew
  refine wpAny_of_invI hp hstep hend _ _ _ _ (by simp) ⟨by simp, σ, rfl, ?_⟩
  have e : (fun j => (Array.replicate l.toArray.size false).getD j false) = fun _ => false := funext fun j => rep_false _ j
  rw [e]; exact h0
end Go.Fra
