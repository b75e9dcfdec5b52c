/-
  A region that draws its order, by facts: each operation leaves a value of which a fact holds that no other operation turns; whatever order is drawn, behind the region all facts hold.
-/
import Derived.Orders
import Derived.OrdersHeld
import Derived.Deep.RegionHeld3
namespace Go.Proofs.Ytchmljpcimjpkaa

/-- Each operation waits for earlier ones alone. -/
def dagB (ops : Array Oper) : Bool := (List.range ops.size).all fun j => match ops[j]? with
  | some o => o.after.all fun e => decide (e.on < j)
  | none => true
/-- No two operations write one slot; each slot lies in the frame. -/
def dstB (ops : Array Oper) (n : Nat) : Bool := (List.range ops.size).all fun i => match (ops[i]?).bind (·.dst) with
  | some t => decide (t < n) && (List.range ops.size).all fun j => i == j || (ops[j]?).bind (·.dst) != some t
  | none => true
def wroteB (ops : Array Oper) (t : Nat) : Bool := ops.toList.any fun o => o.dst == some t

theorem dag_spec {ops : Array Oper} (h : dagB ops = true) {j : Nat} {o : Oper} (ho : ops[j]? = some o) {e : Edge} (he : e ∈ o.after) : e.on < j := by
  have hj : j < ops.size := (Array.getElem?_eq_some_iff.1 ho).1
  have := List.all_eq_true.1 h j (by simpa using hj)
  rw [ho] at this
  simp only [Array.all_eq_true'] at this
  simpa using this e he
theorem dst_spec {ops : Array Oper} {n : Nat} (h : dstB ops n = true) {i : Nat} {o : Oper} {t : Nat} (ho : ops[i]? = some o) (ht : o.dst = some t) :
    t < n ∧ ∀ j oj, ops[j]? = some oj → oj.dst = some t → i = j := by
  have hi : i < ops.size := (Array.getElem?_eq_some_iff.1 ho).1
  have := List.all_eq_true.1 h i (by simpa using hi)
  rw [ho] at this
  simp only [Option.bind_some, ht, Bool.and_eq_true, decide_eq_true_eq] at this
  refine ⟨this.1, fun j oj hoj htj => ?_⟩
  have hj : j < ops.size := (Array.getElem?_eq_some_iff.1 hoj).1
  have h2 := List.all_eq_true.1 this.2 j (by simpa using hj)
  rw [hoj] at h2
  simp only [Option.bind_some, htj, bne_self_eq_false, Bool.or_false, beq_iff_eq] at h2
  exact h2

section
variable {P : Program} {ops : Array Oper} {Q : Exit → Act → World → Prop} {a0 : Act} {F : Nat → Value → World → Prop} {S : World → Prop}

structure RInv (ops : Array Oper) (a0 : Act) (F : Nat → Value → World → Prop) (S : World → Prop) (listed : Array Bool) (a : Act) (w : World) : Prop where
  size : listed.size = ops.size
  s : S w
  defers : a.defers = a0.defers
  len : a.tmps.size = a0.tmps.size
  old : ∀ t, wroteB ops t = false → a.tmps.getD t undef = a0.tmps.getD t undef
  facts : ∀ j o t, ops[j]? = some o → listed.getD j false = true → o.dst = some t → F t (a.tmps.getD t undef) w

theorem ready_nil (hdag : dagB ops = true) {listed : Array Bool} (hs : listed.size = ops.size) (h : Region.ready .any ops listed = []) : ∀ j, j < ops.size → listed.getD j false = true := by
  intro j
  induction j using Nat.strongRecOn with
  | ind j ih =>
    intro hj
    have hl : j < listed.size := by omega
    cases hb : listed.getD j false with
    | true => rfl
    | false =>
      exfalso
      have : j ∈ Region.ready .any ops listed := mem_ready.2 ⟨by
        simp only [Array.getD, hl, dif_pos] at hb ⊢
        exact hb, ops[j], Array.getElem?_eq_getElem hj, fun e he _ => ih e.on (dag_spec hdag (Array.getElem?_eq_getElem hj) he) (by have := dag_spec hdag (Array.getElem?_eq_getElem hj) he; omega)⟩
      rw [h] at this
      cases this

theorem put_same {a : Act} {t : Nat} (v : Value) (ht : t < a.tmps.size) : (a.put (some t) v).tmps.getD t undef = v := by
  simp [Act.put, Array.getD, ht]
theorem put_other {a : Act} {d : Option Nat} {t : Nat} (v : Value) (ht : d ≠ some t) : (a.put d v).tmps.getD t undef = a.tmps.getD t undef := by
  cases d with
  | none => rfl
  | some s =>
    have hne : s ≠ t := fun e => ht (by rw [e])
    simp only [Act.put, Array.getD_eq_getD_getElem?, Array.getElem?_setIfInBounds_ne hne]

theorem RInv.next (hdst : dstB ops a0.tmps.size = true) {listed : Array Bool} {a : Act} {w w' : World} {R : World → World → Prop} (hst : ∀ t v w w', S w → R w w' → F t v w → F t v w')
    (h : RInv ops a0 F S listed a w) {i : Nat} {o : Oper} (ho : ops[i]? = some o) (v : Value) (hS : S w') (hR : R w w') (hF : ∀ t, o.dst = some t → F t v w') :
    RInv ops a0 F S (listed.setIfInBounds i true) (a.put o.dst v) w' := by
  refine ⟨by rw [Array.size_setIfInBounds]; exact h.size, hS, ?_, ?_, ?_, ?_⟩
  · rw [← h.defers]; cases o.dst <;> rfl
  · rw [← h.len]; cases o.dst <;> simp [Act.put]
  · intro t ht
    rw [put_other v (fun e => ?_)]
    · exact h.old t ht
    · have hmem : o ∈ ops.toList := by
        obtain ⟨hlt, he⟩ := Array.getElem?_eq_some_iff.1 ho
        exact Array.mem_toList_iff.2 (he ▸ Array.getElem_mem hlt)
      have : wroteB ops t = true := List.any_eq_true.2 ⟨o, hmem, by rw [e]; exact beq_self_eq_true _⟩
      rw [ht] at this
      cases this
  · intro j oj t hoj hl ht
    by_cases hij : i = j
    · subst hij
      rw [ho] at hoj
      injection hoj with hoj
      subst hoj
      have hb := (dst_spec hdst ho ht).1
      rw [ht, put_same v (by rw [h.len]; exact hb)]
      exact hF t ht
    · rw [put_other v (fun e => hij ((dst_spec hdst ho e).2 j oj hoj ht))]
      refine hst _ _ _ _ h.s hR (h.facts j oj t hoj ?_ ht)
      rwa [Array.getD_eq_getD_getElem?, Array.getElem?_setIfInBounds_ne hij, ← Array.getD_eq_getD_getElem?] at hl

theorem wpAny_facts (hdag : dagB ops = true) (hdst : dstB ops a0.tmps.size = true) (R : World → World → Prop) (hst : ∀ t v w w', S w → R w w' → F t v w → F t v w')
    (step : ∀ (i : Nat) (o : Oper) (a : Act) (w : World), ops[i]? = some o → S w → a.defers = a0.defers → a.tmps.size = a0.tmps.size → (∀ t, wroteB ops t = false → a.tmps.getD t undef = a0.tmps.getD t undef) →
      (∀ (j : Nat) (oj : Oper) (t : Nat), (o.after.toList.any fun e => Region.binds .any e && e.on == j) = true → ops[j]? = some oj → oj.dst = some t → F t (a.tmps.getD t undef) w) →
      Region.wanted o (yielded ops a.tmps) = true ∧ ∀ K : Act → World → Prop, (∀ v w', S w' → R w w' → (∀ t, o.dst = some t → F t v w') → K (a.put o.dst v) w') → o.wp P a w K Q)
    (fin : ∀ a w, S w → a.defers = a0.defers → a.tmps.size = a0.tmps.size → (∀ t, wroteB ops t = false → a.tmps.getD t undef = a0.tmps.getD t undef) →
      (∀ (j : Nat) (o : Oper) (t : Nat), ops[j]? = some o → o.dst = some t → F t (a.tmps.getD t undef) w) → Q .normal a w) :
    ∀ (fuel : Nat) (listed : Array Bool) (a : Act) (w : World), ((List.range ops.size).filter fun j => !listed.getD j true).length ≤ fuel → RInv ops a0 F S listed a w → wpAny P .any ops Q fuel listed a w := by
  have ends : ∀ (listed : Array Bool) (a : Act) (w : World), RInv ops a0 F S listed a w → Region.ready .any ops listed = [] → Q .normal a w := fun listed a w h hr =>
    fin a w h.s h.defers h.len h.old fun j o t ho ht => h.facts j o t ho (ready_nil hdag h.size hr j (Array.getElem?_eq_some_iff.1 ho).1) ht
  intro fuel
  induction fuel with
  | zero =>
    intro listed a w hf h
    have hr : Region.ready .any ops listed = [] := by
      cases hr : Region.ready .any ops listed with
      | nil => rfl
      | cons i is =>
        exfalso
        have hi : i ∈ Region.ready .any ops listed := by rw [hr]; exact List.mem_cons_self
        obtain ⟨hu, oi, hoi, _⟩ := mem_ready.1 hi
        have : i ∈ (List.range ops.size).filter fun j => !listed.getD j true := List.mem_filter.2 ⟨by simpa using (Array.getElem?_eq_some_iff.1 hoi).1, by rw [hu]; rfl⟩
        rw [List.eq_nil_of_length_eq_zero (Nat.le_zero.1 hf)] at this
        cases this
    exact ⟨hr, ends _ _ _ h hr⟩
  | succ fuel ih =>
    intro listed a w hf h
    refine ⟨ends _ _ _ h, fun i hi => ?_⟩
    obtain ⟨hu, o, ho, hall⟩ := mem_ready.1 hi
    obtain ⟨hw, hwp⟩ := step i o a w ho h.s h.defers h.len h.old (fun j oj t ha hoj ht => by
      obtain ⟨e, he, hb⟩ := List.any_eq_true.1 ha
      simp only [Bool.and_eq_true, beq_iff_eq] at hb
      obtain ⟨hb, rfl⟩ := hb
      exact h.facts _ oj t hoj (hall e (Array.mem_toList_iff.1 he) hb) ht)
    unfold wpOp
    rw [ho]
    simp only [hw, if_true]
    refine .inl (hwp _ fun v w' hS hR hF => ih _ _ _ ?_ (h.next hdst hst ho v hS hR hF))
    have hlt : i < listed.size := by rw [h.size]; exact (Array.getElem?_eq_some_iff.1 ho).1
    have hfl : ((List.range ops.size).filter fun j => !(listed.setIfInBounds i true).getD j true) = ((List.range ops.size).filter fun j => !listed.getD j true).filter fun j => j != i := by
      rw [List.filter_filter]
      refine List.filter_congr fun j _ => ?_
      by_cases hji : j = i
      · subst hji
        simp [Array.getD_eq_getD_getElem?, hlt]
      · have : i ≠ j := fun e => hji e.symm
        rw [Array.getD_eq_getD_getElem?, Array.getElem?_setIfInBounds_ne this, ← Array.getD_eq_getD_getElem?]
        simp [hji]
    rw [hfl]
    have : (((List.range ops.size).filter fun j => !listed.getD j true).filter fun j => j != i).length < ((List.range ops.size).filter fun j => !listed.getD j true).length :=
      List.length_filter_lt_length_iff_exists.2 ⟨i, List.mem_filter.2 ⟨by simpa using (Array.getElem?_eq_some_iff.1 ho).1, by rw [hu]; rfl⟩, by simp⟩
    omega

theorem wp_region_facts {id : Nat} {w0 : World} (hm : P.follows .mixedOrders = true) (hdag : dagB ops = true) (hdst : dstB ops a0.tmps.size = true) (R : World → World → Prop) (hS : S w0.drew)
    (hst : ∀ t v w w', S w → R w w' → F t v w → F t v w')
    (step : ∀ (i : Nat) (o : Oper) (a : Act) (w : World), ops[i]? = some o → S w → a.defers = a0.defers → a.tmps.size = a0.tmps.size → (∀ t, wroteB ops t = false → a.tmps.getD t undef = a0.tmps.getD t undef) →
      (∀ (j : Nat) (oj : Oper) (t : Nat), (o.after.toList.any fun e => Region.binds .any e && e.on == j) = true → ops[j]? = some oj → oj.dst = some t → F t (a.tmps.getD t undef) w) →
      Region.wanted o (yielded ops a.tmps) = true ∧ ∀ K : Act → World → Prop, (∀ v w', S w' → R w w' → (∀ t, o.dst = some t → F t v w') → K (a.put o.dst v) w') → o.wp P a w K Q)
    (fin : ∀ a w, S w → a.defers = a0.defers → a.tmps.size = a0.tmps.size → (∀ t, wroteB ops t = false → a.tmps.getD t undef = a0.tmps.getD t undef) →
      (∀ (j : Nat) (o : Oper) (t : Nat), ops[j]? = some o → o.dst = some t → F t (a.tmps.getD t undef) w) → Q .normal a w) : (Code.region id ops true).wp P Q a0 w0 := by
  refine wp_region_any hm (wpAny_facts hdag hdst R hst step fin ops.size _ _ _ ?_ ⟨by simp, hS, rfl, rfl, fun _ _ => rfl, fun j o t ho hl _ => ?_⟩)
  · exact Nat.le_trans (List.length_filter_le _ _) (by simp)
  · have hj := (Array.getElem?_eq_some_iff.1 ho).1
    simp [Array.getD, hj] at hl
end
end Go.Proofs.Ytchmljpcimjpkaa
