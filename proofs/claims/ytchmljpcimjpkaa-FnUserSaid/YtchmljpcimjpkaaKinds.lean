/-
  The kinds of operations of a region that draws its order, each at its own step (words for the last walk).
-/
import Derived.Test.YtchmljpcimjpkaaFacts
import Derived.Test.YtchmljpcimjpkaaMakes
namespace Go.Proofs.Ytchmljpcimjpkaa
open Go.RowKit

section
variable {o : Oper} {a : Act} {w : World} {K : Act → World → Prop} {Q : Exit → Act → World → Prop}
theorem kind_move {x : Operand} (ho : o.op = .move x) (h : K (a.put o.dst (a.eval x)) w) : o.wp Try.prog a w K Q := by
  unfold Oper.wp execOp
  simp only [ho, Sem.run_pure]
  exact h
theorem kind_pick {c x y : Operand} {b : Bool} (ho : o.op = .pick c x y) (hc : a.eval c = .bool b) (h : K (a.put o.dst (if b then a.eval x else a.eval y)) w) : o.wp Try.prog a w K Q := by
  unfold Oper.wp execOp
  simp only [ho, hc]
  cases b <;> simpa [asBool, Sem.run_pure, Oper.upon] using h
theorem kind_text {x : Operand} {s : ByteArray} (ho : o.op = .convert 22 9 x) (hc : (convert 22 9 (a.eval x)).run Try.prog w = .ok (.string s) w) (h : K (a.put o.dst (.string s)) w) : o.wp Try.prog a w K Q := by
  unfold Oper.wp execOp
  simp only [ho, Sem.run_bind, hc, Result.andThen_ok, Sem.run_pure]
  exact h
theorem kind_neq {x y : Operand} {s : ByteArray} {t : TypeId} (ho : o.op = .binOp .neq 9 x y t) (hx : a.eval x = .string s) (hy : a.eval y = .string s) (h : K (a.put o.dst (.bool false)) w) : o.wp Try.prog a w K Q := by
  unfold Oper.wp execOp
  simp only [ho, hx, hy]
  simp [go_sem]
  exact h
theorem kind_call {f : FuncId} {args : Array Operand} {ts : Array TypeId} {vals : Array Value} (ho : o.op = .call { callee := .value (.func f), args := args, argTypes := ts }) (hv : args.map a.eval = vals)
    (hent : ∀ (a : Array Value) (w : World), (callFunc f a).run Try.prog w = .ok (.enter f a) w)
    (hc : Calls Try.prog f vals w fun e w' => ∃ v, e = .returned v ∧ K (a.put o.dst v) w') : o.wp Try.prog a w K Q := by
  have hr : (execOp a.eval o).run Try.prog w = .ok (.enter f vals) w := by
    unfold execOp
    simp only [ho]
    simp [resolve, hv, Act.eval, Deferred.ofValue, invoke, hent, go_sem]
  unfold Oper.wp
  rw [hr]
  refine hc.mono ?_
  rintro e w' ⟨v, rfl, hk⟩
  exact hk
end

/-- The slice v reads as the bytes X. -/
def Reads8 (X : List UInt8) (v : Value) (w : World) : Prop := ∃ b off n cap, v = .slice (some ⟨b, off, none⟩) n cap ∧ Rd w w.heap.size (some ⟨b, off, none⟩) n X
theorem Reads8.below {X : List UInt8} {v : Value} {w w' : World} (h : Reads8 X v w) (hb : Below w.heap.size w w') : Reads8 X v w' := by
  obtain ⟨b, off, n, cap, rfl, hr⟩ := h
  exact ⟨b, off, n, cap, rfl, (hr.below hb).more hb.size⟩
theorem Reads8.text {X : List UInt8} {v : Value} {w : World} (h : Reads8 X v w) : (convert 22 9 v).run Try.prog w = .ok (.string ⟨X.toArray⟩) w := by
  obtain ⟨b, off, n, cap, rfl, hr⟩ := h
  exact back_text cap hr
/-- What a slot is to hold: a value, or a slice that reads as bytes. -/
def Fact (tab : Nat → Option (Value ⊕ List UInt8)) (t : Nat) (v : Value) (w : World) : Prop :=
  match tab t with
  | some (.inl V) => v = V
  | some (.inr X) => Reads8 X v w
  | none => True
theorem Fact.below {tab : Nat → Option (Value ⊕ List UInt8)} {t : Nat} {v : Value} {w w' : World} (hb : Below w.heap.size w w') (h : Fact tab t v w) : Fact tab t v w' := by
  unfold Fact at h ⊢
  revert h
  cases tab t with
  | none => exact id
  | some y => cases y with
    | inl V => exact id
    | inr X => exact fun h => h.below hb

theorem yielded_of {ops : Array Oper} {tmps : Array Value} {j t : Nat} {b : Bool} (h : (ops[j]?).bind (·.dst) = some t) (h2 : tmps.getD t undef = .bool b) : yielded ops tmps j = some b := by
  have h3 : tmps[t]? = some (.bool b) := by
    rw [Array.getD_eq_getD_getElem?] at h2
    cases e : tmps[t]? with
    | none => rw [e] at h2; simp [undef] at h2
    | some y => rw [e] at h2; simpa using h2
  unfold yielded
  rw [h]
  simp [h3]
theorem wanted_of {o : Oper} {ops : Array Oper} {tmps : Array Value} {j t : Nat} {b : Bool} (hg : o.guard = some (j, b)) (h : (ops[j]?).bind (·.dst) = some t) (h2 : tmps.getD t undef = .bool b) : Region.wanted o (yielded ops tmps) = true := by
  unfold Region.wanted
  rw [hg]
  simp [yielded_of h h2]

theorem enters8 : ∀ (a : Array Value) (w : World), (callFunc 8 a).run Try.prog w = .ok (.enter 8 a) w := enters Try.func8 (by kernel_rfl) rfl
theorem enters9 : ∀ (a : Array Value) (w : World), (callFunc 9 a).run Try.prog w = .ok (.enter 9 a) w := enters Try.func9 (by kernel_rfl) rfl
theorem enters10 : ∀ (a : Array Value) (w : World), (callFunc 10 a).run Try.prog w = .ok (.enter 10 a) w := enters Try.func10 (by kernel_rfl) rfl
theorem enters11 : ∀ (a : Array Value) (w : World), (callFunc 11 a).run Try.prog w = .ok (.enter 11 a) w := enters Try.func11 (by kernel_rfl) rfl
/-- A slice that reads as X comes back; what was there is as it was. -/
def Brings (X : List UInt8) (w : World) (e : Ending) (w' : World) : Prop := ∃ v, e = .returned v ∧ Reads8 X v w' ∧ Below w.heap.size w w'
theorem Makes.brings {X : List UInt8} {w : World} {e : Ending} {w' : World} (h : Makes X w e w') : Brings X w e w' := by
  obtain ⟨g, n2, c2, rfl, _, _, own, bel⟩ := h
  exact ⟨_, rfl, ⟨g, 0, n2, c2, rfl, own.rd⟩, bel⟩
theorem user_brings (A A' : Option Addr) (n c m c' : Nat) (k : UInt8) (d v : List UInt8) (w : World) (hd : Rd w w.heap.size A n d) (hv : Rd w w.heap.size A' m v) (hn : n ≤ 1000) (hm : m ≤ 255) :
    Calls Try.prog 9 #[.slice A n c, .int .i64 (k.toNat : Int), .slice A' m c'] w (Brings (d ++ [k, UInt8.ofNat m] ++ v) w) :=
  (user_any A A' n c m c' k d v w hd hv hn hm).mono fun _ _ ⟨g, cap, he, own, bel⟩ => ⟨_, he, ⟨g, 0, _, cap, rfl, own.rd⟩, bel⟩

/-- Slots that a region writes, over a frame that is known. -/
theorem wrote_list {ops : Array Oper} {ds : List Nat} (h : ops.toList.map (·.dst) = ds.map some) {t : Nat} (ht : ds.contains t = false) : wroteB ops t = false := by
  cases hb : wroteB ops t with
  | false => rfl
  | true =>
    exfalso
    obtain ⟨o, ho, he⟩ := List.any_eq_true.1 hb
    have hm : o.dst ∈ ops.toList.map (·.dst) := List.mem_map.2 ⟨o, ho, rfl⟩
    rw [h] at hm
    obtain ⟨s, hs, hse⟩ := List.mem_map.1 hm
    rw [← hse] at he
    have : s = t := by simpa using he
    subst this
    rw [List.contains_iff_mem.2 hs] at ht
    cases ht
theorem frame_lit {arr arr0 : Array Value} (hs : arr.size = arr0.size) : ∀ (ds : List Nat), (∀ t, ds.contains t = false → arr.getD t undef = arr0.getD t undef) →
    arr = ds.foldl (fun r t => r.setIfInBounds t (arr.getD t undef)) arr0 := by
  intro ds hold
  have key : ∀ (ds : List Nat) (r : Array Value), r.size = arr.size → (∀ t, ds.contains t = false → arr[t]? = r[t]?) → arr = ds.foldl (fun r t => r.setIfInBounds t (arr.getD t undef)) r := by
    intro ds
    induction ds with
    | nil =>
      intro r hr h
      exact Array.ext_getElem? fun i => h i rfl
    | cons x ds ih =>
      intro r hr h
      rw [List.foldl_cons]
      refine ih _ (by rw [Array.size_setIfInBounds]; exact hr) fun t ht => ?_
      by_cases hx : x = t
      · subst hx
        by_cases hlt : x < r.size
        · rw [Array.getElem?_setIfInBounds_self_of_lt hlt, Array.getD_eq_getD_getElem?, Array.getElem?_eq_getElem (by omega)]
          rfl
        · rw [Array.getElem?_eq_none (by omega), Array.getElem?_eq_none (by rw [Array.size_setIfInBounds]; omega)]
      · rw [Array.getElem?_setIfInBounds_ne hx]
        refine h t ?_
        rw [List.contains_cons, ht]
        simp; exact fun e => hx e.symm
  refine key ds arr0 hs.symm fun t ht => ?_
  have := hold t ht
  rw [Array.getD_eq_getD_getElem?, Array.getD_eq_getD_getElem?] at this
  by_cases hlt : t < arr.size
  · rw [Array.getElem?_eq_getElem hlt, Array.getElem?_eq_getElem (by omega)] at this ⊢
    simpa using this
  · rw [Array.getElem?_eq_none (by omega), Array.getElem?_eq_none (by omega)]

end Go.Proofs.Ytchmljpcimjpkaa
