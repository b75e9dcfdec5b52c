/-
  append at a step of a region that draws its order, and what such a region keeps (words for the walks behind).
-/
import Derived.Test.YtchmljpcimjpkaaClos
import Derived.Deep.RegionHeld3
import Derived.Deep.DrawnRows
import Derived.RegionTactic
namespace Go.Proofs.Ytchmljpcimjpkaa
open Go.RowKit

theorem wp_append8 {o : Oper} {a : Act} {w : World} {K : Act → World → Prop} {Q : Exit → Act → World → Prop} (s x : Operand)
    (ho : o.op = .call { callee := .builtin .append, args := #[s, x], argTypes := #[22, 22] })
    (base g n cap B m c : Nat) (A : Option Addr) (l y : List UInt8) (hs : a.eval s = .slice (some ⟨g, 0, none⟩) n cap) (hx : a.eval x = .slice A m c)
    (h : Own w base g n cap l) (hy : Rd w B A m y) (hsz : n + m ≤ 1000000) (hbase : base ≤ w.heap.size)
    (K' : ∀ g' cap' w', Own w' base g' (n + m) cap' (l ++ y) → w.grownBy w' (some g) → (g' = g ∨ g' = w.heap.size) → K (a.put o.dst (.slice (some ⟨g', 0, none⟩) (n + m) cap')) w') :
    Oper.wp Try.prog o a w K Q := by
  obtain ⟨g', cap', w', hr, h2, h3, h4⟩ := run_append8 (c := c) o.type h hy hsz hbase
  unfold Oper.wp execOp
  simp only [ho, resolve, invoke, builtin, Sem.run_bind, Sem.run_pure, Result.andThen_ok, List.map_toArray, List.map_cons, List.map_nil, hs, hx, hr]
  exact K' g' cap' w' h2 h3 h4

theorem step_append8 {ops : Array Oper} {o : Oper} {a : Act} {w : World} {K : Act → World → Prop} {Q : Exit → Act → World → Prop} {E : Prop} (hgd : o.guard = none) (s x : Operand)
    (ho : o.op = .call { callee := .builtin .append, args := #[s, x], argTypes := #[22, 22] })
    (base g n cap B m c : Nat) (A : Option Addr) (l y : List UInt8) (hs : a.eval s = .slice (some ⟨g, 0, none⟩) n cap) (hx : a.eval x = .slice A m c)
    (h : Own w base g n cap l) (hy : Rd w B A m y) (hsz : n + m ≤ 1000000) (hbase : base ≤ w.heap.size)
    (K' : ∀ g' cap' w', Own w' base g' (n + m) cap' (l ++ y) → w.grownBy w' (some g) → (g' = g ∨ g' = w.heap.size) → K (a.put o.dst (.slice (some ⟨g', 0, none⟩) (n + m) cap')) w') :
    if Region.wanted o (yielded ops a.tmps) = true then Oper.wp Try.prog o a w K Q else E := by
  have hw : Region.wanted o (yielded ops a.tmps) = true := by simp [Region.wanted, hgd]
  rw [if_pos hw]
  exact wp_append8 s x ho base g n cap B m c A l y hs hx h hy hsz hbase K'

/-- The same onto an empty slice of the call's own. -/
theorem step_append0 {ops : Array Oper} {o : Oper} {a : Act} {w : World} {K : Act → World → Prop} {Q : Exit → Act → World → Prop} {E : Prop} (hgd : o.guard = none) (s x : Operand)
    (ho : o.op = .call { callee := .builtin .append, args := #[s, x], argTypes := #[22, 22] })
    (base g cap B m c : Nat) (A : Option Addr) (y : List UInt8) (hs : a.eval s = .slice (some ⟨g, 0, none⟩) 0 cap) (hx : a.eval x = .slice A m c)
    (h : Own w base g 0 cap []) (hy : Rd w B A m y) (hsz : m ≤ 1000000) (hbase : base ≤ w.heap.size)
    (K' : ∀ g' cap' w', Own w' base g' m cap' y → w.grownBy w' (some g) → (g' = g ∨ g' = w.heap.size) → K (a.put o.dst (.slice (some ⟨g', 0, none⟩) m cap')) w') :
    if Region.wanted o (yielded ops a.tmps) = true then Oper.wp Try.prog o a w K Q else E :=
  step_append8 hgd s x ho base g 0 cap B m c A [] y hs hx h hy (by omega) hbase fun g' cap' w' h1 h2 h3 => by
    rw [Nat.zero_add] at h1 ⊢
    exact K' g' cap' w' h1 h2 h3

/-- append(b, x...) onto a slice b without room, x not empty: a new array; of b nothing is asked. -/
theorem run_append_fresh {w : World} {g B m c : Nat} {A : Option Addr} {y : List UInt8} (ty : TypeId) (hy : Rd w B A m y) (hm : 0 < m) (hs : m ≤ 1000000) :
    ∃ cap' w', (Builtin.append_ #[22, 22] ty #[.slice (some ⟨g, 0, none⟩) 0 0, .slice A m c]).run Try.prog w = .ok (.slice (some ⟨w.heap.size, 0, none⟩) m cap') w' ∧
      Own w' w.heap.size w.heap.size m cap' y ∧ Below w.heap.size w w' := by
  obtain ⟨i0, hi, hz0, hz1, hz2⟩ := info_parts info5
  obtain ⟨b, off, rfl, hb, hc⟩ := hy.2 hm
  have hr := run_append_grow (P := Try.prog) w 22 ty 5 i0 (.int .u8 0) Try.underlying22 hi hz0 ⟨g, 0, none⟩ 0 0 [] (by simp) (fun j v hj => by simp at hj)
    ⟨b, off, none⟩ m c (bv y) (by rw [bv_length, hy.1, hz1]; omega) (fun j u hu => by rw [add_flat]; exact hc j u hu) (by omega) (by omega) (growslice_fits (by omega) (by rw [hz2]; omega))
  have hge := grownCap_ge w m 0 5
  have hl := hy.1
  rw [Nat.zero_add] at hr
  refine ⟨_, _, hr, ⟨by rw [bv_length]; omega, .inr ⟨w.heap.size, _, _, rfl, Nat.le_refl _, heap_alloc_new w.drew _, hge, grownCap_le_maxLen w m 0 5 (by unfold maxLen; omega), ?_, ?_⟩⟩, ((Below.refl _ _).drew).alloc (Nat.le_refl _) _⟩
  · simp [bv_length, size_zeroCells, Value.cells]; omega
  · have hl2 : m * 1 = (bv y).length := by rw [bv_length]; omega
    rw [hl2]
    simp

theorem wp_append_fresh {o : Oper} {a : Act} {w : World} {K : Act → World → Prop} {Q : Exit → Act → World → Prop} (s x : Operand)
    (ho : o.op = .call { callee := .builtin .append, args := #[s, x], argTypes := #[22, 22] })
    (g B m c : Nat) (A : Option Addr) (y : List UInt8) (hs : a.eval s = .slice (some ⟨g, 0, none⟩) 0 0) (hx : a.eval x = .slice A m c)
    (hy : Rd w B A m y) (hm : 0 < m) (hsz : m ≤ 1000000)
    (K' : ∀ g' cap' w', Own w' w.heap.size g' m cap' y → Below w.heap.size w w' → K (a.put o.dst (.slice (some ⟨g', 0, none⟩) m cap')) w') :
    Oper.wp Try.prog o a w K Q := by
  obtain ⟨cap', w', hr, h2, h3⟩ := run_append_fresh (c := c) (g := g) o.type hy hm hsz
  unfold Oper.wp execOp
  simp only [ho, resolve, invoke, builtin, Sem.run_bind, Sem.run_pure, Result.andThen_ok, List.map_toArray, List.map_cons, List.map_nil, hs, hx, hr]
  exact K' _ cap' w' h2 h3

theorem step_append_fresh {ops : Array Oper} {o : Oper} {a : Act} {w : World} {K : Act → World → Prop} {Q : Exit → Act → World → Prop} {E : Prop} (hgd : o.guard = none) (s x : Operand)
    (ho : o.op = .call { callee := .builtin .append, args := #[s, x], argTypes := #[22, 22] })
    (g B m c : Nat) (A : Option Addr) (y : List UInt8) (hs : a.eval s = .slice (some ⟨g, 0, none⟩) 0 0) (hx : a.eval x = .slice A m c)
    (hy : Rd w B A m y) (hm : 0 < m) (hsz : m ≤ 1000000)
    (K' : ∀ g' cap' w', Own w' w.heap.size g' m cap' y → Below w.heap.size w w' → K (a.put o.dst (.slice (some ⟨g', 0, none⟩) m cap')) w') :
    if Region.wanted o (yielded ops a.tmps) = true then Oper.wp Try.prog o a w K Q else E := by
  have hw : Region.wanted o (yielded ops a.tmps) = true := by simp [Region.wanted, hgd]
  rw [if_pos hw]
  exact wp_append_fresh s x ho g B m c A y hs hx hy hm hsz K'

/-- Of what was there in w0 nothing has turned but block bb, which is one cell of a slice of bytes, and may be written. -/
def Kept (w0 : World) (bb : Nat) (w : World) : Prop := w0.grownBy w (some bb) ∧ ∃ v, w.heap[bb]? = some (.cells #[v] 22 (0, 0))
/-- What the first cell of a block holds. -/
def cellAt (w : World) (bb : Nat) : Value := (w.cell? ⟨bb, 0, none⟩).getD undef
section
variable {w0 w w' : World} {bb : Nat}
theorem Kept.drew (h : Kept w0 bb w) : Kept w0 bb w.drew := ⟨⟨h.1.os, h.1.tape, h.1.output, h.1.size, h.1.block⟩, h.2⟩
theorem Kept.undrew (h : Kept w0 bb w.drew) : Kept w0 bb w := ⟨⟨h.1.os, h.1.tape, h.1.output, h.1.size, h.1.block⟩, h.2⟩
theorem Kept.lt (h : Kept w0 bb w) : bb < w.heap.size := by
  obtain ⟨_, v, hv⟩ := h
  exact (Array.getElem?_eq_some_iff.1 hv).1
theorem Kept.alloc (h : Kept w0 bb w) (o : Obj) : Kept w0 bb (w.alloc o) := by
  have hlt := h.lt
  obtain ⟨h1, v, hv⟩ := h
  exact ⟨⟨h1.os, h1.tape, h1.output, Nat.le_trans h1.size (by simp), fun k hk hne => (Below.heap_alloc _ _ _ (Nat.lt_of_lt_of_le hk h1.size)).trans (h1.block k hk hne)⟩, v, (Below.heap_alloc _ _ _ hlt).trans hv⟩
theorem Kept.alloc_drew (h : Kept w0 bb w.drew) (o : Obj) : Kept w0 bb (w.alloc o).drew := h.undrew.alloc o |>.drew
theorem Kept.grown {g : Nat} (h : Kept w0 bb w) (hg : w.grownBy w' (some g)) (h0 : w0.heap.size ≤ g) (hb : bb < w0.heap.size) : Kept w0 bb w' := by
  have hlt := h.lt
  obtain ⟨h1, v, hv⟩ := h
  exact ⟨⟨hg.os.trans h1.os, hg.tape.trans h1.tape, hg.output.trans h1.output, Nat.le_trans h1.size hg.size, fun k hk hne => (hg.block k (Nat.lt_of_lt_of_le hk h1.size) (fun e => by injection e with e; omega)).trans (h1.block k hk hne)⟩,
    v, (hg.block bb hlt (fun e => by injection e with e; omega)).trans hv⟩
theorem Kept.below (h : Kept w0 bb w) (hg : Below w.heap.size w w') : Kept w0 bb w' := by
  have hlt := h.lt
  obtain ⟨h1, v, hv⟩ := h
  exact ⟨⟨hg.os.trans h1.os, hg.tape.trans h1.tape, hg.output.trans h1.output, Nat.le_trans h1.size hg.size, fun k hk hne => (hg.block k (Nat.lt_of_lt_of_le hk h1.size)).trans (h1.block k hk hne)⟩, v, (hg.block bb hlt).trans hv⟩
theorem Kept.set (h : Kept w0 bb w) (u : Value) : Kept w0 bb (w.setCell ⟨bb, 0, none⟩ u) := by
  obtain ⟨h1, v, hv⟩ := h
  exact ⟨⟨h1.os, h1.tape, h1.output, by simpa [World.setCell] using h1.size, fun k hk hne => (Below.heap_setCell _ _ _ _ (fun e => hne (by rw [e]))).trans (h1.block k hk hne)⟩, u, one_setCell hv⟩
theorem Kept.cell (h : Kept w0 bb w) {b : Nat} {u : Value} (hb : b ≠ bb) (hc : w0.cell? ⟨b, 0, none⟩ = some u) : w.cell? ⟨b, 0, none⟩ = some u :=
  h.1.cell hc (fun e => hb (by injection e))
theorem Kept.there (h : Kept w0 bb w) : w.cell? ⟨bb, 0, none⟩ = some (cellAt w bb) := by
  obtain ⟨_, v, hv⟩ := h
  simp [cellAt, cell_of_one hv]
theorem Kept.free (h : Kept w0 bb w) : w.frozen? ⟨bb, 0, none⟩ = false := by
  obtain ⟨_, v, hv⟩ := h
  exact free_of_one hv
end
end Go.Proofs.Ytchmljpcimjpkaa
