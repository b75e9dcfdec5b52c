/-
  The function that impl.GetUint32 hands to impl.quietly lays the number and 'true' into the results' variables. Condition: the data have such a number of that kind.
-/
import Derived.Test.YtchmljpcimjpkaaMakes
import Derived.Test.YtchmljpcimjpkaaGetTwo
namespace Go.Proofs.Ytchmljpcimjpkaa
open Go.RowKit
attribute [local go_sem ↓] Go.wp_at_zero Go.wp_at_succ

/-- Of what was there in w0 nothing has turned but the blocks bb and bo, each of one cell that may be written. -/
structure Kept2 (w0 : World) (bb : Nat) (tb : TypeId) (bo : Nat) (w : World) : Prop where
  os : w.os = w0.os
  tape : w.tape = w0.tape
  output : w.output = w0.output
  size : w0.heap.size ≤ w.heap.size
  block : ∀ k, k < w0.heap.size → k ≠ bb → k ≠ bo → w.heap[k]? = w0.heap[k]?
  b : ∃ v, w.heap[bb]? = some (.cells #[v] tb (0, 0))
  o : ∃ v, w.heap[bo]? = some (.cells #[v] 4 (0, 0))
section
variable {w0 w w' : World} {bb bo : Nat} {tb : TypeId}
theorem lt_of_cells {w : World} {b : Nat} {o : Obj} (h : w.heap[b]? = some o) : b < w.heap.size := (Array.getElem?_eq_some_iff.1 h).1
theorem Kept2.ltb (h : Kept2 w0 bb tb bo w) : bb < w.heap.size := let ⟨_, hv⟩ := h.b; lt_of_cells hv
theorem Kept2.lto (h : Kept2 w0 bb tb bo w) : bo < w.heap.size := let ⟨_, hv⟩ := h.o; lt_of_cells hv
theorem Kept2.drew (h : Kept2 w0 bb tb bo w) : Kept2 w0 bb tb bo w.drew := ⟨h.os, h.tape, h.output, h.size, h.block, h.b, h.o⟩
theorem Kept2.undrew (h : Kept2 w0 bb tb bo w.drew) : Kept2 w0 bb tb bo w := ⟨h.os, h.tape, h.output, h.size, h.block, h.b, h.o⟩
theorem Kept2.drewN (h : Kept2 w0 bb tb bo w) (q : Nat) : Kept2 w0 bb tb bo (w.drewN q) := ⟨h.os, h.tape, h.output, h.size, h.block, h.b, h.o⟩
theorem Kept2.below (h : Kept2 w0 bb tb bo w) (hb : Below w.heap.size w w') : Kept2 w0 bb tb bo w' :=
  ⟨hb.os.trans h.os, hb.tape.trans h.tape, hb.output.trans h.output, Nat.le_trans h.size hb.size, fun k hk h1 h2 => (hb.block k (Nat.lt_of_lt_of_le hk h.size)).trans (h.block k hk h1 h2),
    let ⟨v, hv⟩ := h.b; ⟨v, (hb.block bb h.ltb).trans hv⟩, let ⟨v, hv⟩ := h.o; ⟨v, (hb.block bo h.lto).trans hv⟩⟩
theorem Kept2.grown {g : Nat} (h : Kept2 w0 bb tb bo w) (hg : w.grownBy w' (some g)) (h0 : w0.heap.size ≤ g) (h1 : bb < w0.heap.size) (h2 : bo < w0.heap.size) : Kept2 w0 bb tb bo w' :=
  ⟨hg.os.trans h.os, hg.tape.trans h.tape, hg.output.trans h.output, Nat.le_trans h.size hg.size, fun k hk h1 h2 => (hg.block k (Nat.lt_of_lt_of_le hk h.size) (fun e => by injection e with e; omega)).trans (h.block k hk h1 h2),
    let ⟨v, hv⟩ := h.b; ⟨v, (hg.block bb h.ltb (fun e => by injection e with e; omega)).trans hv⟩, let ⟨v, hv⟩ := h.o; ⟨v, (hg.block bo h.lto (fun e => by injection e with e; omega)).trans hv⟩⟩
theorem Kept2.alloc (h : Kept2 w0 bb tb bo w) (o : Obj) : Kept2 w0 bb tb bo (w.alloc o) := h.below ((Below.refl _ _).alloc (Nat.le_refl _) o)
theorem Kept2.alloc_drew (h : Kept2 w0 bb tb bo w.drew) (o : Obj) : Kept2 w0 bb tb bo (w.alloc o).drew := (h.undrew.alloc o).drew
theorem Kept2.setb (h : Kept2 w0 bb tb bo w) (hne : bb ≠ bo) (u : Value) : Kept2 w0 bb tb bo (w.setCell ⟨bb, 0, none⟩ u) :=
  ⟨h.os, h.tape, h.output, by simpa [World.setCell] using h.size, fun k hk h1 h2 => (Below.heap_setCell _ _ _ _ h1).trans (h.block k hk h1 h2),
    let ⟨_, hv⟩ := h.b; ⟨u, one_setCell hv⟩, let ⟨v, hv⟩ := h.o; ⟨v, (Below.heap_setCell _ _ _ _ hne.symm).trans hv⟩⟩
theorem Kept2.seto (h : Kept2 w0 bb tb bo w) (hne : bb ≠ bo) (u : Value) : Kept2 w0 bb tb bo (w.setCell ⟨bo, 0, none⟩ u) :=
  ⟨h.os, h.tape, h.output, by simpa [World.setCell] using h.size, fun k hk h1 h2 => (Below.heap_setCell _ _ _ _ h2).trans (h.block k hk h1 h2),
    let ⟨v, hv⟩ := h.b; ⟨v, (Below.heap_setCell _ _ _ _ hne).trans hv⟩, let ⟨_, hv⟩ := h.o; ⟨u, one_setCell hv⟩⟩
theorem Kept2.cell (h : Kept2 w0 bb tb bo w) {b : Nat} {u : Value} (h1 : b ≠ bb) (h2 : b ≠ bo) (hc : w0.cell? ⟨b, 0, none⟩ = some u) : w.cell? ⟨b, 0, none⟩ = some u :=
  (World.cell?_of_block (a := ⟨b, 0, none⟩) (h.block b (World.block_lt_of_cell? _ _ hc) h1 h2)).trans hc
theorem Kept2.thereb (h : Kept2 w0 bb tb bo w) : w.cell? ⟨bb, 0, none⟩ = some (cellAt w bb) := by
  obtain ⟨v, hv⟩ := h.b
  simp [cellAt, cell_of_one hv]
theorem Kept2.thereo (h : Kept2 w0 bb tb bo w) : w.cell? ⟨bo, 0, none⟩ = some (cellAt w bo) := by
  obtain ⟨v, hv⟩ := h.o
  simp [cellAt, cell_of_one hv]
theorem Kept2.freeb (h : Kept2 w0 bb tb bo w) : w.frozen? ⟨bb, 0, none⟩ = false := let ⟨_, hv⟩ := h.b; free_of_one hv
theorem Kept2.freeo (h : Kept2 w0 bb tb bo w) : w.frozen? ⟨bo, 0, none⟩ = false := let ⟨_, hv⟩ := h.o; free_of_one hv
theorem Kept2.bel {B : Nat} (h : Kept2 w0 bb tb bo w) (h1 : B ≤ bb) (h2 : B ≤ bo) (hb : B ≤ w0.heap.size) : Below B w0 w :=
  ⟨h.os, h.tape, h.output, h.size, fun k hk => h.block k (by omega) (by omega) (by omega)⟩
end

/-- The answer V lies in bb, 'true' in bo. -/
def Put (w0 : World) (bb : Nat) (tb : TypeId) (bo : Nat) (V : Value) (w : World) : Prop :=
  Kept2 w0 bb tb bo w ∧ w.heap[bb]? = some (.cells #[V] tb (0, 0)) ∧ w.heap[bo]? = some (.cells #[.bool true] 4 (0, 0))
theorem Put.bo {w0 w : World} {bb bo : Nat} {tb : TypeId} (h : Kept2 w0 bb tb bo w) (hne : bb ≠ bo) (V : Value) : Put w0 bb tb bo V ((w.setCell ⟨bb, 0, none⟩ V).setCell ⟨bo, 0, none⟩ (.bool true)) :=
  ⟨(h.setb hne V).seto hne _, let ⟨_, hv⟩ := h.b; (Below.heap_setCell _ _ _ _ hne).trans (one_setCell hv), let ⟨_, hv⟩ := (h.setb hne V).o; one_setCell hv⟩
theorem Put.ob {w0 w : World} {bb bo : Nat} {tb : TypeId} (h : Kept2 w0 bb tb bo w) (hne : bb ≠ bo) (V : Value) : Put w0 bb tb bo V ((w.setCell ⟨bo, 0, none⟩ (.bool true)).setCell ⟨bb, 0, none⟩ V) :=
  ⟨(h.seto hne _).setb hne V, let ⟨_, hv⟩ := (h.seto hne (.bool true)).b; one_setCell hv, let ⟨_, hv⟩ := h.o; (Below.heap_setCell _ _ _ _ hne.symm).trans (one_setCell hv)⟩
/-- The same, and nothing comes back. -/
def PutR (w0 : World) (bb : Nat) (tb : TypeId) (bo : Nat) (V : Value) (e : Ending) (w : World) : Prop := e = .returned (.tuple #[]) ∧ Put w0 bb tb bo V w

theorem mkT {w w' : World} {bd bk bb bo : Nat} {tb : TypeId} {x k : Value} (hd : w.cell? ⟨bd, 0, none⟩ = some x) (hk : w.cell? ⟨bk, 0, none⟩ = some k)
    (d1 : bd ≠ bb) (d2 : bd ≠ bo) (k1 : bk ≠ bb) (k2 : bk ≠ bo) (h : Kept2 w bb tb bo w') :
    w'.cell? ⟨bd, 0, none⟩ = some x ∧ w'.cell? ⟨bk, 0, none⟩ = some k ∧ w'.cell? ⟨bb, 0, none⟩ = some (cellAt w' bb) ∧ w'.frozen? ⟨bb, 0, none⟩ = false ∧ w'.cell? ⟨bo, 0, none⟩ = some (cellAt w' bo) ∧ w'.frozen? ⟨bo, 0, none⟩ = false ∧ Kept2 w bb tb bo w' :=
  ⟨h.cell d1 d2 hd, h.cell k1 k2 hk, h.thereb, h.freeb, h.thereo, h.freeo, h⟩
theorem unT {w w' : World} {bd bk bb bo : Nat} {tb : TypeId} {x k : Value}
    (h : w'.cell? ⟨bd, 0, none⟩ = some x ∧ w'.cell? ⟨bk, 0, none⟩ = some k ∧ w'.cell? ⟨bb, 0, none⟩ = some (cellAt w' bb) ∧ w'.frozen? ⟨bb, 0, none⟩ = false ∧ w'.cell? ⟨bo, 0, none⟩ = some (cellAt w' bo) ∧ w'.frozen? ⟨bo, 0, none⟩ = false ∧ Kept2 w bb tb bo w') :
    Kept2 w bb tb bo w' := h.2.2.2.2.2.2

set_option maxHeartbeats 1000000 in
theorem in25_any (n c bd bk bb bo x : Nat) (A : Option Addr) (k : UInt8) (d : List UInt8) (w : World) (vb vo : Value)
    (hd : w.cell? ⟨bd, 0, none⟩ = some (.slice A n c)) (hk : w.cell? ⟨bk, 0, none⟩ = some (.int .i64 (k.toNat : Int)))
    (d1 : bd ≠ bb) (d2 : bd ≠ bo) (k1 : bk ≠ bb) (k2 : bk ≠ bo) (hne : bb ≠ bo) (hbb : w.heap[bb]? = some (.cells #[vb] 23 (0, 0))) (hbo : w.heap[bo]? = some (.cells #[vo] 4 (0, 0)))
    (B : Nat) (hB1 : B ≤ bb) (hB2 : B ≤ bo) (hr : Rd w B A n d) (hn : n ≤ 1000) (hv : look k d = some (four x)) (hx : x < 4294967296) :
    Calls Try.prog 25 #[.pointer (some ⟨bd, 0, none⟩), .pointer (some ⟨bk, 0, none⟩), .pointer (some ⟨bb, 0, none⟩), .pointer (some ⟨bo, 0, none⟩)] w (PutR w bb 23 bo (.int .u32 (x : Int))) := by
  have hK : Kept2 w bb 23 bo w := ⟨rfl, rfl, rfl, Nat.le_refl _, fun _ _ _ _ => rfl, ⟨_, hbb⟩, ⟨_, hbo⟩⟩
  have hlb := hK.ltb
  have hlo := hK.lto
  have MK := Lib.hid (fun (w' : World) (h : Kept2 w bb 23 bo w') => mkT hd hk d1 d2 k1 k2 h)
  have HR := Lib.hid hr
  have HV := Lib.hid hv
  have hkb : (k.toNat : Int) ≤ 255 := by have := k.toNat_lt; omega
  have hwrap := u8_wrap k
  clear hr hbb hbo hd hk hv
  go_enter Try.func25, Try.ntmps25
  go_wp2
  go_region_held3 (fun w' => w'.cell? ⟨bd, 0, none⟩ = some (.slice A n c) ∧ w'.cell? ⟨bk, 0, none⟩ = some (.int .i64 (k.toNat : Int)) ∧ w'.cell? ⟨bb, 0, none⟩ = some (cellAt w' bb) ∧ w'.frozen? ⟨bb, 0, none⟩ = false ∧ w'.cell? ⟨bo, 0, none⟩ = some (cellAt w' bo) ∧ w'.frozen? ⟨bo, 0, none⟩ = false ∧ Kept2 w bb 23 bo w')
    ((first
      | exact MK.out _ (Kept2.drew (by assumption))
      | exact MK.out _ (Kept2.alloc_drew (unT (by assumption)) _)
      | exact MK.out _ (Kept2.setb (unT (by assumption)) hne _)
      | exact MK.out _ (Kept2.seto (unT (by assumption)) hne _)
      | (exact MK.out _ m2)
      | (exact MK.out _ m1)
      | fail))
    ((first
      | (refine step_append0 ?_ (.tmp 5) (.tmp 6) ?_ w.heap.size w.heap.size 0 B n c A d ?_ ?_ (own_a w) (HR.out.below (Kept2.bel (tb := 23) ?_ hB1 hB2 ?_)) ?_ ?_ ?_
         · rfl
         · rfl
         · rfl
         · rfl
         · exact unT (by assumption)
         · omega
         · omega
         · exact Kept2.size (tb := 23) (bb := bb) (bo := bo) (unT (by assumption))
         intro g1 c1 w1 own1 grow1 at1
         have m1 := Kept2.grown (unT (by assumption)) grow1 (Nat.le_refl _) hlb hlo)
      | (with_reducible refine (getU32_any (some ⟨g1, 0, none⟩) n c1 x k d _ own1.rd ?_ ?_ HV.out hx).mono ?_
         · exact own1.form.2.2.1
         · omega
         rintro e w2 ⟨rfl, q, rfl⟩
         have m2 := m1.drewN q)
      | fail))
  go_end0
  exact ⟨rfl, Put.bo m2 hne _⟩
end Go.Proofs.Ytchmljpcimjpkaa
