/-
  impl.GetUint32 returns the number of the first user data of a kind, and true. Condition: these are a number's four bytes; at most 1,000 bytes of data.
-/
import Derived.Test.YtchmljpcimjpkaaPutTwo
namespace Go.Proofs.Ytchmljpcimjpkaa
open Go.RowKit
attribute [local go_sem ↓] Go.wp_at_zero Go.wp_at_succ

theorem enters23 : ∀ (a : Array Value) (w : World), (callFunc 23 a).run Try.prog w = .ok (.enter 23 a) w := enters Try.func23 (by kernel_rfl) rfl
theorem enters25 : ∀ (a : Array Value) (w : World), (callFunc 25 a).run Try.prog w = .ok (.enter 25 a) w := enters Try.func25 (by kernel_rfl) rfl
theorem enters27 : ∀ (a : Array Value) (w : World), (callFunc 27 a).run Try.prog w = .ok (.enter 27 a) w := enters Try.func27 (by kernel_rfl) rfl

theorem Put.okcell {w0 w : World} {bb bo ok : Nat} {tb : TypeId} {V : Value} {o : Obj} (h : Put w0 bb tb bo V w) (h1 : ok ≠ bb) (h2 : ok ≠ bo) (hok : w0.heap[ok]? = some o) : w.heap[ok]? = some o :=
  (h.1.block ok (lt_of_cells hok) h1 h2).trans hok

/-- The kind lies in bk, the answer V in bb, 'true' in bo; of what stood before nothing has turned; P holds. -/
structure Core (w0 : World) (bk bb bo : Nat) (k V : Value) (tb : TypeId) (P : World → Prop) (w : World) : Prop where
  k : w.heap[bk]? = some (.cells #[k] 3 (0, 0))
  b : w.heap[bb]? = some (.cells #[V] tb (0, 0))
  o : w.heap[bo]? = some (.cells #[.bool true] 4 (0, 0))
  bel : Below w0.heap.size w0 w
  p : P w
/-- P stays where cells of bb and bo are written. -/
structure Stays (bb bo : Nat) (P : World → Prop) : Prop where
  drew : ∀ w, P w → P w.drew
  b : ∀ w u, P w → P (w.setCell ⟨bb, 0, none⟩ u)
  o : ∀ w u, P w → P (w.setCell ⟨bo, 0, none⟩ u)
section
variable {w0 w : World} {bk bb bo : Nat} {k V : Value} {tb : TypeId} {P : World → Prop}
theorem Core.drew (h : Core w0 bk bb bo k V tb P w) (hs : Stays bb bo P) : Core w0 bk bb bo k V tb P w.drew := ⟨h.k, h.b, h.o, h.bel.drew, hs.drew w h.p⟩
theorem Core.setb (h : Core w0 bk bb bo k V tb P w) (hs : Stays bb bo P) (h1 : bk ≠ bb) (h2 : bb ≠ bo) (h3 : w0.heap.size ≤ bb) : Core w0 bk bb bo k V tb P (w.setCell ⟨bb, 0, none⟩ V) :=
  ⟨(Below.heap_setCell _ _ _ _ h1).trans h.k, one_setCell h.b, (Below.heap_setCell _ _ _ _ h2.symm).trans h.o, h.bel.setCell h3 _, hs.b _ _ h.p⟩
theorem Core.seto (h : Core w0 bk bb bo k V tb P w) (hs : Stays bb bo P) (h1 : bk ≠ bo) (h2 : bb ≠ bo) (h3 : w0.heap.size ≤ bo) : Core w0 bk bb bo k V tb P (w.setCell ⟨bo, 0, none⟩ (.bool true)) :=
  ⟨(Below.heap_setCell _ _ _ _ h1).trans h.k, (Below.heap_setCell _ _ _ _ h2).trans h.b, one_setCell h.o, h.bel.setCell h3 _, hs.o _ _ h.p⟩
theorem mkC (h : Core w0 bk bb bo k V tb P w) :
    w.cell? ⟨bk, 0, none⟩ = some k ∧ w.cell? ⟨bb, 0, none⟩ = some V ∧ w.frozen? ⟨bb, 0, none⟩ = false ∧ w.cell? ⟨bo, 0, none⟩ = some (.bool true) ∧ w.frozen? ⟨bo, 0, none⟩ = false ∧ Core w0 bk bb bo k V tb P w :=
  ⟨cell_of_one h.k, cell_of_one h.b, free_of_one h.b, cell_of_one h.o, free_of_one h.o, h⟩
theorem unC (h : w.cell? ⟨bk, 0, none⟩ = some k ∧ w.cell? ⟨bb, 0, none⟩ = some V ∧ w.frozen? ⟨bb, 0, none⟩ = false ∧ w.cell? ⟨bo, 0, none⟩ = some (.bool true) ∧ w.frozen? ⟨bo, 0, none⟩ = false ∧ Core w0 bk bb bo k V tb P w) :
    Core w0 bk bb bo k V tb P w := h.2.2.2.2.2
end
theorem stays_true (bb bo : Nat) : Stays bb bo fun _ => True := ⟨fun _ _ => trivial, fun _ _ _ => trivial, fun _ _ _ => trivial⟩
theorem stays_own {bb bo base g n c : Nat} {v : List UInt8} (h1 : bb < g) (h2 : bo < g) : Stays bb bo fun w => Own w base g n c v :=
  ⟨fun _ h => h.drew, fun _ u h => h.set (by omega) u, fun _ u h => h.set (by omega) u⟩
/-- Behind impl.quietly. -/
theorem Put.core {w0 w W : World} {bk bb bo ok : Nat} {k V : Value} {tb : TypeId} {P : World → Prop} (h : Put W bb tb bo V w) (hk : W.heap[bk]? = some (.cells #[k] 3 (0, 0))) (hbel : Below w0.heap.size w0 W)
    (hne : bk ≠ bb ∧ bk ≠ bo ∧ bb ≠ bo ∧ ok ≠ bk ∧ ok ≠ bb ∧ ok ≠ bo) (h0 : w0.heap.size ≤ bb ∧ w0.heap.size ≤ bo ∧ w0.heap.size ≤ ok) (u : Value) (hp : P (w.setCell ⟨ok, 0, none⟩ u)) :
    Core w0 bk bb bo k V tb P (w.setCell ⟨ok, 0, none⟩ u) :=
  ⟨(Below.heap_setCell _ _ _ _ hne.2.2.2.1.symm).trans (h.okcell hne.1 hne.2.1 hk), (Below.heap_setCell _ _ _ _ hne.2.2.2.2.1.symm).trans h.2.1, (Below.heap_setCell _ _ _ _ hne.2.2.2.2.2.symm).trans h.2.2,
    (hbel.trans (h.1.bel h0.1 h0.2.1 hbel.size)).setCell h0.2.2 _, hp⟩

theorem i64_wrap (k : UInt8) : IntKind.i64.wrap (k.toNat : Int) = (k.toNat : Int) := by
  have := k.toNat_lt
  rw [IntKind.wrap_i64]
  omega

/-- Two answers come back: V and 'true'. -/
def Two (V : Value) (w : World) (e : Ending) (w' : World) : Prop := e = .returned (.tuple #[V, .bool true]) ∧ Below w.heap.size w w'

set_option maxHeartbeats 1000000 in
theorem gotU32_any (n c x : Nat) (A : Option Addr) (k : UInt8) (d : List UInt8) (w : World) (hr : Rd w w.heap.size A n d) (hn : n ≤ 1000) (hv : look k d = some (four x)) (hx : x < 4294967296) :
    Calls Try.prog 13 #[.slice A n c, .int .i64 (k.toNat : Int)] w (Two (.int .u32 (x : Int)) w) := by
  have hmf : ∀ (fn : Fn) (first cap : Array Value) (w : World), (Instr.makeFunc fn first cap).run Try.prog w = .ok (.func fn first cap) w := fun _ _ _ _ => rfl
  have hkb : (k.toNat : Int) ≤ 255 := by have := k.toNat_lt; omega
  have HR := Lib.hid hr
  have HV := Lib.hid hv
  clear hr hv
  go_enter Try.func13, Try.ntmps13
  go_wp2_with fail
  obtain ⟨W, hW, b0, b1, b2, b3, b4, hsz, hbel⟩ := four_boxes w (.cells #[.slice A n c] 22) (.cells #[.int .i64 (k.toNat : Int)] 3) (.cells #[.int .u32 0] 23) (.cells #[.bool false] 4) (.cells #[.bool false] 4)
  have HW := Lib.hid hW
  have hsz4 : w.heap.size + 1 + 1 + 1 + 1 = ((((w.alloc (.cells #[.slice A n c] 22)).alloc (.cells #[.int .i64 (k.toNat : Int)] 3)).alloc (.cells #[.int .u32 0] 23)).alloc (.cells #[.bool false] 4)).heap.size := by simp
  have hq := in25_any n c w.heap.size (w.heap.size + 1) (w.heap.size + 1 + 1) (w.heap.size + 1 + 1 + 1) x A k d W _ _ (cell_of_one b0) (cell_of_one b1) (by omega) (by omega) (by omega) (by omega) (by omega) b2 b3 w.heap.size (by omega) (by omega) (HR.out.below hbel) hn HV.out hx
  rw [hW] at hq
  have hq2 := quietly_any 25 _ _ _ (enters25 _) hq (fun w1 h1 => h1.okcell (by omega) (by omega) (by rw [← hW, ← hsz4]; exact b4))
  clear hq b0 b2 b3 b4 hW
  refine hq2.mono ?_
  clear hq2
  rintro e w1 ⟨rfl, w2, hput, rfl⟩
  rw [← hsz4]
  rw [← HW.out] at hput
  have hst := stays_true (w.heap.size + 1 + 1) (w.heap.size + 1 + 1 + 1)
  have hcore := hput.core (w0 := w) (bk := w.heap.size + 1) (ok := w.heap.size + 1 + 1 + 1 + 1) (P := fun _ => True) b1 hbel (by omega) (by omega) (.bool true) trivial
  clear hput HW hsz4 b1 hbel hsz HR HV
  generalize w2.setCell ⟨w.heap.size + 1 + 1 + 1 + 1, 0, none⟩ (.bool true) = w3 at *
  obtain ⟨ck, cb, fb, co, fo, _⟩ := mkC hcore
  generalize hk1 : w.heap.size + 1 = bk at *
  generalize hk2 : bk + 1 = bb at *
  generalize hk3 : bb + 1 = bo at *
  have h1 : bk ≠ bb := by omega
  have h2 : bk ≠ bo := by omega
  have h3 : bb ≠ bo := by omega
  have h4 : w.heap.size ≤ bb := by omega
  have h5 : w.heap.size ≤ bo := by omega
  clear hk1 hk2 hk3
  have hwr1 := u8_wrap k
  have hwr2 := i64_wrap k
  go_wp2_with fail
  go_region_held3 (fun w' => w'.cell? ⟨bk, 0, none⟩ = some (.int .i64 (k.toNat : Int)) ∧ w'.cell? ⟨bb, 0, none⟩ = some (.int .u32 (x : Int)) ∧ w'.frozen? ⟨bb, 0, none⟩ = false ∧ w'.cell? ⟨bo, 0, none⟩ = some (.bool true) ∧ w'.frozen? ⟨bo, 0, none⟩ = false ∧
      Core w bk bb bo (.int .i64 (k.toNat : Int)) (.int .u32 (x : Int)) 23 (fun _ => True) w')
    ((first
      | exact mkC (Core.drew (by assumption) hst)
      | exact mkC (Core.setb (unC (by assumption)) hst h1 h3 h4)
      | exact mkC (Core.seto (unC (by assumption)) hst h2 h3 h5)
      | fail))
    (fail)
  have fin := ((hcore.setb hst h1 h3 h4).seto hst h2 h3 h5).drew hst
  generalize ((w3.setCell ⟨bb, 0, none⟩ (.int .u32 (x : Int))).setCell ⟨bo, 0, none⟩ (.bool true)).drew = w4 at *
  clear hcore ck cb fb co fo
  obtain ⟨_, cb, _, co, _, _⟩ := mkC fin
  go_wp2_with fail
  exact bodyPost_ret (v := .tuple #[.int .u32 (x : Int), .bool true]) (by simp [results, Try.results13, go_sem, cb, co]) rfl ⟨rfl, fin.bel⟩
end Go.Proofs.Ytchmljpcimjpkaa
