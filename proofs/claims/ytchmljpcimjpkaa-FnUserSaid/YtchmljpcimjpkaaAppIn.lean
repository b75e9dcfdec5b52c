/-
  The function that impl.appended hands to impl.quietly lays the appended data into the result's variable. Conditions: at most 1,000 bytes of data; the function that it calls makes what 'Appends' says.
-/
import Derived.Test.YtchmljpcimjpkaaStep
namespace Go.Proofs.Ytchmljpcimjpkaa
open Go.RowKit
attribute [local go_sem ↓] Go.wp_at_zero Go.wp_at_succ

theorem u8_wrap (k : UInt8) : IntKind.u8.wrap (k.toNat : Int) = (k.toNat : Int) := by
  have := k.toNat_lt
  simp only [IntKind.wrap, IntKind.bits, IntKind.signed]
  simp
  omega
theorem World.size_le_alloc (w : World) (o : Obj) : w.heap.size ≤ (w.alloc o).heap.size := by simp
/-- Variable bb holds a slice of the call's own that holds X. -/
def Laid (X : List UInt8) (bb : Nat) (w : World) (w' : World) : Prop :=
  ∃ w1 g n2 c2, 0 < n2 ∧ n2 ≤ 2000 ∧ Kept w bb w1 ∧ Own w1 w.heap.size g n2 c2 X ∧ w' = w1.setCell ⟨bb, 0, none⟩ (.slice (some ⟨g, 0, none⟩) n2 c2)
def LaidR (X : List UInt8) (bb : Nat) (w : World) (e : Ending) (w' : World) : Prop := e = .returned (.tuple #[]) ∧ Laid X bb w w'

theorem own_a (w : World) : Own (w.alloc (.cells #[] 5)).drew w.heap.size w.heap.size 0 0 [] := Own.new w (Nat.le_refl _)
theorem own_b (w : World) : Own ((w.alloc (.cells #[] 5)).alloc (.cells #[] 5)).drew w.heap.size w.heap.size 0 0 [] := (Own.new w (Nat.le_refl _)).alloc _
theorem own_c (w : World) : Own ((w.alloc (.cells #[] 5)).alloc (.cells #[] 5)).drew w.heap.size (w.heap.size + 1) 0 0 [] := by
  have := Own.new (base := w.heap.size) (w.alloc (.cells #[] 5)) (by simp)
  simp only [World.size_alloc] at this
  exact this

theorem mkS {w w' : World} {bf bd bk bb : Nat} {f x k : Value} (hf : w.cell? ⟨bf, 0, none⟩ = some f) (hd : w.cell? ⟨bd, 0, none⟩ = some x) (hk : w.cell? ⟨bk, 0, none⟩ = some k)
    (nf : bf ≠ bb) (nd : bd ≠ bb) (nk : bk ≠ bb) (h : Kept w bb w') :
    w'.cell? ⟨bf, 0, none⟩ = some f ∧ w'.cell? ⟨bd, 0, none⟩ = some x ∧ w'.cell? ⟨bk, 0, none⟩ = some k ∧
      w'.cell? ⟨bb, 0, none⟩ = some (cellAt w' bb) ∧ w'.frozen? ⟨bb, 0, none⟩ = false ∧ Kept w bb w' :=
  ⟨h.cell nf hf, h.cell nd hd, h.cell nk hk, h.there, h.free, h⟩

theorem unS {w w' : World} {bf bd bk bb : Nat} {f x k : Value}
    (h : w'.cell? ⟨bf, 0, none⟩ = some f ∧ w'.cell? ⟨bd, 0, none⟩ = some x ∧ w'.cell? ⟨bk, 0, none⟩ = some k ∧
      w'.cell? ⟨bb, 0, none⟩ = some (cellAt w' bb) ∧ w'.frozen? ⟨bb, 0, none⟩ = false ∧ Kept w bb w') : Kept w bb w' := h.2.2.2.2.2
theorem Kept.size {w w' : World} {bb : Nat} (h : Kept w bb w') : w.heap.size ≤ w'.heap.size := h.1.size
theorem Kept.bel {w w' : World} {bb B : Nat} (h : Kept w bb w') (hB : B ≤ bb) (hb : bb < w.heap.size) : Below B w w' :=
  ⟨h.1.os, h.1.tape, h.1.output, h.1.size, fun k hk => h.1.block k (by omega) (fun e => by injection e with e; omega)⟩

theorem Appends.call {F : Nat} {p : Addr} {k : UInt8} {d X : List UInt8} {B : Nat} {w0 : World} (h : Appends F p k d X B w0) (W : World) (base g n c : Nat) (h1 : Below B w0 W) (h2 : B ≤ W.heap.size) (h3 : base ≤ W.heap.size) (h4 : n ≤ 1000) (h5 : Own W base g n c d) :
    Calls Try.prog F #[.slice (some ⟨g, 0, none⟩) n c, .int .u8 (k.toNat : Int), .pointer (some p)] W (Grows X base g W) := h W base g n c h1 h2 h3 h4 h5

set_option maxHeartbeats 1000000 in
theorem appIn_any (F n c bf bd bk bb B : Nat) (p : Addr) (A : Option Addr) (k : UInt8) (d X : List UInt8) (w : World) (v : Value) (hent : ∀ (a : Array Value) (w : World), (callFunc F a).run Try.prog w = .ok (.enter F a) w)
    (hf : w.cell? ⟨bf, 0, none⟩ = some (.func (.func F) #[] #[.pointer (some p)])) (hd : w.cell? ⟨bd, 0, none⟩ = some (.slice A n c)) (hk : w.cell? ⟨bk, 0, none⟩ = some (.int .i64 (k.toNat : Int)))
    (nf : bf ≠ bb) (nd : bd ≠ bb) (nk : bk ≠ bb) (hbb : w.heap[bb]? = some (.cells #[v] 22 (0, 0))) (hB : B ≤ bb) (hr : Rd w B A n d) (hn : n ≤ 1000) (hF : Appends F p k d X B w) :
    Calls Try.prog 29 #[.pointer (some ⟨bf, 0, none⟩), .pointer (some ⟨bd, 0, none⟩), .pointer (some ⟨bk, 0, none⟩), .pointer (some ⟨bb, 0, none⟩)] w (LaidR X bb w) := by
  have hK : Kept w bb w := ⟨⟨rfl, rfl, rfl, Nat.le_refl _, fun _ _ _ => rfl⟩, v, hbb⟩
  have hlt := hK.lt
  have MK := Lib.hid (fun (w' : World) (h : Kept w bb w') => mkS hf hd hk nf nd nk h)
  have HF := Lib.hid hF
  have HR := Lib.hid hr
  have hkb : (k.toNat : Int) ≤ 255 := by have := k.toNat_lt; omega
  clear hF hr hbb hf hd hk
  have hwrap := u8_wrap k
  go_enter Try.func29, Try.ntmps29
  go_wp2
  go_region_held3 (fun w' => w'.cell? ⟨bf, 0, none⟩ = some (.func (.func F) #[] #[.pointer (some p)]) ∧ w'.cell? ⟨bd, 0, none⟩ = some (.slice A n c) ∧ w'.cell? ⟨bk, 0, none⟩ = some (.int .i64 (k.toNat : Int)) ∧
      w'.cell? ⟨bb, 0, none⟩ = some (cellAt w' bb) ∧ w'.frozen? ⟨bb, 0, none⟩ = false ∧ Kept w bb w')
    ((first
      | exact MK.out _ (Kept.drew (by assumption))
      | exact MK.out _ (Kept.alloc_drew (unS (by assumption)) _)
      | exact MK.out _ (Kept.alloc (unS (by assumption)) _)
      | exact MK.out _ (Kept.set (unS (by assumption)) _)
      | (exact MK.out _ k3)
      | (exact MK.out _ k2)
      | (exact MK.out _ k1)))
    ((first
      | (refine step_append0 ?_ (.tmp 6) (.tmp 7) ?_ w.heap.size w.heap.size 0 B n c A d ?_ ?_ ?_ (HR.out.below (Kept.bel ?_ hB hlt)) ?_ ?_ ?_
         · rfl
         · rfl
         · rfl
         · rfl
         · first | exact own_a w | exact own_b w
         · exact unS (by assumption)
         · omega
         · exact Kept.size (unS (by assumption))
         intro g1 c1 w1 own1 grow1 at1
         have k1 := Kept.grown (unS (by assumption)) grow1 (by simp) hlt)
      | (refine step_append0 ?_ (.tmp 6) (.tmp 7) ?_ w.heap.size (w.heap.size + 1) 0 B n c A d ?_ ?_ ?_ (HR.out.below (Kept.bel ?_ hB hlt)) ?_ ?_ ?_
         · rfl
         · rfl
         · rfl
         · rfl
         · exact own_c w
         · exact unS (by assumption)
         · omega
         · exact Kept.size (unS (by assumption))
         intro g1 c1 w1 own1 grow1 at1
         have k1 := Kept.grown (unS (by assumption)) grow1 (by simp) hlt)
      | (with_reducible refine (Appends.call HF.out _ w.heap.size g1 n c1 ?_ ?_ ?_ ?_ ?_).mono ?_
         · exact Kept.bel (unS (by assumption)) hB hlt
         · exact Nat.le_trans (Nat.le_trans hB (Nat.le_of_lt hlt)) (Kept.size (unS (by assumption)))
         · exact Kept.size (unS (by assumption))
         · exact hn
         · first | exact own1 | exact own1.alloc _
         rintro e w2 ⟨g2, n2, c2, rfl, h0, h2000, own2, grow2⟩
         have k2 := Kept.grown (unS (by assumption)) grow2 own1.form.1 hlt)
      | (refine step_append_fresh ?_ (.tmp 4) (.tmp 11) ?_ w.heap.size (w2.heap.size + 1) n2 c2 (some ⟨g2, 0, none⟩) X ?_ ?_ ?_ ?_ ?_ ?_
         · rfl
         · rfl
         · rfl
         · rfl
         · first | exact own2.rdN (Nat.lt_succ_of_lt own2.form.2.1) | exact (own2.alloc _).rdN (Nat.lt_succ_of_lt own2.form.2.1)
         · exact h0
         · omega
         intro g3 c3 w3 own3 bel3
         have k3 := Kept.below (unS (by assumption)) bel3)
      | (refine step_append_fresh ?_ (.tmp 4) (.tmp 11) ?_ (w.heap.size + 1) (w2.heap.size + 1) n2 c2 (some ⟨g2, 0, none⟩) X ?_ ?_ ?_ ?_ ?_ ?_
         · rfl
         · rfl
         · rfl
         · rfl
         · first | exact own2.rdN (Nat.lt_succ_of_lt own2.form.2.1) | exact (own2.alloc _).rdN (Nat.lt_succ_of_lt own2.form.2.1)
         · exact h0
         · omega
         intro g3 c3 w3 own3 bel3
         have k3 := Kept.below (unS (by assumption)) bel3)
      | (refine step_append_fresh ?_ (.tmp 4) (.tmp 11) ?_ w1.heap.size (w2.heap.size + 1) n2 c2 (some ⟨g2, 0, none⟩) X ?_ ?_ ?_ ?_ ?_ ?_
         · rfl
         · rfl
         · rfl
         · rfl
         · first | exact own2.rdN (Nat.lt_succ_of_lt own2.form.2.1) | exact (own2.alloc _).rdN (Nat.lt_succ_of_lt own2.form.2.1)
         · exact h0
         · omega
         intro g3 c3 w3 own3 bel3
         have k3 := Kept.below (unS (by assumption)) bel3)
      | (refine step_append_fresh ?_ (.tmp 4) (.tmp 11) ?_ w2.heap.size (w2.heap.size + 1) n2 c2 (some ⟨g2, 0, none⟩) X ?_ ?_ ?_ ?_ ?_ ?_
         · rfl
         · rfl
         · rfl
         · rfl
         · first | exact own2.rdN (Nat.lt_succ_of_lt own2.form.2.1) | exact (own2.alloc _).rdN (Nat.lt_succ_of_lt own2.form.2.1)
         · exact h0
         · omega
         intro g3 c3 w3 own3 bel3
         have k3 := Kept.below (unS (by assumption)) bel3)
      | fail))
  all_goals
    go_end0
    refine ⟨rfl, w3, g3, n2, c3, h0, h2000, k3, own3.more ?_, rfl⟩
    have e1 := own3.form.1
    have e2 := k2.size
    first
      | exact Nat.le_trans e2 e1
      | exact Nat.le_trans e2 (Nat.le_trans (World.size_le_alloc _ _) e1)
end Go.Proofs.Ytchmljpcimjpkaa
