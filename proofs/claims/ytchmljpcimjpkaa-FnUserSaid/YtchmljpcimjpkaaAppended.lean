/-
  impl.appended returns what the function that it is given makes of the data, in memory of the call's own. Conditions: at most 1,000 bytes of data; the kind is a byte.
-/
import Derived.Test.YtchmljpcimjpkaaAppIn
namespace Go.Proofs.Ytchmljpcimjpkaa
open Go.RowKit

theorem Appends.later {F : Nat} {p : Addr} {k : UInt8} {d X : List UInt8} {B : Nat} {w0 w1 : World} (h : Appends F p k d X B w0) (hb : Below B w0 w1) : Appends F p k d X B w1 :=
  fun W base g n c h1 h2 h3 h4 h5 => h W base g n c (hb.trans h1) h2 h3 h4 h5

theorem four_boxes (w : World) (o0 o1 o2 o3 o4 : Obj) : ∃ W, W = ((((w.alloc o0).alloc o1).alloc o2).alloc o3).alloc o4 ∧ W.heap[w.heap.size]? = some o0 ∧ W.heap[w.heap.size + 1]? = some o1 ∧ W.heap[w.heap.size + 1 + 1]? = some o2 ∧
    W.heap[w.heap.size + 1 + 1 + 1]? = some o3 ∧ W.heap[w.heap.size + 1 + 1 + 1 + 1]? = some o4 ∧ W.heap.size = w.heap.size + 1 + 1 + 1 + 1 + 1 ∧ Below w.heap.size w W := by
  refine ⟨_, rfl, ?_, ?_, ?_, ?_, ?_, by simp, ?_⟩
  · rw [Below.heap_alloc _ _ _ (by simp <;> omega), Below.heap_alloc _ _ _ (by simp <;> omega), Below.heap_alloc _ _ _ (by simp <;> omega), Below.heap_alloc _ _ _ (by simp)]
    exact heap_alloc_new w o0
  · rw [Below.heap_alloc _ _ _ (by simp <;> omega), Below.heap_alloc _ _ _ (by simp <;> omega), Below.heap_alloc _ _ _ (by simp)]
    have := heap_alloc_new (w.alloc o0) o1
    simpa only [World.size_alloc] using this
  · rw [Below.heap_alloc _ _ _ (by simp <;> omega), Below.heap_alloc _ _ _ (by simp)]
    have := heap_alloc_new ((w.alloc o0).alloc o1) o2
    simpa only [World.size_alloc] using this
  · rw [Below.heap_alloc _ _ _ (by simp)]
    have := heap_alloc_new (((w.alloc o0).alloc o1).alloc o2) o3
    simpa only [World.size_alloc] using this
  · have := heap_alloc_new ((((w.alloc o0).alloc o1).alloc o2).alloc o3) o4
    simpa only [World.size_alloc] using this
  · exact (((((Below.refl _ _).alloc (Nat.le_refl _) _).alloc (by simp) _).alloc (by simp; omega) _).alloc (by simp; omega) _).alloc (by simp; omega) _

theorem Own.set {w : World} {base g n cap : Nat} {l : List UInt8} (h : Own w base g n cap l) {b : Nat} (hb : b ≠ g) (u : Value) : Own (w.setCell ⟨b, 0, none⟩ u) base g n cap l :=
  h.same (Below.heap_setCell _ _ _ _ (fun e => hb e.symm))
/-- Behind impl.quietly: the variable bb, and what else stands. -/
theorem Laid.after {X : List UInt8} {bb ok H : Nat} {w w1 : World} (h : Laid X bb w w1) (hne : ok ≠ bb) (hbb : bb < w.heap.size) (hok : ok < w.heap.size) (h1 : H ≤ bb) (h2 : H ≤ ok) (u : Value) :
    ∃ g n2 c2, 0 < n2 ∧ n2 ≤ 2000 ∧ (w1.setCell ⟨ok, 0, none⟩ u).heap[bb]? = some (.cells #[.slice (some ⟨g, 0, none⟩) n2 c2] 22 (0, 0)) ∧ w.heap.size ≤ g ∧
      Own (w1.setCell ⟨ok, 0, none⟩ u) w.heap.size g n2 c2 X ∧ Below H w (w1.setCell ⟨ok, 0, none⟩ u) := by
  obtain ⟨w2, g, n2, c2, a1, a2, a3, a4, rfl⟩ := h
  have hg := a4.form.1
  refine ⟨g, n2, c2, a1, a2, ?_, hg, (a4.set (by omega) _).set (by omega) _, ?_⟩
  · rw [Below.heap_setCell _ _ _ _ (fun e => hne e.symm)]
    obtain ⟨_, v, hv⟩ := a3
    exact one_setCell hv
  · exact ((a3.bel h1 hbb).setCell h1 _).setCell h2 _
theorem Laid.ok {X : List UInt8} {bb ok : Nat} {w w1 : World} {o : Obj} (h : Laid X bb w w1) (hne : ok ≠ bb) (hok : w.heap[ok]? = some o) : w1.heap[ok]? = some o := by
  obtain ⟨w2, g, n2, c2, a1, a2, a3, a4, rfl⟩ := h
  rw [Below.heap_setCell _ _ _ _ hne]
  exact (a3.1.block ok (Array.getElem?_eq_some_iff.1 hok).1 (fun e => hne (by injection e))).trans hok

/-- A slice of the call's own that holds X comes back; what was there is as it was. -/
def Makes (X : List UInt8) (w : World) (e : Ending) (w' : World) : Prop :=
  ∃ g n2 c2, e = .returned (.slice (some ⟨g, 0, none⟩) n2 c2) ∧ 0 < n2 ∧ n2 ≤ 2000 ∧ Own w' w.heap.size g n2 c2 X ∧ Below w.heap.size w w'

theorem enters29 : ∀ (a : Array Value) (w : World), (callFunc 29 a).run Try.prog w = .ok (.enter 29 a) w := enters Try.func29 (by kernel_rfl) rfl

set_option maxHeartbeats 1000000 in
theorem appended_any (F n c : Nat) (p : Addr) (A : Option Addr) (k : UInt8) (d X : List UInt8) (w : World) (hent : ∀ (a : Array Value) (w : World), (callFunc F a).run Try.prog w = .ok (.enter F a) w)
    (hr : Rd w w.heap.size A n d) (hn : n ≤ 1000) (hF : Appends F p k d X w.heap.size w) :
    Calls Try.prog 15 #[.slice A n c, .int .i64 (k.toNat : Int), .func (.func F) #[] #[.pointer (some p)]] w (Makes X w) := by
  have hmf : ∀ (fn : Fn) (first cap : Array Value) (w : World), (Instr.makeFunc fn first cap).run Try.prog w = .ok (.func fn first cap) w := fun _ _ _ _ => rfl
  have hkb : (k.toNat : Int) ≤ 255 := by have := k.toNat_lt; omega
  have HF := Lib.hid hF
  have HR := Lib.hid hr
  clear hF hr
  have HE := Lib.hid hent
  clear hent
  go_enter Try.func15, Try.ntmps15
  go_wp2_with fail
  obtain ⟨W, hW, b0, b1, b2, b3, b4, hsz, hbel⟩ := four_boxes w (.cells #[.slice A n c] 22) (.cells #[.int .i64 (k.toNat : Int)] 3) (.cells #[.func (.func F) #[] #[.pointer (some p)]] 41) (.cells #[.slice none 0 0] 22) (.cells #[.bool false] 4)
  have HW := Lib.hid hW
  have hsz4 : w.heap.size + 1 + 1 + 1 + 1 = ((((w.alloc (.cells #[.slice A n c] 22)).alloc (.cells #[.int .i64 (k.toNat : Int)] 3)).alloc (.cells #[.func (.func F) #[] #[.pointer (some p)]] 41)).alloc (.cells #[.slice none 0 0] 22)).heap.size := by simp
  have hq := appIn_any F n c (w.heap.size + 1 + 1) w.heap.size (w.heap.size + 1) (w.heap.size + 1 + 1 + 1) w.heap.size p A k d X W _ HE.out (cell_of_one b2) (cell_of_one b0) (cell_of_one b1) (by omega) (by omega) (by omega) b3 (by omega) (HR.out.below hbel) hn (HF.out.later hbel)
  rw [hW] at hq
  have hq2 := quietly_any 29 _ _ _ (enters29 _) hq (fun w1 h1 => h1.ok (by omega) (by rw [← hW, ← hsz4]; exact b4))
  clear hq b0 b1 b2 b3 b4 hW
  refine hq2.mono ?_
  clear hq2
  rintro e w1 ⟨rfl, w2, hlaid, rfl⟩
  rw [← hsz4]
  rw [← HW.out] at hlaid
  obtain ⟨g, n2, c2, h0, h2000, hcb, hg, own, bel⟩ := hlaid.after (ok := w.heap.size + 1 + 1 + 1 + 1) (H := w.heap.size) (by omega) (by omega) (by omega) (by omega) (by omega) (.bool true)
  clear hlaid HW hsz4
  generalize w2.setCell ⟨w.heap.size + 1 + 1 + 1 + 1, 0, none⟩ (.bool true) = w3 at *
  have hc := cell_of_one hcb
  have hf := free_of_one hcb
  have OWN := Lib.hid own
  have BEL := Lib.hid (hbel.trans bel)
  have hgB : w.heap.size + 1 + 1 + 1 < g := by omega
  clear own bel hbel hcb hg hsz
  go_wp2_with fail
  have hc2 : (w3.setCell ⟨w.heap.size + 1 + 1 + 1, 0, none⟩ (.slice (some ⟨g, 0, none⟩) n2 c2)).cell? ⟨w.heap.size + 1 + 1 + 1, 0, none⟩ = some (.slice (some ⟨g, 0, none⟩) n2 c2) := World.cell?_setCell_same _ _ _ hc
  refine bodyPost_ret (v := .slice (some ⟨g, 0, none⟩) n2 c2) (by simp [results, Try.results15, go_sem, hc2]) rfl ⟨g, n2, c2, rfl, h0, h2000, (OWN.out.more (by omega)).set (by omega) _, BEL.out.setCell (by simp; omega) _⟩
end Go.Proofs.Ytchmljpcimjpkaa
