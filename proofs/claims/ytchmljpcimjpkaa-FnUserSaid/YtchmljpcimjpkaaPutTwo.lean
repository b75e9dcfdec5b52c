/-
  The functions that impl.GetString and impl.Get hand to impl.quietly lay the answer and 'true' into the results' variables. Condition: the data have such an answer of that kind.
-/
import Derived.Test.YtchmljpcimjpkaaPut
namespace Go.Proofs.Ytchmljpcimjpkaa
open Go.RowKit
attribute [local go_sem ↓] Go.wp_at_zero Go.wp_at_succ

set_option maxHeartbeats 1000000 in
theorem in27_any (n c bd bk bb bo : Nat) (s : ByteArray) (A : Option Addr) (k : UInt8) (d : List UInt8) (w : World) (vb vo : Value)
    (hd : w.cell? ⟨bd, 0, none⟩ = some (.slice A n c)) (hk : w.cell? ⟨bk, 0, none⟩ = some (.int .i64 (k.toNat : Int)))
    (d1 : bd ≠ bb) (d2 : bd ≠ bo) (k1 : bk ≠ bb) (k2 : bk ≠ bo) (hne : bb ≠ bo) (hbb : w.heap[bb]? = some (.cells #[vb] 9 (0, 0))) (hbo : w.heap[bo]? = some (.cells #[vo] 4 (0, 0)))
    (B : Nat) (hB1 : B ≤ bb) (hB2 : B ≤ bo) (hr : Rd w B A n d) (hn : n ≤ 1000) (hv : look k d = some (s.data.toList ++ [0])) (hs : s.size ≤ 200) :
    Calls Try.prog 27 #[.pointer (some ⟨bd, 0, none⟩), .pointer (some ⟨bk, 0, none⟩), .pointer (some ⟨bb, 0, none⟩), .pointer (some ⟨bo, 0, none⟩)] w (PutR w bb 9 bo (.string s)) := by
  have hK : Kept2 w bb 9 bo w := ⟨rfl, rfl, rfl, Nat.le_refl _, fun _ _ _ _ => rfl, ⟨_, hbb⟩, ⟨_, hbo⟩⟩
  have hlb := hK.ltb
  have hlo := hK.lto
  have MK := Lib.hid (fun (w' : World) (h : Kept2 w bb 9 bo w') => mkT hd hk d1 d2 k1 k2 h)
  have HR := Lib.hid hr
  have HV := Lib.hid hv
  have hkb : (k.toNat : Int) ≤ 255 := by have := k.toNat_lt; omega
  have hwrap := u8_wrap k
  clear hr hbb hbo hd hk hv
  go_enter Try.func27, Try.ntmps27
  go_wp2
  go_region_held3 (fun w' => w'.cell? ⟨bd, 0, none⟩ = some (.slice A n c) ∧ w'.cell? ⟨bk, 0, none⟩ = some (.int .i64 (k.toNat : Int)) ∧ w'.cell? ⟨bb, 0, none⟩ = some (cellAt w' bb) ∧ w'.frozen? ⟨bb, 0, none⟩ = false ∧ w'.cell? ⟨bo, 0, none⟩ = some (cellAt w' bo) ∧ w'.frozen? ⟨bo, 0, none⟩ = false ∧ Kept2 w bb 9 bo w')
    ((first
      | exact MK.out _ (Kept2.drew (by assumption))
      | exact MK.out _ (Kept2.alloc_drew (unT (by assumption)) _)
      | exact MK.out _ (Kept2.setb (unT (by assumption)) hne _)
      | exact MK.out _ (Kept2.seto (unT (by assumption)) hne _)
      | (exact MK.out _ m2)
      | (exact MK.out _ m1)
      | fail))
    ((first
      | (refine step_append0 ?_ (.tmp 5) (.tmp 6) ?_ w.heap.size w.heap.size 0 B n c A d ?_ ?_ (own_a w) (HR.out.below (Kept2.bel (tb := 9) ?_ hB1 hB2 ?_)) ?_ ?_ ?_
         · rfl
         · rfl
         · rfl
         · rfl
         · exact unT (by assumption)
         · omega
         · omega
         · exact Kept2.size (tb := 9) (bb := bb) (bo := bo) (unT (by assumption))
         intro g1 c1 w1 own1 grow1 at1
         have m1 := Kept2.grown (unT (by assumption)) grow1 (Nat.le_refl _) hlb hlo)
      | (with_reducible refine (getString_any (some ⟨g1, 0, none⟩) n c1 s k d _ own1.rd ?_ ?_ HV.out hs).mono ?_
         · exact own1.form.2.2.1
         · omega
         rintro e w2 ⟨rfl, q, rfl⟩
         have m2 := m1.drewN q)
      | fail))
  go_end0
  exact ⟨rfl, Put.bo m2 hne _⟩
/-- A slice of the call's own that holds v lies in bb, 'true' in bo; nothing comes back. -/
def PutS (w0 : World) (bb : Nat) (bo : Nat) (v : List UInt8) (e : Ending) (w : World) : Prop :=
  e = .returned (.tuple #[]) ∧ ∃ g n c, Put w0 bb 22 bo (.slice (some ⟨g, 0, none⟩) n c) w ∧ n ≤ 300 ∧ Own w w0.heap.size g n c v

set_option maxHeartbeats 1000000 in
theorem in23_any (n c bd bk bb bo : Nat) (v : List UInt8) (A : Option Addr) (k : UInt8) (d : List UInt8) (w : World) (vb vo : Value)
    (hd : w.cell? ⟨bd, 0, none⟩ = some (.slice A n c)) (hk : w.cell? ⟨bk, 0, none⟩ = some (.int .i64 (k.toNat : Int)))
    (d1 : bd ≠ bb) (d2 : bd ≠ bo) (k1 : bk ≠ bb) (k2 : bk ≠ bo) (hne : bb ≠ bo) (hbb : w.heap[bb]? = some (.cells #[vb] 22 (0, 0))) (hbo : w.heap[bo]? = some (.cells #[vo] 4 (0, 0)))
    (B : Nat) (hB1 : B ≤ bb) (hB2 : B ≤ bo) (hr : Rd w B A n d) (hn : n ≤ 1000) (hv : look k d = some v) (hl : v.length ≤ 300) :
    Calls Try.prog 23 #[.pointer (some ⟨bd, 0, none⟩), .pointer (some ⟨bk, 0, none⟩), .pointer (some ⟨bb, 0, none⟩), .pointer (some ⟨bo, 0, none⟩)] w (PutS w bb bo v) := by
  have hK : Kept2 w bb 22 bo w := ⟨rfl, rfl, rfl, Nat.le_refl _, fun _ _ _ _ => rfl, ⟨_, hbb⟩, ⟨_, hbo⟩⟩
  have hlb := hK.ltb
  have hlo := hK.lto
  have MK := Lib.hid (fun (w' : World) (h : Kept2 w bb 22 bo w') => mkT hd hk d1 d2 k1 k2 h)
  have HR := Lib.hid hr
  have HV := Lib.hid hv
  have hkb : (k.toNat : Int) ≤ 255 := by have := k.toNat_lt; omega
  have hwrap := u8_wrap k
  clear hr hbb hbo hd hk hv
  go_enter Try.func23, Try.ntmps23
  go_wp2
  go_region_held3 (fun w' => w'.cell? ⟨bd, 0, none⟩ = some (.slice A n c) ∧ w'.cell? ⟨bk, 0, none⟩ = some (.int .i64 (k.toNat : Int)) ∧ w'.cell? ⟨bb, 0, none⟩ = some (cellAt w' bb) ∧ w'.frozen? ⟨bb, 0, none⟩ = false ∧ w'.cell? ⟨bo, 0, none⟩ = some (cellAt w' bo) ∧ w'.frozen? ⟨bo, 0, none⟩ = false ∧ Kept2 w bb 22 bo w')
    ((first
      | exact MK.out _ (Kept2.drew (by assumption))
      | exact MK.out _ (Kept2.alloc_drew (unT (by assumption)) _)
      | exact MK.out _ (Kept2.setb (unT (by assumption)) hne _)
      | exact MK.out _ (Kept2.seto (unT (by assumption)) hne _)
      | (exact MK.out _ m1)
      | fail))
    ((first
      | (refine step_append0 ?_ (.tmp 5) (.tmp 6) ?_ w.heap.size w.heap.size 0 B n c A d ?_ ?_ (own_a w) (HR.out.below (Kept2.bel (tb := 22) ?_ hB1 hB2 ?_)) ?_ ?_ ?_
         · rfl
         · rfl
         · rfl
         · rfl
         · exact unT (by assumption)
         · omega
         · omega
         · exact Kept2.size (tb := 22) (bb := bb) (bo := bo) (unT (by assumption))
         intro g1 c1 w1 own1 grow1 at1
         have m1 := Kept2.grown (unT (by assumption)) grow1 (Nat.le_refl _) hlb hlo)
      | (with_reducible refine (get_any (some ⟨g1, 0, none⟩) n c1 k d v _ own1.rd ?_ ?_ HV.out).mono ?_
         · exact own1.form.2.2.1
         · omega
         rintro e w2 ⟨b3, off3, n3, c3, rfl, hc3, hr3, rfl⟩)
      | fail))
  have hneq := fun (w : World) (a : Option Addr) (n c : Nat) => run_neq_slice_nil_any (P := Try.prog) w 22 5 a n c 0 0 Try.underlying22
  have hsz1 := m1.size
  have hl3 : n3 ≤ 300 := by rw [← hr3.1]; exact hl
  go_wp2_with (first
    | (at_builtin
       refine wpList_append8 rfl (.tmp 11) (.tmp 12) rfl w1.heap.size w1.heap.size 0 0 w1.heap.size n3 c3 (some ⟨b3, off3, none⟩) [] v rfl rfl (Own.new w1 (Nat.le_refl _)) (hr3.alloc (Nat.le_refl _) _) ?_ ?_ ?_
       · omega
       · simp
       intro g4 c4 w4 own4 grow4 at4
       simp only [Nat.zero_add, List.nil_append] at own4
       have m4 := Kept2.grown (m1.alloc (.cells #[] 5)) grow4 m1.size hlb hlo
       have tb4 := m4.thereb
       have fb4 := m4.freeb
       have to4 := m4.thereo
       have fo4 := m4.freeo))
  go_end0
  have hg4 := own4.form.1
  exact ⟨rfl, g4, n3, c4, Put.bo m4 hne _, hl3, ((own4.more (Nat.le_trans hsz1 hg4)).set (by omega) _).set (by omega) _⟩
end Go.Proofs.Ytchmljpcimjpkaa
