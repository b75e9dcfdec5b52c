/-
  impl.GetString and impl.Get return the text and the bytes of the first user data of a kind, and true. Condition: there are such data; at most 1,000 bytes of data.
-/
import Derived.Test.YtchmljpcimjpkaaGot
namespace Go.Proofs.Ytchmljpcimjpkaa
open Go.RowKit
attribute [local go_sem ↓] Go.wp_at_zero Go.wp_at_succ

set_option maxHeartbeats 1000000 in
theorem gotString_any (n c : Nat) (s : ByteArray) (A : Option Addr) (k : UInt8) (d : List UInt8) (w : World) (hr : Rd w w.heap.size A n d) (hn : n ≤ 1000) (hv : look k d = some (s.data.toList ++ [0])) (hs : s.size ≤ 200) :
    Calls Try.prog 14 #[.slice A n c, .int .i64 (k.toNat : Int)] w (Two (.string s) w) := by
  have hmf : ∀ (fn : Fn) (first cap : Array Value) (w : World), (Instr.makeFunc fn first cap).run Try.prog w = .ok (.func fn first cap) w := fun _ _ _ _ => rfl
  have hkb : (k.toNat : Int) ≤ 255 := by have := k.toNat_lt; omega
  have HR := Lib.hid hr
  have HV := Lib.hid hv
  clear hr hv
  go_enter Try.func14, Try.ntmps14
  go_wp2_with fail
  obtain ⟨W, hW, b0, b1, b2, b3, b4, hsz, hbel⟩ := four_boxes w (.cells #[.slice A n c] 22) (.cells #[.int .i64 (k.toNat : Int)] 3) (.cells #[.string ⟨#[]⟩] 9) (.cells #[.bool false] 4) (.cells #[.bool false] 4)
  have HW := Lib.hid hW
  have hsz4 : w.heap.size + 1 + 1 + 1 + 1 = ((((w.alloc (.cells #[.slice A n c] 22)).alloc (.cells #[.int .i64 (k.toNat : Int)] 3)).alloc (.cells #[.string ⟨#[]⟩] 9)).alloc (.cells #[.bool false] 4)).heap.size := by simp
  have hq := in27_any n c w.heap.size (w.heap.size + 1) (w.heap.size + 1 + 1) (w.heap.size + 1 + 1 + 1) s A k d W _ _ (cell_of_one b0) (cell_of_one b1) (by omega) (by omega) (by omega) (by omega) (by omega) b2 b3 w.heap.size (by omega) (by omega) (HR.out.below hbel) hn HV.out hs
  rw [hW] at hq
  have hq2 := quietly_any 27 _ _ _ (enters27 _) hq (fun w1 h1 => h1.okcell (by omega) (by omega) (by rw [← hW, ← hsz4]; exact b4))
  clear hq b0 b2 b3 b4 hW
  refine hq2.mono ?_
  clear hq2
  rintro e w1 ⟨rfl, w2, hput, rfl⟩
  rw [← hsz4]
  rw [← HW.out] at hput
  have hst := stays_true (w.heap.size + 1 + 1) (w.heap.size + 1 + 1 + 1)
  have hcore := hput.core (w0 := w) (bk := w.heap.size + 1) (ok := w.heap.size + 1 + 1 + 1 + 1) (P := fun _ => True) b1 hbel (by omega) (by omega) (.bool true) trivial
  clear hput HW hsz4 b1 hbel hsz HR HV
  generalize w2.setCell ⟨w.heap.size + 1 + 1 + 1 + 1, 0, none⟩ (.bool true) = w3 at *
  obtain ⟨ck, cb, fb, co, fo, _⟩ := mkC hcore
  generalize hk1 : w.heap.size + 1 = bk at *
  generalize hk2 : bk + 1 = bb at *
  generalize hk3 : bb + 1 = bo at *
  have h1 : bk ≠ bb := by omega
  have h2 : bk ≠ bo := by omega
  have h3 : bb ≠ bo := by omega
  have h4 : w.heap.size ≤ bb := by omega
  have h5 : w.heap.size ≤ bo := by omega
  clear hk1 hk2 hk3
  have hwr1 := u8_wrap k
  have hwr2 := i64_wrap k
  go_wp2_with fail
  go_region_held3 (fun w' => w'.cell? ⟨bk, 0, none⟩ = some (.int .i64 (k.toNat : Int)) ∧ w'.cell? ⟨bb, 0, none⟩ = some (.string s) ∧ w'.frozen? ⟨bb, 0, none⟩ = false ∧ w'.cell? ⟨bo, 0, none⟩ = some (.bool true) ∧ w'.frozen? ⟨bo, 0, none⟩ = false ∧
      Core w bk bb bo (.int .i64 (k.toNat : Int)) (.string s) 9 (fun _ => True) w')
    ((first
      | exact mkC (Core.drew (by assumption) hst)
      | exact mkC (Core.setb (unC (by assumption)) hst h1 h3 h4)
      | exact mkC (Core.seto (unC (by assumption)) hst h2 h3 h5)
      | fail))
    (fail)
  have fin := ((hcore.setb hst h1 h3 h4).seto hst h2 h3 h5).drew hst
  generalize ((w3.setCell ⟨bb, 0, none⟩ (.string s)).setCell ⟨bo, 0, none⟩ (.bool true)).drew = w4 at *
  clear hcore ck cb fb co fo
  obtain ⟨_, cb, _, co, _, _⟩ := mkC fin
  go_wp2_with fail
  exact bodyPost_ret (v := .tuple #[.string s, .bool true]) (by simp [results, Try.results14, go_sem, cb, co]) rfl ⟨rfl, fin.bel⟩
/-- A slice of the call's own that holds v comes back, and 'true'. -/
def TwoS (v : List UInt8) (w : World) (e : Ending) (w' : World) : Prop :=
  ∃ g n c, e = .returned (.tuple #[.slice (some ⟨g, 0, none⟩) n c, .bool true]) ∧ Own w' w.heap.size g n c v ∧ Below w.heap.size w w'

set_option maxHeartbeats 1000000 in
theorem got_any (n c : Nat) (v : List UInt8) (A : Option Addr) (k : UInt8) (d : List UInt8) (w : World) (hr : Rd w w.heap.size A n d) (hn : n ≤ 1000) (hv : look k d = some v) (hl : v.length ≤ 300) :
    Calls Try.prog 12 #[.slice A n c, .int .i64 (k.toNat : Int)] w (TwoS v w) := by
  have hmf : ∀ (fn : Fn) (first cap : Array Value) (w : World), (Instr.makeFunc fn first cap).run Try.prog w = .ok (.func fn first cap) w := fun _ _ _ _ => rfl
  have hkb : (k.toNat : Int) ≤ 255 := by have := k.toNat_lt; omega
  have HR := Lib.hid hr
  have HV := Lib.hid hv
  clear hr hv
  go_enter Try.func12, Try.ntmps12
  go_wp2_with fail
  obtain ⟨W, hW, b0, b1, b2, b3, b4, hsz, hbel⟩ := four_boxes w (.cells #[.slice A n c] 22) (.cells #[.int .i64 (k.toNat : Int)] 3) (.cells #[.slice none 0 0] 22) (.cells #[.bool false] 4) (.cells #[.bool false] 4)
  have HW := Lib.hid hW
  have hsz4 : w.heap.size + 1 + 1 + 1 + 1 = ((((w.alloc (.cells #[.slice A n c] 22)).alloc (.cells #[.int .i64 (k.toNat : Int)] 3)).alloc (.cells #[.slice none 0 0] 22)).alloc (.cells #[.bool false] 4)).heap.size := by simp
  have hq := in23_any n c w.heap.size (w.heap.size + 1) (w.heap.size + 1 + 1) (w.heap.size + 1 + 1 + 1) v A k d W _ _ (cell_of_one b0) (cell_of_one b1) (by omega) (by omega) (by omega) (by omega) (by omega) b2 b3 w.heap.size (by omega) (by omega) (HR.out.below hbel) hn HV.out hl
  rw [hW] at hq
  have hq2 := quietly_any 23 _ _ _ (enters23 _) hq (fun w1 h1 => let ⟨_, _, _, hp, _, _⟩ := h1; hp.okcell (by omega) (by omega) (by rw [← hW, ← hsz4]; exact b4))
  clear hq b0 b2 b3 b4 hW
  refine hq2.mono ?_
  clear hq2
  rintro e w1 ⟨rfl, w2, ⟨g3, n3, c3, hput, hn3, hown3⟩, rfl⟩
  rw [← hsz4]
  rw [← HW.out] at hput
  rw [← HW.out] at hown3
  have hg3 := hown3.form.1
  have hst := stays_own (base := W.heap.size) (n := n3) (c := c3) (v := v) (bb := w.heap.size + 1 + 1) (bo := w.heap.size + 1 + 1 + 1) (g := g3) (by omega) (by omega)
  have hcore := hput.core (w0 := w) (bk := w.heap.size + 1) (ok := w.heap.size + 1 + 1 + 1 + 1) (P := fun w => Own w W.heap.size g3 n3 c3 v) b1 hbel (by omega) (by omega) (.bool true) (hown3.set (by omega) _)
  have hgw : w.heap.size ≤ g3 := by omega
  clear hput HW hsz4 b1 hbel hsz HR HV hown3 hg3
  generalize w2.setCell ⟨w.heap.size + 1 + 1 + 1 + 1, 0, none⟩ (.bool true) = w3 at *
  obtain ⟨ck, cb, fb, co, fo, _⟩ := mkC hcore
  generalize hk1 : w.heap.size + 1 = bk at *
  generalize hk2 : bk + 1 = bb at *
  generalize hk3 : bb + 1 = bo at *
  have h1 : bk ≠ bb := by omega
  have h2 : bk ≠ bo := by omega
  have h3 : bb ≠ bo := by omega
  have h4 : w.heap.size ≤ bb := by omega
  have h5 : w.heap.size ≤ bo := by omega
  clear hk1 hk2 hk3
  have hwr1 := u8_wrap k
  have hwr2 := i64_wrap k
  go_wp2_with fail
  go_region_held3 (fun w' => w'.cell? ⟨bk, 0, none⟩ = some (.int .i64 (k.toNat : Int)) ∧ w'.cell? ⟨bb, 0, none⟩ = some (.slice (some ⟨g3, 0, none⟩) n3 c3) ∧ w'.frozen? ⟨bb, 0, none⟩ = false ∧ w'.cell? ⟨bo, 0, none⟩ = some (.bool true) ∧ w'.frozen? ⟨bo, 0, none⟩ = false ∧
      Core w bk bb bo (.int .i64 (k.toNat : Int)) (.slice (some ⟨g3, 0, none⟩) n3 c3) 22 (fun w => Own w W.heap.size g3 n3 c3 v) w')
    ((first
      | exact mkC (Core.drew (by assumption) hst)
      | exact mkC (Core.setb (unC (by assumption)) hst h1 h3 h4)
      | exact mkC (Core.seto (unC (by assumption)) hst h2 h3 h5)
      | fail))
    (fail)
  have fin := ((hcore.setb hst h1 h3 h4).seto hst h2 h3 h5).drew hst
  generalize ((w3.setCell ⟨bb, 0, none⟩ (.slice (some ⟨g3, 0, none⟩) n3 c3)).setCell ⟨bo, 0, none⟩ (.bool true)).drew = w4 at *
  clear hcore ck cb fb co fo
  obtain ⟨_, cb, _, co, _, _⟩ := mkC fin
  go_wp2_with fail
  exact bodyPost_ret (v := .tuple #[.slice (some ⟨g3, 0, none⟩) n3 c3, .bool true]) (by simp [results, Try.results12, go_sem, cb, co]) rfl ⟨g3, n3, c3, rfl, fin.p.more hgw, fin.bel⟩
end Go.Proofs.Ytchmljpcimjpkaa
