/-
  impl.UserAppend, UserUint32 and UserString return the data with one more of a kind behind them; laws.works returns true. Conditions: at most 1,000 bytes of data, 255 of value, 200 of text.
-/
import Derived.Test.YtchmljpcimjpkaaAppended
namespace Go.Proofs.Ytchmljpcimjpkaa
open Go.RowKit

theorem enters16 : ∀ (a : Array Value) (w : World), (callFunc 16 a).run Try.prog w = .ok (.enter 16 a) w := enters Try.func16 (by kernel_rfl) rfl
theorem enters18 : ∀ (a : Array Value) (w : World), (callFunc 18 a).run Try.prog w = .ok (.enter 18 a) w := enters Try.func18 (by kernel_rfl) rfl
theorem enters20 : ∀ (a : Array Value) (w : World), (callFunc 20 a).run Try.prog w = .ok (.enter 20 a) w := enters Try.func20 (by kernel_rfl) rfl
theorem cell_new (w : World) (v : Value) (t : TypeId) : (w.alloc (.cells #[v] t)).cell? ⟨w.heap.size, 0, none⟩ = some v := cell_of_one (heap_alloc_new w _)
theorem Makes.later {X : List UInt8} {w : World} {o : Obj} {e : Ending} {w' : World} (h : Makes X (w.alloc o) e w') : Makes X w e w' := by
  obtain ⟨g, n2, c2, rfl, h0, h2, own, bel⟩ := h
  have hsz : w.heap.size ≤ (w.alloc o).heap.size := by simp
  exact ⟨g, n2, c2, rfl, h0, h2, own.more (Nat.le_trans hsz own.form.1), ((Below.refl _ _).alloc (Nat.le_refl _) o).trans (bel.mono hsz)⟩

set_option maxHeartbeats 400000 in
theorem userAppend_any (A A' : Option Addr) (n c m c' : Nat) (k : UInt8) (d v : List UInt8) (w : World) (hd : Rd w w.heap.size A n d) (hv : Rd w w.heap.size A' m v) (hn : n ≤ 1000) (hm : m ≤ 255) :
    Calls Try.prog 8 #[.slice A n c, .int .i64 (k.toNat : Int), .slice A' m c'] w (Makes (d ++ [k, UInt8.ofNat m] ++ v) w) := by
  have hmf : ∀ (fn : Fn) (first cap : Array Value) (w : World), (Instr.makeFunc fn first cap).run Try.prog w = .ok (.func fn first cap) w := fun _ _ _ _ => rfl
  have hF := clos16 w.heap.size m c' A' k d v (w.alloc (.cells #[.slice A' m c'] 22)).heap.size (w.alloc (.cells #[.slice A' m c'] 22)) (by simp) (cell_new w _ _) ((hv.alloc (Nat.le_refl _) _).more (by simp)) hm
  have HA := Lib.hid (appended_any 16 n c ⟨w.heap.size, 0, none⟩ A k d _ (w.alloc (.cells #[.slice A' m c'] 22)) enters16 ((hd.alloc (Nat.le_refl _) _).more (by simp)) hn hF)
  clear hF hd hv
  go_enter Try.func8, Try.ntmps8
  go_wp2_with (go_at_call 15; refine HA.out.mono ?_; rintro e w1 h1; obtain ⟨g, n2, c2, rfl, h0, h2, own, bel⟩ := h1.later)
  go_ret
  exact ⟨g, n2, c2, rfl, h0, h2, own, bel⟩

set_option maxHeartbeats 400000 in
theorem userUint32_any (A : Option Addr) (n c x : Nat) (k : UInt8) (d : List UInt8) (w : World) (hd : Rd w w.heap.size A n d) (hn : n ≤ 1000) (hx : x < 4294967296) :
    Calls Try.prog 10 #[.slice A n c, .int .i64 (k.toNat : Int), .int .u32 (x : Int)] w (Makes (d ++ [k, UInt8.ofNat 4] ++ four x) w) := by
  have hmf : ∀ (fn : Fn) (first cap : Array Value) (w : World), (Instr.makeFunc fn first cap).run Try.prog w = .ok (.func fn first cap) w := fun _ _ _ _ => rfl
  have hF := clos18 w.heap.size x k d (w.alloc (.cells #[.int .u32 (x : Int)] 23)).heap.size (w.alloc (.cells #[.int .u32 (x : Int)] 23)) (by simp) (cell_new w _ _) hx
  have HA := Lib.hid (appended_any 18 n c ⟨w.heap.size, 0, none⟩ A k d _ (w.alloc (.cells #[.int .u32 (x : Int)] 23)) enters18 ((hd.alloc (Nat.le_refl _) _).more (by simp)) hn hF)
  clear hF hd
  go_enter Try.func10, Try.ntmps10
  go_wp2_with (go_at_call 15; refine HA.out.mono ?_; rintro e w1 h1; obtain ⟨g, n2, c2, rfl, h0, h2, own, bel⟩ := h1.later)
  go_ret
  exact ⟨g, n2, c2, rfl, h0, h2, own, bel⟩

set_option maxHeartbeats 400000 in
theorem userString_any (A : Option Addr) (n c : Nat) (s : ByteArray) (k : UInt8) (d : List UInt8) (w : World) (hd : Rd w w.heap.size A n d) (hn : n ≤ 1000) (hs : s.size ≤ 200) :
    Calls Try.prog 11 #[.slice A n c, .int .i64 (k.toNat : Int), .string s] w (Makes (d ++ [k, UInt8.ofNat (s.size + 1)] ++ (s.data.toList ++ [0])) w) := by
  have hmf : ∀ (fn : Fn) (first cap : Array Value) (w : World), (Instr.makeFunc fn first cap).run Try.prog w = .ok (.func fn first cap) w := fun _ _ _ _ => rfl
  have hF := clos20 w.heap.size s k d (w.alloc (.cells #[.string s] 9)).heap.size (w.alloc (.cells #[.string s] 9)) (by simp) (cell_new w _ _) hs
  have HA := Lib.hid (appended_any 20 n c ⟨w.heap.size, 0, none⟩ A k d _ (w.alloc (.cells #[.string s] 9)) enters20 ((hd.alloc (Nat.le_refl _) _).more (by simp)) hn hF)
  clear hF hd
  go_enter Try.func11, Try.ntmps11
  go_wp2_with (go_at_call 15; refine HA.out.mono ?_; rintro e w1 h1; obtain ⟨g, n2, c2, rfl, h0, h2, own, bel⟩ := h1.later)
  go_ret
  exact ⟨g, n2, c2, rfl, h0, h2, own, bel⟩

/-- 'true' comes back; what was there is as it was. -/
def Yes (w : World) (e : Ending) (w' : World) : Prop := e = .returned (.bool true) ∧ Below w.heap.size w w'

theorem back_text {w : World} {B n b off : Nat} {l : List UInt8} (c : Nat) (h : Rd w B (some ⟨b, off, none⟩) n l) : (convert 22 9 (.slice (some ⟨b, off, none⟩) n c)).run Try.prog w = .ok (.string ⟨l.toArray⟩) w := by
  have hl := h.1
  subst hl
  refine run_convert_bytes_back (P := Try.prog) w 22 9 5 ⟨b, off, none⟩ c l Try.underlying22 Try.underlying5 Try.underlying9 (fun j hj => ?_)
  rw [add_flat]
  obtain ⟨b', off', e, _, hc⟩ := h.at_ (by omega)
  injection e with e
  injection e with e1 e2
  subst e1 e2
  exact hc j _ (List.getElem?_eq_getElem hj)

set_option maxHeartbeats 400000 in
theorem works_any (w : World) : Calls Try.prog 5 #[] w (Yes w) := by
  have HA := fun w => Lib.hid (userAppend_any none (some ⟨w.heap.size, 0, none⟩) 0 0 1 1 1 [] [2] (w.alloc (.cells #[.int .u8 2] 5)) Rd.nil ((Own.lit (base := 0) w #[.int .u8 2] [2] (Nat.zero_le _) (by simp [bv]) (by simp [maxLen])).rdN (by simp)) (by omega) (by omega))
  go_enter Try.func5, Try.ntmps5
  go_wp2_with (go_at_call 8; refine (HA w).out.mono ?_; rintro e w1 h1; obtain ⟨g, n2, c2, rfl, h0, h2, own, bel⟩ := h1.later; have hcv := back_text c2 own.rd)
  go_ret
  exact ⟨rfl, bel⟩
end Go.Proofs.Ytchmljpcimjpkaa
