/-
  The functions that impl.UserAppend, UserUint32 and UserString hand to impl.appended make the appended data. Conditions: as for the functions that they call.
-/
import Derived.Test.YtchmljpcimjpkaaAppTwo
import Derived.Test.YtchmljpcimjpkaaQuietly
namespace Go.Proofs.Ytchmljpcimjpkaa
open Go.RowKit

/-- A slice of the call's own comes back that holds X; what was there is as it was, but for row g. -/
def Grows (X : List UInt8) (base g : Nat) (W : World) (e : Ending) (w' : World) : Prop :=
  ∃ g2 n2 c2, e = .returned (.slice (some ⟨g2, 0, none⟩) n2 c2) ∧ 0 < n2 ∧ n2 ≤ 2000 ∧ Own w' base g2 n2 c2 X ∧ W.grownBy w' (some g)
/-- Function F, which has captured the variable at p, makes X of the data d. -/
def Appends (F : Nat) (p : Addr) (k : UInt8) (d X : List UInt8) (B : Nat) (w0 : World) : Prop :=
  ∀ (W : World) (base g n c : Nat), Below B w0 W → B ≤ W.heap.size → base ≤ W.heap.size → n ≤ 1000 → Own W base g n c d →
    Calls Try.prog F #[.slice (some ⟨g, 0, none⟩) n c, .int .u8 (k.toNat : Int), .pointer (some p)] W (Grows X base g W)

set_option maxHeartbeats 400000 in
theorem clos16 (b m c' : Nat) (A' : Option Addr) (k : UInt8) (d v : List UInt8) (B : Nat) (w0 : World) (hb : b < B) (hc : w0.cell? ⟨b, 0, none⟩ = some (.slice A' m c')) (hv : Rd w0 B A' m v) (hm : m ≤ 255) :
    Appends 16 ⟨b, 0, none⟩ k d (d ++ [k, UInt8.ofNat m] ++ v) B w0 := by
  intro W base g n c hbel hBW hbase hn hown
  have hg := hown.form.2.1
  have hcell : W.cell? ⟨b, 0, none⟩ = some (.slice A' m c') := (hbel.cell (p := ⟨b, 0, none⟩) hb).trans hc
  have hv' := (hv.below hbel).more hBW
  have hbW : b < W.heap.size := Nat.lt_of_lt_of_le hb hBW
  clear hc hv hbel
  go_enter Try.func16, Try.ntmps16
  go_wp2_with (first
    | (at_builtin
       refine wpList_append8 rfl (.tmp 8) (.tmp 9) rfl W.heap.size W.heap.size 0 0 W.heap.size m c' A' [] v rfl rfl (Own.new W (Nat.le_refl _)) (hv'.alloc (Nat.le_refl _) _) ?_ ?_ ?_
       · omega
       · simp
       intro g1 c1 w1 own1 grow1 at1
       simp only [Nat.zero_add, List.nil_append] at own1
       have bel1 := grown_own ((Below.refl W.heap.size W).alloc (Nat.le_refl _) (.cells #[] 5)) grow1 (by simp) (Nat.le_refl _))
    | (go_at_call 17; refine (append_any base g n c m c1 (some ⟨g1, 0, none⟩) k d v _ (hown.below bel1 hg) own1.rd (by rintro a ⟨rfl⟩; have := own1.form.1; exact Nat.ne_of_gt (Nat.lt_of_lt_of_le hg this)) (Nat.le_trans hbase bel1.size) hn hm).mono ?_; rintro e w2 ⟨g2, c2, rfl, own2, grow2⟩))
  go_ret
  exact ⟨g2, _, c2, rfl, by omega, by omega, own2, only_below_grown bel1 grow2⟩

set_option maxHeartbeats 400000 in
theorem clos18 (b x : Nat) (k : UInt8) (d : List UInt8) (B : Nat) (w0 : World) (hb : b < B) (hc : w0.cell? ⟨b, 0, none⟩ = some (.int .u32 (x : Int))) (hx : x < 4294967296) :
    Appends 18 ⟨b, 0, none⟩ k d (d ++ [k, UInt8.ofNat 4] ++ four x) B w0 := by
  intro W base g n c hbel hBW hbase hn hown
  have hcell : W.cell? ⟨b, 0, none⟩ = some (.int .u32 (x : Int)) := (hbel.cell (p := ⟨b, 0, none⟩) hb).trans hc
  clear hc hbel
  go_enter Try.func18, Try.ntmps18
  go_wp2_with (go_at_call 19; refine (appendU32_any base g n c x k d _ hown hbase hn hx).mono ?_; rintro e w2 ⟨g2, c2, rfl, own2, grow2⟩)
  go_ret
  exact ⟨g2, _, c2, rfl, by omega, by omega, own2, grow2⟩

set_option maxHeartbeats 400000 in
theorem clos20 (b : Nat) (s : ByteArray) (k : UInt8) (d : List UInt8) (B : Nat) (w0 : World) (hb : b < B) (hc : w0.cell? ⟨b, 0, none⟩ = some (.string s)) (hs : s.size ≤ 200) :
    Appends 20 ⟨b, 0, none⟩ k d (d ++ [k, UInt8.ofNat (s.size + 1)] ++ (s.data.toList ++ [0])) B w0 := by
  intro W base g n c hbel hBW hbase hn hown
  have hcell : W.cell? ⟨b, 0, none⟩ = some (.string s) := (hbel.cell (p := ⟨b, 0, none⟩) hb).trans hc
  clear hc hbel
  go_enter Try.func20, Try.ntmps20
  go_wp2_with (go_at_call 21; refine (appendString_any base g n c s k d _ hown hbase hn hs).mono ?_; rintro e w2 ⟨g2, c2, rfl, own2, grow2⟩)
  go_ret
  exact ⟨g2, _, c2, rfl, by omega, by omega, own2, grow2⟩
end Go.Proofs.Ytchmljpcimjpkaa
