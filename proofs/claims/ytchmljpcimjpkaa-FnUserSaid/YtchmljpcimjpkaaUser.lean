/-
  spec.User gives a slice of the call's own that holds the data, the kind, the length and the bytes; nothing that was there turns. Conditions: at most 1,000 bytes of data, at most 255 bytes of value.
-/
import Derived.Test.YtchmljpcimjpkaaMem
import Derived.WalkKit
import Derived.WalkSpells
import Derived.WalkLawsBesides
import Derived.Lib.Hide
namespace Go.Proofs.Ytchmljpcimjpkaa
open Go.RowKit

theorem u8_of (m : Nat) (h : m ≤ 255) : (UInt8.ofNat m).toNat = m := by
  rw [UInt8.toNat_ofNat']; omega
theorem rd_two (w : World) (k : UInt8) (m : Nat) (hm : m ≤ 255) :
    Rd (w.alloc (.cells #[.int .u8 (k.toNat : Int), .int .u8 (m : Int)] 5)) (w.heap.size + 1) (some ⟨w.heap.size, 0, none⟩) 2 [k, UInt8.ofNat m] :=
  (Own.lit (base := 0) w _ [k, UInt8.ofNat m] (Nat.zero_le _) (by simp [bv, u8_of m hm]) (by simp [maxLen])).rdN (by omega)
theorem grown_own {B : Nat} {a w w' : World} {g : Nat} (h : Below B a w) (hg : w.grownBy w' (some g)) (hB : B ≤ w.heap.size) (hr : B ≤ g) : Below B a w' :=
  h.grown hg hB (fun k e => by injection e with e; omega)

set_option maxHeartbeats 400000 in
theorem user_any (A A' : Option Addr) (n c m c' : Nat) (k : UInt8) (d v : List UInt8) (w : World) (hd : Rd w w.heap.size A n d) (hv : Rd w w.heap.size A' m v) (hn : n ≤ 1000) (hm : m ≤ 255) :
    Calls Try.prog 9 #[.slice A n c, .int .i64 (k.toNat : Int), .slice A' m c'] w fun e w' => ∃ g cap, e = .returned (.slice (some ⟨g, 0, none⟩) (n + 2 + m) cap) ∧ Own w' w.heap.size g (n + 2 + m) cap (d ++ [k, UInt8.ofNat m] ++ v) ∧ Below w.heap.size w w' := by
  have hk : (k.toNat : Int) ≤ 255 := by have := k.toNat_lt; omega
  go_enter Try.func9, Try.ntmps9
  go_wp2_with (first
    | (at_builtin
       refine wpList_append8 rfl (.tmp 7) (.tmp 8) rfl w.heap.size w.heap.size 0 0 w.heap.size n c A [] d rfl rfl (Own.new w (Nat.le_refl _)) (hd.below ((Below.refl _ _).alloc (Nat.le_refl _) _)) ?_ ?_ ?_
       · omega
       · simp
       intro g1 c1 w1 own1 grow1 at1
       simp only [Nat.zero_add, List.nil_append] at own1
       have bel1 := grown_own ((Below.refl w.heap.size w).alloc (Nat.le_refl _) (.cells #[] 5)) grow1 (by simp) (Nat.le_refl _))
    | (at_builtin
       refine wpList_append8 rfl (.tmp 9) (.tmp 15) rfl w.heap.size g1 n c1 (w1.heap.size + 1) 2 2 (some ⟨w1.heap.size, 0, none⟩) d [k, UInt8.ofNat m] rfl rfl (own1.alloc _) (rd_two w1 k m hm) ?_ ?_ ?_
       · omega
       · have := bel1.size; simp; omega
       intro g2 c2 w2 own2 grow2 at2
       have bel2 := grown_own (bel1.alloc bel1.size (.cells #[.int .u8 (k.toNat : Int), .int .u8 (m : Int)] 5)) grow2 (by have := bel1.size; simp; omega) own1.form.1)
    | (at_builtin
       refine wpList_append8 rfl (.tmp 16) (.tmp 17) rfl w.heap.size g2 (n + 2) c2 w.heap.size m c' A' (d ++ [k, UInt8.ofNat m]) v rfl rfl own2 (hv.below bel2) ?_ ?_ ?_
       · omega
       · exact bel2.size
       intro g3 c3 w3 own3 grow3 at3
       have bel3 := grown_own bel2 grow3 bel2.size own2.form.1))
  go_ret
  exact ⟨g3, c3, rfl, own3, bel3⟩
end Go.Proofs.Ytchmljpcimjpkaa
