/-
  userdata.Append gives the data with the kind, the length and the bytes behind them, in a slice of the call's own. Conditions: the data lie in a row of the call's own of at most 1,000 bytes; the value has at most 255 bytes and lies in another block.
-/
import Derived.Test.YtchmljpcimjpkaaUser
namespace Go.Proofs.Ytchmljpcimjpkaa
open Go.RowKit

/-- A new block, then writes to row g: writes to row g. -/
theorem only_alloc_grown {w w' : World} {o : Obj} {row : Option Nat} (h : (w.alloc o).grownBy w' row) : w.grownBy w' row :=
  ⟨h.os, h.tape, h.output, Nat.le_trans (by simp) h.size, fun k hk hne => (h.block k (by simp; omega) hne).trans (Below.heap_alloc w o k hk)⟩
/-- Writes to row g, then to row g or to a new one. -/
theorem grown_trans {w w1 w2 : World} {g g1 : Nat} (h : w.grownBy w1 (some g)) (k : w1.grownBy w2 (some g1)) (hg : g1 = g ∨ w.heap.size ≤ g1) : w.grownBy w2 (some g) :=
  ⟨k.os.trans h.os, k.tape.trans h.tape, k.output.trans h.output, Nat.le_trans h.size k.size, fun i hi hne => (k.block i (Nat.lt_of_lt_of_le hi h.size) (fun e => by
    injection e with e
    rcases hg with hg | hg
    · exact hne (by rw [e, hg])
    · omega)).trans (h.block i hi hne)⟩

set_option maxHeartbeats 400000 in
theorem append_any (base g n cap m cap' : Nat) (A : Option Addr) (k : UInt8) (d v : List UInt8) (w : World) (hd : Own w base g n cap d) (hv : Rd w w.heap.size A m v) (hne : ∀ a, A = some a → a.block ≠ g) (hB : base ≤ w.heap.size) (hn : n ≤ 1000) (hm : m ≤ 255) :
    Calls Try.prog 17 #[.slice (some ⟨g, 0, none⟩) n cap, .int .u8 (k.toNat : Int), .slice A m cap'] w fun e w' =>
      ∃ g2 c2, e = .returned (.slice (some ⟨g2, 0, none⟩) (n + 2 + m) c2) ∧ Own w' base g2 (n + 2 + m) c2 (d ++ [k, UInt8.ofNat m] ++ v) ∧ w.grownBy w' (some g) := by
  have hk : (k.toNat : Int) ≤ 255 := by have := k.toNat_lt; omega
  go_enter Try.func17, Try.ntmps17
  go_wp2_with (first
    | (at_builtin
       refine wpList_append8 rfl (.tmp 7) (.tmp 12) rfl base g n cap (w.heap.size + 1) 2 2 (some ⟨w.heap.size, 0, none⟩) d [k, UInt8.ofNat m] rfl rfl (hd.alloc _) (rd_two w k m hm) ?_ ?_ ?_
       · omega
       · simp; omega
       intro g1 c1 w1 own1 grow1 at1
       have all1 := only_alloc_grown grow1
       have bel1 := grown_own ((Below.refl base w).alloc hB (.cells #[.int .u8 (k.toNat : Int), .int .u8 (m : Int)] 5)) grow1 (by simp; omega) hd.form.1
       have ownv := (hv.alloc (Nat.le_refl _) (.cells #[.int .u8 (k.toNat : Int), .int .u8 (m : Int)] 5)).grown grow1 (by simp) hne)
    | (at_builtin
       refine wpList_append8 rfl (.tmp 14) (.tmp 15) rfl base g1 (n + 2) c1 w.heap.size m cap' A (d ++ [k, UInt8.ofNat m]) v rfl rfl own1 ownv ?_ ?_ ?_
       · omega
       · have := bel1.size; omega
       intro g2 c2 w2 own2 grow2 at2
       have all2 := grown_trans all1 grow2 (by simp at at1; omega)))
  go_ret
  exact ⟨g2, c2, rfl, own2, all2⟩
end Go.Proofs.Ytchmljpcimjpkaa
