/-
  laws.FnUser returns true where its guards let an input by: too long, out of range, a text with a 0, a kind that is there already, data that are not closed.
-/
import Derived.Test.YtchmljpcimjpkaaGotTwo
import Derived.Test.YtchmljpcimjpkaaNought
namespace Go.Proofs.Ytchmljpcimjpkaa
open Go.RowKit

theorem yes_refl (w : World) : Yes w (.returned (.bool true)) w := ⟨rfl, Below.refl _ _⟩

set_option maxRecDepth 100000 in
set_option maxHeartbeats 1000000 in
theorem law_big (A A' : Option Addr) (n c m c' : Nat) (a1 a3 : Int) (s : ByteArray) (w : World) (h : 2147483647 < n ∨ 2147483647 < m ∨ 2147483647 < s.size) :
    Calls Try.prog 3 #[.slice A n c, .int .i64 a1, .slice A' m c', .int .u32 a3, .string s] w (Yes w) := by
  by_cases h1 : (2147483647 : Int) < n
  · clear h
    go_enter Try.func3, Try.ntmps3
    go_wp2_with fail
    go_ret
    exact yes_refl w
  · by_cases h2 : (2147483647 : Int) < m
    · clear h
      go_enter Try.func3, Try.ntmps3
      go_wp2_with fail
      go_ret
      exact yes_refl w
    · have h3 : (2147483647 : Int) < s.size := by omega
      clear h
      go_enter Try.func3, Try.ntmps3
      go_wp2_with fail
      go_ret
      exact yes_refl w

set_option maxRecDepth 100000 in
set_option maxHeartbeats 2000000 in
theorem law_out (A A' : Option Addr) (n c m c' : Nat) (a1 a3 : Int) (s : ByteArray) (w : World) (g1 : (n : Int) ≤ 2147483647) (g2 : (m : Int) ≤ 2147483647) (g3 : (s.size : Int) ≤ 2147483647)
    (h : 300 < n ∨ a1 < 0 ∨ 255 < a1 ∨ 255 < m ∨ 200 < s.size ∨ nought s = true) :
    Calls Try.prog 3 #[.slice A n c, .int .i64 a1, .slice A' m c', .int .u32 a3, .string s] w (Yes w) := by
  by_cases h1 : (300 : Int) < n
  · clear h
    go_enter Try.func3, Try.ntmps3
    go_wp2_with (go_at_call 5; refine (works_any _).mono ?_; rintro e w1 ⟨rfl, bel⟩)
    go_ret
    exact ⟨rfl, bel⟩
  by_cases h2 : a1 < 0
  · clear h
    go_enter Try.func3, Try.ntmps3
    go_wp2_with (go_at_call 5; refine (works_any _).mono ?_; rintro e w1 ⟨rfl, bel⟩)
    go_ret
    exact ⟨rfl, bel⟩
  by_cases h3 : 255 < a1
  · clear h
    go_enter Try.func3, Try.ntmps3
    go_wp2_with (go_at_call 5; refine (works_any _).mono ?_; rintro e w1 ⟨rfl, bel⟩)
    go_ret
    exact ⟨rfl, bel⟩
  by_cases h4 : (255 : Int) < m
  · clear h
    go_enter Try.func3, Try.ntmps3
    go_wp2_with (go_at_call 5; refine (works_any _).mono ?_; rintro e w1 ⟨rfl, bel⟩)
    go_ret
    exact ⟨rfl, bel⟩
  by_cases h5 : (200 : Int) < s.size
  · clear h
    go_enter Try.func3, Try.ntmps3
    go_wp2_with (go_at_call 5; refine (works_any _).mono ?_; rintro e w1 ⟨rfl, bel⟩)
    go_ret
    exact ⟨rfl, bel⟩
  · have h6 : nought s = true := by
      rcases h with h | h | h | h | h | h
      · omega
      · exact absurd h h2
      · exact absurd h h3
      · omega
      · omega
      · exact h
    have HN := Lib.hid (fun w => nought_any s w (by omega))
    rw [h6] at HN
    clear h h6
    go_enter Try.func3, Try.ntmps3
    go_wp2_with (first
      | (go_at_call 4; refine (HN.out _).mono ?_; rintro e w' ⟨rfl, rfl⟩)
      | (go_at_call 5; refine (works_any _).mono ?_; rintro e w1 ⟨rfl, bel⟩))
    go_ret
    exact ⟨rfl, bel⟩

set_option maxRecDepth 100000 in
set_option maxHeartbeats 2000000 in
theorem law_not (A A' : Option Addr) (n c m c' : Nat) (k : UInt8) (a3 : Int) (s : ByteArray) (d : List UInt8) (w : World) (hd : Rd w w.heap.size A n d) (hc : n ≤ c) (g1 : (n : Int) ≤ 300) (g2 : (m : Int) ≤ 255) (g3 : (s.size : Int) ≤ 200)
    (h0 : nought s = false) (h : (look k d).isSome = true ∨ closed d = false) :
    Calls Try.prog 3 #[.slice A n c, .int .i64 (k.toNat : Int), .slice A' m c', .int .u32 a3, .string s] w (Yes w) := by
  have HN := Lib.hid (fun w => nought_any s w (by omega))
  rw [h0] at HN
  have HF := Lib.hid (find_any A n c k d w hd hc (by omega))
  have HC := Lib.hid (closed_any A n c d w hd hc (by omega))
  have hk : (k.toNat : Int) ≤ 255 := by have := k.toNat_lt; omega
  clear h0 hd
  by_cases h1 : (look k d).isSome = true
  · rw [h1] at HF
    clear h h1 HC
    go_enter Try.func3, Try.ntmps3
    go_wp2_with (first
      | (go_at_call 4; refine (HN.out _).mono ?_; rintro e w' ⟨rfl, rfl⟩)
      | (go_at_call 6; refine HF.out.mono ?_; rintro e w' ⟨⟨v, rfl⟩, rfl⟩)
      | (go_at_call 5; refine (works_any _).mono ?_; rintro e w1 ⟨rfl, bel⟩))
    go_ret
    exact ⟨rfl, bel⟩
  · have h2 : closed d = false := by
      rcases h with h | h
      · exact absurd h h1
      · exact h
    rw [Bool.eq_false_iff.2 h1] at HF
    rw [h2] at HC
    clear h h1 h2
    have hnot : ∀ (x : Bool) (w : World), (Op.unary .not (.bool x)).run Try.prog w = .ok (.bool (!x)) w := fun _ _ => rfl
    go_enter Try.func3, Try.ntmps3
    go_wp2_with (first
      | (go_at_call 4; refine (HN.out _).mono ?_; rintro e w' ⟨rfl, rfl⟩)
      | (go_at_call 6; refine HF.out.mono ?_; rintro e w' ⟨⟨v, rfl⟩, rfl⟩)
      | (go_at_call 7; refine HC.out.mono ?_; rintro e w' ⟨rfl, rfl⟩)
      | (go_at_call 5; refine (works_any _).mono ?_; rintro e w1 ⟨rfl, bel⟩))
    go_ret
    exact ⟨rfl, bel⟩
end Go.Proofs.Ytchmljpcimjpkaa
