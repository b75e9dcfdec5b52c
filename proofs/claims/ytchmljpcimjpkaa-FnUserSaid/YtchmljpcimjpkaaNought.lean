/-
  spec.Nought tells whether a text has a 0. Condition: at most 1,000,000 bytes.
-/
import Derived.Test.YtchmljpcimjpkaaClosed
namespace Go.Proofs.Ytchmljpcimjpkaa
open Go.RowKit

def pre0 (s : ByteArray) (k : Nat) : Bool := (s.data.toList.take k).any (· == 0)
theorem pre0_zero (s : ByteArray) : pre0 s 0 = false := rfl
theorem pre0_all (s : ByteArray) : pre0 s s.size = nought s := by
  unfold pre0 nought
  rw [List.take_of_length_le (by simp)]
theorem pre0_succ (s : ByteArray) (k : Nat) (h : k < s.size) : pre0 s (k + 1) = (pre0 s k || s[k] == 0) := by
  unfold pre0
  rw [List.take_succ_eq_append_getElem (by simpa using h), List.any_append]
  simp
  rfl
theorem pre0_mono (s : ByteArray) (k : Nat) (h : pre0 s k = true) : nought s = true := by
  unfold pre0 at h
  unfold nought
  rw [List.any_eq_true] at h ⊢
  obtain ⟨x, hx, h0⟩ := h
  exact ⟨x, List.mem_of_mem_take hx, h0⟩

set_option maxHeartbeats 400000 in
theorem nought_any (s : ByteArray) (w : World) (hs : s.size ≤ 1000000) :
    Calls Try.prog 4 #[.string s] w fun e w' => e = .returned (.bool (nought s)) ∧ w = w' := by
  go_enter Try.func4, Try.ntmps4
  go_wp2
  go_loop [6] (fun i => ∃ k : Nat, k ≤ s.size ∧ i = .int .i64 k ∧ Hid (pre0 s k = false)) (fun i => s.size - (intOf i).toNat)
  case atStart => exact ⟨0, Nat.zero_le _, rfl, pre0_zero s⟩
  case round =>
    obtain ⟨k, hk, rfl, hh⟩ := hrel
    by_cases hlt : k < s.size
    · have HP := Lib.hid (pre0_succ s k hlt)
      by_cases h0 : s[k] = 0
      · have hz : ((s[k].toNat : Int) == 0) = true := by rw [h0]; rfl
        have HZ := Lib.hid h0
        clear h0
        go_wp2
        go_ret
        exact ⟨ret_bool (pre0_mono s (k + 1) (by rw [HP.out, HZ.out]; simp)).symm, rfl⟩
      · have hz : ((s[k].toNat : Int) == 0) = false := by
          have : s[k].toNat ≠ 0 := fun e => h0 (UInt8.toNat_inj.1 e)
          simp; exact this
        have HZ := Lib.hid h0
        clear h0
        go_wp2
        go_round
        case rel =>
          exact ⟨k + 1, by omega, by go_num, by have h1 := HP.out; have h2 := hh.out; have h3 := HZ.out; unfold Hid; rw [h1, h2]; simpa using h3⟩
        case measure => simp [intOf]; omega
    · go_wp2
      go_ret
      have : k = s.size := by omega
      subst this
      exact ⟨ret_bool (by rw [← pre0_all s, hh.out]), rfl⟩
end Go.Proofs.Ytchmljpcimjpkaa
