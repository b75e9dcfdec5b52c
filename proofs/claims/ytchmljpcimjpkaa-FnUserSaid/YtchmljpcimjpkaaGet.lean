/-
  userdata.Get gives the bytes of the first user data of a kind, and writes nothing. Condition: there are such data ('look' finds them).
-/
import Derived.Test.YtchmljpcimjpkaaClosed
namespace Go.Proofs.Ytchmljpcimjpkaa
open Go.RowKit

/-- The answer is a slice that reads as v, not nil; the world is as it was. -/
def Gives (v : List UInt8) (w : World) (e : Ending) (w' : World) : Prop :=
  ∃ b off n c, e = .returned (.slice (some ⟨b, off, none⟩) n c) ∧ n ≤ c ∧ Rd w w.heap.size (some ⟨b, off, none⟩) n v ∧ w = w'

/-- The bytes of the first of the data. -/
theorem Rd.first {w : World} {B n c b off : Nat} {t m : UInt8} {r : List UInt8} (h : Rd w B (some ⟨b, off, none⟩) n (t :: m :: r)) (hle : 2 + m.toNat ≤ n) (hc : n ≤ c) :
    Rd w B (if c = 2 then some ⟨b, off, none⟩ else some ⟨b, off + 2, none⟩) m.toNat (r.take m.toNat) := by
  have := h.cut (k := 2) (j := 2 + m.toNat) (by omega) hle hc
  rwa [show List.drop 2 (t :: m :: r) = r from rfl, Option.map_some, add_flat, Nat.add_sub_cancel_left] at this

set_option maxHeartbeats 400000 in
theorem get_any (A : Option Addr) (n c : Nat) (k : UInt8) (d v : List UInt8) (w : World) (hd : Rd w w.heap.size A n d) (hc : n ≤ c) (hn : n ≤ 1000000) (hv : look k d = some v) :
    Calls Try.prog 24 #[.slice A n c, .int .u8 (k.toNat : Int)] w (Gives v w) := by
  have HV := Lib.hid hv
  clear hv
  go_enter Try.func24, Try.ntmps24
  go_wp2
  go_loop [0] (fun x => ∃ (A' : Option Addr) (n' c' : Nat) (l : List UInt8), x = .slice A' n' c' ∧ n' ≤ c' ∧ n' ≤ 1000000 ∧ Rd w w.heap.size A' n' l ∧ Hid (look k l = some v)) (fun x => slLen x)
  case atStart => exact ⟨A, n, c, d, rfl, hc, hn, hd, HV⟩
  case round =>
    obtain ⟨A', n', c', l, rfl, hc', hn', hr, hh⟩ := hrel
    clear hd hc hn HV
    have h2 : 2 ≤ n' := by
      rcases Nat.lt_or_ge n' 2 with h | h
      · have := hh.out
        rw [look_short k l (by rw [hr.1]; exact h)] at this
        cases this
      · exact h
    obtain ⟨t, m, r, b, off, rfl, hnr, rfl, hb, hc0, hc1⟩ := hr.two h2
    have hm : m.toNat ≤ 255 := by have := m.toNat_lt; omega
    have htl : t.toNat ≤ 255 := by have := t.toNat_lt; omega
    have h3 : 2 + m.toNat ≤ n' := by
      rcases Nat.lt_or_ge n' (2 + m.toNat) with h | h
      · have := hh.out
        rw [look_cons, if_pos (by omega)] at this
        cases this
      · exact h
    have HN : Hid (n' = r.length + 2) := hnr
    clear hnr
    have HR := Lib.hid hr
    clear hr
    by_cases ht : t = k
    · subst ht
      have HF := Lib.hid (HR.out.first h3 hc')
      have hq : r.take m.toNat = v := by
        have := hh.out
        rw [look_cons, if_neg (by have := HN.out; omega), if_pos rfl] at this
        exact Option.some.inj this
      have HQ := Lib.hid hq
      clear hq
      go_wp2
      all_goals
        go_ret
        have hf := HF.out
        rw [HQ.out] at hf
        first
          | (rw [if_pos (by assumption)] at hf; exact ⟨_, _, _, _, rfl, by omega, hf, rfl⟩)
          | (rw [if_neg (by assumption)] at hf; exact ⟨_, _, _, _, rfl, by omega, hf, rfl⟩)
    · have ht' := u8_ne' ht
      have HT := Lib.hid ht
      clear ht
      go_wp2
      all_goals
        go_round
        case rel =>
          have := HN.out
          exact ⟨_, _, _, r.drop m.toNat, rfl, by omega, by omega, HR.out.rest rfl (by omega) hc', by rw [look_cons, if_neg (by omega), if_neg HT.out] at hh; exact hh⟩
        case measure => simp [slLen]; omega
end Go.Proofs.Ytchmljpcimjpkaa
