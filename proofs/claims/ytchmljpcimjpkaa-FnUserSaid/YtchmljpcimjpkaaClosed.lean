/-
  spec.Closed and spec.Find answer what the plain functions 'closed' and 'look' say of the bytes, and write nothing. Conditions: the slice reads as bytes, at most 1,000,000 of them.
-/
import Derived.Test.YtchmljpcimjpkaaMem
import Derived.WalkKit
import Derived.WalkSpells
import Derived.WalkLawsBesides
import Derived.Lib.Hide
namespace Go.Proofs.Ytchmljpcimjpkaa
open Go.RowKit

def slLen : Value → Nat
  | .slice _ n _ => n
  | _ => 0
theorem ret_bool {a b : Bool} (h : a = b) : Ending.returned (.bool a) = .returned (.bool b) := by rw [h]

/-- What a round knows of data of two bytes or more. -/
theorem Rd.two {w : World} {B n : Nat} {A : Option Addr} {l : List UInt8} (h : Rd w B A n l) (hn : 2 ≤ n) :
    ∃ t m r b off, l = t :: m :: r ∧ n = r.length + 2 ∧ A = some ⟨b, off, none⟩ ∧ b < B ∧ w.cell? ⟨b, off, none⟩ = some (.int .u8 (t.toNat : Int)) ∧ w.cell? ⟨b, off + 1, none⟩ = some (.int .u8 (m.toNat : Int)) := by
  obtain ⟨b, off, rfl, hb, hc⟩ := h.at_ (by omega)
  have hl := h.1
  match l, hl, hc with
  | [], hl, _ => simp at hl; omega
  | [_], hl, _ => simp at hl; omega
  | t :: m :: r, hl, hc => exact ⟨t, m, r, b, off, rfl, by simpa using hl.symm, rfl, hb, by simpa using hc 0 t rfl, hc 1 m rfl⟩
/-- What is left behind the first of the data. -/
theorem Rd.rest {w : World} {B n c k b off : Nat} {t m : UInt8} {r : List UInt8} (h : Rd w B (some ⟨b, off, none⟩) n (t :: m :: r)) (hk : k = 2 + m.toNat) (hle : k ≤ n) (hc : n ≤ c) :
    Rd w B (if c = k then some ⟨b, off, none⟩ else some ⟨b, off + k, none⟩) (n - k) (r.drop m.toNat) := by
  subst hk
  have := h.cut (k := 2 + m.toNat) (j := n) hle (Nat.le_refl _) hc
  rwa [show List.drop (2 + m.toNat) (t :: m :: r) = r.drop m.toNat from by rw [Nat.add_comm, List.drop_succ_cons, List.drop_succ_cons], List.take_of_length_le (by have := h.1; simp only [List.length_cons] at this; rw [List.length_drop]; omega),
    Option.map_some, add_flat] at this

theorem beq0 (n : Nat) : ((n : Int) == 0) = decide (n = 0) := by
  rw [Bool.eq_iff_iff]
  simp

set_option maxHeartbeats 400000 in
theorem closed_any (A : Option Addr) (n c : Nat) (d : List UInt8) (w : World) (hd : Rd w w.heap.size A n d) (hc : n ≤ c) (hn : n ≤ 1000000) :
    Calls Try.prog 7 #[.slice A n c] w fun e w' => e = .returned (.bool (closed d)) ∧ w = w' := by
  go_enter Try.func7, Try.ntmps7
  go_wp2
  go_loop [0] (fun x => ∃ (A' : Option Addr) (n' c' : Nat) (l : List UInt8), x = .slice A' n' c' ∧ n' ≤ c' ∧ n' ≤ 1000000 ∧ Rd w w.heap.size A' n' l ∧ Hid (closed l = closed d)) (fun x => slLen x)
  case atStart => exact ⟨A, n, c, d, rfl, hc, hn, hd, rfl⟩
  case round =>
    obtain ⟨A', n', c', l, rfl, hc', hn', hr, hh⟩ := hrel
    clear hd hc hn
    by_cases h2 : 2 ≤ n'
    · obtain ⟨t, m, r, b, off, rfl, hnr, rfl, hb, hc0, hc1⟩ := hr.two h2
      have HN : Hid (n' = r.length + 2) := hnr
      clear hnr
      have HR := Lib.hid hr
      clear hr
      have hm : m.toNat ≤ 255 := by have := m.toNat_lt; omega
      by_cases h3 : n' < m.toNat + 2
      · go_wp2
        go_ret
        refine ⟨ret_bool ?_, rfl⟩
        rw [← hh.out, closed_cons, if_pos (by have := HN.out; omega)]
      · go_wp2
        go_round
        case rel =>
          have := HN.out
          exact ⟨_, _, _, r.drop m.toNat, rfl, by omega, by omega, HR.out.rest rfl (by omega) hc', by rw [closed_cons, if_neg (by omega)] at hh; exact hh⟩
        case measure => simp [slLen]; omega
    · go_wp2
      go_ret
      refine ⟨ret_bool ?_, rfl⟩
      rw [← hh.out, closed_short l (by rw [hr.1]; omega), hr.1]
      exact beq0 n'

def Pair2 (b : Bool) (w : World) (e : Ending) (w' : World) : Prop := (∃ v, e = .returned (.tuple #[v, .bool b])) ∧ w = w'
theorem pair2 {b b' : Bool} {w : World} {v : Value} (h : b' = b) : Pair2 b w (.returned (.tuple #[v, .bool b'])) w := ⟨⟨v, by rw [h]⟩, rfl⟩
theorem u8_ne {t k : UInt8} (h : ¬ t = k) : ((t.toNat : Int) == (k.toNat : Int)) = false := by
  have : t.toNat ≠ k.toNat := fun e => h (UInt8.toNat_inj.1 e)
  simp; omega
theorem u8_ne' {t k : UInt8} (h : ¬ t = k) : ((k.toNat : Int) == (t.toNat : Int)) = false := by
  have : t.toNat ≠ k.toNat := fun e => h (UInt8.toNat_inj.1 e)
  simp; omega

set_option maxHeartbeats 400000 in
theorem find_any (A : Option Addr) (n c : Nat) (k : UInt8) (d : List UInt8) (w : World) (hd : Rd w w.heap.size A n d) (hc : n ≤ c) (hn : n ≤ 1000000) :
    Calls Try.prog 6 #[.slice A n c, .int .i64 (k.toNat : Int)] w (Pair2 (look k d).isSome w) := by
  go_enter Try.func6, Try.ntmps6
  go_wp2
  go_loop [0] (fun x => ∃ (A' : Option Addr) (n' c' : Nat) (l : List UInt8), x = .slice A' n' c' ∧ n' ≤ c' ∧ n' ≤ 1000000 ∧ Rd w w.heap.size A' n' l ∧ Hid (look k l = look k d)) (fun x => slLen x)
  case atStart => exact ⟨A, n, c, d, rfl, hc, hn, hd, rfl⟩
  case round =>
    obtain ⟨A', n', c', l, rfl, hc', hn', hr, hh⟩ := hrel
    clear hd hc hn
    by_cases h2 : 2 ≤ n'
    · obtain ⟨t, m, r, b, off, rfl, hnr, rfl, hb, hc0, hc1⟩ := hr.two h2
      have HN : Hid (n' = r.length + 2) := hnr
      clear hnr
      have HR := Lib.hid hr
      clear hr
      have hm : m.toNat ≤ 255 := by have := m.toNat_lt; omega
      have htl : t.toNat ≤ 255 := by have := t.toNat_lt; omega
      by_cases h3 : n' < m.toNat + 2
      · go_wp2
        go_ret2
        refine pair2 ?_
        rw [← hh.out, look_cons, if_pos (by have := HN.out; omega)]
        rfl
      · by_cases ht : t = k
        · subst ht
          go_wp2
          all_goals
            go_ret2
            refine pair2 ?_
            rw [← hh.out, look_cons, if_neg (by have := HN.out; omega), if_pos rfl]
            rfl
        · have ht' := u8_ne ht
          have HT := Lib.hid ht
          clear ht
          go_wp2
          go_round
          case rel =>
            have := HN.out
            exact ⟨_, _, _, r.drop m.toNat, rfl, by omega, by omega, HR.out.rest rfl (by omega) hc', by rw [look_cons, if_neg (by omega), if_neg HT.out] at hh; exact hh⟩
          case measure => simp [slLen]; omega
    · go_wp2
      go_ret2
      refine pair2 ?_
      rw [← hh.out, look_short k l (by rw [hr.1]; omega)]
      rfl
end Go.Proofs.Ytchmljpcimjpkaa
