/-
  Plain lists of bytes, with no program in sight: what the user data of a kind are ('look'), whether user data end where one of them ends ('closed'), and the law that data which are closed and have none of a kind, with one more of that kind behind them, have that one as the first of the kind.
-/
import Derived.WalkKit
namespace Go.Proofs.Ytchmljpcimjpkaa

/-- The bytes of the first user data of kind k; none: there are none, or the data end within one. -/
def look (k : UInt8) : List UInt8 → Option (List UInt8)
  | t :: n :: r => if r.length < n.toNat then none else if t = k then some (r.take n.toNat) else look k (r.drop n.toNat)
  | _ => none
termination_by l => l.length
decreasing_by simp only [List.length_drop, List.length_cons]; omega

/-- User data end where one of them ends. -/
def closed : List UInt8 → Bool
  | _ :: n :: r => if r.length < n.toNat then false else closed (r.drop n.toNat)
  | [] => true
  | [_] => false
termination_by l => l.length
decreasing_by simp only [List.length_drop, List.length_cons]; omega

theorem look_cons (k t n : UInt8) (r : List UInt8) :
    look k (t :: n :: r) = if r.length < n.toNat then none else if t = k then some (r.take n.toNat) else look k (r.drop n.toNat) := by
  rw [look]
theorem look_nil (k : UInt8) : look k [] = none := by rw [look]; intros; simp_all
theorem look_one (k t : UInt8) : look k [t] = none := by rw [look]; intros; simp_all
theorem closed_cons (t n : UInt8) (r : List UInt8) : closed (t :: n :: r) = if r.length < n.toNat then false else closed (r.drop n.toNat) := by
  rw [closed]
theorem closed_nil : closed [] = true := by rw [closed]
theorem closed_one (t : UInt8) : closed [t] = false := by rw [closed]

theorem look_short (k : UInt8) (l : List UInt8) (h : l.length < 2) : look k l = none := by
  match l, h with
  | [], _ => exact look_nil k
  | [t], _ => exact look_one k t
theorem closed_short (l : List UInt8) (h : l.length < 2) : closed l = decide (l.length = 0) := by
  match l, h with
  | [], _ => rw [closed_nil]; rfl
  | [t], _ => rw [closed_one]; rfl

theorem look_append (k n : UInt8) (v : List UInt8) (hv : v.length = n.toNat) :
    ∀ (f : Nat) (d : List UInt8), d.length ≤ f → closed d = true → look k d = none → look k (d ++ k :: n :: v) = some v := by
  intro f
  induction f with
  | zero =>
    intro d hd _ _
    have : d = [] := List.eq_nil_of_length_eq_zero (by omega)
    subst this
    rw [List.nil_append, look_cons, if_neg (by omega), if_pos rfl, List.take_of_length_le (by omega)]
  | succ f ih =>
    intro d hd hc hl
    match d, hd, hc, hl with
    | [], _, _, _ => rw [List.nil_append, look_cons, if_neg (by omega), if_pos rfl, List.take_of_length_le (by omega)]
    | [t], _, hc, _ => rw [closed_one] at hc; cases hc
    | t :: m :: r, hd, hc, hl =>
      rw [closed_cons] at hc
      rw [look_cons] at hl
      by_cases hr : r.length < m.toNat
      · rw [if_pos hr] at hc; cases hc
      · rw [if_neg hr] at hc hl
        by_cases ht : t = k
        · rw [if_pos ht] at hl; cases hl
        · rw [if_neg ht] at hl
          rw [List.cons_append, List.cons_append, look_cons, if_neg (by rw [List.length_append]; omega), if_neg ht, List.drop_append_of_le_length (by omega)]
          exact ih _ (by rw [List.length_drop]; simp only [List.length_cons] at hd; omega) hc hl

/-- A text has a nought. -/
def nought (s : ByteArray) : Bool := s.data.toList.any (· == 0)

end Go.Proofs.Ytchmljpcimjpkaa
