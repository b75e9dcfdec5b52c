/-
  laws.FnUser returns true where it compares: closed data of at most 300 bytes without the kind, a value of at most 255 bytes, a text of at most 200 bytes without a 0.
-/
import Derived.Test.YtchmljpcimjpkaaLawA
import Derived.Test.YtchmljpcimjpkaaKinds
import Derived.Deep.DeepCutAuto
namespace Go.Proofs.Ytchmljpcimjpkaa
open Go.RowKit

/-- append([]byte(s), 0) behind a new block, for the walk. -/
theorem wpList_text1 {ops : Array Oper} {rest : List Oper} {o : Oper} {a : Act} {w : World} {Q : Exit → Act → World → Prop} (hgd : o.guard = none) (x y : Operand)
    (ho : o.op = .call { callee := .builtin .append, args := #[x, y], argTypes := #[22, 22] }) (s : ByteArray) (hs : s.size ≤ 200) (H : Nat) (hH : w.heap.size = H)
    (hx : a.eval x = .slice (some ⟨H, 0, none⟩) s.size (txCap w s)) (hy : a.eval y = .slice (some ⟨H + 1, 0, none⟩) 1 1)
    (K : ∀ g2 c2 w', Rd w' w'.heap.size (some ⟨g2, 0, none⟩) (s.size + 1) (s.data.toList ++ [0]) → Below w.heap.size w w' → w.heap.size ≤ g2 → wpList Try.prog ops Q rest (a.put o.dst (.slice (some ⟨g2, 0, none⟩) (s.size + 1) c2)) w') :
    wpList Try.prog ops Q (o :: rest) a (TW w s) := by
  subst hH
  exact wpList_text0 hgd x y ho s hs hx hy K

theorem look_user (k : UInt8) (m : Nat) (d v : List UInt8) (hm : m ≤ 255) (hv : v.length = m) (h1 : look k d = none) (h2 : closed d = true) : look k (d ++ [k, UInt8.ofNat m] ++ v) = some v := by
  have := look_append k (UInt8.ofNat m) v (by rw [u8_of m hm]; exact hv) d.length d (Nat.le_refl _) h2 h1
  simpa using this
theorem any_text {w : World} {B m : Nat} {A : Option Addr} {l : List UInt8} (c : Nat) (h : Rd w B A m l) : (convert 22 9 (.slice A m c)).run Try.prog w = .ok (.string ⟨l.toArray⟩) w := by
  rcases Nat.eq_zero_or_pos m with h0 | h0
  · subst h0
    have hl : l = [] := List.eq_nil_of_length_eq_zero h.1
    subst hl
    cases A with
    | none => exact run_convert_bytes_nil w 22 5 Try.underlying22 Try.underlying5 0 c 9 Try.underlying9
    | some a => exact run_convert_bytes_back (P := Try.prog) w 22 9 5 a c [] Try.underlying22 Try.underlying5 Try.underlying9 (fun j hj => by simp at hj)
  · obtain ⟨b, off, rfl, _, _⟩ := h.2 h0
    exact back_text c h

/-- What each slot of the comparison holds. -/
def tabL (data kind value num text str : Value) (number : Value) (X1 X2 X3 : List UInt8) : Nat → Option (Value ⊕ List UInt8)
  | 89 | 94 | 101 | 106 | 114 | 119 => some (.inl data)
  | 90 | 95 | 102 | 107 | 115 | 120 => some (.inl kind)
  | 91 | 96 => some (.inl value)
  | 103 => some (.inl number)
  | 108 => some (.inl num)
  | 116 => some (.inl str)
  | 121 => some (.inl text)
  | 92 | 97 => some (.inr X1)
  | 104 | 109 => some (.inr X2)
  | 117 | 122 => some (.inr X3)
  | 93 | 98 => some (.inl (.string ⟨X1.toArray⟩))
  | 105 | 110 => some (.inl (.string ⟨X2.toArray⟩))
  | 118 | 123 => some (.inl (.string ⟨X3.toArray⟩))
  | 99 | 100 | 111 | 112 | 113 | 124 | 125 => some (.inl (.bool false))
  | _ => none
theorem args3 {a : Act} {x y z : Nat} {vx vy vz : Value} (hx : a.tmps.getD x undef = vx) (hy : a.tmps.getD y undef = vy) (hz : a.tmps.getD z undef = vz) :
    (#[Operand.tmp x, Operand.tmp y, Operand.tmp z].map a.eval) = #[vx, vy, vz] := by
  simp only [List.map_toArray, List.map_cons, List.map_nil, Act.eval, hx, hy, hz]

set_option maxRecDepth 100000 in
set_option maxHeartbeats 4000000 in
theorem law_main (A A' : Option Addr) (n c m c' x : Nat) (k : UInt8) (s : ByteArray) (d v : List UInt8) (w : World) (hd : Rd w w.heap.size A n d) (hvv : Rd w w.heap.size A' m v) (hc : n ≤ c) (g1 : (n : Int) ≤ 300) (g2 : (m : Int) ≤ 255) (g3 : (s.size : Int) ≤ 200)
    (hx : x < 4294967296) (h0 : nought s = false) (h1 : look k d = none) (h2 : closed d = true) :
    Calls Try.prog 3 #[.slice A n c, .int .i64 (k.toNat : Int), .slice A' m c', .int .u32 (x : Int), .string s] w (Yes w) := by
  have HN := Lib.hid (fun w => nought_any s w (by omega))
  rw [h0] at HN
  have HF := Lib.hid (find_any A n c k d w hd hc (by omega))
  have HC := Lib.hid (closed_any A n c d w hd hc (by omega))
  rw [h1] at HF
  rw [h2] at HC
  have hk : (k.toNat : Int) ≤ 255 := by have := k.toNat_lt; omega
  have HD := Lib.hid hd
  have HVV := Lib.hid hvv
  have H1 := Lib.hid h1
  have H2 := Lib.hid h2
  have hs200 : s.size ≤ 200 := by omega
  have hcv := run_text s
  have hnot : ∀ (x : Bool) (w : World), (Op.unary .not (.bool x)).run Try.prog w = .ok (.bool (!x)) w := fun _ _ => rfl
  clear h0 h1 h2 hd hvv
  go_enter Try.func3, Try.ntmps3
  go_upto_region 10 with (first
      | (go_at_call 4; refine (HN.out _).mono ?_; rintro e w' ⟨rfl, rfl⟩)
      | (go_at_call 6; refine HF.out.mono ?_; rintro e w' ⟨⟨v6, rfl⟩, rfl⟩)
      | (go_at_call 7; refine HC.out.mono ?_; rintro e w' ⟨rfl, rfl⟩)
      | (at_builtin
         refine wpList_text1 (w := w.alloc (.cells #[.int .u8 ((x : Int) % 256), .int .u8 ((x : Int) / 256 % 256), .int .u8 ((x : Int) / 65536 % 256), .int .u8 ((x : Int) / 16777216)] 5)) rfl (.tmp 86) (.tmp 87) rfl s hs200 (w.heap.size + 1) (by simp) rfl rfl ?_
         intro gt ct w1 rdt belt att))
  have hsz1 := belt.size
  have hnw : w.heap.size ≤ w1.heap.size := Nat.le_trans (by simp) hsz1
  have bel1 : Below w.heap.size w w1 := ((Below.refl _ _).alloc (Nat.le_refl _) _).trans (belt.mono (by simp))
  have RD : ∀ w', Below w1.heap.size w1 w' → Rd w' w'.heap.size A n d := fun w' h => (HD.out.below (bel1.trans (h.mono hnw))).more (Nat.le_trans hnw h.size)
  have RV : ∀ w', Below w1.heap.size w1 w' → Rd w' w'.heap.size A' m v := fun w' h => (HVV.out.below (bel1.trans (h.mono hnw))).more (Nat.le_trans hnw h.size)
  have RN : ∀ w', Below w1.heap.size w1 w' → Rd w' w'.heap.size (some ⟨w.heap.size, 0, none⟩) 4 (four x) := fun w' h =>
    (((rd_four w x hx).below (belt.mono (by simp))).below (h.mono (Nat.le_trans (by simp) hsz1))).more (Nat.le_trans (Nat.le_trans (by simp) hsz1) h.size)
  have RT : ∀ w', Below w1.heap.size w1 w' → Rd w' w'.heap.size (some ⟨gt, 0, none⟩) (s.size + 1) (s.data.toList ++ [0]) := fun w' h => (rdt.below h).more h.size
  have c8 := fun w' h => (userAppend_any A A' n c m c' k d v w' (RD w' h) (RV w' h) (by omega) (by omega)).mono fun _ _ h => h.brings
  have c9a := fun w' h => user_brings A A' n c m c' k d v w' (RD w' h) (RV w' h) (by omega) (by omega)
  have c10 := fun w' h => (userUint32_any A n c x k d w' (RD w' h) (by omega) hx).mono fun _ _ h => h.brings
  have c9b := fun w' h => user_brings A (some ⟨w.heap.size, 0, none⟩) n c 4 4 k d (four x) w' (RD w' h) (RN w' h) (by omega) (by omega)
  have c11 := fun w' h => (userString_any A n c s k d w' (RD w' h) (by omega) hs200).mono fun _ _ h => h.brings
  have c9c := fun w' h => user_brings A (some ⟨gt, 0, none⟩) n c (s.size + 1) ct k d (s.data.toList ++ [0]) w' (RD w' h) (RT w' h) (by omega) (by omega)
  refine wp_region_facts (F := Fact (tabL (.slice A n c) (.int .i64 (k.toNat : Int)) (.slice A' m c') (.slice (some ⟨w.heap.size, 0, none⟩) 4 4) (.slice (some ⟨gt, 0, none⟩) (s.size + 1) ct) (.string s) (.int .u32 (x : Int))
      (d ++ [k, UInt8.ofNat m] ++ v) (d ++ [k, UInt8.ofNat 4] ++ four x) (d ++ [k, UInt8.ofNat (s.size + 1)] ++ (s.data.toList ++ [0])))) (S := fun w' => Below w1.heap.size w1 w') (R := fun a b => Below a.heap.size a b)
    (by kernel_rfl) (by kernel_rfl) (by rfl) ?_ ?_ ?_ ?_
  · exact (Below.refl _ _).drew
  · exact fun t v w w' _ hR h => h.below hR
  · intro i o a w hoo hS hd hsz hold hdep
    have ho := hoo
    clear hoo
    rcases i with _ | i
    · cases Option.some.inj ho
      refine ⟨rfl, fun K hK => ?_⟩
      exact kind_move rfl (hK _ w hS (Below.refl _ _) (fun t ht => by cases ht; exact hold 0 rfl))
    rcases i with _ | i
    · cases Option.some.inj ho
      refine ⟨rfl, fun K hK => ?_⟩
      exact kind_move rfl (hK _ w hS (Below.refl _ _) (fun t ht => by cases ht; exact hold 1 rfl))
    rcases i with _ | i
    · cases Option.some.inj ho
      refine ⟨rfl, fun K hK => ?_⟩
      exact kind_move rfl (hK _ w hS (Below.refl _ _) (fun t ht => by cases ht; exact hold 2 rfl))
    rcases i with _ | i
    · cases Option.some.inj ho
      refine ⟨rfl, fun K hK => ?_⟩
      refine kind_call (vals := #[_, _, _]) rfl (args3 (hdep 0 _ 89 rfl rfl rfl) (hdep 1 _ 90 rfl rfl rfl) (hdep 2 _ 91 rfl rfl rfl)) enters8 ((c8 w hS).mono ?_)
      rintro e w' ⟨v', he, hr', hb⟩
      exact ⟨v', he, hK v' w' (hS.trans (hb.mono hS.size)) hb (fun t ht => by cases ht; exact hr')⟩
    rcases i with _ | i
    · cases Option.some.inj ho
      refine ⟨rfl, fun K hK => ?_⟩
      exact kind_text rfl (Reads8.text (hdep 3 _ 92 rfl rfl rfl)) (hK _ w hS (Below.refl _ _) (fun t ht => by cases ht; rfl))
    rcases i with _ | i
    · cases Option.some.inj ho
      refine ⟨rfl, fun K hK => ?_⟩
      exact kind_move rfl (hK _ w hS (Below.refl _ _) (fun t ht => by cases ht; exact hold 0 rfl))
    rcases i with _ | i
    · cases Option.some.inj ho
      refine ⟨rfl, fun K hK => ?_⟩
      exact kind_move rfl (hK _ w hS (Below.refl _ _) (fun t ht => by cases ht; exact hold 1 rfl))
    rcases i with _ | i
    · cases Option.some.inj ho
      refine ⟨rfl, fun K hK => ?_⟩
      exact kind_move rfl (hK _ w hS (Below.refl _ _) (fun t ht => by cases ht; exact hold 2 rfl))
    rcases i with _ | i
    · cases Option.some.inj ho
      refine ⟨rfl, fun K hK => ?_⟩
      refine kind_call (vals := #[_, _, _]) rfl (args3 (hdep 5 _ 94 rfl rfl rfl) (hdep 6 _ 95 rfl rfl rfl) (hdep 7 _ 96 rfl rfl rfl)) enters9 ((c9a w hS).mono ?_)
      rintro e w' ⟨v', he, hr', hb⟩
      exact ⟨v', he, hK v' w' (hS.trans (hb.mono hS.size)) hb (fun t ht => by cases ht; exact hr')⟩
    rcases i with _ | i
    · cases Option.some.inj ho
      refine ⟨rfl, fun K hK => ?_⟩
      exact kind_text rfl (Reads8.text (hdep 8 _ 97 rfl rfl rfl)) (hK _ w hS (Below.refl _ _) (fun t ht => by cases ht; rfl))
    rcases i with _ | i
    · cases Option.some.inj ho
      refine ⟨rfl, fun K hK => ?_⟩
      exact kind_neq rfl (hdep 4 _ 93 rfl rfl rfl) (hdep 9 _ 98 rfl rfl rfl) (hK _ w hS (Below.refl _ _) (fun t ht => by cases ht; rfl))
    rcases i with _ | i
    · cases Option.some.inj ho
      refine ⟨rfl, fun K hK => ?_⟩
      exact kind_move rfl (hK _ w hS (Below.refl _ _) (fun t ht => by cases ht; exact (hdep 10 _ 99 rfl rfl rfl)))
    rcases i with _ | i
    · cases Option.some.inj ho
      refine ⟨wanted_of rfl (j := 11) (t := 100) rfl (hdep 11 _ 100 rfl rfl rfl), fun K hK => ?_⟩
      exact kind_move rfl (hK _ w hS (Below.refl _ _) (fun t ht => by cases ht; exact hold 0 rfl))
    rcases i with _ | i
    · cases Option.some.inj ho
      refine ⟨wanted_of rfl (j := 11) (t := 100) rfl (hdep 11 _ 100 rfl rfl rfl), fun K hK => ?_⟩
      exact kind_move rfl (hK _ w hS (Below.refl _ _) (fun t ht => by cases ht; exact hold 1 rfl))
    rcases i with _ | i
    · cases Option.some.inj ho
      refine ⟨wanted_of rfl (j := 11) (t := 100) rfl (hdep 11 _ 100 rfl rfl rfl), fun K hK => ?_⟩
      exact kind_move rfl (hK _ w hS (Below.refl _ _) (fun t ht => by cases ht; exact hold 3 rfl))
    rcases i with _ | i
    · cases Option.some.inj ho
      refine ⟨wanted_of rfl (j := 11) (t := 100) rfl (hdep 11 _ 100 rfl rfl rfl), fun K hK => ?_⟩
      refine kind_call (vals := #[_, _, _]) rfl (args3 (hdep 12 _ 101 rfl rfl rfl) (hdep 13 _ 102 rfl rfl rfl) (hdep 14 _ 103 rfl rfl rfl)) enters10 ((c10 w hS).mono ?_)
      rintro e w' ⟨v', he, hr', hb⟩
      exact ⟨v', he, hK v' w' (hS.trans (hb.mono hS.size)) hb (fun t ht => by cases ht; exact hr')⟩
    rcases i with _ | i
    · cases Option.some.inj ho
      refine ⟨wanted_of rfl (j := 11) (t := 100) rfl (hdep 11 _ 100 rfl rfl rfl), fun K hK => ?_⟩
      exact kind_text rfl (Reads8.text (hdep 15 _ 104 rfl rfl rfl)) (hK _ w hS (Below.refl _ _) (fun t ht => by cases ht; rfl))
    rcases i with _ | i
    · cases Option.some.inj ho
      refine ⟨wanted_of rfl (j := 11) (t := 100) rfl (hdep 11 _ 100 rfl rfl rfl), fun K hK => ?_⟩
      exact kind_move rfl (hK _ w hS (Below.refl _ _) (fun t ht => by cases ht; exact hold 0 rfl))
    rcases i with _ | i
    · cases Option.some.inj ho
      refine ⟨wanted_of rfl (j := 11) (t := 100) rfl (hdep 11 _ 100 rfl rfl rfl), fun K hK => ?_⟩
      exact kind_move rfl (hK _ w hS (Below.refl _ _) (fun t ht => by cases ht; exact hold 1 rfl))
    rcases i with _ | i
    · cases Option.some.inj ho
      refine ⟨wanted_of rfl (j := 11) (t := 100) rfl (hdep 11 _ 100 rfl rfl rfl), fun K hK => ?_⟩
      exact kind_move rfl (hK _ w hS (Below.refl _ _) (fun t ht => by cases ht; exact hold 13 rfl))
    rcases i with _ | i
    · cases Option.some.inj ho
      refine ⟨wanted_of rfl (j := 11) (t := 100) rfl (hdep 11 _ 100 rfl rfl rfl), fun K hK => ?_⟩
      refine kind_call (vals := #[_, _, _]) rfl (args3 (hdep 17 _ 106 rfl rfl rfl) (hdep 18 _ 107 rfl rfl rfl) (hdep 19 _ 108 rfl rfl rfl)) enters9 ((c9b w hS).mono ?_)
      rintro e w' ⟨v', he, hr', hb⟩
      exact ⟨v', he, hK v' w' (hS.trans (hb.mono hS.size)) hb (fun t ht => by cases ht; exact hr')⟩
    rcases i with _ | i
    · cases Option.some.inj ho
      refine ⟨wanted_of rfl (j := 11) (t := 100) rfl (hdep 11 _ 100 rfl rfl rfl), fun K hK => ?_⟩
      exact kind_text rfl (Reads8.text (hdep 20 _ 109 rfl rfl rfl)) (hK _ w hS (Below.refl _ _) (fun t ht => by cases ht; rfl))
    rcases i with _ | i
    · cases Option.some.inj ho
      refine ⟨wanted_of rfl (j := 11) (t := 100) rfl (hdep 11 _ 100 rfl rfl rfl), fun K hK => ?_⟩
      exact kind_neq rfl (hdep 16 _ 105 rfl rfl rfl) (hdep 21 _ 110 rfl rfl rfl) (hK _ w hS (Below.refl _ _) (fun t ht => by cases ht; rfl))
    rcases i with _ | i
    · cases Option.some.inj ho
      refine ⟨rfl, fun K hK => ?_⟩
      exact kind_pick rfl (hdep 11 _ 100 rfl rfl rfl) (hK _ w hS (Below.refl _ _) (fun t ht => by cases ht; exact (hdep 22 _ 111 rfl rfl rfl)))
    rcases i with _ | i
    · cases Option.some.inj ho
      refine ⟨rfl, fun K hK => ?_⟩
      exact kind_move rfl (hK _ w hS (Below.refl _ _) (fun t ht => by cases ht; exact (hdep 23 _ 112 rfl rfl rfl)))
    rcases i with _ | i
    · cases Option.some.inj ho
      refine ⟨wanted_of rfl (j := 24) (t := 113) rfl (hdep 24 _ 113 rfl rfl rfl), fun K hK => ?_⟩
      exact kind_move rfl (hK _ w hS (Below.refl _ _) (fun t ht => by cases ht; exact hold 0 rfl))
    rcases i with _ | i
    · cases Option.some.inj ho
      refine ⟨wanted_of rfl (j := 24) (t := 113) rfl (hdep 24 _ 113 rfl rfl rfl), fun K hK => ?_⟩
      exact kind_move rfl (hK _ w hS (Below.refl _ _) (fun t ht => by cases ht; exact hold 1 rfl))
    rcases i with _ | i
    · cases Option.some.inj ho
      refine ⟨wanted_of rfl (j := 24) (t := 113) rfl (hdep 24 _ 113 rfl rfl rfl), fun K hK => ?_⟩
      exact kind_move rfl (hK _ w hS (Below.refl _ _) (fun t ht => by cases ht; exact hold 4 rfl))
    rcases i with _ | i
    · cases Option.some.inj ho
      refine ⟨wanted_of rfl (j := 24) (t := 113) rfl (hdep 24 _ 113 rfl rfl rfl), fun K hK => ?_⟩
      refine kind_call (vals := #[_, _, _]) rfl (args3 (hdep 25 _ 114 rfl rfl rfl) (hdep 26 _ 115 rfl rfl rfl) (hdep 27 _ 116 rfl rfl rfl)) enters11 ((c11 w hS).mono ?_)
      rintro e w' ⟨v', he, hr', hb⟩
      exact ⟨v', he, hK v' w' (hS.trans (hb.mono hS.size)) hb (fun t ht => by cases ht; exact hr')⟩
    rcases i with _ | i
    · cases Option.some.inj ho
      refine ⟨wanted_of rfl (j := 24) (t := 113) rfl (hdep 24 _ 113 rfl rfl rfl), fun K hK => ?_⟩
      exact kind_text rfl (Reads8.text (hdep 28 _ 117 rfl rfl rfl)) (hK _ w hS (Below.refl _ _) (fun t ht => by cases ht; rfl))
    rcases i with _ | i
    · cases Option.some.inj ho
      refine ⟨wanted_of rfl (j := 24) (t := 113) rfl (hdep 24 _ 113 rfl rfl rfl), fun K hK => ?_⟩
      exact kind_move rfl (hK _ w hS (Below.refl _ _) (fun t ht => by cases ht; exact hold 0 rfl))
    rcases i with _ | i
    · cases Option.some.inj ho
      refine ⟨wanted_of rfl (j := 24) (t := 113) rfl (hdep 24 _ 113 rfl rfl rfl), fun K hK => ?_⟩
      exact kind_move rfl (hK _ w hS (Below.refl _ _) (fun t ht => by cases ht; exact hold 1 rfl))
    rcases i with _ | i
    · cases Option.some.inj ho
      refine ⟨wanted_of rfl (j := 24) (t := 113) rfl (hdep 24 _ 113 rfl rfl rfl), fun K hK => ?_⟩
      exact kind_move rfl (hK _ w hS (Below.refl _ _) (fun t ht => by cases ht; exact hold 14 rfl))
    rcases i with _ | i
    · cases Option.some.inj ho
      refine ⟨wanted_of rfl (j := 24) (t := 113) rfl (hdep 24 _ 113 rfl rfl rfl), fun K hK => ?_⟩
      refine kind_call (vals := #[_, _, _]) rfl (args3 (hdep 30 _ 119 rfl rfl rfl) (hdep 31 _ 120 rfl rfl rfl) (hdep 32 _ 121 rfl rfl rfl)) enters9 ((c9c w hS).mono ?_)
      rintro e w' ⟨v', he, hr', hb⟩
      exact ⟨v', he, hK v' w' (hS.trans (hb.mono hS.size)) hb (fun t ht => by cases ht; exact hr')⟩
    rcases i with _ | i
    · cases Option.some.inj ho
      refine ⟨wanted_of rfl (j := 24) (t := 113) rfl (hdep 24 _ 113 rfl rfl rfl), fun K hK => ?_⟩
      exact kind_text rfl (Reads8.text (hdep 33 _ 122 rfl rfl rfl)) (hK _ w hS (Below.refl _ _) (fun t ht => by cases ht; rfl))
    rcases i with _ | i
    · cases Option.some.inj ho
      refine ⟨wanted_of rfl (j := 24) (t := 113) rfl (hdep 24 _ 113 rfl rfl rfl), fun K hK => ?_⟩
      exact kind_neq rfl (hdep 29 _ 118 rfl rfl rfl) (hdep 34 _ 123 rfl rfl rfl) (hK _ w hS (Below.refl _ _) (fun t ht => by cases ht; rfl))
    rcases i with _ | i
    · cases Option.some.inj ho
      refine ⟨rfl, fun K hK => ?_⟩
      exact kind_pick rfl (hdep 24 _ 113 rfl rfl rfl) (hK _ w hS (Below.refl _ _) (fun t ht => by cases ht; exact (hdep 35 _ 124 rfl rfl rfl)))
    · cases ho
  · intro a wz hS hd hsz hold hf
    have h125 : a.tmps.getD 125 undef = .bool false := hf 36 _ 125 rfl rfl
    have e := frame_lit (arr := a.tmps) hsz [89, 90, 91, 92, 93, 94, 95, 96, 97, 98, 99, 100, 101, 102, 103, 104, 105, 106, 107, 108, 109, 110, 111, 112, 113, 114, 115, 116, 117, 118, 119, 120, 121, 122, 123, 124, 125] (fun t ht => hold t (wrote_list rfl ht))
    obtain ⟨tm, df⟩ := a
    clear hold hf hsz c8 c9a c10 c9b c11 c9c hcv hnot
    simp only [List.foldl_cons, List.foldl_nil] at e
    simp only at hd h125
    rw [h125] at e
    clear h125
    generalize tm.getD 89 undef = u89 at e
    generalize tm.getD 90 undef = u90 at e
    generalize tm.getD 91 undef = u91 at e
    generalize tm.getD 92 undef = u92 at e
    generalize tm.getD 93 undef = u93 at e
    generalize tm.getD 94 undef = u94 at e
    generalize tm.getD 95 undef = u95 at e
    generalize tm.getD 96 undef = u96 at e
    generalize tm.getD 97 undef = u97 at e
    generalize tm.getD 98 undef = u98 at e
    generalize tm.getD 99 undef = u99 at e
    generalize tm.getD 100 undef = u100 at e
    generalize tm.getD 101 undef = u101 at e
    generalize tm.getD 102 undef = u102 at e
    generalize tm.getD 103 undef = u103 at e
    generalize tm.getD 104 undef = u104 at e
    generalize tm.getD 105 undef = u105 at e
    generalize tm.getD 106 undef = u106 at e
    generalize tm.getD 107 undef = u107 at e
    generalize tm.getD 108 undef = u108 at e
    generalize tm.getD 109 undef = u109 at e
    generalize tm.getD 110 undef = u110 at e
    generalize tm.getD 111 undef = u111 at e
    generalize tm.getD 112 undef = u112 at e
    generalize tm.getD 113 undef = u113 at e
    generalize tm.getD 114 undef = u114 at e
    generalize tm.getD 115 undef = u115 at e
    generalize tm.getD 116 undef = u116 at e
    generalize tm.getD 117 undef = u117 at e
    generalize tm.getD 118 undef = u118 at e
    generalize tm.getD 119 undef = u119 at e
    generalize tm.getD 120 undef = u120 at e
    generalize tm.getD 121 undef = u121 at e
    generalize tm.getD 122 undef = u122 at e
    generalize tm.getD 123 undef = u123 at e
    generalize tm.getD 124 undef = u124 at e
    simp only [List.setIfInBounds_toArray, List.set_cons_succ, List.set_cons_zero] at e
    subst e hd
    have hvl := (HVV.out).1
    have L1 := look_user k m d v (by omega) hvl H1.out H2.out
    have L2 := look_user k 4 d (four x) (by omega) rfl H1.out H2.out
    have L3 := look_user k (s.size + 1) d (s.data.toList ++ [0]) (by omega) (by rw [List.length_append]; rfl) H1.out H2.out
    have hvl3 : v.length ≤ 300 := by omega
    have HL1 := Lib.hid L1
    have HL2 := Lib.hid L2
    have HL3 := Lib.hid L3
    have HS := Lib.hid hS
    have HRD := Lib.hid RD
    have HRV := Lib.hid RV
    have HRN := Lib.hid RN
    have HRT := Lib.hid RT
    clear L1 L2 L3 hvl hS RD RV RN RT rdt belt att hsz1 H1 H2 HD HVV HN HF HC
    go_wp2_with fail
    (with_reducible refine (user_any A A' n c m c' k d v _ (HRD.out _ HS.out) (HRV.out _ HS.out) (by omega) (by omega)).mono ?_)
    rintro e wa ⟨ga, ca, rfl, owna, bela⟩
    have HSa := Lib.hid (HS.out.trans (bela.mono HS.out.size))
    go_wp2_with fail
    (with_reducible refine (got_any _ ca v (some ⟨ga, 0, none⟩) k _ _ owna.rd (by omega) HL1.out hvl3).mono ?_)
    rintro e wb ⟨gb, nb, cb, rfl, ownb, belb⟩
    have HSb := Lib.hid (HSa.out.trans (belb.mono HSa.out.size))
    have Hb := Lib.hid ownb.rd
    clear owna bela belb ownb HS HSa HL1
    go_wp2_with fail
    (with_reducible refine (user_any A (some ⟨w.heap.size, 0, none⟩) n c 4 4 k d (four x) _ (HRD.out _ HSb.out) (HRN.out _ HSb.out) (by omega) (by omega)).mono ?_)
    rintro e wc ⟨gc, cc, rfl, ownc, belc⟩
    have HSc := Lib.hid (HSb.out.trans (belc.mono HSb.out.size))
    have Hc := Lib.hid ((Hb.out.below belc).more belc.size)
    go_wp2_with fail
    (with_reducible refine (gotU32_any _ cc x (some ⟨gc, 0, none⟩) k _ _ ownc.rd (by omega) HL2.out hx).mono ?_)
    rintro e we ⟨rfl, bele⟩
    have HSe := Lib.hid (HSc.out.trans (bele.mono HSc.out.size))
    have He := Lib.hid ((Hc.out.below bele).more bele.size)
    clear ownc belc bele HSb HSc Hb Hc HL2
    go_wp2_with fail
    (with_reducible refine (user_any A (some ⟨gt, 0, none⟩) n c (s.size + 1) ct k d (s.data.toList ++ [0]) _ (HRD.out _ HSe.out) (HRT.out _ HSe.out) (by omega) (by omega)).mono ?_)
    rintro e wf ⟨gf, cf, rfl, ownf, belf⟩
    have HSf := Lib.hid (HSe.out.trans (belf.mono HSe.out.size))
    have Hf := Lib.hid ((He.out.below belf).more belf.size)
    go_wp2_with fail
    (with_reducible refine (gotString_any _ cf s (some ⟨gf, 0, none⟩) k _ _ ownf.rd (by omega) HL3.out hs200).mono ?_)
    rintro e wg ⟨rfl, belg⟩
    have HSg := Lib.hid (HSf.out.trans (belg.mono HSf.out.size))
    have Hg := Lib.hid ((Hf.out.below belg).more belg.size)
    clear ownf belf belg HSe HSf He Hf HL3
    have t1 := back_text cb Hg.out
    have t2 := any_text c' (HRV.out _ HSg.out)
    go_wp2_with fail
    (with_reducible refine (works_any _).mono ?_)
    rintro e wh ⟨rfl, belh⟩
    have HEND := Lib.hid (bel1.trans ((HSg.out.trans (belh.mono HSg.out.size)).mono hnw))
    clear t1 t2 belh
    go_wp2_with fail
    go_ret
    exact ⟨rfl, HEND.out⟩
end Go.Proofs.Ytchmljpcimjpkaa
