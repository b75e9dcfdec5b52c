/-
  userdata.AppendUint32 and AppendString: the same with a number's four bytes, the lowest first, and with a text's bytes and a 0. Conditions: as for Append; the text has at most 200 bytes.
-/
import Derived.Test.YtchmljpcimjpkaaAppend
import Derived.Laws.IdiomStrings
namespace Go.Proofs.Ytchmljpcimjpkaa
open Go.RowKit

/-- A number's four bytes, the lowest first. -/
def four (x : Nat) : List UInt8 := [UInt8.ofNat x, UInt8.ofNat (x / 256), UInt8.ofNat (x / 65536), UInt8.ofNat (x / 16777216)]
theorem four_length (x : Nat) : (four x).length = 4 := rfl
theorem four_cells (x : Nat) (hx : x < 4294967296) : bv (four x) = [.int .u8 ((x : Int) % 256), .int .u8 ((x : Int) / 256 % 256), .int .u8 ((x : Int) / 65536 % 256), .int .u8 ((x : Int) / 16777216)] := by
  have h : x / 16777216 % 256 = x / 16777216 := Nat.mod_eq_of_lt (by omega)
  simp only [bv, four, List.map_cons, List.map_nil, UInt8.toNat_ofNat', show (2 : Nat) ^ 8 = 256 from rfl, h, Int.natCast_emod, Int.natCast_ediv, Int.cast_ofNat_Int]
theorem rd_four (w : World) (x : Nat) (hx : x < 4294967296) :
    Rd (w.alloc (.cells #[.int .u8 ((x : Int) % 256), .int .u8 ((x : Int) / 256 % 256), .int .u8 ((x : Int) / 65536 % 256), .int .u8 ((x : Int) / 16777216)] 5)) (w.heap.size + 1) (some ⟨w.heap.size, 0, none⟩) 4 (four x) :=
  (Own.lit (base := 0) w _ (four x) (Nat.zero_le _) (four_cells x hx).symm (by simp [maxLen, four])).rdN (by omega)

set_option maxHeartbeats 400000 in
theorem appendU32_any (base g n cap x : Nat) (k : UInt8) (d : List UInt8) (w : World) (hd : Own w base g n cap d) (hB : base ≤ w.heap.size) (hn : n ≤ 1000) (hx : x < 4294967296) :
    Calls Try.prog 19 #[.slice (some ⟨g, 0, none⟩) n cap, .int .u8 (k.toNat : Int), .int .u32 (x : Int)] w fun e w' =>
      ∃ g2 c2, e = .returned (.slice (some ⟨g2, 0, none⟩) (n + 2 + 4) c2) ∧ Own w' base g2 (n + 2 + 4) c2 (d ++ [k, UInt8.ofNat 4] ++ four x) ∧ w.grownBy w' (some g) := by
  have hg := hd.form.2.1
  go_enter Try.func19, Try.ntmps19
  go_wp2_with (go_at_call 17; refine (append_any base g n cap 4 4 (some ⟨w.heap.size, 0, none⟩) k d (four x) _ (hd.alloc _) ((rd_four w x hx).more (by simp)) (by rintro a ⟨rfl⟩; exact Nat.ne_of_gt hg) (by simp; omega) hn (by omega)).mono ?_; rintro e w1 ⟨g2, c2, rfl, own2, bel2⟩)
  go_ret
  exact ⟨g2, c2, rfl, own2, only_alloc_grown bel2⟩

/-- The row of '[]byte(s)' and its room. -/
def txCap (w : World) (s : ByteArray) : Nat := grownCap w s.size 0 5
def txRow (w : World) (s : ByteArray) : Array Value := bytesRow s (txCap w s)
theorem run_text (s : ByteArray) (w : World) :
    (convert 9 22 (.string s)).run Try.prog w = .ok (.slice (some ⟨w.heap.size, 0, none⟩) s.size (txCap w s)) (w.alloc (.cells (txRow w s) 5 ((txRow w s).size, (txRow w s).size + 1))).drew :=
  run_bytes_of_string (P := Try.prog) w 9 22 5 s Try.underlying9 Try.underlying22 Try.underlying5
theorem txCap_ge (w : World) (s : ByteArray) : s.size ≤ txCap w s := grownCap_ge w s.size 0 5
theorem txRow_size (w : World) (s : ByteArray) : (txRow w s).size = txCap w s := by
  have := txCap_ge w s
  have hs : s.data.size = s.size := rfl
  simp only [txRow, bytesRow, Array.size_append, Array.size_map, Array.size_replicate, hs]
  omega
/-- The world behind '[]byte(s)' and the array of one nought. -/
def TW (w : World) (s : ByteArray) : World := ((w.alloc (.cells (txRow w s) 5 ((txRow w s).size, (txRow w s).size + 1))).alloc (.cells #[.int .u8 0] 5)).drew
theorem TW_heap (w : World) (s : ByteArray) : (TW w s).heap[w.heap.size]? = some (.cells (txRow w s) 5 ((txRow w s).size, (txRow w s).size + 1)) :=
  (Below.heap_alloc _ _ _ (by simp)).trans (heap_alloc_new w _)
theorem TW_size (w : World) (s : ByteArray) : (TW w s).heap.size = w.heap.size + 2 := by simp [TW]
theorem TW_cells (w : World) (s : ByteArray) (i : Nat) (u : Value) (h : (bv s.data.toList)[i]? = some u) : (TW w s).cell? ⟨w.heap.size, i, none⟩ = some u := by
  rw [cell_of_row (TW w s) w.heap.size i _ 5 _ (TW_heap w s)]
  have hi : i < s.data.size := by
    have := (List.getElem?_eq_some_iff.1 h).1
    simpa [bv] using this
  unfold txRow
  rw [bytesRow_at s _ i hi, ← h, bv_get, Array.getElem?_toList, Array.getElem?_eq_getElem hi]
  rfl
theorem TW_nought (w : World) (s : ByteArray) : (TW w s).cell? ⟨w.heap.size + 1, 0, none⟩ = some (.int .u8 (((0 : UInt8).toNat : Nat) : Int)) := by
  have h : (TW w s).heap[w.heap.size + 1]? = some (.cells #[.int .u8 0] 5) := by
    have := heap_alloc_new (w.alloc (.cells (txRow w s) 5 ((txRow w s).size, (txRow w s).size + 1))) (.cells #[.int .u8 0] 5)
    rw [show (w.alloc (.cells (txRow w s) 5 ((txRow w s).size, (txRow w s).size + 1))).heap.size = w.heap.size + 1 by simp] at this
    exact this
  rw [cell_of_row (TW w s) (w.heap.size + 1) 0 _ 5 _ h]
  rfl
theorem TW_below (w : World) (s : ByteArray) {B : Nat} (hB : B ≤ w.heap.size) : Below B w (TW w s) :=
  (((Below.refl B w).alloc hB _).alloc (by simp; omega) _).drew

theorem only_below_grown {w w1 w2 : World} {row : Option Nat} (h : Below w.heap.size w w1) (k : w1.grownBy w2 row) : w.grownBy w2 row :=
  ⟨k.os.trans h.os, k.tape.trans h.tape, k.output.trans h.output, Nat.le_trans h.size k.size, fun i hi hne => (k.block i (Nat.lt_of_lt_of_le hi h.size) hne).trans (h.block i hi)⟩

/-- append([]byte(s), 0), for the walk. -/
theorem wpList_text0 {ops : Array Oper} {rest : List Oper} {o : Oper} {a : Act} {w : World} {Q : Exit → Act → World → Prop} (hgd : o.guard = none) (x y : Operand)
    (ho : o.op = .call { callee := .builtin .append, args := #[x, y], argTypes := #[22, 22] }) (s : ByteArray) (hs : s.size ≤ 200)
    (hx : a.eval x = .slice (some ⟨w.heap.size, 0, none⟩) s.size (txCap w s)) (hy : a.eval y = .slice (some ⟨w.heap.size + 1, 0, none⟩) 1 1)
    (K : ∀ g2 c2 w', Rd w' w'.heap.size (some ⟨g2, 0, none⟩) (s.size + 1) (s.data.toList ++ [0]) → Below w.heap.size w w' → w.heap.size ≤ g2 → wpList Try.prog ops Q rest (a.put o.dst (.slice (some ⟨g2, 0, none⟩) (s.size + 1) c2)) w') :
    wpList Try.prog ops Q (o :: rest) a (TW w s) :=
  wpList_append_text hgd x y ho w.heap.size s.size (txCap w s) (w.heap.size + 1) (txRow w s) s.data.toList 0 hx hy (TW_heap w s) (txRow_size w s) (txCap_ge w s) rfl (TW_cells w s) (TW_nought w s) (by omega)
    fun g2 c2 w' hr hg hat => K g2 c2 w' hr (grown_own (TW_below w s (Nat.le_refl _)) hg (by rw [TW_size]; omega) (Nat.le_refl _)) (by rw [TW_size] at hat; omega)

set_option maxHeartbeats 400000 in
theorem appendString_any (base g n cap : Nat) (s : ByteArray) (k : UInt8) (d : List UInt8) (w : World) (hd : Own w base g n cap d) (hB : base ≤ w.heap.size) (hn : n ≤ 1000) (hs : s.size ≤ 200) :
    Calls Try.prog 21 #[.slice (some ⟨g, 0, none⟩) n cap, .int .u8 (k.toNat : Int), .string s] w fun e w' =>
      ∃ g2 c2, e = .returned (.slice (some ⟨g2, 0, none⟩) (n + 2 + (s.size + 1)) c2) ∧ Own w' base g2 (n + 2 + (s.size + 1)) c2 (d ++ [k, UInt8.ofNat (s.size + 1)] ++ (s.data.toList ++ [0])) ∧ w.grownBy w' (some g) := by
  have hg := hd.form.2.1
  have hcv := run_text s
  go_enter Try.func21, Try.ntmps21
  go_wp2_with (first
    | (at_builtin
       refine wpList_text0 rfl (.tmp 9) (.tmp 10) rfl s hs rfl rfl ?_
       intro g1 c1 w1 rd1 bel1 at1)
    | (go_at_call 17; refine (append_any base g n cap (s.size + 1) c1 (some ⟨g1, 0, none⟩) k d (s.data.toList ++ [0]) _ (hd.below bel1 hg) rd1 (by rintro a ⟨rfl⟩; exact Nat.ne_of_gt (Nat.lt_of_lt_of_le hg at1)) (Nat.le_trans hB bel1.size) hn (by omega)).mono ?_; rintro e w1 ⟨g2, c2, rfl, own2, bel2⟩))
  go_ret
  exact ⟨g2, c2, rfl, own2, only_below_grown bel1 bel2⟩
end Go.Proofs.Ytchmljpcimjpkaa
