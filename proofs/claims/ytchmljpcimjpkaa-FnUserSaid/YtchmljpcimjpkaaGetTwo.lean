/-
  userdata.GetUint32 and GetString give the number and the text of the first user data of a kind. Condition: these are a number's four bytes, or a text's bytes with a 0 behind.
-/
import Derived.Test.YtchmljpcimjpkaaGet
import Derived.Test.YtchmljpcimjpkaaAppTwo
import Derived.Deep.QuietTactic
import Derived.BigQuiet
import Derived.Lib.EndianBits
namespace Go.Proofs.Ytchmljpcimjpkaa
open Go.RowKit

/-- A number comes back; the world is as it was but for draws. -/
def Num (x : Nat) (w : World) (e : Ending) (w' : World) : Prop := e = .returned (.int .u32 (x : Int)) ∧ ∃ q, w' = w.drewN q

theorem le_sum (x y0 y1 y2 y3 : Nat) (hx : x < 4294967296) (h0 : x % 2 ^ 8 = y0) (h1 : x / 256 % 2 ^ 8 = y1) (h2 : x / 65536 % 2 ^ 8 = y2) (h3 : x / 16777216 % 2 ^ 8 = y3) :
    bits .or .u32 (bits .or .u32 (bits .or .u32 (y0 : Int) ((y1 : Int) * 256)) ((y2 : Int) * 65536)) ((y3 : Int) * 16777216) = (x : Int) := by
  rw [u32_or8 (y0 : Int) ((y1 : Int) * 256) (by omega) (by omega) (by omega) (by omega) (by omega), u32_or16 ((y0 : Int) + (y1 : Int) * 256) ((y2 : Int) * 65536) (by omega) (by omega) (by omega) (by omega) (by omega),
    u32_or24 ((y0 : Int) + (y1 : Int) * 256 + (y2 : Int) * 65536) ((y3 : Int) * 16777216) (by omega) (by omega) (by omega) (by omega) (by omega)]
  omega
theorem num_of {x : Nat} {w : World} {z : Int} {q : Nat} (h : z = (x : Int)) : Num x w (.returned (.int .u32 z)) (w.drewN q) := ⟨by rw [h], q, rfl⟩

set_option maxHeartbeats 400000 in
theorem le_any (b off n c x : Nat) (hx : x < 4294967296) (w : World) (hd : Rd w w.heap.size (some ⟨b, off, none⟩) n (four x)) :
    Calls Try.prog 31 #[.slice (some ⟨b, off, none⟩) n c] w (Num x w) := by
  obtain rfl : n = 4 := hd.1.symm
  obtain ⟨b', off', e, hb, hc⟩ := hd.at_ (by omega)
  injection e with e
  injection e with e1 e2
  subst e1 e2
  have c0 := hc 0 (UInt8.ofNat x) rfl
  have c1 := hc 1 (UInt8.ofNat (x / 256)) rfl
  have c2 := hc 2 (UInt8.ofNat (x / 65536)) rfl
  have c3 := hc 3 (UInt8.ofNat (x / 16777216)) rfl
  clear hc hd
  rw [UInt8.toNat_ofNat'] at c0 c1 c2 c3
  rw [Nat.add_zero] at c0
  have b0 : x % 2 ^ 8 ≤ 255 := by omega
  have b1 : x / 256 % 2 ^ 8 ≤ 255 := by omega
  have b2 : x / 65536 % 2 ^ 8 ≤ 255 := by omega
  have b3 : x / 16777216 % 2 ^ 8 ≤ 255 := by omega
  generalize h0 : x % 2 ^ 8 = y0 at *
  generalize h1 : x / 256 % 2 ^ 8 = y1 at *
  generalize h2 : x / 65536 % 2 ^ 8 = y2 at *
  generalize h3 : x / 16777216 % 2 ^ 8 = y3 at *
  have HS := Lib.hid (le_sum x y0 y1 y2 y3 hx h0 h1 h2 h3)
  clear h0 h1 h2 h3
  go_enter Try.func31, Try.ntmps31
  go_wp2
  go_quiet (fail)
  go_wp2
  go_ret
  exact num_of HS.out

/-- A number and 'true' come back; the world is as it was but for draws. -/
def NumOk (x : Nat) (w : World) (e : Ending) (w' : World) : Prop := e = .returned (.tuple #[.int .u32 (x : Int), .bool true]) ∧ ∃ q, w' = w.drewN q

set_option maxHeartbeats 400000 in
theorem getU32_any (A : Option Addr) (n c x : Nat) (k : UInt8) (d : List UInt8) (w : World) (hd : Rd w w.heap.size A n d) (hc : n ≤ c) (hn : n ≤ 1000000) (hv : look k d = some (four x)) (hx : x < 4294967296) :
    Calls Try.prog 26 #[.slice A n c, .int .u8 (k.toNat : Int)] w (NumOk x w) := by
  have HG := Lib.hid (get_any A n c k d (four x) w hd hc hn hv)
  clear hv hd
  have hnil := fun (w : World) (a : Option Addr) (n c : Nat) => Lib.run_eql_slice_nil (P := Try.prog) w 22 5 a n c 0 0 Try.underlying22
  go_enter Try.func26, Try.ntmps26
  go_wp2_with (first
    | (go_at_call 24; refine HG.out.mono ?_; rintro e w' ⟨b, off, n2, c2, rfl, hc2, hr2, rfl⟩)
    | (go_at_call 31; refine (le_any b off n2 c2 x hx _ hr2).mono ?_; rintro e w' ⟨rfl, q, rfl⟩))
  go_ret2
  exact ⟨rfl, q, rfl⟩

/-- A text and 'true' come back; the world is as it was but for draws. -/
def TextOk (s : ByteArray) (w : World) (e : Ending) (w' : World) : Prop := e = .returned (.tuple #[.string s, .bool true]) ∧ ∃ q, w' = w.drewN q

theorem text_size {w : World} {B n : Nat} {A : Option Addr} {s : ByteArray} (h : Rd w B A n (s.data.toList ++ [0])) : n = s.size + 1 := by
  rw [← h.1, List.length_append]; rfl
theorem text_nought {w : World} {B n b off : Nat} {s : ByteArray} (h : Rd w B (some ⟨b, off, none⟩) n (s.data.toList ++ [0])) : w.cell? ⟨b, off + s.size, none⟩ = some (.int .u8 0) := by
  obtain ⟨b', off', e, _, hc⟩ := h.at_ (by rw [text_size h]; omega)
  injection e with e
  injection e with e1 e2
  subst e1 e2
  exact hc s.size 0 (by rw [List.getElem?_append_right (by simp)]; simp)
theorem text_back {w : World} {B n b off : Nat} {s : ByteArray} (c : Nat) (h : Rd w B (some ⟨b, off, none⟩) n (s.data.toList ++ [0])) :
    (convert 22 9 (.slice (some ⟨b, off, none⟩) s.size c)).run Try.prog w = .ok (.string s) w := by
  obtain ⟨b', off', e, _, hc⟩ := h.at_ (by rw [text_size h]; omega)
  injection e with e
  injection e with e1 e2
  subst e1 e2
  have := run_convert_bytes_back (P := Try.prog) w 22 9 5 ⟨b, off, none⟩ c s.data.toList Try.underlying22 Try.underlying5 Try.underlying9 (fun j hj => by
    rw [add_flat]
    exact hc j _ (by rw [List.getElem?_append_left hj]; exact List.getElem?_eq_getElem hj))
  exact this

set_option maxHeartbeats 400000 in
theorem getString_any (A : Option Addr) (n c : Nat) (s : ByteArray) (k : UInt8) (d : List UInt8) (w : World) (hd : Rd w w.heap.size A n d) (hc : n ≤ c) (hn : n ≤ 1000000) (hv : look k d = some (s.data.toList ++ [0])) (hs : s.size ≤ 200) :
    Calls Try.prog 28 #[.slice A n c, .int .u8 (k.toNat : Int)] w (TextOk s w) := by
  have HG := Lib.hid (get_any A n c k d _ w hd hc hn hv)
  clear hv hd
  have hnil := fun (w : World) (a : Option Addr) (n c : Nat) => Lib.run_eql_slice_nil (P := Try.prog) w 22 5 a n c 0 0 Try.underlying22
  go_enter Try.func28, Try.ntmps28
  go_wp2_with (go_at_call 24; refine HG.out.mono ?_; rintro e w' ⟨b, off, n2, c2, rfl, hc2, hr2, rfl⟩; obtain rfl := text_size hr2; have hcell := text_nought hr2; have hcv := text_back c2 hr2; clear hr2)
  go_ret2
  exact ⟨rfl, 0, rfl⟩
end Go.Proofs.Ytchmljpcimjpkaa
