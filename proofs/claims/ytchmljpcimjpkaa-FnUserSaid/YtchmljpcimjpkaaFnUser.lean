/-
  FnUser, for every input: user data that are appended to have their kind, their length and their bytes (numbers with their lowest byte first, texts with a 0 at their end), and the first ones of a kind are found; each argument reads behind the call as it read before. No condition: the full statement.
  (The frame round the walk was written by the guide's proof-skeleton.mjs.)
-/
import Derived.Test.YtchmljpcimjpkaaRows
import Derived.Test.YtchmljpcimjpkaaLawB
import Derived.WalkKit
import Derived.ProofKit
import Derived.OpenShut
import Derived.ShutString
import Derived.ChangeOld
import Derived.Below
namespace Go.Proofs.Ytchmljpcimjpkaa.fnUser
open Go.ChangeShapes Go.WideShapes Go.ChangeAt Go.RowKit
open Go.ChangeMaps (open_string shut_string)
open Go.Proofs.Ytchmljpcimjpkaa

theorem own : ownKnob Try.prog.godebug = none := by kernel_rfl
theorem laidOut : laidOutB Try.prog = true := by kernel_rfl

/-- WHAT THE WALK IS TOLD OF A SLICE OF INTEGERS THAT CAME IN: it is nil; or it leads to a row of 'cap' cells, the numbers 'zs' (the first 'len' are its elements, the rest its spare room), each fitting its kind. -/
def IsRow (k : IntKind) (w : World) (a : Option Addr) (len cap : Nat) (zs : List Int) : Prop :=
  (a = none ∧ len = 0 ∧ cap = 0 ∧ zs = []) ∨
  ∃ x, a = some x ∧ len ≤ cap ∧ cap ≤ maxLen ∧ zs.length = cap ∧ (∀ i, i < zs.length → w.cell? (x.add i) = some (.int k (zs.getD i 0))) ∧ ∀ n ∈ zs, (Lit.int k n).wf = true

/-- A slice of bytes that came in reads as a list of bytes. -/
theorem rd_of_row {w : World} {a : Option Addr} {len cap : Nat} {zs : List Int} (h : IsRow .u8 w a len cap zs) : ∃ d, Rd w w.heap.size a len d ∧ len ≤ cap := by
  rcases h with ⟨rfl, rfl, rfl, rfl⟩ | ⟨x, rfl, hl, hm, hz, hcell, hwz⟩
  · exact ⟨[], Rd.nil, Nat.le_refl _⟩
  · by_cases h0 : len = 0
    · subst h0
      exact ⟨[], ⟨rfl, fun h => absurd h (by omega)⟩, hl⟩
    · obtain ⟨b, off, spot⟩ := x
      have hc := hcell 0 (by omega)
      have hspot : spot = none := by simpa [Addr.add] using World.cell?_spot hc
      subst hspot
      have hb : b < w.heap.size := by
        have := World.block_lt_of_cell? _ _ hc
        rwa [add_flat] at this
      refine ⟨(zs.take len).map fun n => UInt8.ofNat n.toNat, ⟨by simp; omega, fun _ => ⟨b, off, rfl, hb, fun i u hu => ?_⟩⟩, hl⟩
      rw [bv_get] at hu
      have hi : i < len := by
        rcases Nat.lt_or_ge i len with h | h
        · exact h
        · rw [List.getElem?_eq_none (by simp; omega)] at hu
          cases hu
      have hi2 : i < zs.length := by omega
      have hci := hcell i hi2
      rw [add_flat] at hci
      rw [hci]
      rw [List.getElem?_map, List.getElem?_take, if_pos hi, List.getElem?_eq_getElem hi2] at hu
      simp only [Option.map_some, Option.some.injEq] at hu
      rw [← hu]
      have hz2 : zs.getD i 0 = zs[i] := by simp [List.getD, List.getElem?_eq_getElem hi2]
      have hbd := bounds_u8 (hwz zs[i] (List.getElem_mem hi2))
      rw [hz2, UInt8.toNat_ofNat']
      congr 2
      omega

theorem walk (a0 : Option Addr) (len0 cap0 : Nat) (z0 : List Int) (a1 : Int) (a2 : Option Addr) (len2 cap2 : Nat) (z2 : List Int) (a3 : Int) (a4 : ByteArray) (w : World) (w0 : IsRow .u8 w a0 len0 cap0 z0) (w1 : (Lit.int .i64 a1).wf = true) (w2 : IsRow .u8 w a2 len2 cap2 z2) (w3 : (Lit.int .u32 a3).wf = true) (_w4 : a4.size ≤ maxLen) :
    Calls Try.prog 3 #[.slice a0 len0 cap0, .int .i64 a1, .slice a2 len2 cap2, .int .u32 a3, .string a4] w fun e w' => e = .returned (.bool true) ∧ Below w.heap.size w w' := by
  obtain ⟨d, hd, hc⟩ := rd_of_row w0
  obtain ⟨v, hv, _⟩ := rd_of_row w2
  have h3 := bounds_u32 w3
  by_cases hbig : 2147483647 < len0 ∨ 2147483647 < len2 ∨ 2147483647 < a4.size
  · exact law_big a0 a2 len0 cap0 len2 cap2 a1 a3 a4 w hbig
  by_cases hout : 300 < len0 ∨ a1 < 0 ∨ 255 < a1 ∨ 255 < len2 ∨ 200 < a4.size ∨ nought a4 = true
  · exact law_out a0 a2 len0 cap0 len2 cap2 a1 a3 a4 w (by omega) (by omega) (by omega) hout
  have h0 : nought a4 = false := by
    cases hn : nought a4 with
    | false => rfl
    | true => exact absurd (.inr (.inr (.inr (.inr (.inr hn))))) hout
  have h1 : 0 ≤ a1 ∧ a1 ≤ 255 ∧ len0 ≤ 300 ∧ len2 ≤ 255 ∧ a4.size ≤ 200 := by
    refine ⟨?_, ?_, ?_, ?_, ?_⟩
    · exact Int.not_lt.1 fun h => hout (.inr (.inl h))
    · exact Int.not_lt.1 fun h => hout (.inr (.inr (.inl h)))
    · exact Nat.not_lt.1 fun h => hout (.inl h)
    · exact Nat.not_lt.1 fun h => hout (.inr (.inr (.inr (.inl h))))
    · exact Nat.not_lt.1 fun h => hout (.inr (.inr (.inr (.inr (.inl h)))))
  clear hbig hout
  obtain ⟨k, rfl⟩ : ∃ k : UInt8, (k.toNat : Int) = a1 := ⟨UInt8.ofNat a1.toNat, by rw [UInt8.toNat_ofNat']; omega⟩
  obtain ⟨x, rfl⟩ : ∃ x : Nat, (x : Int) = a3 := ⟨a3.toNat, by omega⟩
  by_cases hn : (look k d).isSome = true ∨ closed d = false
  · exact law_not a0 a2 len0 cap0 len2 cap2 k x a4 d w hd hc (by omega) (by omega) (by omega) h0 hn
  · refine law_main a0 a2 len0 cap0 len2 cap2 x k a4 d v w hd hv hc (by omega) (by omega) (by omega) (by omega) h0 ?_ ?_
    · cases hl : look k d with
      | none => rfl
      | some y => exact absurd (.inl (by rw [hl]; rfl)) hn
    · cases hl : closed d with
      | true => rfl
      | false => exact absurd (.inr hl) hn

/-! ### THE ROW's STEP: WRITTEN OUT: LEAVE IT -/
set_option maxRecDepth 100000 in
theorem lifted (os : Os) (started : os.Started) (H : Type) (enc : TypeId × Value → H) :
    ReturnsInHanded {} Try.checked os 3 .any (Rows.fnUserSpec.pre6 enc Try.prog Try.f3 Rows.fnUserRow.domain false) (Rows.fnUserSpec.post enc Try.prog Try.f3 false true false false) := by
  refine returnsInHanded_of_change (C := Try.checked) own started (by kernel_rfl) Try.func3
    (ChangeSpec.witness6 (enc := enc) (C := Try.checked) false ⟨#[], #[.slice none 0 0, .int .i64 0, .slice none 0 0, .int .u32 0, .string ByteArray.empty], []⟩ 8 (by kernel_rfl) (by kernel_rfl) (by kernel_rfl) (by kernel_rfl)) ?_
  intro W base args ds gs before hval0 hW hcnd _
  have hval : ∀ (j : Nat) t v, Try.f3.params[j]? = some t → args[j]? = some v → Value.okWide Try.prog W .any base t v := hval0
  have hW' := hW
  obtain ⟨p, q, hA0, hV, rfl, hfz, hnd⟩ := hW
  have hA : DataW.TrodAll enc Try.prog W 0 (fun _ => true) true Try.f3.params.toList args.toList ds p := hA0
  rw [Try.params3] at hA hval
  obtain ⟨v0, vs0, d0, ds0, p0, q0, hargs, rfl, rfl, h0, r0⟩ := trodAll_cons hA
  obtain ⟨v1, vs1, d1, ds1, p1, q1, rfl, rfl, rfl, h1, r1⟩ := trodAll_cons r0
  obtain ⟨v2, vs2, d2, ds2, p2, q2, rfl, rfl, rfl, h2, r2⟩ := trodAll_cons r1
  obtain ⟨v3, vs3, d3, ds3, p3, q3, rfl, rfl, rfl, h3, r3⟩ := trodAll_cons r2
  obtain ⟨v4, vs4, d4, ds4, p4, q4, rfl, rfl, rfl, h4, r4⟩ := trodAll_cons r3
  obtain ⟨rfl, rfl, rfl⟩ := trodAll_nil r4
  obtain rfl : args = #[v0, v1, v2, v3, v4] := by cases args; simp_all
  obtain ⟨rfl, rfl⟩ := trodVars_none hV
  obtain ⟨a0, len0, cap0, rfl⟩ := okWide_slice Try.underlying22 (hval 0 22 v0 rfl rfl)
  have k0 := h0
  have lt0 : ∀ x ∈ p0, x.block < W.heap.size := by obtain ⟨m, hm⟩ := k0; exact DataW.trod_lt m _ _ _ hm
  obtain ⟨z0, w0⟩ : ∃ zs, IsRow .u8 W a0 len0 cap0 zs := by
    obtain ⟨fuel, hf⟩ := h0
    rcases open_ints Try.underlying22 Try.underlying5 (by kernel_rfl) hf with ⟨hcs, _⟩ | ⟨x, l, c, zs, hcs, _, hl, hm, hz, _, hcell, hwz⟩
    · simp [Value.cells] at hcs
      obtain ⟨rfl, rfl, rfl⟩ := hcs
      exact ⟨[], .inl ⟨rfl, rfl, rfl, rfl⟩⟩
    · simp [Value.cells] at hcs
      obtain ⟨rfl, rfl, rfl⟩ := hcs
      exact ⟨zs, .inr ⟨_, rfl, hl, hm, by simpa using hz, hcell, hwz⟩⟩
  obtain ⟨a1, rfl, rfl, rfl, w1⟩ := open_int Try.underlying3 (hval 1 3 v1 rfl rfl) h1
  obtain ⟨a2, len2, cap2, rfl⟩ := okWide_slice Try.underlying22 (hval 2 22 v2 rfl rfl)
  have k2 := h2
  have lt2 : ∀ x ∈ p2, x.block < W.heap.size := by obtain ⟨m, hm⟩ := k2; exact DataW.trod_lt m _ _ _ hm
  obtain ⟨z2, w2⟩ : ∃ zs, IsRow .u8 W a2 len2 cap2 zs := by
    obtain ⟨fuel, hf⟩ := h2
    rcases open_ints Try.underlying22 Try.underlying5 (by kernel_rfl) hf with ⟨hcs, _⟩ | ⟨x, l, c, zs, hcs, _, hl, hm, hz, _, hcell, hwz⟩
    · simp [Value.cells] at hcs
      obtain ⟨rfl, rfl, rfl⟩ := hcs
      exact ⟨[], .inl ⟨rfl, rfl, rfl, rfl⟩⟩
    · simp [Value.cells] at hcs
      obtain ⟨rfl, rfl, rfl⟩ := hcs
      exact ⟨zs, .inr ⟨_, rfl, hl, hm, by simpa using hz, hcell, hwz⟩⟩
  obtain ⟨a3, rfl, rfl, rfl, w3⟩ := open_int Try.underlying23 (hval 3 23 v3 rfl rfl) h3
  obtain ⟨a4, rfl, rfl, rfl, w4⟩ := open_string Try.underlying9 (hval 4 9 v4 rfl rfl) h4
  clear hA0 hval0
  refine (walk a0 len0 cap0 z0 a1 a2 len2 cap2 z2 a3 a4 W w0 w1 w2 w3 w4).mono fun e W' ⟨he, bel⟩ => ?_
  subst he
  exact ⟨_, rfl, _, _, _, [], _, [], hW', trodAll_mk1 (shut_bool Try.underlying4 _), (trodAll_cons_mk (Below.trod laidOut (by kernel_rfl) (of_decide_eq_true (by kernel_rfl)) k0 bel lt0) (trodAll_cons_mk (shut_int Try.underlying3 w1) (trodAll_cons_mk (Below.trod laidOut (by kernel_rfl) (of_decide_eq_true (by kernel_rfl)) k2 bel lt2) (trodAll_cons_mk (shut_int Try.underlying23 w3) (trodAll_cons_mk (shut_string Try.underlying9 w4) trodAll_mk0))))), rfl, bel.frame _, fun h => by cases h⟩

theorem over : Rows.fnUserRow.holds Try.pinned (OpenSpec.ofChange Rows.fnUserSpec) :=
  OpenClaim.holds_of_wide 3 Try.f3 rfl rfl rfl rfl rfl rfl rfl ⟨rfl, rfl, rfl, rfl, rfl⟩ rfl rfl rfl rfl rfl (by kernel_rfl) Try.func3 (by kernel_rfl)
    (of_decide_eq_true (by kernel_rfl)) (by unfold Func.isWrapper; first | (rw [if_pos (by decide +kernel)]; kernel_rfl) | (rw [if_neg (by decide +kernel)]; exact ⟨rfl, rfl⟩))
    (fun os started H enc _ => lifted os started H enc)

end Go.Proofs.Ytchmljpcimjpkaa.fnUser

namespace Go.Proofs.Ytchmljpcimjpkaa
/-- The statement: user data, for every input. -/
theorem fnUser_holds : Rows.FnUserSaid := fnUser.over
#print axioms fnUser_holds
end Go.Proofs.Ytchmljpcimjpkaa
