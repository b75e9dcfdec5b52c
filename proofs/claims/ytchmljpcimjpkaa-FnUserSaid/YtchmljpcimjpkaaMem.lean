/-
  Words for memory: a slice of bytes that reads as a list ('Rd'), a slice of bytes in a block of the call's own ('Own'), and what append leaves of them.
-/
import Derived.Test.YtchmljpcimjpkaaProg
import Derived.Test.YtchmljpcimjpkaaPlain
import Derived.WalkKit
import Derived.WalkSpells
import Derived.Below
import Derived.Laws.OwnMore
import Derived.Laws.BytesArg
import Derived.Maps.AppendAt
import Derived.KernelRfl
namespace Go.Proofs.Ytchmljpcimjpkaa
open Go.RowKit

/-- The cells of bytes. -/
def bv (l : List UInt8) : List Value := l.map fun b => Value.int .u8 (b.toNat : Int)
theorem bv_length (l : List UInt8) : (bv l).length = l.length := by simp [bv]
theorem bv_append (l m : List UInt8) : bv (l ++ m) = bv l ++ bv m := by simp [bv]
theorem bv_get (l : List UInt8) (i : Nat) : (bv l)[i]? = l[i]?.map fun b => Value.int .u8 (b.toNat : Int) := by simp [bv]
theorem bv_one (l : List UInt8) : ∀ u ∈ bv l, u.oneCell' = true := by
  intro u hu
  obtain ⟨b, _, rfl⟩ := List.mem_map.1 hu
  rfl

/-- The slice of length n from A on reads as the bytes l, and lies below block B. -/
def Rd (w : World) (B : Nat) (A : Option Addr) (n : Nat) (l : List UInt8) : Prop :=
  l.length = n ∧ (0 < n → ∃ b off, A = some ⟨b, off, none⟩ ∧ b < B ∧ ∀ i u, (bv l)[i]? = some u → w.cell? ⟨b, off + i, none⟩ = some u)

/-- The slice of length n and room cap at the head of block g, one of the call's own blocks from base on, holds the bytes l. -/
def Own (w : World) (base g n cap : Nat) (l : List UInt8) : Prop := w.ownsRow base 5 1 (.slice (some ⟨g, 0, none⟩) n cap) n (bv l)

theorem add_flat (b off i : Nat) : (⟨b, off, none⟩ : Addr).add i = ⟨b, off + i, none⟩ := by
  unfold Addr.add
  split <;> simp_all

section
variable {w w' : World} {B B' base g n cap : Nat} {A : Option Addr} {l : List UInt8}

theorem Rd.len (h : Rd w B A n l) : l.length = n := h.1
theorem Rd.nil : Rd w B A 0 [] := ⟨rfl, fun h => absurd h (by omega)⟩
theorem Rd.more (h : Rd w B A n l) (hB : B ≤ B') : Rd w B' A n l :=
  ⟨h.1, fun hn => by
    obtain ⟨b, off, e, hb, hc⟩ := h.2 hn
    exact ⟨b, off, e, by omega, hc⟩⟩
theorem Rd.keep (h : Rd w B A n l) (hk : ∀ b off, b < B → w'.cell? ⟨b, off, none⟩ = w.cell? ⟨b, off, none⟩) : Rd w' B A n l :=
  ⟨h.1, fun hn => by
    obtain ⟨b, off, e, hb, hc⟩ := h.2 hn
    exact ⟨b, off, e, hb, fun i u hu => (hk _ _ hb).trans (hc i u hu)⟩⟩
theorem Rd.below (h : Rd w B A n l) (hb : Below B w w') : Rd w' B A n l := h.keep fun b off hp => hb.cell (p := ⟨b, off, none⟩) hp
theorem Rd.alloc (h : Rd w B A n l) (hB : B ≤ w.heap.size) (o : Obj) : Rd (w.alloc o) B A n l := h.below ((Below.refl B w).alloc hB o)
theorem Rd.drew (h : Rd w B A n l) : Rd w.drew B A n l := h
/-- A slice in another block than the one that append has turned. -/
theorem Rd.grown (h : Rd w B A n l) (hg : w.grownBy w' (some g)) (hB : B ≤ w.heap.size) (hne : ∀ a, A = some a → a.block ≠ g) : Rd w' B A n l :=
  ⟨h.1, fun hn => by
    obtain ⟨b, off, rfl, hb, hc⟩ := h.2 hn
    exact ⟨b, off, rfl, hb, fun i u hu => (World.cell?_of_block (a := ⟨b, off + i, none⟩) (hg.block b (by omega) (fun e => hne _ rfl (by injection e)))).trans (hc i u hu)⟩⟩
/-- The first byte and so on: a cell. -/
theorem Rd.at_ (h : Rd w B A n l) (hn : 0 < n) : ∃ b off, A = some ⟨b, off, none⟩ ∧ b < B ∧ ∀ i (u : UInt8), l[i]? = some u → w.cell? ⟨b, off + i, none⟩ = some (.int .u8 (u.toNat : Int)) := by
  obtain ⟨b, off, e, hb, hc⟩ := h.2 hn
  exact ⟨b, off, e, hb, fun i u hu => hc i _ (by rw [bv_get, hu]; rfl)⟩
/-- A cut 's[k:j]', its address as the model has it: that of the whole where nothing of the room is left. -/
theorem Rd.cut (h : Rd w B A n l) {k j : Nat} (hk : k ≤ j) (hj : j ≤ n) (hn : n ≤ cap) : Rd w B (if cap = k then A else A.map (·.add k)) (j - k) ((l.drop k).take (j - k)) := by
  refine ⟨by rw [List.length_take, List.length_drop, h.1]; omega, fun h0 => ?_⟩
  obtain ⟨b, off, rfl, hb, hc⟩ := h.2 (by omega)
  rw [if_neg (by omega)]
  refine ⟨b, off + k, by rw [Option.map_some, add_flat], hb, fun i u hu => ?_⟩
  rw [show off + k + i = off + (k + i) by omega]
  refine hc _ _ ?_
  rw [bv_get] at hu ⊢
  rw [← hu, List.getElem?_take]
  split
  · rw [List.getElem?_drop]
  · rename_i hlt
    rw [List.getElem?_take, if_neg hlt] at hu
    cases hu

theorem Own.len (h : Own w base g n cap l) : l.length = n := by have := h.1; rw [bv_length] at this; omega
theorem Own.form (h : Own w base g n cap l) : base ≤ g ∧ g < w.heap.size ∧ n ≤ cap ∧ cap ≤ maxLen := by
  rcases h.2 with ⟨hv, _⟩ | ⟨g', cap', cur, hv, hb, hg, hn, hc, _⟩
  · cases hv
  · injection hv with h1 _ h3
    injection h1 with h1
    injection h1 with h1
    subst h1 h3
    exact ⟨hb, (Array.getElem?_eq_some_iff.1 hg).1, hn, hc⟩
theorem Own.rd (h : Own w base g n cap l) : Rd w w.heap.size (some ⟨g, 0, none⟩) n l := by
  refine ⟨h.len, fun _ => ⟨g, 0, rfl, h.form.2.1, fun i u hu => ?_⟩⟩
  have := World.ownsRow.cells h (g := g) rfl i u hu
  rwa [add_flat] at this
theorem Own.rdN (h : Own w base g n cap l) (hB : g < B) : Rd w B (some ⟨g, 0, none⟩) n l := by
  refine ⟨h.len, fun _ => ⟨g, 0, rfl, hB, fun i u hu => ?_⟩⟩
  have := World.ownsRow.cells h (g := g) rfl i u hu
  rwa [add_flat] at this
theorem Own.kept {row : Option Nat} (h : Own w base g n cap l) (hg : w.grownBy w' row) (hne : some g ≠ row) : Own w' base g n cap l :=
  World.ownsRow.kept h hg (.inr hne)
theorem Own.same (h : Own w base g n cap l) (hb : w'.heap[g]? = w.heap[g]?) : Own w' base g n cap l := by
  refine ⟨h.1, ?_⟩
  rcases h.2 with hn | ⟨g', cap', cur, hv, hbg, hg, rest⟩
  · exact .inl hn
  · injection hv with h1 h2 h3
    injection h1 with h1
    injection h1 with h1
    subst h1
    exact .inr ⟨g, cap', cur, by rw [h3], hbg, by rw [hb]; exact hg, rest⟩
theorem Own.below (h : Own w base g n cap l) (hb : Below B w w') (hg : g < B) : Own w' base g n cap l := h.same (hb.block g hg)
theorem Own.drew (h : Own w base g n cap l) : Own w.drew base g n cap l := h
theorem Own.alloc (h : Own w base g n cap l) (o : Obj) : Own (w.alloc o) base g n cap l := World.ownsRow.alloc h o
theorem Own.more (h : Own w base g n cap l) (hB : B ≤ g) : Own w B g n cap l := by
  refine ⟨h.1, ?_⟩
  rcases h.2 with hn | ⟨g', cap', cur, hv, hbg, rest⟩
  · exact .inl hn
  · injection hv with h1 h2 h3
    injection h1 with h1
    injection h1 with h1
    subst h1
    exact .inr ⟨g, cap', cur, by rw [h3], hB, rest⟩
theorem Own.new (w : World) (hb : base ≤ w.heap.size) : Own (w.alloc (.cells #[] 5)) base w.heap.size 0 0 [] :=
  World.ownsRow_made w #[] 0 hb (by unfold maxLen; omega) rfl
/-- A block of bytes written out. -/
theorem Own.lit (w : World) (cs : Array Value) (l : List UInt8) (hb : base ≤ w.heap.size) (hcs : cs.toList = bv l) (hl : l.length ≤ maxLen) :
    Own (w.alloc (.cells cs 5)) base w.heap.size l.length l.length l := by
  have hs : cs.size = l.length * 1 := by rw [← Array.length_toList, hcs, bv_length]; omega
  have := World.ownsRow_lit (base := base) (e := 5) (size := 1) w cs l.length hb hl hs
  rw [hcs] at this
  exact this
end

theorem info5 : (Try.prog.info? 5).map (fun i => (i.zero, i.size, i.bytes)) = some (some (.int .u8 0), 1, 1) := by kernel_rfl

/-- append(v, x...) onto a slice of the call's own: x read as bytes, nil among them. -/
theorem run_append8 {w : World} {base g n cap B m c : Nat} {A : Option Addr} {l x : List UInt8} (ty : TypeId) (h : Own w base g n cap l) (hx : Rd w B A m x) (hs : n + m ≤ 1000000) (hbase : base ≤ w.heap.size) :
    ∃ g' cap' w', (Builtin.append_ #[22, 22] ty #[.slice (some ⟨g, 0, none⟩) n cap, .slice A m c]).run Try.prog w = .ok (.slice (some ⟨g', 0, none⟩) (n + m) cap') w' ∧
      Own w' base g' (n + m) cap' (l ++ x) ∧ w.grownBy w' (some g) ∧ (g' = g ∨ g' = w.heap.size) := by
  obtain ⟨i0, hi, hz0, hz1, hz2⟩ := info_parts info5
  have key : ∀ ad : Addr, A = some ad → (∀ j u, (bv x)[j]? = some u → w.cell? (ad.add j) = some u) →
      ∃ g' cap' w', (Builtin.append_ #[22, 22] ty #[.slice (some ⟨g, 0, none⟩) n cap, .slice A m c]).run Try.prog w = .ok (.slice (some ⟨g', 0, none⟩) (n + m) cap') w' ∧
        Own w' base g' (n + m) cap' (l ++ x) ∧ w.grownBy w' (some g) ∧ (g' = g ∨ g' = w.heap.size) := by
    rintro ad rfl hc
    obtain ⟨v', w', hr, ho, hg, hn, hat⟩ := run_append_own_at (P := Try.prog) w base 22 ty 5 i0 (.int .u8 0) 1 1 Try.underlying22 hi hz0 hz1 hz2 rfl (by omega) _ n (bv l) h ad m c (bv x) (by rw [bv_length, hx.1]; omega) hc (bv_one x)
      (by unfold maxLen; omega) (by omega) hbase
    rcases ho.2 with ⟨hv, _⟩ | ⟨g', cap', cur, hv, hrest⟩
    · have := (hn.1 hv).1
      cases this
    · subst hv
      refine ⟨g', cap', w', hr, by unfold Own; rw [bv_append]; exact ho, hg, ?_⟩
      simpa [Value.ownBlock] using hat
  rcases Nat.eq_zero_or_pos m with h0 | h0
  · subst h0
    have hx0 : x = [] := List.eq_nil_of_length_eq_zero hx.1
    subst hx0
    rcases A with _ | ad
    · refine ⟨g, cap, w, ?_, by simpa using h, ⟨rfl, rfl, rfl, Nat.le_refl _, fun _ _ _ => rfl⟩, .inl rfl⟩
      simp [Builtin.append_, run_underlying Try.underlying22, sizeOf, typeInfo, hi, Builtin.lenOf, Builtin.firstCells, h.form.2.2.1, storeCells]
    · exact key ad rfl (fun j u hu => by simp [bv] at hu)
  · obtain ⟨b, off, rfl, hb, hc⟩ := hx.2 h0
    exact key _ rfl (fun j u hu => by rw [add_flat]; exact hc j u hu)

/-- append(b, x) of one byte x onto a slice b at the head of a block that bears the mark of '[]byte(s)' behind its last cell. -/
theorem run_append_text {w : World} {g n cap g' : Nat} {cur : Array Value} {l : List UInt8} {x : UInt8} (ty : TypeId) (hg : w.heap[g]? = some (.cells cur 5 (cur.size, cur.size + 1))) (hcap : cur.size = cap) (hn : n ≤ cap)
    (hl : l.length = n) (hcur : ∀ i u, (bv l)[i]? = some u → w.cell? ⟨g, i, none⟩ = some u) (hx : w.cell? ⟨g', 0, none⟩ = some (.int .u8 (x.toNat : Int))) (hs : n ≤ 1000000) :
    ∃ g2 c2 w', (Builtin.append_ #[22, 22] ty #[.slice (some ⟨g, 0, none⟩) n cap, .slice (some ⟨g', 0, none⟩) 1 1]).run Try.prog w = .ok (.slice (some ⟨g2, 0, none⟩) (n + 1) c2) w' ∧
      Rd w' w'.heap.size (some ⟨g2, 0, none⟩) (n + 1) (l ++ [x]) ∧ w.grownBy w' (some g) ∧ (g2 = g ∨ g2 = w.heap.size) := by
  obtain ⟨i0, hi, hz0, hz1, hz2⟩ := info_parts info5
  have hlt : g < w.heap.size := (Array.getElem?_eq_some_iff.1 hg).1
  have hnew : ∀ j v, (bv [x])[j]? = some v → w.cell? ((⟨g', 0, none⟩ : Addr).add j) = some v := by
    intro j v hj
    match j, hj with
    | 0, hj =>
      simp [bv] at hj
      rw [add_flat, ← hj]
      exact hx
    | j + 1, hj => simp [bv] at hj
  by_cases hroom : n + 1 ≤ cap
  · have hc : w.cell? ⟨g, n, none⟩ = cur[n]? := cell_of_row w g n cur 5 _ hg
    have hc' : w.cell? ⟨g, n, none⟩ = some (cur[n]'(by omega)) := by rw [hc]; exact Array.getElem?_eq_getElem (by omega)
    have hf : w.frozen? ⟨g, n, none⟩ = false := by simp [World.frozen?, hg]; omega
    refine ⟨g, cap, w.setCell ⟨g, n, none⟩ (.int .u8 (x.toNat : Int)), ?_, ⟨by simp [hl], fun _ => ⟨g, 0, rfl, by simpa [World.setCell] using hlt, fun i u hu => ?_⟩⟩, ⟨rfl, rfl, rfl, by simp [World.setCell], fun k _ hne => Below.heap_setCell _ _ _ _ (fun e => hne (by rw [e]))⟩, .inl rfl⟩
    · simp [Builtin.append_, run_underlying Try.underlying22, sizeOf, typeInfo, hi, hz1, Builtin.lenOf, hroom, Builtin.firstCells, loadCells, loadCellsFrom, hx, storeCells, Addr.add_lit, go_sem, stored, hc', hf]
    · rw [Nat.zero_add]
      rw [bv_append] at hu
      by_cases hin : i < n
      · rw [List.getElem?_append_left (by rw [bv_length]; omega)] at hu
        rw [World.cell?_setCell_other _ _ _ _ (by simp <;> omega)]
        exact hcur i u hu
      · rw [List.getElem?_append_right (by rw [bv_length]; omega), bv_length] at hu
        have : i = n := by
          have := (List.getElem?_eq_some_iff.1 hu).1
          simp [bv] at this
          omega
        subst this
        simp [bv, hl] at hu
        subst hu
        exact World.cell?_setCell_same _ _ _ hc'
  · have hr := run_append_grow (P := Try.prog) w 22 ty 5 i0 (.int .u8 0) Try.underlying22 hi hz0 ⟨g, 0, none⟩ n cap (bv l) (by rw [bv_length, hl, hz1]; omega) (fun j v hj => by rw [add_flat, Nat.zero_add]; exact hcur j v hj)
      ⟨g', 0, none⟩ 1 1 (bv [x]) (by simp [bv, hz1]) hnew (by omega) (by omega) (growslice_fits (by omega) (by rw [hz2]; omega))
    refine ⟨w.heap.size, _, _, hr, ⟨by simp [hl], fun _ => ⟨w.heap.size, 0, rfl, by simp, fun i u hu => ?_⟩⟩, ⟨rfl, rfl, rfl, by simp, fun k hk _ => Below.heap_alloc w.drew _ k hk⟩, .inr rfl⟩
    rw [Nat.zero_add]
    rw [bv_append] at hu
    have e := cell_of_row (w.drew.alloc (.cells ((bv l).toArray ++ (bv [x]).toArray ++ Builtin.zeroCells (Value.int .u8 0).cells (grownCap w (n + 1) cap 5 - (n + 1))) 5)) w.heap.size i _ 5 (0, 0) (heap_alloc_new w.drew _)
    refine e.trans ?_
    have hi2 : i < (bv l ++ bv [x]).length := (List.getElem?_eq_some_iff.1 hu).1
    rw [Array.getElem?_append_left (by simpa using hi2)]
    simpa using hu

/-- The same at the operation, for the walk. -/
theorem wpList_append8 {ops : Array Oper} {rest : List Oper} {o : Oper} {a : Act} {w : World} {Q : Exit → Act → World → Prop} (hgd : o.guard = none) (s x : Operand)
    (ho : o.op = .call { callee := .builtin .append, args := #[s, x], argTypes := #[22, 22] })
    (base g n cap B m c : Nat) (A : Option Addr) (l y : List UInt8) (hs : a.eval s = .slice (some ⟨g, 0, none⟩) n cap) (hx : a.eval x = .slice A m c)
    (h : Own w base g n cap l) (hy : Rd w B A m y) (hsz : n + m ≤ 1000000) (hbase : base ≤ w.heap.size)
    (K : ∀ g' cap' w', Own w' base g' (n + m) cap' (l ++ y) → w.grownBy w' (some g) → (g' = g ∨ g' = w.heap.size) → wpList Try.prog ops Q rest (a.put o.dst (.slice (some ⟨g', 0, none⟩) (n + m) cap')) w') :
    wpList Try.prog ops Q (o :: rest) a w := by
  refine wpList_plain hgd fun K' hK => ?_
  obtain ⟨g', cap', w', hr, h2, h3, h4⟩ := run_append8 (c := c) o.type h hy hsz hbase
  unfold Oper.wp execOp
  simp only [ho, resolve, invoke, builtin, Sem.run_bind, Sem.run_pure, Result.andThen_ok, List.map_toArray, List.map_cons, List.map_nil, hs, hx, hr]
  exact hK _ _ (K g' cap' w' h2 h3 h4)

theorem wpList_append_text {ops : Array Oper} {rest : List Oper} {o : Oper} {a : Act} {w : World} {Q : Exit → Act → World → Prop} (hgd : o.guard = none) (s y : Operand)
    (ho : o.op = .call { callee := .builtin .append, args := #[s, y], argTypes := #[22, 22] })
    (g n cap g' : Nat) (cur : Array Value) (l : List UInt8) (x : UInt8) (hs : a.eval s = .slice (some ⟨g, 0, none⟩) n cap) (hy : a.eval y = .slice (some ⟨g', 0, none⟩) 1 1)
    (hg : w.heap[g]? = some (.cells cur 5 (cur.size, cur.size + 1))) (hcap : cur.size = cap) (hn : n ≤ cap) (hl : l.length = n) (hcur : ∀ i u, (bv l)[i]? = some u → w.cell? ⟨g, i, none⟩ = some u)
    (hx : w.cell? ⟨g', 0, none⟩ = some (.int .u8 (x.toNat : Int))) (hsz : n ≤ 1000000)
    (K : ∀ g2 c2 w', Rd w' w'.heap.size (some ⟨g2, 0, none⟩) (n + 1) (l ++ [x]) → w.grownBy w' (some g) → (g2 = g ∨ g2 = w.heap.size) → wpList Try.prog ops Q rest (a.put o.dst (.slice (some ⟨g2, 0, none⟩) (n + 1) c2)) w') :
    wpList Try.prog ops Q (o :: rest) a w := by
  refine wpList_plain hgd fun K' hK => ?_
  obtain ⟨g2, c2, w', hr, h2, h3, h4⟩ := run_append_text o.type hg hcap hn hl hcur hx hsz
  unfold Oper.wp execOp
  simp only [ho, resolve, invoke, builtin, Sem.run_bind, Sem.run_pure, Result.andThen_ok, List.map_toArray, List.map_cons, List.map_nil, hs, hy, hr]
  exact hK _ _ (K g2 c2 w' h2 h3 h4)

end Go.Proofs.Ytchmljpcimjpkaa
