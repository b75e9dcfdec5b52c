/-
  impl.quietly returns true behind a function that returns; nothing else turns but its own variable. Condition: the function returns.
-/
import Derived.Test.YtchmljpcimjpkaaMem
import Derived.Tactics
import Derived.Tactics2
import Derived.Defers
import Derived.Recover
import Derived.Laws.Pointers
import Derived.WalkKit
import Derived.WalkSpells
import Derived.WalkLawsBesides
import Derived.OneCell
import Derived.Lib.Hide
namespace Go.Proofs.Ytchmljpcimjpkaa
open Go.RowKit

theorem caught_idle (p : Addr) (w : World) :
    CallsD Try.prog 30 #[.pointer (some p)] .returning w fun e u' w' => e = .returned (.tuple #[]) ∧ u' = .returning ∧ w' = w := by
  refine callsD_of_wpS Try.func30 rfl fun c₀ cs hu => ?_
  apply wpS_seq
  apply wpS_region
  simp [wpOpsS, go_sem, recoverD, hu, Try.ntmps30, Exit.thenS]
  refine wpS_cond (t := false) (by simp [Act.eval, Array.replicate]) ?_
  simp only [Bool.false_eq_true, if_false]
  refine wpS_of_wp (wp_skip ?_)
  cases c₀
  simp_all [bodyPostS, results, Try.results30]

/-- A function with a body is entered. -/
theorem enters {f : FuncId} {fn : Func} {c : Code} (hf : Try.prog.funcs[f]? = some fn) (hname : (fn.name == "runtime.NumGoroutine") = false) (hb : fn.body = some c) (args : Array Value) (w : World) :
    (callFunc f args).run Try.prog w = .ok (.enter f args) w := by
  have h1 : fn.name ≠ "runtime.NumGoroutine" := by simpa using hname
  simp [callFunc, hf, h1, hb]

theorem quietly_any (G : Nat) (caps : Array Value) (w : World) (R : World → Prop) (hent : ∀ w, (callFunc G caps).run Try.prog w = .ok (.enter G caps) w)
    (h : Calls Try.prog G caps (w.alloc (.cells #[.bool false] 4)) fun e w' => e = .returned (.tuple #[]) ∧ R w')
    (hR : ∀ w1, R w1 → w1.heap[w.heap.size]? = some (.cells #[.bool false] 4 (0, 0))) :
    Calls Try.prog 22 #[.func (.func G) #[] caps] w fun e w' => e = .returned (.bool true) ∧ ∃ w1, R w1 ∧ w' = w1.setCell ⟨w.heap.size, 0, none⟩ (.bool true) := by
  have hmf : ∀ (fn : Fn) (first cap : Array Value) (w : World), (Instr.makeFunc fn first cap).run Try.prog w = .ok (.func fn first cap) w := fun _ _ _ _ => rfl
  have H := Lib.hid h
  have HR := Lib.hid hR
  clear h hR
  go_enter_defers Try.func22, Try.ntmps22
  go_wp2_with fail
  refine H.out.mono ?_
  rintro e w1 ⟨rfl, hr⟩
  have hc := cell_of_one (HR.out w1 hr)
  have hf := free_of_one (HR.out w1 hr)
  go_wp2_with fail
  refine leaves_cons (f := 30) (args := #[.pointer (some ⟨w.heap.size, 0, none⟩)]) (by simp) (by simp [go_sem]) ?_
  refine (caught_idle ⟨w.heap.size, 0, none⟩ _).mono ?_
  rintro e u' w'' ⟨rfl, rfl, rfl⟩
  simp only [Leaves, settle, results, Try.results22]
  simp [go_sem, hc]
  exact ⟨w1, hr, rfl⟩
end Go.Proofs.Ytchmljpcimjpkaa
