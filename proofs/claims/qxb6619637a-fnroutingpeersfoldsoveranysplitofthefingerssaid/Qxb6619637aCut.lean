/-
  Seat b6619637a: reslices of a row of IDs ('xs[k:]', 'xs[:k]'). Our own text.
-/
import Derived.Test.Qxb6619637aLaw
namespace Go.Proofs.Qxb6619637a
open Go.RowKit
set_option linter.unusedSimpArgs false
set_option linter.unusedVariables false

/-- The address of 'xs[k:]'. -/
def lo (a : Option Addr) (n k : Nat) : Option Addr := if n = k then a else a.map (·.add (k * 16))
theorem run_from (a : Option Addr) (n k : Nat) (hk : k ≤ n) (w : World) : (Instr.sliceAt 22 (.slice a n n) (some (.int .i64 k)) none none).run Try.prog w = .ok (.slice (lo a n k) (n - k) (n - k)) w := by
  have h22 : Try.prog.underlying 22 = some (.slice (Try.prog.elem 22)) := by kernel_rfl
  have he : Try.prog.elem 22 = 30 := by kernel_rfl
  rw [run_sliceAt_slice _ _ _ _ _ _ h22, run_slice_l w 22 a n n h22 .i64 k (by omega) (by omega), he, Try.sizeOf30]
  simp [Result.andThen, sliced, lo]
theorem run_upto (a : Option Addr) (n k : Nat) (hk : k ≤ n) (w : World) : (Instr.sliceAt 22 (.slice a n n) none (some (.int .i64 k)) none).run Try.prog w = .ok (.slice a k n) w := by
  have h22 : Try.prog.underlying 22 = some (.slice (Try.prog.elem 22)) := by kernel_rfl
  have he : Try.prog.elem 22 = 30 := by kernel_rfl
  rw [run_sliceAt_slice _ _ _ _ _ _ h22, run_slice_h w 22 a n n h22 .i64 k (by omega) (by omega), he, Try.sizeOf30]
  cases a <;> simp [Result.andThen, sliced, Addr.add]
theorem exec_slice {a : Act} {op : Oper} (t : TypeId) (x : Operand) (lo hi mx : Option Operand) (ho : op.op = .slice t x lo hi mx) (v : Value)
    (h : ∀ w, (Instr.sliceAt t (a.eval x) (lo.map a.eval) (hi.map a.eval) (mx.map a.eval)).run Try.prog w = .ok v w) (w : World) : (execOp a.eval op).run Try.prog w = .ok (.value v) w := by
  unfold execOp
  simp only [ho, Sem.run_bind, h, Result.andThen_ok, Sem.run_pure]
theorem Rd.drop {w : World} {a : Option Addr} {n : Nat} {xs : List V} (h : Rd w a n xs) {k : Nat} (hk : k ≤ n) : Rd w (lo a n k) (n - k) (xs.drop k) := by
  obtain ⟨h1, h2⟩ := h
  refine ⟨by simp [h1], fun j hj => ?_⟩
  have hj' : k + j < xs.length := by simp at hj; omega
  obtain ⟨b, o, rfl, hr⟩ := h2 (k + j) hj'
  have hne : ¬ n = k := by omega
  refine ⟨b, o + k * 16, by simp [lo, hne, Addr.add_mid], ?_⟩
  rw [List.getElem_drop, Nat.add_assoc, ← Nat.add_mul]
  exact hr
theorem Rd.take {w : World} {a : Option Addr} {n : Nat} {xs : List V} (h : Rd w a n xs) {k : Nat} (hk : k ≤ n) : Rd w a k (xs.take k) := by
  obtain ⟨h1, h2⟩ := h
  refine ⟨by simp [h1]; omega, fun j hj => ?_⟩
  obtain ⟨b, o, e, hr⟩ := h2 j (by simp at hj; omega)
  exact ⟨b, o, e, by rw [List.getElem_take]; exact hr⟩

end Go.Proofs.Qxb6619637a
