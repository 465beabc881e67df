/-
  Seat b6619637a: one step of a region that draws, under a condition that is held; ID loads in it. Our own text.
-/
import Derived.Test.Qxb6619637aLaw
import Derived.OrdersHeld
import Derived.RegionTactic
namespace Go.Proofs.Qxb6619637a
open Go.RowKit
set_option linter.unusedVariables false

theorem wpAnyH_one {P : Program} {ops : Array Oper} {Q : Exit → Act → World → Prop} {md : Region.Mode} {S : World → Prop} {i : Nat} {o : Oper} {fuel : Nat} {listed : Array Bool} {a : Act} {w : World}
    (hr : Region.ready md ops listed = [i]) (ho : ops[i]? = some o)
    (h : ∀ K' : Act → World → Prop, (∀ a w, (S w ∧ wpAnyH P md ops Q S fuel (listed.setIfInBounds i true) a w) → K' a w) → if Region.wanted o (yielded ops a.tmps) = true then Oper.wp P o a w K' Q else K' (a.put o.dst undef) w) :
    wpAnyH P md ops Q S (fuel + 1) listed a w :=
  wpAnyH_all hr (by simp) fun j hj => by
    rw [List.mem_singleton] at hj
    subst hj
    exact wpOp_step ho h
theorem exec_ld {a : Act} {op : Oper} (ty : TypeId) (x : Operand) (ho : op.op = .load ty x) (b o : Nat) (v : V) (hty : ty = 30 ∨ ty = 36) (hx : a.eval x = .pointer (some ⟨b, o, none⟩)) (w : World) (hc : w.rangeAt b o (E v)) :
    (execOp a.eval op).run Try.prog w = .ok (.value (G v)) w := by
  unfold execOp
  simp only [ho, hx, Sem.run_bind, run_ldV _ b o ty hty v hc, Result.andThen_ok, Sem.run_pure]
/-- An ID's cells stay where old memory stays. -/
theorem range_kept {w w' : World} {b o : Nat} {v : V} (h : w.rangeAt b o (E v)) (hb : Below w.heap.size w w') : w'.rangeAt b o (E v) := fun i u hu => by
  rw [hb.cell (p := ⟨b, _, none⟩) (range_lt h)]; exact h i u hu

end Go.Proofs.Qxb6619637a
