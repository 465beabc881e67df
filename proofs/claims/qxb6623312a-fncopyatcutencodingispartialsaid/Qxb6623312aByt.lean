/-
  Seat b6623312a: the bounds on total length; 'string(u)': the walks. Our own text.
-/
import Derived.Test.Qxb6623312aTok
namespace Go.Proofs.Qxb6623312a
open Go.RowKit
set_option linter.unusedSimpArgs false
set_option linter.unusedVariables false

/-- The bound answers some bool, and changes nothing. -/
def SomeBool (e : Ending) (w w' : World) : Prop := ∃ b, e = .returned (.bool b) ∧ w' = w

set_option maxHeartbeats 2000000 in
theorem bytes3 (t : ByteArray) (a : Option Addr) (n c : Nat) (r : ByteArray) (f : Bool) (w : World) (ht : t.size ≤ maxLen) (hn : n ≤ maxLen) (hr : r.size ≤ maxLen) :
    Calls Try.prog 5 #[.string t, .slice a n c, .string r, .bool f] w fun e w' => SomeBool e w w' := by
  unfold maxLen at *
  go_enter Try.func5, Try.ntmps5
  go_wp2
  all_goals
    go_ret
    exact ⟨_, rfl, rfl⟩

set_option maxHeartbeats 2000000 in
theorem bytes4 (t : ByteArray) (a : Option Addr) (n c : Nat) (q : Int) (w : World) (ht : t.size ≤ maxLen) (hn : n ≤ maxLen) :
    Calls Try.prog 8 #[.string t, .slice a n c, .int .i64 q] w fun e w' => SomeBool e w w' := by
  unfold maxLen at *
  go_enter Try.func8, Try.ntmps8
  go_wp2
  all_goals
    go_ret
    exact ⟨_, rfl, rfl⟩

/-- 'string(u)' of the head of what has been written. -/
theorem wpList_cv {ops : Array Oper} {rest : List Oper} {op : Oper} {a : Act} {w : World} {Q : Exit → Act → World → Prop} (hgd : op.guard = none) (x : Operand) (ho : op.op = .convert 22 9 x)
    (B cap : Nat) (ys : List Int) (hown : Wr w B cap ys) (p n cp : Nat) (hp : p = n) (hn : n ≤ ys.length) (hx : a.eval x = .slice (some ⟨B, 0, none⟩) p cp)
    (h : wpList Try.prog ops Q rest (a.put op.dst (.string (mk (ys.take n)))) w) : wpList Try.prog ops Q (op :: rest) a w := by
  refine wpList_plain hgd fun K hK => ?_
  subst hp
  have hl : (loadCells ⟨B, 0, none⟩ p).run Try.prog w = .ok ((ys.take p).map (Value.int .u8)).toArray w := by
    have := run_loadCells_list (P := Try.prog) w ⟨B, 0, none⟩ ((ys.take p).map (Value.int .u8)) (fun j v hv => by
      have hadd : (⟨B, 0, none⟩ : Addr).add j = ⟨B, j, none⟩ := by unfold Addr.add; split <;> simp_all
      have hj : j < (ys.take p).length := by have := (List.getElem?_eq_some_iff.1 hv).1; simpa using this
      rw [List.length_take] at hj
      rw [hadd, World.ownsRow.cellAt hown j (by omega)]
      rw [List.map_take, List.getElem?_take_of_lt (by omega)] at hv
      exact hv)
    have e : ((ys.take p).map (Value.int .u8)).length = p := by simp; omega
    rwa [e] at this
  have hc := run_convert_bytes_string (P := Try.prog) w 22 9 5 (some ⟨B, 0, none⟩) p cp Try.underlying22 Try.underlying5 Try.underlying9
  rw [run_bytesToString w ⟨B, 0, none⟩ p cp (ys.take p) hl] at hc
  unfold Oper.wp execOp
  simp only [ho, hx, Sem.run_bind, hc, Result.andThen_ok, Sem.run_pure]
  exact hK _ _ h

end Go.Proofs.Qxb6623312a
