/-
  Seat b6619637a: '==' on IDs; the quiet laws (a load, a comparison, in a region that draws); boxes. Our own text.
-/
import Derived.Test.Qxb6619637aBase
import Derived.Great.BuildSlice
namespace Go.Proofs.Qxb6619637a
open Go.RowKit
set_option linter.unusedSimpArgs false
set_option linter.unusedVariables false

/-- Are two IDs the same? (No abbreviation: the walk is not to look behind it.) -/
def eqV (u v : V) : Bool := decide (u = v)
theorem eqV_true {u v : V} : eqV u v = true ↔ u = v := by simp [eqV]
theorem eqV_comm (u v : V) : eqV u v = eqV v u := by simp only [eqV]; congr 1; exact propext eq_comm

theorem all_range_int : ∀ (xs ys : List Int), xs.length = ys.length → ((List.range xs.length).all fun i => xs.getD i 0 == ys.getD i 0) = (xs == ys)
  | [], [], _ => rfl
  | x :: xs, y :: ys, h => by
    have ih := all_range_int xs ys (by simpa using h)
    rw [List.length_cons, List.range_succ_eq_map, List.all_cons, List.all_map]
    simp only [List.getD_cons_zero, Function.comp_def, List.getD_cons_succ, ih]
    simp [List.cons_beq_cons]
  | [], _ :: _, h => by simp at h
  | _ :: _, [], h => by simp at h

theorem run_equalIn_ints {P : Program} (w : World) (d : Nat) (t e : TypeId) (n : Nat) (ht : P.underlying t = some (.array n e)) (he : P.underlying e = some (.int .u8)) (hsz : ∀ w, (sizeOf e).run P w = .ok 1 w)
    (xs ys : List Int) (hx : xs.length = n) (hy : ys.length = n) :
    (Op.equalIn (d + 2) t (.agg (xs.map (Value.int .u8)).toArray) (.agg (ys.map (Value.int .u8)).toArray)).run P w = .ok (xs == ys) w := by
  rw [← all_range_int xs ys (hx.trans hy.symm), hx, List.range_eq_range', Op.equalIn]
  simp only [Sem.run_bind, run_underlying ht, Result.andThen_ok, hsz, Std.Legacy.Range.forIn_eq_forIn_range', Std.Legacy.Range.size, Nat.sub_zero, Nat.add_sub_cancel, Nat.div_one]
  have hl : ∀ i ∈ List.range' 0 n 1, i < n := fun i hi => by simpa using (List.mem_range'_1.1 hi).2
  generalize List.range' 0 n 1 = l at hl ⊢
  induction l with
  | nil => simp
  | cons i l ih =>
    have hi : i < n := hl i (by simp)
    have px : (part e (xs.map (Value.int .u8)).toArray (i * 1)).run P w = .ok (.int .u8 (xs.getD i 0)) w := by
      simp [part, isAgg, run_underlying he, List.getD, List.getElem?_eq_getElem (show i < xs.length by omega)]
    have py : (part e (ys.map (Value.int .u8)).toArray (i * 1)).run P w = .ok (.int .u8 (ys.getD i 0)) w := by
      simp [part, isAgg, run_underlying he, List.getD, List.getElem?_eq_getElem (show i < ys.length by omega)]
    have pe : (Op.equalIn (d + 1) e (.int .u8 (xs.getD i 0)) (.int .u8 (ys.getD i 0))).run P w = .ok (xs.getD i 0 == ys.getD i 0) w := run_equalIn_int w d e .u8 .u8 _ _ he
    simp only [List.forIn_cons, Sem.run_bind, px, py, pe, Result.andThen_ok, List.all_cons]
    cases hb : (xs.getD i 0 == ys.getD i 0)
    · simp
    · simp only [Bool.not_true, Bool.false_eq_true, if_false, Sem.run_pure, Result.andThen_ok, Bool.true_and]
      exact ih fun j hj => hl j (by simp [hj])

theorem beq_eqV (u v : V) : (u.toList == v.toList) = eqV u v := by
  rw [Bool.eq_iff_iff, eqV_true]
  simp [Vector.toList_inj]

theorem run_eqIn (w : World) (ty : TypeId) (hty : ty = 30 ∨ ty = 36) (u v : V) : (Op.equalIn 10000 ty (G u) (G v)).run Try.prog w = .ok (eqV u v) w := by
  rw [← beq_eqV]
  rcases hty with rfl | rfl
  · exact run_equalIn_ints w 9998 30 5 16 Try.underlying30 Try.underlying5 Try.sizeOf5 u.toList v.toList (by simp) (by simp)
  · exact run_equalIn_ints w 9998 36 5 16 Try.underlying36 Try.underlying5 Try.sizeOf5 u.toList v.toList (by simp) (by simp)
theorem run_eqlV (w : World) (ty : TypeId) (hty : ty = 30 ∨ ty = 36) (u v : V) : (binOp .eql ty (G u) (G v)).run Try.prog w = .ok (.bool (eqV u v)) w := by
  have h := run_eqIn w ty hty u v
  unfold G at *
  rw [run_eql_struct, h]
  rfl
theorem run_neqV (w : World) (ty : TypeId) (hty : ty = 30 ∨ ty = 36) (u v : V) : (binOp .neq ty (G u) (G v)).run Try.prog w = .ok (.bool (!eqV u v)) w := by
  have h := run_eqIn w ty hty u v
  unfold G at *
  rw [run_neq_struct, h]
  rfl
theorem run_guardV (w : World) (op : BinOp) (x y : Operand) (ty : TypeId) (hty : ty = 30 ∨ ty = 36) (u v : V) : (eqGuard op ty x y (G u) (G v)).run Try.prog w = .ok () w := by
  rcases hty with rfl | rfl
  · exact run_eqGuard_agg w op 30 x y _ _ (by kernel_rfl)
  · exact run_eqGuard_agg w op 36 x y _ _ (by kernel_rfl)

/-! ### In a region that draws -/
theorem rangeAt_drewN {w : World} {b o : Nat} {cs : List Value} (h : w.rangeAt b o cs) (n : Nat) : (w.drewN n).rangeAt b o cs := fun j v hv => by rw [World.cell?_drewN]; exact h j v hv
theorem run_ldV (w : World) (b o : Nat) (ty : TypeId) (hty : ty = 30 ∨ ty = 36) (v : V) (hc : w.rangeAt b o (E v)) : (Instr.loadAt ty (.pointer (some ⟨b, o, none⟩))).run Try.prog w = .ok (G v) w := by
  rcases hty with rfl | rfl
  · exact run_loadAt_mid w b o 30 (E v) _ hc Try.underlying30 rfl (by rw [E_len]; exact info30)
  · exact run_loadAt_mid w b o 36 (E v) _ hc Try.underlying36 rfl (by rw [E_len]; exact info36)
theorem quiet_ld {op : Oper} {a : Act} {w : World} {K : Act → Prop} (ty : TypeId) (x : Operand) (ho : op.op = .load ty x) (b o : Nat) (v : V) (hty : ty = 30 ∨ ty = 36) (hc : w.rangeAt b o (E v))
    (hx : a.eval x = .pointer (some ⟨b, o, none⟩)) (h : K (a.put op.dst (G v))) : op.quiet Try.prog a (fun w' => ∃ n, w' = w.drewN n) K := by
  refine ⟨G v, ?_, h⟩
  rintro w' ⟨n, rfl⟩
  unfold Oper.quietAt execOp
  simp only [ho, hx, Sem.run_bind, run_ldV _ b o ty hty v (rangeAt_drewN hc n), Result.andThen_ok, Sem.run_pure]
  exact ⟨rfl, rfl⟩
theorem quiet_eq {op : Oper} {a : Act} {w : World} {K : Act → Prop} (ty t' : TypeId) (x y : Operand) (ho : op.op = .binOp .eql ty x y t') (u v : V) (hty : ty = 30 ∨ ty = 36)
    (hx : a.eval x = G u) (hy : a.eval y = G v) (h : K (a.put op.dst (.bool (eqV u v)))) : op.quiet Try.prog a (fun w' => ∃ n, w' = w.drewN n) K := by
  refine ⟨.bool (eqV u v), ?_, h⟩
  rintro w' ⟨n, rfl⟩
  unfold Oper.quietAt execOp
  simp only [ho, hx, hy, Sem.run_bind, run_guardV _ .eql x y ty hty u v, run_eqlV _ ty hty u v, Result.andThen_ok, Sem.run_pure]
  exact ⟨rfl, rfl⟩
theorem quiet_ne {op : Oper} {a : Act} {w : World} {K : Act → Prop} (ty t' : TypeId) (x y : Operand) (ho : op.op = .binOp .neq ty x y t') (u v : V) (hty : ty = 30 ∨ ty = 36)
    (hx : a.eval x = G u) (hy : a.eval y = G v) (h : K (a.put op.dst (.bool (!eqV u v)))) : op.quiet Try.prog a (fun w' => ∃ n, w' = w.drewN n) K := by
  refine ⟨.bool (!eqV u v), ?_, h⟩
  rintro w' ⟨n, rfl⟩
  unfold Oper.quietAt execOp
  simp only [ho, hx, hy, Sem.run_bind, run_guardV _ .neq x y ty hty u v, run_neqV _ ty hty u v, Result.andThen_ok, Sem.run_pure]
  exact ⟨rfl, rfl⟩

/-! ### Boxes -/
theorem cells_G (v : V) : (G v).cells = (E v).toArray := rfl
/-- 'box': an ID into a block of its own. -/
theorem wpList_bx {ops : Array Oper} {rest : List Oper} {op : Oper} {a : Act} {w : World} {Q : Exit → Act → World → Prop} (hgd : op.guard = none) (ty : TypeId) (x : Operand) (ho : op.op = .box ty x)
    (v : V) (hx : a.eval x = G v)
    (h : ∀ w', Row w' w.heap.size ty [v] → w.grownBy w' none → wpList Try.prog ops Q rest (a.put op.dst (.pointer (some ⟨w.heap.size, 0, none⟩))) w') : wpList Try.prog ops Q (op :: rest) a w := by
  refine wpList_plain hgd fun K hK => ?_
  unfold Oper.wp execOp
  simp only [ho, hx, Instr.box]
  exact hK _ _ (h (w.alloc (.cells (E v).toArray ty)) (by unfold Row; rw [heap_alloc_new]; simp [flat]) (World.grownBy_alloc _ _ _))

/-- 'alloc': a new variable of an ID's type, zero. -/
theorem wpList_al {ops : Array Oper} {rest : List Oper} {op : Oper} {a : Act} {w : World} {Q : Exit → Act → World → Prop} (hgd : op.guard = none) (ty : TypeId) (ho : op.op = .alloc ty) (hty : ty = 30 ∨ ty = 36)
    (h : ∀ w', Row w' w.heap.size ty [Z] → w.grownBy w' none → wpList Try.prog ops Q rest (a.put op.dst (.pointer (some ⟨w.heap.size, 0, none⟩))) w') : wpList Try.prog ops Q (op :: rest) a w := by
  refine wpList_plain hgd fun K hK => ?_
  have hz : ∀ wx, (zeroValue ty).run Try.prog wx = .ok (G Z) wx := by
    intro wx
    unfold G
    rw [E_Z]
    rcases hty with rfl | rfl
    · exact Try.zeroValue30 wx
    · exact Try.zeroValue36 wx
  unfold Oper.wp execOp
  simp only [ho, Instr.alloc, Sem.run_bind, hz, Result.andThen_ok]
  exact hK _ _ (h (w.alloc (.cells (E Z).toArray ty)) (by unfold Row; rw [heap_alloc_new]; simp [flat]) (World.grownBy_alloc _ _ _))

theorem bone {B : Nat} {w w' : World} (h : Below B w w') {w'' : World} {row : Option Nat} (hg : w'.grownBy w'' row) (hB : B ≤ w.heap.size) (hr : ∀ k, row = some k → B ≤ k) : Below B w w'' :=
  h.grown hg (Nat.le_trans hB h.size) hr
theorem bstep {w w' w'' : World} (h : Below w.heap.size w w') (k : Below w'.heap.size w' w'') : Below w.heap.size w w'' := h.trans (k.mono h.size)

/-! ### A slice literal of one ID -/
theorem foldl_set : ∀ (l : List Value) (k : Nat) (z : Array Value), k + l.length ≤ z.size → ((l.zipIdx k).foldl (fun cs x => cs.setIfInBounds x.2 x.1) z).toList = z.toList.take k ++ l ++ z.toList.drop (k + l.length)
  | [], k, z, _ => by simp
  | a :: l, k, z, h => by
    rw [List.zipIdx_cons, List.foldl_cons, foldl_set l (k + 1) _ (by simp at h ⊢; omega)]
    have e := list_seg_step z.toList k a l (by simp at h ⊢; omega)
    simpa [Array.toList_setIfInBounds, Nat.add_assoc] using e
theorem fill_one (v : V) (z : Array Value) (hz : z.size = 16) : Instr.fill (fun i => some (i * 16, 16)) z [(0, G v)] = some (E v).toArray := by
  have h16 : (E v).toArray.size = 16 := by simp [E_len]
  have hf := foldl_set (E v) 0 z (by rw [E_len]; omega)
  simp only [List.take_zero, List.nil_append, Nat.zero_add, E_len] at hf
  rw [List.drop_of_length_le (by simp; omega), List.append_nil] at hf
  simp [Instr.fill, cells_G, h16, hz]
  apply Array.ext'
  exact hf
theorem run_bs (w : World) (t T : TypeId) (ht : (t = 22 ∧ T = 30) ∨ (t = 26 ∧ T = 36)) (v : V) :
    ∃ w', (Instr.buildSlice t 1 #[(0, G v)]).run Try.prog w = .ok (.slice (some ⟨w.heap.size, 0, none⟩) 1 1) w' ∧ Row w' w.heap.size T [v] ∧ w.grownBy w' none := by
  have key : ∀ (t T : TypeId) (hu : Try.prog.underlying t = some (.slice T)) (hf : (Try.prog.info? T).map (fun i => (i.zero, i.size, i.bytes)) = some (some (.agg (List.replicate 16 (.int .u8 0)).toArray), 16, 16)),
      (Instr.buildSlice t 1 #[(0, G v)]).run Try.prog w = .ok (.slice (some ⟨w.heap.size, 0, none⟩) 1 1) (w.alloc (.cells (E v).toArray T)) := by
    intro t T hu hf
    obtain ⟨i0, hi, hz0, hz1, hz2⟩ := info_parts hf
    refine run_buildSlice w t T 1 #[(0, G v)] (E v).toArray i0 _ hu hi hz0 (by rw [hz1]; omega) (by rw [hz1]; omega) ?_
    rw [hz1]
    exact fill_one v _ (by simp)
  refine ⟨w.alloc (.cells (E v).toArray T), ?_, by unfold Row; rw [heap_alloc_new]; simp [flat], World.grownBy_alloc _ _ _⟩
  rcases ht with ⟨rfl, rfl⟩ | ⟨rfl, rfl⟩
  · exact key 22 30 Try.underlying22 full30
  · exact key 26 36 Try.underlying26 full36
theorem wp_bs {op : Oper} {a : Act} {w : World} {K : Act → World → Prop} {Q : Exit → Act → World → Prop} (t T : TypeId) (ht : (t = 22 ∧ T = 30) ∨ (t = 26 ∧ T = 36)) (x : Operand) (ho : op.op = .buildSlice t 1 #[(0, x)]) (v : V) (hx : a.eval x = G v)
    (h : ∀ w', Row w' w.heap.size T [v] → w.grownBy w' none → K (a.put op.dst (.slice (some ⟨w.heap.size, 0, none⟩) 1 1)) w') : op.wp Try.prog a w K Q := by
  obtain ⟨w', hr, h1, h2⟩ := run_bs w t T ht v
  have e : (#[(0, x)] : Array (Nat × Operand)).map (fun (p : Nat × Operand) => (p.1, a.eval p.2)) = #[(0, G v)] := by simp [hx]
  unfold Oper.wp execOp
  simp only [ho]
  rw [e, Sem.run_bind, hr]
  exact h w' h1 h2
theorem wpList_bs {ops : Array Oper} {rest : List Oper} {op : Oper} {a : Act} {w : World} {Q : Exit → Act → World → Prop} (hgd : op.guard = none) (t T : TypeId) (ht : (t = 22 ∧ T = 30) ∨ (t = 26 ∧ T = 36)) (x : Operand) (ho : op.op = .buildSlice t 1 #[(0, x)]) (v : V) (hx : a.eval x = G v)
    (h : ∀ w', Row w' w.heap.size T [v] → w.grownBy w' none → wpList Try.prog ops Q rest (a.put op.dst (.slice (some ⟨w.heap.size, 0, none⟩) 1 1)) w') : wpList Try.prog ops Q (op :: rest) a w :=
  wpList_plain hgd fun _ hK => wp_bs t T ht x ho v hx fun w' h1 h2 => hK _ _ (h w' h1 h2)

/-! ### One step of a region that draws -/
theorem step_ld {ops : Array Oper} {op : Oper} {a : Act} {w : World} {K : Act → World → Prop} {Q : Exit → Act → World → Prop} {F : Prop} (hg : op.guard = none) (ty : TypeId) (x : Operand) (ho : op.op = .load ty x) (b o : Nat) (v : V) (hty : ty = 30 ∨ ty = 36)
    (hc : w.rangeAt b o (E v)) (hx : a.eval x = .pointer (some ⟨b, o, none⟩)) (h : K (a.put op.dst (G v)) w) : if Region.wanted op (yielded ops a.tmps) = true then Oper.wp Try.prog op a w K Q else F := by
  rw [if_pos (by simp [Region.wanted, hg])]
  unfold Oper.wp execOp
  simp only [ho, hx, Sem.run_bind, run_ldV _ b o ty hty v hc, Result.andThen_ok, Sem.run_pure]
  exact h
theorem step_bs {ops : Array Oper} {op : Oper} {a : Act} {w : World} {K : Act → World → Prop} {Q : Exit → Act → World → Prop} {F : Prop} (hg : op.guard = none) (t T : TypeId) (ht : (t = 22 ∧ T = 30) ∨ (t = 26 ∧ T = 36)) (x : Operand) (ho : op.op = .buildSlice t 1 #[(0, x)]) (v : V) (hx : a.eval x = G v)
    (h : ∀ w', Row w' w.heap.size T [v] → w.grownBy w' none → K (a.put op.dst (.slice (some ⟨w.heap.size, 0, none⟩) 1 1)) w') : if Region.wanted op (yielded ops a.tmps) = true then Oper.wp Try.prog op a w K Q else F := by
  rw [if_pos (by simp [Region.wanted, hg])]
  exact wp_bs t T ht x ho v hx h
end Go.Proofs.Qxb6619637a
