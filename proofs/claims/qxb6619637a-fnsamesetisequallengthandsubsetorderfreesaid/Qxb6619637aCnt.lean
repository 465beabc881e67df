/-
  Seat b6619637a: zzCountDistinct (insertion sort of a copy; the count of changes). Our own text.
-/
import Derived.Test.Qxb6619637aMake
import Derived.Test.Qxb6619637aLess
namespace Go.Proofs.Qxb6619637a
open Go.RowKit
set_option linter.unusedSimpArgs false
set_option linter.unusedVariables false

theorem exec_gtr {a : Act} {op : Oper} (x y : Operand) (ho : op.op = .binOp .gtr 3 x y 3) (u v : Int) (hx : a.eval x = .int .i64 u) (hy : a.eval y = .int .i64 v) (h : v < u) (w : World) : (execOp a.eval op).run Try.prog w = .ok (.value (.bool true)) w := by
  unfold execOp
  simp only [ho, hx, hy]
  simp [go_sem, h]
theorem exec_sub {a : Act} {op : Oper} (x y : Operand) (ho : op.op = .binOp .sub 3 x y 3) (u v : Int) (hx : a.eval x = .int .i64 u) (hy : a.eval y = .int .i64 v) (h : -9223372036854775808 ≤ u - v ∧ u - v ≤ 9223372036854775807) (w : World) : (execOp a.eval op).run Try.prog w = .ok (.value (.int .i64 (u - v))) w := by
  unfold execOp
  simp only [ho, hx, hy]
  simp [go_sem, Op.intArith, IntWalk.i64_in _ h]
theorem exec_idx {a : Act} {op : Oper} (x ix : Operand) (ho : op.op = .indexAddr 22 x ix) (g n c k : Nat) (z : Int) (hz : z = (k : Int)) (hx : a.eval x = .slice (some ⟨g, 0, none⟩) n c) (hi : a.eval ix = .int .i64 z) (h : k < n) (w : World) :
    (execOp a.eval op).run Try.prog w = .ok (.value (.pointer (some ⟨g, k * 16, none⟩))) w := by
  subst hz
  unfold execOp
  simp only [ho, hx, hi]
  have h' : (k : Int) < (n : Int) := by omega
  simp [go_sem, Instr.indexAt, asIntOf, run_underlying Try.underlying22, Try.sizeOf30, h, h', Addr.add_mid]
/-- 'step_ld' under a guard that is met. -/
theorem step_ld' {ops : Array Oper} {op : Oper} {a : Act} {w : World} {K : Act → World → Prop} {Q : Exit → Act → World → Prop} {F : Prop} (hg : Region.wanted op (yielded ops a.tmps) = true) (ty : TypeId) (x : Operand) (ho : op.op = .load ty x) (b o : Nat) (v : V) (hty : ty = 30 ∨ ty = 36)
    (hc : w.rangeAt b o (E v)) (hx : a.eval x = .pointer (some ⟨b, o, none⟩)) (h : K (a.put op.dst (G v)) w) : if Region.wanted op (yielded ops a.tmps) = true then Oper.wp Try.prog op a w K Q else F := by
  rw [if_pos hg]
  unfold Oper.wp execOp
  simp only [ho, hx, Sem.run_bind, run_ldV _ b o ty hty v hc, Result.andThen_ok, Sem.run_pure]
  exact h

set_option maxHeartbeats 2000000 in
theorem count_any (a : Option Addr) (n c : Nat) (xs : List V) (w : World) (hr : Rd w a n xs) (hn : n ≤ 4096) :
    Calls Try.prog 12 #[.slice a n c] w fun e w' => e = .returned (.int .i64 (nd xs)) ∧ Below w.heap.size w w' := by
  have hl := hr.1
  go_enter Try.func12, Try.ntmps12
  go_wp2_with (go_at_call 9; refine (clone_any a n c xs w hr hn).mono ?_; rintro e w1 ⟨a', rfl, hown, hb1⟩)
  rcases hown.2 with ⟨rfl, hn0⟩ | ⟨g, rfl, hg, hrow⟩
  · have hx0 : xs = [] := List.eq_nil_of_length_eq_zero (by omega)
    subst hx0
    subst hn0
    go_loop [4] (fun i => i = .int .i64 1) (fun _ => 0)
    case atStart => exact rfl
    case round =>
      obtain rfl := hrel
      go_wp2
      go_loop [7, 8] (fun q i => q = .int .i64 0 ∧ i = .int .i64 0) (fun _ _ => 0)
      case atStart => exact ⟨rfl, rfl⟩
      case round =>
        obtain ⟨rfl, rfl⟩ := hrel
        go_wp2
        go_ret
        exact ⟨rfl, hb1⟩
  · go_loopw [4] (fun i wr => ∃ (k : Nat) (ys : List V), 1 ≤ k ∧ (k ≤ n ∨ k = 1) ∧ i = .int .i64 k ∧ ys.Perm xs ∧ Srt ys k ∧ Row wr g 30 ys ∧ Below w.heap.size w wr) (fun i _ => n - (intOf i).toNat)
    case atStart => exact ⟨1, xs, by omega, .inr rfl, rfl, List.Perm.refl _, fun p q h1 h2 => by omega, hrow, hb1⟩
    case round =>
      clear hrow hb1 hown
      obtain ⟨k, ys, hk1, hk2, rfl, hpm, hsrt, hrow, hbel⟩ := hrel
      have HPm : Hid (ys.Perm xs) := hpm
      have HS : Hid (Srt ys k) := hsrt
      have hyl : ys.length = n := by rw [hpm.length_eq]; exact hl
      clear hpm hsrt
      by_cases hlt : k < n
      · go_wp2
        go_loopw [5] (fun j wr => ∃ (jj : Nat) (zs : List V), jj ≤ k ∧ j = .int .i64 jj ∧ zs.Perm xs ∧ Hole zs k jj ∧ Row wr g 30 zs ∧ Below w.heap.size w wr) (fun j _ => (intOf j).toNat)
        case atStart => exact ⟨k, ys, Nat.le_refl _, rfl, HPm.out, hole_start HS.out, hrow, hbel⟩
        case round =>
          clear hrow hbel HPm HS hyl
          obtain ⟨jj, zs, hjk, rfl, hpm, hhole, hrow, hbel⟩ := hrel
          have hzl : zs.length = n := by rw [hpm.length_eq]; exact hl
          have HPm : Hid (zs.Perm xs) := hpm
          have HH : Hid (Hole zs k jj) := hhole
          clear hpm hhole
          by_cases hj : 0 < jj
          · have hjl : jj < zs.length := by omega
            have hpl : jj - 1 < zs.length := by omega
            have hxj : wr.drew.rangeAt g (jj * 16) (E zs[jj]) := hrow.at jj hjl
            have hxp : wr.drew.rangeAt g ((jj - 1) * 16) (E zs[jj - 1]) := hrow.at (jj - 1) hpl
            have HEj : Hid (el zs jj = zs[jj]) := el_get hjl
            have HEp : Hid (el zs (jj - 1) = zs[jj - 1]) := el_get hpl
            generalize hvj : zs[jj] = vj at hxj HEj
            generalize hvp : zs[jj - 1] = vp at hxp HEp
            have HJ : Hid (zs[jj] = vj) := hvj
            have HP : Hid (zs[jj - 1] = vp) := hvp
            clear hvj hvp
            go_wp2_with fail
            refine wp_region_any (by kernel_rfl) ?_
            change wpAny _ _ _ _ _ _ _ (World.drew _)
            refine wpAny_take (i := 0) (v := .int .i64 (jj : Int)) rfl (by kernel_rfl) (by kernel_rfl) (by kernel_rfl) (fun _ _ _ h => h) (Or.inl ⟨by rfl, fun _ => rfl⟩) ?_
            simp only [List.getElem_toArray, List.getElem_cons_succ, List.getElem_cons_zero, Act.put, List.setIfInBounds_toArray, List.set_cons_succ, List.set_cons_zero]
            refine wpAny_take (i := 1) (v := .bool true) rfl (by kernel_rfl) (by kernel_rfl) (by kernel_rfl) (fun _ _ _ h => h) (Or.inl ⟨by rfl, exec_gtr (.tmp 18) (.const (.int .i64 0)) rfl (jj : Int) 0 rfl rfl (by omega)⟩) ?_
            simp only [List.getElem_toArray, List.getElem_cons_succ, List.getElem_cons_zero, Act.put, List.setIfInBounds_toArray, List.set_cons_succ, List.set_cons_zero]
            refine wpAny_take (i := 2) (v := .bool true) rfl (by kernel_rfl) (by kernel_rfl) (by kernel_rfl) (fun _ _ _ h => h) (Or.inl ⟨by rfl, fun _ => rfl⟩) ?_
            simp only [List.getElem_toArray, List.getElem_cons_succ, List.getElem_cons_zero, Act.put, List.setIfInBounds_toArray, List.set_cons_succ, List.set_cons_zero]
            refine wpAny_take (i := 3) (v := .slice (some ⟨g, 0, none⟩) n n) rfl (by kernel_rfl) (by kernel_rfl) (by kernel_rfl) (fun _ _ _ h => h) (Or.inl ⟨by rfl, fun _ => rfl⟩) ?_
            simp only [List.getElem_toArray, List.getElem_cons_succ, List.getElem_cons_zero, Act.put, List.setIfInBounds_toArray, List.set_cons_succ, List.set_cons_zero]
            refine wpAny_take (i := 4) (v := .int .i64 (jj : Int)) rfl (by kernel_rfl) (by kernel_rfl) (by kernel_rfl) (fun _ _ _ h => h) (Or.inl ⟨by rfl, fun _ => rfl⟩) ?_
            simp only [List.getElem_toArray, List.getElem_cons_succ, List.getElem_cons_zero, Act.put, List.setIfInBounds_toArray, List.set_cons_succ, List.set_cons_zero]
            refine wpAny_take (i := 5) (v := .pointer (some ⟨g, jj * 16, none⟩)) rfl (by kernel_rfl) (by kernel_rfl) (by kernel_rfl) (fun _ _ _ h => h) (Or.inl ⟨by rfl, exec_idx (.tmp 21) (.tmp 22) rfl g n n jj (jj : Int) rfl rfl rfl (by omega)⟩) ?_
            simp only [List.getElem_toArray, List.getElem_cons_succ, List.getElem_cons_zero, Act.put, List.setIfInBounds_toArray, List.set_cons_succ, List.set_cons_zero]
            refine wpAny_take (i := 7) (v := .slice (some ⟨g, 0, none⟩) n n) rfl (by kernel_rfl) (by kernel_rfl) (by kernel_rfl) (fun _ _ _ h => h) (Or.inl ⟨by rfl, fun _ => rfl⟩) ?_
            simp only [List.getElem_toArray, List.getElem_cons_succ, List.getElem_cons_zero, Act.put, List.setIfInBounds_toArray, List.set_cons_succ, List.set_cons_zero]
            refine wpAny_take (i := 8) (v := .int .i64 (jj : Int)) rfl (by kernel_rfl) (by kernel_rfl) (by kernel_rfl) (fun _ _ _ h => h) (Or.inl ⟨by rfl, fun _ => rfl⟩) ?_
            simp only [List.getElem_toArray, List.getElem_cons_succ, List.getElem_cons_zero, Act.put, List.setIfInBounds_toArray, List.set_cons_succ, List.set_cons_zero]
            refine wpAny_take (i := 9) (v := .int .i64 ((jj : Int) - 1)) rfl (by kernel_rfl) (by kernel_rfl) (by kernel_rfl) (fun _ _ _ h => h) (Or.inl ⟨by rfl, exec_sub (.tmp 26) (.const (.int .i64 1)) rfl (jj : Int) 1 rfl rfl (by omega)⟩) ?_
            simp only [List.getElem_toArray, List.getElem_cons_succ, List.getElem_cons_zero, Act.put, List.setIfInBounds_toArray, List.set_cons_succ, List.set_cons_zero]
            refine wpAny_take (i := 10) (v := .pointer (some ⟨g, (jj - 1) * 16, none⟩)) rfl (by kernel_rfl) (by kernel_rfl) (by kernel_rfl) (fun _ _ _ h => h) (Or.inl ⟨by rfl, exec_idx (.tmp 25) (.tmp 27) rfl g n n (jj - 1) ((jj : Int) - 1) (by omega) rfl rfl (by omega)⟩) ?_
            simp only [List.getElem_toArray, List.getElem_cons_succ, List.getElem_cons_zero, Act.put, List.setIfInBounds_toArray, List.set_cons_succ, List.set_cons_zero]
            refine wpAny_ready (rs := [6, 11]) (by kernel_rfl) (by simp) ?_
            refine AllReady.cons rfl (fun K hK => ?_) (AllReady.cons rfl (fun K hK => ?_) AllReady.nil)
            · refine step_ld' (by rfl) 30 _ rfl _ _ vj (.inl rfl) hxj rfl ?_; refine hK _ _ ?_; clear hK K; simp only [List.getElem_toArray, List.getElem_cons_succ, List.getElem_cons_zero, Act.put, List.setIfInBounds_toArray, List.set_cons_succ, List.set_cons_zero]
              refine wpAny_ready (rs := [11]) (by kernel_rfl) (by simp) ?_
              refine AllReady.cons rfl (fun K hK => ?_) AllReady.nil
              refine step_ld' (by rfl) 30 _ rfl _ _ vp (.inl rfl) hxp rfl ?_; refine hK _ _ ?_; clear hK K; simp only [List.getElem_toArray, List.getElem_cons_succ, List.getElem_cons_zero, Act.put, List.setIfInBounds_toArray, List.set_cons_succ, List.set_cons_zero]
              refine wpAny_ready (rs := [12]) (by kernel_rfl) (by simp) ?_
              refine AllReady.cons rfl (fun K hK => ?_) AllReady.nil
              go_simp
              go_wp2_with (go_at_call 28; refine (less_any vj vp _).mono ?_; rintro e w3 ⟨rfl, hb3⟩)
              have hb13 : Below w.heap.size w w3 := bstep (below_drewN' hbel 1) hb3
              have hrow3 : Row w3 g 30 zs := Row.kept (w := wr.drewN 1) hrow hb3 hrow.lt
              have hxj3 := hrow3.at jj hjl
              have hxp3 := hrow3.at (jj - 1) hpl
              rw [HJ.out] at hxj3
              rw [HP.out] at hxp3
              cases hcmp : lessV vj vp with
              | false =>
                refine wpAny_ready (rs := [13]) (by kernel_rfl) (by simp) ?_
                refine AllReady.cons rfl (fun K hK => ?_) AllReady.nil
                go_simp
                refine hK _ _ ?_
                clear hK K
                refine wpAny_done (by kernel_rfl) ?_ _
                go_wp2
                go_roundw
                case rel => exact ⟨k + 1, zs, by omega, by omega, by go_num, HPm.out, hole_end hj hjk HH.out (by rw [HEj.out, HEp.out]; exact hcmp), hrow3, hb13⟩
                case measure => simp [intOf]; omega
              | true =>
                refine wpAny_ready (rs := [13]) (by kernel_rfl) (by simp) ?_
                refine AllReady.cons rfl (fun K hK => ?_) AllReady.nil
                go_simp
                refine hK _ _ ?_
                clear hK K
                refine wpAny_done (by kernel_rfl) ?_ _
                have hgl : g < w3.heap.size := hrow3.lt
                go_wp2_with (first
                  | (refine wpList_ld rfl 30 _ rfl g ((jj - 1) * 16) vp (.inl rfl) hxp3 rfl ?_)
                  | (refine wpList_al rfl 30 rfl (.inl rfl) ?_; intro w4 hbox4 hgr4)
                  | (refine wpList_st rfl 30 _ _ rfl w3.heap.size 0 vp 30 [Z] (.inl rfl) hbox4 (by simp) rfl rfl ?_; intro w5 hbox5 hgr5; have hrow5 : Row w5 g 30 zs := (hrow3.grown hgr4 (by simp)).grown hgr5 (by simp; omega); have hxj5 : w5.rangeAt g (jj * 16) (E vj) := by { have h := hrow5.at jj hjl; rw [HJ.out] at h; exact h }; have hb15 : Below w.heap.size w w5 := bone (bone hb13 hgr4 (Nat.le_refl _) (by simp)) hgr5 (Nat.le_refl _) (by intro q hq; simp only [Option.some.injEq] at hq; have := hb13.size; omega))
                  | (refine wpList_ld rfl 30 _ rfl g (jj * 16) vj (.inl rfl) hxj5 rfl ?_)
                  | (refine wpList_st rfl 30 _ _ rfl g (jj - 1) vj 30 zs (.inl rfl) hrow5 (by omega) rfl rfl ?_; intro w6 hrow6 hgr6; have hbx6 : w6.rangeAt w3.heap.size 0 (E vp) := by { have h := (hbox5.grown hgr6 (by simp; omega)).at 0 (by simp); simpa using h }; have hb16 : Below w.heap.size w w6 := bone hb15 hgr6 (Nat.le_refl _) (by intro q hq; simp only [Option.some.injEq] at hq; omega))
                  | (refine wpList_ld rfl 30 _ rfl w3.heap.size 0 vp (.inl rfl) hbx6 rfl ?_)
                  | (refine wpList_st rfl 30 _ _ rfl g jj vp 30 (zs.set (jj - 1) vj) (.inl rfl) hrow6 (by simp; omega) rfl rfl ?_; intro w7 hrow7 hgr7; have hb17 : Below w.heap.size w w7 := bone hb16 hgr7 (Nat.le_refl _) (by intro q hq; simp only [Option.some.injEq] at hq; omega)))
                have hsw : (zs.set (jj - 1) vj).set jj vp = swp zs jj := by unfold swp; rw [HEj.out, HEp.out]
                rw [hsw] at hrow7
                go_roundw
                case rel => exact ⟨jj - 1, swp zs jj, by omega, congrArg (Value.int .i64) (by omega), (swp_perm hj hjl).trans HPm.out, hole_step hj hjl hjk HH.out (by rw [HEj.out, HEp.out]; exact hcmp), hrow7, hb17⟩
                case measure => simp [intOf]; omega
            · refine step_ld' (by rfl) 30 _ rfl _ _ vp (.inl rfl) hxp rfl ?_; refine hK _ _ ?_; clear hK K; simp only [List.getElem_toArray, List.getElem_cons_succ, List.getElem_cons_zero, Act.put, List.setIfInBounds_toArray, List.set_cons_succ, List.set_cons_zero]
              refine wpAny_ready (rs := [6]) (by kernel_rfl) (by simp) ?_
              refine AllReady.cons rfl (fun K hK => ?_) AllReady.nil
              refine step_ld' (by rfl) 30 _ rfl _ _ vj (.inl rfl) hxj rfl ?_; refine hK _ _ ?_; clear hK K; simp only [List.getElem_toArray, List.getElem_cons_succ, List.getElem_cons_zero, Act.put, List.setIfInBounds_toArray, List.set_cons_succ, List.set_cons_zero]
              refine wpAny_ready (rs := [12]) (by kernel_rfl) (by simp) ?_
              refine AllReady.cons rfl (fun K hK => ?_) AllReady.nil
              go_simp
              go_wp2_with (go_at_call 28; refine (less_any vj vp _).mono ?_; rintro e w3 ⟨rfl, hb3⟩)
              have hb13 : Below w.heap.size w w3 := bstep (below_drewN' hbel 1) hb3
              have hrow3 : Row w3 g 30 zs := Row.kept (w := wr.drewN 1) hrow hb3 hrow.lt
              have hxj3 := hrow3.at jj hjl
              have hxp3 := hrow3.at (jj - 1) hpl
              rw [HJ.out] at hxj3
              rw [HP.out] at hxp3
              cases hcmp : lessV vj vp with
              | false =>
                refine wpAny_ready (rs := [13]) (by kernel_rfl) (by simp) ?_
                refine AllReady.cons rfl (fun K hK => ?_) AllReady.nil
                go_simp
                refine hK _ _ ?_
                clear hK K
                refine wpAny_done (by kernel_rfl) ?_ _
                go_wp2
                go_roundw
                case rel => exact ⟨k + 1, zs, by omega, by omega, by go_num, HPm.out, hole_end hj hjk HH.out (by rw [HEj.out, HEp.out]; exact hcmp), hrow3, hb13⟩
                case measure => simp [intOf]; omega
              | true =>
                refine wpAny_ready (rs := [13]) (by kernel_rfl) (by simp) ?_
                refine AllReady.cons rfl (fun K hK => ?_) AllReady.nil
                go_simp
                refine hK _ _ ?_
                clear hK K
                refine wpAny_done (by kernel_rfl) ?_ _
                have hgl : g < w3.heap.size := hrow3.lt
                go_wp2_with (first
                  | (refine wpList_ld rfl 30 _ rfl g ((jj - 1) * 16) vp (.inl rfl) hxp3 rfl ?_)
                  | (refine wpList_al rfl 30 rfl (.inl rfl) ?_; intro w4 hbox4 hgr4)
                  | (refine wpList_st rfl 30 _ _ rfl w3.heap.size 0 vp 30 [Z] (.inl rfl) hbox4 (by simp) rfl rfl ?_; intro w5 hbox5 hgr5; have hrow5 : Row w5 g 30 zs := (hrow3.grown hgr4 (by simp)).grown hgr5 (by simp; omega); have hxj5 : w5.rangeAt g (jj * 16) (E vj) := by { have h := hrow5.at jj hjl; rw [HJ.out] at h; exact h }; have hb15 : Below w.heap.size w w5 := bone (bone hb13 hgr4 (Nat.le_refl _) (by simp)) hgr5 (Nat.le_refl _) (by intro q hq; simp only [Option.some.injEq] at hq; have := hb13.size; omega))
                  | (refine wpList_ld rfl 30 _ rfl g (jj * 16) vj (.inl rfl) hxj5 rfl ?_)
                  | (refine wpList_st rfl 30 _ _ rfl g (jj - 1) vj 30 zs (.inl rfl) hrow5 (by omega) rfl rfl ?_; intro w6 hrow6 hgr6; have hbx6 : w6.rangeAt w3.heap.size 0 (E vp) := by { have h := (hbox5.grown hgr6 (by simp; omega)).at 0 (by simp); simpa using h }; have hb16 : Below w.heap.size w w6 := bone hb15 hgr6 (Nat.le_refl _) (by intro q hq; simp only [Option.some.injEq] at hq; omega))
                  | (refine wpList_ld rfl 30 _ rfl w3.heap.size 0 vp (.inl rfl) hbx6 rfl ?_)
                  | (refine wpList_st rfl 30 _ _ rfl g jj vp 30 (zs.set (jj - 1) vj) (.inl rfl) hrow6 (by simp; omega) rfl rfl ?_; intro w7 hrow7 hgr7; have hb17 : Below w.heap.size w w7 := bone hb16 hgr7 (Nat.le_refl _) (by intro q hq; simp only [Option.some.injEq] at hq; omega)))
                have hsw : (zs.set (jj - 1) vj).set jj vp = swp zs jj := by unfold swp; rw [HEj.out, HEp.out]
                rw [hsw] at hrow7
                go_roundw
                case rel => exact ⟨jj - 1, swp zs jj, by omega, congrArg (Value.int .i64) (by omega), (swp_perm hj hjl).trans HPm.out, hole_step hj hjl hjk HH.out (by rw [HEj.out, HEp.out]; exact hcmp), hrow7, hb17⟩
                case measure => simp [intOf]; omega
          · have hj0 : jj = 0 := by omega
            subst hj0
            go_wp2
            go_quiet (fail)
            go_wp2
            go_roundw
            case rel => exact ⟨k + 1, zs, by omega, by omega, by go_num, HPm.out, hole_end0 HH.out, hrow, below_drewN' hbel _⟩
            case measure => simp [intOf]; omega
      · have hsn : Srt ys ys.length := fun p q h1 h2 => HS.out p q h1 (by omega)
        have HC : Hid (cnt ys ys.length = nd xs) := cnt_all hsn HPm.out
        clear HS HPm hsn
        go_wp2
        go_loopw [7, 8] (fun t i wr => ∃ (m : Nat), m ≤ n ∧ i = .int .i64 m ∧ t = .int .i64 (cnt ys m) ∧ Row wr g 30 ys ∧ Below w.heap.size w wr) (fun _ i _ => n - (intOf i).toNat)
        case atStart => exact ⟨0, Nat.zero_le _, rfl, rfl, hrow, hbel⟩
        case round =>
          clear hrow hbel
          obtain ⟨m, hm, rfl, rfl, hrow, hbel⟩ := hrel
          have hcl := cnt_le ys m
          by_cases hlm : m < n
          · by_cases hm0 : m = 0
            · subst hm0
              go_wp2
              go_quiet (fail)
              go_wp2
              go_roundw
              case rel => exact ⟨1, by omega, rfl, rfl, hrow, below_drewN' hbel _⟩
              case measure => simp [intOf]; omega
            · have hml : m < ys.length := by omega
              have hpl : m - 1 < ys.length := by omega
              have hx : wr.rangeAt g (m * 16) (E ys[m]) := hrow.at m hml
              have hxp : wr.rangeAt g ((m - 1) * 16) (E ys[m - 1]) := hrow.at (m - 1) hpl
              have HE : Hid (eqV ys[m] ys[m - 1] = eqV (el ys m) (el ys (m - 1))) := by rw [Hid, el_get hml, el_get hpl]
              have hm0' : ((m : Int) == 0) = false := by simp; omega
              generalize ys[m] = v at hx HE
              generalize ys[m - 1] = u at hxp HE
              cases hq : eqV v u with
              | true =>
                have HN : Hid (cnt ys (m + 1) = cnt ys m) := by
                  have := HE.out
                  rw [hq] at this
                  simp [Hid, cnt, hm0, ← this]
                clear HE
                go_wp2
                refine wp_region_quiet_lit (by kernel_rfl) (by kernel_rfl) ?_
                repeat (first | go_big_quiet_skip | (go_big_quiet_want; first | (refine quiet_ld 30 _ rfl g (m * 16) v (.inl rfl) hx rfl ?_; go_big_quiet_on; try simp only [Act.put, List.setIfInBounds_toArray, List.set_cons_succ, List.set_cons_zero]) | (refine quiet_ld 30 _ rfl g ((m - 1) * 16) u (.inl rfl) hxp rfl ?_; go_big_quiet_on; try simp only [Act.put, List.setIfInBounds_toArray, List.set_cons_succ, List.set_cons_zero]) | (refine quiet_ne 30 _ _ _ rfl v u (.inl rfl) rfl rfl ?_; go_big_quiet_on; try simp only [Act.put, List.setIfInBounds_toArray, List.set_cons_succ, List.set_cons_zero]) | (go_big_quiet_op; go_big_quiet_on)))
                refine wpQuiet_nil ?_
                intro _ hw'
                obtain ⟨nq, hw''⟩ := hw'
                subst hw''
                go_wp2
                go_roundw
                case rel => exact ⟨m + 1, by omega, by go_num, by rw [HN.out], hrow, below_drewN' hbel _⟩
                case measure => simp [intOf]; omega
              | false =>
                have HN : Hid (cnt ys (m + 1) = cnt ys m + 1) := by
                  have := HE.out
                  rw [hq] at this
                  simp [Hid, cnt, hm0, ← this]
                clear HE
                go_wp2
                refine wp_region_quiet_lit (by kernel_rfl) (by kernel_rfl) ?_
                repeat (first | go_big_quiet_skip | (go_big_quiet_want; first | (refine quiet_ld 30 _ rfl g (m * 16) v (.inl rfl) hx rfl ?_; go_big_quiet_on; try simp only [Act.put, List.setIfInBounds_toArray, List.set_cons_succ, List.set_cons_zero]) | (refine quiet_ld 30 _ rfl g ((m - 1) * 16) u (.inl rfl) hxp rfl ?_; go_big_quiet_on; try simp only [Act.put, List.setIfInBounds_toArray, List.set_cons_succ, List.set_cons_zero]) | (refine quiet_ne 30 _ _ _ rfl v u (.inl rfl) rfl rfl ?_; go_big_quiet_on; try simp only [Act.put, List.setIfInBounds_toArray, List.set_cons_succ, List.set_cons_zero]) | (go_big_quiet_op; go_big_quiet_on)))
                refine wpQuiet_nil ?_
                intro _ hw'
                obtain ⟨nq, hw''⟩ := hw'
                subst hw''
                go_wp2
                go_roundw
                case rel => exact ⟨m + 1, by omega, by go_num, by rw [HN.out]; go_num, hrow, below_drewN' hbel _⟩
                case measure => simp [intOf]; omega
          · have hmn : m = ys.length := by omega
            go_wp2
            go_ret
            exact ⟨cast_ret (by rw [← HC.out, ← hmn]), hbel⟩

end Go.Proofs.Qxb6619637a
