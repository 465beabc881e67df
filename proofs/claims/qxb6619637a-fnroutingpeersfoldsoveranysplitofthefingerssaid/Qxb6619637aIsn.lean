/-
  Seat b6619637a: zzIsNeighboursThenNewFingers, of RoutingPeers' own answer. Our own text.
-/
import Derived.Test.Qxb6619637aRp
import Derived.Deep.RegionWith
namespace Go.Proofs.Qxb6619637a
open Go.RowKit
set_option linter.unusedSimpArgs false
set_option linter.unusedVariables false

/-- '!=' of what is the same. -/
theorem quiet_nf {op : Oper} {a : Act} {w : World} {K : Act → Prop} (ty t' : TypeId) (x y : Operand) (ho : op.op = .binOp .neq ty x y t') (u : V) (hty : ty = 30 ∨ ty = 36)
    (hx : a.eval x = G u) (hy : a.eval y = G u) (h : K (a.put op.dst (.bool false))) : op.quiet Try.prog a (fun w' => ∃ n, w' = w.drewN n) K := by
  refine quiet_ne ty t' x y ho u u hty hx hy ?_
  rw [eqV_true.2 rfl]
  exact h
/-- A load of one ID under a guard that is met. -/
theorem wpList_ld_g {ops : Array Oper} {rest : List Oper} {op : Oper} {a : Act} {w : World} {Q : Exit → Act → World → Prop} (hw : Region.wanted op (yielded ops a.tmps) = true) (ty : TypeId) (x : Operand) (ho : op.op = .load ty x)
    (b o : Nat) (v : V) (hty : ty = 30 ∨ ty = 36) (hc : w.rangeAt b o (E v)) (hx : a.eval x = .pointer (some ⟨b, o, none⟩))
    (h : wpList Try.prog ops Q rest (a.put op.dst (G v)) w) : wpList Try.prog ops Q (op :: rest) a w := by
  refine BigFrame.wpList_want hw fun K hK => ?_
  unfold Oper.wp execOp
  simp only [ho, hx, Sem.run_bind, run_ldV _ b o ty hty v hc, Result.andThen_ok, Sem.run_pure]
  exact hK _ _ h

set_option maxHeartbeats 800000 in
theorem isN_any (a : Option Addr) (N c : Nat) (b : Option Addr) (n d : Nat) (b2 : Option Addr) (m d2 : Nat) (xs ys : List V) (w : World) (hg : Rd w a N (rp xs ys)) (hr : Rd w b n xs) (hr2 : Rd w b2 m ys) (hn : n ≤ 1024) (hm : m ≤ 1024) :
    Calls Try.prog 19 #[.slice a N c, .slice b n d, .slice b2 m d2] w fun e w' => e = .returned (.bool true) ∧ Below w.heap.size w w' := by
  have hl := hr.1
  have hl2 := hr2.1
  have hgl := hg.1
  have hge := rp_ge xs ys
  have hle := rp_len xs ys
  have hNn : decide (N < n) = false := by simp; omega
  have hNi : decide ((N : Int) < (n : Int)) = false := by simp; omega
  go_enter Try.func19, Try.ntmps19
  go_wp2
  go_loopw [8] (fun i wr => ∃ (j : Nat), j ≤ n ∧ i = .int .i64 j ∧ Below w.heap.size w wr) (fun i _ => n - (intOf i).toNat)
  case atStart => exact ⟨0, Nat.zero_le _, rfl, Below.refl _ _⟩
  case round =>
    obtain ⟨j, hj, rfl, hbel⟩ := hrel
    by_cases hlt : j < n
    · obtain ⟨b1, o1, rfl, hrng⟩ := (hg.kept hbel).at j (by omega)
      obtain ⟨b3, o3, rfl, hrng2⟩ := (hr.kept hbel).at j hlt
      have hkx : j < (rp xs ys).length := by omega
      have hky : j < xs.length := by omega
      have hx := hrng j hkx
      have hy := hrng2 j hky
      have e : (rp xs ys)[j] = xs[j] := by
        have := rp_head xs ys j hky
        rw [List.getElem?_eq_getElem hkx, List.getElem?_eq_getElem hky] at this
        simpa using this
      rw [e] at hx
      generalize xs[j] = u at hx hy
      clear hrng hrng2 e
      go_wp2
      refine wp_region_quiet_lit (by kernel_rfl) (by kernel_rfl) ?_
      repeat (first | go_big_quiet_skip | (go_big_quiet_want; first | (refine quiet_ld 36 _ rfl _ _ _ (.inr rfl) hx rfl ?_; go_big_quiet_on; try simp only [Act.put, List.setIfInBounds_toArray, List.set_cons_succ, List.set_cons_zero]) | (refine quiet_ld 30 _ rfl _ _ _ (.inl rfl) hy rfl ?_; go_big_quiet_on; try simp only [Act.put, List.setIfInBounds_toArray, List.set_cons_succ, List.set_cons_zero]) | (refine quiet_nf 30 _ _ _ rfl _ (.inl rfl) rfl rfl ?_; go_big_quiet_on; try simp only [Act.put, List.setIfInBounds_toArray, List.set_cons_succ, List.set_cons_zero]) | (go_big_quiet_op; go_big_quiet_on)))
      refine wpQuiet_nil ?_
      intro _ hw'
      obtain ⟨nq, hw''⟩ := hw'
      subst hw''
      go_wp2
      go_roundw
      case rel => exact ⟨j + 1, by omega, by go_num, below_drewN' hbel _⟩
      case measure => simp [intOf]; omega
    · go_wp2
      go_loopw [9, 10] (fun p i wr => ∃ (j : Nat), j ≤ m ∧ i = .int .i64 j ∧ p = .int .i64 (rp xs (ys.take j)).length ∧ Below w.heap.size w wr) (fun _ i _ => m - (intOf i).toNat)
      case atStart => exact ⟨0, Nat.zero_le _, rfl, by rw [List.take_zero, rp_nil, hl], hbel⟩
      case round =>
        clear hbel
        obtain ⟨j, hj, rfl, rfl, hbel⟩ := hrel
        have hpl := rp_len xs (ys.take j)
        have hpg := rp_ge xs (ys.take j)
        have htk : (ys.take j).length ≤ j := List.length_take_le _ _
        by_cases hltm : j < m
        · obtain ⟨b3, o3, rfl, hrng2⟩ := (hr2.kept hbel).at j hltm
          have hky : j < ys.length := by omega
          have hy := hrng2 j hky
          have HH : Hid (hasV xs ys[j] = true ∨ hasV (ys.take j) ys[j] = true → rp xs (ys.take (j + 1)) = rp xs (ys.take j)) := fun h => rp_hit hky h
          have HM : Hid (hasV xs ys[j] = false → hasV (ys.take j) ys[j] = false → rp xs (ys.take (j + 1)) = rp xs (ys.take j) ++ [ys[j]] ∧ (rp xs ys)[(rp xs (ys.take j)).length]? = some ys[j]) := fun h1 h2 => ⟨rp_miss hky h1 h2, rp_at hky h1 h2⟩
          generalize ys[j] = f at hy HH HM
          generalize rp xs (ys.take j) = P at HH HM hpl hpg
          clear hrng2
          have ht1 : hasV (xs.take n) f = hasV xs f := by rw [← hl, List.take_length]
          cases h1 : hasV xs f with
          | true =>
            have HL : Hid (rp xs (ys.take (j + 1)) = P) := HH.out (.inl h1)
            rw [h1] at ht1
            clear HH HM
            go_wp2_with (first
                    | (refine wpList_ld rfl 30 _ rfl _ _ f (.inl rfl) hy rfl ?_)
                    | (refine wpList_al rfl 30 rfl (.inl rfl) ?_; intro w2 hbox2 hgr2)
                    | (refine wpList_st rfl 30 _ _ rfl wr.heap.size 0 f 30 [Z] (.inl rfl) hbox2 (by simp) rfl rfl ?_; intro w3 hbox3 hgr3; have hB : Below wr.heap.size wr w3 := bone ((Below.refl _ _).grown hgr2 (Nat.le_refl _) (by simp)) hgr3 (Nat.le_refl _) (by simp); have hbx3 : w3.rangeAt wr.heap.size 0 (E f) := by { have hbx := hbox3.at 0 (by simp); simpa using hbx })
                    | (refine wpList_ld rfl 30 _ rfl _ _ f (.inl rfl) hbx3 rfl ?_)
                    | (go_at_call_of 26 (Value.slice b n d); refine (has_any b n d n xs f w3 ((hr.kept hbel).kept hB) (by omega) (by omega)).mono ?_; rintro e w4 ⟨rfl, hb4⟩; rw [ht1]; have hbx4 : w4.rangeAt wr.heap.size 0 (E f) := by { have hbx := (hbox3.kept hb4 hbox3.lt).at 0 (by simp); simpa using hbx })
                    | (refine wpList_ld_g (by rfl) 30 _ rfl _ _ f (.inl rfl) hbx4 rfl ?_)
                    | (go_at_call_of 26 (Value.slice (some ⟨b3, o3, none⟩) m d2); refine (has_any _ m d2 j ys f w4 (((hr2.kept hbel).kept hB).kept hb4) (by omega) (by omega)).mono ?_; rintro e w5 ⟨rfl, hb5⟩))
            go_roundw
            case rel => exact ⟨j + 1, by omega, by go_num, by rw [HL.out], bstep (bstep hbel hB) hb4⟩
            case measure => simp [intOf]; omega
          | false =>
            rw [h1] at ht1
            cases h2 : hasV (ys.take j) f with
            | true =>
              have HL : Hid (rp xs (ys.take (j + 1)) = P) := HH.out (.inr h2)
              clear HH HM
              go_wp2_with (first
                    | (refine wpList_ld rfl 30 _ rfl _ _ f (.inl rfl) hy rfl ?_)
                    | (refine wpList_al rfl 30 rfl (.inl rfl) ?_; intro w2 hbox2 hgr2)
                    | (refine wpList_st rfl 30 _ _ rfl wr.heap.size 0 f 30 [Z] (.inl rfl) hbox2 (by simp) rfl rfl ?_; intro w3 hbox3 hgr3; have hB : Below wr.heap.size wr w3 := bone ((Below.refl _ _).grown hgr2 (Nat.le_refl _) (by simp)) hgr3 (Nat.le_refl _) (by simp); have hbx3 : w3.rangeAt wr.heap.size 0 (E f) := by { have hbx := hbox3.at 0 (by simp); simpa using hbx })
                    | (refine wpList_ld rfl 30 _ rfl _ _ f (.inl rfl) hbx3 rfl ?_)
                    | (go_at_call_of 26 (Value.slice b n d); refine (has_any b n d n xs f w3 ((hr.kept hbel).kept hB) (by omega) (by omega)).mono ?_; rintro e w4 ⟨rfl, hb4⟩; rw [ht1]; have hbx4 : w4.rangeAt wr.heap.size 0 (E f) := by { have hbx := (hbox3.kept hb4 hbox3.lt).at 0 (by simp); simpa using hbx })
                    | (refine wpList_ld_g (by rfl) 30 _ rfl _ _ f (.inl rfl) hbx4 rfl ?_)
                    | (go_at_call_of 26 (Value.slice (some ⟨b3, o3, none⟩) m d2); refine (has_any _ m d2 j ys f w4 (((hr2.kept hbel).kept hB).kept hb4) (by omega) (by omega)).mono ?_; rintro e w5 ⟨rfl, hb5⟩))
              go_roundw
              case rel => exact ⟨j + 1, by omega, by go_num, by rw [HL.out], bstep (bstep (bstep hbel hB) hb4) hb5⟩
              case measure => simp [intOf]; omega
            | false =>
              obtain ⟨hL, hA⟩ := HM.out h1 h2
              have HL : Hid (rp xs (ys.take (j + 1)) = P ++ [f]) := hL
              have hPN : P.length < (rp xs ys).length := (List.getElem?_eq_some_iff.1 hA).1
              have HA : Hid ((rp xs ys)[P.length] = f) := (List.getElem?_eq_some_iff.1 hA).2
              clear HH HM hL hA
              obtain ⟨b1, o1, rfl, hrng⟩ := (hg.kept hbel).at P.length (by omega)
              go_wp2_with (first
                    | (refine wpList_ld rfl 30 _ rfl _ _ f (.inl rfl) hy rfl ?_)
                    | (refine wpList_al rfl 30 rfl (.inl rfl) ?_; intro w2 hbox2 hgr2)
                    | (refine wpList_st rfl 30 _ _ rfl wr.heap.size 0 f 30 [Z] (.inl rfl) hbox2 (by simp) rfl rfl ?_; intro w3 hbox3 hgr3; have hB : Below wr.heap.size wr w3 := bone ((Below.refl _ _).grown hgr2 (Nat.le_refl _) (by simp)) hgr3 (Nat.le_refl _) (by simp); have hbx3 : w3.rangeAt wr.heap.size 0 (E f) := by { have hbx := hbox3.at 0 (by simp); simpa using hbx })
                    | (refine wpList_ld rfl 30 _ rfl _ _ f (.inl rfl) hbx3 rfl ?_)
                    | (go_at_call_of 26 (Value.slice b n d); refine (has_any b n d n xs f w3 ((hr.kept hbel).kept hB) (by omega) (by omega)).mono ?_; rintro e w4 ⟨rfl, hb4⟩; rw [ht1]; have hbx4 : w4.rangeAt wr.heap.size 0 (E f) := by { have hbx := (hbox3.kept hb4 hbox3.lt).at 0 (by simp); simpa using hbx })
                    | (refine wpList_ld_g (by rfl) 30 _ rfl _ _ f (.inl rfl) hbx4 rfl ?_)
                    | (go_at_call_of 26 (Value.slice (some ⟨b3, o3, none⟩) m d2); refine (has_any _ m d2 j ys f w4 (((hr2.kept hbel).kept hB).kept hb4) (by omega) (by omega)).mono ?_; rintro e w5 ⟨rfl, hb5⟩))
              have hxg : w5.rangeAt b1 (o1 + P.length * 16) (E f) := by
                have h := (((((hg.kept hbel).kept hB).kept hb4).kept hb5).2 P.length hPN)
                obtain ⟨b', o', e', h'⟩ := h
                simp only [Option.some.injEq, Addr.mk.injEq] at e'
                obtain ⟨rfl, rfl, _⟩ := e'
                rw [HA.out] at h'
                exact h'
              have hbx5 : w5.rangeAt wr.heap.size 0 (E f) := by
                have h := ((hbox3.kept hb4 hbox3.lt).kept hb5 (Nat.lt_of_lt_of_le hbox3.lt hb4.size)).at 0 (by simp)
                simpa using h
              refine wp_region_quiet_lit (by kernel_rfl) (by kernel_rfl) ?_
              repeat (first | go_big_quiet_skip | (go_big_quiet_want; first | (refine quiet_ld 36 _ rfl _ _ _ (.inr rfl) hxg rfl ?_; go_big_quiet_on; try simp only [Act.put, List.setIfInBounds_toArray, List.set_cons_succ, List.set_cons_zero]) | (refine quiet_ld 30 _ rfl _ _ _ (.inl rfl) hbx5 rfl ?_; go_big_quiet_on; try simp only [Act.put, List.setIfInBounds_toArray, List.set_cons_succ, List.set_cons_zero]) | (refine quiet_nf 30 _ _ _ rfl _ (.inl rfl) rfl rfl ?_; go_big_quiet_on; try simp only [Act.put, List.setIfInBounds_toArray, List.set_cons_succ, List.set_cons_zero]) | (go_big_quiet_op; go_big_quiet_on)))
              refine wpQuiet_nil ?_
              intro _ hw'
              obtain ⟨nq, hw''⟩ := hw'
              subst hw''
              go_wp2
              go_roundw
              case rel => exact ⟨j + 1, by omega, by go_num, by rw [HL.out, List.length_append, List.length_singleton]; go_num, below_drewN' (bstep (bstep (bstep hbel hB) hb4) hb5) _⟩
              case measure => simp [intOf]; omega
        · have hjm : ys.length = j := by omega
          have HE : Hid ((rp xs (ys.take j)).length = N) := by rw [Hid, ← hjm, List.take_length]; exact hgl
          generalize (rp xs (ys.take j)).length = p at HE hpl hpg
          obtain rfl := HE.out
          go_wp2
          go_ret
          exact ⟨rfl, hbel⟩

end Go.Proofs.Qxb6619637a
