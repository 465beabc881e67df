/-
  Seat b6619637a: slices.Index, slices.Contains at IDs; sameSet. Our own text.
-/
import Derived.Test.Qxb6619637aLaw
namespace Go.Proofs.Qxb6619637a
open Go.RowKit
set_option linter.unusedSimpArgs false
set_option linter.unusedVariables false

theorem ret_bool {a b : Bool} (h : a = b) : Ending.returned (.bool a) = .returned (.bool b) := by rw [h]
/-- Is x among xs? -/
def hasV (xs : List V) (x : V) : Bool := decide (x ∈ xs)
theorem hasV_true {xs : List V} {x : V} : hasV xs x = true ↔ x ∈ xs := by simp [hasV]
theorem has_found {xs : List V} {x : V} {k : Nat} (h : x ∈ xs) : decide (0 ≤ (k : Int)) = hasV xs x := by simp [hasV, h]
theorem has_not {xs : List V} {x : V} (h : ∀ j (h : j < xs.length), xs[j] ≠ x) : decide (0 ≤ (-1 : Int)) = hasV xs x := by
  have : x ∉ xs := fun hm => by obtain ⟨j, hj, e⟩ := List.mem_iff_getElem.1 hm; exact h j hj e
  simp [hasV, this]

set_option maxHeartbeats 1000000 in
theorem index_any (a : Option Addr) (n c : Nat) (xs : List V) (x : V) (w : World) (hr : Rd w a n xs) (hn : n ≤ 1048576) :
    Calls Try.prog 31 #[.slice a n c, G x] w fun e w' => ∃ z : Int, e = .returned (.int .i64 z) ∧ decide (0 ≤ z) = hasV xs x ∧ Below w.heap.size w w' := by
  go_enter Try.func31, Try.ntmps31
  go_wp2_with (refine wpList_bx rfl 36 _ rfl x rfl ?_; intro w1 hbox hgr)
  have hb0 : Below w.heap.size w w1 := (Below.refl _ _).grown hgr (Nat.le_refl _) (by simp)
  go_loopw [8] (fun i wr => ∃ (k : Nat), k ≤ n ∧ i = .int .i64 k ∧ (∀ j (h : j < xs.length), j < k → xs[j] ≠ x) ∧ Row wr w.heap.size 36 [x] ∧ Below w.heap.size w wr) (fun i _ => n - (intOf i).toNat)
  case atStart => exact ⟨0, Nat.zero_le _, rfl, by simp, hbox, hb0⟩
  case round =>
    clear hbox hb0 hgr
    obtain ⟨k, hk, rfl, hno, hbox, hbel⟩ := hrel
    have hl := hr.1
    have HN : Hid (∀ j (h : j < xs.length), j < k → xs[j] ≠ x) := hno
    clear hno
    by_cases hlt : k < n
    · obtain ⟨b, o, rfl, hrng⟩ := (hr.kept hbel).at k hlt
      have hkx : k < xs.length := by omega
      have hx := hrng k hkx
      have hbx := hbox.at 0 (by simp)
      simp only [List.getElem_cons_zero, Nat.zero_mul] at hbx
      have HM : Hid (x = xs[k] → x ∈ xs) := fun h => h ▸ List.getElem_mem hkx
      generalize hv : xs[k] = v at hx HM
      have HW : Hid (xs[k] = v) := hv
      clear hrng hv
      go_wp2
      refine wp_region_quiet_lit (by kernel_rfl) (by kernel_rfl) ?_
      repeat (first | go_big_quiet_skip | (go_big_quiet_want; first | (refine quiet_ld 36 _ rfl _ _ _ (.inr rfl) hbx rfl ?_; go_big_quiet_on; try simp only [Act.put, List.setIfInBounds_toArray, List.set_cons_succ, List.set_cons_zero]) | (refine quiet_ld 36 _ rfl _ _ _ (.inr rfl) hx rfl ?_; go_big_quiet_on; try simp only [Act.put, List.setIfInBounds_toArray, List.set_cons_succ, List.set_cons_zero]) | (refine quiet_eq 36 _ _ _ rfl _ _ (.inr rfl) rfl rfl ?_; go_big_quiet_on; try simp only [Act.put, List.setIfInBounds_toArray, List.set_cons_succ, List.set_cons_zero]) | (go_big_quiet_op; go_big_quiet_on)))
      refine wpQuiet_nil ?_
      intro _ hw'
      obtain ⟨nq, hw''⟩ := hw'
      subst hw''
      go_wp2
      · go_ret
        exact ⟨k, rfl, has_found (HM.out (eqV_true.1 (by assumption))), below_drewN' hbel _⟩
      · have hne : eqV x v = false := by assumption
        go_roundw
        case rel =>
          refine ⟨k + 1, by omega, by go_num, ?_, hbox, below_drewN' hbel _⟩
          intro j hj hjk e
          by_cases hjk' : j = k
          · subst hjk'
            rw [HW.out] at e
            rw [eqV_true.2 e.symm] at hne
            cases hne
          · exact HN.out j hj (by omega) e
        case measure => simp [intOf]; omega
    · go_wp2
      go_ret
      exact ⟨-1, rfl, has_not fun j hj => HN.out j hj (by omega), hbel⟩

set_option maxHeartbeats 1000000 in
theorem contains_any (a : Option Addr) (n c : Nat) (xs : List V) (x : V) (w : World) (hr : Rd w a n xs) (hn : n ≤ 1048576) :
    Calls Try.prog 30 #[.slice a n c, G x] w fun e w' => e = .returned (.bool (hasV xs x)) ∧ Below w.heap.size w w' := by
  go_enter Try.func30, Try.ntmps30
  go_wp2_with (first
    | (refine wpList_bx rfl 36 _ rfl x rfl ?_; intro w1 hbox hgr; have hb0 : Below w.heap.size w w1 := (Below.refl _ _).grown hgr (Nat.le_refl _) (by simp); have hbx : w1.rangeAt w.heap.size 0 (E x) := by { have hbx := hbox.at 0 (by simp); simpa using hbx }; clear hgr)
    | (refine wpList_ld rfl 36 _ rfl _ _ x (.inr rfl) hbx rfl ?_)
    | (go_at_call 31; refine (index_any a n c xs x w1 (hr.kept hb0) hn).mono ?_; rintro e w2 ⟨z, rfl, hz, hb1⟩))
  go_ret
  exact ⟨rfl, bstep hb0 hb1⟩

/-- sameSet, plainly. -/
def sameV (xs ys : List V) : Bool := decide (xs.length = ys.length) && xs.all (hasV ys)

set_option maxHeartbeats 1000000 in
theorem sameSet_any (a a' : Option Addr) (n c n' c' : Nat) (xs ys : List V) (w : World) (hr : Rd w a n xs) (hr' : Rd w a' n' ys) (hn : n ≤ 1048576) (hn' : n' ≤ 1048576) :
    Calls Try.prog 27 #[.slice a n c, .slice a' n' c'] w fun e w' => e = .returned (.bool (sameV xs ys)) ∧ Below w.heap.size w w' := by
  have hl := hr.1
  have hl' := hr'.1
  by_cases he : n = n'
  · subst he
    go_enter Try.func27, Try.ntmps27
    go_wp2
    go_loopw [14] (fun i wr => ∃ (k : Nat), k ≤ n ∧ i = .int .i64 k ∧ (∀ j (h : j < xs.length), j < k → hasV ys xs[j] = true) ∧ Below w.heap.size w wr) (fun i _ => n - (intOf i).toNat)
    case atStart => exact ⟨0, Nat.zero_le _, rfl, by simp, Below.refl _ _⟩
    case round =>
      obtain ⟨k, hk, rfl, hall, hbel⟩ := hrel
      have HA : Hid (∀ j (h : j < xs.length), j < k → hasV ys xs[j] = true) := hall
      clear hall
      by_cases hlt : k < n
      · obtain ⟨b, o, rfl, hrng⟩ := (hr.kept hbel).at k hlt
        have hkx : k < xs.length := by omega
        have hx := hrng k hkx
        have HM : Hid (xs[k] ∈ xs) := List.getElem_mem hkx
        generalize hv : xs[k] = v at hx HM
        have HW : Hid (xs[k] = v) := hv
        clear hrng hv
        go_wp2_with (first
          | (refine wpList_ld rfl 36 _ rfl _ _ v (.inr rfl) hx rfl ?_)
          | (refine wpList_al rfl 36 rfl (.inr rfl) ?_; intro w1 hbox hgr; have hb0 : Below w.heap.size w w1 := bone hbel hgr (Nat.le_refl _) (by simp))
          | (refine wpList_st rfl 36 _ _ rfl wr.heap.size 0 v 36 [Z] (.inr rfl) hbox (by simp) rfl rfl ?_; intro w2 hbox2 hgr2; have hb1 : Below w.heap.size w w2 := bone hb0 hgr2 (Nat.le_refl _) (by intro q hq; simp only [Option.some.injEq] at hq; have := hbel.size; omega); have hbx : w2.rangeAt wr.heap.size 0 (E v) := by { have hbx := hbox2.at 0 (by simp); simpa using hbx }; clear hgr hgr2 hbox hbox2)
          | (refine wpList_ld rfl 36 _ rfl _ _ v (.inr rfl) hbx rfl ?_)
          | (go_at_call 30; refine (contains_any a' n c' ys v w2 (hr'.kept hb1) hn).mono ?_; rintro e w3 ⟨rfl, hb2⟩))
        · have hno : (!hasV ys v) = true := by assumption
          go_ret
          refine ⟨?_, bstep hb1 hb2⟩
          have : sameV xs ys = false := by
            unfold sameV
            rw [Bool.and_eq_false_iff]; right
            rw [List.all_eq_false]
            exact ⟨v, HM.out, by simpa using hno⟩
          exact ret_bool this.symm
        · have hyes : (!hasV ys v) = false := by assumption
          go_roundw
          case rel =>
            refine ⟨k + 1, by omega, by go_num, ?_, bstep hb1 hb2⟩
            intro j hj hjk
            by_cases hjk' : j = k
            · subst hjk'; rw [HW.out]; simpa using hyes
            · exact HA.out j hj (by omega)
          case measure => simp [intOf]; omega
      · go_wp2
        go_ret
        have : sameV xs ys = true := by
          unfold sameV
          rw [Bool.and_eq_true]
          refine ⟨by simp [hl, hl'], List.all_eq_true.2 fun v hv => ?_⟩
          obtain ⟨j, hj, e⟩ := List.mem_iff_getElem.1 hv
          rw [← e]; exact HA.out j hj (by omega)
        exact ⟨ret_bool this.symm, hbel⟩
  · have hs : sameV xs ys = false := by
      unfold sameV; rw [Bool.and_eq_false_iff]; left; simp [hl, hl', he]
    have HS : Hid (sameV xs ys = false) := hs
    clear hs
    have hne : ((n : Int) == (n' : Int)) = false := by simp; omega
    go_enter Try.func27, Try.ntmps27
    go_wp2
    go_ret
    exact ⟨ret_bool HS.out.symm, Below.refl _ _⟩

theorem zsame_any (a a' : Option Addr) (n c n' c' : Nat) (xs ys : List V) (w : World) (hr : Rd w a n xs) (hr' : Rd w a' n' ys) (hn : n ≤ 1048576) (hn' : n' ≤ 1048576) :
    Calls Try.prog 10 #[.slice a n c, .slice a' n' c'] w fun e w' => e = .returned (.bool (sameV xs ys)) ∧ Below w.heap.size w w' := by
  go_enter Try.func10, Try.ntmps10
  go_wp2_with (go_at_call 27; refine (sameSet_any a a' n c n' c' xs ys w hr hr' hn hn').mono ?_; rintro e w3 ⟨rfl, hb⟩)
  go_ret
  exact ⟨rfl, hb⟩

end Go.Proofs.Qxb6619637a
