/-
  Seat b6619637a: zzHas, zzHasRepeat, zzHasID, zzSameIDs. Our own text.
-/
import Derived.Test.Qxb6619637aSet
namespace Go.Proofs.Qxb6619637a
open Go.RowKit
set_option linter.unusedSimpArgs false
set_option linter.unusedVariables false

theorem has_take_yes {xs : List V} {x : V} {i k : Nat} (hi : i < xs.length) (hk : i < k) (h : xs[i] = x) : true = hasV (xs.take k) x := by
  symm; rw [hasV_true]
  exact List.mem_iff_getElem.2 ⟨i, by simp; omega, by simpa using h⟩
theorem has_take_no {xs : List V} {x : V} {k : Nat} (h : ∀ j (h : j < xs.length), j < k → xs[j] ≠ x) : false = hasV (xs.take k) x := by
  symm
  cases hh : hasV (xs.take k) x with
  | false => rfl
  | true =>
    rw [hasV_true] at hh
    obtain ⟨j, hj, e⟩ := List.mem_iff_getElem.1 hh
    simp at hj e
    exact absurd e (h j (by omega) (by omega))

set_option maxHeartbeats 1000000 in
theorem has_any (a : Option Addr) (n c k : Nat) (xs : List V) (x : V) (w : World) (hr : Rd w a n xs) (hn : n ≤ 4096) (hk : k ≤ 4096) :
    Calls Try.prog 26 #[.slice a n c, .int .i64 k, G x] w fun e w' => e = .returned (.bool (hasV (xs.take k) x)) ∧ Below w.heap.size w w' := by
  have hl := hr.1
  go_enter Try.func26, Try.ntmps26
  go_wp2_with (refine wpList_bx rfl 30 _ rfl x rfl ?_; intro w1 hbox hgr)
  have hb0 : Below w.heap.size w w1 := (Below.refl _ _).grown hgr (Nat.le_refl _) (by simp)
  go_loopw [7] (fun i wr => ∃ (j : Nat), j ≤ n ∧ j ≤ k ∧ i = .int .i64 j ∧ (∀ q (h : q < xs.length), q < j → xs[q] ≠ x) ∧ Row wr w.heap.size 30 [x] ∧ Below w.heap.size w wr) (fun i _ => n - (intOf i).toNat)
  case atStart => exact ⟨0, Nat.zero_le _, Nat.zero_le _, rfl, by simp, hbox, hb0⟩
  case round =>
    clear hbox hb0 hgr
    obtain ⟨j, hj, hjk, rfl, hno, hbox, hbel⟩ := hrel
    have HN : Hid (∀ q (h : q < xs.length), q < j → xs[q] ≠ x) := hno
    clear hno
    by_cases hlk : j < k
    · by_cases hlt : j < n
      · obtain ⟨b, o, rfl, hrng⟩ := (hr.kept hbel).at j hlt
        have hkx : j < xs.length := by omega
        have hx := hrng j hkx
        have hbx : wr.rangeAt w.heap.size 0 (E x) := by
          have h := hbox.at 0 (by simp)
          simpa using h
        have HY : Hid (xs[j] = x → true = hasV (xs.take k) x) := fun h => has_take_yes hkx hlk h
        generalize hv : xs[j] = v at hx HY
        have HW : Hid (xs[j] = v) := hv
        clear hrng hv
        go_wp2
        refine wp_region_quiet_lit (by kernel_rfl) (by kernel_rfl) ?_
        repeat (first | go_big_quiet_skip | (go_big_quiet_want; first | (refine quiet_ld 30 _ rfl _ _ _ (.inl rfl) hx rfl ?_; go_big_quiet_on; try simp only [Act.put, List.setIfInBounds_toArray, List.set_cons_succ, List.set_cons_zero]) | (refine quiet_ld 30 _ rfl _ _ _ (.inl rfl) hbx rfl ?_; go_big_quiet_on; try simp only [Act.put, List.setIfInBounds_toArray, List.set_cons_succ, List.set_cons_zero]) | (refine quiet_eq 30 _ _ _ rfl _ _ (.inl rfl) rfl rfl ?_; go_big_quiet_on; try simp only [Act.put, List.setIfInBounds_toArray, List.set_cons_succ, List.set_cons_zero]) | (go_big_quiet_op; go_big_quiet_on)))
        refine wpQuiet_nil ?_
        intro _ hw'
        obtain ⟨nq, hw''⟩ := hw'
        subst hw''
        go_wp2
        · go_ret
          exact ⟨ret_bool (HY.out (eqV_true.1 (by assumption))), below_drewN' hbel _⟩
        · have hne : eqV v x = false := by assumption
          go_roundw
          case rel =>
            refine ⟨j + 1, by omega, by omega, by go_num, ?_, hbox, below_drewN' hbel _⟩
            intro q hq hqj e
            by_cases hqj' : q = j
            · subst hqj'
              rw [HW.out] at e
              rw [eqV_true.2 e] at hne
              cases hne
            · exact HN.out q hq (by omega) e
          case measure => simp [intOf]; omega
      · go_wp2
        go_ret
        exact ⟨ret_bool (has_take_no fun q hq _ => HN.out q hq (by omega)), hbel⟩
    · go_wp2
      go_ret
      exact ⟨ret_bool (has_take_no fun q hq _ => HN.out q hq (by omega)), hbel⟩

theorem has_all_no {xs : List V} {x : V} (h : ∀ j (h : j < xs.length), xs[j] ≠ x) : false = hasV xs x := by
  have := has_take_no (xs := xs) (x := x) (k := xs.length) (fun j hj _ => h j hj)
  rwa [List.take_length] at this

set_option maxHeartbeats 1000000 in
theorem hasID_any (a : Option Addr) (n c : Nat) (xs : List V) (x : V) (w : World) (hr : Rd w a n xs) (hn : n ≤ 16384) :
    Calls Try.prog 23 #[.slice a n c, G x] w fun e w' => e = .returned (.bool (hasV xs x)) ∧ Below w.heap.size w w' := by
  have hl := hr.1
  go_enter Try.func23, Try.ntmps23
  go_wp2_with (refine wpList_bx rfl 30 _ rfl x rfl ?_; intro w1 hbox hgr)
  have hb0 : Below w.heap.size w w1 := (Below.refl _ _).grown hgr (Nat.le_refl _) (by simp)
  go_loopw [5] (fun i wr => ∃ (j : Nat), j ≤ n ∧ i = .int .i64 j ∧ (∀ q (h : q < xs.length), q < j → xs[q] ≠ x) ∧ Row wr w.heap.size 30 [x] ∧ Below w.heap.size w wr) (fun i _ => n - (intOf i).toNat)
  case atStart => exact ⟨0, Nat.zero_le _, rfl, by simp, hbox, hb0⟩
  case round =>
    clear hbox hb0 hgr
    obtain ⟨j, hj, rfl, hno, hbox, hbel⟩ := hrel
    have HN : Hid (∀ q (h : q < xs.length), q < j → xs[q] ≠ x) := hno
    clear hno
    by_cases hlt : j < n
    · obtain ⟨b, o, rfl, hrng⟩ := (hr.kept hbel).at j hlt
      have hkx : j < xs.length := by omega
      have hx := hrng j hkx
      have hbx : wr.rangeAt w.heap.size 0 (E x) := by
        have h := hbox.at 0 (by simp)
        simpa using h
      have HY : Hid (xs[j] = x → true = hasV xs x) := fun h => (hasV_true.2 (h ▸ List.getElem_mem hkx)).symm
      generalize hv : xs[j] = v at hx HY
      have HW : Hid (xs[j] = v) := hv
      clear hrng hv
      go_wp2
      refine wp_region_quiet_lit (by kernel_rfl) (by kernel_rfl) ?_
      repeat (first | go_big_quiet_skip | (go_big_quiet_want; first | (refine quiet_ld 36 _ rfl _ _ _ (.inr rfl) hx rfl ?_; go_big_quiet_on; try simp only [Act.put, List.setIfInBounds_toArray, List.set_cons_succ, List.set_cons_zero]) | (refine quiet_ld 30 _ rfl _ _ _ (.inl rfl) hbx rfl ?_; go_big_quiet_on; try simp only [Act.put, List.setIfInBounds_toArray, List.set_cons_succ, List.set_cons_zero]) | (refine quiet_eq 30 _ _ _ rfl _ _ (.inl rfl) rfl rfl ?_; go_big_quiet_on; try simp only [Act.put, List.setIfInBounds_toArray, List.set_cons_succ, List.set_cons_zero]) | (go_big_quiet_op; go_big_quiet_on)))
      refine wpQuiet_nil ?_
      intro _ hw'
      obtain ⟨nq, hw''⟩ := hw'
      subst hw''
      go_wp2
      · go_ret
        exact ⟨ret_bool (HY.out (eqV_true.1 (by assumption))), below_drewN' hbel _⟩
      · have hne : eqV v x = false := by assumption
        go_roundw
        case rel =>
          refine ⟨j + 1, by omega, by go_num, ?_, hbox, below_drewN' hbel _⟩
          intro q hq hqj e
          by_cases hqj' : q = j
          · subst hqj'
            rw [HW.out] at e
            rw [eqV_true.2 e] at hne
            cases hne
          · exact HN.out q hq (by omega) e
        case measure => simp [intOf]; omega
    · go_wp2
      go_ret
      exact ⟨ret_bool (has_all_no fun q hq => HN.out q hq (by omega)), hbel⟩

/-- Has xs a repeat? -/
def repV (xs : List V) : Bool := decide (¬ xs.Nodup)
theorem rep_yes {xs : List V} {k : Nat} (hk : k < xs.length) (h : hasV (xs.take k) xs[k] = true) : true = repV xs := by
  have hm := hasV_true.1 h
  obtain ⟨j, hj, e⟩ := List.mem_iff_getElem.1 hm
  simp at hj e
  symm
  unfold repV
  rw [decide_eq_true_eq]
  intro hnd
  exact List.pairwise_iff_getElem.1 (List.nodup_iff_pairwise_ne.1 hnd) j k (by omega) hk (by omega) e
theorem rep_no {xs : List V} (h : ∀ k (hk : k < xs.length), hasV (xs.take k) xs[k] = false) : false = repV xs := by
  symm
  unfold repV
  rw [decide_eq_false_iff_not, Decidable.not_not]
  rw [List.nodup_iff_pairwise_ne, List.pairwise_iff_getElem]
  intro i j hi hj hij e
  have h1 := h j hj
  have h2 : hasV (xs.take j) xs[j] = true := hasV_true.2 (List.mem_iff_getElem.2 ⟨i, by simp; omega, by simpa using e⟩)
  rw [h1] at h2
  cases h2

set_option maxHeartbeats 1000000 in
theorem rep_any (a : Option Addr) (n c : Nat) (xs : List V) (w : World) (hr : Rd w a n xs) (hn : n ≤ 4096) :
    Calls Try.prog 25 #[.slice a n c] w fun e w' => e = .returned (.bool (repV xs)) ∧ Below w.heap.size w w' := by
  have hl := hr.1
  go_enter Try.func25, Try.ntmps25
  go_wp2
  go_loopw [3] (fun i wr => ∃ (j : Nat), j ≤ n ∧ i = .int .i64 j ∧ (∀ q (h : q < xs.length), q < j → hasV (xs.take q) xs[q] = false) ∧ Below w.heap.size w wr) (fun i _ => n - (intOf i).toNat)
  case atStart => exact ⟨0, Nat.zero_le _, rfl, by simp, Below.refl _ _⟩
  case round =>
    obtain ⟨j, hj, rfl, hno, hbel⟩ := hrel
    have HN : Hid (∀ q (h : q < xs.length), q < j → hasV (xs.take q) xs[q] = false) := hno
    clear hno
    by_cases hlt : j < n
    · obtain ⟨b, o, rfl, hrng⟩ := (hr.kept hbel).at j hlt
      have hkx : j < xs.length := by omega
      have hx := hrng j hkx
      have HY : Hid (hasV (xs.take j) xs[j] = true → true = repV xs) := fun h => rep_yes hkx h
      generalize hv : xs[j] = v at hx HY
      have HW : Hid (xs[j] = v) := hv
      clear hrng hv
      cases hq : hasV (xs.take j) v with
      | true =>
        have HZ : Hid (true = repV xs) := HY.out hq
        clear HY
        go_wp2_with (first
          | (refine wpList_ld rfl 30 _ rfl _ _ v (.inl rfl) hx rfl ?_)
          | (go_at_call 26; refine (has_any _ n c j xs v wr (hr.kept hbel) hn (by omega)).mono ?_; rintro e w3 ⟨rfl, hb3⟩))
        go_ret
        exact ⟨ret_bool HZ.out, bstep hbel hb3⟩
      | false =>
        clear HY
        go_wp2_with (first
          | (refine wpList_ld rfl 30 _ rfl _ _ v (.inl rfl) hx rfl ?_)
          | (go_at_call 26; refine (has_any _ n c j xs v wr (hr.kept hbel) hn (by omega)).mono ?_; rintro e w3 ⟨rfl, hb3⟩))
        go_roundw
        case rel =>
          refine ⟨j + 1, by omega, by go_num, ?_, bstep hbel hb3⟩
          intro q hq' hqj
          by_cases hqj' : q = j
          · subst hqj'
            rw [HW.out]; exact hq
          · exact HN.out q hq' (by omega)
        case measure => simp [intOf]; omega
    · go_wp2
      go_ret
      exact ⟨ret_bool (rep_no fun q hq => HN.out q hq (by omega)), hbel⟩

/-- zzSameIDs, plainly. -/
def eqL (xs ys : List V) : Bool := decide (xs = ys)
set_option maxHeartbeats 1000000 in
theorem sameIDs_any (a : Option Addr) (n c : Nat) (b : Option Addr) (m d : Nat) (xs ys : List V) (w : World) (hr : Rd w a n xs) (hr2 : Rd w b m ys) (hn : n ≤ 16384) :
    Calls Try.prog 21 #[.slice a n c, .slice b m d] w fun e w' => e = .returned (.bool (eqL xs ys)) ∧ Below w.heap.size w w' := by
  have hl := hr.1
  have hl2 := hr2.1
  by_cases hnm : n = m
  · subst hnm
    go_enter Try.func21, Try.ntmps21
    go_wp2
    go_loopw [5] (fun i wr => ∃ (j : Nat), j ≤ n ∧ i = .int .i64 j ∧ (∀ q, q < j → xs[q]? = ys[q]?) ∧ Below w.heap.size w wr) (fun i _ => n - (intOf i).toNat)
    case atStart => exact ⟨0, Nat.zero_le _, rfl, by simp, Below.refl _ _⟩
    case round =>
      obtain ⟨j, hj, rfl, hno, hbel⟩ := hrel
      have HN : Hid (∀ q, q < j → xs[q]? = ys[q]?) := hno
      clear hno
      by_cases hlt : j < n
      · obtain ⟨b1, o1, rfl, hrng⟩ := (hr.kept hbel).at j hlt
        obtain ⟨b2, o2, rfl, hrng2⟩ := (hr2.kept hbel).at j hlt
        have hkx : j < xs.length := by omega
        have hky : j < ys.length := by omega
        have hx := hrng j hkx
        have hy := hrng2 j hky
        have HX : Hid (xs[j]? = some xs[j]) := List.getElem?_eq_getElem hkx
        have HY : Hid (ys[j]? = some ys[j]) := List.getElem?_eq_getElem hky
        generalize xs[j] = u at hx HX
        generalize ys[j] = v at hy HY
        clear hrng hrng2
        go_wp2
        refine wp_region_quiet_lit (by kernel_rfl) (by kernel_rfl) ?_
        repeat (first | go_big_quiet_skip | (go_big_quiet_want; first | (refine quiet_ld 36 _ rfl _ _ _ (.inr rfl) hx rfl ?_; go_big_quiet_on; try simp only [Act.put, List.setIfInBounds_toArray, List.set_cons_succ, List.set_cons_zero]) | (refine quiet_ld 36 _ rfl _ _ _ (.inr rfl) hy rfl ?_; go_big_quiet_on; try simp only [Act.put, List.setIfInBounds_toArray, List.set_cons_succ, List.set_cons_zero]) | (refine quiet_ne 36 _ _ _ rfl _ _ (.inr rfl) rfl rfl ?_; go_big_quiet_on; try simp only [Act.put, List.setIfInBounds_toArray, List.set_cons_succ, List.set_cons_zero]) | (go_big_quiet_op; go_big_quiet_on)))
        refine wpQuiet_nil ?_
        intro _ hw'
        obtain ⟨nq, hw''⟩ := hw'
        subst hw''
        go_wp2
        · have hne : (!eqV u v) = true := by assumption
          go_ret
          refine ⟨ret_bool ?_, below_drewN' hbel _⟩
          symm
          unfold eqL
          rw [decide_eq_false_iff_not]
          rintro rfl
          have := HX.out.symm.trans HY.out
          simp only [Option.some.injEq] at this
          rw [eqV_true.2 this] at hne
          cases hne
        · have heq : (!eqV u v) = false := by assumption
          go_roundw
          case rel =>
            refine ⟨j + 1, by omega, by go_num, ?_, below_drewN' hbel _⟩
            intro q hq
            by_cases hqj : q = j
            · subst hqj
              rw [HX.out, HY.out, (eqV_true (u := u) (v := v)).1 (by simpa using heq)]
            · exact HN.out q (by omega)
          case measure => simp [intOf]; omega
      · go_wp2
        go_ret
        refine ⟨ret_bool ?_, hbel⟩
        symm
        unfold eqL
        rw [decide_eq_true_eq]
        exact list_eq_of hl hl2 fun q hq => HN.out q (by omega)
  · have HS : Hid (false = eqL xs ys) := by
      rw [Hid]; symm; unfold eqL
      rw [decide_eq_false_iff_not]
      rintro rfl; omega
    have hne : ((n : Int) == (m : Int)) = false := by simp; omega
    go_enter Try.func21, Try.ntmps21
    go_wp2
    go_ret
    exact ⟨ret_bool HS.out, Below.refl _ _⟩

end Go.Proofs.Qxb6619637a
