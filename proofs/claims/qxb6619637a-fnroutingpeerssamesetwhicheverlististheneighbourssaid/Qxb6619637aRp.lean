/-
  Seat b6619637a: the plain mathematics of RoutingPeers. No Go in sight. Our own text.
-/
import Derived.Test.Qxb6619637aTab
import Derived.Test.Qxb6619637aHas
namespace Go.Proofs.Qxb6619637a
set_option linter.unusedSimpArgs false
set_option linter.unusedVariables false

theorem rp_app (xs ys zs : List V) : rp xs (ys ++ zs) = rp (rp xs ys) zs := by unfold rp; rw [List.foldl_append]
theorem rp_mem {xs ys : List V} {v : V} : v ∈ rp xs ys ↔ v ∈ xs ∨ v ∈ ys := by
  induction ys generalizing xs with
  | nil => simp [rp]
  | cons y ys ih =>
    rw [rp_cons, ih]
    cases h : hasV xs y with
    | true =>
      have := hasV_true.1 h
      simp only [if_true, List.mem_cons]
      constructor
      · rintro (h | h)
        · exact .inl h
        · exact .inr (.inr h)
      · rintro (h | rfl | h)
        · exact .inl h
        · exact .inl this
        · exact .inr h
    | false =>
      simp only [Bool.false_eq_true, if_false, List.mem_append, List.mem_cons, List.mem_nil_iff, or_false, or_assoc]
theorem rp_pre (xs ys : List V) : ∃ t, rp xs ys = xs ++ t := by
  induction ys generalizing xs with
  | nil => exact ⟨[], by simp [rp]⟩
  | cons y ys ih =>
    rw [rp_cons]
    split
    · exact ih xs
    · obtain ⟨t, ht⟩ := ih (xs ++ [y])
      exact ⟨[y] ++ t, by rw [ht, List.append_assoc]⟩
theorem rp_all {xs ys : List V} (h : ∀ y ∈ ys, y ∈ xs) : rp xs ys = xs := by
  induction ys generalizing xs with
  | nil => rfl
  | cons y ys ih =>
    rw [rp_cons, if_pos (hasV_true.2 (h y (by simp)))]
    exact ih fun z hz => h z (by simp [hz])
theorem rp_again (xs ys : List V) : rp (rp xs ys) ys = rp xs ys := rp_all fun y hy => rp_mem.2 (.inr hy)
theorem rp_split (xs ys : List V) (k : Nat) : rp (rp xs (ys.take k)) (ys.drop k) = rp xs ys := by rw [← rp_app, List.take_append_drop]
theorem rp_head (xs ys : List V) (i : Nat) (h : i < xs.length) : (rp xs ys)[i]? = xs[i]? := by
  obtain ⟨t, ht⟩ := rp_pre xs ys
  rw [ht, List.getElem?_append_left h]
theorem rp_ge (xs ys : List V) : xs.length ≤ (rp xs ys).length := by
  obtain ⟨t, ht⟩ := rp_pre xs ys
  rw [ht]; simp
/-- The next finger is there already. -/
theorem rp_hit {xs ys : List V} {j : Nat} (hj : j < ys.length) (h : hasV xs ys[j] = true ∨ hasV (ys.take j) ys[j] = true) : rp xs (ys.take (j + 1)) = rp xs (ys.take j) := by
  rw [take_snocV ys j hj, rp_snoc, if_pos]
  rw [hasV_true, rp_mem]
  rcases h with h | h
  · exact .inl (hasV_true.1 h)
  · exact .inr (hasV_true.1 h)
/-- The next finger is new. -/
theorem rp_miss {xs ys : List V} {j : Nat} (hj : j < ys.length) (h1 : hasV xs ys[j] = false) (h2 : hasV (ys.take j) ys[j] = false) : rp xs (ys.take (j + 1)) = rp xs (ys.take j) ++ [ys[j]] := by
  rw [take_snocV ys j hj, rp_snoc, if_neg]
  rw [hasV_true, rp_mem]
  rintro (h | h)
  · rw [hasV_true.2 h] at h1; cases h1
  · rw [hasV_true.2 h] at h2; cases h2
theorem rp_at {xs ys : List V} {j : Nat} (hj : j < ys.length) (h1 : hasV xs ys[j] = false) (h2 : hasV (ys.take j) ys[j] = false) : (rp xs ys)[(rp xs (ys.take j)).length]? = some ys[j] := by
  have e := rp_split xs ys (j + 1)
  rw [← e, rp_head _ _ _ (by rw [rp_miss hj h1 h2]; simp), rp_miss hj h1 h2]
  simp
/-- No repeat among the fingers: the new ones, in order. -/
theorem rp_filter {xs ys : List V} (h : ys.Nodup) : rp xs ys = xs ++ ys.filter (fun y => !hasV xs y) := by
  induction ys generalizing xs with
  | nil => simp [rp]
  | cons y ys ih =>
    have hn := List.nodup_cons.1 h
    rw [rp_cons]
    cases hq : hasV xs y with
    | true => rw [if_pos rfl, ih hn.2]; simp [hq]
    | false =>
      rw [if_neg (by simp), ih hn.2]
      simp only [List.filter_cons, hq, Bool.not_false, if_true, List.append_assoc, List.singleton_append, List.append_cancel_left_eq, List.cons.injEq, true_and]
      refine List.filter_congr fun z hz => ?_
      congr 1
      rw [Bool.eq_iff_iff, hasV_true, hasV_true, List.mem_append]
      constructor
      · rintro (h | h)
        · exact h
        · rw [List.mem_singleton] at h
          subst h; exact absurd hz hn.1
      · exact .inl
theorem rp_nodup {xs ys : List V} (h : xs.Nodup) : (rp xs ys).Nodup := by
  induction ys generalizing xs with
  | nil => exact h
  | cons y ys ih =>
    rw [rp_cons]
    cases hq : hasV xs y with
    | true => rw [if_pos rfl]; exact ih h
    | false =>
      rw [if_neg (by simp)]
      refine ih ?_
      rw [List.nodup_append]
      refine ⟨h, by simp, ?_⟩
      rintro a ha b hb rfl
      rw [List.mem_singleton] at hb
      subst hb
      rw [hasV_true.2 ha] at hq
      cases hq
/-- Two lists without repeats and with the same members are as long as each other. -/
theorem len_le {xs ys : List V} (h : xs.Nodup) (hs : ∀ x ∈ xs, x ∈ ys) : xs.length ≤ ys.length := by
  induction xs generalizing ys with
  | nil => simp
  | cons x xs ih =>
    have hn := List.nodup_cons.1 h
    have hx : x ∈ ys := hs x (by simp)
    have := ih (ys := ys.erase x) hn.2 fun z hz => (List.mem_erase_of_ne (fun (e : z = x) => hn.1 (e ▸ hz))).2 (hs z (by simp [hz]))
    rw [List.length_erase_of_mem hx] at this
    have hpos := List.length_pos_of_mem hx
    simp only [List.length_cons]
    omega
theorem rp_swap_len {xs ys : List V} (hx : xs.Nodup) (hy : ys.Nodup) : (rp xs ys).length = (rp ys xs).length :=
  Nat.le_antisymm (len_le (rp_nodup hx) fun z hz => rp_mem.2 (rp_mem.1 hz).symm) (len_le (rp_nodup hy) fun z hz => rp_mem.2 (rp_mem.1 hz).symm)
theorem rp_swap_same {xs ys : List V} (hx : xs.Nodup) (hy : ys.Nodup) : sameV (rp xs ys) (rp ys xs) = true := by
  unfold sameV
  rw [Bool.and_eq_true]
  exact ⟨by rw [decide_eq_true_eq]; exact rp_swap_len hx hy, List.all_eq_true.2 fun v hv => hasV_true.2 (rp_mem.2 (rp_mem.1 hv).symm)⟩
/-- The fingers among the first j that are no neighbours. -/
def newc (xs ys : List V) (j : Nat) : Nat := ((ys.take j).filter (fun y => !hasV xs y)).length
theorem newc_le (xs ys : List V) (j : Nat) : newc xs ys j ≤ j := Nat.le_trans (List.length_filter_le _ _) (List.length_take_le _ _)
theorem newc_hit {xs ys : List V} {j : Nat} (hj : j < ys.length) (h : hasV xs ys[j] = true) : newc xs ys (j + 1) = newc xs ys j := by
  unfold newc; rw [take_snocV ys j hj, List.filter_append, List.length_append]; simp [List.filter_cons, h]
theorem newc_miss {xs ys : List V} {j : Nat} (hj : j < ys.length) (h : hasV xs ys[j] = false) : newc xs ys (j + 1) = newc xs ys j + 1 := by
  unfold newc; rw [take_snocV ys j hj, List.filter_append, List.length_append]; simp [List.filter_cons, h]
theorem newc_all {xs ys : List V} (h : ys.Nodup) : (rp xs ys).length = xs.length + newc xs ys ys.length := by
  rw [rp_filter h]; unfold newc; rw [List.take_length]; simp

end Go.Proofs.Qxb6619637a
