/-
  Seat b6619637a: the plain mathematics of zzLess, zzCountDistinct. No Go in sight. Our own text.
-/
import Derived.Test.Qxb6619637aSet
namespace Go.Proofs.Qxb6619637a
set_option linter.unusedSimpArgs false
set_option linter.unusedVariables false

/-- Less, element by element. -/
def lexB : List Int → List Int → Bool
  | x :: xs, y :: ys => if x = y then lexB xs ys else decide (x < y)
  | _, _ => false
theorem lexB_first : ∀ (xs ys : List Int) (i : Nat) (hx : i < xs.length) (hy : i < ys.length), (∀ j (h1 : j < xs.length) (h2 : j < ys.length), j < i → xs[j] = ys[j]) → xs[i] ≠ ys[i] → lexB xs ys = decide (xs[i] < ys[i])
  | [], _, i, hx, _, _, _ => by simp at hx
  | _ :: _, [], i, _, hy, _, _ => by simp at hy
  | x :: xs, y :: ys, 0, _, _, _, hne => by simp [lexB] at hne ⊢; simp [hne]
  | x :: xs, y :: ys, i + 1, hx, hy, hall, hne => by
    have h0 : x = y := hall 0 (by simp) (by simp) (by omega)
    have := lexB_first xs ys i (by simpa using hx) (by simpa using hy) (fun j h1 h2 hj => hall (j + 1) (by simp; omega) (by simp; omega) (by omega)) (by simpa using hne)
    simpa [lexB, h0] using this
theorem lexB_same : ∀ (xs : List Int), lexB xs xs = false
  | [] => rfl
  | x :: xs => by simp [lexB, lexB_same xs]
theorem lexB_asymm : ∀ (xs ys : List Int), lexB xs ys = true → lexB ys xs = false
  | [], ys, h => by simp [lexB] at h
  | _ :: _, [], h => by simp [lexB] at h
  | x :: xs, y :: ys, h => by
    by_cases e : x = y
    · subst e; simp [lexB] at h ⊢; exact lexB_asymm xs ys h
    · have e' : ¬ y = x := fun h => e h.symm
      simp [lexB, e, e'] at h ⊢; omega
theorem lexB_anti : ∀ (xs ys : List Int), xs.length = ys.length → lexB xs ys = false → lexB ys xs = false → xs = ys
  | [], [], _, _, _ => rfl
  | [], _ :: _, h, _, _ => by simp at h
  | _ :: _, [], h, _, _ => by simp at h
  | x :: xs, y :: ys, h, h1, h2 => by
    by_cases e : x = y
    · subst e
      simp only [lexB, if_true] at h1 h2
      rw [lexB_anti xs ys (by simpa using h) h1 h2]
    · have e' : ¬ y = x := fun h => e h.symm
      simp [lexB, e, e'] at h1 h2; omega
theorem lexB_trans : ∀ (xs ys zs : List Int), xs.length = ys.length → ys.length = zs.length → lexB ys xs = false → lexB zs ys = false → lexB zs xs = false
  | [], ys, zs, h1, h2, _, _ => by
    have : ys = [] := List.eq_nil_of_length_eq_zero (by simpa using h1.symm)
    subst this
    have : zs = [] := List.eq_nil_of_length_eq_zero (by simpa using h2.symm)
    subst this; rfl
  | x :: xs, [], _, h, _, _, _ => by simp at h
  | x :: xs, y :: ys, [], _, h, _, _ => by simp at h
  | x :: xs, y :: ys, z :: zs, l1, l2, h1, h2 => by
    by_cases e1 : y = x
    · subst e1
      by_cases e2 : z = y
      · subst e2
        simp only [lexB, if_true] at h1 h2 ⊢
        exact lexB_trans xs ys zs (by simpa using l1) (by simpa using l2) h1 h2
      · simpa [lexB, e2] using h2
    · simp [lexB, e1] at h1
      by_cases e2 : z = y
      · subst e2; simp [lexB, e1]; exact h1
      · simp [lexB, e2] at h2
        have e3 : ¬ z = x := by omega
        simp [lexB, e3]; omega

/-- zzLess, plainly. -/
def lessV (x y : V) : Bool := lexB x.toList y.toList
theorem lessV_first {x y : V} {i : Nat} (hi : i < 16) (h : ∀ j (hj : j < 16), j < i → x[j] = y[j]) (hne : x[i] ≠ y[i]) : decide (x[i] < y[i]) = lessV x y := by
  have := lexB_first x.toList y.toList i (by simpa using hi) (by simpa using hi) (fun j h1 h2 hj => by simpa using h j (by simpa using h1) hj) (by simpa using hne)
  unfold lessV; rw [this]; simp
theorem lessV_same {x y : V} (h : ∀ j (hj : j < 16), x[j] = y[j]) : false = lessV x y := by
  have : x = y := Vector.ext h
  subst this; exact (lexB_same _).symm

/-- Not greater. -/
def leV (x y : V) : Prop := lessV y x = false
theorem leV_refl (x : V) : leV x x := lexB_same _
theorem leV_of_less {x y : V} (h : lessV x y = true) : leV x y := lexB_asymm _ _ h
theorem leV_trans {x y z : V} (h1 : leV x y) (h2 : leV y z) : leV x z := lexB_trans x.toList y.toList z.toList (by simp) (by simp) h1 h2
theorem leV_anti {x y : V} (h1 : leV x y) (h2 : leV y x) : x = y := by
  have := lexB_anti x.toList y.toList (by simp) h2 h1
  exact Vector.toList_inj.1 this

/-- How many distinct IDs? -/
def nd : List V → Nat
  | [] => 0
  | x :: xs => if x ∈ xs then nd xs else nd xs + 1
theorem nd_perm {xs ys : List V} (h : xs.Perm ys) : nd xs = nd ys := by
  induction h with
  | nil => rfl
  | cons x h ih => simp only [nd, h.mem_iff, ih]
  | swap x y l =>
    by_cases e : x = y
    · subst e; rfl
    · have e' : ¬ y = x := fun h => e h.symm
      by_cases h1 : x ∈ l <;> by_cases h2 : y ∈ l <;> simp [nd, h1, h2, e, e']
  | trans _ _ h1 h2 => exact h1.trans h2
theorem nd_app (xs ys : List V) : nd ys ≤ nd (xs ++ ys) ∧ (nd (xs ++ ys) = nd ys ↔ ∀ x ∈ xs, x ∈ ys) := by
  induction xs with
  | nil => simp
  | cons x xs ih =>
    rw [List.cons_append]
    by_cases h : x ∈ xs ++ ys
    · have e : nd (x :: (xs ++ ys)) = nd (xs ++ ys) := by simp only [nd, h, if_true]
      rw [e]
      refine ⟨ih.1, ih.2.trans ⟨fun ha y hy => ?_, fun ha y hy => ha y (by simp [hy])⟩⟩
      rcases List.mem_cons.1 hy with rfl | hy
      · rcases List.mem_append.1 h with h | h
        · exact ha _ h
        · exact h
      · exact ha y hy
    · have e : nd (x :: (xs ++ ys)) = nd (xs ++ ys) + 1 := by simp only [nd, h, if_false]
      rw [e]
      refine ⟨by omega, ⟨fun h' => by omega, fun ha => absurd (List.mem_append.2 (.inr (ha x (by simp)))) h⟩⟩

/-- Element j, or the zero ID. -/
def el (s : List V) (j : Nat) : V := s.getD j Z
theorem el_get {s : List V} {j : Nat} (h : j < s.length) : el s j = s[j] := by simp [el, h]
/-- The first k are in order. -/
def Srt (s : List V) (k : Nat) : Prop := ∀ p q, p < q → q < k → leV (el s p) (el s q)
/-- The first k + 1 are in order but for the one at j, which may be too small. -/
def Hole (s : List V) (k j : Nat) : Prop := ∀ p q, p < q → q ≤ k → q ≠ j → leV (el s p) (el s q)
theorem el_set {s : List V} {i j : Nat} {v : V} (hi : i < s.length) : el (s.set i v) j = if j = i then v else el s j := by
  by_cases e : j = i
  · subst e; simp [el, hi]
  · have e' : ¬ i = j := fun h => e h.symm
    simp [el, List.getD, List.getElem?_set, e', e]
theorem hole_start {s : List V} {k : Nat} (h : Srt s k) : Hole s k k := fun p q h1 h2 h3 => h p q h1 (by omega)
theorem hole_end0 {s : List V} {k : Nat} (h : Hole s k 0) : Srt s (k + 1) := fun p q h1 h2 => h p q h1 (by omega) (by omega)
theorem hole_end {s : List V} {k j : Nat} (hj : 0 < j) (hjk : j ≤ k) (h : Hole s k j) (hle : lessV (el s j) (el s (j - 1)) = false) : Srt s (k + 1) := by
  intro p q h1 h2
  by_cases e : q = j
  · subst e
    by_cases e2 : p = q - 1
    · subst e2; exact hle
    · exact leV_trans (h p (q - 1) (by omega) (by omega) (by omega)) hle
  · exact h p q h1 (by omega) e
/-- s with the elements at j - 1, j exchanged. -/
def swp (s : List V) (j : Nat) : List V := (s.set (j - 1) (el s j)).set j (el s (j - 1))
theorem el_swp {s : List V} {j : Nat} (hj : 0 < j) (hl : j < s.length) (i : Nat) : el (swp s j) i = if i = j then el s (j - 1) else if i = j - 1 then el s j else el s i := by
  unfold swp
  rw [el_set (by simpa using hl), el_set (by omega)]
theorem hole_step {s : List V} {k j : Nat} (hj : 0 < j) (hl : j < s.length) (hjk : j ≤ k) (h : Hole s k j) (hle : lessV (el s j) (el s (j - 1)) = true) : Hole (swp s j) k (j - 1) := by
  intro p q h1 h2 h3
  rw [el_swp hj hl, el_swp hj hl]
  by_cases eq : q = j
  · subst eq
    rw [if_pos rfl, if_neg (by omega)]
    by_cases ep : p = q - 1
    · subst ep; rw [if_pos rfl]; exact leV_of_less hle
    · rw [if_neg ep]; exact h p (q - 1) (by omega) (by omega) (by omega)
  · rw [if_neg eq, if_neg h3]
    by_cases ep : p = j
    · subst ep; rw [if_pos rfl]; exact h (p - 1) q (by omega) h2 eq
    · rw [if_neg ep]
      by_cases ep2 : p = j - 1
      · subst ep2; rw [if_pos rfl]; exact h j q (by omega) h2 eq
      · rw [if_neg ep2]; exact h p q h1 h2 eq
theorem swp_perm {s : List V} {j : Nat} (hj : 0 < j) (hl : j < s.length) : (swp s j).Perm s := by
  have e : swp s j = (s.toArray.swap (j - 1) j (by simp; omega) (by simpa using hl)).toList := by
    unfold swp
    rw [el_get hl, el_get (by omega)]
    simp [Array.swap]
  rw [e]
  have := Array.swap_perm (xs := s.toArray) (i := j - 1) (j := j) (by simp; omega) (by simpa using hl)
  exact Array.perm_iff_toList_perm.1 this
theorem swp_len (s : List V) (j : Nat) : (swp s j).length = s.length := by simp [swp]

/-- The count of the places where the run changes, up to k. -/
def cnt (s : List V) : Nat → Nat
  | 0 => 0
  | k + 1 => if k = 0 ∨ eqV (el s k) (el s (k - 1)) = false then cnt s k + 1 else cnt s k
theorem cnt_le (s : List V) : ∀ k, cnt s k ≤ k
  | 0 => Nat.le_refl _
  | k + 1 => by have := cnt_le s k; unfold cnt; split <;> omega
theorem cnt_nd {s : List V} (h : Srt s s.length) : ∀ k, k ≤ s.length → cnt s k = nd (s.take k).reverse
  | 0, _ => rfl
  | k + 1, hk => by
    have ih := cnt_nd h k (by omega)
    rw [List.take_succ_eq_append_getElem (by omega), List.reverse_append, List.reverse_singleton, List.singleton_append]
    simp only [nd, cnt, ih, List.mem_reverse]
    have e : (s[k]'(by omega) ∈ s.take k) ↔ ¬ (k = 0 ∨ eqV (el s k) (el s (k - 1)) = false) := by
      constructor
      · intro hm hor
        obtain ⟨j, hj, e⟩ := List.mem_iff_getElem.1 hm
        have hjk : j < k := by simp at hj; omega
        rw [List.getElem_take] at e
        rcases hor with h0 | h1
        · omega
        · have hs : el s k = el s j := by rw [el_get (by omega), el_get (by omega)]; exact e.symm
          have : el s k = el s (k - 1) := by
            by_cases ej : j = k - 1
            · subst ej; exact hs
            · refine leV_anti ?_ (h (k - 1) k (by omega) (by omega))
              rw [hs]; exact h j (k - 1) (by omega) (by omega)
          rw [eqV_true.2 this] at h1; cases h1
      · intro hn
        have hk0 : k ≠ 0 := fun h0 => hn (.inl h0)
        have he : eqV (el s k) (el s (k - 1)) = true := by
          cases hv : eqV (el s k) (el s (k - 1)) with
          | true => rfl
          | false => exact absurd (.inr hv) hn
        rw [eqV_true, el_get (by omega), el_get (by omega)] at he
        rw [he]
        exact List.mem_iff_getElem.2 ⟨k - 1, by simp; omega, by simp⟩
    by_cases hc : k = 0 ∨ eqV (el s k) (el s (k - 1)) = false
    · rw [if_pos hc, if_neg (fun hm => e.1 hm hc)]
    · rw [if_neg hc, if_pos (e.2 hc)]
theorem cnt_all {s xs : List V} (h : Srt s s.length) (hp : s.Perm xs) : cnt s s.length = nd xs := by
  rw [cnt_nd h _ (Nat.le_refl _), List.take_length, nd_perm (List.reverse_perm s), nd_perm hp]

/-- What the law wants of sameSet. -/
theorem want_same (xs ys : List V) : (decide (xs.length = ys.length) && decide (nd (ys ++ xs) = nd ys)) = sameV xs ys := by
  unfold sameV
  congr 1
  rw [Bool.eq_iff_iff, decide_eq_true_eq, List.all_eq_true, nd_perm List.perm_append_comm, (nd_app xs ys).2]
  exact ⟨fun h x hx => hasV_true.2 (h x hx), fun h x hx => hasV_true.1 (h x hx)⟩
theorem same_rev (xs ys : List V) : sameV xs.reverse ys.reverse = sameV xs ys := by
  unfold sameV
  rw [List.length_reverse, List.length_reverse, List.all_reverse]
  congr 2
  funext x
  rw [Bool.eq_iff_iff, hasV_true, hasV_true, List.mem_reverse]

end Go.Proofs.Qxb6619637a
