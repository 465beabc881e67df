/-
  Seat b6619637a: FnSameSetIsEqualLengthAndSubsetOrderFree (function 3): the walk. Our own text.
-/
import Derived.Test.Qxb6619637aMake
import Derived.Test.Qxb6619637aCat
import Derived.Test.Qxb6619637aSet
import Derived.Test.Qxb6619637aByt
import Derived.Test.Qxb6619637aCnt
import Derived.Deep.RegionWith
namespace Go.Proofs.Qxb6619637a
open Go.RowKit
set_option linter.unusedSimpArgs false
set_option linter.unusedVariables false

/-- The two rows, still there; nothing old has turned. -/
def Two (w wj : World) (a b : Option Addr) (n m : Nat) (xs ys : List V) : Prop := Rd wj a n xs ∧ Rd wj b m ys ∧ Below w.heap.size w wj
section
variable {w wj wk : World} {a b : Option Addr} {n m : Nat} {xs ys : List V}
theorem Two.one (h : Two w wj a b n m xs ys) : Rd wj a n xs := h.1
theorem Two.two (h : Two w wj a b n m xs ys) : Rd wj b m ys := h.2.1
theorem Two.end_ (h : Two w wj a b n m xs ys) : Below w.heap.size w wj := h.2.2
theorem Two.step (h : Two w wj a b n m xs ys) (hb : Below wj.heap.size wj wk) : Two w wk a b n m xs ys := ⟨h.1.kept hb, h.2.1.kept hb, bstep h.2.2 hb⟩
end

set_option maxHeartbeats 1600000 in
theorem fn3_eq (a b : Option Addr) (n c c2 : Nat) (xs ys : List V) (w : World) (hr : Rd w a n xs) (hr2 : Rd w b n ys) (hn : n ≤ 1024) :
    Calls Try.prog 3 #[.slice a n c, .slice b n c2] w fun e w' => e = .returned (.bool true) ∧ Below w.heap.size w w' := by
  have hW : ((nd (ys ++ xs) : Int) == (nd ys : Int)) = sameV xs ys := by
    rw [← want_same, hr.1, hr2.1, Bool.eq_iff_iff]
    simp
    omega
  have hV := same_rev xs ys
  go_enter Try.func3, Try.ntmps3
  go_wp2_with (first
    | (go_at_call 8; refine (bytes3_any _ _ _ _ _ _ _).mono ?_; rintro e w1 ⟨⟨bb, rfl⟩, hb1⟩)
    | (go_at_call_of 9 (Value.slice a n c); refine (clone_any a n c xs w1 (hr.kept hb1) (by omega)).mono ?_; rintro e w2 ⟨a1, rfl, ho1, hb2⟩)
    | (go_at_call_of 9 (Value.slice b n c2); refine (clone_any b n c2 ys w2 ((hr2.kept hb1).kept hb2) (by omega)).mono ?_; rintro e w3 ⟨a2, rfl, ho2, hb3⟩; have hT : Two w w3 a1 a2 n n xs ys := ⟨ho1.rd.kept hb3, ho2.rd, bstep (bstep hb1 hb2) hb3⟩; generalize hs : sameV xs ys = s at hW hV; clear hr hr2 hb1 hb2 hb3 ho1 ho2)
    | (go_at_call_of 11 a1; refine (ids_any a1 n n xs _ (Two.one (by assumption)) (by omega)).mono ?_; rintro e wn ⟨bi, rfl, ho, hbn⟩; have hI := ho.rd; have hT := Two.step (by assumption) hbn; clear ho)
    | (go_at_call_of 11 a2; refine (ids_any a2 n n ys _ (Two.two (by assumption)) (by omega)).mono ?_; rintro e wn ⟨bi, rfl, ho, hbn⟩; have hI := ho.rd; have hT := Two.step (by assumption) hbn; clear ho)
    | (go_at_call_of 10 (n : Nat); refine (zsame_any _ _ _ _ _ _ _ _ _ (by exact Rd.kept (by assumption) (by assumption)) (by assumption) (by omega) (by omega)).mono ?_; rintro e wn ⟨rfl, hbn⟩; have hT := Two.step (by assumption) hbn; first | rw [hs] | rw [hV])
    | (go_at_call 13; refine (concat_any a2 a1 n n n n ys xs _ (Two.two (by assumption)) (Two.one (by assumption)) (by omega) (by omega)).mono ?_; rintro e wn ⟨a4, rfl, ho4, hbn⟩; have hJ := ho4.rd; have hT := Two.step (by assumption) hbn; clear ho4)
    | (go_at_call_of 12 a4; refine (count_any a4 (n + n) (n + n) (ys ++ xs) _ hJ (by omega)).mono ?_; rintro e wn ⟨rfl, hbn⟩; have hT := Two.step (by assumption) hbn)
    | (go_at_call_of 12 a2; refine (count_any a2 n n ys _ (Two.two (by assumption)) (by omega)).mono ?_; rintro e wn ⟨rfl, hbn⟩; have hT := Two.step (by assumption) hbn)
    | (go_at_call_of 14 a1; refine (reverse_any a1 n n xs _ (Two.one (by assumption)) (by omega)).mono ?_; rintro e wn ⟨a5, rfl, ho5, hbn⟩; have hR1 := ho5.rd; have hT := Two.step (by assumption) hbn; clear ho5)
    | (go_at_call_of 14 a2; refine (reverse_any a2 n n ys _ (Two.two (by assumption)) (by omega)).mono ?_; rintro e wn ⟨a6, rfl, ho6, hbn⟩; have hR2 := ho6.rd; have hT := Two.step (by assumption) hbn; have hI := Rd.kept hI hbn; clear ho6)
    | (go_at_call_of 11 a5; refine (ids_any a5 n n xs.reverse _ hR1 (by omega)).mono ?_; rintro e wn ⟨bi, rfl, ho, hbn⟩; have hI := ho.rd; have hT := Two.step (by assumption) hbn; clear ho)
    | (go_at_call_of 11 a6; refine (ids_any a6 n n ys.reverse _ hR2 (by omega)).mono ?_; rintro e wn ⟨bi, rfl, ho, hbn⟩; have hI := ho.rd; have hT := Two.step (by assumption) hbn; clear ho))
  · go_ret
    exact ⟨rfl, hb1⟩
  · go_ret
    exact ⟨rfl, Two.end_ (by assumption)⟩

set_option maxHeartbeats 1600000 in
theorem fn3_ne (a b : Option Addr) (n c m c2 : Nat) (xs ys : List V) (w : World) (hr : Rd w a n xs) (hr2 : Rd w b m ys) (hn : n ≤ 1024) (hm : m ≤ 1024) (hnm : ¬ n = m) :
    Calls Try.prog 3 #[.slice a n c, .slice b m c2] w fun e w' => e = .returned (.bool true) ∧ Below w.heap.size w w' := by
  have hW : ((n : Int) == (m : Int)) = sameV xs ys := by
    rw [← want_same, hr.1, hr2.1]
    simp only [hnm, decide_false, Bool.false_and]
    simp
    omega
  have hV := same_rev xs ys
  have hf : sameV xs ys = false := by rw [← hW]; simp; omega
  have hW : ((n : Int) == (m : Int)) = false := by simp; omega
  rw [hf] at hV
  go_enter Try.func3, Try.ntmps3
  go_wp2_with (first
    | (go_at_call 8; refine (bytes3_any _ _ _ _ _ _ _).mono ?_; rintro e w1 ⟨⟨bb, rfl⟩, hb1⟩)
    | (go_at_call_of 9 (Value.slice a n c); refine (clone_any a n c xs w1 (hr.kept hb1) (by omega)).mono ?_; rintro e w2 ⟨a1, rfl, ho1, hb2⟩)
    | (go_at_call_of 9 (Value.slice b m c2); refine (clone_any b m c2 ys w2 ((hr2.kept hb1).kept hb2) (by omega)).mono ?_; rintro e w3 ⟨a2, rfl, ho2, hb3⟩; have hT : Two w w3 a1 a2 n m xs ys := ⟨ho1.rd.kept hb3, ho2.rd, bstep (bstep hb1 hb2) hb3⟩; clear hr hr2 hb1 hb2 hb3 ho1 ho2)
    | (go_at_call_of 11 a1; refine (ids_any a1 n n xs _ (Two.one (by assumption)) (by omega)).mono ?_; rintro e wn ⟨bi, rfl, ho, hbn⟩; have hI := ho.rd; have hT := Two.step (by assumption) hbn; clear ho)
    | (go_at_call_of 11 a2; refine (ids_any a2 m m ys _ (Two.two (by assumption)) (by omega)).mono ?_; rintro e wn ⟨bi, rfl, ho, hbn⟩; have hI := ho.rd; have hT := Two.step (by assumption) hbn; clear ho)
    | (go_at_call 10; refine (zsame_any _ _ _ _ _ _ _ _ _ (by exact Rd.kept (by assumption) (by assumption)) (by assumption) (by omega) (by omega)).mono ?_; rintro e wn ⟨rfl, hbn⟩; have hT := Two.step (by assumption) hbn; first | rw [hf] | rw [hV])
    | (go_at_call_of 14 a1; refine (reverse_any a1 n n xs _ (Two.one (by assumption)) (by omega)).mono ?_; rintro e wn ⟨a5, rfl, ho5, hbn⟩; have hR1 := ho5.rd; have hT := Two.step (by assumption) hbn; clear ho5)
    | (go_at_call_of 14 a2; refine (reverse_any a2 m m ys _ (Two.two (by assumption)) (by omega)).mono ?_; rintro e wn ⟨a6, rfl, ho6, hbn⟩; have hR2 := ho6.rd; have hT := Two.step (by assumption) hbn; have hI := Rd.kept hI hbn; clear ho6)
    | (go_at_call_of 11 a5; refine (ids_any a5 n n xs.reverse _ hR1 (by omega)).mono ?_; rintro e wn ⟨bi, rfl, ho, hbn⟩; have hI := ho.rd; have hT := Two.step (by assumption) hbn; clear ho)
    | (go_at_call_of 11 a6; refine (ids_any a6 m m ys.reverse _ hR2 (by omega)).mono ?_; rintro e wn ⟨bi, rfl, ho, hbn⟩; have hI := ho.rd; have hT := Two.step (by assumption) hbn; clear ho))
  · go_ret
    exact ⟨rfl, hb1⟩
  · go_ret
    exact ⟨rfl, Two.end_ (by assumption)⟩

set_option maxHeartbeats 1600000 in
theorem fn3_edge (a b : Option Addr) (n c m c2 : Nat) (w : World) (h : 1024 < n ∨ (n ≤ 1024 ∧ 1024 < m)) :
    Calls Try.prog 3 #[.slice a n c, .slice b m c2] w fun e w' => e = .returned (.bool true) ∧ Below w.heap.size w w' := by
  rcases h with h | ⟨h, h'⟩
  all_goals
    go_enter Try.func3, Try.ntmps3
    go_wp2_with (go_at_call 8; refine (bytes3_any _ _ _ _ _ _ _).mono ?_; rintro e w1 ⟨⟨bb, rfl⟩, hb1⟩)
    all_goals
      go_ret
      exact ⟨rfl, hb1⟩

theorem fn3_any (a : Option Addr) (n c : Nat) (b : Option Addr) (m c2 : Nat) (xs ys : List V) (w : World) (hr : Rd w a n xs) (hr2 : Rd w b m ys) :
    Calls Try.prog 3 #[.slice a n c, .slice b m c2] w fun e w' => e = .returned (.bool true) ∧ Below w.heap.size w w' := by
  by_cases h : 1024 < n ∨ (n ≤ 1024 ∧ 1024 < m)
  · exact fn3_edge a b n c m c2 w h
  · by_cases e : n = m
    · subst e; exact fn3_eq a b n c c2 xs ys w hr hr2 (by omega)
    · exact fn3_ne a b n c m c2 xs ys w hr hr2 (by omega) (by omega) e

end Go.Proofs.Qxb6619637a
