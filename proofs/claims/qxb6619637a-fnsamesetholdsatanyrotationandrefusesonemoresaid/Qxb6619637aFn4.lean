/-
  Seat b6619637a: FnSameSetHoldsAtAnyRotationAndRefusesOneMore (function 4): the walk. Our own text.
-/
import Derived.Test.Qxb6619637aMake
import Derived.Test.Qxb6619637aCat
import Derived.Test.Qxb6619637aSet
import Derived.Test.Qxb6619637aByt
import Derived.Test.Qxb6619637aCut
import Derived.Deep.RegionWith
namespace Go.Proofs.Qxb6619637a
open Go.RowKit
set_option linter.unusedSimpArgs false
set_option linter.unusedVariables false

theorem same_rot1 (xs : List V) (k : Nat) : sameV xs (xs.drop k ++ xs.take k) = true := by
  unfold sameV
  rw [Bool.and_eq_true]
  refine ⟨by simp; omega, List.all_eq_true.2 fun v hv => hasV_true.2 ?_⟩
  rw [← List.take_append_drop k xs, List.mem_append] at hv
  rw [List.mem_append]; exact hv.symm
theorem same_rot2 (xs : List V) (k : Nat) : sameV (xs.drop k ++ xs.take k) xs = true := by
  unfold sameV
  rw [Bool.and_eq_true]
  refine ⟨by simp; omega, List.all_eq_true.2 fun v hv => hasV_true.2 ?_⟩
  rw [List.mem_append] at hv
  rcases hv with h | h
  · exact List.mem_of_mem_drop h
  · exact List.mem_of_mem_take h
theorem same_len {xs ys : List V} (h : xs.length ≠ ys.length) : sameV xs ys = false := by
  unfold sameV; rw [Bool.and_eq_false_iff]; left; simpa using h

/-- The three rows, still there; nothing old has turned. -/
def Tri (w wj : World) (a a4 a7 : Option Addr) (n : Nat) (xs rot grn : List V) : Prop := Rd wj a n xs ∧ Rd wj a4 n rot ∧ Rd wj a7 (n + 1) grn ∧ Below w.heap.size w wj
section
variable {w wj wk : World} {a a4 a7 : Option Addr} {n : Nat} {xs rot grn : List V}
theorem Tri.one (h : Tri w wj a a4 a7 n xs rot grn) : Rd wj a n xs := h.1
theorem Tri.two (h : Tri w wj a a4 a7 n xs rot grn) : Rd wj a4 n rot := h.2.1
theorem Tri.three (h : Tri w wj a a4 a7 n xs rot grn) : Rd wj a7 (n + 1) grn := h.2.2.1
theorem Tri.four (h : Tri w wj a a4 a7 n xs rot grn) : Below w.heap.size w wj := h.2.2.2
theorem Tri.step (h : Tri w wj a a4 a7 n xs rot grn) (hb : Below wj.heap.size wj wk) : Tri w wk a a4 a7 n xs rot grn := ⟨h.1.kept hb, h.2.1.kept hb, h.2.2.1.kept hb, bstep h.2.2.2 hb⟩
end

set_option maxHeartbeats 1600000 in
theorem fn4_main (a : Option Addr) (n c k : Nat) (x : V) (xs : List V) (w : World) (hr : Rd w a n xs) (hn : n ≤ 1024) (hk : k ≤ n) :
    Calls Try.prog 4 #[.slice a n c, .int .i64 k, G x] w fun e w' => e = .returned (.bool true) ∧ Below w.heap.size w w' := by
  go_enter Try.func4, Try.ntmps4
  go_wp2_with (first
    | (refine wpList_bx rfl 30 _ rfl x rfl ?_; intro w1 hbox hgr; have hb1 : Below w.heap.size w w1 := (Below.refl _ _).grown hgr (Nat.le_refl _) (by simp); have hbx : w1.rangeAt w.heap.size 0 (E x) := by { have hbx := hbox.at 0 (by simp); simpa using hbx }; clear hgr)
    | (refine wpList_ld rfl 30 _ rfl _ _ x (.inl rfl) hbx rfl ?_)
    | (go_at_call 15; refine (bytes4_any _ _ _ _ _ _).mono ?_; rintro e w2 ⟨⟨bb, rfl⟩, hb2⟩)
    | (go_at_call 9; refine (clone_any a n c xs w2 (hr.kept (bstep hb1 hb2)) (by omega)).mono ?_; rintro e w3 ⟨a', rfl, hown, hb3⟩))
  · go_ret
    exact ⟨rfl, bstep hb1 hb2⟩
  have hs1 := run_from a' n k hk
  have hs2 := run_upto a' n k hk
  have hrd := hown.rd
  have hb13 := bstep (bstep hb1 hb2) hb3
  go_region_with (go_at_call 13; refine (concat_any _ _ _ _ _ _ _ _ _ (Rd.drop (Rd.drewN hrd 1) hk) (Rd.take (Rd.drewN hrd 1) hk) (by omega) (by omega)).mono ?_; rintro e w4 ⟨a4, rfl, hown4, hb4⟩)
  have hrot4 := hown4.rd
  rw [Nat.sub_add_cancel hk] at hrot4
  have hT1 := same_rot1 xs k
  have hT2 := same_rot2 xs k
  generalize hrot : xs.drop k ++ xs.take k = rot at hrot4 hT1 hT2
  clear hrot hown4
  have hrd4 := (hrd.drewN 1).kept hb4
  have hb14 := bstep hb13 ((below_drewN' (Below.refl _ _) 1).trans hb4)
  have hbx4 : w4.drew.rangeAt w.heap.size 0 (E x) := by
    have h1 : Row w4 w.heap.size 30 [x] := (((hbox.kept hb2 hbox.lt).kept hb3 (Nat.lt_of_lt_of_le hbox.lt hb2.size)).kept (B := w3.heap.size) ((below_drewN' (Below.refl _ _) 1).trans hb4) (Nat.lt_of_lt_of_le hbox.lt (Nat.le_trans hb2.size hb3.size)))
    have h2 := h1.at 0 (by simp)
    simpa using h2
  simp only [List.getElem_toArray, List.getElem_cons_succ, List.getElem_cons_zero, Act.put, List.setIfInBounds_toArray, List.set_cons_succ, List.set_cons_zero]
  go_wp2_with fail
  refine wp_region_any (by kernel_rfl) ?_
  change wpAny _ _ _ _ _ _ _ (World.drew _)
  refine wpAny_take (i := 0) (v := .slice a' n n) rfl (by kernel_rfl) (by kernel_rfl) (by kernel_rfl) (fun _ _ _ h => h) (Or.inl ⟨by rfl, fun _ => rfl⟩) ?_
  simp only [List.getElem_toArray, List.getElem_cons_succ, List.getElem_cons_zero, Act.put, List.setIfInBounds_toArray, List.set_cons_succ, List.set_cons_zero]
  refine wpAny_take (i := 1) (v := .int .i64 k) rfl (by kernel_rfl) (by kernel_rfl) (by kernel_rfl) (fun _ _ _ h => h) (Or.inl ⟨by rfl, fun _ => rfl⟩) ?_
  simp only [List.getElem_toArray, List.getElem_cons_succ, List.getElem_cons_zero, Act.put, List.setIfInBounds_toArray, List.set_cons_succ, List.set_cons_zero]
  refine wpAny_take (i := 2) (v := .slice a' k n) rfl (by kernel_rfl) (by kernel_rfl) (by kernel_rfl) (fun _ _ _ h => h) (Or.inl ⟨by rfl, exec_slice 22 (.tmp 34) none (some (.tmp 35)) none rfl _ hs2⟩) ?_
  simp only [List.getElem_toArray, List.getElem_cons_succ, List.getElem_cons_zero, Act.put, List.setIfInBounds_toArray, List.set_cons_succ, List.set_cons_zero]
  refine wpAny_take (i := 6) (v := .slice a' n n) rfl (by kernel_rfl) (by kernel_rfl) (by kernel_rfl) (fun _ _ _ h => h) (Or.inl ⟨by rfl, fun _ => rfl⟩) ?_
  simp only [List.getElem_toArray, List.getElem_cons_succ, List.getElem_cons_zero, Act.put, List.setIfInBounds_toArray, List.set_cons_succ, List.set_cons_zero]
  refine wpAny_take (i := 7) (v := .int .i64 k) rfl (by kernel_rfl) (by kernel_rfl) (by kernel_rfl) (fun _ _ _ h => h) (Or.inl ⟨by rfl, fun _ => rfl⟩) ?_
  simp only [List.getElem_toArray, List.getElem_cons_succ, List.getElem_cons_zero, Act.put, List.setIfInBounds_toArray, List.set_cons_succ, List.set_cons_zero]
  refine wpAny_take (i := 8) (v := .slice (lo a' n k) (n - k) (n - k)) rfl (by kernel_rfl) (by kernel_rfl) (by kernel_rfl) (fun _ _ _ h => h) (Or.inl ⟨by rfl, exec_slice 22 (.tmp 40) (some (.tmp 41)) none none rfl _ hs1⟩) ?_
  simp only [List.getElem_toArray, List.getElem_cons_succ, List.getElem_cons_zero, Act.put, List.setIfInBounds_toArray, List.set_cons_succ, List.set_cons_zero]
  refine wpAny_ready (rs := [3]) (by kernel_rfl) (by simp) ?_
  refine AllReady.cons rfl (fun K hK => ?_) AllReady.nil
  refine step_ld rfl 30 _ rfl _ _ x (.inl rfl) hbx4 rfl ?_
  refine hK _ _ ?_
  clear hK K
  simp only [List.getElem_toArray, List.getElem_cons_succ, List.getElem_cons_zero, Act.put, List.setIfInBounds_toArray, List.set_cons_succ, List.set_cons_zero]
  refine wpAny_ready (rs := [4]) (by kernel_rfl) (by simp) ?_
  refine AllReady.cons rfl (fun K hK => ?_) AllReady.nil
  refine step_bs rfl 22 30 (.inl ⟨rfl, rfl⟩) _ rfl x rfl ?_
  intro w5 hlit hgr5
  refine hK _ _ ?_
  clear hK K
  simp only [List.getElem_toArray, List.getElem_cons_succ, List.getElem_cons_zero, Act.put, List.setIfInBounds_toArray, List.set_cons_succ, List.set_cons_zero]
  refine wpAny_ready (rs := [5]) (by kernel_rfl) (by simp) ?_
  refine AllReady.cons rfl (fun K hK => ?_) AllReady.nil
  go_simp
  have hbg5 : Below w4.heap.size w4 w5 := (Below.refl _ _).grown (w := w4) ⟨hgr5.os, hgr5.tape, hgr5.output, hgr5.size, hgr5.block⟩ (Nat.le_refl _) (by simp)
  have hb15 : Below w.heap.size w w5 := bstep hb14 hbg5
  have hrd5 : Rd w5 a' n xs := hrd4.kept hbg5
  have hrot5 : Rd w5 a4 n rot := hrot4.kept hbg5
  have hlr : Rd w5 (some ⟨w4.drew.heap.size, 0, none⟩) 1 [x] := hlit.rd
  go_wp2_with (go_at_call 13; refine (concat_any _ _ _ _ _ _ _ _ _ (Rd.take hrd5 hk) hlr (by omega) (by omega)).mono ?_; rintro e w6 ⟨a6, rfl, hown6, hb6⟩)
  have hrd6 := hrd5.kept hb6
  have hrot6 := hrot5.kept hb6
  have hb16 := bstep hb15 hb6
  have hk1 : n - k + (k + 1) = n + 1 := by omega
  have hk2 : k + 1 + (n - k) = n + 1 := by omega
  refine wpAny_ready (rs := [9]) (by kernel_rfl) (by simp) ?_
  refine AllReady.cons rfl (fun K hK => ?_) AllReady.nil
  go_simp
  go_wp2_with (go_at_call 13; refine (concat_any _ _ _ _ _ _ _ _ _ hown6.rd (Rd.drop hrd6 hk) (by omega) (by omega)).mono ?_; rintro e w7 ⟨a7, rfl, hown7, hb7⟩; rw [hk2] at hown7 ⊢)
  have hrd7 := hrd6.kept hb7
  have hrot7 := hrot6.kept hb7
  have hb17 := bstep hb16 hb7
  have hgrown7 := hown7.rd
  have hF1 := same_len (xs := xs) (ys := xs.take k ++ [x] ++ xs.drop k) (by have := hr.1; simp; omega)
  have hF2 := same_len (xs := xs.take k ++ [x] ++ xs.drop k) (ys := xs) (by have := hr.1; simp; omega)
  generalize hgrn : xs.take k ++ [x] ++ xs.drop k = grn at hgrown7 hF1 hF2
  clear hgrn hown7 hown6 hlit hlr hrd5 hrd6 hrot5 hrot6 hrd4 hrot4 hrd hr hbx4 hbx hbox hs1 hs2 hown hgr5 hb1 hb2 hb3 hb4 hb6 hb7 hb13 hb14 hb15 hb16 hbg5 hk1 hk2
  refine wpAny_ready (rs := [10]) (by kernel_rfl) (by simp) ?_
  refine AllReady.cons rfl (fun K hK => ?_) AllReady.nil
  go_simp
  refine hK _ _ ?_
  clear hK K
  refine wpAny_done (by kernel_rfl) ?_ _
  have hTri : Tri w w7 a' a4 a7 n xs rot grn := ⟨hrd7, hrot7, hgrown7, hb17⟩
  clear hrd7 hrot7 hgrown7 hb17
  go_wp2_with (first
    | (go_at_call_of 11 a'; refine (ids_any a' n n xs _ (Tri.one (by assumption)) (by omega)).mono ?_; rintro e wn ⟨bi, rfl, ho, hbn⟩; have hI := ho.rd; have hTri := Tri.step (by assumption) hbn; clear ho)
    | (go_at_call_of 11 a4; refine (ids_any a4 n n rot _ (Tri.two (by assumption)) (by omega)).mono ?_; rintro e wn ⟨bi, rfl, ho, hbn⟩; have hI := ho.rd; have hTri := Tri.step (by assumption) hbn; clear ho)
    | (go_at_call_of 11 a7; refine (ids_any a7 (n + 1) (n + 1) grn _ (Tri.three (by assumption)) (by omega)).mono ?_; rintro e wn ⟨bi, rfl, ho, hbn⟩; have hI := ho.rd; have hTri := Tri.step (by assumption) hbn; clear ho)
    | (go_at_call 10; refine (zsame_any _ _ _ _ _ _ _ _ _ (by exact Rd.kept (by assumption) (by assumption)) (by assumption) (by omega) (by omega)).mono ?_; rintro e wn ⟨rfl, hbn⟩; have hTri := Tri.step (by assumption) hbn))
  go_ret
  exact ⟨rfl, Tri.four (by assumption)⟩

set_option maxHeartbeats 1600000 in
theorem fn4_edge (a : Option Addr) (n c : Nat) (k : Int) (x : V) (xs : List V) (w : World) (hr : Rd w a n xs) (h : 1024 < n ∨ (n ≤ 1024 ∧ (k < 0 ∨ (n : Int) < k))) :
    Calls Try.prog 4 #[.slice a n c, .int .i64 k, G x] w fun e w' => e = .returned (.bool true) ∧ Below w.heap.size w w' := by
  rcases h with h | ⟨h, h' | h'⟩
  all_goals
    go_enter Try.func4, Try.ntmps4
    go_wp2_with (first
      | (refine wpList_bx rfl 30 _ rfl x rfl ?_; intro w1 hbox hgr; have hb1 : Below w.heap.size w w1 := (Below.refl _ _).grown hgr (Nat.le_refl _) (by simp); have hbx : w1.rangeAt w.heap.size 0 (E x) := by { have hbx := hbox.at 0 (by simp); simpa using hbx }; clear hgr)
      | (refine wpList_ld rfl 30 _ rfl _ _ x (.inl rfl) hbx rfl ?_)
      | (go_at_call 15; refine (bytes4_any _ _ _ _ _ _).mono ?_; rintro e w2 ⟨⟨bb, rfl⟩, hb2⟩))
    all_goals
      go_ret
      exact ⟨rfl, bstep hb1 hb2⟩

theorem fn4_any (a : Option Addr) (n c : Nat) (k : Int) (x : V) (xs : List V) (w : World) (hr : Rd w a n xs) :
    Calls Try.prog 4 #[.slice a n c, .int .i64 k, G x] w fun e w' => e = .returned (.bool true) ∧ Below w.heap.size w w' := by
  by_cases h : 1024 < n ∨ (n ≤ 1024 ∧ (k < 0 ∨ (n : Int) < k))
  · exact fn4_edge a n c k x xs w hr h
  · obtain ⟨k', rfl⟩ : ∃ k' : Nat, k = (k' : Int) := ⟨k.toNat, by omega⟩
    exact fn4_main a n c k' x xs w hr (by omega) (by omega)

end Go.Proofs.Qxb6619637a
