/-
  Seat b6619637a: FnRoutingPeersIsNeighboursThenEachNewFingerOnce (function 5): the walk. Our own text.
-/
import Derived.Test.Qxb6619637aMake
import Derived.Test.Qxb6619637aIsn
import Derived.Test.Qxb6619637aByt
import Derived.Test.Qxb6619637aHeld
import Derived.Deep.RegionWith
namespace Go.Proofs.Qxb6619637a
open Go.RowKit
set_option linter.unusedSimpArgs false
set_option linter.unusedVariables false

set_option maxHeartbeats 1600000 in
theorem fn5_main (s : V) (a : Option Addr) (n c : Nat) (b : Option Addr) (m d : Nat) (mv : Int) (xs ys : List V) (w : World) (hr : Rd w a n xs) (hr2 : Rd w b m ys) (hn : n ≤ 1024) (hm : m ≤ 1024) :
    Calls Try.prog 5 #[G s, .slice a n c, .slice b m d, .int .u64 mv] w fun e w' => e = .returned (.bool true) ∧ Below w.heap.size w w' := by
  have hlen := rp_len xs ys
  have hl := hr.1
  have hl2 := hr2.1
  go_enter Try.func5, Try.ntmps5
  go_wp2_with (first
    | (refine wpList_bx rfl 30 _ rfl s rfl ?_; intro w1 hbox hgr; have hb1 : Below w.heap.size w w1 := (Below.refl _ _).grown hgr (Nat.le_refl _) (by simp); have hbx : w1.rangeAt w.heap.size 0 (E s) := by { have hbx := hbox.at 0 (by simp); simpa using hbx }; clear hgr)
    | (refine wpList_ld rfl 30 _ rfl _ _ s (.inl rfl) hbx rfl ?_)
    | (go_at_call 16; refine (bytes5_any _ _ _ _ _ _ _ _ _).mono ?_; rintro e w2 ⟨⟨bb, rfl⟩, hb2⟩)
    | (go_at_call_of 9 (Value.slice a n c); refine (clone_any a n c xs w2 (hr.kept (bstep hb1 hb2)) (by omega)).mono ?_; rintro e w3 ⟨a1, rfl, ho1, hb3⟩)
    | (go_at_call_of 9 (Value.slice b m d); refine (clone_any b m d ys w3 ((hr2.kept (bstep hb1 hb2)).kept hb3) (by omega)).mono ?_; rintro e w4 ⟨a2, rfl, ho2, hb4⟩))
  · go_ret
    exact ⟨rfl, bstep hb1 hb2⟩
  have q1 : Rd w4 a1 n xs := ho1.rd.kept hb4
  have q2 : Rd w4 a2 m ys := ho2.rd
  have hs4 : w4.rangeAt w.heap.size 0 (E s) := range_kept (range_kept (range_kept hbx hb2) hb3) hb4
  have hb04 : Below w.heap.size w w4 := bstep (bstep (bstep hb1 hb2) hb3) hb4
  clear ho1 ho2 hbx hbox hb1 hb2 hb3 hb4 hr hr2
  refine wp_region_held (S := fun w' => w'.rangeAt w.heap.size 0 (E s)) (by kernel_rfl) ?_
  change wpAnyH _ _ _ _ _ _ _ _ (World.drew _)
  refine wpAnyH_take (i := 1) (v := .slice a1 n n) rfl (by kernel_rfl) (by kernel_rfl) (by kernel_rfl) (fun _ _ _ h => h) (Or.inl ⟨by rfl, fun _ _ => rfl⟩) hs4 ?_
  simp only [List.getElem_toArray, List.getElem_cons_succ, List.getElem_cons_zero, Act.put, List.setIfInBounds_toArray, List.set_cons_succ, List.set_cons_zero]
  refine wpAnyH_take (i := 3) (v := .slice a2 m m) rfl (by kernel_rfl) (by kernel_rfl) (by kernel_rfl) (fun _ _ _ h => h) (Or.inl ⟨by rfl, fun _ _ => rfl⟩) hs4 ?_
  simp only [List.getElem_toArray, List.getElem_cons_succ, List.getElem_cons_zero, Act.put, List.setIfInBounds_toArray, List.set_cons_succ, List.set_cons_zero]
  refine wpAnyH_take (i := 5) (v := .int .u64 mv) rfl (by kernel_rfl) (by kernel_rfl) (by kernel_rfl) (fun _ _ _ h => h) (Or.inl ⟨by rfl, fun _ _ => rfl⟩) hs4 ?_
  simp only [List.getElem_toArray, List.getElem_cons_succ, List.getElem_cons_zero, Act.put, List.setIfInBounds_toArray, List.set_cons_succ, List.set_cons_zero]
  refine wpAnyH_take (i := 0) (v := G s) rfl (by kernel_rfl) (by kernel_rfl) (by kernel_rfl) (fun _ _ _ h => h) (Or.inl ⟨by rfl, exec_ld 30 (.tmp 4) rfl _ _ s (.inl rfl) rfl⟩) hs4 ?_
  simp only [List.getElem_toArray, List.getElem_cons_succ, List.getElem_cons_zero, Act.put, List.setIfInBounds_toArray, List.set_cons_succ, List.set_cons_zero]
  refine wpAnyH_one (i := 2) (by kernel_rfl) rfl (fun K hK => ?_)
  go_simp
  go_wp2_with (go_at_call 11; refine (ids_any a1 n n xs _ ((q1).drewN 1) (by omega)).mono ?_; rintro e u1A ⟨b1A, rfl, ho1A, hc1A⟩)
  have hB1A : Below w4.heap.size w4 u1A := (below_drewN' (Below.refl _ _) 1).trans hc1A
  have hs1A := range_kept hs4 hB1A
  refine ⟨hs1A, ?_⟩
  refine wpAnyH_one (i := 4) (by kernel_rfl) rfl (fun K hK => ?_)
  go_simp
  go_wp2_with (go_at_call 11; refine (ids_any a2 m m ys _ ((q2).kept hB1A) (by omega)).mono ?_; rintro e u2A ⟨b2A, rfl, ho2A, hc2A⟩)
  have hB2A := bstep hB1A hc2A
  have hs2A := range_kept hs4 hB2A
  refine ⟨hs2A, ?_⟩
  refine wpAnyH_one (i := 6) (by kernel_rfl) rfl (fun K hK => ?_)
  go_simp
  go_wp2_with (go_at_call 17; refine (newTab_any s b1A _ _ b2A _ _ mv _).mono ?_; rintro e u3A ⟨gA, rfl, htA, hc3A⟩)
  have hB3A := bstep hB2A hc3A
  have hs3A := range_kept hs4 hB3A
  refine ⟨hs3A, ?_⟩
  refine wpAnyH_one (i := 7) (by kernel_rfl) rfl (fun K hK => ?_)
  go_simp
  go_wp2_with (go_at_call 18; refine (routing_any gA b1A _ _ b2A _ _ xs ys _ htA ((ho1A.rd.kept hc2A).kept hc3A) (ho2A.rd.kept hc3A) (by omega) (by omega)).mono ?_; rintro e u4A ⟨arA, crA, rfl, hRA, hc4A⟩)
  have hBA := bstep hB3A hc4A
  have hsA := range_kept hs4 hBA
  refine ⟨hsA, ?_⟩
  clear ho1A ho2A hc1A hc2A hc3A hc4A hB1A hB2A hB3A hs1A hs2A hs3A htA
  refine wpAnyH_one (i := 8) (by kernel_rfl) rfl (fun K hK => ?_)
  go_simp
  refine hK _ _ ?_
  clear hK K
  refine ⟨hsA, ?_⟩
  refine wpAnyH_done (by kernel_rfl) ?_ _
  have q1' := q1.kept hBA
  have q2' := q2.kept hBA
  have hb0A := bstep hb04 hBA
  have hlA : (rp xs ys).length ≤ 2048 := by omega
  have hag := rp_again xs ys
  clear q1 q2 hs4 hb04 hBA
  go_wp2_with (go_at_call 19; refine (isN_any arA _ crA a1 n n a2 m m xs ys u4A hRA q1' q2' hn hm).mono ?_; rintro e w6 ⟨rfl, hb6⟩)
  have r1 := hRA.kept hb6
  have r2 := q2'.kept hb6
  have hs6 := range_kept hsA hb6
  have hb06 := bstep hb0A hb6
  clear hRA q1' q2' hsA hb6 hb0A
  generalize rp xs ys = L at r1 hlA hag
  refine wp_region_held (S := fun w' => w'.rangeAt w.heap.size 0 (E s)) (by kernel_rfl) ?_
  change wpAnyH _ _ _ _ _ _ _ _ (World.drew _)
  refine wpAnyH_take (i := 1) (v := .slice arA L.length crA) rfl (by kernel_rfl) (by kernel_rfl) (by kernel_rfl) (fun _ _ _ h => h) (Or.inl ⟨by rfl, fun _ _ => rfl⟩) hs6 ?_
  simp only [List.getElem_toArray, List.getElem_cons_succ, List.getElem_cons_zero, Act.put, List.setIfInBounds_toArray, List.set_cons_succ, List.set_cons_zero]
  refine wpAnyH_take (i := 3) (v := .slice a2 m m) rfl (by kernel_rfl) (by kernel_rfl) (by kernel_rfl) (fun _ _ _ h => h) (Or.inl ⟨by rfl, fun _ _ => rfl⟩) hs6 ?_
  simp only [List.getElem_toArray, List.getElem_cons_succ, List.getElem_cons_zero, Act.put, List.setIfInBounds_toArray, List.set_cons_succ, List.set_cons_zero]
  refine wpAnyH_take (i := 5) (v := .int .u64 mv) rfl (by kernel_rfl) (by kernel_rfl) (by kernel_rfl) (fun _ _ _ h => h) (Or.inl ⟨by rfl, fun _ _ => rfl⟩) hs6 ?_
  simp only [List.getElem_toArray, List.getElem_cons_succ, List.getElem_cons_zero, Act.put, List.setIfInBounds_toArray, List.set_cons_succ, List.set_cons_zero]
  refine wpAnyH_take (i := 0) (v := G s) rfl (by kernel_rfl) (by kernel_rfl) (by kernel_rfl) (fun _ _ _ h => h) (Or.inl ⟨by rfl, exec_ld 30 (.tmp 4) rfl _ _ s (.inl rfl) rfl⟩) hs6 ?_
  simp only [List.getElem_toArray, List.getElem_cons_succ, List.getElem_cons_zero, Act.put, List.setIfInBounds_toArray, List.set_cons_succ, List.set_cons_zero]
  refine wpAnyH_one (i := 2) (by kernel_rfl) rfl (fun K hK => ?_)
  go_simp
  go_wp2_with (go_at_call 20; refine (copyIDs_any arA L.length crA L _ ((r1).drewN 1) (by omega)).mono ?_; rintro e u1B ⟨b1B, rfl, ho1B, hc1B⟩)
  have hB1B : Below w6.heap.size w6 u1B := (below_drewN' (Below.refl _ _) 1).trans hc1B
  have hs1B := range_kept hs6 hB1B
  refine ⟨hs1B, ?_⟩
  refine wpAnyH_one (i := 4) (by kernel_rfl) rfl (fun K hK => ?_)
  go_simp
  go_wp2_with (go_at_call 11; refine (ids_any a2 m m ys _ ((r2).kept hB1B) (by omega)).mono ?_; rintro e u2B ⟨b2B, rfl, ho2B, hc2B⟩)
  have hB2B := bstep hB1B hc2B
  have hs2B := range_kept hs6 hB2B
  refine ⟨hs2B, ?_⟩
  refine wpAnyH_one (i := 6) (by kernel_rfl) rfl (fun K hK => ?_)
  go_simp
  go_wp2_with (go_at_call 17; refine (newTab_any s b1B _ _ b2B _ _ mv _).mono ?_; rintro e u3B ⟨gB, rfl, htB, hc3B⟩)
  have hB3B := bstep hB2B hc3B
  have hs3B := range_kept hs6 hB3B
  refine ⟨hs3B, ?_⟩
  refine wpAnyH_one (i := 7) (by kernel_rfl) rfl (fun K hK => ?_)
  go_simp
  go_wp2_with (go_at_call 18; refine (routing_any gB b1B _ _ b2B _ _ L ys _ htB ((ho1B.rd.kept hc2B).kept hc3B) (ho2B.rd.kept hc3B) (by omega) (by omega)).mono ?_; rintro e u4B ⟨arB, crB, rfl, hRB, hc4B⟩; rw [hag] at hRB ⊢)
  have hBB := bstep hB3B hc4B
  have hsB := range_kept hs6 hBB
  refine ⟨hsB, ?_⟩
  clear ho1B ho2B hc1B hc2B hc3B hc4B hB1B hB2B hB3B hs1B hs2B hs3B htB
  refine wpAnyH_one (i := 8) (by kernel_rfl) rfl (fun K hK => ?_)
  go_simp
  refine hK _ _ ?_
  clear hK K
  refine ⟨hsB, ?_⟩
  refine wpAnyH_done (by kernel_rfl) ?_ _
  have hE : eqL L L = true := by simp [eqL]
  go_wp2_with (go_at_call 21; refine (sameIDs_any arB L.length crB arA L.length crA L L u4B hRB (r1.kept hBB) (by omega)).mono ?_; rintro e w7 ⟨rfl, hb7⟩; rw [hE])
  go_ret
  exact ⟨rfl, bstep (bstep hb06 hBB) hb7⟩

set_option maxHeartbeats 1600000 in
theorem fn5_edge (s : V) (a : Option Addr) (n c : Nat) (b : Option Addr) (m d : Nat) (mv : Int) (w : World) (h : 1024 < n ∨ (n ≤ 1024 ∧ 1024 < m)) :
    Calls Try.prog 5 #[G s, .slice a n c, .slice b m d, .int .u64 mv] w fun e w' => e = .returned (.bool true) ∧ Below w.heap.size w w' := by
  rcases h with h | ⟨h, h'⟩
  all_goals
    go_enter Try.func5, Try.ntmps5
    go_wp2_with (first
      | (refine wpList_bx rfl 30 _ rfl s rfl ?_; intro w1 hbox hgr; have hb1 : Below w.heap.size w w1 := (Below.refl _ _).grown hgr (Nat.le_refl _) (by simp); have hbx : w1.rangeAt w.heap.size 0 (E s) := by { have hbx := hbox.at 0 (by simp); simpa using hbx }; clear hgr)
      | (refine wpList_ld rfl 30 _ rfl _ _ s (.inl rfl) hbx rfl ?_)
      | (go_at_call 16; refine (bytes5_any _ _ _ _ _ _ _ _ _).mono ?_; rintro e w2 ⟨⟨bb, rfl⟩, hb2⟩))
    all_goals
      go_ret
      exact ⟨rfl, bstep hb1 hb2⟩

theorem fn5_any (s : V) (a : Option Addr) (n c : Nat) (b : Option Addr) (m d : Nat) (mv : Int) (xs ys : List V) (w : World) (hr : Rd w a n xs) (hr2 : Rd w b m ys) :
    Calls Try.prog 5 #[G s, .slice a n c, .slice b m d, .int .u64 mv] w fun e w' => e = .returned (.bool true) ∧ Below w.heap.size w w' := by
  by_cases h : 1024 < n ∨ (n ≤ 1024 ∧ 1024 < m)
  · exact fn5_edge s a n c b m d mv w h
  · exact fn5_main s a n c b m d mv xs ys w hr hr2 (by omega) (by omega)

end Go.Proofs.Qxb6619637a
