/-
  Seat b6619637a: FnRoutingPeersSameSetWhicheverListIsTheNeighbours (function 7): the walk. Our own text.
-/
import Derived.Test.Qxb6619637aMake
import Derived.Test.Qxb6619637aIsn
import Derived.Test.Qxb6619637aByt
import Derived.Test.Qxb6619637aHeld
import Derived.Deep.RegionWith
namespace Go.Proofs.Qxb6619637a
open Go.RowKit
set_option linter.unusedSimpArgs false
set_option linter.unusedVariables false

theorem nodup_of_rep {xs : List V} (h : repV xs = false) : xs.Nodup := by
  unfold repV at h
  rw [decide_eq_false_iff_not, Decidable.not_not] at h
  exact h

set_option maxRecDepth 100000 in
set_option maxHeartbeats 3200000 in
theorem fn7_main (s : V) (a : Option Addr) (n c : Nat) (b : Option Addr) (m d : Nat) (mv : Int) (xs ys : List V) (w : World) (hr : Rd w a n xs) (hr2 : Rd w b m ys) (hn : n ≤ 1024) (hm : m ≤ 1024) (hrx : repV xs = false) (hry : repV ys = false) :
    Calls Try.prog 7 #[G s, .slice a n c, .slice b m d, .int .u64 mv] w fun e w' => e = .returned (.bool true) ∧ Below w.heap.size w w' := by
  have hl := hr.1
  have hl2 := hr2.1
  have HX : Hid xs.Nodup := nodup_of_rep hrx
  have HY : Hid ys.Nodup := nodup_of_rep hry
  go_enter Try.func7, Try.ntmps7
  go_wp2_with (first
    | (refine wpList_bx rfl 30 _ rfl s rfl ?_; intro w1 hbox hgr; have hb1 : Below w.heap.size w w1 := (Below.refl _ _).grown hgr (Nat.le_refl _) (by simp); have hbx : w1.rangeAt w.heap.size 0 (E s) := by { have hbx := hbox.at 0 (by simp); simpa using hbx }; clear hgr)
    | (refine wpList_ld rfl 30 _ rfl _ _ s (.inl rfl) hbx rfl ?_)
    | (go_at_call 24; refine (bytes7_any _ _ _ _ _ _ _ _ _).mono ?_; rintro e w2 ⟨⟨bb, rfl⟩, hb2⟩)
    | (go_at_call_of 25 (Value.slice a n c); refine (rep_any a n c xs w2 (hr.kept (bstep hb1 hb2)) (by omega)).mono ?_; rintro e w3 ⟨rfl, hb3⟩; rw [hrx])
    | (go_at_call_of 25 (Value.slice b m d); refine (rep_any b m d ys w3 ((hr2.kept (bstep hb1 hb2)).kept hb3) (by omega)).mono ?_; rintro e w4 ⟨rfl, hb4⟩; rw [hry])
    | (go_at_call_of 9 (Value.slice a n c); refine (clone_any a n c xs w4 (((hr.kept (bstep hb1 hb2)).kept hb3).kept hb4) (by omega)).mono ?_; rintro e w5 ⟨a1, rfl, ho1, hb5⟩)
    | (go_at_call_of 9 (Value.slice b m d); refine (clone_any b m d ys w5 ((((hr2.kept (bstep hb1 hb2)).kept hb3).kept hb4).kept hb5) (by omega)).mono ?_; rintro e w6 ⟨a2, rfl, ho2, hb6⟩))
  · go_ret
    exact ⟨rfl, bstep hb1 hb2⟩
  have q1 : Rd w6 a1 n xs := ho1.rd.kept hb6
  have q2 : Rd w6 a2 m ys := ho2.rd
  have hs6 : w6.rangeAt w.heap.size 0 (E s) := range_kept (range_kept (range_kept (range_kept (range_kept hbx hb2) hb3) hb4) hb5) hb6
  have hb06 : Below w.heap.size w w6 := bstep (bstep (bstep (bstep (bstep hb1 hb2) hb3) hb4) hb5) hb6
  clear ho1 ho2 hbx hbox hb1 hb2 hb3 hb4 hb5 hb6 hr hr2 hrx hry
  go_loopw [9, 10] (fun t i wr => ∃ (j : Nat), j ≤ m ∧ i = .int .i64 j ∧ t = .int .i64 ((n : Int) + newc xs ys j) ∧ Below w6.heap.size w6 wr) (fun _ i _ => m - (intOf i).toNat)
  case atStart => exact ⟨0, Nat.zero_le _, rfl, by simp [newc], Below.refl _ _⟩
  case round =>
    obtain ⟨j, hj, rfl, rfl, hbel⟩ := hrel
    have hnc := newc_le xs ys j
    by_cases hlt : j < m
    · obtain ⟨b3, o3, rfl, hrng2⟩ := (q2.kept hbel).at j hlt
      have hky : j < ys.length := by omega
      have hy := hrng2 j hky
      have HH : Hid (hasV xs ys[j] = true → newc xs ys (j + 1) = newc xs ys j) := fun h => newc_hit hky h
      have HM : Hid (hasV xs ys[j] = false → newc xs ys (j + 1) = newc xs ys j + 1) := fun h => newc_miss hky h
      generalize ys[j] = f at hy HH HM
      clear hrng2
      have ht1 : hasV (xs.take n) f = hasV xs f := by rw [← hl, List.take_length]
      cases h1 : hasV xs f with
      | true =>
        have HL := HH.out h1
        have HL' : Hid (newc xs ys (j + 1) = newc xs ys j) := HL
        clear HL HH HM
        rw [h1] at ht1
        go_wp2_with (first
          | (refine wpList_ld rfl 30 _ rfl _ _ f (.inl rfl) hy rfl ?_)
          | (go_at_call 26; refine (has_any a1 n n n xs f wr (q1.kept hbel) (by omega) (by omega)).mono ?_; rintro e w8 ⟨rfl, hb8⟩; rw [ht1]))
        go_roundw
        case rel => exact ⟨j + 1, by omega, by go_num, by rw [HL'.out], bstep hbel hb8⟩
        case measure => simp [intOf]; omega
      | false =>
        have HL := HM.out h1
        have HL' : Hid (newc xs ys (j + 1) = newc xs ys j + 1) := HL
        clear HL HH HM
        rw [h1] at ht1
        go_wp2_with (first
          | (refine wpList_ld rfl 30 _ rfl _ _ f (.inl rfl) hy rfl ?_)
          | (go_at_call 26; refine (has_any a1 n n n xs f wr (q1.kept hbel) (by omega) (by omega)).mono ?_; rintro e w8 ⟨rfl, hb8⟩; rw [ht1]))
        go_roundw
        case rel => exact ⟨j + 1, by omega, by go_num, by rw [HL'.out]; exact congrArg (Value.int .i64) (by omega), bstep hbel hb8⟩
        case measure => simp [intOf]; omega
    · have hjm : ys.length = j := by omega
      have hlA := newc_all (xs := xs) HY.out
      rw [hjm] at hlA
      have HlA : Hid ((rp xs ys).length = xs.length + newc xs ys j) := hlA
      have HlB : Hid ((rp xs ys).length = (rp ys xs).length) := rp_swap_len HX.out HY.out
      have hS := rp_swap_same HX.out HY.out
      have r1 := q1.kept hbel
      have r2 := q2.kept hbel
      have hs7 := range_kept hs6 hbel
      have hb07 := bstep hb06 hbel
      clear q1 q2 hs6 hb06 hbel HX HY hlA
      generalize newc xs ys j = nc at HlA hnc
      go_wp2_with fail
      refine wp_region_held (S := fun w' => w'.rangeAt w.heap.size 0 (E s)) (by kernel_rfl) ?_
      change wpAnyH _ _ _ _ _ _ _ _ (World.drew _)
      refine wpAnyH_take (i := 1) (v := .slice a1 n n) rfl (by kernel_rfl) (by kernel_rfl) (by kernel_rfl) (fun _ _ _ h => h) (Or.inl ⟨by rfl, fun _ _ => rfl⟩) hs7 ?_
      simp only [List.getElem_toArray, List.getElem_cons_succ, List.getElem_cons_zero, Act.put, List.setIfInBounds_toArray, List.set_cons_succ, List.set_cons_zero]
      refine wpAnyH_take (i := 3) (v := .slice a2 m m) rfl (by kernel_rfl) (by kernel_rfl) (by kernel_rfl) (fun _ _ _ h => h) (Or.inl ⟨by rfl, fun _ _ => rfl⟩) hs7 ?_
      simp only [List.getElem_toArray, List.getElem_cons_succ, List.getElem_cons_zero, Act.put, List.setIfInBounds_toArray, List.set_cons_succ, List.set_cons_zero]
      refine wpAnyH_take (i := 5) (v := .int .u64 mv) rfl (by kernel_rfl) (by kernel_rfl) (by kernel_rfl) (fun _ _ _ h => h) (Or.inl ⟨by rfl, fun _ _ => rfl⟩) hs7 ?_
      simp only [List.getElem_toArray, List.getElem_cons_succ, List.getElem_cons_zero, Act.put, List.setIfInBounds_toArray, List.set_cons_succ, List.set_cons_zero]
      refine wpAnyH_take (i := 0) (v := G s) rfl (by kernel_rfl) (by kernel_rfl) (by kernel_rfl) (fun _ _ _ h => h) (Or.inl ⟨by rfl, exec_ld 30 (.tmp 4) rfl _ _ s (.inl rfl) rfl⟩) hs7 ?_
      simp only [List.getElem_toArray, List.getElem_cons_succ, List.getElem_cons_zero, Act.put, List.setIfInBounds_toArray, List.set_cons_succ, List.set_cons_zero]
      refine wpAnyH_one (i := 2) (by kernel_rfl) rfl (fun K hK => ?_)
      go_simp
      go_wp2_with (go_at_call 11; refine (ids_any a1 n n xs _ ((r1).drewN 1) (by omega)).mono ?_; rintro e u1A ⟨b1A, rfl, ho1A, hc1A⟩)
      have hB1A : Below wr.heap.size wr u1A := (below_drewN' (Below.refl _ _) 1).trans hc1A
      have hs1A := range_kept hs7 hB1A
      refine ⟨hs1A, ?_⟩
      refine wpAnyH_one (i := 4) (by kernel_rfl) rfl (fun K hK => ?_)
      go_simp
      go_wp2_with (go_at_call 11; refine (ids_any a2 m m ys _ ((r2).kept hB1A) (by omega)).mono ?_; rintro e u2A ⟨b2A, rfl, ho2A, hc2A⟩)
      have hB2A := bstep hB1A hc2A
      have hs2A := range_kept hs7 hB2A
      refine ⟨hs2A, ?_⟩
      refine wpAnyH_one (i := 6) (by kernel_rfl) rfl (fun K hK => ?_)
      go_simp
      go_wp2_with (go_at_call 17; refine (newTab_any s b1A _ _ b2A _ _ mv _).mono ?_; rintro e u3A ⟨gA, rfl, htA, hc3A⟩)
      have hB3A := bstep hB2A hc3A
      have hs3A := range_kept hs7 hB3A
      refine ⟨hs3A, ?_⟩
      refine wpAnyH_one (i := 7) (by kernel_rfl) rfl (fun K hK => ?_)
      go_simp
      go_wp2_with (go_at_call 18; refine (routing_any gA b1A _ _ b2A _ _ xs ys _ htA ((ho1A.rd.kept hc2A).kept hc3A) (ho2A.rd.kept hc3A) (by omega) (by omega)).mono ?_; rintro e u4A ⟨arA, crA, rfl, hRA, hc4A⟩)
      have hBA := bstep hB3A hc4A
      have hsA := range_kept hs7 hBA
      refine ⟨hsA, ?_⟩
      clear ho1A ho2A hc1A hc2A hc3A hc4A hB1A hB2A hB3A hs1A hs2A hs3A htA
      refine wpAnyH_one (i := 8) (by kernel_rfl) rfl (fun K hK => ?_)
      go_simp
      refine hK _ _ ?_
      clear hK K
      refine ⟨hsA, ?_⟩
      refine wpAnyH_done (by kernel_rfl) ?_ _
      have r1' := r1.kept hBA
      have r2' := r2.kept hBA
      have hb0A := bstep hb07 hBA
      clear r1 r2 hs7 hb07 hBA
      go_wp2_with fail
      refine wp_region_held (S := fun w' => w'.rangeAt w.heap.size 0 (E s)) (by kernel_rfl) ?_
      change wpAnyH _ _ _ _ _ _ _ _ (World.drew _)
      refine wpAnyH_take (i := 1) (v := .slice a2 m m) rfl (by kernel_rfl) (by kernel_rfl) (by kernel_rfl) (fun _ _ _ h => h) (Or.inl ⟨by rfl, fun _ _ => rfl⟩) hsA ?_
      simp only [List.getElem_toArray, List.getElem_cons_succ, List.getElem_cons_zero, Act.put, List.setIfInBounds_toArray, List.set_cons_succ, List.set_cons_zero]
      refine wpAnyH_take (i := 3) (v := .slice a1 n n) rfl (by kernel_rfl) (by kernel_rfl) (by kernel_rfl) (fun _ _ _ h => h) (Or.inl ⟨by rfl, fun _ _ => rfl⟩) hsA ?_
      simp only [List.getElem_toArray, List.getElem_cons_succ, List.getElem_cons_zero, Act.put, List.setIfInBounds_toArray, List.set_cons_succ, List.set_cons_zero]
      refine wpAnyH_take (i := 5) (v := .int .u64 mv) rfl (by kernel_rfl) (by kernel_rfl) (by kernel_rfl) (fun _ _ _ h => h) (Or.inl ⟨by rfl, fun _ _ => rfl⟩) hsA ?_
      simp only [List.getElem_toArray, List.getElem_cons_succ, List.getElem_cons_zero, Act.put, List.setIfInBounds_toArray, List.set_cons_succ, List.set_cons_zero]
      refine wpAnyH_take (i := 0) (v := G s) rfl (by kernel_rfl) (by kernel_rfl) (by kernel_rfl) (fun _ _ _ h => h) (Or.inl ⟨by rfl, exec_ld 30 (.tmp 4) rfl _ _ s (.inl rfl) rfl⟩) hsA ?_
      simp only [List.getElem_toArray, List.getElem_cons_succ, List.getElem_cons_zero, Act.put, List.setIfInBounds_toArray, List.set_cons_succ, List.set_cons_zero]
      refine wpAnyH_one (i := 2) (by kernel_rfl) rfl (fun K hK => ?_)
      go_simp
      go_wp2_with (go_at_call 11; refine (ids_any a2 m m ys _ ((r2').drewN 1) (by omega)).mono ?_; rintro e u1B ⟨b1B, rfl, ho1B, hc1B⟩)
      have hB1B : Below u4A.heap.size u4A u1B := (below_drewN' (Below.refl _ _) 1).trans hc1B
      have hs1B := range_kept hsA hB1B
      refine ⟨hs1B, ?_⟩
      refine wpAnyH_one (i := 4) (by kernel_rfl) rfl (fun K hK => ?_)
      go_simp
      go_wp2_with (go_at_call 11; refine (ids_any a1 n n xs _ ((r1').kept hB1B) (by omega)).mono ?_; rintro e u2B ⟨b2B, rfl, ho2B, hc2B⟩)
      have hB2B := bstep hB1B hc2B
      have hs2B := range_kept hsA hB2B
      refine ⟨hs2B, ?_⟩
      refine wpAnyH_one (i := 6) (by kernel_rfl) rfl (fun K hK => ?_)
      go_simp
      go_wp2_with (go_at_call 17; refine (newTab_any s b1B _ _ b2B _ _ mv _).mono ?_; rintro e u3B ⟨gB, rfl, htB, hc3B⟩)
      have hB3B := bstep hB2B hc3B
      have hs3B := range_kept hsA hB3B
      refine ⟨hs3B, ?_⟩
      refine wpAnyH_one (i := 7) (by kernel_rfl) rfl (fun K hK => ?_)
      go_simp
      go_wp2_with (go_at_call 18; refine (routing_any gB b1B _ _ b2B _ _ ys xs _ htB ((ho1B.rd.kept hc2B).kept hc3B) (ho2B.rd.kept hc3B) (by omega) (by omega)).mono ?_; rintro e u4B ⟨arB, crB, rfl, hRB, hc4B⟩)
      have hBB := bstep hB3B hc4B
      have hsB := range_kept hsA hBB
      refine ⟨hsB, ?_⟩
      clear ho1B ho2B hc1B hc2B hc3B hc4B hB1B hB2B hB3B hs1B hs2B hs3B htB
      refine wpAnyH_one (i := 8) (by kernel_rfl) rfl (fun K hK => ?_)
      go_simp
      refine hK _ _ ?_
      clear hK K
      refine ⟨hsB, ?_⟩
      refine wpAnyH_done (by kernel_rfl) ?_ _
      have z1 := hRA.kept hBB
      have hb0B := bstep hb0A hBB
      clear r1' r2' hsA hsB hb0A hBB hRA
      generalize rp xs ys = L at z1 HlA HlB hS
      generalize rp ys xs = M at hRB HlB hS
      have hlA := HlA.out
      have hlB := HlB.out
      have HE1 : Hid ((L.length : Int) = (n : Int) + (nc : Int)) := by rw [Hid]; omega
      have HE2 : Hid ((M.length : Int) = (n : Int) + (nc : Int)) := by rw [Hid]; omega
      have hlL : L.length ≤ 2048 := by omega
      have hlM : M.length ≤ 2048 := by omega
      clear hlA hlB HlA HlB
      go_wp2_with (go_at_call 10; refine (zsame_any arA arB L.length crA M.length crB L M u4B z1 hRB (by omega) (by omega)).mono ?_; rintro e w9 ⟨rfl, hb9⟩; rw [hS])
      all_goals first | (go_ret; exact ⟨rfl, bstep hb0B hb9⟩) | (exfalso; have h : ((M.length : Int) != (n : Int) + (nc : Int)) = true := (by assumption); rw [HE2.out] at h; simp at h)

set_option maxHeartbeats 1600000 in
theorem fn7_edge (s : V) (a : Option Addr) (n c : Nat) (b : Option Addr) (m d : Nat) (mv : Int) (w : World) (h : 1024 < n ∨ (n ≤ 1024 ∧ 1024 < m)) :
    Calls Try.prog 7 #[G s, .slice a n c, .slice b m d, .int .u64 mv] w fun e w' => e = .returned (.bool true) ∧ Below w.heap.size w w' := by
  rcases h with h | ⟨h, h'⟩
  all_goals
    go_enter Try.func7, Try.ntmps7
    go_wp2_with (first
      | (refine wpList_bx rfl 30 _ rfl s rfl ?_; intro w1 hbox hgr; have hb1 : Below w.heap.size w w1 := (Below.refl _ _).grown hgr (Nat.le_refl _) (by simp); have hbx : w1.rangeAt w.heap.size 0 (E s) := by { have hbx := hbox.at 0 (by simp); simpa using hbx }; clear hgr)
      | (refine wpList_ld rfl 30 _ rfl _ _ s (.inl rfl) hbx rfl ?_)
      | (go_at_call 24; refine (bytes7_any _ _ _ _ _ _ _ _ _).mono ?_; rintro e w2 ⟨⟨bb, rfl⟩, hb2⟩))
    all_goals
      go_ret
      exact ⟨rfl, bstep hb1 hb2⟩

set_option maxHeartbeats 1600000 in
theorem fn7_rep1 (s : V) (a : Option Addr) (n c : Nat) (b : Option Addr) (m d : Nat) (mv : Int) (xs : List V) (w : World) (hr : Rd w a n xs) (hn : n ≤ 1024) (hm : m ≤ 1024) (hrx : repV xs = true) :
    Calls Try.prog 7 #[G s, .slice a n c, .slice b m d, .int .u64 mv] w fun e w' => e = .returned (.bool true) ∧ Below w.heap.size w w' := by
  go_enter Try.func7, Try.ntmps7
  go_wp2_with (first
    | (refine wpList_bx rfl 30 _ rfl s rfl ?_; intro w1 hbox hgr; have hb1 : Below w.heap.size w w1 := (Below.refl _ _).grown hgr (Nat.le_refl _) (by simp); have hbx : w1.rangeAt w.heap.size 0 (E s) := by { have hbx := hbox.at 0 (by simp); simpa using hbx }; clear hgr)
    | (refine wpList_ld rfl 30 _ rfl _ _ s (.inl rfl) hbx rfl ?_)
    | (go_at_call 24; refine (bytes7_any _ _ _ _ _ _ _ _ _).mono ?_; rintro e w2 ⟨⟨bb, rfl⟩, hb2⟩)
    | (go_at_call_of 25 (Value.slice a n c); refine (rep_any a n c xs w2 (hr.kept (bstep hb1 hb2)) (by omega)).mono ?_; rintro e w3 ⟨rfl, hb3⟩; rw [hrx]))
  · go_ret
    exact ⟨rfl, bstep hb1 hb2⟩
  · go_ret
    exact ⟨rfl, bstep (bstep hb1 hb2) hb3⟩

set_option maxHeartbeats 1600000 in
theorem fn7_rep2 (s : V) (a : Option Addr) (n c : Nat) (b : Option Addr) (m d : Nat) (mv : Int) (xs ys : List V) (w : World) (hr : Rd w a n xs) (hr2 : Rd w b m ys) (hn : n ≤ 1024) (hm : m ≤ 1024) (hrx : repV xs = false) (hry : repV ys = true) :
    Calls Try.prog 7 #[G s, .slice a n c, .slice b m d, .int .u64 mv] w fun e w' => e = .returned (.bool true) ∧ Below w.heap.size w w' := by
  go_enter Try.func7, Try.ntmps7
  go_wp2_with (first
    | (refine wpList_bx rfl 30 _ rfl s rfl ?_; intro w1 hbox hgr; have hb1 : Below w.heap.size w w1 := (Below.refl _ _).grown hgr (Nat.le_refl _) (by simp); have hbx : w1.rangeAt w.heap.size 0 (E s) := by { have hbx := hbox.at 0 (by simp); simpa using hbx }; clear hgr)
    | (refine wpList_ld rfl 30 _ rfl _ _ s (.inl rfl) hbx rfl ?_)
    | (go_at_call 24; refine (bytes7_any _ _ _ _ _ _ _ _ _).mono ?_; rintro e w2 ⟨⟨bb, rfl⟩, hb2⟩)
    | (go_at_call_of 25 (Value.slice a n c); refine (rep_any a n c xs w2 (hr.kept (bstep hb1 hb2)) (by omega)).mono ?_; rintro e w3 ⟨rfl, hb3⟩; rw [hrx])
    | (go_at_call_of 25 (Value.slice b m d); refine (rep_any b m d ys w3 ((hr2.kept (bstep hb1 hb2)).kept hb3) (by omega)).mono ?_; rintro e w4 ⟨rfl, hb4⟩; rw [hry]))
  · go_ret
    exact ⟨rfl, bstep hb1 hb2⟩
  · go_ret
    exact ⟨rfl, bstep (bstep (bstep hb1 hb2) hb3) hb4⟩

theorem fn7_any (s : V) (a : Option Addr) (n c : Nat) (b : Option Addr) (m d : Nat) (mv : Int) (xs ys : List V) (w : World) (hr : Rd w a n xs) (hr2 : Rd w b m ys) :
    Calls Try.prog 7 #[G s, .slice a n c, .slice b m d, .int .u64 mv] w fun e w' => e = .returned (.bool true) ∧ Below w.heap.size w w' := by
  by_cases h : 1024 < n ∨ (n ≤ 1024 ∧ 1024 < m)
  · exact fn7_edge s a n c b m d mv w h
  · cases hx : repV xs with
    | true => exact fn7_rep1 s a n c b m d mv xs w hr (by omega) (by omega) hx
    | false =>
      cases hy : repV ys with
      | true => exact fn7_rep2 s a n c b m d mv xs ys w hr hr2 (by omega) (by omega) hx hy
      | false => exact fn7_main s a n c b m d mv xs ys w hr hr2 (by omega) (by omega) hx hy

end Go.Proofs.Qxb6619637a
