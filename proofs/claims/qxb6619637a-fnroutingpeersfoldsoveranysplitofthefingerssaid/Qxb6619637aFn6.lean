/-
  Seat b6619637a: FnRoutingPeersFoldsOverAnySplitOfTheFingers (function 6): the walk. Our own text.
-/
import Derived.Test.Qxb6619637aMake
import Derived.Test.Qxb6619637aIsn
import Derived.Test.Qxb6619637aByt
import Derived.Test.Qxb6619637aHeld
import Derived.Test.Qxb6619637aCut
import Derived.Deep.RegionWith
namespace Go.Proofs.Qxb6619637a
open Go.RowKit
set_option linter.unusedSimpArgs false
set_option linter.unusedVariables false

set_option maxRecDepth 100000 in
set_option maxHeartbeats 3200000 in
theorem fn6_main (s : V) (a : Option Addr) (n c : Nat) (b : Option Addr) (m d : Nat) (mv : Int) (k : Nat) (xs ys : List V) (w : World) (hr : Rd w a n xs) (hr2 : Rd w b m ys) (hn : n ≤ 1024) (hm : m ≤ 1024) (hk : k ≤ m) :
    Calls Try.prog 6 #[G s, .slice a n c, .slice b m d, .int .u64 mv, .int .i64 k] w fun e w' => e = .returned (.bool true) ∧ Below w.heap.size w w' := by
  have hlen := rp_len xs ys
  have hge := rp_ge xs ys
  have hlen2 := rp_len xs (ys.take k)
  have hsp := rp_split xs ys k
  have hl := hr.1
  have hl2 := hr2.1
  have htk : (ys.take k).length ≤ m := by rw [List.length_take]; omega
  go_enter Try.func6, Try.ntmps6
  go_wp2_with (first
    | (refine wpList_bx rfl 30 _ rfl s rfl ?_; intro w1 hbox hgr; have hb1 : Below w.heap.size w w1 := (Below.refl _ _).grown hgr (Nat.le_refl _) (by simp); have hbx : w1.rangeAt w.heap.size 0 (E s) := by { have hbx := hbox.at 0 (by simp); simpa using hbx }; clear hgr)
    | (refine wpList_ld rfl 30 _ rfl _ _ s (.inl rfl) hbx rfl ?_)
    | (go_at_call 22; refine (bytes6_any _ _ _ _ _ _ _ _ _ _).mono ?_; rintro e w2 ⟨⟨bb, rfl⟩, hb2⟩)
    | (go_at_call_of 9 (Value.slice a n c); refine (clone_any a n c xs w2 (hr.kept (bstep hb1 hb2)) (by omega)).mono ?_; rintro e w3 ⟨a1, rfl, ho1, hb3⟩)
    | (go_at_call_of 9 (Value.slice b m d); refine (clone_any b m d ys w3 ((hr2.kept (bstep hb1 hb2)).kept hb3) (by omega)).mono ?_; rintro e w4 ⟨a2, rfl, ho2, hb4⟩))
  · go_ret
    exact ⟨rfl, bstep hb1 hb2⟩
  have q1 : Rd w4 a1 n xs := ho1.rd.kept hb4
  have q2 : Rd w4 a2 m ys := ho2.rd
  have hs4 : w4.rangeAt w.heap.size 0 (E s) := range_kept (range_kept (range_kept hbx hb2) hb3) hb4
  have hb04 : Below w.heap.size w w4 := bstep (bstep (bstep hb1 hb2) hb3) hb4
  have f1 := run_from a2 m k hk
  have f2 := run_upto a2 m k hk
  clear ho1 ho2 hbx hbox hb1 hb2 hb3 hb4 hr hr2
  refine wp_region_held (S := fun w' => w'.rangeAt w.heap.size 0 (E s)) (by kernel_rfl) ?_
  change wpAnyH _ _ _ _ _ _ _ _ (World.drew _)
  refine wpAnyH_take (i := 1) (v := .slice a1 n n) rfl (by kernel_rfl) (by kernel_rfl) (by kernel_rfl) (fun _ _ _ h => h) (Or.inl ⟨by rfl, fun _ _ => rfl⟩) hs4 ?_
  simp only [List.getElem_toArray, List.getElem_cons_succ, List.getElem_cons_zero, Act.put, List.setIfInBounds_toArray, List.set_cons_succ, List.set_cons_zero]
  refine wpAnyH_take (i := 3) (v := .slice a2 m m) rfl (by kernel_rfl) (by kernel_rfl) (by kernel_rfl) (fun _ _ _ h => h) (Or.inl ⟨by rfl, fun _ _ => rfl⟩) hs4 ?_
  simp only [List.getElem_toArray, List.getElem_cons_succ, List.getElem_cons_zero, Act.put, List.setIfInBounds_toArray, List.set_cons_succ, List.set_cons_zero]
  refine wpAnyH_take (i := 5) (v := .int .u64 mv) rfl (by kernel_rfl) (by kernel_rfl) (by kernel_rfl) (fun _ _ _ h => h) (Or.inl ⟨by rfl, fun _ _ => rfl⟩) hs4 ?_
  simp only [List.getElem_toArray, List.getElem_cons_succ, List.getElem_cons_zero, Act.put, List.setIfInBounds_toArray, List.set_cons_succ, List.set_cons_zero]
  refine wpAnyH_take (i := 0) (v := G s) rfl (by kernel_rfl) (by kernel_rfl) (by kernel_rfl) (fun _ _ _ h => h) (Or.inl ⟨by rfl, exec_ld 30 (.tmp 5) rfl _ _ s (.inl rfl) rfl⟩) hs4 ?_
  simp only [List.getElem_toArray, List.getElem_cons_succ, List.getElem_cons_zero, Act.put, List.setIfInBounds_toArray, List.set_cons_succ, List.set_cons_zero]
  refine wpAnyH_one (i := 2) (by kernel_rfl) rfl (fun K hK => ?_)
  go_simp
  go_wp2_with (go_at_call 11; refine (ids_any a1 n n xs _ ((q1).drewN 1) (by omega)).mono ?_; rintro e u1A ⟨b1A, rfl, ho1A, hc1A⟩)
  have hB1A : Below w4.heap.size w4 u1A := (below_drewN' (Below.refl _ _) 1).trans hc1A
  have hs1A := range_kept hs4 hB1A
  refine ⟨hs1A, ?_⟩
  refine wpAnyH_one (i := 4) (by kernel_rfl) rfl (fun K hK => ?_)
  go_simp
  go_wp2_with (go_at_call 11; refine (ids_any a2 m m ys _ ((q2).kept hB1A) (by omega)).mono ?_; rintro e u2A ⟨b2A, rfl, ho2A, hc2A⟩)
  have hB2A := bstep hB1A hc2A
  have hs2A := range_kept hs4 hB2A
  refine ⟨hs2A, ?_⟩
  refine wpAnyH_one (i := 6) (by kernel_rfl) rfl (fun K hK => ?_)
  go_simp
  go_wp2_with (go_at_call 17; refine (newTab_any s b1A _ _ b2A _ _ mv _).mono ?_; rintro e u3A ⟨gA, rfl, htA, hc3A⟩)
  have hB3A := bstep hB2A hc3A
  have hs3A := range_kept hs4 hB3A
  refine ⟨hs3A, ?_⟩
  refine wpAnyH_one (i := 7) (by kernel_rfl) rfl (fun K hK => ?_)
  go_simp
  go_wp2_with (go_at_call 18; refine (routing_any gA b1A _ _ b2A _ _ xs ys _ htA ((ho1A.rd.kept hc2A).kept hc3A) (ho2A.rd.kept hc3A) (by omega) (by omega)).mono ?_; rintro e u4A ⟨arA, crA, rfl, hRA, hc4A⟩)
  have hBA := bstep hB3A hc4A
  have hsA := range_kept hs4 hBA
  refine ⟨hsA, ?_⟩
  clear ho1A ho2A hc1A hc2A hc3A hc4A hB1A hB2A hB3A hs1A hs2A hs3A htA
  refine wpAnyH_one (i := 8) (by kernel_rfl) rfl (fun K hK => ?_)
  go_simp
  refine hK _ _ ?_
  clear hK K
  refine ⟨hsA, ?_⟩
  refine wpAnyH_done (by kernel_rfl) ?_ _
  have q1' := q1.kept hBA
  have q2' := q2.kept hBA
  have hb0A := bstep hb04 hBA
  clear q1 q2 hs4 hb04 hBA
  go_wp2_with fail
  refine wp_region_held (S := fun w' => w'.rangeAt w.heap.size 0 (E s)) (by kernel_rfl) ?_
  change wpAnyH _ _ _ _ _ _ _ _ (World.drew _)
  refine wpAnyH_take (i := 1) (v := .slice a1 n n) rfl (by kernel_rfl) (by kernel_rfl) (by kernel_rfl) (fun _ _ _ h => h) (Or.inl ⟨by rfl, fun _ _ => rfl⟩) hsA ?_
  simp only [List.getElem_toArray, List.getElem_cons_succ, List.getElem_cons_zero, Act.put, List.setIfInBounds_toArray, List.set_cons_succ, List.set_cons_zero]
  refine wpAnyH_take (i := 3) (v := .slice a2 m m) rfl (by kernel_rfl) (by kernel_rfl) (by kernel_rfl) (fun _ _ _ h => h) (Or.inl ⟨by rfl, fun _ _ => rfl⟩) hsA ?_
  simp only [List.getElem_toArray, List.getElem_cons_succ, List.getElem_cons_zero, Act.put, List.setIfInBounds_toArray, List.set_cons_succ, List.set_cons_zero]
  refine wpAnyH_take (i := 4) (v := .int .i64 k) rfl (by kernel_rfl) (by kernel_rfl) (by kernel_rfl) (fun _ _ _ h => h) (Or.inl ⟨by rfl, fun _ _ => rfl⟩) hsA ?_
  simp only [List.getElem_toArray, List.getElem_cons_succ, List.getElem_cons_zero, Act.put, List.setIfInBounds_toArray, List.set_cons_succ, List.set_cons_zero]
  refine wpAnyH_take (i := 5) (v := .slice a2 k m) rfl (by kernel_rfl) (by kernel_rfl) (by kernel_rfl) (fun _ _ _ h => h) (Or.inl ⟨by rfl, fun w _ => by refine exec_slice 22 (.tmp 54) none (some (.tmp 55)) none rfl _ ?_ w; exact f2⟩) hsA ?_
  simp only [List.getElem_toArray, List.getElem_cons_succ, List.getElem_cons_zero, Act.put, List.setIfInBounds_toArray, List.set_cons_succ, List.set_cons_zero]
  refine wpAnyH_take (i := 7) (v := .int .u64 mv) rfl (by kernel_rfl) (by kernel_rfl) (by kernel_rfl) (fun _ _ _ h => h) (Or.inl ⟨by rfl, fun _ _ => rfl⟩) hsA ?_
  simp only [List.getElem_toArray, List.getElem_cons_succ, List.getElem_cons_zero, Act.put, List.setIfInBounds_toArray, List.set_cons_succ, List.set_cons_zero]
  refine wpAnyH_take (i := 0) (v := G s) rfl (by kernel_rfl) (by kernel_rfl) (by kernel_rfl) (fun _ _ _ h => h) (Or.inl ⟨by rfl, exec_ld 30 (.tmp 5) rfl _ _ s (.inl rfl) rfl⟩) hsA ?_
  simp only [List.getElem_toArray, List.getElem_cons_succ, List.getElem_cons_zero, Act.put, List.setIfInBounds_toArray, List.set_cons_succ, List.set_cons_zero]
  refine wpAnyH_one (i := 2) (by kernel_rfl) rfl (fun K hK => ?_)
  go_simp
  go_wp2_with (go_at_call 11; refine (ids_any a1 n n xs _ ((q1').drewN 1) (by omega)).mono ?_; rintro e u1B ⟨b1B, rfl, ho1B, hc1B⟩)
  have hB1B : Below u4A.heap.size u4A u1B := (below_drewN' (Below.refl _ _) 1).trans hc1B
  have hs1B := range_kept hsA hB1B
  refine ⟨hs1B, ?_⟩
  refine wpAnyH_one (i := 6) (by kernel_rfl) rfl (fun K hK => ?_)
  go_simp
  go_wp2_with (go_at_call 11; refine (ids_any a2 k m (ys.take k) _ (((Rd.take q2' hk)).kept hB1B) (by omega)).mono ?_; rintro e u2B ⟨b2B, rfl, ho2B, hc2B⟩)
  have hB2B := bstep hB1B hc2B
  have hs2B := range_kept hsA hB2B
  refine ⟨hs2B, ?_⟩
  refine wpAnyH_one (i := 8) (by kernel_rfl) rfl (fun K hK => ?_)
  go_simp
  go_wp2_with (go_at_call 17; refine (newTab_any s b1B _ _ b2B _ _ mv _).mono ?_; rintro e u3B ⟨gB, rfl, htB, hc3B⟩)
  have hB3B := bstep hB2B hc3B
  have hs3B := range_kept hsA hB3B
  refine ⟨hs3B, ?_⟩
  refine wpAnyH_one (i := 9) (by kernel_rfl) rfl (fun K hK => ?_)
  go_simp
  go_wp2_with (go_at_call 18; refine (routing_any gB b1B _ _ b2B _ _ xs (ys.take k) _ htB ((ho1B.rd.kept hc2B).kept hc3B) (ho2B.rd.kept hc3B) (by omega) (by omega)).mono ?_; rintro e u4B ⟨arB, crB, rfl, hRB, hc4B⟩)
  have hBB := bstep hB3B hc4B
  have hsB := range_kept hsA hBB
  refine ⟨hsB, ?_⟩
  clear ho1B ho2B hc1B hc2B hc3B hc4B hB1B hB2B hB3B hs1B hs2B hs3B htB
  refine wpAnyH_one (i := 10) (by kernel_rfl) rfl (fun K hK => ?_)
  go_simp
  refine hK _ _ ?_
  clear hK K
  refine ⟨hsB, ?_⟩
  refine wpAnyH_done (by kernel_rfl) ?_ _
  have hRA' := hRA.kept hBB
  have p1 := q1'.kept hBB
  have p2 := q2'.kept hBB
  have hb0B := bstep hb0A hBB
  clear hRA q1' q2' hsA hb0A hBB
  have hlB : (rp xs (ys.take k)).length ≤ n + m := by omega
  have hlA : (rp xs ys).length ≤ n + m := by omega
  have hlA2 : n ≤ (rp xs ys).length := by omega
  have HWH : Hid (∀ i (h : i < xs.length), (rp xs ys)[i]? = some xs[i]) := fun i h => by rw [rp_head xs ys i h, List.getElem?_eq_getElem h]
  have HWM : Hid (∀ v, v ∈ ys → hasV (rp xs ys) v = true) := fun v hv => hasV_true.2 (rp_mem.2 (.inr hv))
  generalize rp xs ys = L at hRA' hlA hlA2 HWH HWM hsp hlen hge
  generalize rp xs (ys.take k) = M at hRB hlB hsp hlen2
  have hMi : ¬ ((n : Int) + (m : Int) < (M.length : Int)) := by omega
  have hLi : decide (L.length < n) = false := by simp; omega
  have hLj : decide ((n : Int) + (m : Int) < (L.length : Int)) = false := by simp; omega
  go_wp2_with fail
  refine wp_region_held (S := fun w' => w'.rangeAt w.heap.size 0 (E s)) (by kernel_rfl) ?_
  change wpAnyH _ _ _ _ _ _ _ _ (World.drew _)
  refine wpAnyH_take (i := 1) (v := .slice arB M.length crB) rfl (by kernel_rfl) (by kernel_rfl) (by kernel_rfl) (fun _ _ _ h => h) (Or.inl ⟨by rfl, fun _ _ => rfl⟩) hsB ?_
  simp only [List.getElem_toArray, List.getElem_cons_succ, List.getElem_cons_zero, Act.put, List.setIfInBounds_toArray, List.set_cons_succ, List.set_cons_zero]
  refine wpAnyH_take (i := 3) (v := .slice a2 m m) rfl (by kernel_rfl) (by kernel_rfl) (by kernel_rfl) (fun _ _ _ h => h) (Or.inl ⟨by rfl, fun _ _ => rfl⟩) hsB ?_
  simp only [List.getElem_toArray, List.getElem_cons_succ, List.getElem_cons_zero, Act.put, List.setIfInBounds_toArray, List.set_cons_succ, List.set_cons_zero]
  refine wpAnyH_take (i := 4) (v := .int .i64 k) rfl (by kernel_rfl) (by kernel_rfl) (by kernel_rfl) (fun _ _ _ h => h) (Or.inl ⟨by rfl, fun _ _ => rfl⟩) hsB ?_
  simp only [List.getElem_toArray, List.getElem_cons_succ, List.getElem_cons_zero, Act.put, List.setIfInBounds_toArray, List.set_cons_succ, List.set_cons_zero]
  refine wpAnyH_take (i := 5) (v := .slice (lo a2 m k) (m - k) (m - k)) rfl (by kernel_rfl) (by kernel_rfl) (by kernel_rfl) (fun _ _ _ h => h) (Or.inl ⟨by rfl, fun w _ => by refine exec_slice 22 (.tmp 72) (some (.tmp 73)) none none rfl _ ?_ w; exact f1⟩) hsB ?_
  simp only [List.getElem_toArray, List.getElem_cons_succ, List.getElem_cons_zero, Act.put, List.setIfInBounds_toArray, List.set_cons_succ, List.set_cons_zero]
  refine wpAnyH_take (i := 7) (v := .int .u64 mv) rfl (by kernel_rfl) (by kernel_rfl) (by kernel_rfl) (fun _ _ _ h => h) (Or.inl ⟨by rfl, fun _ _ => rfl⟩) hsB ?_
  simp only [List.getElem_toArray, List.getElem_cons_succ, List.getElem_cons_zero, Act.put, List.setIfInBounds_toArray, List.set_cons_succ, List.set_cons_zero]
  refine wpAnyH_take (i := 0) (v := G s) rfl (by kernel_rfl) (by kernel_rfl) (by kernel_rfl) (fun _ _ _ h => h) (Or.inl ⟨by rfl, exec_ld 30 (.tmp 5) rfl _ _ s (.inl rfl) rfl⟩) hsB ?_
  simp only [List.getElem_toArray, List.getElem_cons_succ, List.getElem_cons_zero, Act.put, List.setIfInBounds_toArray, List.set_cons_succ, List.set_cons_zero]
  refine wpAnyH_one (i := 2) (by kernel_rfl) rfl (fun K hK => ?_)
  go_simp
  go_wp2_with (go_at_call 20; refine (copyIDs_any arB M.length crB M _ ((hRB).drewN 1) (by omega)).mono ?_; rintro e u1C ⟨b1C, rfl, ho1C, hc1C⟩)
  have hB1C : Below u4B.heap.size u4B u1C := (below_drewN' (Below.refl _ _) 1).trans hc1C
  have hs1C := range_kept hsB hB1C
  refine ⟨hs1C, ?_⟩
  refine wpAnyH_one (i := 6) (by kernel_rfl) rfl (fun K hK => ?_)
  go_simp
  go_wp2_with (go_at_call 11; refine (ids_any (lo a2 m k) (m - k) (m - k) (ys.drop k) _ (((Rd.drop p2 hk)).kept hB1C) (by omega)).mono ?_; rintro e u2C ⟨b2C, rfl, ho2C, hc2C⟩)
  have hB2C := bstep hB1C hc2C
  have hs2C := range_kept hsB hB2C
  refine ⟨hs2C, ?_⟩
  refine wpAnyH_one (i := 8) (by kernel_rfl) rfl (fun K hK => ?_)
  go_simp
  go_wp2_with (go_at_call 17; refine (newTab_any s b1C _ _ b2C _ _ mv _).mono ?_; rintro e u3C ⟨gC, rfl, htC, hc3C⟩)
  have hB3C := bstep hB2C hc3C
  have hs3C := range_kept hsB hB3C
  refine ⟨hs3C, ?_⟩
  refine wpAnyH_one (i := 9) (by kernel_rfl) rfl (fun K hK => ?_)
  go_simp
  go_wp2_with (go_at_call 18; refine (routing_any gC b1C _ _ b2C _ _ M (ys.drop k) _ htC ((ho1C.rd.kept hc2C).kept hc3C) (ho2C.rd.kept hc3C) (by omega) (by omega)).mono ?_; rintro e u4C ⟨arC, crC, rfl, hRC, hc4C⟩; rw [hsp] at hRC ⊢)
  have hBC := bstep hB3C hc4C
  have hsC := range_kept hsB hBC
  refine ⟨hsC, ?_⟩
  clear ho1C ho2C hc1C hc2C hc3C hc4C hB1C hB2C hB3C hs1C hs2C hs3C htC
  refine wpAnyH_one (i := 10) (by kernel_rfl) rfl (fun K hK => ?_)
  go_simp
  refine hK _ _ ?_
  clear hK K
  refine ⟨hsC, ?_⟩
  refine wpAnyH_done (by kernel_rfl) ?_ _
  have hE : eqL L L = true := by simp [eqL]
  have z1 := p1.kept hBC
  have z2 := p2.kept hBC
  have zL := hRA'.kept hBC
  have hb0C := bstep hb0B hBC
  clear hRB p1 p2 hRA' hsB hsC hBC hb0B f1 f2 hsp hlen hge hlen2 htk
  go_wp2_with (go_at_call 21; refine (sameIDs_any arC L.length crC arA L.length crA L L u4C hRC zL (by omega)).mono ?_; rintro e w7 ⟨rfl, hb7⟩; rw [hE])
  have y1 := z1.kept hb7
  have y2 := z2.kept hb7
  have yL := zL.kept hb7
  have hb07 := bstep hb0C hb7
  clear z1 z2 zL hb0C hb7 hRC hE
  go_loopw [14] (fun i wr => ∃ (j : Nat), j ≤ n ∧ i = .int .i64 j ∧ Below w7.heap.size w7 wr) (fun i _ => n - (intOf i).toNat)
  case atStart => exact ⟨0, Nat.zero_le _, rfl, Below.refl _ _⟩
  case round =>
    obtain ⟨j, hj, rfl, hbel⟩ := hrel
    by_cases hlt : j < n
    · obtain ⟨b1, o1, rfl, hrng⟩ := (yL.kept hbel).at j (by omega)
      obtain ⟨b3, o3, rfl, hrng2⟩ := (y1.kept hbel).at j hlt
      have hkx : j < L.length := by omega
      have hky : j < xs.length := by omega
      have hx := hrng j hkx
      have hy := hrng2 j hky
      have e : L[j] = xs[j] := by
        have := HWH.out j hky
        rw [List.getElem?_eq_getElem hkx] at this
        simpa using this
      rw [e] at hx
      generalize xs[j] = u at hx hy
      clear hrng hrng2 e
      go_wp2
      refine wp_region_quiet_lit (by kernel_rfl) (by kernel_rfl) ?_
      repeat (first | go_big_quiet_skip | (go_big_quiet_want; first | (refine quiet_ld 36 _ rfl _ _ _ (.inr rfl) hx rfl ?_; go_big_quiet_on; try simp only [Act.put, List.setIfInBounds_toArray, List.set_cons_succ, List.set_cons_zero]) | (refine quiet_ld 30 _ rfl _ _ _ (.inl rfl) hy rfl ?_; go_big_quiet_on; try simp only [Act.put, List.setIfInBounds_toArray, List.set_cons_succ, List.set_cons_zero]) | (refine quiet_nf 30 _ _ _ rfl _ (.inl rfl) rfl rfl ?_; go_big_quiet_on; try simp only [Act.put, List.setIfInBounds_toArray, List.set_cons_succ, List.set_cons_zero]) | (go_big_quiet_op; go_big_quiet_on)))
      refine wpQuiet_nil ?_
      intro _ hw'
      obtain ⟨nq, hw''⟩ := hw'
      subst hw''
      go_wp2
      go_roundw
      case rel => exact ⟨j + 1, by omega, by go_num, below_drewN' hbel _⟩
      case measure => simp [intOf]; omega
    · go_wp2
      go_loopw [15] (fun i wr => ∃ (j : Nat), j ≤ m ∧ i = .int .i64 j ∧ Below w7.heap.size w7 wr) (fun i _ => m - (intOf i).toNat)
      case atStart => exact ⟨0, Nat.zero_le _, rfl, hbel⟩
      case round =>
        clear hbel
        obtain ⟨j, hj, rfl, hbel⟩ := hrel
        by_cases hltm : j < m
        · obtain ⟨b3, o3, rfl, hrng2⟩ := (y2.kept hbel).at j hltm
          have hky : j < ys.length := by omega
          have hy := hrng2 j hky
          have hh := HWM.out ys[j] (List.getElem_mem hky)
          generalize ys[j] = u at hy hh
          clear hrng2
          go_wp2_with (first
            | (refine wpList_ld rfl 30 _ rfl _ _ u (.inl rfl) hy rfl ?_)
            | (go_at_call 23; refine (hasID_any arA L.length crA L u wr (yL.kept hbel) (by omega)).mono ?_; rintro e w8 ⟨rfl, hb8⟩; rw [hh]))
          go_roundw
          case rel => exact ⟨j + 1, by omega, by go_num, bstep hbel hb8⟩
          case measure => simp [intOf]; omega
        · go_wp2
          go_ret
          exact ⟨rfl, bstep hb07 hbel⟩

set_option maxRecDepth 100000 in
set_option maxHeartbeats 1600000 in
theorem fn6_edge (s : V) (a : Option Addr) (n c : Nat) (b : Option Addr) (m d : Nat) (mv k : Int) (w : World) (h : 1024 < n ∨ (n ≤ 1024 ∧ (1024 < m ∨ (m ≤ 1024 ∧ (k < 0 ∨ (m : Int) < k))))) :
    Calls Try.prog 6 #[G s, .slice a n c, .slice b m d, .int .u64 mv, .int .i64 k] w fun e w' => e = .returned (.bool true) ∧ Below w.heap.size w w' := by
  rcases h with h | ⟨h, h' | ⟨h', h'' | h''⟩⟩
  all_goals
    go_enter Try.func6, Try.ntmps6
    go_wp2_with (first
      | (refine wpList_bx rfl 30 _ rfl s rfl ?_; intro w1 hbox hgr; have hb1 : Below w.heap.size w w1 := (Below.refl _ _).grown hgr (Nat.le_refl _) (by simp); have hbx : w1.rangeAt w.heap.size 0 (E s) := by { have hbx := hbox.at 0 (by simp); simpa using hbx }; clear hgr)
      | (refine wpList_ld rfl 30 _ rfl _ _ s (.inl rfl) hbx rfl ?_)
      | (go_at_call 22; refine (bytes6_any _ _ _ _ _ _ _ _ _ _).mono ?_; rintro e w2 ⟨⟨bb, rfl⟩, hb2⟩))
    all_goals
      go_ret
      exact ⟨rfl, bstep hb1 hb2⟩

theorem fn6_any (s : V) (a : Option Addr) (n c : Nat) (b : Option Addr) (m d : Nat) (mv k : Int) (xs ys : List V) (w : World) (hr : Rd w a n xs) (hr2 : Rd w b m ys) :
    Calls Try.prog 6 #[G s, .slice a n c, .slice b m d, .int .u64 mv, .int .i64 k] w fun e w' => e = .returned (.bool true) ∧ Below w.heap.size w w' := by
  by_cases h : 1024 < n ∨ (n ≤ 1024 ∧ (1024 < m ∨ (m ≤ 1024 ∧ (k < 0 ∨ (m : Int) < k))))
  · exact fn6_edge s a n c b m d mv k w h
  · obtain ⟨k', rfl⟩ : ∃ k' : Nat, k = (k' : Int) := ⟨k.toNat, by omega⟩
    exact fn6_main s a n c b m d mv k' xs ys w hr hr2 (by omega) (by omega) (by omega)

end Go.Proofs.Qxb6619637a
