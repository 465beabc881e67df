/-
  Seat b6623312a: zzEncodeToken: the walk. Our own text.
-/
import Derived.Test.Qxb6623312aLaw
namespace Go.Proofs.Qxb6623312a
open Go.RowKit
set_option linter.unusedSimpArgs false
set_option linter.unusedVariables false

/-- The slice reads as these bytes. -/
def Bt (w : World) (a : Option Addr) (n : Nat) (ms : List Int) : Prop := ms.length = n ∧ ∀ j (h : j < ms.length), ∃ b o, a = some ⟨b, o, none⟩ ∧ w.cell? ⟨b, o + j, none⟩ = some (.int .u8 ms[j]) ∧ 0 ≤ ms[j] ∧ ms[j] ≤ 255
theorem Bt.kept {w w' : World} {a : Option Addr} {n : Nat} {ms : List Int} (h : Bt w a n ms) (hb : Below w.heap.size w w') : Bt w' a n ms :=
  ⟨h.1, fun j hj => by
    obtain ⟨b, o, e, hc, hr⟩ := h.2 j hj
    exact ⟨b, o, e, by rw [hb.cell (p := ⟨b, _, none⟩) (block_lt_of_cell hc)]; exact hc, hr⟩⟩
/-- What has been written. -/
abbrev Wr (w : World) (B cap : Nat) (ys : List Int) : Prop := w.ownsRow B 5 1 (.slice (some ⟨B, 0, none⟩) ys.length cap) ys.length (ys.map (Value.int .u8))
theorem alloc_grown (w : World) (o : Obj) : w.grownBy (w.alloc o) none := ⟨rfl, rfl, rfl, by simp, fun k hk _ => Below.heap_alloc w o k hk⟩
theorem Wr.new {w : World} {B cap : Nat} {ys : List Int} (h : Wr w B cap ys) (o : Obj) : Wr (w.alloc o) B cap ys := World.ownsRow.kept h (alloc_grown w o) (.inr (by simp [Value.ownBlock]))
theorem cells_new (w : World) (xs : List Value) (t : TypeId) : ∀ (j : Nat) u, xs[j]? = some u → (w.alloc (.cells xs.toArray t)).cell? ((⟨w.heap.size, 0, none⟩ : Addr).add j) = some u := fun j u h => by
  have hadd : (⟨w.heap.size, 0, none⟩ : Addr).add j = ⟨w.heap.size, j, none⟩ := by unfold Addr.add; split <;> simp_all
  rw [hadd, cell_of_row _ _ _ xs.toArray t (0, 0) (by show (w.heap.push _)[w.heap.size]? = _; simp)]
  simpa using h
theorem one1 (x : Int) : ∀ u ∈ [Value.int .u8 x], u.oneCell' = true := by intro u hu; simp only [List.mem_singleton] at hu; subst hu; rfl
theorem one3 (x y z : Int) : ∀ u ∈ [Value.int .u8 x, Value.int .u8 y, Value.int .u8 z], u.oneCell' = true := by
  intro u hu; simp only [List.mem_cons, List.mem_nil_iff, or_false] at hu; rcases hu with rfl | rfl | rfl <;> rfl
theorem Wr.step {w : World} {B cap m : Nat} {ys t zs : List Int} (hm : t.length = m) (h : w.ownsRow B 5 1 (.slice (some ⟨B, 0, none⟩) (ys.length + m) cap) (ys.length + m) (ys.map (Value.int .u8) ++ t.map (Value.int .u8))) (e : zs = ys ++ t) : Wr w B cap zs := by
  subst e hm; simpa [Wr] using h
theorem len_step {B cap m : Nat} {ys t zs : List Int} (hm : t.length = m) (e : zs = ys ++ t) : Value.slice (some ⟨B, 0, none⟩) (ys.length + m) cap = Value.slice (some ⟨B, 0, none⟩) zs.length cap := by
  subst e hm; simp

set_option maxRecDepth 100000 in
set_option maxHeartbeats 4000000 in
theorem tok_any (tok : ByteArray) (a : Option Addr) (n ca : Nat) (ms : List Int) (w : World) (hs : tok.size ≤ 65536) (hn : n ≤ 65536) (hm : Bt w a n ms) :
    Calls Try.prog 6 #[.string tok, .slice a n ca] w fun e w' => e = .returned (.slice (some ⟨w.heap.size, 0, none⟩) (encK (L tok) ms tok.size).length (3 * tok.size)) ∧ Wr w' w.heap.size (3 * tok.size) (encK (L tok) ms tok.size) ∧ Below w.heap.size w w' := by
  have hml := hm.1
  obtain ⟨i0, hi, hz0, hz1, hz2⟩ := info_parts full5
  go_enter Try.func6, Try.ntmps6
  go_wp2_with (at_make; refine wpList_make_own _ rfl _ _ 22 rfl w.heap.size 5 i0 _ 1 Try.underlying22 hi hz0 hz1 _ _ _ (3 * tok.size) rfl rfl (by omega) (by rw [hz2]; omega) (by unfold maxLen; omega) (Nat.le_refl _) ?_)
  intro w1 hown hgrow
  go_wp2
  go_loopw [5, 6] (fun u i wr => ∃ (k : Nat), k ≤ tok.size ∧ i = .int .i64 k ∧ u = .slice (some ⟨w.heap.size, 0, none⟩) (encK (L tok) ms k).length (3 * tok.size) ∧ Wr wr w.heap.size (3 * tok.size) (encK (L tok) ms k) ∧ Below w.heap.size w wr) (fun _ i _ => tok.size - (intOf i).toNat)
  case atStart => exact ⟨0, Nat.zero_le _, rfl, rfl, hown, (Below.refl _ _).grown hgrow (Nat.le_refl _) (by simp)⟩
  case round =>
    clear hown
    obtain ⟨k, hk, rfl, rfl, hown, hbel⟩ := hrel
    by_cases hlt : k < tok.size
    · have hb := u8_le tok[k]
      have hg : (L tok).getD k 0 = (tok[k].toNat : Int) := by simp [List.getD, L_get tok k hlt]
      have hel := (encK_len (L tok) ms k).2
      have HS : Hid (encK (L tok) ms (k + 1) = encK (L tok) ms k ++ enc1 (tok[k].toNat : Int) (mm ms k)) := by rw [Hid, encK, hg]
      clear hg
      generalize encK (L tok) ms k = E at hown HS hel
      generalize hcv : (tok[k].toNat : Int) = c at hb HS
      have hc0 : 0 ≤ c := by omega
      by_cases hkn : k < n
      · obtain ⟨b, o, rfl, hc, hv0, hv1⟩ := (hm.kept hbel).2 k (by omega)
        have hmm : mm ms k = ms[k]'(by omega) % 4 := by simp [mm, List.getD, show k < ms.length by omega]
        rw [hmm] at HS
        clear hmm
        generalize ms[k]'(by omega) = v at hc hv0 hv1 HS
        by_cases h32 : c = 32
        · by_cases q3 : v % 4 = 3
          · have c32 : (c == 32) = true := by simp <;> omega
            have c37 : (c == 37) = false := by simp <;> omega
            have m0 : (v % 4 == 0) = false := by simp <;> omega
            have m2 : (v % 4 == 2) = false := by simp <;> omega
            have m3 : (v % 4 == 3) = true := by simp <;> omega
            have HE : Hid (encK (L tok) ms (k + 1) = E ++ [43]) := by rw [Hid, HS.out, enc1_plus (by omega)]
            clear HS
            go_wp2_with (at_builtin; refine wpList_append_fits _ rfl _ _ 22 rfl w.heap.size 5 i0 1 Try.underlying22 hi hz1 w.heap.size E.length (3 * tok.size) _ rfl (Wr.new hown _) ⟨wr.heap.size, 0, none⟩ 1 1 [.int .u8 43] rfl rfl (cells_new _ _ _) (one1 _) (by omega) ?_; intro w2 hown2 hgr2)
            go_roundw
            case rel => exact ⟨k + 1, by omega, by go_num, len_step rfl HE.out, Wr.step rfl hown2 HE.out, (hbel.alloc hbel.size _).grown hgr2 (by simp; exact Nat.le_succ_of_le hbel.size) (by simp)⟩
            case measure => simp [intOf]; omega
          · by_cases q0 : v % 4 = 0
            · have c32 : (c == 32) = true := by simp <;> omega
              have c37 : (c == 37) = false := by simp <;> omega
              have m0 : (v % 4 == 0) = true := by simp <;> omega
              have m2 : (v % 4 == 2) = false := by simp <;> omega
              have m3 : (v % 4 == 3) = false := by simp <;> omega
              have HE : Hid (encK (L tok) ms (k + 1) = E ++ [32]) := by rw [Hid, HS.out, enc1_raw (by omega) (by omega), h32]
              clear HS
              go_wp2_with (at_builtin; refine wpList_append_fits _ rfl _ _ 22 rfl w.heap.size 5 i0 1 Try.underlying22 hi hz1 w.heap.size E.length (3 * tok.size) _ rfl (Wr.new hown _) ⟨wr.heap.size, 0, none⟩ 1 1 [.int .u8 32] rfl rfl (cells_new _ _ _) (one1 _) (by omega) ?_; intro w2 hown2 hgr2)
              go_roundw
              case rel => exact ⟨k + 1, by omega, by go_num, len_step rfl HE.out, Wr.step rfl hown2 HE.out, (hbel.alloc hbel.size _).grown hgr2 (by simp; exact Nat.le_succ_of_le hbel.size) (by simp)⟩
              case measure => simp [intOf]; omega
            · by_cases q2 : v % 4 = 2
              · have c32 : (c == 32) = true := by simp <;> omega
                have c37 : (c == 37) = false := by simp <;> omega
                have m0 : (v % 4 == 0) = false := by simp <;> omega
                have m2 : (v % 4 == 2) = true := by simp <;> omega
                have m3 : (v % 4 == 3) = false := by simp <;> omega
                have HE : Hid (encK (L tok) ms (k + 1) = E ++ [37, hexL (32 / 16), hexL (32 % 16)]) := by rw [Hid, HS.out, enc1_low (by omega) (by omega) (by omega), h32]
                clear HS
                go_wp2
                refine wp_region_any (by kernel_rfl) ?_
                change wpAny _ _ _ _ _ _ _ (World.drew _)
                refine wpAny_take (i := 0) (v := .slice (some ⟨w.heap.size, 0, none⟩) E.length (3 * tok.size)) rfl (by kernel_rfl) (by kernel_rfl) (by kernel_rfl) (fun _ _ _ h => h) (Or.inl ⟨by rfl, fun _ => rfl⟩) ?_
                simp only [List.getElem_toArray, List.getElem_cons_succ, List.getElem_cons_zero, Act.put, List.setIfInBounds_toArray, List.set_cons_succ, List.set_cons_zero]
                refine wpAny_take (i := 1) (v := .int .u8 32) rfl (by kernel_rfl) (by kernel_rfl) (by kernel_rfl) (fun _ _ _ h => h) (Or.inl ⟨by rfl, fun _ => rfl⟩) ?_
                simp only [List.getElem_toArray, List.getElem_cons_succ, List.getElem_cons_zero, Act.put, List.setIfInBounds_toArray, List.set_cons_succ, List.set_cons_zero]
                refine wpAny_take (i := 2) (v := .int .u8 (32 / 16)) rfl (by kernel_rfl) (by kernel_rfl) (by kernel_rfl) (fun _ _ _ h => h) (Or.inl ⟨by rfl, exec_shr (.tmp 69) (.const (.int .u64 4)) rfl 32 rfl rfl (by omega) (by omega)⟩) ?_
                simp only [List.getElem_toArray, List.getElem_cons_succ, List.getElem_cons_zero, Act.put, List.setIfInBounds_toArray, List.set_cons_succ, List.set_cons_zero]
                refine wpAny_take (i := 3) (v := .int .u8 (hexL (32 / 16))) rfl (by kernel_rfl) (by kernel_rfl) (by kernel_rfl) (fun _ _ _ h => h) (Or.inl ⟨by rfl, exec_dig digL hexL (.inl ⟨rfl, rfl⟩) (.const (.string digL)) (.tmp 70) rfl (32 / 16) rfl rfl (by omega) (by omega)⟩) ?_
                simp only [List.getElem_toArray, List.getElem_cons_succ, List.getElem_cons_zero, Act.put, List.setIfInBounds_toArray, List.set_cons_succ, List.set_cons_zero]
                refine wpAny_take (i := 4) (v := .int .u8 32) rfl (by kernel_rfl) (by kernel_rfl) (by kernel_rfl) (fun _ _ _ h => h) (Or.inl ⟨by rfl, fun _ => rfl⟩) ?_
                simp only [List.getElem_toArray, List.getElem_cons_succ, List.getElem_cons_zero, Act.put, List.setIfInBounds_toArray, List.set_cons_succ, List.set_cons_zero]
                refine wpAny_take (i := 5) (v := .int .u8 (32 % 16)) rfl (by kernel_rfl) (by kernel_rfl) (by kernel_rfl) (fun _ _ _ h => h) (Or.inl ⟨by rfl, exec_and (.tmp 72) (.const (.int .u8 15)) rfl 32 rfl rfl (by omega) (by omega)⟩) ?_
                simp only [List.getElem_toArray, List.getElem_cons_succ, List.getElem_cons_zero, Act.put, List.setIfInBounds_toArray, List.set_cons_succ, List.set_cons_zero]
                refine wpAny_take (i := 6) (v := .int .u8 (hexL (32 % 16))) rfl (by kernel_rfl) (by kernel_rfl) (by kernel_rfl) (fun _ _ _ h => h) (Or.inl ⟨by rfl, exec_dig digL hexL (.inl ⟨rfl, rfl⟩) (.const (.string digL)) (.tmp 73) rfl (32 % 16) rfl rfl (by omega) (by omega)⟩) ?_
                simp only [List.getElem_toArray, List.getElem_cons_succ, List.getElem_cons_zero, Act.put, List.setIfInBounds_toArray, List.set_cons_succ, List.set_cons_zero]
                refine wpAny_ready (rs := [7]) (by kernel_rfl) (by simp) ?_
                refine AllReady.cons rfl (fun K hK => ?_) AllReady.nil
                refine step_bs3 (by rfl) (.const (.int .u8 37)) (.tmp 71) (.tmp 74) rfl (hexL (32 / 16)) (hexL (32 % 16)) rfl rfl rfl ?_
                refine hK _ _ ?_
                clear hK K
                simp only [List.getElem_toArray, List.getElem_cons_succ, List.getElem_cons_zero, Act.put, List.setIfInBounds_toArray, List.set_cons_succ, List.set_cons_zero]
                refine wpAny_ready (rs := [8]) (by kernel_rfl) (by simp) ?_
                refine AllReady.cons rfl (fun K hK => ?_) AllReady.nil
                refine step_app (by rfl) (.tmp 68) (.tmp 75) rfl w.heap.size w.heap.size E.length (3 * tok.size) _ rfl (Wr.new (World.ownsRow.drew hown) _) ⟨wr.heap.size, 0, none⟩ 3 3 [.int .u8 37, .int .u8 (hexL (32 / 16)), .int .u8 (hexL (32 % 16))] rfl rfl (cells_new _ _ _) (one3 _ _ _) (by omega) ?_
                intro w2 hown2 hgr2
                refine hK _ _ ?_
                clear hK K
                simp only [List.getElem_toArray, List.getElem_cons_succ, List.getElem_cons_zero, Act.put, List.setIfInBounds_toArray, List.set_cons_succ, List.set_cons_zero]
                refine wpAny_ready (rs := [9]) (by kernel_rfl) (by simp) ?_
                refine AllReady.cons rfl (fun K hK => ?_) AllReady.nil
                go_simp
                refine hK _ _ ?_
                clear hK K
                refine wpAny_done (by kernel_rfl) ?_ _
                go_wp2
                go_roundw
                case rel => exact ⟨k + 1, by omega, by go_num, len_step (t := [37, hexL (32 / 16), hexL (32 % 16)]) rfl HE.out, Wr.step (t := [37, hexL (32 / 16), hexL (32 % 16)]) rfl hown2 HE.out, (hbel.drew.alloc hbel.size _).grown hgr2 (by simp; exact Nat.le_succ_of_le hbel.size) (by simp)⟩
                case measure => simp [intOf]; omega
              · have c32 : (c == 32) = true := by simp <;> omega
                have c37 : (c == 37) = false := by simp <;> omega
                have m0 : (v % 4 == 0) = false := by simp <;> omega
                have m2 : (v % 4 == 2) = false := by simp <;> omega
                have m3 : (v % 4 == 3) = false := by simp <;> omega
                have HE : Hid (encK (L tok) ms (k + 1) = E ++ [37, hexU (32 / 16), hexU (32 % 16)]) := by rw [Hid, HS.out, enc1_up (by omega) (by omega) (by omega), h32]
                clear HS
                go_wp2
                refine wp_region_any (by kernel_rfl) ?_
                change wpAny _ _ _ _ _ _ _ (World.drew _)
                refine wpAny_take (i := 0) (v := .slice (some ⟨w.heap.size, 0, none⟩) E.length (3 * tok.size)) rfl (by kernel_rfl) (by kernel_rfl) (by kernel_rfl) (fun _ _ _ h => h) (Or.inl ⟨by rfl, fun _ => rfl⟩) ?_
                simp only [List.getElem_toArray, List.getElem_cons_succ, List.getElem_cons_zero, Act.put, List.setIfInBounds_toArray, List.set_cons_succ, List.set_cons_zero]
                refine wpAny_take (i := 1) (v := .int .u8 32) rfl (by kernel_rfl) (by kernel_rfl) (by kernel_rfl) (fun _ _ _ h => h) (Or.inl ⟨by rfl, fun _ => rfl⟩) ?_
                simp only [List.getElem_toArray, List.getElem_cons_succ, List.getElem_cons_zero, Act.put, List.setIfInBounds_toArray, List.set_cons_succ, List.set_cons_zero]
                refine wpAny_take (i := 2) (v := .int .u8 (32 / 16)) rfl (by kernel_rfl) (by kernel_rfl) (by kernel_rfl) (fun _ _ _ h => h) (Or.inl ⟨by rfl, exec_shr (.tmp 32) (.const (.int .u64 4)) rfl 32 rfl rfl (by omega) (by omega)⟩) ?_
                simp only [List.getElem_toArray, List.getElem_cons_succ, List.getElem_cons_zero, Act.put, List.setIfInBounds_toArray, List.set_cons_succ, List.set_cons_zero]
                refine wpAny_take (i := 3) (v := .int .u8 (hexU (32 / 16))) rfl (by kernel_rfl) (by kernel_rfl) (by kernel_rfl) (fun _ _ _ h => h) (Or.inl ⟨by rfl, exec_dig digU hexU (.inr ⟨rfl, rfl⟩) (.const (.string digU)) (.tmp 33) rfl (32 / 16) rfl rfl (by omega) (by omega)⟩) ?_
                simp only [List.getElem_toArray, List.getElem_cons_succ, List.getElem_cons_zero, Act.put, List.setIfInBounds_toArray, List.set_cons_succ, List.set_cons_zero]
                refine wpAny_take (i := 4) (v := .int .u8 32) rfl (by kernel_rfl) (by kernel_rfl) (by kernel_rfl) (fun _ _ _ h => h) (Or.inl ⟨by rfl, fun _ => rfl⟩) ?_
                simp only [List.getElem_toArray, List.getElem_cons_succ, List.getElem_cons_zero, Act.put, List.setIfInBounds_toArray, List.set_cons_succ, List.set_cons_zero]
                refine wpAny_take (i := 5) (v := .int .u8 (32 % 16)) rfl (by kernel_rfl) (by kernel_rfl) (by kernel_rfl) (fun _ _ _ h => h) (Or.inl ⟨by rfl, exec_and (.tmp 35) (.const (.int .u8 15)) rfl 32 rfl rfl (by omega) (by omega)⟩) ?_
                simp only [List.getElem_toArray, List.getElem_cons_succ, List.getElem_cons_zero, Act.put, List.setIfInBounds_toArray, List.set_cons_succ, List.set_cons_zero]
                refine wpAny_take (i := 6) (v := .int .u8 (hexU (32 % 16))) rfl (by kernel_rfl) (by kernel_rfl) (by kernel_rfl) (fun _ _ _ h => h) (Or.inl ⟨by rfl, exec_dig digU hexU (.inr ⟨rfl, rfl⟩) (.const (.string digU)) (.tmp 36) rfl (32 % 16) rfl rfl (by omega) (by omega)⟩) ?_
                simp only [List.getElem_toArray, List.getElem_cons_succ, List.getElem_cons_zero, Act.put, List.setIfInBounds_toArray, List.set_cons_succ, List.set_cons_zero]
                refine wpAny_ready (rs := [7]) (by kernel_rfl) (by simp) ?_
                refine AllReady.cons rfl (fun K hK => ?_) AllReady.nil
                refine step_bs3 (by rfl) (.const (.int .u8 37)) (.tmp 34) (.tmp 37) rfl (hexU (32 / 16)) (hexU (32 % 16)) rfl rfl rfl ?_
                refine hK _ _ ?_
                clear hK K
                simp only [List.getElem_toArray, List.getElem_cons_succ, List.getElem_cons_zero, Act.put, List.setIfInBounds_toArray, List.set_cons_succ, List.set_cons_zero]
                refine wpAny_ready (rs := [8]) (by kernel_rfl) (by simp) ?_
                refine AllReady.cons rfl (fun K hK => ?_) AllReady.nil
                refine step_app (by rfl) (.tmp 31) (.tmp 38) rfl w.heap.size w.heap.size E.length (3 * tok.size) _ rfl (Wr.new (World.ownsRow.drew hown) _) ⟨wr.heap.size, 0, none⟩ 3 3 [.int .u8 37, .int .u8 (hexU (32 / 16)), .int .u8 (hexU (32 % 16))] rfl rfl (cells_new _ _ _) (one3 _ _ _) (by omega) ?_
                intro w2 hown2 hgr2
                refine hK _ _ ?_
                clear hK K
                simp only [List.getElem_toArray, List.getElem_cons_succ, List.getElem_cons_zero, Act.put, List.setIfInBounds_toArray, List.set_cons_succ, List.set_cons_zero]
                refine wpAny_ready (rs := [9]) (by kernel_rfl) (by simp) ?_
                refine AllReady.cons rfl (fun K hK => ?_) AllReady.nil
                go_simp
                refine hK _ _ ?_
                clear hK K
                refine wpAny_done (by kernel_rfl) ?_ _
                go_wp2
                go_roundw
                case rel => exact ⟨k + 1, by omega, by go_num, len_step (t := [37, hexU (32 / 16), hexU (32 % 16)]) rfl HE.out, Wr.step (t := [37, hexU (32 / 16), hexU (32 % 16)]) rfl hown2 HE.out, (hbel.drew.alloc hbel.size _).grown hgr2 (by simp; exact Nat.le_succ_of_le hbel.size) (by simp)⟩
                case measure => simp [intOf]; omega
        · by_cases h37 : c = 37
          · by_cases q2 : v % 4 = 2
            · have c32 : (c == 32) = false := by simp <;> omega
              have c37 : (c == 37) = true := by simp <;> omega
              have m2 : (v % 4 == 2) = true := by simp <;> omega
              have HE : Hid (encK (L tok) ms (k + 1) = E ++ [37, hexL (37 / 16), hexL (37 % 16)]) := by rw [Hid, HS.out, enc1_low (by omega) (by omega) (by omega), h37]
              clear HS
              go_wp2
              refine wp_region_any (by kernel_rfl) ?_
              change wpAny _ _ _ _ _ _ _ (World.drew _)
              refine wpAny_take (i := 0) (v := .slice (some ⟨w.heap.size, 0, none⟩) E.length (3 * tok.size)) rfl (by kernel_rfl) (by kernel_rfl) (by kernel_rfl) (fun _ _ _ h => h) (Or.inl ⟨by rfl, fun _ => rfl⟩) ?_
              simp only [List.getElem_toArray, List.getElem_cons_succ, List.getElem_cons_zero, Act.put, List.setIfInBounds_toArray, List.set_cons_succ, List.set_cons_zero]
              refine wpAny_take (i := 1) (v := .int .u8 37) rfl (by kernel_rfl) (by kernel_rfl) (by kernel_rfl) (fun _ _ _ h => h) (Or.inl ⟨by rfl, fun _ => rfl⟩) ?_
              simp only [List.getElem_toArray, List.getElem_cons_succ, List.getElem_cons_zero, Act.put, List.setIfInBounds_toArray, List.set_cons_succ, List.set_cons_zero]
              refine wpAny_take (i := 2) (v := .int .u8 (37 / 16)) rfl (by kernel_rfl) (by kernel_rfl) (by kernel_rfl) (fun _ _ _ h => h) (Or.inl ⟨by rfl, exec_shr (.tmp 69) (.const (.int .u64 4)) rfl 37 rfl rfl (by omega) (by omega)⟩) ?_
              simp only [List.getElem_toArray, List.getElem_cons_succ, List.getElem_cons_zero, Act.put, List.setIfInBounds_toArray, List.set_cons_succ, List.set_cons_zero]
              refine wpAny_take (i := 3) (v := .int .u8 (hexL (37 / 16))) rfl (by kernel_rfl) (by kernel_rfl) (by kernel_rfl) (fun _ _ _ h => h) (Or.inl ⟨by rfl, exec_dig digL hexL (.inl ⟨rfl, rfl⟩) (.const (.string digL)) (.tmp 70) rfl (37 / 16) rfl rfl (by omega) (by omega)⟩) ?_
              simp only [List.getElem_toArray, List.getElem_cons_succ, List.getElem_cons_zero, Act.put, List.setIfInBounds_toArray, List.set_cons_succ, List.set_cons_zero]
              refine wpAny_take (i := 4) (v := .int .u8 37) rfl (by kernel_rfl) (by kernel_rfl) (by kernel_rfl) (fun _ _ _ h => h) (Or.inl ⟨by rfl, fun _ => rfl⟩) ?_
              simp only [List.getElem_toArray, List.getElem_cons_succ, List.getElem_cons_zero, Act.put, List.setIfInBounds_toArray, List.set_cons_succ, List.set_cons_zero]
              refine wpAny_take (i := 5) (v := .int .u8 (37 % 16)) rfl (by kernel_rfl) (by kernel_rfl) (by kernel_rfl) (fun _ _ _ h => h) (Or.inl ⟨by rfl, exec_and (.tmp 72) (.const (.int .u8 15)) rfl 37 rfl rfl (by omega) (by omega)⟩) ?_
              simp only [List.getElem_toArray, List.getElem_cons_succ, List.getElem_cons_zero, Act.put, List.setIfInBounds_toArray, List.set_cons_succ, List.set_cons_zero]
              refine wpAny_take (i := 6) (v := .int .u8 (hexL (37 % 16))) rfl (by kernel_rfl) (by kernel_rfl) (by kernel_rfl) (fun _ _ _ h => h) (Or.inl ⟨by rfl, exec_dig digL hexL (.inl ⟨rfl, rfl⟩) (.const (.string digL)) (.tmp 73) rfl (37 % 16) rfl rfl (by omega) (by omega)⟩) ?_
              simp only [List.getElem_toArray, List.getElem_cons_succ, List.getElem_cons_zero, Act.put, List.setIfInBounds_toArray, List.set_cons_succ, List.set_cons_zero]
              refine wpAny_ready (rs := [7]) (by kernel_rfl) (by simp) ?_
              refine AllReady.cons rfl (fun K hK => ?_) AllReady.nil
              refine step_bs3 (by rfl) (.const (.int .u8 37)) (.tmp 71) (.tmp 74) rfl (hexL (37 / 16)) (hexL (37 % 16)) rfl rfl rfl ?_
              refine hK _ _ ?_
              clear hK K
              simp only [List.getElem_toArray, List.getElem_cons_succ, List.getElem_cons_zero, Act.put, List.setIfInBounds_toArray, List.set_cons_succ, List.set_cons_zero]
              refine wpAny_ready (rs := [8]) (by kernel_rfl) (by simp) ?_
              refine AllReady.cons rfl (fun K hK => ?_) AllReady.nil
              refine step_app (by rfl) (.tmp 68) (.tmp 75) rfl w.heap.size w.heap.size E.length (3 * tok.size) _ rfl (Wr.new (World.ownsRow.drew hown) _) ⟨wr.heap.size, 0, none⟩ 3 3 [.int .u8 37, .int .u8 (hexL (37 / 16)), .int .u8 (hexL (37 % 16))] rfl rfl (cells_new _ _ _) (one3 _ _ _) (by omega) ?_
              intro w2 hown2 hgr2
              refine hK _ _ ?_
              clear hK K
              simp only [List.getElem_toArray, List.getElem_cons_succ, List.getElem_cons_zero, Act.put, List.setIfInBounds_toArray, List.set_cons_succ, List.set_cons_zero]
              refine wpAny_ready (rs := [9]) (by kernel_rfl) (by simp) ?_
              refine AllReady.cons rfl (fun K hK => ?_) AllReady.nil
              go_simp
              refine hK _ _ ?_
              clear hK K
              refine wpAny_done (by kernel_rfl) ?_ _
              go_wp2
              go_roundw
              case rel => exact ⟨k + 1, by omega, by go_num, len_step (t := [37, hexL (37 / 16), hexL (37 % 16)]) rfl HE.out, Wr.step (t := [37, hexL (37 / 16), hexL (37 % 16)]) rfl hown2 HE.out, (hbel.drew.alloc hbel.size _).grown hgr2 (by simp; exact Nat.le_succ_of_le hbel.size) (by simp)⟩
              case measure => simp [intOf]; omega
            · have c32 : (c == 32) = false := by simp <;> omega
              have c37 : (c == 37) = true := by simp <;> omega
              have m2 : (v % 4 == 2) = false := by simp <;> omega
              have HE : Hid (encK (L tok) ms (k + 1) = E ++ [37, hexU (37 / 16), hexU (37 % 16)]) := by rw [Hid, HS.out, enc1_up (by omega) (by omega) (by omega), h37]
              clear HS
              go_wp2
              refine wp_region_any (by kernel_rfl) ?_
              change wpAny _ _ _ _ _ _ _ (World.drew _)
              refine wpAny_take (i := 0) (v := .slice (some ⟨w.heap.size, 0, none⟩) E.length (3 * tok.size)) rfl (by kernel_rfl) (by kernel_rfl) (by kernel_rfl) (fun _ _ _ h => h) (Or.inl ⟨by rfl, fun _ => rfl⟩) ?_
              simp only [List.getElem_toArray, List.getElem_cons_succ, List.getElem_cons_zero, Act.put, List.setIfInBounds_toArray, List.set_cons_succ, List.set_cons_zero]
              refine wpAny_take (i := 1) (v := .int .u8 37) rfl (by kernel_rfl) (by kernel_rfl) (by kernel_rfl) (fun _ _ _ h => h) (Or.inl ⟨by rfl, fun _ => rfl⟩) ?_
              simp only [List.getElem_toArray, List.getElem_cons_succ, List.getElem_cons_zero, Act.put, List.setIfInBounds_toArray, List.set_cons_succ, List.set_cons_zero]
              refine wpAny_take (i := 2) (v := .int .u8 (37 / 16)) rfl (by kernel_rfl) (by kernel_rfl) (by kernel_rfl) (fun _ _ _ h => h) (Or.inl ⟨by rfl, exec_shr (.tmp 32) (.const (.int .u64 4)) rfl 37 rfl rfl (by omega) (by omega)⟩) ?_
              simp only [List.getElem_toArray, List.getElem_cons_succ, List.getElem_cons_zero, Act.put, List.setIfInBounds_toArray, List.set_cons_succ, List.set_cons_zero]
              refine wpAny_take (i := 3) (v := .int .u8 (hexU (37 / 16))) rfl (by kernel_rfl) (by kernel_rfl) (by kernel_rfl) (fun _ _ _ h => h) (Or.inl ⟨by rfl, exec_dig digU hexU (.inr ⟨rfl, rfl⟩) (.const (.string digU)) (.tmp 33) rfl (37 / 16) rfl rfl (by omega) (by omega)⟩) ?_
              simp only [List.getElem_toArray, List.getElem_cons_succ, List.getElem_cons_zero, Act.put, List.setIfInBounds_toArray, List.set_cons_succ, List.set_cons_zero]
              refine wpAny_take (i := 4) (v := .int .u8 37) rfl (by kernel_rfl) (by kernel_rfl) (by kernel_rfl) (fun _ _ _ h => h) (Or.inl ⟨by rfl, fun _ => rfl⟩) ?_
              simp only [List.getElem_toArray, List.getElem_cons_succ, List.getElem_cons_zero, Act.put, List.setIfInBounds_toArray, List.set_cons_succ, List.set_cons_zero]
              refine wpAny_take (i := 5) (v := .int .u8 (37 % 16)) rfl (by kernel_rfl) (by kernel_rfl) (by kernel_rfl) (fun _ _ _ h => h) (Or.inl ⟨by rfl, exec_and (.tmp 35) (.const (.int .u8 15)) rfl 37 rfl rfl (by omega) (by omega)⟩) ?_
              simp only [List.getElem_toArray, List.getElem_cons_succ, List.getElem_cons_zero, Act.put, List.setIfInBounds_toArray, List.set_cons_succ, List.set_cons_zero]
              refine wpAny_take (i := 6) (v := .int .u8 (hexU (37 % 16))) rfl (by kernel_rfl) (by kernel_rfl) (by kernel_rfl) (fun _ _ _ h => h) (Or.inl ⟨by rfl, exec_dig digU hexU (.inr ⟨rfl, rfl⟩) (.const (.string digU)) (.tmp 36) rfl (37 % 16) rfl rfl (by omega) (by omega)⟩) ?_
              simp only [List.getElem_toArray, List.getElem_cons_succ, List.getElem_cons_zero, Act.put, List.setIfInBounds_toArray, List.set_cons_succ, List.set_cons_zero]
              refine wpAny_ready (rs := [7]) (by kernel_rfl) (by simp) ?_
              refine AllReady.cons rfl (fun K hK => ?_) AllReady.nil
              refine step_bs3 (by rfl) (.const (.int .u8 37)) (.tmp 34) (.tmp 37) rfl (hexU (37 / 16)) (hexU (37 % 16)) rfl rfl rfl ?_
              refine hK _ _ ?_
              clear hK K
              simp only [List.getElem_toArray, List.getElem_cons_succ, List.getElem_cons_zero, Act.put, List.setIfInBounds_toArray, List.set_cons_succ, List.set_cons_zero]
              refine wpAny_ready (rs := [8]) (by kernel_rfl) (by simp) ?_
              refine AllReady.cons rfl (fun K hK => ?_) AllReady.nil
              refine step_app (by rfl) (.tmp 31) (.tmp 38) rfl w.heap.size w.heap.size E.length (3 * tok.size) _ rfl (Wr.new (World.ownsRow.drew hown) _) ⟨wr.heap.size, 0, none⟩ 3 3 [.int .u8 37, .int .u8 (hexU (37 / 16)), .int .u8 (hexU (37 % 16))] rfl rfl (cells_new _ _ _) (one3 _ _ _) (by omega) ?_
              intro w2 hown2 hgr2
              refine hK _ _ ?_
              clear hK K
              simp only [List.getElem_toArray, List.getElem_cons_succ, List.getElem_cons_zero, Act.put, List.setIfInBounds_toArray, List.set_cons_succ, List.set_cons_zero]
              refine wpAny_ready (rs := [9]) (by kernel_rfl) (by simp) ?_
              refine AllReady.cons rfl (fun K hK => ?_) AllReady.nil
              go_simp
              refine hK _ _ ?_
              clear hK K
              refine wpAny_done (by kernel_rfl) ?_ _
              go_wp2
              go_roundw
              case rel => exact ⟨k + 1, by omega, by go_num, len_step (t := [37, hexU (37 / 16), hexU (37 % 16)]) rfl HE.out, Wr.step (t := [37, hexU (37 / 16), hexU (37 % 16)]) rfl hown2 HE.out, (hbel.drew.alloc hbel.size _).grown hgr2 (by simp; exact Nat.le_succ_of_le hbel.size) (by simp)⟩
              case measure => simp [intOf]; omega
          · by_cases q0 : v % 4 = 0
            · have c32 : (c == 32) = false := by simp <;> omega
              have c37 : (c == 37) = false := by simp <;> omega
              have m0 : (v % 4 == 0) = true := by simp <;> omega
              have m2 : (v % 4 == 2) = false := by simp <;> omega
              have m3 : (v % 4 == 3) = false := by simp <;> omega
              have HE : Hid (encK (L tok) ms (k + 1) = E ++ [c]) := by rw [Hid, HS.out, enc1_raw (by omega) (by omega)]
              clear HS
              go_wp2_with (at_builtin; refine wpList_append_fits _ rfl _ _ 22 rfl w.heap.size 5 i0 1 Try.underlying22 hi hz1 w.heap.size E.length (3 * tok.size) _ rfl (Wr.new hown _) ⟨wr.heap.size, 0, none⟩ 1 1 [.int .u8 c] rfl rfl (cells_new _ _ _) (one1 _) (by omega) ?_; intro w2 hown2 hgr2)
              go_roundw
              case rel => exact ⟨k + 1, by omega, by go_num, len_step rfl HE.out, Wr.step rfl hown2 HE.out, (hbel.alloc hbel.size _).grown hgr2 (by simp; exact Nat.le_succ_of_le hbel.size) (by simp)⟩
              case measure => simp [intOf]; omega
            · by_cases q3 : v % 4 = 3
              · have c32 : (c == 32) = false := by simp <;> omega
                have c37 : (c == 37) = false := by simp <;> omega
                have m0 : (v % 4 == 0) = false := by simp <;> omega
                have m2 : (v % 4 == 2) = false := by simp <;> omega
                have m3 : (v % 4 == 3) = true := by simp <;> omega
                have HE : Hid (encK (L tok) ms (k + 1) = E ++ [c]) := by rw [Hid, HS.out, enc1_raw (by omega) (by omega)]
                clear HS
                go_wp2_with (at_builtin; refine wpList_append_fits _ rfl _ _ 22 rfl w.heap.size 5 i0 1 Try.underlying22 hi hz1 w.heap.size E.length (3 * tok.size) _ rfl (Wr.new hown _) ⟨wr.heap.size, 0, none⟩ 1 1 [.int .u8 c] rfl rfl (cells_new _ _ _) (one1 _) (by omega) ?_; intro w2 hown2 hgr2)
                go_roundw
                case rel => exact ⟨k + 1, by omega, by go_num, len_step rfl HE.out, Wr.step rfl hown2 HE.out, (hbel.alloc hbel.size _).grown hgr2 (by simp; exact Nat.le_succ_of_le hbel.size) (by simp)⟩
                case measure => simp [intOf]; omega
              · by_cases q2 : v % 4 = 2
                · have c32 : (c == 32) = false := by simp <;> omega
                  have c37 : (c == 37) = false := by simp <;> omega
                  have m0 : (v % 4 == 0) = false := by simp <;> omega
                  have m2 : (v % 4 == 2) = true := by simp <;> omega
                  have m3 : (v % 4 == 3) = false := by simp <;> omega
                  have HE : Hid (encK (L tok) ms (k + 1) = E ++ [37, hexL (c / 16), hexL (c % 16)]) := by rw [Hid, HS.out, enc1_low (by omega) (by omega) (by omega)]
                  clear HS
                  go_wp2
                  refine wp_region_any (by kernel_rfl) ?_
                  change wpAny _ _ _ _ _ _ _ (World.drew _)
                  refine wpAny_take (i := 0) (v := .slice (some ⟨w.heap.size, 0, none⟩) E.length (3 * tok.size)) rfl (by kernel_rfl) (by kernel_rfl) (by kernel_rfl) (fun _ _ _ h => h) (Or.inl ⟨by rfl, fun _ => rfl⟩) ?_
                  simp only [List.getElem_toArray, List.getElem_cons_succ, List.getElem_cons_zero, Act.put, List.setIfInBounds_toArray, List.set_cons_succ, List.set_cons_zero]
                  refine wpAny_take (i := 1) (v := .int .u8 c) rfl (by kernel_rfl) (by kernel_rfl) (by kernel_rfl) (fun _ _ _ h => h) (Or.inl ⟨by rfl, fun _ => rfl⟩) ?_
                  simp only [List.getElem_toArray, List.getElem_cons_succ, List.getElem_cons_zero, Act.put, List.setIfInBounds_toArray, List.set_cons_succ, List.set_cons_zero]
                  refine wpAny_take (i := 2) (v := .int .u8 (c / 16)) rfl (by kernel_rfl) (by kernel_rfl) (by kernel_rfl) (fun _ _ _ h => h) (Or.inl ⟨by rfl, exec_shr (.tmp 69) (.const (.int .u64 4)) rfl c rfl rfl (by omega) (by omega)⟩) ?_
                  simp only [List.getElem_toArray, List.getElem_cons_succ, List.getElem_cons_zero, Act.put, List.setIfInBounds_toArray, List.set_cons_succ, List.set_cons_zero]
                  refine wpAny_take (i := 3) (v := .int .u8 (hexL (c / 16))) rfl (by kernel_rfl) (by kernel_rfl) (by kernel_rfl) (fun _ _ _ h => h) (Or.inl ⟨by rfl, exec_dig digL hexL (.inl ⟨rfl, rfl⟩) (.const (.string digL)) (.tmp 70) rfl (c / 16) rfl rfl (by omega) (by omega)⟩) ?_
                  simp only [List.getElem_toArray, List.getElem_cons_succ, List.getElem_cons_zero, Act.put, List.setIfInBounds_toArray, List.set_cons_succ, List.set_cons_zero]
                  refine wpAny_take (i := 4) (v := .int .u8 c) rfl (by kernel_rfl) (by kernel_rfl) (by kernel_rfl) (fun _ _ _ h => h) (Or.inl ⟨by rfl, fun _ => rfl⟩) ?_
                  simp only [List.getElem_toArray, List.getElem_cons_succ, List.getElem_cons_zero, Act.put, List.setIfInBounds_toArray, List.set_cons_succ, List.set_cons_zero]
                  refine wpAny_take (i := 5) (v := .int .u8 (c % 16)) rfl (by kernel_rfl) (by kernel_rfl) (by kernel_rfl) (fun _ _ _ h => h) (Or.inl ⟨by rfl, exec_and (.tmp 72) (.const (.int .u8 15)) rfl c rfl rfl (by omega) (by omega)⟩) ?_
                  simp only [List.getElem_toArray, List.getElem_cons_succ, List.getElem_cons_zero, Act.put, List.setIfInBounds_toArray, List.set_cons_succ, List.set_cons_zero]
                  refine wpAny_take (i := 6) (v := .int .u8 (hexL (c % 16))) rfl (by kernel_rfl) (by kernel_rfl) (by kernel_rfl) (fun _ _ _ h => h) (Or.inl ⟨by rfl, exec_dig digL hexL (.inl ⟨rfl, rfl⟩) (.const (.string digL)) (.tmp 73) rfl (c % 16) rfl rfl (by omega) (by omega)⟩) ?_
                  simp only [List.getElem_toArray, List.getElem_cons_succ, List.getElem_cons_zero, Act.put, List.setIfInBounds_toArray, List.set_cons_succ, List.set_cons_zero]
                  refine wpAny_ready (rs := [7]) (by kernel_rfl) (by simp) ?_
                  refine AllReady.cons rfl (fun K hK => ?_) AllReady.nil
                  refine step_bs3 (by rfl) (.const (.int .u8 37)) (.tmp 71) (.tmp 74) rfl (hexL (c / 16)) (hexL (c % 16)) rfl rfl rfl ?_
                  refine hK _ _ ?_
                  clear hK K
                  simp only [List.getElem_toArray, List.getElem_cons_succ, List.getElem_cons_zero, Act.put, List.setIfInBounds_toArray, List.set_cons_succ, List.set_cons_zero]
                  refine wpAny_ready (rs := [8]) (by kernel_rfl) (by simp) ?_
                  refine AllReady.cons rfl (fun K hK => ?_) AllReady.nil
                  refine step_app (by rfl) (.tmp 68) (.tmp 75) rfl w.heap.size w.heap.size E.length (3 * tok.size) _ rfl (Wr.new (World.ownsRow.drew hown) _) ⟨wr.heap.size, 0, none⟩ 3 3 [.int .u8 37, .int .u8 (hexL (c / 16)), .int .u8 (hexL (c % 16))] rfl rfl (cells_new _ _ _) (one3 _ _ _) (by omega) ?_
                  intro w2 hown2 hgr2
                  refine hK _ _ ?_
                  clear hK K
                  simp only [List.getElem_toArray, List.getElem_cons_succ, List.getElem_cons_zero, Act.put, List.setIfInBounds_toArray, List.set_cons_succ, List.set_cons_zero]
                  refine wpAny_ready (rs := [9]) (by kernel_rfl) (by simp) ?_
                  refine AllReady.cons rfl (fun K hK => ?_) AllReady.nil
                  go_simp
                  refine hK _ _ ?_
                  clear hK K
                  refine wpAny_done (by kernel_rfl) ?_ _
                  go_wp2
                  go_roundw
                  case rel => exact ⟨k + 1, by omega, by go_num, len_step (t := [37, hexL (c / 16), hexL (c % 16)]) rfl HE.out, Wr.step (t := [37, hexL (c / 16), hexL (c % 16)]) rfl hown2 HE.out, (hbel.drew.alloc hbel.size _).grown hgr2 (by simp; exact Nat.le_succ_of_le hbel.size) (by simp)⟩
                  case measure => simp [intOf]; omega
                · have c32 : (c == 32) = false := by simp <;> omega
                  have c37 : (c == 37) = false := by simp <;> omega
                  have m0 : (v % 4 == 0) = false := by simp <;> omega
                  have m2 : (v % 4 == 2) = false := by simp <;> omega
                  have m3 : (v % 4 == 3) = false := by simp <;> omega
                  have HE : Hid (encK (L tok) ms (k + 1) = E ++ [37, hexU (c / 16), hexU (c % 16)]) := by rw [Hid, HS.out, enc1_up (by omega) (by omega) (by omega)]
                  clear HS
                  go_wp2
                  refine wp_region_any (by kernel_rfl) ?_
                  change wpAny _ _ _ _ _ _ _ (World.drew _)
                  refine wpAny_take (i := 0) (v := .slice (some ⟨w.heap.size, 0, none⟩) E.length (3 * tok.size)) rfl (by kernel_rfl) (by kernel_rfl) (by kernel_rfl) (fun _ _ _ h => h) (Or.inl ⟨by rfl, fun _ => rfl⟩) ?_
                  simp only [List.getElem_toArray, List.getElem_cons_succ, List.getElem_cons_zero, Act.put, List.setIfInBounds_toArray, List.set_cons_succ, List.set_cons_zero]
                  refine wpAny_take (i := 1) (v := .int .u8 c) rfl (by kernel_rfl) (by kernel_rfl) (by kernel_rfl) (fun _ _ _ h => h) (Or.inl ⟨by rfl, fun _ => rfl⟩) ?_
                  simp only [List.getElem_toArray, List.getElem_cons_succ, List.getElem_cons_zero, Act.put, List.setIfInBounds_toArray, List.set_cons_succ, List.set_cons_zero]
                  refine wpAny_take (i := 2) (v := .int .u8 (c / 16)) rfl (by kernel_rfl) (by kernel_rfl) (by kernel_rfl) (fun _ _ _ h => h) (Or.inl ⟨by rfl, exec_shr (.tmp 32) (.const (.int .u64 4)) rfl c rfl rfl (by omega) (by omega)⟩) ?_
                  simp only [List.getElem_toArray, List.getElem_cons_succ, List.getElem_cons_zero, Act.put, List.setIfInBounds_toArray, List.set_cons_succ, List.set_cons_zero]
                  refine wpAny_take (i := 3) (v := .int .u8 (hexU (c / 16))) rfl (by kernel_rfl) (by kernel_rfl) (by kernel_rfl) (fun _ _ _ h => h) (Or.inl ⟨by rfl, exec_dig digU hexU (.inr ⟨rfl, rfl⟩) (.const (.string digU)) (.tmp 33) rfl (c / 16) rfl rfl (by omega) (by omega)⟩) ?_
                  simp only [List.getElem_toArray, List.getElem_cons_succ, List.getElem_cons_zero, Act.put, List.setIfInBounds_toArray, List.set_cons_succ, List.set_cons_zero]
                  refine wpAny_take (i := 4) (v := .int .u8 c) rfl (by kernel_rfl) (by kernel_rfl) (by kernel_rfl) (fun _ _ _ h => h) (Or.inl ⟨by rfl, fun _ => rfl⟩) ?_
                  simp only [List.getElem_toArray, List.getElem_cons_succ, List.getElem_cons_zero, Act.put, List.setIfInBounds_toArray, List.set_cons_succ, List.set_cons_zero]
                  refine wpAny_take (i := 5) (v := .int .u8 (c % 16)) rfl (by kernel_rfl) (by kernel_rfl) (by kernel_rfl) (fun _ _ _ h => h) (Or.inl ⟨by rfl, exec_and (.tmp 35) (.const (.int .u8 15)) rfl c rfl rfl (by omega) (by omega)⟩) ?_
                  simp only [List.getElem_toArray, List.getElem_cons_succ, List.getElem_cons_zero, Act.put, List.setIfInBounds_toArray, List.set_cons_succ, List.set_cons_zero]
                  refine wpAny_take (i := 6) (v := .int .u8 (hexU (c % 16))) rfl (by kernel_rfl) (by kernel_rfl) (by kernel_rfl) (fun _ _ _ h => h) (Or.inl ⟨by rfl, exec_dig digU hexU (.inr ⟨rfl, rfl⟩) (.const (.string digU)) (.tmp 36) rfl (c % 16) rfl rfl (by omega) (by omega)⟩) ?_
                  simp only [List.getElem_toArray, List.getElem_cons_succ, List.getElem_cons_zero, Act.put, List.setIfInBounds_toArray, List.set_cons_succ, List.set_cons_zero]
                  refine wpAny_ready (rs := [7]) (by kernel_rfl) (by simp) ?_
                  refine AllReady.cons rfl (fun K hK => ?_) AllReady.nil
                  refine step_bs3 (by rfl) (.const (.int .u8 37)) (.tmp 34) (.tmp 37) rfl (hexU (c / 16)) (hexU (c % 16)) rfl rfl rfl ?_
                  refine hK _ _ ?_
                  clear hK K
                  simp only [List.getElem_toArray, List.getElem_cons_succ, List.getElem_cons_zero, Act.put, List.setIfInBounds_toArray, List.set_cons_succ, List.set_cons_zero]
                  refine wpAny_ready (rs := [8]) (by kernel_rfl) (by simp) ?_
                  refine AllReady.cons rfl (fun K hK => ?_) AllReady.nil
                  refine step_app (by rfl) (.tmp 31) (.tmp 38) rfl w.heap.size w.heap.size E.length (3 * tok.size) _ rfl (Wr.new (World.ownsRow.drew hown) _) ⟨wr.heap.size, 0, none⟩ 3 3 [.int .u8 37, .int .u8 (hexU (c / 16)), .int .u8 (hexU (c % 16))] rfl rfl (cells_new _ _ _) (one3 _ _ _) (by omega) ?_
                  intro w2 hown2 hgr2
                  refine hK _ _ ?_
                  clear hK K
                  simp only [List.getElem_toArray, List.getElem_cons_succ, List.getElem_cons_zero, Act.put, List.setIfInBounds_toArray, List.set_cons_succ, List.set_cons_zero]
                  refine wpAny_ready (rs := [9]) (by kernel_rfl) (by simp) ?_
                  refine AllReady.cons rfl (fun K hK => ?_) AllReady.nil
                  go_simp
                  refine hK _ _ ?_
                  clear hK K
                  refine wpAny_done (by kernel_rfl) ?_ _
                  go_wp2
                  go_roundw
                  case rel => exact ⟨k + 1, by omega, by go_num, len_step (t := [37, hexU (c / 16), hexU (c % 16)]) rfl HE.out, Wr.step (t := [37, hexU (c / 16), hexU (c % 16)]) rfl hown2 HE.out, (hbel.drew.alloc hbel.size _).grown hgr2 (by simp; exact Nat.le_succ_of_le hbel.size) (by simp)⟩
                  case measure => simp [intOf]; omega
      · have hmm : mm ms k = 0 := by simp [mm, List.getD, show ¬ k < ms.length by omega]
        rw [hmm] at HS
        clear hmm
        by_cases h37 : c = 37
        · have c32 : (c == 32) = false := by simp <;> omega
          have c37 : (c == 37) = true := by simp <;> omega
          have HE : Hid (encK (L tok) ms (k + 1) = E ++ [37, hexU (37 / 16), hexU (37 % 16)]) := by rw [Hid, HS.out, enc1_up (by omega) (by omega) (by omega), h37]
          clear HS
          go_wp2
          refine wp_region_any (by kernel_rfl) ?_
          change wpAny _ _ _ _ _ _ _ (World.drew _)
          refine wpAny_take (i := 0) (v := .slice (some ⟨w.heap.size, 0, none⟩) E.length (3 * tok.size)) rfl (by kernel_rfl) (by kernel_rfl) (by kernel_rfl) (fun _ _ _ h => h) (Or.inl ⟨by rfl, fun _ => rfl⟩) ?_
          simp only [List.getElem_toArray, List.getElem_cons_succ, List.getElem_cons_zero, Act.put, List.setIfInBounds_toArray, List.set_cons_succ, List.set_cons_zero]
          refine wpAny_take (i := 1) (v := .int .u8 37) rfl (by kernel_rfl) (by kernel_rfl) (by kernel_rfl) (fun _ _ _ h => h) (Or.inl ⟨by rfl, fun _ => rfl⟩) ?_
          simp only [List.getElem_toArray, List.getElem_cons_succ, List.getElem_cons_zero, Act.put, List.setIfInBounds_toArray, List.set_cons_succ, List.set_cons_zero]
          refine wpAny_take (i := 2) (v := .int .u8 (37 / 16)) rfl (by kernel_rfl) (by kernel_rfl) (by kernel_rfl) (fun _ _ _ h => h) (Or.inl ⟨by rfl, exec_shr (.tmp 32) (.const (.int .u64 4)) rfl 37 rfl rfl (by omega) (by omega)⟩) ?_
          simp only [List.getElem_toArray, List.getElem_cons_succ, List.getElem_cons_zero, Act.put, List.setIfInBounds_toArray, List.set_cons_succ, List.set_cons_zero]
          refine wpAny_take (i := 3) (v := .int .u8 (hexU (37 / 16))) rfl (by kernel_rfl) (by kernel_rfl) (by kernel_rfl) (fun _ _ _ h => h) (Or.inl ⟨by rfl, exec_dig digU hexU (.inr ⟨rfl, rfl⟩) (.const (.string digU)) (.tmp 33) rfl (37 / 16) rfl rfl (by omega) (by omega)⟩) ?_
          simp only [List.getElem_toArray, List.getElem_cons_succ, List.getElem_cons_zero, Act.put, List.setIfInBounds_toArray, List.set_cons_succ, List.set_cons_zero]
          refine wpAny_take (i := 4) (v := .int .u8 37) rfl (by kernel_rfl) (by kernel_rfl) (by kernel_rfl) (fun _ _ _ h => h) (Or.inl ⟨by rfl, fun _ => rfl⟩) ?_
          simp only [List.getElem_toArray, List.getElem_cons_succ, List.getElem_cons_zero, Act.put, List.setIfInBounds_toArray, List.set_cons_succ, List.set_cons_zero]
          refine wpAny_take (i := 5) (v := .int .u8 (37 % 16)) rfl (by kernel_rfl) (by kernel_rfl) (by kernel_rfl) (fun _ _ _ h => h) (Or.inl ⟨by rfl, exec_and (.tmp 35) (.const (.int .u8 15)) rfl 37 rfl rfl (by omega) (by omega)⟩) ?_
          simp only [List.getElem_toArray, List.getElem_cons_succ, List.getElem_cons_zero, Act.put, List.setIfInBounds_toArray, List.set_cons_succ, List.set_cons_zero]
          refine wpAny_take (i := 6) (v := .int .u8 (hexU (37 % 16))) rfl (by kernel_rfl) (by kernel_rfl) (by kernel_rfl) (fun _ _ _ h => h) (Or.inl ⟨by rfl, exec_dig digU hexU (.inr ⟨rfl, rfl⟩) (.const (.string digU)) (.tmp 36) rfl (37 % 16) rfl rfl (by omega) (by omega)⟩) ?_
          simp only [List.getElem_toArray, List.getElem_cons_succ, List.getElem_cons_zero, Act.put, List.setIfInBounds_toArray, List.set_cons_succ, List.set_cons_zero]
          refine wpAny_ready (rs := [7]) (by kernel_rfl) (by simp) ?_
          refine AllReady.cons rfl (fun K hK => ?_) AllReady.nil
          refine step_bs3 (by rfl) (.const (.int .u8 37)) (.tmp 34) (.tmp 37) rfl (hexU (37 / 16)) (hexU (37 % 16)) rfl rfl rfl ?_
          refine hK _ _ ?_
          clear hK K
          simp only [List.getElem_toArray, List.getElem_cons_succ, List.getElem_cons_zero, Act.put, List.setIfInBounds_toArray, List.set_cons_succ, List.set_cons_zero]
          refine wpAny_ready (rs := [8]) (by kernel_rfl) (by simp) ?_
          refine AllReady.cons rfl (fun K hK => ?_) AllReady.nil
          refine step_app (by rfl) (.tmp 31) (.tmp 38) rfl w.heap.size w.heap.size E.length (3 * tok.size) _ rfl (Wr.new (World.ownsRow.drew hown) _) ⟨wr.heap.size, 0, none⟩ 3 3 [.int .u8 37, .int .u8 (hexU (37 / 16)), .int .u8 (hexU (37 % 16))] rfl rfl (cells_new _ _ _) (one3 _ _ _) (by omega) ?_
          intro w2 hown2 hgr2
          refine hK _ _ ?_
          clear hK K
          simp only [List.getElem_toArray, List.getElem_cons_succ, List.getElem_cons_zero, Act.put, List.setIfInBounds_toArray, List.set_cons_succ, List.set_cons_zero]
          refine wpAny_ready (rs := [9]) (by kernel_rfl) (by simp) ?_
          refine AllReady.cons rfl (fun K hK => ?_) AllReady.nil
          go_simp
          refine hK _ _ ?_
          clear hK K
          refine wpAny_done (by kernel_rfl) ?_ _
          go_wp2
          go_roundw
          case rel => exact ⟨k + 1, by omega, by go_num, len_step (t := [37, hexU (37 / 16), hexU (37 % 16)]) rfl HE.out, Wr.step (t := [37, hexU (37 / 16), hexU (37 % 16)]) rfl hown2 HE.out, (hbel.drew.alloc hbel.size _).grown hgr2 (by simp; exact Nat.le_succ_of_le hbel.size) (by simp)⟩
          case measure => simp [intOf]; omega
        · by_cases h32 : c = 32
          · have c32 : (c == 32) = true := by simp <;> omega
            have c37 : (c == 37) = false := by simp <;> omega
            have HE : Hid (encK (L tok) ms (k + 1) = E ++ [32]) := by rw [Hid, HS.out, enc1_raw (by omega) (by omega), h32]
            clear HS
            go_wp2_with (at_builtin; refine wpList_append_fits _ rfl _ _ 22 rfl w.heap.size 5 i0 1 Try.underlying22 hi hz1 w.heap.size E.length (3 * tok.size) _ rfl (Wr.new hown _) ⟨wr.heap.size, 0, none⟩ 1 1 [.int .u8 32] rfl rfl (cells_new _ _ _) (one1 _) (by omega) ?_; intro w2 hown2 hgr2)
            go_roundw
            case rel => exact ⟨k + 1, by omega, by go_num, len_step rfl HE.out, Wr.step rfl hown2 HE.out, (hbel.alloc hbel.size _).grown hgr2 (by simp; exact Nat.le_succ_of_le hbel.size) (by simp)⟩
            case measure => simp [intOf]; omega
          · have c32 : (c == 32) = false := by simp <;> omega
            have c37 : (c == 37) = false := by simp <;> omega
            have HE : Hid (encK (L tok) ms (k + 1) = E ++ [c]) := by rw [Hid, HS.out, enc1_raw (by omega) (by omega)]
            clear HS
            go_wp2_with (at_builtin; refine wpList_append_fits _ rfl _ _ 22 rfl w.heap.size 5 i0 1 Try.underlying22 hi hz1 w.heap.size E.length (3 * tok.size) _ rfl (Wr.new hown _) ⟨wr.heap.size, 0, none⟩ 1 1 [.int .u8 c] rfl rfl (cells_new _ _ _) (one1 _) (by omega) ?_; intro w2 hown2 hgr2)
            go_roundw
            case rel => exact ⟨k + 1, by omega, by go_num, len_step rfl HE.out, Wr.step rfl hown2 HE.out, (hbel.alloc hbel.size _).grown hgr2 (by simp; exact Nat.le_succ_of_le hbel.size) (by simp)⟩
            case measure => simp [intOf]; omega
    · have hkn : k = tok.size := by omega
      rw [hkn] at hown ⊢
      go_wp2
      go_ret
      exact ⟨rfl, hown, hbel⟩

end Go.Proofs.Qxb6623312a
