/-
  Seat b6619637a: zzLess. Our own text.
-/
import Derived.Test.Qxb6619637aNd
namespace Go.Proofs.Qxb6619637a
open Go.RowKit
set_option linter.unusedSimpArgs false
set_option linter.unusedVariables false

theorem cell_E {w : World} {b : Nat} {x : V} (h : w.rangeAt b 0 (E x)) (i : Nat) (hi : i < 16) : w.cell? ⟨b, i, none⟩ = some (.int .u8 x[i]) := by
  have := h i (.int .u8 x[i]) (by simp [E, hi])
  rwa [Nat.zero_add] at this

set_option maxHeartbeats 1000000 in
theorem less_any (x y : V) (w : World) :
    Calls Try.prog 28 #[G x, G y] w fun e w' => e = .returned (.bool (lessV x y)) ∧ Below w.heap.size w w' := by
  go_enter Try.func28, Try.ntmps28
  go_wp2_with (first
    | (refine wpList_bx rfl 30 _ rfl x rfl ?_; intro w1 hx1 hg1)
    | (refine wpList_bx rfl 30 _ rfl y rfl ?_; intro w2 hy2 hg2))
  have hb1 : Below w.heap.size w w1 := (Below.refl _ _).grown hg1 (Nat.le_refl _) (by simp)
  have hb2 : Below w.heap.size w w2 := bone hb1 hg2 (Nat.le_refl _) (by simp)
  have hx2 : Row w2 w.heap.size 30 [x] := hx1.grown hg2 (by simp)
  have rx := hx2.at 0 (by simp)
  have ry := hy2.at 0 (by simp)
  simp only [List.getElem_cons_zero, Nat.zero_mul] at rx ry
  clear hx1 hx2 hy2 hg1 hg2 hb1
  go_loopw [5] (fun i wr => ∃ (k q : Nat), k ≤ 16 ∧ i = .int .i64 k ∧ (∀ j (hj : j < 16), j < k → x[j] = y[j]) ∧ wr = w2.drewN q) (fun i _ => 16 - (intOf i).toNat)
  case atStart => exact ⟨0, 0, by omega, rfl, by simp, rfl⟩
  case round =>
    obtain ⟨k, q, hk, rfl, hall, rfl⟩ := hrel
    have HA : Hid (∀ j (hj : j < 16), j < k → x[j] = y[j]) := hall
    clear hall
    by_cases hlt : k < 16
    · have cx := cell_E rx k hlt
      have cy := cell_E ry k hlt
      have HE : Hid (x[k] = y[k] → ∀ j (hj : j < 16), j < k + 1 → x[j] = y[j]) := fun e j hj hjk => by
        by_cases h : j = k
        · subst h; exact e
        · exact HA.out j hj (by omega)
      have HN : Hid (x[k] ≠ y[k] → decide (x[k] < y[k]) = lessV x y) := fun e => lessV_first hlt HA.out e
      generalize x[k] = a at cx HE HN
      generalize y[k] = b at cy HE HN
      by_cases hne : a = b
      · subst hne
        have HF : Hid (∀ j (hj : j < 16), j < k + 1 → x[j] = y[j]) := HE.out rfl
        clear HE HN
        go_wp2
        go_quiet (fail)
        go_wp2
        go_roundw
        case rel => exact ⟨k + 1, _, by omega, by go_num, HF.out, rfl⟩
        case measure => simp [intOf]; omega
      · have hne' : (a == b) = false := by simpa using hne
        have HN' := HN.out hne
        clear HN
        have HL : Hid (decide (a < b) = lessV x y) := HN'
        clear HN'
        go_wp2
        go_quiet (fail)
        go_wp2
        go_quiet (fail)
        go_wp2
        go_ret
        refine ⟨ret_bool HL.out, ?_⟩
        exact below_drewN' (below_drewN' (below_drewN' hb2 _) _) _
    · go_wp2
      go_ret
      exact ⟨ret_bool (lessV_same fun j hj => HA.out j hj (by omega)), below_drewN' hb2 _⟩

end Go.Proofs.Qxb6619637a
