/-
  Seat b6623306a: lower, letter, hasPrefixFold, digits: the walks. Our own text.
-/
import Derived.Test.Qxb6623306aPlain
import Derived.WalkKit
import Derived.Below
import Derived.BigQuiet
import Derived.Deep.QuietTactic
import Derived.WalkSpells
import Derived.Lib.SliceRun
namespace Go.Proofs.Qxb6623306a
open Go.RowKit
set_option linter.unusedSimpArgs false
set_option linter.unusedVariables false

theorem ret_bool {a b : Bool} (h : a = b) : Ending.returned (.bool a) = .returned (.bool b) := by rw [h]
theorem ret_int {k : IntKind} {a b : Int} (h : a = b) : Ending.returned (.int k a) = .returned (.int k b) := by rw [h]
theorem below_drewN' {B : Nat} {w w' : World} (h : Below B w w') (q : Nat) : Below B w (w'.drewN q) := ⟨h.os, h.tape, h.output, h.size, h.block⟩
theorem bstep {w w' w'' : World} (h : Below w.heap.size w w') (k : Below w'.heap.size w' w'') : Below w.heap.size w w'' := h.trans (k.mono h.size)

theorem lower_any (n : Int) (w : World) (h0 : 0 ≤ n) (h1 : n ≤ 255) :
    Calls Try.prog 14 #[.int .u8 n] w fun e w' => e = .returned (.int .u8 (lowI n)) ∧ w' = w := by
  by_cases h : 65 ≤ n ∧ n ≤ 90
  · obtain ⟨ha, hb⟩ := h
    have HL : Hid (lowI n = n + 32) := by rw [Hid, lowI, if_pos ⟨ha, hb⟩]
    go_enter Try.func14, Try.ntmps14
    go_wp2
    go_ret
    exact ⟨ret_int (by rw [HL.out]; omega), rfl⟩
  · have HL : Hid (lowI n = n) := by rw [Hid, lowI, if_neg h]
    by_cases ha : 65 ≤ n
    · have hb : ¬ n ≤ 90 := fun hb => h ⟨ha, hb⟩
      go_enter Try.func14, Try.ntmps14
      go_wp2
      go_ret
      exact ⟨ret_int HL.out.symm, rfl⟩
    · go_enter Try.func14, Try.ntmps14
      go_wp2
      go_ret
      exact ⟨ret_int HL.out.symm, rfl⟩

theorem low_bound {n : Int} (h0 : 0 ≤ n) (h1 : n ≤ 255) : 0 ≤ lowI n ∧ lowI n ≤ 255 := by unfold lowI; split <;> omega

theorem letter_any (n : Int) (w : World) (h0 : 0 ≤ n) (h1 : n ≤ 255) :
    Calls Try.prog 13 #[.int .u8 n] w fun e w' => e = .returned (.bool (letB n)) ∧ w' = w := by
  by_cases ha : 97 ≤ lowI n
  · by_cases hb : lowI n ≤ 122
    · have HB : Hid (letB n = true) := by rw [Hid, letB]; simp [ha, hb]
      go_enter Try.func13, Try.ntmps13
      go_wp2_with (go_at_call 14; refine (lower_any n _ h0 h1).mono ?_; rintro e w' ⟨rfl, rfl⟩)
      go_ret
      exact ⟨ret_bool HB.out.symm, rfl⟩
    · have HB : Hid (letB n = false) := by rw [Hid, letB]; simp [ha, hb]
      go_enter Try.func13, Try.ntmps13
      go_wp2_with (go_at_call 14; refine (lower_any n _ h0 h1).mono ?_; rintro e w' ⟨rfl, rfl⟩)
      go_ret
      exact ⟨ret_bool (by rw [HB.out]; simp [ha, hb]), rfl⟩
  · have HB : Hid (letB n = false) := by rw [Hid, letB]; simp [ha]
    go_enter Try.func13, Try.ntmps13
    go_wp2_with (go_at_call 14; refine (lower_any n _ h0 h1).mono ?_; rintro e w' ⟨rfl, rfl⟩)
    go_ret
    exact ⟨ret_bool HB.out.symm, rfl⟩

set_option maxHeartbeats 1000000 in
theorem digits_any (s : ByteArray) (w : World) (hs : s.size ≤ maxLen) :
    Calls Try.prog 12 #[.string s] w fun e w' => e = .returned (.bool ((L s).all digB)) ∧ w' = w := by
  unfold maxLen at hs
  go_enter Try.func12, Try.ntmps12
  go_wp2
  go_loop [3] (fun i => ∃ k : Nat, k ≤ s.size ∧ i = .int .i64 k ∧ (∀ j a, j < k → (L s)[j]? = some a → digB a = true)) (fun i => s.size - (intOf i).toNat)
  case atStart => exact ⟨0, Nat.zero_le _, rfl, fun j a h => by omega⟩
  case round =>
    obtain ⟨k, hk, rfl, hall⟩ := hrel
    have HA : Hid (∀ j a, j < k → (L s)[j]? = some a → digB a = true) := hall
    clear hall
    by_cases hlt : k < s.size
    · have HG : Hid ((L s)[k]? = some (s[k].toNat : Int)) := L_get s k hlt
      by_cases h1 : (s[k].toNat : Int) < 48
      · have HD : Hid (digB (s[k].toNat : Int) = false) := by rw [Hid, digB]; simp; omega
        go_wp2
        go_ret
        refine ⟨ret_bool ?_, rfl⟩
        symm
        rw [List.all_eq_false]
        exact ⟨_, List.mem_of_getElem? HG.out, by rw [HD.out]; simp⟩
      · by_cases h2 : (57 : Int) < (s[k].toNat : Int)
        · have HD : Hid (digB (s[k].toNat : Int) = false) := by rw [Hid, digB]; simp; omega
          go_wp2
          go_ret
          refine ⟨ret_bool ?_, rfl⟩
          symm
          rw [List.all_eq_false]
          exact ⟨_, List.mem_of_getElem? HG.out, by rw [HD.out]; simp⟩
        · have HD : Hid (digB (s[k].toNat : Int) = true) := by rw [Hid, digB]; simp; omega
          go_wp2
          go_round
          case rel =>
            refine ⟨k + 1, by omega, by go_num, fun j a hj ha => ?_⟩
            by_cases hjk : j = k
            · subst hjk
              rw [HG.out] at ha
              simp only [Option.some.injEq] at ha
              rw [← ha]; exact HD.out
            · exact HA.out j a (by omega) ha
          case measure => simp [intOf]; omega
    · go_wp2
      go_ret
      refine ⟨ret_bool ?_, rfl⟩
      symm
      rw [List.all_eq_true]
      intro a ha
      obtain ⟨j, hj⟩ := List.mem_iff_getElem?.1 ha
      have : j < (L s).length := (List.getElem?_eq_some_iff.1 hj).1
      rw [L_len] at this
      exact HA.out j a (by omega) hj

set_option maxHeartbeats 1000000 in
theorem hpf_any (s p : ByteArray) (w : World) (hs : s.size ≤ maxLen) (hp : p.size ≤ maxLen) :
    Calls Try.prog 11 #[.string s, .string p] w fun e w' => e = .returned (.bool (hasPre (L s) (L p))) ∧ Below w.heap.size w w' := by
  unfold maxLen at hs hp
  have hls := L_len s
  have hlp := L_len p
  by_cases hlen : s.size < p.size
  · have HS : Hid (false = hasPre (L s) (L p)) := hasPre_short (by omega)
    go_enter Try.func11, Try.ntmps11
    go_wp2
    go_ret
    exact ⟨ret_bool HS.out, Below.refl _ _⟩
  · go_enter Try.func11, Try.ntmps11
    go_wp2
    go_loopw [5] (fun i wr => ∃ (k : Nat), k ≤ p.size ∧ i = .int .i64 k ∧ (∀ j, j < k → ((L s)[j]?).map lowI = (L p)[j]?) ∧ Below w.heap.size w wr) (fun i _ => p.size - (intOf i).toNat)
    case atStart => exact ⟨0, Nat.zero_le _, rfl, fun j h => by omega, Below.refl _ _⟩
    case round =>
      obtain ⟨k, hk, rfl, hall, hbel⟩ := hrel
      have HA : Hid (∀ j, j < k → ((L s)[j]?).map lowI = (L p)[j]?) := hall
      clear hall
      by_cases hlt : k < p.size
      · have hks : k < s.size := by omega
        have HG : Hid ((L s)[k]? = some (s[k].toNat : Int)) := L_get s k hks
        have HP : Hid ((L p)[k]? = some (p[k].toNat : Int)) := L_get p k hlt
        have hb1 : (s[k].toNat : Int) ≤ 255 := by have := s[k].toNat_lt; omega
        by_cases he : lowI (s[k].toNat : Int) = (p[k].toNat : Int)
        · have HE : Hid (lowI (s[k].toNat : Int) = (p[k].toNat : Int)) := he
          have he' : (lowI (s[k].toNat : Int) == (p[k].toNat : Int)) = true := by simpa using he
          clear he
          go_wp2
          go_quiet ((go_at_call 14; exact Calls.quiet_of_same (lower_any _ _ (by omega) hb1)))
          go_wp2
          go_roundw
          case rel =>
            refine ⟨k + 1, by omega, by go_num, fun j hj => ?_, below_drewN' hbel _⟩
            by_cases hjk : j = k
            · subst hjk
              rw [HG.out, HP.out, Option.map_some, HE.out]
            · exact HA.out j (by omega)
          case measure => simp [intOf]; omega
        · have HN : Hid (false = hasPre (L s) (L p)) := hasPre_no HG.out HP.out he
          have he' : (lowI (s[k].toNat : Int) == (p[k].toNat : Int)) = false := by simpa using he
          clear he
          go_wp2
          go_quiet ((go_at_call 14; exact Calls.quiet_of_same (lower_any _ _ (by omega) hb1)))
          go_wp2
          go_ret
          exact ⟨ret_bool HN.out, below_drewN' hbel _⟩
      · go_wp2
        go_ret
        refine ⟨ret_bool (hasPre_yes (by omega) fun i hi => HA.out i (by omega)), hbel⟩

end Go.Proofs.Qxb6623306a
