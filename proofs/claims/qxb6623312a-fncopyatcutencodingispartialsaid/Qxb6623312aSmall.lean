/-
  Seat b6623312a: unhex, HasPrefix, zzHasPrefix: the walks. Our own text.
-/
import Derived.Test.Qxb6623312aPlain
import Derived.WalkKit
import Derived.Below
import Derived.BigQuiet
import Derived.Deep.QuietTactic
import Derived.Deep.RegionWith
import Derived.WalkSpells
import Derived.Lib.SliceRun
import Derived.Lib.Strings
namespace Go.Proofs.Qxb6623312a
open Go.RowKit
set_option linter.unusedSimpArgs false
set_option linter.unusedVariables false

theorem ret_bool {a b : Bool} (h : a = b) : Ending.returned (.bool a) = .returned (.bool b) := by rw [h]
theorem ret_ib {k : IntKind} {a b : Int} {c d : Bool} (h : a = b) (h2 : c = d) : Ending.returned (.tuple #[.int k a, .bool c]) = .returned (.tuple #[.int k b, .bool d]) := by rw [h, h2]
theorem below_drewN' {B : Nat} {w w' : World} (h : Below B w w') (q : Nat) : Below B w (w'.drewN q) := ⟨h.os, h.tape, h.output, h.size, h.block⟩
theorem bstep {w w' w'' : World} (h : Below w.heap.size w w') (k : Below w'.heap.size w' w'') : Below w.heap.size w w'' := h.trans (k.mono h.size)

theorem unhex_out (t : ByteArray) (i : Nat) (w : World) (hi : t.size ≤ i) : Calls Try.prog 13 #[.string t, .int .i64 i] w fun e w' => e = .returned (.tuple #[.int .u8 0, .bool false]) ∧ w' = w := by
  go_enter Try.func13, Try.ntmps13
  go_wp2
  go_ret2
  exact ⟨rfl, rfl⟩

set_option maxHeartbeats 1000000 in
theorem unhex_in (t : ByteArray) (i : Nat) (w : World) (hi : i < t.size) (ht : t.size ≤ maxLen) :
    Calls Try.prog 13 #[.string t, .int .i64 i] w fun e w' => e = .returned (.tuple #[.int .u8 (uv (t[i].toNat : Int)), .bool (ub (t[i].toNat : Int))]) ∧ w' = w := by
  unfold maxLen at ht
  have hb := u8_le t[i]
  rcases (show ((48 : Int) ≤ (t[i].toNat : Int) ∧ (t[i].toNat : Int) ≤ 57) ∨ ((97 : Int) ≤ (t[i].toNat : Int) ∧ (t[i].toNat : Int) ≤ 102) ∨ ((65 : Int) ≤ (t[i].toNat : Int) ∧ (t[i].toNat : Int) ≤ 70) ∨ ((t[i].toNat : Int) < 48) ∨ ((57 : Int) < (t[i].toNat : Int) ∧ (t[i].toNat : Int) < 65) ∨ ((70 : Int) < (t[i].toNat : Int) ∧ (t[i].toNat : Int) < 97) ∨ ((102 : Int) < (t[i].toNat : Int)) by omega) with ⟨h1, h2⟩ | ⟨h1, h2⟩ | ⟨h1, h2⟩ | h1 | ⟨h1, h2⟩ | ⟨h1, h2⟩ | h1
  all_goals
    have HU : Hid (ub (t[i].toNat : Int) = decide ((48 ≤ (t[i].toNat : Int) ∧ (t[i].toNat : Int) ≤ 57) ∨ (97 ≤ (t[i].toNat : Int) ∧ (t[i].toNat : Int) ≤ 102) ∨ (65 ≤ (t[i].toNat : Int) ∧ (t[i].toNat : Int) ≤ 70))) := rfl
    have HV : Hid (uv (t[i].toNat : Int) = if 48 ≤ (t[i].toNat : Int) ∧ (t[i].toNat : Int) ≤ 57 then (t[i].toNat : Int) - 48 else if 97 ≤ (t[i].toNat : Int) ∧ (t[i].toNat : Int) ≤ 102 then (t[i].toNat : Int) - 87 else if 65 ≤ (t[i].toNat : Int) ∧ (t[i].toNat : Int) ≤ 70 then (t[i].toNat : Int) - 55 else 0) := rfl
    go_enter Try.func13, Try.ntmps13
    go_wp2
    go_ret2
    refine ⟨ret_ib ?_ ?_, rfl⟩
    · show _ = uv _
      unfold uv
      split
      · omega
      · split
        · omega
        · split <;> omega
    · show _ = ub _
      symm
      unfold ub
      first | (rw [decide_eq_true_eq]; omega) | (rw [decide_eq_false_iff_not]; omega)

/-- HasPrefix, plainly. -/
theorem pre_short {s p : ByteArray} (h : s.size < p.size) : preB (L s) (L p) = false := by
  cases hq : preB (L s) (L p) with
  | false => rfl
  | true => have := (preB_iff.1 hq).length_le; rw [L_len, L_len] at this; omega
theorem pre_cut {s p : ByteArray} (h : p.size ≤ s.size) : ((s.extract 0 p.size).toList == p.toList) = preB (L s) (L p) := by
  rw [Bool.eq_iff_iff, beq_iff_eq, preB_iff, Lib.extract_toList, Lib.toList_data]
  have hp : p.size = p.data.toList.length := Lib.size_eq p
  simp only [List.drop_zero, Nat.sub_zero]
  constructor
  · intro e
    unfold L
    rw [← e]
    exact (List.take_prefix _ _).map _
  · intro e
    have := List.prefix_iff_eq_take.1 e
    rw [L_len] at this
    unfold L at this
    rw [← List.map_take] at this
    have inj := fun (a b : UInt8) (hab : (a.toNat : Int) = (b.toNat : Int)) => UInt8.toNat_inj.1 (show a.toNat = b.toNat by omega)
    exact ((List.map_inj_right inj).1 this).symm

set_option maxHeartbeats 1000000 in
theorem hp14_any (s p : ByteArray) (w : World) (hs : s.size ≤ maxLen) (hp : p.size ≤ maxLen) :
    Calls Try.prog 14 #[.string s, .string p] w fun e w' => e = .returned (.bool (preB (L s) (L p))) ∧ w' = w := by
  unfold maxLen at hs hp
  by_cases h : p.size ≤ s.size
  · have HP : Hid (((s.extract 0 p.size).toList == p.toList) = preB (L s) (L p)) := pre_cut h
    go_enter Try.func14, Try.ntmps14
    go_wp2
    go_ret
    exact ⟨ret_bool HP.out, rfl⟩
  · have HP : Hid (preB (L s) (L p) = false) := pre_short (by omega)
    go_enter Try.func14, Try.ntmps14
    go_wp2
    go_ret
    exact ⟨ret_bool HP.out.symm, rfl⟩

theorem hp12_any (s p : ByteArray) (w : World) (hs : s.size ≤ maxLen) (hp : p.size ≤ maxLen) :
    Calls Try.prog 12 #[.string s, .string p] w fun e w' => e = .returned (.bool (preB (L s) (L p))) ∧ w' = w := by
  go_enter Try.func12, Try.ntmps12
  go_wp2_with (go_at_call 14; refine (hp14_any s p _ hs hp).mono ?_; rintro e w' ⟨rfl, rfl⟩)
  go_ret
  exact ⟨rfl, rfl⟩

theorem pre_no {s p : List Int} {i : Nat} {a b : Int} (ha : s[i]? = some a) (hb : p[i]? = some b) (h : a ≠ b) : false = preB s p := by
  symm
  cases hq : preB s p with
  | false => rfl
  | true =>
    obtain ⟨t, ht⟩ := preB_iff.1 hq
    have hi : i < p.length := (List.getElem?_eq_some_iff.1 hb).1
    rw [← ht, List.getElem?_append_left hi, hb] at ha
    simp only [Option.some.injEq] at ha
    exact absurd ha.symm h
theorem pre_yes {s p : List Int} (hl : p.length ≤ s.length) (h : ∀ i, i < p.length → s[i]? = p[i]?) : true = preB s p := by
  symm
  rw [preB_iff, List.prefix_iff_eq_take]
  apply List.ext_getElem?
  intro i
  rw [List.getElem?_take]
  by_cases hi : i < p.length
  · rw [if_pos hi]; exact (h i hi).symm
  · rw [if_neg hi, List.getElem?_eq_none (by omega)]

set_option maxHeartbeats 1000000 in
theorem zhp_any (s p : ByteArray) (w : World) (hs : s.size ≤ maxLen) (hp : p.size ≤ maxLen) :
    Calls Try.prog 9 #[.string s, .string p] w fun e w' => e = .returned (.bool (preB (L s) (L p))) ∧ Below w.heap.size w w' := by
  unfold maxLen at hs hp
  have hls := L_len s
  have hlp := L_len p
  by_cases hlen : s.size < p.size
  · have HS : Hid (preB (L s) (L p) = false) := pre_short hlen
    go_enter Try.func9, Try.ntmps9
    go_wp2
    go_ret
    exact ⟨ret_bool HS.out.symm, Below.refl _ _⟩
  · go_enter Try.func9, Try.ntmps9
    go_wp2
    go_loopw [5] (fun i wr => ∃ (k : Nat), k ≤ p.size ∧ i = .int .i64 k ∧ (∀ j, j < k → (L s)[j]? = (L p)[j]?) ∧ Below w.heap.size w wr) (fun i _ => p.size - (intOf i).toNat)
    case atStart => exact ⟨0, Nat.zero_le _, rfl, fun j h => by omega, Below.refl _ _⟩
    case round =>
      obtain ⟨k, hk, rfl, hall, hbel⟩ := hrel
      have HA : Hid (∀ j, j < k → (L s)[j]? = (L p)[j]?) := hall
      clear hall
      by_cases hlt : k < p.size
      · have hks : k < s.size := by omega
        have HG : Hid ((L s)[k]? = some (s[k].toNat : Int)) := L_get s k hks
        have HP : Hid ((L p)[k]? = some (p[k].toNat : Int)) := L_get p k hlt
        by_cases he : (s[k].toNat : Int) = (p[k].toNat : Int)
        · have HE : Hid ((s[k].toNat : Int) = (p[k].toNat : Int)) := he
          have he' : ((s[k].toNat : Int) == (p[k].toNat : Int)) = true := by simpa using he
          clear he
          go_wp2
          go_quiet (fail)
          go_wp2
          go_roundw
          case rel =>
            refine ⟨k + 1, by omega, by go_num, fun j hj => ?_, below_drewN' hbel _⟩
            by_cases hjk : j = k
            · subst hjk
              rw [HG.out, HP.out, HE.out]
            · exact HA.out j (by omega)
          case measure => simp [intOf]; omega
        · have HN : Hid (false = preB (L s) (L p)) := pre_no HG.out HP.out he
          have he' : ((s[k].toNat : Int) == (p[k].toNat : Int)) = false := by simpa using he
          clear he
          go_wp2
          go_quiet (fail)
          go_wp2
          go_ret
          exact ⟨ret_bool HN.out, below_drewN' hbel _⟩
      · go_wp2
        go_ret
        exact ⟨ret_bool (pre_yes (by omega) fun i hi => HA.out i (by omega)), hbel⟩

end Go.Proofs.Qxb6623312a
