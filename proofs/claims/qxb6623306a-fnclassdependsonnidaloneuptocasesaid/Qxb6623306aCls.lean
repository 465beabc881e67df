/-
  Seat b6623306a: (URN).Class: the walk. Our own text.
-/
import Derived.Test.Qxb6623306aSmall
import Derived.Lib.Strings
import Derived.Deep.RegionWith
namespace Go.Proofs.Qxb6623306a
open Go.RowKit
set_option linter.unusedSimpArgs false
set_option linter.unusedVariables false

theorem ret_str {a b : ByteArray} (h : a = b) : Ending.returned (.string a) = .returned (.string b) := by rw [h]
def pUrnD : ByteArray := ⟨#[117, 114, 110, 45]⟩
def pX : ByteArray := ⟨#[120, 45]⟩
def pUrn : ByteArray := ⟨#[117, 114, 110]⟩
theorem L_pUrnD : L pUrnD = urnD := rfl
theorem L_pX : L pX = xD := rfl
theorem L_pUrn : L pUrn = urn := rfl

/-- A URN's six cells. -/
abbrev urnV (s a b c d : ByteArray) (h : Bool) : Value := .agg #[.string s, .string a, .string b, .string c, .string d, .bool h]

/-- 'nid[4:]'. -/
theorem L_extract (s : ByteArray) : L (s.extract 4 s.size) = (L s).drop 4 := by
  unfold L
  rw [← List.map_drop, Lib.extract_data, List.take_of_length_le]
  rw [List.length_drop, ← Lib.size_eq]
  exact Nat.le_refl _
theorem num_empty {t : ByteArray} (h : t.toList = []) : numB (L t) = false := by
  have : L t = [] := by unfold L; rw [← Lib.toList_data, h]; rfl
  rw [this]; rfl
theorem num_zero {t : ByteArray} (h0 : 0 < t.size) (h : (t[0].toNat : Int) = 48) : numB (L t) = false := by
  have hg := L_get t 0 h0
  rw [h] at hg
  unfold numB
  rw [List.head?_eq_getElem?, hg]
  simp
theorem num_else {t : ByteArray} (h0 : 0 < t.size) (h : ¬ (t[0].toNat : Int) = 48) : numB (L t) = (L t).all digB := by
  have hg := L_get t 0 h0
  unfold numB
  rw [List.head?_eq_getElem?, hg]
  cases hl : L t with
  | nil => rw [hl] at hg; simp at hg
  | cons a l => simp [h]
theorem cls_urn {l : List Int} (h : hasPre l urnD = true) : cls l = if numB (l.drop 4) then 1 else 2 := by unfold cls; rw [h]; rfl

set_option maxHeartbeats 1000000 in
theorem class_1 (s a b c d : ByteArray) (hf : Bool) (w : World) (hs : s.size ≤ maxLen) (h1 : hasPre (L s) urnD = true) :
    Calls Try.prog 6 #[urnV s a b c d hf] w fun e w' => e = .returned (.string (cstr (cls (L s)))) ∧ Below w.heap.size w w' := by
  have h4 : 4 ≤ s.size := by have := hasPre_len h1; rw [L_len] at this; exact this
  have HC : Hid (cls (L s) = if numB (L (s.extract 4 s.size)) then 1 else 2) := by rw [Hid, L_extract]; exact cls_urn h1
  have hts : (s.extract 4 s.size).size ≤ maxLen := by simp; omega
  go_enter Try.func6, Try.ntmps6
  go_wp2_with (first
    | (go_at_call 11; refine (hpf_any s pUrnD _ hs (by decide)).mono ?_; rintro e w1 ⟨rfl, hb1⟩; rw [L_pUrnD, h1])
    | (go_at_call 12; refine (digits_any (s.extract 4 s.size) _ hts).mono ?_; rintro e w2 ⟨rfl, rfl⟩))
  · have h : (s.extract 4 s.size).toList = [] := by assumption
    go_ret
    exact ⟨ret_str (by rw [HC.out, num_empty h]; rfl), bstep ((Below.refl _ _).alloc (Nat.le_refl _) _) hb1⟩
  · have h0 : 0 < s.size - 4 := by assumption
    have h0' : 0 < (s.extract 4 s.size).size := by simpa using h0
    have h : ((s.extract 4 s.size)[0].toNat : Int) = 48 := by assumption
    go_ret
    exact ⟨ret_str (by rw [HC.out, num_zero h0' h]; rfl), bstep ((Below.refl _ _).alloc (Nat.le_refl _) _) hb1⟩
  · have h0 : 0 < s.size - 4 := by assumption
    have h0' : 0 < (s.extract 4 s.size).size := by simpa using h0
    have h : ¬ ((s.extract 4 s.size)[0].toNat : Int) = 48 := by assumption
    have hd : ((!(s.extract 4 s.size).toList.isEmpty) = true ∧ (((s.extract 4 s.size)[0].toNat : Int) != 48) = true) ∧ (L (s.extract 4 s.size)).all digB = true := by assumption
    go_ret
    exact ⟨ret_str (by rw [HC.out, num_else h0' h, hd.2]; rfl), bstep ((Below.refl _ _).alloc (Nat.le_refl _) _) hb1⟩
  · have h0 : 0 < s.size - 4 := by assumption
    have h0' : 0 < (s.extract 4 s.size).size := by simpa using h0
    have h : ¬ ((s.extract 4 s.size)[0].toNat : Int) = 48 := by assumption
    have he : ¬ (s.extract 4 s.size).toList = [] := by assumption
    have hd : ((!(s.extract 4 s.size).toList.isEmpty) = false ∨ (((s.extract 4 s.size)[0].toNat : Int) != 48) = false) ∨ (L (s.extract 4 s.size)).all digB = false := by assumption
    have hd' : (L (s.extract 4 s.size)).all digB = false := by
      rcases hd with (hd | hd) | hd
      · simp at hd; exact absurd hd he
      · simp at hd; exact absurd hd h
      · exact hd
    go_ret
    exact ⟨ret_str (by rw [HC.out, num_else h0' h, hd']; rfl), bstep ((Below.refl _ _).alloc (Nat.le_refl _) _) hb1⟩
  · exfalso
    have h0 : ¬ 0 < s.size - 4 := by assumption
    have he : ¬ (s.extract 4 s.size).toList = [] := by assumption
    apply he
    rw [Lib.toList_data]
    apply List.eq_nil_of_length_eq_zero
    rw [← Lib.size_eq]
    simp
    omega

theorem cls_x2 {l : List Int} (h1 : hasPre l urnD = false) (h2 : hasPre l xD = true) : cls l = 3 := by unfold cls; rw [h1, h2]; rfl
theorem cls_r {l : List Int} (h1 : hasPre l urnD = false) (h2 : hasPre l xD = false) (h : (l.length = 3 ∧ hasPre l urn = true) ∨ l.length = 2 ∨ ccB l = true) : cls l = 2 := by
  unfold cls; rw [h1, h2]; simp only [Bool.false_eq_true, if_false]; rw [if_pos h]
theorem cls_f {l : List Int} (h1 : hasPre l urnD = false) (h2 : hasPre l xD = false) (h : ¬ ((l.length = 3 ∧ hasPre l urn = true) ∨ l.length = 2 ∨ ccB l = true)) : cls l = 0 := by
  unfold cls; rw [h1, h2]; simp only [Bool.false_eq_true, if_false]; rw [if_neg h]

set_option maxHeartbeats 1000000 in
theorem class_2 (s a b c d : ByteArray) (hf : Bool) (w : World) (hs : s.size ≤ maxLen) (h1 : hasPre (L s) urnD = false) (h2 : hasPre (L s) xD = true) :
    Calls Try.prog 6 #[urnV s a b c d hf] w fun e w' => e = .returned (.string (cstr (cls (L s)))) ∧ Below w.heap.size w w' := by
  have HC : Hid (cls (L s) = 3) := cls_x2 h1 h2
  go_enter Try.func6, Try.ntmps6
  go_wp2_with (first
    | (go_at_call_of 11 (117 : UInt8); refine (hpf_any s pUrnD _ hs (by decide)).mono ?_; rintro e w1 ⟨rfl, hb1⟩; rw [L_pUrnD, h1])
    | (go_at_call_of 11 (120 : UInt8); refine (hpf_any s pX _ hs (by decide)).mono ?_; rintro e w2 ⟨rfl, hb2⟩; rw [L_pX, h2]))
  go_ret
  exact ⟨ret_str (by rw [HC.out]; rfl), bstep (bstep ((Below.refl _ _).alloc (Nat.le_refl _) _) hb1) hb2⟩

theorem u8_le (c : UInt8) : (c.toNat : Int) ≤ 255 := by have := c.toNat_lt; omega
theorem L_getD (s : ByteArray) (i : Nat) (h : i < s.size) : (L s).getD i 0 = (s[i].toNat : Int) := by simp [List.getD, L_get s i h]
theorem cc_of (s : ByteArray) (h : 2 < s.size) : ccB (L s) = (letB (s[0].toNat : Int) && letB (s[1].toNat : Int) && decide ((s[2].toNat : Int) = 45)) := by
  unfold ccB
  rw [L_getD s 0 (by omega), L_getD s 1 (by omega), L_getD s 2 (by omega), L_len]
  simp [h]
theorem cc_short (s : ByteArray) (h : s.size ≤ 2) : ccB (L s) = false := by
  unfold ccB
  rw [L_len, decide_eq_false (by omega)]
  rfl

set_option maxHeartbeats 1000000 in
theorem class_A (s a b c d : ByteArray) (hf : Bool) (w : World) (hs : s.size ≤ maxLen) (h1 : hasPre (L s) urnD = false) (h2 : hasPre (L s) xD = false) (ha : 2 < s.size) (hb : s.size ≤ 3) (hu : hasPre (L s) urn = true) :
    Calls Try.prog 6 #[urnV s a b c d hf] w fun e w' => e = .returned (.string (cstr (cls (L s)))) ∧ Below w.heap.size w w' := by
  have hl := L_len s
  have HC : Hid (cls (L s) = 2) := cls_r h1 h2 (.inl ⟨by omega, hu⟩)
  go_enter Try.func6, Try.ntmps6
  go_wp2_with (first
    | (go_at_call_of 11 (117 : UInt8); go_at_call_of 11 (45 : UInt8); refine (hpf_any s pUrnD _ hs (by decide)).mono ?_; rintro e w1 ⟨rfl, hb1⟩; rw [L_pUrnD, h1])
    | (go_at_call_of 11 (120 : UInt8); refine (hpf_any s pX _ hs (by decide)).mono ?_; rintro e w2 ⟨rfl, hb2⟩; rw [L_pX, h2])
    | (go_at_call_of 11 (117 : UInt8); refine (hpf_any s pUrn _ hs (by decide)).mono ?_; rintro e w3 ⟨rfl, hb3⟩; rw [L_pUrn, hu]))
  go_ret
  exact ⟨ret_str (by rw [HC.out]; rfl), bstep (bstep (bstep ((Below.refl _ _).alloc (Nat.le_refl _) _) hb1) hb2) hb3⟩

set_option maxHeartbeats 1000000 in
theorem class_B (s a b c d : ByteArray) (hf : Bool) (w : World) (hs : s.size ≤ maxLen) (h1 : hasPre (L s) urnD = false) (h2 : hasPre (L s) xD = false) (ha : 1 < s.size) (hb : s.size ≤ 2) :
    Calls Try.prog 6 #[urnV s a b c d hf] w fun e w' => e = .returned (.string (cstr (cls (L s)))) ∧ Below w.heap.size w w' := by
  have hl := L_len s
  have HC : Hid (cls (L s) = 2) := cls_r h1 h2 (.inr (.inl (by omega)))
  go_enter Try.func6, Try.ntmps6
  go_wp2_with (first
    | (go_at_call_of 11 (117 : UInt8); go_at_call_of 11 (45 : UInt8); refine (hpf_any s pUrnD _ hs (by decide)).mono ?_; rintro e w1 ⟨rfl, hb1⟩; rw [L_pUrnD, h1])
    | (go_at_call_of 11 (120 : UInt8); refine (hpf_any s pX _ hs (by decide)).mono ?_; rintro e w2 ⟨rfl, hb2⟩; rw [L_pX, h2]))
  go_ret
  exact ⟨ret_str (by rw [HC.out]; rfl), bstep (bstep ((Below.refl _ _).alloc (Nat.le_refl _) _) hb1) hb2⟩

set_option maxHeartbeats 1000000 in
theorem class_C (s a b c d : ByteArray) (hf : Bool) (w : World) (hs : s.size ≤ maxLen) (h1 : hasPre (L s) urnD = false) (h2 : hasPre (L s) xD = false) (hb : s.size ≤ 1) :
    Calls Try.prog 6 #[urnV s a b c d hf] w fun e w' => e = .returned (.string (cstr (cls (L s)))) ∧ Below w.heap.size w w' := by
  have hl := L_len s
  have HC : Hid (cls (L s) = 0) := cls_f h1 h2 (by rw [cc_short s (by omega)]; simp; omega)
  go_enter Try.func6, Try.ntmps6
  go_wp2_with (first
    | (go_at_call_of 11 (117 : UInt8); go_at_call_of 11 (45 : UInt8); refine (hpf_any s pUrnD _ hs (by decide)).mono ?_; rintro e w1 ⟨rfl, hb1⟩; rw [L_pUrnD, h1])
    | (go_at_call_of 11 (120 : UInt8); refine (hpf_any s pX _ hs (by decide)).mono ?_; rintro e w2 ⟨rfl, hb2⟩; rw [L_pX, h2]))
  go_ret
  exact ⟨ret_str (by rw [HC.out]; rfl), bstep (bstep ((Below.refl _ _).alloc (Nat.le_refl _) _) hb1) hb2⟩

set_option maxHeartbeats 1000000 in
theorem class_D13 (s a b c d : ByteArray) (hf : Bool) (w : World) (hs : s.size ≤ maxLen) (h1 : hasPre (L s) urnD = false) (h2 : hasPre (L s) xD = false) (ha : 2 < s.size) (hb : s.size ≤ 3) (hu : hasPre (L s) urn = false) (l0 : letB ((s[0]'(by omega)).toNat : Int) = false) :
    Calls Try.prog 6 #[urnV s a b c d hf] w fun e w' => e = .returned (.string (cstr (cls (L s)))) ∧ Below w.heap.size w w' := by
  have hl := L_len s
  have h0 : 0 < s.size := by omega
  have h1' : 1 < s.size := by omega
  have h2' : 2 < s.size := by omega
  have hcc : ccB (L s) = false := by rw [cc_of s (by omega), l0]; rfl
  have HC : Hid (cls (L s) = 0) := cls_f h1 h2 (by rintro (⟨_, h⟩ | h | h); (· rw [hu] at h; cases h); (· omega); (· rw [hcc] at h; cases h))
  go_enter Try.func6, Try.ntmps6
  go_wp2_with (first
    | (go_at_call_of 11 (117 : UInt8); go_at_call_of 11 (45 : UInt8); refine (hpf_any s pUrnD _ hs (by decide)).mono ?_; rintro e w1 ⟨rfl, hb1⟩; rw [L_pUrnD, h1])
    | (go_at_call_of 11 (120 : UInt8); refine (hpf_any s pX _ hs (by decide)).mono ?_; rintro e w2 ⟨rfl, hb2⟩; rw [L_pX, h2])
    | (go_at_call_of 11 (117 : UInt8); refine (hpf_any s pUrn _ hs (by decide)).mono ?_; rintro e w3 ⟨rfl, hb3⟩; rw [L_pUrn, hu])
    | (go_at_call 13; refine (letter_any _ _ (by omega) (u8_le _)).mono ?_; rintro e wl ⟨rfl, rfl⟩; first | rw [l0]))
  go_ret
  exact ⟨ret_str (by rw [HC.out]; rfl), bstep (bstep (bstep ((Below.refl _ _).alloc (Nat.le_refl _) _) hb1) hb2) hb3⟩

set_option maxHeartbeats 1000000 in
theorem class_D23 (s a b c d : ByteArray) (hf : Bool) (w : World) (hs : s.size ≤ maxLen) (h1 : hasPre (L s) urnD = false) (h2 : hasPre (L s) xD = false) (ha : 2 < s.size) (hb : s.size ≤ 3) (hu : hasPre (L s) urn = false) (l0 : letB ((s[0]'(by omega)).toNat : Int) = true) (l1 : letB ((s[1]'(by omega)).toNat : Int) = false) :
    Calls Try.prog 6 #[urnV s a b c d hf] w fun e w' => e = .returned (.string (cstr (cls (L s)))) ∧ Below w.heap.size w w' := by
  have hl := L_len s
  have h0 : 0 < s.size := by omega
  have h1' : 1 < s.size := by omega
  have h2' : 2 < s.size := by omega
  have hcc : ccB (L s) = false := by rw [cc_of s (by omega), l0, l1]; rfl
  have HC : Hid (cls (L s) = 0) := cls_f h1 h2 (by rintro (⟨_, h⟩ | h | h); (· rw [hu] at h; cases h); (· omega); (· rw [hcc] at h; cases h))
  go_enter Try.func6, Try.ntmps6
  go_wp2_with (first
    | (go_at_call_of 11 (117 : UInt8); go_at_call_of 11 (45 : UInt8); refine (hpf_any s pUrnD _ hs (by decide)).mono ?_; rintro e w1 ⟨rfl, hb1⟩; rw [L_pUrnD, h1])
    | (go_at_call_of 11 (120 : UInt8); refine (hpf_any s pX _ hs (by decide)).mono ?_; rintro e w2 ⟨rfl, hb2⟩; rw [L_pX, h2])
    | (go_at_call_of 11 (117 : UInt8); refine (hpf_any s pUrn _ hs (by decide)).mono ?_; rintro e w3 ⟨rfl, hb3⟩; rw [L_pUrn, hu])
    | (go_at_call 13; refine (letter_any _ _ (by omega) (u8_le _)).mono ?_; rintro e wl ⟨rfl, rfl⟩; first | rw [l0] | rw [l1]))
  go_ret
  exact ⟨ret_str (by rw [HC.out]; rfl), bstep (bstep (bstep ((Below.refl _ _).alloc (Nat.le_refl _) _) hb1) hb2) hb3⟩

set_option maxHeartbeats 1000000 in
theorem class_D33 (s a b c d : ByteArray) (hf : Bool) (w : World) (hs : s.size ≤ maxLen) (h1 : hasPre (L s) urnD = false) (h2 : hasPre (L s) xD = false) (ha : 2 < s.size) (hb : s.size ≤ 3) (hu : hasPre (L s) urn = false) (l0 : letB ((s[0]'(by omega)).toNat : Int) = true) (l1 : letB ((s[1]'(by omega)).toNat : Int) = true) (l2 : ((s[2]'(by omega)).toNat : Int) = 45) :
    Calls Try.prog 6 #[urnV s a b c d hf] w fun e w' => e = .returned (.string (cstr (cls (L s)))) ∧ Below w.heap.size w w' := by
  have hl := L_len s
  have h0 : 0 < s.size := by omega
  have h1' : 1 < s.size := by omega
  have h2' : 2 < s.size := by omega
  have hcc : ccB (L s) = true := by rw [cc_of s (by omega), l0, l1, l2]; rfl
  have HC : Hid (cls (L s) = 2) := cls_r h1 h2 (.inr (.inr hcc))
  go_enter Try.func6, Try.ntmps6
  go_wp2_with (first
    | (go_at_call_of 11 (117 : UInt8); go_at_call_of 11 (45 : UInt8); refine (hpf_any s pUrnD _ hs (by decide)).mono ?_; rintro e w1 ⟨rfl, hb1⟩; rw [L_pUrnD, h1])
    | (go_at_call_of 11 (120 : UInt8); refine (hpf_any s pX _ hs (by decide)).mono ?_; rintro e w2 ⟨rfl, hb2⟩; rw [L_pX, h2])
    | (go_at_call_of 11 (117 : UInt8); refine (hpf_any s pUrn _ hs (by decide)).mono ?_; rintro e w3 ⟨rfl, hb3⟩; rw [L_pUrn, hu])
    | (go_at_call 13; refine (letter_any _ _ (by omega) (u8_le _)).mono ?_; rintro e wl ⟨rfl, rfl⟩; first | rw [l0] | rw [l1]))
  go_ret
  exact ⟨ret_str (by rw [HC.out]; rfl), bstep (bstep (bstep ((Below.refl _ _).alloc (Nat.le_refl _) _) hb1) hb2) hb3⟩

set_option maxHeartbeats 1000000 in
theorem class_D43 (s a b c d : ByteArray) (hf : Bool) (w : World) (hs : s.size ≤ maxLen) (h1 : hasPre (L s) urnD = false) (h2 : hasPre (L s) xD = false) (ha : 2 < s.size) (hb : s.size ≤ 3) (hu : hasPre (L s) urn = false) (l0 : letB ((s[0]'(by omega)).toNat : Int) = true) (l1 : letB ((s[1]'(by omega)).toNat : Int) = true) (l2 : (((s[2]'(by omega)).toNat : Int) == 45) = false) :
    Calls Try.prog 6 #[urnV s a b c d hf] w fun e w' => e = .returned (.string (cstr (cls (L s)))) ∧ Below w.heap.size w w' := by
  have hl := L_len s
  have h0 : 0 < s.size := by omega
  have h1' : 1 < s.size := by omega
  have h2' : 2 < s.size := by omega
  have hcc : ccB (L s) = false := by rw [cc_of s (by omega), l0, l1]; simpa using l2
  have HC : Hid (cls (L s) = 0) := cls_f h1 h2 (by rintro (⟨_, h⟩ | h | h); (· rw [hu] at h; cases h); (· omega); (· rw [hcc] at h; cases h))
  go_enter Try.func6, Try.ntmps6
  go_wp2_with (first
    | (go_at_call_of 11 (117 : UInt8); go_at_call_of 11 (45 : UInt8); refine (hpf_any s pUrnD _ hs (by decide)).mono ?_; rintro e w1 ⟨rfl, hb1⟩; rw [L_pUrnD, h1])
    | (go_at_call_of 11 (120 : UInt8); refine (hpf_any s pX _ hs (by decide)).mono ?_; rintro e w2 ⟨rfl, hb2⟩; rw [L_pX, h2])
    | (go_at_call_of 11 (117 : UInt8); refine (hpf_any s pUrn _ hs (by decide)).mono ?_; rintro e w3 ⟨rfl, hb3⟩; rw [L_pUrn, hu])
    | (go_at_call 13; refine (letter_any _ _ (by omega) (u8_le _)).mono ?_; rintro e wl ⟨rfl, rfl⟩; first | rw [l0] | rw [l1]))
  go_ret
  exact ⟨ret_str (by rw [HC.out]; rfl), bstep (bstep (bstep ((Below.refl _ _).alloc (Nat.le_refl _) _) hb1) hb2) hb3⟩

set_option maxHeartbeats 1000000 in
theorem class_D1n (s a b c d : ByteArray) (hf : Bool) (w : World) (hs : s.size ≤ maxLen) (h1 : hasPre (L s) urnD = false) (h2 : hasPre (L s) xD = false) (ha : 3 < s.size) (l0 : letB ((s[0]'(by omega)).toNat : Int) = false) :
    Calls Try.prog 6 #[urnV s a b c d hf] w fun e w' => e = .returned (.string (cstr (cls (L s)))) ∧ Below w.heap.size w w' := by
  have hl := L_len s
  have h0 : 0 < s.size := by omega
  have h1' : 1 < s.size := by omega
  have h2' : 2 < s.size := by omega
  have hcc : ccB (L s) = false := by rw [cc_of s (by omega), l0]; rfl
  have HC : Hid (cls (L s) = 0) := cls_f h1 h2 (by rintro (⟨h, _⟩ | h | h); (· omega); (· omega); (· rw [hcc] at h; cases h))
  go_enter Try.func6, Try.ntmps6
  go_wp2_with (first
    | (go_at_call_of 11 (117 : UInt8); go_at_call_of 11 (45 : UInt8); refine (hpf_any s pUrnD _ hs (by decide)).mono ?_; rintro e w1 ⟨rfl, hb1⟩; rw [L_pUrnD, h1])
    | (go_at_call_of 11 (120 : UInt8); refine (hpf_any s pX _ hs (by decide)).mono ?_; rintro e w2 ⟨rfl, hb2⟩; rw [L_pX, h2])
    | (go_at_call 13; refine (letter_any _ _ (by omega) (u8_le _)).mono ?_; rintro e wl ⟨rfl, rfl⟩; first | rw [l0]))
  go_ret
  exact ⟨ret_str (by rw [HC.out]; rfl), bstep (bstep ((Below.refl _ _).alloc (Nat.le_refl _) _) hb1) hb2⟩

set_option maxHeartbeats 1000000 in
theorem class_D2n (s a b c d : ByteArray) (hf : Bool) (w : World) (hs : s.size ≤ maxLen) (h1 : hasPre (L s) urnD = false) (h2 : hasPre (L s) xD = false) (ha : 3 < s.size) (l0 : letB ((s[0]'(by omega)).toNat : Int) = true) (l1 : letB ((s[1]'(by omega)).toNat : Int) = false) :
    Calls Try.prog 6 #[urnV s a b c d hf] w fun e w' => e = .returned (.string (cstr (cls (L s)))) ∧ Below w.heap.size w w' := by
  have hl := L_len s
  have h0 : 0 < s.size := by omega
  have h1' : 1 < s.size := by omega
  have h2' : 2 < s.size := by omega
  have hcc : ccB (L s) = false := by rw [cc_of s (by omega), l0, l1]; rfl
  have HC : Hid (cls (L s) = 0) := cls_f h1 h2 (by rintro (⟨h, _⟩ | h | h); (· omega); (· omega); (· rw [hcc] at h; cases h))
  go_enter Try.func6, Try.ntmps6
  go_wp2_with (first
    | (go_at_call_of 11 (117 : UInt8); go_at_call_of 11 (45 : UInt8); refine (hpf_any s pUrnD _ hs (by decide)).mono ?_; rintro e w1 ⟨rfl, hb1⟩; rw [L_pUrnD, h1])
    | (go_at_call_of 11 (120 : UInt8); refine (hpf_any s pX _ hs (by decide)).mono ?_; rintro e w2 ⟨rfl, hb2⟩; rw [L_pX, h2])
    | (go_at_call 13; refine (letter_any _ _ (by omega) (u8_le _)).mono ?_; rintro e wl ⟨rfl, rfl⟩; first | rw [l0] | rw [l1]))
  go_ret
  exact ⟨ret_str (by rw [HC.out]; rfl), bstep (bstep ((Below.refl _ _).alloc (Nat.le_refl _) _) hb1) hb2⟩

set_option maxHeartbeats 1000000 in
theorem class_D3n (s a b c d : ByteArray) (hf : Bool) (w : World) (hs : s.size ≤ maxLen) (h1 : hasPre (L s) urnD = false) (h2 : hasPre (L s) xD = false) (ha : 3 < s.size) (l0 : letB ((s[0]'(by omega)).toNat : Int) = true) (l1 : letB ((s[1]'(by omega)).toNat : Int) = true) (l2 : ((s[2]'(by omega)).toNat : Int) = 45) :
    Calls Try.prog 6 #[urnV s a b c d hf] w fun e w' => e = .returned (.string (cstr (cls (L s)))) ∧ Below w.heap.size w w' := by
  have hl := L_len s
  have h0 : 0 < s.size := by omega
  have h1' : 1 < s.size := by omega
  have h2' : 2 < s.size := by omega
  have hcc : ccB (L s) = true := by rw [cc_of s (by omega), l0, l1, l2]; rfl
  have HC : Hid (cls (L s) = 2) := cls_r h1 h2 (.inr (.inr hcc))
  go_enter Try.func6, Try.ntmps6
  go_wp2_with (first
    | (go_at_call_of 11 (117 : UInt8); go_at_call_of 11 (45 : UInt8); refine (hpf_any s pUrnD _ hs (by decide)).mono ?_; rintro e w1 ⟨rfl, hb1⟩; rw [L_pUrnD, h1])
    | (go_at_call_of 11 (120 : UInt8); refine (hpf_any s pX _ hs (by decide)).mono ?_; rintro e w2 ⟨rfl, hb2⟩; rw [L_pX, h2])
    | (go_at_call 13; refine (letter_any _ _ (by omega) (u8_le _)).mono ?_; rintro e wl ⟨rfl, rfl⟩; first | rw [l0] | rw [l1]))
  go_ret
  exact ⟨ret_str (by rw [HC.out]; rfl), bstep (bstep ((Below.refl _ _).alloc (Nat.le_refl _) _) hb1) hb2⟩

set_option maxHeartbeats 1000000 in
theorem class_D4n (s a b c d : ByteArray) (hf : Bool) (w : World) (hs : s.size ≤ maxLen) (h1 : hasPre (L s) urnD = false) (h2 : hasPre (L s) xD = false) (ha : 3 < s.size) (l0 : letB ((s[0]'(by omega)).toNat : Int) = true) (l1 : letB ((s[1]'(by omega)).toNat : Int) = true) (l2 : (((s[2]'(by omega)).toNat : Int) == 45) = false) :
    Calls Try.prog 6 #[urnV s a b c d hf] w fun e w' => e = .returned (.string (cstr (cls (L s)))) ∧ Below w.heap.size w w' := by
  have hl := L_len s
  have h0 : 0 < s.size := by omega
  have h1' : 1 < s.size := by omega
  have h2' : 2 < s.size := by omega
  have hcc : ccB (L s) = false := by rw [cc_of s (by omega), l0, l1]; simpa using l2
  have HC : Hid (cls (L s) = 0) := cls_f h1 h2 (by rintro (⟨h, _⟩ | h | h); (· omega); (· omega); (· rw [hcc] at h; cases h))
  go_enter Try.func6, Try.ntmps6
  go_wp2_with (first
    | (go_at_call_of 11 (117 : UInt8); go_at_call_of 11 (45 : UInt8); refine (hpf_any s pUrnD _ hs (by decide)).mono ?_; rintro e w1 ⟨rfl, hb1⟩; rw [L_pUrnD, h1])
    | (go_at_call_of 11 (120 : UInt8); refine (hpf_any s pX _ hs (by decide)).mono ?_; rintro e w2 ⟨rfl, hb2⟩; rw [L_pX, h2])
    | (go_at_call 13; refine (letter_any _ _ (by omega) (u8_le _)).mono ?_; rintro e wl ⟨rfl, rfl⟩; first | rw [l0] | rw [l1]))
  go_ret
  exact ⟨ret_str (by rw [HC.out]; rfl), bstep (bstep ((Below.refl _ _).alloc (Nat.le_refl _) _) hb1) hb2⟩

theorem class_any (s a b c d : ByteArray) (hf : Bool) (w : World) (hs : s.size ≤ maxLen) :
    Calls Try.prog 6 #[urnV s a b c d hf] w fun e w' => e = .returned (.string (cstr (cls (L s)))) ∧ Below w.heap.size w w' := by
  cases h1 : hasPre (L s) urnD with
  | true => exact class_1 s a b c d hf w hs h1
  | false =>
    cases h2 : hasPre (L s) xD with
    | true => exact class_2 s a b c d hf w hs h1 h2
    | false =>
      by_cases c1 : s.size ≤ 1
      · exact class_C s a b c d hf w hs h1 h2 c1
      by_cases c2 : s.size ≤ 2
      · exact class_B s a b c d hf w hs h1 h2 (by omega) c2
      by_cases c3 : s.size ≤ 3
      · cases hu : hasPre (L s) urn with
        | true => exact class_A s a b c d hf w hs h1 h2 (by omega) c3 hu
        | false =>
          cases l0 : letB ((s[0]'(by omega)).toNat : Int) with
          | false => exact class_D13 s a b c d hf w hs h1 h2 (by omega) c3 hu l0
          | true =>
            cases l1 : letB ((s[1]'(by omega)).toNat : Int) with
            | false => exact class_D23 s a b c d hf w hs h1 h2 (by omega) c3 hu l0 l1
            | true =>
              by_cases l2 : ((s[2]'(by omega)).toNat : Int) = 45
              · exact class_D33 s a b c d hf w hs h1 h2 (by omega) c3 hu l0 l1 l2
              · exact class_D43 s a b c d hf w hs h1 h2 (by omega) c3 hu l0 l1 (by simpa using l2)
      · cases l0 : letB ((s[0]'(by omega)).toNat : Int) with
        | false => exact class_D1n s a b c d hf w hs h1 h2 (by omega) l0
        | true =>
          cases l1 : letB ((s[1]'(by omega)).toNat : Int) with
          | false => exact class_D2n s a b c d hf w hs h1 h2 (by omega) l0 l1
          | true =>
            by_cases l2 : ((s[2]'(by omega)).toNat : Int) = 45
            · exact class_D3n s a b c d hf w hs h1 h2 (by omega) l0 l1 l2
            · exact class_D4n s a b c d hf w hs h1 h2 (by omega) l0 l1 (by simpa using l2)

end Go.Proofs.Qxb6623306a
