/-
  Seat b6623312a: copyAt, ZZcopyAt: the walks. Our own text.
-/
import Derived.Test.Qxb6623312aEnc
namespace Go.Proofs.Qxb6623312a
open Go.RowKit
set_option linter.unusedSimpArgs false
set_option linter.unusedVariables false

theorem agree_len {a b : List Int} (h : ∀ (i : Nat) (y : Int), a[i]? = some y → b[i]? = some y) : a.length ≤ b.length := by
  rcases Nat.lt_or_ge b.length a.length with hl | hl
  · have := h b.length a[b.length] (List.getElem?_eq_getElem hl)
    rw [List.getElem?_eq_none (Nat.le_refl _)] at this
    cases this
  · exact hl

set_option maxHeartbeats 1000000 in
theorem copy_whole (tok s : ByteArray) (ms : List Int) (fin : Bool) (w : World) (ht : tok.size ≤ 65536) (hs : s.size ≤ 4194304)
    (hpre : ∀ (i : Nat) (y : Int), (encK (L tok) ms tok.size)[i]? = some y → (L s)[i]? = some y) :
    Calls Try.prog 10 #[.string tok, .string s, .bool fin] w fun e w' => e = .returned (.tuple #[.int .i64 (encK (L tok) ms tok.size).length, .bool false]) ∧ w' = w := by
  have hl1 := (encK_len (L tok) ms tok.size)
  have hl2 := agree_len hpre
  rw [L_len] at hl2
  have c1 : tok.size ≤ maxLen := by unfold maxLen; omega
  have c2 : s.size ≤ maxLen := by unfold maxLen; omega
  have K1 := enc_whole tok s ms fin w ht hs hpre
  generalize (encK (L tok) ms tok.size).length = N at hl1 hl2 K1
  clear hpre
  cases hq : preB (L s) (L tok) with
  | true =>
    have hmx : max (N : Int) (tok.size : Int) = (N : Int) := by omega
    go_enter Try.func10, Try.ntmps10
    go_wp2_with (first
      | (go_at_call 11; refine K1.mono ?_; rintro e w' ⟨rfl, rfl⟩)
      | (go_at_call 12; refine (hp12_any s tok _ c2 c1).mono ?_; rintro e w' ⟨rfl, rfl⟩; rw [hq]))
    go_ret2
    first | exact ⟨rfl, rfl⟩ | exact ⟨ret_ib hmx rfl, rfl⟩ | exact ⟨ret_ib (by show _ = (N : Int); simp; omega) rfl, rfl⟩
  | false =>
    have hq2 : preB (L tok) (L s) = false := by
      cases h : preB (L tok) (L s) with
      | false => rfl
      | true =>
        have hp := preB_iff.1 h
        have hle := hp.length_le
        rw [L_len, L_len] at hle
        have e : L s = L tok := hp.eq_of_length (by rw [L_len, L_len]; omega)
        rw [e] at hq
        rw [preB_iff.2 (List.prefix_refl _)] at hq
        cases hq
    go_enter Try.func10, Try.ntmps10
    go_wp2_with (first
      | (go_at_call 11; refine K1.mono ?_; rintro e w' ⟨rfl, rfl⟩)
      | (go_at_call 12; first | (refine (hp12_any s tok _ c2 c1).mono ?_; rintro e w' ⟨rfl, rfl⟩; rw [hq]) | (refine (hp12_any tok s _ c1 c2).mono ?_; rintro e w' ⟨rfl, rfl⟩; rw [hq2])))
    go_ret2
    exact ⟨rfl, rfl⟩

set_option maxHeartbeats 1000000 in
theorem copy_cut1 (tok s : ByteArray) (ms : List Int) (cut : Nat) (w : World) (ht : tok.size ≤ 65536) (hs : s.size ≤ 4194304)
    (hS : L s = (encK (L tok) ms tok.size).take cut) (hcut : cut < (encK (L tok) ms tok.size).length) (hq : preB (L s) (L tok) = true) :
    Calls Try.prog 10 #[.string tok, .string s, .bool false] w fun e w' => e = .returned (.tuple #[.int .i64 tok.size, .bool false]) ∧ w' = w := by
  have c1 : tok.size ≤ maxLen := by unfold maxLen; omega
  have c2 : s.size ≤ maxLen := by unfold maxLen; omega
  have K1 := enc_cut tok s ms cut w ht hs hS hcut
  clear hS hcut
  go_enter Try.func10, Try.ntmps10
  go_wp2_with (first
    | (go_at_call 11; refine K1.mono ?_; rintro e w' ⟨rfl, rfl⟩)
    | (go_at_call 12; refine (hp12_any s tok _ c2 c1).mono ?_; rintro e w' ⟨rfl, rfl⟩; rw [hq]))
  all_goals
    go_ret2
    refine ⟨ret_ib ?_ rfl, rfl⟩
    first | rfl | omega

set_option maxHeartbeats 1000000 in
theorem copy_cut0 (tok s : ByteArray) (ms : List Int) (cut : Nat) (w : World) (ht : tok.size ≤ 65536) (hs : s.size ≤ 4194304)
    (hS : L s = (encK (L tok) ms tok.size).take cut) (hcut : cut < (encK (L tok) ms tok.size).length) (hq : preB (L s) (L tok) = false) :
    Calls Try.prog 10 #[.string tok, .string s, .bool false] w fun e w' => e = .returned (.tuple #[.int .i64 0, .bool true]) ∧ w' = w := by
  have c1 : tok.size ≤ maxLen := by unfold maxLen; omega
  have c2 : s.size ≤ maxLen := by unfold maxLen; omega
  have K1 := enc_cut tok s ms cut w ht hs hS hcut
  clear hS hcut
  go_enter Try.func10, Try.ntmps10
  go_wp2_with (first
    | (go_at_call 11; refine K1.mono ?_; rintro e w' ⟨rfl, rfl⟩)
    | (go_at_call 12; refine (hp12_any s tok _ c2 c1).mono ?_; rintro e w' ⟨rfl, rfl⟩; rw [hq]))
  go_ret2
  exact ⟨rfl, rfl⟩

theorem zcopy_whole (tok s : ByteArray) (ms : List Int) (fin : Bool) (w : World) (ht : tok.size ≤ 65536) (hs : s.size ≤ 4194304)
    (hpre : ∀ (i : Nat) (y : Int), (encK (L tok) ms tok.size)[i]? = some y → (L s)[i]? = some y) :
    Calls Try.prog 7 #[.string tok, .string s, .bool fin] w fun e w' => e = .returned (.tuple #[.int .i64 (encK (L tok) ms tok.size).length, .bool false]) ∧ w' = w := by
  have K1 := copy_whole tok s ms fin w ht hs hpre
  clear hpre
  go_enter Try.func7, Try.ntmps7
  go_wp2_with (go_at_call 10; refine K1.mono ?_; rintro e w' ⟨rfl, rfl⟩)
  go_ret2
  exact ⟨rfl, rfl⟩

theorem zcopy_cut1 (tok s : ByteArray) (ms : List Int) (cut : Nat) (w : World) (ht : tok.size ≤ 65536) (hs : s.size ≤ 4194304)
    (hS : L s = (encK (L tok) ms tok.size).take cut) (hcut : cut < (encK (L tok) ms tok.size).length) (hq : preB (L s) (L tok) = true) :
    Calls Try.prog 7 #[.string tok, .string s, .bool false] w fun e w' => e = .returned (.tuple #[.int .i64 tok.size, .bool false]) ∧ w' = w := by
  have K1 := copy_cut1 tok s ms cut w ht hs hS hcut hq
  clear hS hcut
  go_enter Try.func7, Try.ntmps7
  go_wp2_with (go_at_call 10; refine K1.mono ?_; rintro e w' ⟨rfl, rfl⟩)
  go_ret2
  exact ⟨rfl, rfl⟩

theorem zcopy_cut0 (tok s : ByteArray) (ms : List Int) (cut : Nat) (w : World) (ht : tok.size ≤ 65536) (hs : s.size ≤ 4194304)
    (hS : L s = (encK (L tok) ms tok.size).take cut) (hcut : cut < (encK (L tok) ms tok.size).length) (hq : preB (L s) (L tok) = false) :
    Calls Try.prog 7 #[.string tok, .string s, .bool false] w fun e w' => e = .returned (.tuple #[.int .i64 0, .bool true]) ∧ w' = w := by
  have K1 := copy_cut0 tok s ms cut w ht hs hS hcut hq
  clear hS hcut
  go_enter Try.func7, Try.ntmps7
  go_wp2_with (go_at_call 10; refine K1.mono ?_; rintro e w' ⟨rfl, rfl⟩)
  go_ret2
  exact ⟨rfl, rfl⟩

end Go.Proofs.Qxb6623312a
