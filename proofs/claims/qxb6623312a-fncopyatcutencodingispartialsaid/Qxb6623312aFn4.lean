/-
  Seat b6623312a: FnCopyAtCutEncodingIsPartial (function 4): the walk. Our own text.
-/
import Derived.Test.Qxb6623312aFn3
namespace Go.Proofs.Qxb6623312a
open Go.RowKit
set_option linter.unusedSimpArgs false
set_option linter.unusedVariables false

theorem L_cut (E : List Int) (hE : ∀ y ∈ E, 0 ≤ y ∧ y ≤ 255) (n : Nat) : L (mk (E.take n)) = E.take n := L_mk fun y hy => hE y (List.mem_of_mem_take hy)

set_option maxRecDepth 100000 in
set_option maxHeartbeats 1000000 in
theorem fn4_in (tok : ByteArray) (a : Option Addr) (n ca : Nat) (ms : List Int) (cut : Nat) (w : World) (ht : tok.size ≤ 65536) (hn : n ≤ 65536) (hm : Bt w a n ms) (hc : cut < (encK (L tok) ms tok.size).length) :
    Calls Try.prog 4 #[.string tok, .slice a n ca, .int .i64 cut] w fun e w' => e = .returned (.bool true) ∧ Below w.heap.size w w' := by
  have KB := bytes4 tok a n ca cut w (by unfold maxLen; omega) (by unfold maxLen; omega)
  have KT := tok_any tok a n ca ms w ht hn hm
  have hl := encK_len (L tok) ms tok.size
  have hbd := encK_bd (L_bound tok) ms tok.size
  have hL := L_cut _ hbd cut
  have hs1 : (mk ((encK (L tok) ms tok.size).take cut)).size = cut := by rw [← L_len, hL, List.length_take]; omega
  have KP := fun wx => zhp_any (mk ((encK (L tok) ms tok.size).take cut)) tok wx (by unfold maxLen; omega) (by unfold maxLen; omega)
  cases hq : preB (L (mk ((encK (L tok) ms tok.size).take cut))) (L tok) with
  | true =>
    have KZ := fun wx => zcopy_cut1 tok (mk ((encK (L tok) ms tok.size).take cut)) ms cut wx ht (by omega) hL hc hq
    rw [hq] at KP
    clear hm hbd hL hq
    generalize encK (L tok) ms tok.size = E at *
    generalize hmk : mk (E.take cut) = S at KZ KP hs1
    have hS : Hid (mk (E.take cut) = S) := hmk
    clear hmk hs1
    go_enter Try.func4, Try.ntmps4
    go_wp2_with (first
      | (go_at_call 8; refine KB.mono ?_; rintro e w1 ⟨b, rfl, rfl⟩)
      | (go_at_call 6; refine KT.mono ?_; rintro e w2 ⟨rfl, hown, hb2⟩)
      | (refine wpList_cvS rfl _ rfl w1.heap.size (3 * tok.size) E hown cut _ (by omega) rfl S hS ?_)
      | (go_at_call_of 7 (Value.string S); refine (KZ _).mono ?_; rintro e w3 ⟨rfl, rfl⟩)
      | (go_at_call_of 9 (Value.string S); refine (KP _).mono ?_; rintro e w4 ⟨rfl, hb4⟩))
    · go_ret
      exact ⟨rfl, Below.refl _ _⟩
    · go_ret
      exact ⟨rfl, bstep hb2 hb4⟩
  | false =>
    have KZ := fun wx => zcopy_cut0 tok (mk ((encK (L tok) ms tok.size).take cut)) ms cut wx ht (by omega) hL hc hq
    rw [hq] at KP
    clear hm hbd hL hq
    generalize encK (L tok) ms tok.size = E at *
    generalize hmk : mk (E.take cut) = S at KZ KP hs1
    have hS : Hid (mk (E.take cut) = S) := hmk
    clear hmk hs1
    go_enter Try.func4, Try.ntmps4
    go_wp2_with (first
      | (go_at_call 8; refine KB.mono ?_; rintro e w1 ⟨b, rfl, rfl⟩)
      | (go_at_call 6; refine KT.mono ?_; rintro e w2 ⟨rfl, hown, hb2⟩)
      | (refine wpList_cvS rfl _ rfl w1.heap.size (3 * tok.size) E hown cut _ (by omega) rfl S hS ?_)
      | (go_at_call_of 7 (Value.string S); refine (KZ _).mono ?_; rintro e w3 ⟨rfl, rfl⟩)
      | (go_at_call_of 9 (Value.string S); refine (KP _).mono ?_; rintro e w4 ⟨rfl, hb4⟩))
    · go_ret
      exact ⟨rfl, Below.refl _ _⟩
    · go_ret
      exact ⟨rfl, bstep hb2 hb4⟩

set_option maxRecDepth 100000 in
theorem fn4_neg (tok : ByteArray) (a : Option Addr) (n ca : Nat) (ms : List Int) (q : Int) (w : World) (ht : tok.size ≤ 65536) (hn : n ≤ 65536) (hm : Bt w a n ms) (hc : q < 0) :
    Calls Try.prog 4 #[.string tok, .slice a n ca, .int .i64 q] w fun e w' => e = .returned (.bool true) ∧ Below w.heap.size w w' := by
  have KB := bytes4 tok a n ca q w (by unfold maxLen; omega) (by unfold maxLen; omega)
  have KT := tok_any tok a n ca ms w ht hn hm
  have hl := encK_len (L tok) ms tok.size
  clear hm
  generalize encK (L tok) ms tok.size = E at *
  go_enter Try.func4, Try.ntmps4
  go_wp2_with (first
    | (go_at_call 8; refine KB.mono ?_; rintro e w1 ⟨b, rfl, rfl⟩)
    | (go_at_call 6; refine KT.mono ?_; rintro e w2 ⟨rfl, hown, hb2⟩))
  · go_ret
    exact ⟨rfl, Below.refl _ _⟩
  · go_ret
    exact ⟨rfl, hb2⟩
set_option maxRecDepth 100000 in
theorem fn4_over (tok : ByteArray) (a : Option Addr) (n ca : Nat) (ms : List Int) (cut : Nat) (w : World) (ht : tok.size ≤ 65536) (hn : n ≤ 65536) (hm : Bt w a n ms) (hc : (encK (L tok) ms tok.size).length ≤ cut) :
    Calls Try.prog 4 #[.string tok, .slice a n ca, .int .i64 cut] w fun e w' => e = .returned (.bool true) ∧ Below w.heap.size w w' := by
  have KB := bytes4 tok a n ca cut w (by unfold maxLen; omega) (by unfold maxLen; omega)
  have KT := tok_any tok a n ca ms w ht hn hm
  have hl := encK_len (L tok) ms tok.size
  clear hm
  generalize encK (L tok) ms tok.size = E at *
  go_enter Try.func4, Try.ntmps4
  go_wp2_with (first
    | (go_at_call 8; refine KB.mono ?_; rintro e w1 ⟨b, rfl, rfl⟩)
    | (go_at_call 6; refine KT.mono ?_; rintro e w2 ⟨rfl, hown, hb2⟩))
  · go_ret
    exact ⟨rfl, Below.refl _ _⟩
  · go_ret
    exact ⟨rfl, hb2⟩
theorem fn4_t (tok : ByteArray) (a : Option Addr) (n ca : Nat) (q : Int) (w : World) (ht : tok.size ≤ maxLen) (hn : n ≤ maxLen) (hq : ¬ tok.size ≤ 65536) :
    Calls Try.prog 4 #[.string tok, .slice a n ca, .int .i64 q] w fun e w' => e = .returned (.bool true) ∧ Below w.heap.size w w' := by
  have KB := bytes4 tok a n ca q w ht hn
  unfold maxLen at *
  go_enter Try.func4, Try.ntmps4
  go_wp2_with (go_at_call 8; refine KB.mono ?_; rintro e w1 ⟨b, rfl, rfl⟩)
  all_goals
    go_ret
    exact ⟨rfl, Below.refl _ _⟩
theorem fn4_m (tok : ByteArray) (a : Option Addr) (n ca : Nat) (q : Int) (w : World) (ht : tok.size ≤ 65536) (hn : n ≤ maxLen) (hq : ¬ n ≤ 65536) :
    Calls Try.prog 4 #[.string tok, .slice a n ca, .int .i64 q] w fun e w' => e = .returned (.bool true) ∧ Below w.heap.size w w' := by
  have KB := bytes4 tok a n ca q w (by unfold maxLen; omega) hn
  unfold maxLen at *
  go_enter Try.func4, Try.ntmps4
  go_wp2_with (go_at_call 8; refine KB.mono ?_; rintro e w1 ⟨b, rfl, rfl⟩)
  all_goals
    go_ret
    exact ⟨rfl, Below.refl _ _⟩
theorem fn4_any (tok : ByteArray) (a : Option Addr) (n ca : Nat) (ms : List Int) (q : Int) (w : World) (ht : tok.size ≤ maxLen) (hn : n ≤ maxLen) (hm : Bt w a n ms) :
    Calls Try.prog 4 #[.string tok, .slice a n ca, .int .i64 q] w fun e w' => e = .returned (.bool true) ∧ Below w.heap.size w w' := by
  by_cases h1 : tok.size ≤ 65536
  · by_cases h2 : n ≤ 65536
    · by_cases h3 : q < 0
      · exact fn4_neg tok a n ca ms q w h1 h2 hm h3
      · obtain ⟨cut, rfl⟩ : ∃ m : Nat, q = (m : Int) := ⟨q.toNat, by omega⟩
        by_cases h4 : cut < (encK (L tok) ms tok.size).length
        · exact fn4_in tok a n ca ms cut w h1 h2 hm h4
        · exact fn4_over tok a n ca ms cut w h1 h2 hm (by omega)
    · exact fn4_m tok a n ca q w h1 hn h2
  · exact fn4_t tok a n ca q w ht hn h1

end Go.Proofs.Qxb6623312a
