/-
  Seat b6623312a: FnCopyAtFindsEncodedToken (function 3): the walk. Our own text.
-/
import Derived.Test.Qxb6623312aByt
namespace Go.Proofs.Qxb6623312a
open Go.RowKit
set_option linter.unusedSimpArgs false
set_option linter.unusedVariables false

theorem agree_app (E : List Int) (hE : ∀ y ∈ E, 0 ≤ y ∧ y ≤ 255) (r : ByteArray) : ∀ (i : Nat) (y : Int), E[i]? = some y → (L (mk E ++ r))[i]? = some y := fun i y h => by
  have hi : i < E.length := (List.getElem?_eq_some_iff.1 h).1
  rw [L_append, L_mk hE, List.getElem?_append_left hi, h]
theorem size_app (E : List Int) (hE : ∀ y ∈ E, 0 ≤ y ∧ y ≤ 255) (r : ByteArray) : (mk E ++ r).size = E.length + r.size := by
  rw [ByteArray.size_append, size_mk hE]
theorem wpList_cvS {ops : Array Oper} {rest : List Oper} {op : Oper} {a : Act} {w : World} {Q : Exit → Act → World → Prop} (hgd : op.guard = none) (x : Operand) (ho : op.op = .convert 22 9 x)
    (B cap : Nat) (ys : List Int) (hown : Wr w B cap ys) (n cp : Nat) (hn : n ≤ ys.length) (hx : a.eval x = .slice (some ⟨B, 0, none⟩) n cp) (S : ByteArray) (hS : Hid (mk (ys.take n) = S))
    (h : wpList Try.prog ops Q rest (a.put op.dst (.string S)) w) : wpList Try.prog ops Q (op :: rest) a w :=
  wpList_cv hgd x ho B cap ys hown n n cp rfl hn hx (by rw [hS.out]; exact h)

set_option maxRecDepth 100000 in
set_option maxHeartbeats 1000000 in
theorem fn3_in (tok : ByteArray) (a : Option Addr) (n ca : Nat) (ms : List Int) (r : ByteArray) (f : Bool) (w : World) (ht : tok.size ≤ 65536) (hn : n ≤ 65536) (hr : r.size ≤ 1048576) (hm : Bt w a n ms) :
    Calls Try.prog 3 #[.string tok, .slice a n ca, .string r, .bool f] w fun e w' => e = .returned (.bool true) ∧ Below w.heap.size w w' := by
  have KB := bytes3 tok a n ca r f w (by unfold maxLen; omega) (by unfold maxLen; omega) (by unfold maxLen; omega)
  have KT := tok_any tok a n ca ms w ht hn hm
  have hl := encK_len (L tok) ms tok.size
  have hbd := encK_bd (L_bound tok) ms tok.size
  have hsz := size_app _ hbd r
  have KZ := fun wx => zcopy_whole tok (mk (encK (L tok) ms tok.size) ++ r) ms f wx ht (by omega) (agree_app _ hbd r)
  have hs1 : (mk (encK (L tok) ms tok.size)).size ≤ 196608 := by rw [size_mk hbd]; omega
  clear hm hbd
  generalize encK (L tok) ms tok.size = E at *
  have hS : Hid (mk (E.take E.length) = mk E) := by rw [Hid, List.take_length]
  generalize hmk : mk E = S at KZ hsz hS hs1
  clear hmk
  go_enter Try.func3, Try.ntmps3
  go_wp2_with (first
    | (go_at_call 5; refine KB.mono ?_; rintro e w1 ⟨b, rfl, rfl⟩)
    | (go_at_call 6; refine KT.mono ?_; rintro e w2 ⟨rfl, hown, hb2⟩)
    | (refine wpList_cvS rfl _ rfl w1.heap.size (3 * tok.size) E hown E.length _ (Nat.le_refl _) rfl S hS ?_)
    | (go_at_call_of 7 (Value.string (S ++ r)); refine (KZ _).mono ?_; rintro e w3 ⟨rfl, rfl⟩))
  · go_ret
    exact ⟨rfl, Below.refl _ _⟩
  · go_ret
    exact ⟨rfl, hb2⟩
theorem fn3_t (tok : ByteArray) (a : Option Addr) (n ca : Nat) (r : ByteArray) (f : Bool) (w : World) (ht : tok.size ≤ maxLen) (hn : n ≤ maxLen) (hr : r.size ≤ maxLen) (hq : ¬ tok.size ≤ 65536) :
    Calls Try.prog 3 #[.string tok, .slice a n ca, .string r, .bool f] w fun e w' => e = .returned (.bool true) ∧ Below w.heap.size w w' := by
  have KB := bytes3 tok a n ca r f w ht hn hr
  unfold maxLen at *
  go_enter Try.func3, Try.ntmps3
  go_wp2_with (go_at_call 5; refine KB.mono ?_; rintro e w1 ⟨b, rfl, rfl⟩)
  all_goals
    go_ret
    exact ⟨rfl, Below.refl _ _⟩
theorem fn3_m (tok : ByteArray) (a : Option Addr) (n ca : Nat) (r : ByteArray) (f : Bool) (w : World) (ht : tok.size ≤ 65536) (hn : n ≤ maxLen) (hr : r.size ≤ maxLen) (hq : ¬ n ≤ 65536) :
    Calls Try.prog 3 #[.string tok, .slice a n ca, .string r, .bool f] w fun e w' => e = .returned (.bool true) ∧ Below w.heap.size w w' := by
  have KB := bytes3 tok a n ca r f w (by unfold maxLen; omega) hn hr
  unfold maxLen at *
  go_enter Try.func3, Try.ntmps3
  go_wp2_with (go_at_call 5; refine KB.mono ?_; rintro e w1 ⟨b, rfl, rfl⟩)
  all_goals
    go_ret
    exact ⟨rfl, Below.refl _ _⟩
theorem fn3_r (tok : ByteArray) (a : Option Addr) (n ca : Nat) (r : ByteArray) (f : Bool) (w : World) (ht : tok.size ≤ 65536) (hn : n ≤ 65536) (hr : r.size ≤ maxLen) (hq : ¬ r.size ≤ 1048576) :
    Calls Try.prog 3 #[.string tok, .slice a n ca, .string r, .bool f] w fun e w' => e = .returned (.bool true) ∧ Below w.heap.size w w' := by
  have KB := bytes3 tok a n ca r f w (by unfold maxLen; omega) (by unfold maxLen; omega) hr
  unfold maxLen at *
  go_enter Try.func3, Try.ntmps3
  go_wp2_with (go_at_call 5; refine KB.mono ?_; rintro e w1 ⟨b, rfl, rfl⟩)
  all_goals
    go_ret
    exact ⟨rfl, Below.refl _ _⟩
theorem fn3_any (tok : ByteArray) (a : Option Addr) (n ca : Nat) (ms : List Int) (r : ByteArray) (f : Bool) (w : World) (ht : tok.size ≤ maxLen) (hn : n ≤ maxLen) (hr : r.size ≤ maxLen) (hm : Bt w a n ms) :
    Calls Try.prog 3 #[.string tok, .slice a n ca, .string r, .bool f] w fun e w' => e = .returned (.bool true) ∧ Below w.heap.size w w' := by
  by_cases h1 : tok.size ≤ 65536
  · by_cases h2 : n ≤ 65536
    · by_cases h3 : r.size ≤ 1048576
      · exact fn3_in tok a n ca ms r f w h1 h2 h3 hm
      · exact fn3_r tok a n ca r f w h1 h2 hr h3
    · exact fn3_m tok a n ca r f w h1 hn hr h2
  · exact fn3_t tok a n ca r f w ht hn hr h1

end Go.Proofs.Qxb6623312a
