/-
  Seat b6623306a: FnClassDependsOnNIDAloneUpToCase (function 3): the walk. Our own text.
-/
import Derived.Test.Qxb6623306aByt
namespace Go.Proofs.Qxb6623306a
open Go.RowKit
set_option linter.unusedSimpArgs false
set_option linter.unusedVariables false

theorem cstr3 : cstr 3 = ⟨#[101, 120, 112, 101, 114, 105, 109, 101, 110, 116, 97, 108]⟩ := rfl

theorem L_x (a : ByteArray) : L ({ data := #[120, 45] } ++ a) = 120 :: 45 :: L a := by
  unfold L
  rw [ByteArray.data_append]
  simp
theorem size_x (a : ByteArray) : (({ data := #[120, 45] } : ByteArray) ++ a).size = a.size + 2 := by
  rw [← L_len, L_x]; simp [L_len]

set_option maxRecDepth 100000 in
set_option maxHeartbeats 4000000 in
theorem fn3_in (a0 a1 a2 a3 a4 : ByteArray) (h5 : Bool) (a6 a7 a8 a9 : ByteArray) (h10 : Bool) (m : Option Addr) (n c : Nat) (bs : List Bool) (w : World)
    (ht : a0.size + a1.size + a2.size + a3.size + a4.size + a6.size + a7.size + a8.size + a9.size + n ≤ 1048576) (hm : Mk w m n bs) :
    Calls Try.prog 3 #[.string a0, .string a1, .string a2, .string a3, .string a4, .bool h5, .string a6, .string a7, .string a8, .string a9, .bool h10, .slice m n c] w fun e w' => e = .returned (.bool true) ∧ Below w.heap.size w w' := by
  go_enter Try.func3, Try.ntmps3
  go_wp2_with (first
    | (go_at_call 5; refine (bytes_in _ _ _ _ _ _ _ _ _ _ _ _ _ _ _ ht).mono ?_; rintro e w1 ⟨rfl, rfl⟩)
    | (go_at_call_of 6 (Value.string a0); refine (class_any a0 a1 a2 a3 a4 h5 _ (by unfold maxLen; omega)).mono ?_; rintro e w2 ⟨rfl, hb2⟩))
  have hB2 : Below w1.heap.size w1 w2 := bstep ((Below.refl _ _).alloc (Nat.le_refl _) _) hb2
  clear hb2
  go_wp2_with (first
    | (go_at_call_of 7 (Value.string a0); refine (toggle_any a0 m n c bs w2 (by omega) (by omega) (hm.kept hB2)).mono ?_; rintro e w3 ⟨t1, rfl, hL1, hz1, hb3⟩; have hc1 : cls (L t1) = cls (L a0) := by { rw [hL1, cls_tog] })
    | (go_at_call_of 6 (Value.string t1); refine (class_any t1 a6 a7 a8 a9 h10 _ (by unfold maxLen; omega)).mono ?_; rintro e w4 ⟨rfl, hb4⟩; rw [hc1]))
  have hB4 : Below w1.heap.size w1 w4 := bstep (bstep hB2 hb3) (bstep ((Below.refl _ _).alloc (Nat.le_refl _) _) hb4)
  have hsx := size_x a0
  have hm4 := hm.kept hB4
  have hLx := L_x a0
  have hcl := cls_lt (L a0)
  clear hb4 hb3 hB2 hL1 hz1 hc1 hm
  generalize hxv : ({ data := #[120, 45] } : ByteArray) ++ a0 = sx at hsx hLx
  generalize cls (L a0) = q at hcl
  clear hxv
  go_wp2_with (first
    | (go_at_call_of 7 (Value.string sx); refine (toggle_any sx m n c bs w4 (by omega) (by omega) hm4).mono ?_; rintro e w5 ⟨t2, rfl, hL2, hz2, hb5⟩; have hc2 : cls (L t2) = 3 := by { rw [hL2, hLx, cls_x] })
    | (go_at_call_of 6 (Value.string t2); refine (class_any t2 a1 a2 a3 a4 h5 _ (by unfold maxLen; omega)).mono ?_; rintro e w6 ⟨rfl, hb6⟩; rw [hc2, cstr3])
    | (go_at_call 8; refine (isClass_any q hcl _).mono ?_; rintro e w7 ⟨rfl, rfl⟩))
  go_ret
  exact ⟨rfl, bstep (bstep hB4 hb5) (bstep ((Below.refl _ _).alloc (Nat.le_refl _) _) hb6)⟩

set_option maxRecDepth 100000 in
set_option maxHeartbeats 1000000 in
theorem fn3_out (a0 a1 a2 a3 a4 : ByteArray) (h5 : Bool) (a6 a7 a8 a9 : ByteArray) (h10 : Bool) (m : Option Addr) (n c : Nat) (w : World)
    (ht : 1048576 < a0.size + a1.size + a2.size + a3.size + a4.size + a6.size + a7.size + a8.size + a9.size + n) :
    Calls Try.prog 3 #[.string a0, .string a1, .string a2, .string a3, .string a4, .bool h5, .string a6, .string a7, .string a8, .string a9, .bool h10, .slice m n c] w fun e w' => e = .returned (.bool true) ∧ Below w.heap.size w w' := by
  go_enter Try.func3, Try.ntmps3
  go_wp2_with (go_at_call 5; refine (bytes_out _ _ _ _ _ _ _ _ _ _ _ _ _ _ _ ht).mono ?_; rintro e w1 ⟨rfl, rfl⟩)
  go_ret
  exact ⟨rfl, Below.refl _ _⟩

theorem fn3_any (a0 a1 a2 a3 a4 : ByteArray) (h5 : Bool) (a6 a7 a8 a9 : ByteArray) (h10 : Bool) (m : Option Addr) (n c : Nat) (bs : List Bool) (w : World) (hm : Mk w m n bs) :
    Calls Try.prog 3 #[.string a0, .string a1, .string a2, .string a3, .string a4, .bool h5, .string a6, .string a7, .string a8, .string a9, .bool h10, .slice m n c] w fun e w' => e = .returned (.bool true) ∧ Below w.heap.size w w' := by
  by_cases ht : a0.size + a1.size + a2.size + a3.size + a4.size + a6.size + a7.size + a8.size + a9.size + n ≤ 1048576
  · exact fn3_in a0 a1 a2 a3 a4 h5 a6 a7 a8 a9 h10 m n c bs w ht hm
  · exact fn3_out a0 a1 a2 a3 a4 h5 a6 a7 a8 a9 h10 m n c w (by omega)

end Go.Proofs.Qxb6623306a
