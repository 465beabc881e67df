/-
  Seat b6623306a: zzIsClass, the bound on total length: the walks. Our own text.
-/
import Derived.Test.Qxb6623306aTog
namespace Go.Proofs.Qxb6623306a
open Go.RowKit
set_option linter.unusedSimpArgs false
set_option linter.unusedVariables false

theorem isClass_any (i : Nat) (hi : i < 4) (w : World) : Calls Try.prog 8 #[.string (cstr i)] w fun e w' => e = .returned (.bool true) ∧ w' = w := by
  match i, hi with
  | 0, _ => show Calls Try.prog 8 #[.string ⟨#[102, 111, 114, 109, 97, 108]⟩] w _; go_enter Try.func8, Try.ntmps8; go_wp2; go_ret; exact ⟨rfl, rfl⟩
  | 1, _ => show Calls Try.prog 8 #[.string ⟨#[105, 110, 102, 111, 114, 109, 97, 108]⟩] w _; go_enter Try.func8, Try.ntmps8; go_wp2; go_ret; exact ⟨rfl, rfl⟩
  | 2, _ => show Calls Try.prog 8 #[.string ⟨#[114, 101, 115, 101, 114, 118, 101, 100]⟩] w _; go_enter Try.func8, Try.ntmps8; go_wp2; go_ret; exact ⟨rfl, rfl⟩
  | 3, _ => show Calls Try.prog 8 #[.string ⟨#[101, 120, 112, 101, 114, 105, 109, 101, 110, 116, 97, 108]⟩] w _; go_enter Try.func8, Try.ntmps8; go_wp2; go_ret; exact ⟨rfl, rfl⟩

set_option maxHeartbeats 2000000 in
theorem bytes_in (a0 a1 a2 a3 a4 : ByteArray) (h5 : Bool) (a6 a7 a8 a9 : ByteArray) (h10 : Bool) (m : Option Addr) (n c : Nat) (w : World)
    (ht : a0.size + a1.size + a2.size + a3.size + a4.size + a6.size + a7.size + a8.size + a9.size + n ≤ 1048576) :
    Calls Try.prog 5 #[.string a0, .string a1, .string a2, .string a3, .string a4, .bool h5, .string a6, .string a7, .string a8, .string a9, .bool h10, .slice m n c] w fun e w' => e = .returned (.bool true) ∧ w' = w := by
  go_enter Try.func5, Try.ntmps5
  go_wp2
  go_ret
  exact ⟨rfl, rfl⟩

set_option maxHeartbeats 4000000 in
theorem bytes_out (a0 a1 a2 a3 a4 : ByteArray) (h5 : Bool) (a6 a7 a8 a9 : ByteArray) (h10 : Bool) (m : Option Addr) (n c : Nat) (w : World)
    (ht : 1048576 < a0.size + a1.size + a2.size + a3.size + a4.size + a6.size + a7.size + a8.size + a9.size + n) :
    Calls Try.prog 5 #[.string a0, .string a1, .string a2, .string a3, .string a4, .bool h5, .string a6, .string a7, .string a8, .string a9, .bool h10, .slice m n c] w fun e w' => e = .returned (.bool false) ∧ w' = w := by
  go_enter Try.func5, Try.ntmps5
  go_wp2
  all_goals
    go_ret
    exact ⟨rfl, rfl⟩

end Go.Proofs.Qxb6623306a
