/-
  Seat b6619637a: the makers: zzClone, zzIDs, zzCopyIDs. Our own text.
-/
import Derived.Test.Qxb6619637aBase
namespace Go.Proofs.Qxb6619637a
open Go.RowKit

set_option maxHeartbeats 1000000 in
theorem clone_any (a : Option Addr) (n c : Nat) (xs : List V) (w : World) (hr : Rd w a n xs) (hn : n ≤ 4096) :
    Calls Try.prog 9 #[.slice a n c] w fun e w' => ∃ a', e = .returned (.slice a' n n) ∧ Own w' w.heap.size 30 a' n xs ∧ Below w.heap.size w w' := by
  have hnil := fun wx => Lib.run_eql_slice_nil (P := Try.prog) wx 22 30 a n c 0 0 Try.underlying22
  cases a with
  | none =>
    obtain ⟨rfl, rfl⟩ := hr.isNil
    go_enter Try.func9, Try.ntmps9
    go_wp2
    go_ret
    exact ⟨none, rfl, ⟨rfl, .inl ⟨rfl, rfl⟩⟩, Below.refl _ _⟩
  | some ad =>
    go_enter Try.func9, Try.ntmps9
    go_wp2_with (at_make; refine wpList_mk rfl _ _ 22 30 rfl (.inl ⟨rfl, rfl⟩) _ _ _ _ n rfl rfl rfl rfl (by omega) ?_)
    intro w1 hrow0 hgrow
    go_wp2
    go_loopw [4] (fun i wr => ∃ (k : Nat) (ys : List V), k ≤ n ∧ i = .int .i64 k ∧ ys.length = n ∧ (∀ j, j < k → ys[j]? = xs[j]?) ∧ Row wr w.heap.size 30 ys ∧ Below w.heap.size w wr) (fun i _ => n - (intOf i).toNat)
    case atStart => exact ⟨0, _, Nat.zero_le _, rfl, by simp, by simp, hrow0, (Below.refl _ _).grown hgrow (Nat.le_refl _) (by simp)⟩
    case round =>
      clear hrow0
      obtain ⟨k, ys, hk, rfl, hyl, hys, hrow, hbel⟩ := hrel
      by_cases hlt : k < n
      · obtain ⟨b, o, e, hrng⟩ := (hr.kept hbel).at k hlt
        simp only [Option.some.injEq] at e
        subst e
        have hkx : k < xs.length := by rw [hr.1]; exact hlt
        have hx := hrng k hkx
        have hxv : xs[k]? = some xs[k] := List.getElem?_eq_getElem hkx
        generalize xs[k] = v at hx hxv
        have HX : Hid (xs[k]? = some v) := hxv
        clear hrng hxv
        go_wp2_with (first | (refine wpList_ld rfl 30 _ rfl b (o + k * 16) v (.inl rfl) hx rfl ?_) | (refine wpList_st rfl 30 _ _ rfl w.heap.size k v 30 ys (.inl rfl) hrow (by omega) rfl rfl ?_; intro w2 hrow2 hgr2))
        go_roundw
        case rel => exact ⟨k + 1, _, by omega, by go_num, by simpa using hyl, set_next (by omega) hys HX.out, hrow2, hbel.grown hgr2 hbel.size (by simp)⟩
        case measure => simp [intOf]; omega
      · have : k = n := by omega
        subst this
        go_wp2
        go_ret
        obtain rfl := list_eq_of hyl hr.1 hys
        exact ⟨_, rfl, ⟨hyl, .inr ⟨_, rfl, Nat.le_refl _, hrow⟩⟩, hbel⟩

set_option maxHeartbeats 1000000 in
theorem ids_any (a : Option Addr) (n c : Nat) (xs : List V) (w : World) (hr : Rd w a n xs) (hn : n ≤ 4096) :
    Calls Try.prog 11 #[.slice a n c] w fun e w' => ∃ a', e = .returned (.slice a' n n) ∧ Own w' w.heap.size 36 a' n xs ∧ Below w.heap.size w w' := by
  have hnil := fun wx => Lib.run_eql_slice_nil (P := Try.prog) wx 22 30 a n c 0 0 Try.underlying22
  cases a with
  | none =>
    obtain ⟨rfl, rfl⟩ := hr.isNil
    go_enter Try.func11, Try.ntmps11
    go_wp2
    go_ret
    exact ⟨none, rfl, ⟨rfl, .inl ⟨rfl, rfl⟩⟩, Below.refl _ _⟩
  | some ad =>
    go_enter Try.func11, Try.ntmps11
    go_wp2_with (at_make; refine wpList_mk rfl _ _ 26 36 rfl (.inr ⟨rfl, rfl⟩) _ _ _ _ n rfl rfl rfl rfl (by omega) ?_)
    intro w1 hrow0 hgrow
    go_wp2
    go_loopw [4] (fun i wr => ∃ (k : Nat) (ys : List V), k ≤ n ∧ i = .int .i64 k ∧ ys.length = n ∧ (∀ j, j < k → ys[j]? = xs[j]?) ∧ Row wr w.heap.size 36 ys ∧ Below w.heap.size w wr) (fun i _ => n - (intOf i).toNat)
    case atStart => exact ⟨0, _, Nat.zero_le _, rfl, by simp, by simp, hrow0, (Below.refl _ _).grown hgrow (Nat.le_refl _) (by simp)⟩
    case round =>
      clear hrow0
      obtain ⟨k, ys, hk, rfl, hyl, hys, hrow, hbel⟩ := hrel
      by_cases hlt : k < n
      · obtain ⟨b, o, e, hrng⟩ := (hr.kept hbel).at k hlt
        simp only [Option.some.injEq] at e
        subst e
        have hkx : k < xs.length := by rw [hr.1]; exact hlt
        have hx := hrng k hkx
        have hxv : xs[k]? = some xs[k] := List.getElem?_eq_getElem hkx
        generalize xs[k] = v at hx hxv
        have HX : Hid (xs[k]? = some v) := hxv
        clear hrng hxv
        go_wp2_with (first | (refine wpList_ld rfl 30 _ rfl b (o + k * 16) v (.inl rfl) hx rfl ?_) | (refine wpList_st rfl 36 _ _ rfl w.heap.size k v 36 ys (.inr rfl) hrow (by omega) rfl rfl ?_; intro w2 hrow2 hgr2))
        go_roundw
        case rel => exact ⟨k + 1, _, by omega, by go_num, by simpa using hyl, set_next (by omega) hys HX.out, hrow2, hbel.grown hgr2 hbel.size (by simp)⟩
        case measure => simp [intOf]; omega
      · have : k = n := by omega
        subst this
        go_wp2
        go_ret
        obtain rfl := list_eq_of hyl hr.1 hys
        exact ⟨_, rfl, ⟨hyl, .inr ⟨_, rfl, Nat.le_refl _, hrow⟩⟩, hbel⟩

set_option maxHeartbeats 1000000 in
theorem copyIDs_any (a : Option Addr) (n c : Nat) (xs : List V) (w : World) (hr : Rd w a n xs) (hn : n ≤ 4096) :
    Calls Try.prog 20 #[.slice a n c] w fun e w' => ∃ a', e = .returned (.slice a' n n) ∧ Own w' w.heap.size 36 a' n xs ∧ Below w.heap.size w w' := by
  have hnil := fun wx => Lib.run_eql_slice_nil (P := Try.prog) wx 26 36 a n c 0 0 Try.underlying26
  cases a with
  | none =>
    obtain ⟨rfl, rfl⟩ := hr.isNil
    go_enter Try.func20, Try.ntmps20
    go_wp2
    go_ret
    exact ⟨none, rfl, ⟨rfl, .inl ⟨rfl, rfl⟩⟩, Below.refl _ _⟩
  | some ad =>
    go_enter Try.func20, Try.ntmps20
    go_wp2_with (at_make; refine wpList_mk rfl _ _ 26 36 rfl (.inr ⟨rfl, rfl⟩) _ _ _ _ n rfl rfl rfl rfl (by omega) ?_)
    intro w1 hrow0 hgrow
    go_wp2
    go_loopw [4] (fun i wr => ∃ (k : Nat) (ys : List V), k ≤ n ∧ i = .int .i64 k ∧ ys.length = n ∧ (∀ j, j < k → ys[j]? = xs[j]?) ∧ Row wr w.heap.size 36 ys ∧ Below w.heap.size w wr) (fun i _ => n - (intOf i).toNat)
    case atStart => exact ⟨0, _, Nat.zero_le _, rfl, by simp, by simp, hrow0, (Below.refl _ _).grown hgrow (Nat.le_refl _) (by simp)⟩
    case round =>
      clear hrow0
      obtain ⟨k, ys, hk, rfl, hyl, hys, hrow, hbel⟩ := hrel
      by_cases hlt : k < n
      · obtain ⟨b, o, e, hrng⟩ := (hr.kept hbel).at k hlt
        simp only [Option.some.injEq] at e
        subst e
        have hkx : k < xs.length := by rw [hr.1]; exact hlt
        have hx := hrng k hkx
        have hxv : xs[k]? = some xs[k] := List.getElem?_eq_getElem hkx
        generalize xs[k] = v at hx hxv
        have HX : Hid (xs[k]? = some v) := hxv
        clear hrng hxv
        go_wp2_with (first | (refine wpList_ld rfl 36 _ rfl b (o + k * 16) v (.inr rfl) hx rfl ?_) | (refine wpList_st rfl 36 _ _ rfl w.heap.size k v 36 ys (.inr rfl) hrow (by omega) rfl rfl ?_; intro w2 hrow2 hgr2))
        go_roundw
        case rel => exact ⟨k + 1, _, by omega, by go_num, by simpa using hyl, set_next (by omega) hys HX.out, hrow2, hbel.grown hgr2 hbel.size (by simp)⟩
        case measure => simp [intOf]; omega
      · have : k = n := by omega
        subst this
        go_wp2
        go_ret
        obtain rfl := list_eq_of hyl hr.1 hys
        exact ⟨_, rfl, ⟨hyl, .inr ⟨_, rfl, Nat.le_refl _, hrow⟩⟩, hbel⟩

end Go.Proofs.Qxb6619637a
