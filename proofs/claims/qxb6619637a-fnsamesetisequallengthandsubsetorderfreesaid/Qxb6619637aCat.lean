/-
  Seat b6619637a: zzConcat, zzReverse. Our own text.
-/
import Derived.Test.Qxb6619637aLaw
namespace Go.Proofs.Qxb6619637a
open Go.RowKit
set_option linter.unusedSimpArgs false
set_option linter.unusedVariables false

theorem get_app_left {xs ys : List V} {j n : Nat} (h : xs.length = n) (hj : j < n) : (xs ++ ys)[j]? = xs[j]? := List.getElem?_append_left (by omega)
theorem get_app_right {xs ys : List V} {j n : Nat} (h : xs.length = n) : (xs ++ ys)[n + j]? = ys[j]? := by rw [List.getElem?_append_right (by omega)]; congr 1; omega

set_option maxHeartbeats 2000000 in
theorem concat_any (a a' : Option Addr) (n c n' c' : Nat) (xs ys : List V) (w : World) (hr : Rd w a n xs) (hr' : Rd w a' n' ys) (hn : n ≤ 4096) (hn' : n' ≤ 4096) :
    Calls Try.prog 13 #[.slice a n c, .slice a' n' c'] w fun e w' => ∃ a'', e = .returned (.slice a'' (n + n') (n + n')) ∧ Own w' w.heap.size 30 a'' (n + n') (xs ++ ys) ∧ Below w.heap.size w w' := by
  have hl := hr.1
  have hl' := hr'.1
  go_enter Try.func13, Try.ntmps13
  go_wp2_with (at_make; refine wpList_mk rfl _ _ 22 30 rfl (.inl ⟨rfl, rfl⟩) _ _ _ _ (n + n') rfl rfl (by omega) (by omega) (by omega) ?_)
  intro w1 hrow0 hgrow
  go_wp2
  go_loopw [6] (fun i wr => ∃ (k : Nat) (zs : List V), k ≤ n ∧ i = .int .i64 k ∧ zs.length = n + n' ∧ (∀ j, j < k → zs[j]? = (xs ++ ys)[j]?) ∧ Row wr w.heap.size 30 zs ∧ Below w.heap.size w wr) (fun i _ => n - (intOf i).toNat)
  case atStart => exact ⟨0, _, Nat.zero_le _, rfl, by simp, by simp, hrow0, (Below.refl _ _).grown hgrow (Nat.le_refl _) (by simp)⟩
  case round =>
    clear hrow0
    obtain ⟨k, zs, hk, rfl, hyl, hys, hrow, hbel⟩ := hrel
    have HS : Hid (∀ j, j < k → zs[j]? = (xs ++ ys)[j]?) := hys
    clear hys
    by_cases hlt : k < n
    · obtain ⟨b, o, rfl, hrng⟩ := (hr.kept hbel).at k hlt
      have hkx : k < xs.length := by omega
      have hx := hrng k hkx
      have hxv : (xs ++ ys)[k]? = some xs[k] := by rw [get_app_left hl hlt, List.getElem?_eq_getElem hkx]
      generalize xs[k] = v at hx hxv
      have HX : Hid ((xs ++ ys)[k]? = some v) := hxv
      clear hrng hxv
      go_wp2_with (first | (refine wpList_ld rfl 30 _ rfl b (o + k * 16) v (.inl rfl) hx rfl ?_) | (refine wpList_st rfl 30 _ _ rfl w.heap.size k v 30 zs (.inl rfl) hrow (by omega) rfl rfl ?_; intro w2 hrow2 hgr2))
      go_roundw
      case rel => exact ⟨k + 1, _, by omega, by go_num, by simpa using hyl, set_next (by omega) HS.out HX.out, hrow2, hbel.grown hgr2 hbel.size (by simp)⟩
      case measure => simp [intOf]; omega
    · have hkn : n = k := by omega
      subst hkn
      go_wp2
      go_loopw [7] (fun i wr => ∃ (k : Nat) (zs : List V), k ≤ n' ∧ i = .int .i64 k ∧ zs.length = n + n' ∧ (∀ j, j < n + k → zs[j]? = (xs ++ ys)[j]?) ∧ Row wr w.heap.size 30 zs ∧ Below w.heap.size w wr) (fun i _ => n' - (intOf i).toNat)
      case atStart => exact ⟨0, zs, Nat.zero_le _, rfl, hyl, HS.out, hrow, hbel⟩
      case round =>
        clear hrow hbel HS hyl
        obtain ⟨k, zs, hk', rfl, hyl, hys, hrow, hbel⟩ := hrel
        have HS : Hid (∀ j, j < n + k → zs[j]? = (xs ++ ys)[j]?) := hys
        clear hys
        by_cases hlt' : k < n'
        · obtain ⟨b, o, rfl, hrng⟩ := (hr'.kept hbel).at k hlt'
          have hkx : k < ys.length := by omega
          have hx := hrng k hkx
          have hxv : (xs ++ ys)[n + k]? = some ys[k] := by rw [get_app_right hl, List.getElem?_eq_getElem hkx]
          generalize ys[k] = v at hx hxv
          have HX : Hid ((xs ++ ys)[n + k]? = some v) := hxv
          clear hrng hxv
          go_wp2_with (first | (refine wpList_ld rfl 30 _ rfl b (o + k * 16) v (.inl rfl) hx rfl ?_) | (refine wpList_st rfl 30 _ _ rfl w.heap.size (n + k) v 30 zs (.inl rfl) hrow (by omega) rfl rfl ?_; intro w2 hrow2 hgr2))
          go_roundw
          case rel => exact ⟨k + 1, _, by omega, by go_num, by simpa using hyl, set_next (k := n + k) (by omega) HS.out HX.out, hrow2, hbel.grown hgr2 hbel.size (by simp)⟩
          case measure => simp [intOf]; omega
        · have hkn : n' = k := by omega
          subst hkn
          go_wp2
          go_ret
          obtain rfl := list_eq_of hyl (by simp [hl, hl']) HS.out
          exact ⟨_, rfl, ⟨hyl, .inr ⟨_, rfl, Nat.le_refl _, hrow⟩⟩, hbel⟩

theorem rev_get {xs : List V} {n k : Nat} (h : xs.length = n) (hk : k < n) : xs.reverse[n - 1 - k]? = xs[k]? := by
  rw [List.getElem?_reverse (by omega)]; congr 1; omega

set_option maxHeartbeats 2000000 in
theorem reverse_any (a : Option Addr) (n c : Nat) (xs : List V) (w : World) (hr : Rd w a n xs) (hn : n ≤ 4096) :
    Calls Try.prog 14 #[.slice a n c] w fun e w' => ∃ a', e = .returned (.slice a' n n) ∧ Own w' w.heap.size 30 a' n xs.reverse ∧ Below w.heap.size w w' := by
  have hnil := fun wx => Lib.run_eql_slice_nil (P := Try.prog) wx 22 30 a n c 0 0 Try.underlying22
  cases a with
  | none =>
    obtain ⟨rfl, rfl⟩ := hr.isNil
    go_enter Try.func14, Try.ntmps14
    go_wp2
    go_ret
    exact ⟨none, rfl, ⟨rfl, .inl ⟨rfl, rfl⟩⟩, Below.refl _ _⟩
  | some ad =>
    have hl := hr.1
    go_enter Try.func14, Try.ntmps14
    go_wp2_with (at_make; refine wpList_mk rfl _ _ 22 30 rfl (.inl ⟨rfl, rfl⟩) _ _ _ _ n rfl rfl rfl rfl (by omega) ?_)
    intro w1 hrow0 hgrow
    go_wp2
    go_loopw [4] (fun i wr => ∃ (k : Nat) (ys : List V), k ≤ n ∧ i = .int .i64 k ∧ ys.length = n ∧ (∀ j, j < n → n - k ≤ j → ys[j]? = xs.reverse[j]?) ∧ Row wr w.heap.size 30 ys ∧ Below w.heap.size w wr) (fun i _ => n - (intOf i).toNat)
    case atStart => exact ⟨0, _, Nat.zero_le _, rfl, by simp, fun j h1 h2 => by omega, hrow0, (Below.refl _ _).grown hgrow (Nat.le_refl _) (by simp)⟩
    case round =>
      clear hrow0
      obtain ⟨k, ys, hk, rfl, hyl, hys, hrow, hbel⟩ := hrel
      have HS : Hid (∀ j, j < n → n - k ≤ j → ys[j]? = xs.reverse[j]?) := hys
      clear hys
      by_cases hlt : k < n
      · obtain ⟨b, o, e, hrng⟩ := (hr.kept hbel).at k hlt
        simp only [Option.some.injEq] at e
        subst e
        have hkx : k < xs.length := by omega
        have hx := hrng k hkx
        have hxv : xs.reverse[n - 1 - k]? = some xs[k] := by rw [rev_get hl hlt, List.getElem?_eq_getElem hkx]
        generalize xs[k] = v at hx hxv
        have HX : Hid (xs.reverse[n - 1 - k]? = some v) := hxv
        clear hrng hxv
        have he : ((n : Int) - 1 - (k : Int)) = ((n - 1 - k : Nat) : Int) := by omega
        go_wp2_with (first | (refine wpList_ld rfl 30 _ rfl b (o + k * 16) v (.inl rfl) hx rfl ?_) | (refine wpList_st rfl 30 _ _ rfl w.heap.size (n - 1 - k) v 30 ys (.inl rfl) hrow (by omega) rfl rfl ?_; intro w2 hrow2 hgr2))
        go_roundw
        case rel =>
          refine ⟨k + 1, _, by omega, by go_num, by simpa using hyl, ?_, hrow2, hbel.grown hgr2 hbel.size (by simp)⟩
          intro j h1 h2
          by_cases hj : j = n - 1 - k
          · subst hj; rw [List.getElem?_set_self (by omega), HX.out]
          · rw [List.getElem?_set_ne (by omega)]; exact HS.out j h1 (by omega)
        case measure => simp [intOf]; omega
      · have hkn : n = k := by omega
        subst hkn
        go_wp2
        go_ret
        obtain rfl := list_eq_of hyl (by simpa using hl) fun j hj => HS.out j hj (by omega)
        exact ⟨_, rfl, ⟨hyl, .inr ⟨_, rfl, Nat.le_refl _, hrow⟩⟩, hbel⟩

end Go.Proofs.Qxb6619637a
