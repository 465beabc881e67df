/-
  Seat b6619637a: the five bounds on total length ('zzBytes..'): each hands back some bool. Our own text.
-/
import Derived.Test.Qxb6619637aLaw
namespace Go.Proofs.Qxb6619637a
open Go.RowKit
set_option linter.unusedSimpArgs false
set_option linter.unusedVariables false

/-- Some bool is handed back. -/
def SomeBool (e : Ending) : Prop := ∃ b, e = .returned (.bool b)

set_option maxHeartbeats 2000000 in
theorem bytes3_any (a a2 : Option Addr) (n c n2 c2 : Nat) (w : World) :
    Calls Try.prog 8 #[.slice a n c, .slice a2 n2 c2] w fun e w' => SomeBool e ∧ Below w.heap.size w w' := by
  by_cases h0 : 1048576 < n
  · go_enter Try.func8, Try.ntmps8
    go_wp2
    go_ret
    exact ⟨⟨_, rfl⟩, (Below.refl _ _)⟩
  go_enter Try.func8, Try.ntmps8
  go_wp2
  go_loop [5, 6] (fun z i => ∃ (k : Nat) (q : Int), k ≤ n ∧ i = .int .i64 k ∧ z = .int .i64 q ∧ 0 ≤ q ∧ q ≤ 1048576) (fun _ i => n - (intOf i).toNat)
  case atStart => exact ⟨0, _, Nat.zero_le _, rfl, rfl, by omega, by omega⟩
  case round =>
    obtain ⟨k, q, hk, rfl, rfl, hq0, hq1⟩ := hrel
    by_cases hlt : k < n
    · by_cases hq2 : 1048576 < q + 16
      · go_wp2
        go_ret
        exact ⟨⟨_, rfl⟩, (Below.refl _ _)⟩
      · go_wp2
        go_round
        case rel => exact ⟨k + 1, _, by omega, by go_num, rfl, by omega, by omega⟩
        case measure => simp [intOf]; omega
    · by_cases h1 : 1048576 < n2
      · go_wp2
        go_ret
        exact ⟨⟨_, rfl⟩, (Below.refl _ _)⟩
      by_cases h2 : 1048576 < q + n2
      · go_wp2
        go_ret
        exact ⟨⟨_, rfl⟩, (Below.refl _ _)⟩
      go_wp2
      go_loop [5, 7] (fun z i => ∃ (k : Nat) (q : Int), k ≤ n2 ∧ i = .int .i64 k ∧ z = .int .i64 q ∧ 0 ≤ q ∧ q ≤ 1048576) (fun _ i => n2 - (intOf i).toNat)
      case atStart => exact ⟨0, _, Nat.zero_le _, rfl, rfl, by omega, by omega⟩
      case round =>
        obtain ⟨k, q, hk, rfl, rfl, hq0, hq1⟩ := hrel
        by_cases hlt : k < n2
        · by_cases hq2 : 1048576 < q + 16
          · go_wp2
            go_ret
            exact ⟨⟨_, rfl⟩, (Below.refl _ _)⟩
          · go_wp2
            go_round
            case rel => exact ⟨k + 1, _, by omega, by go_num, rfl, by omega, by omega⟩
            case measure => simp [intOf]; omega
        · go_wp2
          go_ret
          exact ⟨⟨_, rfl⟩, (Below.refl _ _)⟩


set_option maxHeartbeats 2000000 in
theorem bytes4_any (a : Option Addr) (n c : Nat) (k : Int) (x : V) (w : World) :
    Calls Try.prog 15 #[.slice a n c, .int .i64 k, G x] w fun e w' => SomeBool e ∧ Below w.heap.size w w' := by
  by_cases h0 : 1048576 < n
  · go_enter Try.func15, Try.ntmps15
    go_wp2_with (refine wpList_bx rfl 30 _ rfl x rfl ?_; intro w1 hbox hgr; have hb : Below w.heap.size w w1 := (Below.refl _ _).grown hgr (Nat.le_refl _) (by simp); clear hbox hgr)
    go_ret
    exact ⟨⟨_, rfl⟩, hb⟩
  go_enter Try.func15, Try.ntmps15
  go_wp2_with (refine wpList_bx rfl 30 _ rfl x rfl ?_; intro w1 hbox hgr; have hb : Below w.heap.size w w1 := (Below.refl _ _).grown hgr (Nat.le_refl _) (by simp); clear hbox hgr)
  go_loop [7, 8] (fun z i => ∃ (k : Nat) (q : Int), k ≤ n ∧ i = .int .i64 k ∧ z = .int .i64 q ∧ 0 ≤ q ∧ q ≤ 1048576) (fun _ i => n - (intOf i).toNat)
  case atStart => exact ⟨0, _, Nat.zero_le _, rfl, rfl, by omega, by omega⟩
  case round =>
    obtain ⟨k, q, hk, rfl, rfl, hq0, hq1⟩ := hrel
    by_cases hlt : k < n
    · by_cases hq2 : 1048576 < q + 16
      · go_wp2
        go_ret
        exact ⟨⟨_, rfl⟩, hb⟩
      · go_wp2
        go_round
        case rel => exact ⟨k + 1, _, by omega, by go_num, rfl, by omega, by omega⟩
        case measure => simp [intOf]; omega
    · go_wp2
      go_ret
      exact ⟨⟨_, rfl⟩, hb⟩

set_option maxHeartbeats 2000000 in
theorem bytes5_any (x : V) (a a2 : Option Addr) (n c n2 c2 : Nat) (mv : Int) (w : World) :
    Calls Try.prog 16 #[G x, .slice a n c, .slice a2 n2 c2, .int .u64 mv] w fun e w' => SomeBool e ∧ Below w.heap.size w w' := by
  by_cases h0 : 1048576 < n
  · go_enter Try.func16, Try.ntmps16
    go_wp2_with (refine wpList_bx rfl 30 _ rfl x rfl ?_; intro w1 hbox hgr; have hb : Below w.heap.size w w1 := (Below.refl _ _).grown hgr (Nat.le_refl _) (by simp); clear hbox hgr)
    go_ret
    exact ⟨⟨_, rfl⟩, hb⟩
  go_enter Try.func16, Try.ntmps16
  go_wp2_with (refine wpList_bx rfl 30 _ rfl x rfl ?_; intro w1 hbox hgr; have hb : Below w.heap.size w w1 := (Below.refl _ _).grown hgr (Nat.le_refl _) (by simp); clear hbox hgr)
  go_loop [9, 10] (fun z i => ∃ (k : Nat) (q : Int), k ≤ n ∧ i = .int .i64 k ∧ z = .int .i64 q ∧ 0 ≤ q ∧ q ≤ 1048576) (fun _ i => n - (intOf i).toNat)
  case atStart => exact ⟨0, _, Nat.zero_le _, rfl, rfl, by omega, by omega⟩
  case round =>
    obtain ⟨k, q, hk, rfl, rfl, hq0, hq1⟩ := hrel
    by_cases hlt : k < n
    · by_cases hq2 : 1048576 < q + 16
      · go_wp2
        go_ret
        exact ⟨⟨_, rfl⟩, hb⟩
      · go_wp2
        go_round
        case rel => exact ⟨k + 1, _, by omega, by go_num, rfl, by omega, by omega⟩
        case measure => simp [intOf]; omega
    · by_cases h1 : 1048576 < n2
      · go_wp2
        go_ret
        exact ⟨⟨_, rfl⟩, hb⟩
      by_cases h2 : 1048576 < q + n2
      · go_wp2
        go_ret
        exact ⟨⟨_, rfl⟩, hb⟩
      go_wp2
      go_loop [9, 11] (fun z i => ∃ (k : Nat) (q : Int), k ≤ n2 ∧ i = .int .i64 k ∧ z = .int .i64 q ∧ 0 ≤ q ∧ q ≤ 1048576) (fun _ i => n2 - (intOf i).toNat)
      case atStart => exact ⟨0, _, Nat.zero_le _, rfl, rfl, by omega, by omega⟩
      case round =>
        obtain ⟨k, q, hk, rfl, rfl, hq0, hq1⟩ := hrel
        by_cases hlt : k < n2
        · by_cases hq2 : 1048576 < q + 16
          · go_wp2
            go_ret
            exact ⟨⟨_, rfl⟩, hb⟩
          · go_wp2
            go_round
            case rel => exact ⟨k + 1, _, by omega, by go_num, rfl, by omega, by omega⟩
            case measure => simp [intOf]; omega
        · go_wp2
          go_ret
          exact ⟨⟨_, rfl⟩, hb⟩


set_option maxHeartbeats 2000000 in
theorem bytes7_any (x : V) (a a2 : Option Addr) (n c n2 c2 : Nat) (mv : Int) (w : World) :
    Calls Try.prog 24 #[G x, .slice a n c, .slice a2 n2 c2, .int .u64 mv] w fun e w' => SomeBool e ∧ Below w.heap.size w w' := by
  by_cases h0 : 1048576 < n
  · go_enter Try.func24, Try.ntmps24
    go_wp2_with (refine wpList_bx rfl 30 _ rfl x rfl ?_; intro w1 hbox hgr; have hb : Below w.heap.size w w1 := (Below.refl _ _).grown hgr (Nat.le_refl _) (by simp); clear hbox hgr)
    go_ret
    exact ⟨⟨_, rfl⟩, hb⟩
  go_enter Try.func24, Try.ntmps24
  go_wp2_with (refine wpList_bx rfl 30 _ rfl x rfl ?_; intro w1 hbox hgr; have hb : Below w.heap.size w w1 := (Below.refl _ _).grown hgr (Nat.le_refl _) (by simp); clear hbox hgr)
  go_loop [9, 10] (fun z i => ∃ (k : Nat) (q : Int), k ≤ n ∧ i = .int .i64 k ∧ z = .int .i64 q ∧ 0 ≤ q ∧ q ≤ 1048576) (fun _ i => n - (intOf i).toNat)
  case atStart => exact ⟨0, _, Nat.zero_le _, rfl, rfl, by omega, by omega⟩
  case round =>
    obtain ⟨k, q, hk, rfl, rfl, hq0, hq1⟩ := hrel
    by_cases hlt : k < n
    · by_cases hq2 : 1048576 < q + 16
      · go_wp2
        go_ret
        exact ⟨⟨_, rfl⟩, hb⟩
      · go_wp2
        go_round
        case rel => exact ⟨k + 1, _, by omega, by go_num, rfl, by omega, by omega⟩
        case measure => simp [intOf]; omega
    · by_cases h1 : 1048576 < n2
      · go_wp2
        go_ret
        exact ⟨⟨_, rfl⟩, hb⟩
      by_cases h2 : 1048576 < q + n2
      · go_wp2
        go_ret
        exact ⟨⟨_, rfl⟩, hb⟩
      go_wp2
      go_loop [9, 11] (fun z i => ∃ (k : Nat) (q : Int), k ≤ n2 ∧ i = .int .i64 k ∧ z = .int .i64 q ∧ 0 ≤ q ∧ q ≤ 1048576) (fun _ i => n2 - (intOf i).toNat)
      case atStart => exact ⟨0, _, Nat.zero_le _, rfl, rfl, by omega, by omega⟩
      case round =>
        obtain ⟨k, q, hk, rfl, rfl, hq0, hq1⟩ := hrel
        by_cases hlt : k < n2
        · by_cases hq2 : 1048576 < q + 16
          · go_wp2
            go_ret
            exact ⟨⟨_, rfl⟩, hb⟩
          · go_wp2
            go_round
            case rel => exact ⟨k + 1, _, by omega, by go_num, rfl, by omega, by omega⟩
            case measure => simp [intOf]; omega
        · go_wp2
          go_ret
          exact ⟨⟨_, rfl⟩, hb⟩


set_option maxHeartbeats 2000000 in
theorem bytes6_any (x : V) (a a2 : Option Addr) (n c n2 c2 : Nat) (mv : Int) (kk : Int) (w : World) :
    Calls Try.prog 22 #[G x, .slice a n c, .slice a2 n2 c2, .int .u64 mv, .int .i64 kk] w fun e w' => SomeBool e ∧ Below w.heap.size w w' := by
  by_cases h0 : 1048576 < n
  · go_enter Try.func22, Try.ntmps22
    go_wp2_with (refine wpList_bx rfl 30 _ rfl x rfl ?_; intro w1 hbox hgr; have hb : Below w.heap.size w w1 := (Below.refl _ _).grown hgr (Nat.le_refl _) (by simp); clear hbox hgr)
    go_ret
    exact ⟨⟨_, rfl⟩, hb⟩
  go_enter Try.func22, Try.ntmps22
  go_wp2_with (refine wpList_bx rfl 30 _ rfl x rfl ?_; intro w1 hbox hgr; have hb : Below w.heap.size w w1 := (Below.refl _ _).grown hgr (Nat.le_refl _) (by simp); clear hbox hgr)
  go_loop [11, 12] (fun z i => ∃ (k : Nat) (q : Int), k ≤ n ∧ i = .int .i64 k ∧ z = .int .i64 q ∧ 0 ≤ q ∧ q ≤ 1048576) (fun _ i => n - (intOf i).toNat)
  case atStart => exact ⟨0, _, Nat.zero_le _, rfl, rfl, by omega, by omega⟩
  case round =>
    obtain ⟨k, q, hk, rfl, rfl, hq0, hq1⟩ := hrel
    by_cases hlt : k < n
    · by_cases hq2 : 1048576 < q + 16
      · go_wp2
        go_ret
        exact ⟨⟨_, rfl⟩, hb⟩
      · go_wp2
        go_round
        case rel => exact ⟨k + 1, _, by omega, by go_num, rfl, by omega, by omega⟩
        case measure => simp [intOf]; omega
    · by_cases h1 : 1048576 < n2
      · go_wp2
        go_ret
        exact ⟨⟨_, rfl⟩, hb⟩
      by_cases h2 : 1048576 < q + n2
      · go_wp2
        go_ret
        exact ⟨⟨_, rfl⟩, hb⟩
      go_wp2
      go_loop [11, 13] (fun z i => ∃ (k : Nat) (q : Int), k ≤ n2 ∧ i = .int .i64 k ∧ z = .int .i64 q ∧ 0 ≤ q ∧ q ≤ 1048576) (fun _ i => n2 - (intOf i).toNat)
      case atStart => exact ⟨0, _, Nat.zero_le _, rfl, rfl, by omega, by omega⟩
      case round =>
        obtain ⟨k, q, hk, rfl, rfl, hq0, hq1⟩ := hrel
        by_cases hlt : k < n2
        · by_cases hq2 : 1048576 < q + 16
          · go_wp2
            go_ret
            exact ⟨⟨_, rfl⟩, hb⟩
          · go_wp2
            go_round
            case rel => exact ⟨k + 1, _, by omega, by go_num, rfl, by omega, by omega⟩
            case measure => simp [intOf]; omega
        · go_wp2
          go_ret
          exact ⟨⟨_, rfl⟩, hb⟩


end Go.Proofs.Qxb6619637a
