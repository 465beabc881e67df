/-
  Seat b6623312a: encodedAt at a whole encoding, and at a cut one: the walks. Our own text.
-/
import Derived.Test.Qxb6623312aSmall
namespace Go.Proofs.Qxb6623312a
open Go.RowKit
set_option linter.unusedSimpArgs false
set_option linter.unusedVariables false

theorem or_byte {c : Int} (h0 : 0 ≤ c) (h1 : c ≤ 255) : bits BinOp.or IntKind.u8 (c / 16 * 16) (c % 16) = c := by
  have key : ∀ n : Fin 256, bits BinOp.or IntKind.u8 (((n.val : Nat) : Int) / 16 * 16) (((n.val : Nat) : Int) % 16) = ((n.val : Nat) : Int) := by decide +kernel
  have := key ⟨c.toNat, by omega⟩
  simp only at this
  rwa [show ((c.toNat : Nat) : Int) = c by omega] at this

/-- What 'rest' reads as. -/
theorem rest_at (s : ByteArray) (p i : Nat) {y : Int} (h : (L s)[p + i]? = some y) : ∃ h' : i < (s.extract p s.size).size, ((s.extract p s.size)[i].toNat : Int) = y := by
  have hi : p + i < s.size := by have := (List.getElem?_eq_some_iff.1 h).1; rwa [L_len] at this
  have h' : i < (s.extract p s.size).size := by simp; omega
  refine ⟨h', ?_⟩
  have e : L (s.extract p s.size) = (L s).drop p := by
    unfold L
    rw [← List.map_drop, Lib.extract_data, List.take_of_length_le]
    rw [List.length_drop, ← Lib.size_eq]
    exact Nat.le_refl _
  have h1 := L_get (s.extract p s.size) i h'
  rw [e, List.getElem?_drop, h] at h1
  simpa using h1.symm

set_option maxRecDepth 100000 in
set_option maxHeartbeats 1000000 in
theorem enc_whole (tok s : ByteArray) (ms : List Int) (fin : Bool) (w : World) (ht : tok.size ≤ 65536) (hs : s.size ≤ 4194304)
    (hpre : ∀ (i : Nat) (y : Int), (encK (L tok) ms tok.size)[i]? = some y → (L s)[i]? = some y) :
    Calls Try.prog 11 #[.string tok, .string s, .bool fin] w fun e w' => e = .returned (.tuple #[.int .i64 (encK (L tok) ms tok.size).length, .bool false]) ∧ w' = w := by
  go_enter Try.func11, Try.ntmps11
  go_wp2
  go_loop [6, 17] (fun n i => ∃ (k : Nat), k ≤ tok.size ∧ i = .int .i64 k ∧ n = .int .i64 (encK (L tok) ms k).length) (fun _ i => tok.size - (intOf i).toNat)
  case atStart => exact ⟨0, Nat.zero_le _, rfl, rfl⟩
  case round =>
    obtain ⟨k, hk, rfl, rfl⟩ := hrel
    have hkl := encK_len (L tok) ms k
    by_cases hlt : k < tok.size
    · have hg : (L tok).getD k 0 = (tok[k].toNat : Int) := by simp [List.getD, L_get tok k hlt]
      have hb := u8_le tok[k]
      have hat : ∀ (i : Nat) (y : Int), (enc1 ((L tok).getD k 0) (mm ms k))[i]? = some y → (L s)[(encK (L tok) ms k).length + i]? = some y := fun i y hy => hpre _ _ (encK_at (L tok) ms hlt i hy)
      have HN : Hid ((encK (L tok) ms (k + 1)).length = (encK (L tok) ms k).length + (enc1 (tok[k].toNat : Int) (mm ms k)).length) := by rw [Hid, encK, List.length_append, hg]
      rw [hg] at hat
      generalize (encK (L tok) ms k).length = p at hat HN hkl
      generalize hcv : (tok[k].toNat : Int) = c at hat HN hb
      have hc0 : 0 ≤ c := by omega
      rcases enc1_cases (mm ms k) hc0 hb with ⟨h32, he⟩ | ⟨h37, he⟩ | ⟨x, y, he, ux, uy, vx, vy⟩
      · rw [he] at hat HN
        obtain ⟨h0, e0⟩ := rest_at s p 0 (hat 0 43 rfl)
        have hps : p < s.size := by simp at h0; omega
        clear hat
        go_wp2
        go_round
        case rel => exact ⟨k + 1, by omega, by go_num, by rw [HN.out]; exact congrArg (Value.int .i64) (by simp)⟩
        case measure => simp [intOf]; omega
      · rw [he] at hat HN
        obtain ⟨h0, e0⟩ := rest_at s p 0 (hat 0 c rfl)
        have hps : p < s.size := by simp at h0; omega
        have h37' : (c == 37) = false := by simpa using h37
        clear hat h37
        go_wp2
        go_round
        case rel => exact ⟨k + 1, by omega, by go_num, by rw [HN.out]; exact congrArg (Value.int .i64) (by simp)⟩
        case measure => simp [intOf]; omega
      · rw [he] at hat HN
        have hor := or_byte hc0 hb
        obtain ⟨h0, e0⟩ := rest_at s p 0 (hat 0 37 rfl)
        obtain ⟨h1, e1⟩ := rest_at s p 1 (hat 1 x rfl)
        obtain ⟨h2, e2⟩ := rest_at s p 2 (hat 2 y rfl)
        have hps : p + 2 < s.size := by simp at h2; omega
        clear hat
        go_wp2_with (first
          | (go_at_call_of 13 (1 : Int); refine (unhex_in (s.extract p s.size) 1 _ h1 (by unfold maxLen; simp; omega)).mono ?_; rintro e w' ⟨rfl, rfl⟩; rw [e1, ux, vx])
          | (go_at_call_of 13 (2 : Int); refine (unhex_in (s.extract p s.size) 2 _ h2 (by unfold maxLen; simp; omega)).mono ?_; rintro e w' ⟨rfl, rfl⟩; rw [e2, uy, vy]))
        go_round
        case rel => exact ⟨k + 1, by omega, by go_num, by rw [HN.out]; exact congrArg (Value.int .i64) (by simp)⟩
        case measure => simp [intOf]; omega
    · have hkn : k = tok.size := by omega
      rw [hkn]
      go_wp2
      go_ret2
      exact ⟨rfl, rfl⟩

set_option maxRecDepth 100000 in
set_option maxHeartbeats 2000000 in
theorem enc_cut (tok s : ByteArray) (ms : List Int) (cut : Nat) (w : World) (ht : tok.size ≤ 65536) (hs : s.size ≤ 4194304)
    (hS : L s = (encK (L tok) ms tok.size).take cut) (hcut : cut < (encK (L tok) ms tok.size).length) :
    Calls Try.prog 11 #[.string tok, .string s, .bool false] w fun e w' => e = .returned (.tuple #[.int .i64 0, .bool true]) ∧ w' = w := by
  have hsz : s.size = cut := by rw [← L_len, hS, List.length_take]; omega
  have hpre : ∀ (i : Nat) (y : Int), i < s.size → (encK (L tok) ms tok.size)[i]? = some y → (L s)[i]? = some y := fun i y hi hy => by
    rw [hS, List.getElem?_take, if_pos (by omega)]; exact hy
  have hlong : s.size < (encK (L tok) ms tok.size).length := by omega
  clear hS hcut hsz
  go_enter Try.func11, Try.ntmps11
  go_wp2
  go_loop [6, 17] (fun n i => ∃ (k : Nat), k ≤ tok.size ∧ i = .int .i64 k ∧ n = .int .i64 (encK (L tok) ms k).length ∧ (encK (L tok) ms k).length ≤ s.size) (fun _ i => tok.size - (intOf i).toNat)
  case atStart => exact ⟨0, Nat.zero_le _, rfl, rfl, Nat.zero_le _⟩
  case round =>
    obtain ⟨k, hk, rfl, rfl, hle⟩ := hrel
    have hlt : k < tok.size := by
      rcases Nat.lt_or_ge k tok.size with h | h
      · exact h
      · have : k = tok.size := by omega
        subst this
        omega
    have hkl := encK_len (L tok) ms k
    have hg : (L tok).getD k 0 = (tok[k].toNat : Int) := by simp [List.getD, L_get tok k hlt]
    have hb := u8_le tok[k]
    have hat : ∀ (i : Nat) (y : Int), (encK (L tok) ms k).length + i < s.size → (enc1 ((L tok).getD k 0) (mm ms k))[i]? = some y → (L s)[(encK (L tok) ms k).length + i]? = some y := fun i y hi hy => hpre _ _ hi (encK_at (L tok) ms hlt i hy)
    have HN : Hid ((encK (L tok) ms (k + 1)).length = (encK (L tok) ms k).length + (enc1 (tok[k].toNat : Int) (mm ms k)).length) := by rw [Hid, encK, List.length_append, hg]
    rw [hg] at hat
    generalize (encK (L tok) ms k).length = p at hat HN hkl hle
    generalize hcv : (tok[k].toNat : Int) = c at hat HN hb
    clear hpre hlong
    have hc0 : 0 ≤ c := by omega
    by_cases hps : p < s.size
    · rcases enc1_cases (mm ms k) hc0 hb with ⟨h32, he⟩ | ⟨h37, he⟩ | ⟨x, y, he, ux, uy, vx, vy⟩
      · rw [he] at hat HN
        obtain ⟨h0, e0⟩ := rest_at s p 0 (hat 0 43 (by omega) rfl)
        clear hat
        go_wp2
        go_round
        case rel => exact ⟨k + 1, by omega, by go_num, by rw [HN.out]; exact congrArg (Value.int .i64) (by simp), by rw [HN.out]; simp; omega⟩
        case measure => simp [intOf]; omega
      · rw [he] at hat HN
        obtain ⟨h0, e0⟩ := rest_at s p 0 (hat 0 c (by omega) rfl)
        have h37' : (c == 37) = false := by simpa using h37
        clear hat h37
        go_wp2
        go_round
        case rel => exact ⟨k + 1, by omega, by go_num, by rw [HN.out]; exact congrArg (Value.int .i64) (by simp), by rw [HN.out]; simp; omega⟩
        case measure => simp [intOf]; omega
      · rw [he] at hat HN
        have hor := or_byte hc0 hb
        obtain ⟨h0, e0⟩ := rest_at s p 0 (hat 0 37 (by omega) rfl)
        by_cases h3 : p + 2 < s.size
        · obtain ⟨h1, e1⟩ := rest_at s p 1 (hat 1 x (by omega) rfl)
          obtain ⟨h2, e2⟩ := rest_at s p 2 (hat 2 y (by omega) rfl)
          clear hat
          go_wp2_with (first
            | (go_at_call_of 13 (1 : Int); refine (unhex_in (s.extract p s.size) 1 _ h1 (by unfold maxLen; simp; omega)).mono ?_; rintro e w' ⟨rfl, rfl⟩; rw [e1, ux, vx])
            | (go_at_call_of 13 (2 : Int); refine (unhex_in (s.extract p s.size) 2 _ h2 (by unfold maxLen; simp; omega)).mono ?_; rintro e w' ⟨rfl, rfl⟩; rw [e2, uy, vy]))
          go_round
          case rel => exact ⟨k + 1, by omega, by go_num, by rw [HN.out]; exact congrArg (Value.int .i64) (by simp), by rw [HN.out]; simp; omega⟩
          case measure => simp [intOf]; omega
        · by_cases h2 : p + 1 < s.size
          · obtain ⟨h1, e1⟩ := rest_at s p 1 (hat 1 x (by omega) rfl)
            have ho : (s.extract p s.size).size ≤ 2 := by simp; omega
            clear hat
            go_wp2_with (first
              | (go_at_call_of 13 (1 : Int); refine (unhex_in (s.extract p s.size) 1 _ h1 (by unfold maxLen; simp; omega)).mono ?_; rintro e w' ⟨rfl, rfl⟩; rw [e1, ux, vx])
              | (go_at_call_of 13 (2 : Int); refine (unhex_out (s.extract p s.size) 2 _ ho).mono ?_; rintro e w' ⟨rfl, rfl⟩))
            go_ret2
            exact ⟨rfl, rfl⟩
          · have ho1 : (s.extract p s.size).size ≤ 1 := by simp; omega
            have ho2 : (s.extract p s.size).size ≤ 2 := by simp; omega
            clear hat
            go_wp2_with (first
              | (go_at_call_of 13 (1 : Int); refine (unhex_out (s.extract p s.size) 1 _ ho1).mono ?_; rintro e w' ⟨rfl, rfl⟩)
              | (go_at_call_of 13 (2 : Int); refine (unhex_out (s.extract p s.size) 2 _ ho2).mono ?_; rintro e w' ⟨rfl, rfl⟩))
            go_ret2
            exact ⟨rfl, rfl⟩
    · have hpe : s.size = p := by omega
      have hpe' : ((p : Int) == (s.size : Int)) = true := by simp; omega
      clear hat
      go_wp2
      go_ret2
      exact ⟨rfl, rfl⟩

end Go.Proofs.Qxb6623312a
