/-
  Seat b6623312a: the plain mathematics: bytes as numbers, hex digits, the encoding. No Go in sight. Our own text.
-/
import Derived.Test.Qxb6623312aRows
namespace Go.Proofs.Qxb6623312a
set_option linter.unusedSimpArgs false
set_option linter.unusedVariables false

/-- A string's bytes as numbers. -/
def L (s : ByteArray) : List Int := s.data.toList.map fun c => (c.toNat : Int)
theorem L_len (s : ByteArray) : (L s).length = s.size := by simp [L]
theorem L_get (s : ByteArray) (i : Nat) (h : i < s.size) : (L s)[i]? = some (s[i].toNat : Int) := by
  have h' : i < s.data.size := h
  simp only [L, List.getElem?_map, Array.getElem?_toList, Array.getElem?_eq_getElem h', Option.map_some]
  rfl
theorem u8_le (c : UInt8) : (c.toNat : Int) ≤ 255 := by have := c.toNat_lt; omega

/-- The two rows of hex digits. -/
def hexL (q : Int) : Int := if q < 10 then q + 48 else q + 87
def hexU (q : Int) : Int := if q < 10 then q + 48 else q + 55
/-- unhex: is it a hex digit, and which? -/
def ub (b : Int) : Bool := decide ((48 ≤ b ∧ b ≤ 57) ∨ (97 ≤ b ∧ b ≤ 102) ∨ (65 ≤ b ∧ b ≤ 70))
def uv (b : Int) : Int := if 48 ≤ b ∧ b ≤ 57 then b - 48 else if 97 ≤ b ∧ b ≤ 102 then b - 87 else if 65 ≤ b ∧ b ≤ 70 then b - 55 else 0
theorem u_hexL {q : Int} (h0 : 0 ≤ q) (h1 : q < 16) : ub (hexL q) = true ∧ uv (hexL q) = q := by
  unfold ub uv hexL
  split
  · exact ⟨by rw [decide_eq_true_eq]; omega, by rw [if_pos (by omega)]; omega⟩
  · exact ⟨by rw [decide_eq_true_eq]; omega, by rw [if_neg (by omega), if_pos (by omega)]; omega⟩
theorem u_hexU {q : Int} (h0 : 0 ≤ q) (h1 : q < 16) : ub (hexU q) = true ∧ uv (hexU q) = q := by
  unfold ub uv hexU
  split
  · exact ⟨by rw [decide_eq_true_eq]; omega, by rw [if_pos (by omega)]; omega⟩
  · exact ⟨by rw [decide_eq_true_eq]; omega, by rw [if_neg (by omega), if_neg (by omega), if_pos (by omega)]; omega⟩
theorem hexL_bd {q : Int} (h0 : 0 ≤ q) (h1 : q < 16) : 0 ≤ hexL q ∧ hexL q ≤ 255 := by unfold hexL; split <;> omega
theorem hexU_bd {q : Int} (h0 : 0 ≤ q) (h1 : q < 16) : 0 ≤ hexU q ∧ hexU q ≤ 255 := by unfold hexU; split <;> omega

/-- One byte's encoding under the form m. -/
def enc1 (c m : Int) : List Int :=
  if c = 32 ∧ m = 3 then [43]
  else if c ≠ 37 ∧ (m = 0 ∨ m = 3) then [c]
  else if m = 2 then [37, hexL (c / 16), hexL (c % 16)]
  else [37, hexU (c / 16), hexU (c % 16)]
theorem enc1_plus {c m : Int} (h : c = 32 ∧ m = 3) : enc1 c m = [43] := by unfold enc1; rw [if_pos h]
theorem enc1_raw {c m : Int} (h : ¬ (c = 32 ∧ m = 3)) (h2 : c ≠ 37 ∧ (m = 0 ∨ m = 3)) : enc1 c m = [c] := by unfold enc1; rw [if_neg h, if_pos h2]
theorem enc1_low {c m : Int} (h : ¬ (c = 32 ∧ m = 3)) (h2 : ¬ (c ≠ 37 ∧ (m = 0 ∨ m = 3))) (h3 : m = 2) : enc1 c m = [37, hexL (c / 16), hexL (c % 16)] := by unfold enc1; rw [if_neg h, if_neg h2, if_pos h3]
theorem enc1_up {c m : Int} (h : ¬ (c = 32 ∧ m = 3)) (h2 : ¬ (c ≠ 37 ∧ (m = 0 ∨ m = 3))) (h3 : ¬ m = 2) : enc1 c m = [37, hexU (c / 16), hexU (c % 16)] := by unfold enc1; rw [if_neg h, if_neg h2, if_neg h3]
/-- What a byte's encoding is, for whoever reads it. -/
theorem enc1_cases {c : Int} (m : Int) (h0 : 0 ≤ c) (h1 : c ≤ 255) :
    (c = 32 ∧ enc1 c m = [43]) ∨ (c ≠ 37 ∧ enc1 c m = [c]) ∨
    (∃ x y, enc1 c m = [37, x, y] ∧ ub x = true ∧ ub y = true ∧ uv x = c / 16 ∧ uv y = c % 16) := by
  have q1 : 0 ≤ c / 16 ∧ c / 16 < 16 := by omega
  have q2 : 0 ≤ c % 16 ∧ c % 16 < 16 := by omega
  by_cases h : c = 32 ∧ m = 3
  · exact .inl ⟨h.1, enc1_plus h⟩
  · by_cases h2 : c ≠ 37 ∧ (m = 0 ∨ m = 3)
    · exact .inr (.inl ⟨h2.1, enc1_raw h h2⟩)
    · by_cases h3 : m = 2
      · exact .inr (.inr ⟨_, _, enc1_low h h2 h3, (u_hexL q1.1 q1.2).1, (u_hexL q2.1 q2.2).1, (u_hexL q1.1 q1.2).2, (u_hexL q2.1 q2.2).2⟩)
      · exact .inr (.inr ⟨_, _, enc1_up h h2 h3, (u_hexU q1.1 q1.2).1, (u_hexU q2.1 q2.2).1, (u_hexU q1.1 q1.2).2, (u_hexU q2.1 q2.2).2⟩)
theorem enc1_len (c m : Int) : 1 ≤ (enc1 c m).length ∧ (enc1 c m).length ≤ 3 := by
  unfold enc1
  split
  · simp
  · split
    · simp
    · split <;> simp
theorem enc1_bd {c m : Int} (h0 : 0 ≤ c) (h1 : c ≤ 255) : ∀ y ∈ enc1 c m, 0 ≤ y ∧ y ≤ 255 := by
  have q1 : 0 ≤ c / 16 ∧ c / 16 < 16 := by omega
  have q2 : 0 ≤ c % 16 ∧ c % 16 < 16 := by omega
  have b1 := hexL_bd q1.1 q1.2
  have b2 := hexL_bd q2.1 q2.2
  have b3 := hexU_bd q1.1 q1.2
  have b4 := hexU_bd q2.1 q2.2
  unfold enc1
  split
  · intro y hy; simp at hy; subst hy; omega
  · split
    · intro y hy; simp at hy; subst hy; omega
    · split
      · intro y hy; simp only [List.mem_cons, List.mem_nil_iff, or_false] at hy; rcases hy with rfl | rfl | rfl <;> omega
      · intro y hy; simp only [List.mem_cons, List.mem_nil_iff, or_false] at hy; rcases hy with rfl | rfl | rfl <;> omega

/-- The form of byte i. -/
def mm (ms : List Int) (i : Nat) : Int := (ms.getD i 0) % 4
/-- The encoding of the first k bytes. -/
def encK (l ms : List Int) : Nat → List Int
  | 0 => []
  | k + 1 => encK l ms k ++ enc1 (l.getD k 0) (mm ms k)
theorem encK_len (l ms : List Int) : ∀ k, k ≤ (encK l ms k).length ∧ (encK l ms k).length ≤ 3 * k
  | 0 => by simp [encK]
  | k + 1 => by
    have := encK_len l ms k
    have := enc1_len (l.getD k 0) (mm ms k)
    simp only [encK, List.length_append]
    omega
theorem encK_mono (l ms : List Int) {i j : Nat} (h : i ≤ j) : ∃ t, encK l ms j = encK l ms i ++ t := by
  induction j with
  | zero => have : i = 0 := by omega
            subst this; exact ⟨[], by simp⟩
  | succ j ih =>
    by_cases e : i = j + 1
    · subst e; exact ⟨[], by simp⟩
    · obtain ⟨t, ht⟩ := ih (by omega)
      exact ⟨t ++ enc1 (l.getD j 0) (mm ms j), by rw [encK, ht, List.append_assoc]⟩
/-- Where byte k's encoding lies. -/
theorem encK_at (l ms : List Int) {k n : Nat} (h : k < n) (i : Nat) {y : Int} (hy : (enc1 (l.getD k 0) (mm ms k))[i]? = some y) : (encK l ms n)[(encK l ms k).length + i]? = some y := by
  obtain ⟨t, ht⟩ := encK_mono l ms (i := k + 1) (j := n) h
  have hi : i < (enc1 (l.getD k 0) (mm ms k)).length := (List.getElem?_eq_some_iff.1 hy).1
  rw [ht, encK, List.append_assoc, List.getElem?_append_right (by omega)]
  rw [show (encK l ms k).length + i - (encK l ms k).length = i by omega, List.getElem?_append_left hi, hy]
theorem encK_bd {l : List Int} (hl : ∀ x ∈ l, 0 ≤ x ∧ x ≤ 255) (ms : List Int) : ∀ k, ∀ y ∈ encK l ms k, 0 ≤ y ∧ y ≤ 255
  | 0 => by simp [encK]
  | k + 1 => by
    intro y hy
    rw [encK, List.mem_append] at hy
    rcases hy with hy | hy
    · exact encK_bd hl ms k y hy
    · have : 0 ≤ l.getD k 0 ∧ l.getD k 0 ≤ 255 := by
        by_cases h : k < l.length
        · have hm : l.getD k 0 ∈ l := by simp [List.getD, h]
          exact hl _ hm
        · simp [List.getD, show ¬ k < l.length from h]
      exact enc1_bd this.1 this.2 y hy
theorem L_bound (s : ByteArray) : ∀ n ∈ L s, 0 ≤ n ∧ n ≤ 255 := by
  intro n hn
  obtain ⟨c, _, rfl⟩ := List.mem_map.1 hn
  have := c.toNat_lt
  omega

/-- A string out of bytes. -/
def mk (ys : List Int) : ByteArray := ys.foldl (fun r n => r.push (UInt8.ofNat n.toNat)) ByteArray.empty
theorem L_push (r : ByteArray) (c : UInt8) : L (r.push c) = L r ++ [(c.toNat : Int)] := by
  cases r; simp [L, ByteArray.push]
theorem L_fold : ∀ (ys : List Int) (r : ByteArray), (∀ y ∈ ys, 0 ≤ y ∧ y ≤ 255) → L (ys.foldl (fun r n => r.push (UInt8.ofNat n.toNat)) r) = L r ++ ys
  | [], r, _ => by simp
  | y :: ys, r, h => by
    have hy := h y (by simp)
    rw [List.foldl_cons, L_fold ys _ (fun z hz => h z (by simp [hz])), L_push]
    have : ((UInt8.ofNat y.toNat).toNat : Int) = y := by
      rw [UInt8.toNat_ofNat']; omega
    rw [this]; simp
theorem L_mk {ys : List Int} (h : ∀ y ∈ ys, 0 ≤ y ∧ y ≤ 255) : L (mk ys) = ys := by
  unfold mk; rw [L_fold ys _ h]; rfl
theorem L_append (a b : ByteArray) : L (a ++ b) = L a ++ L b := by
  unfold L
  rw [ByteArray.data_append]
  simp
theorem size_mk {ys : List Int} (h : ∀ y ∈ ys, 0 ≤ y ∧ y ≤ 255) : (mk ys).size = ys.length := by rw [← L_len, L_mk h]

/-- Does s begin with p? -/
def preB (s p : List Int) : Bool := p.isPrefixOf s
theorem preB_iff {s p : List Int} : preB s p = true ↔ p <+: s := List.isPrefixOf_iff_prefix

end Go.Proofs.Qxb6623312a
