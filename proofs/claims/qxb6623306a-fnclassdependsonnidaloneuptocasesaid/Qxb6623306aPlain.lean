/-
  Seat b6623306a: the plain mathematics of Class and of the case mask. No Go in sight. Our own text.
-/
import Derived.Test.Qxb6623306aRows
namespace Go.Proofs.Qxb6623306a
set_option linter.unusedSimpArgs false
set_option linter.unusedVariables false

/-- A string's bytes as numbers. -/
def L (s : ByteArray) : List Int := s.data.toList.map fun c => (c.toNat : Int)
theorem L_len (s : ByteArray) : (L s).length = s.size := by simp [L]
theorem L_get (s : ByteArray) (i : Nat) (h : i < s.size) : (L s)[i]? = some (s[i].toNat : Int) := by
  have h' : i < s.data.size := h
  simp only [L, List.getElem?_map, Array.getElem?_toList, Array.getElem?_eq_getElem h', Option.map_some]
  rfl
theorem L_bound (s : ByteArray) : ∀ n ∈ L s, 0 ≤ n ∧ n ≤ 255 := by
  intro n hn
  obtain ⟨c, _, rfl⟩ := List.mem_map.1 hn
  have := c.toNat_lt
  omega

/-- A letter in lower case. -/
def lowI (n : Int) : Int := if 65 ≤ n ∧ n ≤ 90 then n + 32 else n
/-- A digit? -/
def digB (n : Int) : Bool := decide (48 ≤ n ∧ n ≤ 57)
/-- A letter? -/
def letB (n : Int) : Bool := decide (97 ≤ lowI n ∧ lowI n ≤ 122)
theorem lowI_lowI (n : Int) : lowI (lowI n) = lowI n := by unfold lowI; split <;> (try split) <;> omega
theorem digB_low (n : Int) : digB (lowI n) = digB n := by
  unfold digB lowI
  split
  · rw [Bool.eq_iff_iff, decide_eq_true_eq, decide_eq_true_eq]; omega
  · rfl
theorem letB_low (n : Int) : letB (lowI n) = letB n := by unfold letB; rw [lowI_lowI]
theorem low_45 (n : Int) : lowI n = 45 ↔ n = 45 := by unfold lowI; split <;> omega
theorem low_48 (n : Int) : lowI n = 48 ↔ n = 48 := by unfold lowI; split <;> omega

/-- Does l begin with p (which is in lower case), letters of l in either case? -/
def hasPre (l p : List Int) : Bool := decide (p.length ≤ l.length) && ((l.take p.length).map lowI == p)
theorem hasPre_low (l p : List Int) : hasPre (l.map lowI) p = hasPre l p := by
  unfold hasPre
  rw [List.length_map, ← List.map_take, List.map_map]
  congr 2
  exact List.map_congr_left fun a _ => lowI_lowI a
theorem hasPre_len {l p : List Int} (h : hasPre l p = true) : p.length ≤ l.length := by
  unfold hasPre at h; rw [Bool.and_eq_true, decide_eq_true_eq] at h; exact h.1
theorem hasPre_short {l p : List Int} (h : l.length < p.length) : false = hasPre l p := by
  unfold hasPre; rw [decide_eq_false (by omega)]; rfl
theorem hasPre_no {l p : List Int} {i : Nat} {a b : Int} (ha : l[i]? = some a) (hb : p[i]? = some b) (h : lowI a ≠ b) : false = hasPre l p := by
  unfold hasPre
  symm
  rw [Bool.and_eq_false_iff]
  right
  rw [beq_eq_false_iff_ne]
  intro e
  have hi : i < p.length := (List.getElem?_eq_some_iff.1 hb).1
  have : ((l.take p.length).map lowI)[i]? = some b := by rw [e]; exact hb
  rw [List.getElem?_map, List.getElem?_take, if_pos hi, ha] at this
  simp at this
  exact h this
theorem hasPre_yes {l p : List Int} (hl : p.length ≤ l.length) (h : ∀ i, i < p.length → (l[i]?).map lowI = p[i]?) : true = hasPre l p := by
  unfold hasPre
  symm
  rw [Bool.and_eq_true, decide_eq_true_eq]
  refine ⟨hl, ?_⟩
  rw [beq_iff_eq]
  apply List.ext_getElem?
  intro i
  rw [List.getElem?_map, List.getElem?_take]
  by_cases hi : i < p.length
  · rw [if_pos hi]; exact h i hi
  · rw [if_neg hi, List.getElem?_eq_none (by omega)]; rfl

def urnD : List Int := [117, 114, 110, 45]
def xD : List Int := [120, 45]
def urn : List Int := [117, 114, 110]
/-- A positive numeral without a leading zero? -/
def numB (l : List Int) : Bool := !l.isEmpty && l.head? != some 48 && l.all digB
/-- Two letters and a hyphen? -/
def ccB (l : List Int) : Bool := decide (2 < l.length) && letB (l.getD 0 0) && letB (l.getD 1 0) && decide (l.getD 2 0 = 45)
/-- The class: 0 formal, 1 informal, 2 reserved, 3 experimental. -/
def cls (l : List Int) : Nat :=
  if hasPre l urnD then (if numB (l.drop 4) then 1 else 2)
  else if hasPre l xD then 3
  else if (l.length = 3 ∧ hasPre l urn = true) ∨ l.length = 2 ∨ ccB l = true then 2
  else 0
theorem numB_low (l : List Int) : numB (l.map lowI) = numB l := by
  unfold numB
  rw [List.isEmpty_map, List.all_map]
  congr 1
  · congr 1
    cases l with
    | nil => rfl
    | cons a l =>
      simp only [List.map_cons, List.head?_cons]
      rw [Bool.eq_iff_iff]
      simp [low_48]
  · congr 1
    funext a
    exact digB_low a
theorem getD_map_low (l : List Int) (i : Nat) : (l.map lowI).getD i 0 = lowI (l.getD i 0) := by
  simp only [List.getD, List.getElem?_map]
  cases l[i]? with
  | none => simp [lowI]
  | some a => rfl
theorem ccB_low (l : List Int) : ccB (l.map lowI) = ccB l := by
  unfold ccB
  rw [List.length_map, getD_map_low, getD_map_low, getD_map_low, letB_low, letB_low]
  congr 1
  rw [Bool.eq_iff_iff, decide_eq_true_eq, decide_eq_true_eq]
  exact low_45 _
/-- The class hangs on the lower-cased bytes alone. -/
theorem cls_low (l : List Int) : cls (l.map lowI) = cls l := by
  unfold cls
  rw [hasPre_low, hasPre_low, hasPre_low, ← List.map_drop, numB_low, List.length_map, ccB_low]
theorem cls_lt (l : List Int) : cls l < 4 := by unfold cls; split <;> (try split) <;> (try split) <;> omega

/-- One byte, its case flipped where b. -/
def tg (n : Int) (b : Bool) : Int := if b then (if 97 ≤ n ∧ n ≤ 122 then n - 32 else if 65 ≤ n ∧ n ≤ 90 then n + 32 else n) else n
theorem low_tg (n : Int) (b : Bool) : lowI (tg n b) = lowI n := by
  unfold tg lowI
  cases b
  · rfl
  · simp only [if_true]
    by_cases h1 : 97 ≤ n ∧ n ≤ 122
    · rw [if_pos h1, if_pos (by omega), if_neg (by omega)]; omega
    · rw [if_neg h1]
      by_cases h2 : 65 ≤ n ∧ n ≤ 90
      · rw [if_pos h2, if_neg (by omega)]
      · rw [if_neg h2, if_neg h2]
theorem tg_bound {n : Int} {b : Bool} (h : 0 ≤ n ∧ n ≤ 255) : 0 ≤ tg n b ∧ tg n b ≤ 255 := by
  unfold tg
  cases b
  · exact h
  · simp only [if_true]; split <;> (try split) <;> omega
/-- The bytes, case flipped at each place that the mask marks. -/
def tog (l : List Int) (mask : List Bool) : List Int := (List.range l.length).map fun i => tg (l.getD i 0) (mask.getD i false)
theorem tog_len (l : List Int) (mask : List Bool) : (tog l mask).length = l.length := by simp [tog]
theorem tog_low (l : List Int) (mask : List Bool) : (tog l mask).map lowI = l.map lowI := by
  apply List.ext_getElem?
  intro i
  by_cases h : i < l.length
  · simp [tog, h, low_tg]
  · rw [List.getElem?_eq_none (by simp [tog]; omega), List.getElem?_eq_none (by simp; omega)]
theorem cls_tog (l : List Int) (mask : List Bool) : cls (tog l mask) = cls l := by rw [← cls_low, tog_low, cls_low]
theorem cls_x (l : List Int) (mask : List Bool) : cls (tog (120 :: 45 :: l) mask) = 3 := by
  rw [cls_tog]
  have h1 : hasPre (120 :: 45 :: l) urnD = false := (hasPre_no (i := 0) (a := 120) (b := 117) rfl rfl (by decide)).symm
  have h2 : hasPre (120 :: 45 :: l) xD = true := by
    symm
    refine hasPre_yes (by simp [xD]) fun i hi => ?_
    match i, hi with
    | 0, _ => rfl
    | 1, _ => rfl
    | i + 2, hi => exact absurd hi (by simp [xD])
  unfold cls
  rw [h1, h2]
  rfl

/-- The four words. -/
def cstr : Nat → ByteArray
  | 0 => ⟨#[102, 111, 114, 109, 97, 108]⟩
  | 1 => ⟨#[105, 110, 102, 111, 114, 109, 97, 108]⟩
  | 2 => ⟨#[114, 101, 115, 101, 114, 118, 101, 100]⟩
  | _ => ⟨#[101, 120, 112, 101, 114, 105, 109, 101, 110, 116, 97, 108]⟩

end Go.Proofs.Qxb6623306a
