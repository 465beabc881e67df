/-
  Seat b6619637a: the base: an ID is a Vector of 16 numbers; rows of IDs in memory; readings of slices of IDs; the laws of one element's load and store. Our own text.
-/
import Derived.Test.Qxb6619637aRows
import Derived.WalkKit
import Derived.Below
import Derived.Deep.MidRow
import Derived.BigQuiet
import Derived.Deep.QuietTactic
import Derived.WalkSpells
import Derived.Lib.SliceRun
namespace Go.Proofs.Qxb6619637a
open Go.RowKit

/-- An ID: sixteen numbers. -/
abbrev V : Type := Vector Int 16
/-- Its sixteen cells. -/
def E (x : V) : List Value := x.toList.map (Value.int .u8)
theorem E_len (x : V) : (E x).length = 16 := by simp [E]
theorem E_one (x : V) : ∀ v ∈ E x, v.oneCell' = true := ints_oneCell _ _
/-- It as a value. -/
def G (x : V) : Value := .agg (E x).toArray
/-- The cells of a list of IDs. -/
def flat (xs : List V) : List Value := xs.flatMap E
theorem flat_len (xs : List V) : (flat xs).length = xs.length * 16 := by
  induction xs with
  | nil => rfl
  | cons x xs ih => simp only [flat, List.flatMap_cons, List.length_append, E_len, List.length_cons] at *; omega
theorem flat_nil : flat [] = [] := rfl
theorem flat_cons (x : V) (xs : List V) : flat (x :: xs) = E x ++ flat xs := rfl
theorem flat_append (xs ys : List V) : flat (xs ++ ys) = flat xs ++ flat ys := by simp [flat]
theorem flat_one (xs : List V) : ∀ v ∈ flat xs, v.oneCell' = true := by
  intro v hv
  obtain ⟨x, _, h⟩ := List.mem_flatMap.1 hv
  exact E_one x v h
theorem flat_get (xs : List V) (j : Nat) (hj : j < xs.length) (i : Nat) (hi : i < 16) : (flat xs)[j * 16 + i]? = (E xs[j])[i]? := by
  induction xs generalizing j with
  | nil => simp at hj
  | cons x xs ih =>
    rw [flat_cons]
    cases j with
    | zero => rw [List.getElem?_append_left (by rw [E_len]; omega)]; simp
    | succ j =>
      rw [List.getElem?_append_right (by rw [E_len]; omega), E_len]
      have := ih j (by simpa using hj)
      rw [show (j + 1) * 16 + i - 16 = j * 16 + i by omega, this]
      simp
theorem flat_set (xs : List V) (j : Nat) (hj : j < xs.length) (x : V) : (flat xs).take (j * 16) ++ E x ++ (flat xs).drop (j * 16 + 16) = flat (xs.set j x) := by
  induction xs generalizing j with
  | nil => simp at hj
  | cons y ys ih =>
    cases j with
    | zero =>
      have : (E y).length = 16 := E_len y
      simp only [flat_cons, List.set_cons_zero, Nat.zero_mul, List.take_zero, List.nil_append, Nat.zero_add]
      rw [List.drop_append_of_le_length (by omega), ← this, List.drop_length, List.nil_append]
    | succ j =>
      have h16 : (E y).length = 16 := E_len y
      rw [flat_cons, List.set_cons_succ, flat_cons, ← ih j (by simpa using hj)]
      rw [show (j + 1) * 16 + 16 = (E y).length + (j * 16 + 16) by omega, show (j + 1) * 16 = (E y).length + j * 16 by omega, List.take_length_add_append, List.drop_length_add_append]
      simp [List.append_assoc]

theorem info30 : (Try.prog.info? 30).map (·.size) = some 16 := by kernel_rfl
theorem info36 : (Try.prog.info? 36).map (·.size) = some 16 := by kernel_rfl
/-- The zero ID. -/
def Z : V := Vector.replicate 16 0
theorem E_Z : E Z = List.replicate 16 (.int .u8 0) := by simp [E, Z]
theorem full30 : (Try.prog.info? 30).map (fun i => (i.zero, i.size, i.bytes)) = some (some (.agg (List.replicate 16 (.int .u8 0)).toArray), 16, 16) := by kernel_rfl
theorem full36 : (Try.prog.info? 36).map (fun i => (i.zero, i.size, i.bytes)) = some (some (.agg (List.replicate 16 (.int .u8 0)).toArray), 16, 16) := by kernel_rfl

/-! ### A row of the call's own -/
/-- Block g holds just these IDs (element type T), none of it frozen. -/
def Row (w : World) (g : Nat) (T : TypeId) (xs : List V) : Prop := w.heap[g]? = some (.cells (flat xs).toArray T (0, 0))
/-- The slice (a, n) reads as the IDs xs. -/
def Rd (w : World) (a : Option Addr) (n : Nat) (xs : List V) : Prop := xs.length = n ∧ ∀ j (h : j < xs.length), ∃ b o, a = some ⟨b, o, none⟩ ∧ w.rangeAt b (o + j * 16) (E xs[j])

theorem Row.lt {w : World} {g : Nat} {T : TypeId} {xs : List V} (h : Row w g T xs) : g < w.heap.size := (Array.getElem?_eq_some_iff.1 h).1
theorem Row.at {w : World} {g : Nat} {T : TypeId} {xs : List V} (h : Row w g T xs) (j : Nat) (hj : j < xs.length) : w.rangeAt g (j * 16) (E xs[j]) := fun i v hv => by
  rw [cell_of_row w g _ _ T (0, 0) h]
  have hi : i < 16 := by have := (List.getElem?_eq_some_iff.1 hv).1; rwa [E_len] at this
  simpa [flat_get xs j hj i hi] using hv
theorem Row.rd {w : World} {g : Nat} {T : TypeId} {xs : List V} (h : Row w g T xs) : Rd w (some ⟨g, 0, none⟩) xs.length xs :=
  ⟨rfl, fun j hj => ⟨g, 0, rfl, by rw [Nat.zero_add]; exact h.at j hj⟩⟩
theorem Row.kept {w w' : World} {g : Nat} {T : TypeId} {xs : List V} (h : Row w g T xs) {B : Nat} (hb : Below B w w') (hg : g < B) : Row w' g T xs := by
  unfold Row at *; rw [hb.block g hg]; exact h
theorem Row.grown {w w' : World} {g : Nat} {T : TypeId} {xs : List V} (h : Row w g T xs) {row : Option Nat} (hb : w.grownBy w' row) (hg : some g ≠ row) : Row w' g T xs := by
  have := h.lt
  unfold Row at *; rw [hb.block g this hg]; exact h
theorem Rd.nil (w : World) (a : Option Addr) : Rd w a 0 [] := ⟨rfl, fun _ h => absurd h (Nat.not_lt_zero _)⟩
theorem Rd.isNil {w : World} {n : Nat} {xs : List V} (h : Rd w none n xs) : n = 0 ∧ xs = [] := by
  obtain ⟨h1, h2⟩ := h
  cases xs with
  | nil => exact ⟨h1.symm, rfl⟩
  | cons x xs => obtain ⟨b, o, h, _⟩ := h2 0 (by simp); cases h
theorem range_lt {w : World} {b o : Nat} {x : V} (h : w.rangeAt b o (E x)) : b < w.heap.size := by
  have h0 : (E x)[0]? = some ((E x)[0]'(by rw [E_len]; omega)) := List.getElem?_eq_getElem _
  exact block_lt_of_cell (h 0 _ h0)
theorem Rd.kept {w w' : World} {a : Option Addr} {n : Nat} {xs : List V} (h : Rd w a n xs) (hb : Below w.heap.size w w') : Rd w' a n xs :=
  ⟨h.1, fun j hj => by
    obtain ⟨b, o, e, hr⟩ := h.2 j hj
    exact ⟨b, o, e, fun i v hv => by rw [hb.cell (p := ⟨b, _, none⟩) (range_lt hr)]; exact hr i v hv⟩⟩
theorem Rd.alloc {w : World} {a : Option Addr} {n : Nat} {xs : List V} (h : Rd w a n xs) (o : Obj) : Rd (w.alloc o) a n xs := h.kept ((Below.refl _ _).alloc (Nat.le_refl _) o)
theorem Rd.drewN {w : World} {a : Option Addr} {n : Nat} {xs : List V} (h : Rd w a n xs) (q : Nat) : Rd (w.drewN q) a n xs :=
  ⟨h.1, fun j hj => by
    obtain ⟨b, o, e, hr⟩ := h.2 j hj
    exact ⟨b, o, e, fun i v hv => by rw [World.cell?_drewN]; exact hr i v hv⟩⟩
/-- All elements at one address. -/
theorem Rd.at {w : World} {a : Option Addr} {n : Nat} {xs : List V} (h : Rd w a n xs) (k : Nat) (hk : k < n) : ∃ b o, a = some ⟨b, o, none⟩ ∧ ∀ j (hj : j < xs.length), w.rangeAt b (o + j * 16) (E xs[j]) := by
  obtain ⟨b, o, e, _⟩ := h.2 k (by rw [h.1]; exact hk)
  refine ⟨b, o, e, fun j hj => ?_⟩
  obtain ⟨b', o', e', hr⟩ := h.2 j hj
  rw [e] at e'
  simp only [Option.some.injEq, Addr.mk.injEq] at e'
  obtain ⟨rfl, rfl, _⟩ := e'
  exact hr

theorem below_drewN' {B : Nat} {w w' : World} (h : Below B w w') (q : Nat) : Below B w (w'.drewN q) := ⟨h.os, h.tape, h.output, h.size, h.block⟩
theorem cast_ret {k : IntKind} {a b : Int} (h : a = b) : Ending.returned (.int k a) = .returned (.int k b) := by rw [h]

/-! ### The laws of one element -/
/-- A load of one ID. -/
theorem wpList_ld {ops : Array Oper} {rest : List Oper} {op : Oper} {a : Act} {w : World} {Q : Exit → Act → World → Prop} (hgd : op.guard = none) (ty : TypeId) (x : Operand) (ho : op.op = .load ty x)
    (b o : Nat) (v : V) (hty : ty = 30 ∨ ty = 36) (hc : w.rangeAt b o (E v)) (hx : a.eval x = .pointer (some ⟨b, o, none⟩))
    (h : wpList Try.prog ops Q rest (a.put op.dst (G v)) w) : wpList Try.prog ops Q (op :: rest) a w := by
  rcases hty with rfl | rfl
  · exact wpList_load_mid hgd 30 x ho b o hx (E v) _ hc Try.underlying30 rfl (by rw [E_len]; exact info30) h
  · exact wpList_load_mid hgd 36 x ho b o hx (E v) _ hc Try.underlying36 rfl (by rw [E_len]; exact info36) h

theorem info_of {ty : TypeId} (hty : ty = 30 ∨ ty = 36) (v : V) : (Try.prog.info? ty).map (·.size) = some (E v).toArray.size := by
  rcases hty with rfl | rfl
  · rw [List.size_toArray, E_len]; exact info30
  · rw [List.size_toArray, E_len]; exact info36

theorem run_st (w : World) (g j : Nat) (ty T : TypeId) (hty : ty = 30 ∨ ty = 36) (ys : List V) (v : V) (hrow : Row w g T ys) (hj : j < ys.length) :
    ∃ w', (storeVar ty ⟨g, j * 16, none⟩ (G v)).run Try.prog w = .ok () w' ∧ Row w' g T (ys.set j v) ∧ w.grownBy w' (some g) := by
  have hsz : (flat ys).toArray.size = ys.length * 16 := by simp [flat_len]
  have hs := run_storeCells_at Try.prog g (j * 16) T (E v) 0 (flat ys).toArray w hrow (by rw [hsz, E_len]; omega) (E_one v)
  rw [Nat.add_zero, E_len, show (List.take (j * 16) (flat ys).toArray.toList ++ E v ++ List.drop (j * 16 + 16) (flat ys).toArray.toList) = flat (ys.set j v) from flat_set ys j hj v] at hs
  refine ⟨w.setRow g (flat (ys.set j v)).toArray, ?_, setRow_heap w g _ _ T _ hrow, ⟨rfl, rfl, rfl, by simp, fun k _ hk => setRow_other w g k _ (fun e => hk (by simp [e]))⟩⟩
  cases hq : Try.prog.info? ty with
  | none => have := info_of hty v; simp [hq] at this
  | some i =>
    have hi : (E v).length = i.size := by have := info_of hty v; simp [hq] at this; exact this.symm
    simp [storeVar, sizeOf, typeInfo, hq, Value.cells, G, hi, hs]

/-- A store of one ID into a row of the call's own. -/
theorem wpList_st {ops : Array Oper} {rest : List Oper} {op : Oper} {a : Act} {w : World} {Q : Exit → Act → World → Prop} (hgd : op.guard = none) (ty : TypeId) (x y : Operand) (ho : op.op = .store ty x y)
    (g j : Nat) (v : V) (T : TypeId) (ys : List V) (hty : ty = 30 ∨ ty = 36) (hrow : Row w g T ys) (hj : j < ys.length) (hx : a.eval x = .pointer (some ⟨g, j * 16, none⟩)) (hy : a.eval y = G v)
    (h : ∀ w', Row w' g T (ys.set j v) → w.grownBy w' (some g) → wpList Try.prog ops Q rest (a.put op.dst undef) w') : wpList Try.prog ops Q (op :: rest) a w := by
  refine wpList_plain hgd fun K hK => ?_
  obtain ⟨w', hr, h1, h2⟩ := run_st w g j ty T hty ys v hrow hj
  unfold Oper.wp execOp
  simp only [ho, hx, hy, Instr.storeAt, Instr.sureAddr, Sem.run_bind, Sem.run_pure, Result.andThen_ok, hr]
  exact hK _ _ (h w' h1 h2)

/-- What a maker hands back: nil, or a row of its own that holds just xs. -/
def Own (w : World) (B : Nat) (T : TypeId) (a : Option Addr) (n : Nat) (xs : List V) : Prop := xs.length = n ∧ ((a = none ∧ n = 0) ∨ ∃ g, a = some ⟨g, 0, none⟩ ∧ B ≤ g ∧ Row w g T xs)
theorem Own.rd {w : World} {B : Nat} {T : TypeId} {a : Option Addr} {n : Nat} {xs : List V} (h : Own w B T a n xs) : Rd w a n xs := by
  obtain ⟨h1, ⟨rfl, rfl⟩ | ⟨g, rfl, _, hr⟩⟩ := h
  · have : xs = [] := List.eq_nil_of_length_eq_zero h1
    subst this; exact Rd.nil _ _
  · have := hr.rd; rwa [h1] at this
theorem list_eq_of {xs ys : List V} {n : Nat} (h1 : ys.length = n) (h2 : xs.length = n) (h : ∀ j, j < n → ys[j]? = xs[j]?) : ys = xs :=
  List.ext_getElem? fun j => by
    by_cases hj : j < n
    · exact h j hj
    · rw [List.getElem?_eq_none (by omega), List.getElem?_eq_none (by omega)]
theorem set_next {xs ys : List V} {k : Nat} {v : V} (hk : k < ys.length) (h : ∀ j, j < k → ys[j]? = xs[j]?) (hv : xs[k]? = some v) : ∀ j, j < k + 1 → (ys.set k v)[j]? = xs[j]? := by
  intro j hj
  by_cases hjk : j = k
  · subst hjk; rw [List.getElem?_set_self hk, hv]
  · rw [List.getElem?_set_ne (by omega)]; exact h j (by omega)

theorem made_flat (n : Nat) : (madeCells (Value.agg (List.replicate 16 (Value.int .u8 0)).toArray).cells (n * 16)).toList = flat (List.replicate n Z) := by
  apply List.ext_getElem?
  intro t
  by_cases ht : t < n * 16
  · have h1 : t / 16 < n := Nat.div_lt_of_lt_mul (by omega)
    have h2 : t % 16 < 16 := Nat.mod_lt _ (by omega)
    have e : t = t / 16 * 16 + t % 16 := (Nat.div_add_mod' t 16).symm
    have h3 := flat_get (List.replicate n Z) (t / 16) (by simpa using h1) (t % 16) h2
    rw [← e] at h3
    rw [h3]
    simp only [List.getElem_replicate, E_Z, List.getElem?_replicate, h2, if_true]
    simp only [madeCells, Value.cells, Array.getElem?_toList, Array.getElem?_map, List.size_toArray, List.length_replicate]
    rw [Array.getElem?_range, if_pos ht]
    have e3 : ∀ q, q < 16 → (List.replicate 16 (Value.int .u8 0)).toArray[q]! = Value.int .u8 0 := fun q hq => by
      rw [getElem!_pos _ q (by simpa using hq)]; simp only [List.getElem_toArray, List.getElem_replicate]
    rw [Option.map_some, e3 _ h2]
  · rw [List.getElem?_eq_none (by simp [madeCells]; omega), List.getElem?_eq_none (by rw [flat_len]; simp; omega)]

theorem row_of_own {w : World} {base g n : Nat} {T : TypeId} {xs : List V} (h : w.ownsRow base T 16 (.slice (some ⟨g, 0, none⟩) n n) n (flat xs)) : Row w g T xs := by
  rcases h.2 with ⟨h, _⟩ | ⟨g', cap, cur, hv, _, hh, _, _, hs, ht⟩
  · cases h
  · simp only [Value.slice.injEq, Option.some.injEq, Addr.mk.injEq, true_and, and_true] at hv
    obtain ⟨rfl, rfl⟩ := hv
    rw [List.take_of_length_le (by simp [hs])] at ht
    unfold Row
    rw [hh, ← ht]
    
/-- 'make([]ID, n)'. -/
theorem wpList_mk {ops : Array Oper} {rest : List Oper} {o : Oper} {a : Act} {w : World} {Q : Exit → Act → World → Prop}
    (hg : o.guard = none) (l c : Operand) (t T : TypeId) (hop : o.op = Op.makeSlice t l c) (ht : (t = 22 ∧ T = 30) ∨ (t = 26 ∧ T = 36))
    (kl kc : IntKind) (L C : Int) (n : Nat) (hl : a.eval l = .int kl L) (hc : a.eval c = .int kc C) (hL : L = (n : Int)) (hC : C = (n : Int)) (hn : n ≤ 1048576)
    (hK : ∀ w', Row w' w.heap.size T (List.replicate n Z) → w.grownBy w' none → wpList Try.prog ops Q rest (a.put o.dst (.slice (some ⟨w.heap.size, 0, none⟩) n n)) w') :
    wpList Try.prog ops Q (o :: rest) a w := by
  rcases ht with ⟨rfl, rfl⟩ | ⟨rfl, rfl⟩
  · obtain ⟨i0, hi, hz0, hz1, hz2⟩ := info_parts full30
    refine wpList_make_full _ hg l c 22 hop w.heap.size 30 i0 _ 16 Try.underlying22 hi hz0 hz1 kl kc L C n hl hc hL hC (by rw [hz2]; omega) (by unfold maxLen; omega) (Nat.le_refl _) (fun w' h1 h2 => hK w' (row_of_own (n := n) (by rw [made_flat] at h1; exact h1)) h2)
  · obtain ⟨i0, hi, hz0, hz1, hz2⟩ := info_parts full36
    refine wpList_make_full _ hg l c 26 hop w.heap.size 36 i0 _ 16 Try.underlying26 hi hz0 hz1 kl kc L C n hl hc hL hC (by rw [hz2]; omega) (by unfold maxLen; omega) (Nat.le_refl _) (fun w' h1 h2 => hK w' (row_of_own (n := n) (by rw [made_flat] at h1; exact h1)) h2)

end Go.Proofs.Qxb6619637a
