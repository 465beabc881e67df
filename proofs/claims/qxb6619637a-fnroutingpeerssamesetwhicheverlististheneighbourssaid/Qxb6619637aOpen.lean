/-
  Seat b6619637a: from the form's readings to 'Rd', 'G'. Our own text.
-/
import Derived.Test.Qxb6619637aLaw
import Derived.ProofKit
import Derived.OpenShut
import Derived.ChangeOld
import Derived.Deep.Slices
import Derived.Carry
namespace Go.Proofs.Qxb6619637a
open Go.ChangeShapes Go.WideShapes Go.ChangeAt Go.RowKit
set_option linter.unusedVariables false

theorem own : ownKnob Try.prog.godebug = none := by kernel_rfl
theorem laidOut : laidOutB Try.prog = true := by kernel_rfl
theorem cells5 : Try.prog.cellsOf 5 = 1 := by kernel_rfl
theorem cells30 : Try.prog.cellsOf 30 = 16 := by kernel_rfl

section
variable {H : Type} {enc : TypeId × Value → H} {W : World} {spare : Nat → Bool} {held : Bool} {base : Nat}

/-- Sixteen cells that read as a [16]byte. -/
theorem to_V {m : Nat} {cs : List Value} {x : DataW H × List MemPlace} (h : DataW.trod enc Try.prog W base spare held m 30 cs = some x) : ∃ v : V, cs = E v := by
  obtain ⟨xs, m', rfl, rfl, hl, hx, hi⟩ := DataW.trod_array Try.underlying30 h
  rw [cells30] at hl
  have key : ∀ i, i < 16 → ∃ a : Int, cs[i]? = some (.int .u8 a) := by
    intro i h16
    have h1 := hi i h16
    rw [cells5, Nat.mul_one, List.getElem?_eq_getElem (by omega)] at h1
    obtain ⟨a, ha, _⟩ := DataW.trod_int Try.underlying5 h1
    refine ⟨a, ?_⟩
    have h2 : ((cs.drop i).take 1)[0]? = some (.int .u8 a) := by rw [ha]; rfl
    simpa using h2
  obtain ⟨f, hf⟩ := Deep.choose_lt (α := Int) key
  refine ⟨Vector.ofFn fun i : Fin 16 => f i, ?_⟩
  apply List.ext_getElem?
  intro i
  by_cases h16 : i < 16
  · rw [hf i h16]
    simp [E, h16]
  · rw [List.getElem?_eq_none (by omega), List.getElem?_eq_none (by rw [E_len]; omega)]

/-- A [16]byte by value. -/
theorem open_G {r : Reach} {b0 : Nat} {v : Value} {d : DataW H} {p : List MemPlace} (hv : Value.okWide Try.prog W r b0 30 v) (h : DataW.Trod enc Try.prog W base spare held 30 v d p) : ∃ x : V, v = G x := by
  obtain ⟨cs, rfl, hsz, _⟩ : ∃ cs, v = .agg cs ∧ cs.size = Try.prog.cellsOf 30 ∧ Row.okWide Try.prog W r b0 30 cs := by
    simpa [Value.okWide, Try.underlying30] using hv
  obtain ⟨fuel, hf⟩ := h
  obtain ⟨x, hx⟩ := to_V hf
  refine ⟨x, ?_⟩
  unfold G
  rw [← hx]
  simp [Value.cells]

/-- A [][16]byte. -/
theorem open_Rd {a : Option Addr} {n c : Nat} {d : DataW H} {p : List MemPlace} (h : DataW.Trod enc Try.prog W 0 spare held 22 (.slice a n c) d p) : ∃ xs : List V, Rd W a n xs := by
  obtain ⟨fuel, hf⟩ := h
  rcases Deep.open_slice Try.underlying22 hf with ⟨hcs, _⟩ | ⟨ad, len, cap, m, n', D, Pl, hcs, _, hlc, _, hm, _, hx⟩
  · simp [Value.cells] at hcs
    obtain ⟨rfl, rfl, rfl⟩ := hcs
    exact ⟨[], Rd.nil _ _⟩
  · simp [Value.cells] at hcs
    obtain ⟨rfl, rfl, rfl⟩ := hcs
    have hnm : n ≤ m := by rw [hm]; split <;> omega
    have key : ∀ i, i < n → ∃ v : V, ∀ j u, (E v)[j]? = some u → W.cell? (ad.add (i * 16 + j)) = some u := by
      intro i hi
      obtain ⟨cs', h1, h2⟩ := hx i (by omega)
      obtain ⟨v, rfl⟩ := to_V h2
      rw [cells30] at h1
      obtain ⟨_, hl, hc⟩ := World.cells?_some h1
      refine ⟨v, fun j u hu => ?_⟩
      have hj : j < 16 := by have := (List.getElem?_eq_some_iff.1 hu).1; rwa [E_len] at this
      rw [← Deep.add_add, hc j hj, hu]
    obtain ⟨f, hf'⟩ := Deep.choose_lt (α := V) key
    refine ⟨(List.range n).map f, by simp, fun j hj => ?_⟩
    have hj' : j < n := by simpa using hj
    have h0 : (E (f 0))[0]? = some ((E (f 0))[0]'(by rw [E_len]; omega)) := List.getElem?_eq_getElem _
    have hc0 := hf' 0 (by omega) 0 _ h0
    have hsp : ad = ⟨ad.block, ad.off, none⟩ := by
      have hspot : ad.spot = none := by simpa [Addr.add] using World.cell?_spot hc0
      obtain ⟨b, o, s⟩ := ad
      simp only at hspot
      rw [hspot]
    refine ⟨ad.block, ad.off, congrArg some hsp, fun i u hu => ?_⟩
    have h1 := hf' j hj' i u (by simpa using hu)
    rw [hsp, Addr.add_mid] at h1
    rw [Nat.add_assoc]
    exact h1
end

end Go.Proofs.Qxb6619637a
