/-
  Seat b6623312a: laws for zzEncodeToken's regions that draw: the digits, the slice literal, the append. Our own text.
-/
import Derived.Test.Qxb6623312aCopy
import Derived.Great.BuildSlice
import Derived.RegionTactic
namespace Go.Proofs.Qxb6623312a
open Go.RowKit
set_option linter.unusedSimpArgs false
set_option linter.unusedVariables false

theorem and_byte {c : Int} (h0 : 0 ≤ c) (h1 : c ≤ 255) : bits BinOp.and IntKind.u8 c 15 = c % 16 := by
  have key : ∀ n : Fin 256, bits BinOp.and IntKind.u8 ((n.val : Nat) : Int) 15 = ((n.val : Nat) : Int) % 16 := by decide +kernel
  have := key ⟨c.toNat, by omega⟩
  simp only at this
  rwa [show ((c.toNat : Nat) : Int) = c by omega] at this
theorem run_shr {c : Int} (h0 : 0 ≤ c) (h1 : c ≤ 255) (w : World) : (binOp .shr 5 (.int .u8 c) (.int .u64 4)).run Try.prog w = .ok (.int .u8 (c / 16)) w := by
  have key : ∀ n : Fin 256, (binOp .shr 5 (.int .u8 ((n.val : Nat) : Int)) (.int .u64 4)) = pure (.int .u8 (((n.val : Nat) : Int) / 16)) := by
    intro n
    simp [go_sem]
  have := key ⟨c.toNat, by omega⟩
  simp only at this
  rw [show ((c.toNat : Nat) : Int) = c by omega] at this
  rw [this]
  rfl
theorem exec_shr {a : Act} {op : Oper} (x y : Operand) (ho : op.op = .binOp .shr 5 x y 29) (c : Int) (hx : a.eval x = .int .u8 c) (hy : a.eval y = .int .u64 4) (h0 : 0 ≤ c) (h1 : c ≤ 255) (w : World) : (execOp a.eval op).run Try.prog w = .ok (.value (.int .u8 (c / 16))) w := by
  unfold execOp
  simp only [ho, hx, hy]
  simp only [eqGuard, Sem.run_bind, Sem.run_pure, Result.andThen_ok, run_shr h0 h1]
  rfl
theorem run_and {c : Int} (h0 : 0 ≤ c) (h1 : c ≤ 255) (w : World) : (binOp .and 5 (.int .u8 c) (.int .u8 15)).run Try.prog w = .ok (.int .u8 (c % 16)) w := by
  simp [go_sem, and_byte h0 h1]
theorem exec_and {a : Act} {op : Oper} (x y : Operand) (ho : op.op = .binOp .and 5 x y 5) (c : Int) (hx : a.eval x = .int .u8 c) (hy : a.eval y = .int .u8 15) (h0 : 0 ≤ c) (h1 : c ≤ 255) (w : World) : (execOp a.eval op).run Try.prog w = .ok (.value (.int .u8 (c % 16))) w := by
  unfold execOp
  simp only [ho, hx, hy]
  simp only [eqGuard, Sem.run_bind, Sem.run_pure, Result.andThen_ok, run_and h0 h1]
  rfl
def digL : ByteArray := ⟨#[48, 49, 50, 51, 52, 53, 54, 55, 56, 57, 97, 98, 99, 100, 101, 102]⟩
def digU : ByteArray := ⟨#[48, 49, 50, 51, 52, 53, 54, 55, 56, 57, 65, 66, 67, 68, 69, 70]⟩
theorem dig_size {d : ByteArray} {f : Int → Int} (hd : (d = digL ∧ f = hexL) ∨ (d = digU ∧ f = hexU)) : d.size = 16 := by
  rcases hd with ⟨rfl, rfl⟩ | ⟨rfl, rfl⟩ <;> rfl
theorem dig_at {d : ByteArray} {f : Int → Int} (hd : (d = digL ∧ f = hexL) ∨ (d = digU ∧ f = hexU)) (n : Nat) (h : n < d.size) : ((d[n]'h).toNat : Int) = f (n : Int) := by
  have h16 : n < 16 := by rw [dig_size hd] at h; exact h
  have k1 : ∀ m : Fin 16, ((digL[m.val]'(by have := m.isLt; exact this)).toNat : Int) = hexL ((m.val : Nat) : Int) := by decide +kernel
  have k2 : ∀ m : Fin 16, ((digU[m.val]'(by have := m.isLt; exact this)).toNat : Int) = hexU ((m.val : Nat) : Int) := by decide +kernel
  rcases hd with ⟨rfl, rfl⟩ | ⟨rfl, rfl⟩
  · exact k1 ⟨n, h16⟩
  · exact k2 ⟨n, h16⟩
theorem run_dig {d : ByteArray} {f : Int → Int} (hd : (d = digL ∧ f = hexL) ∨ (d = digU ∧ f = hexU)) {q : Int} (h0 : 0 ≤ q) (h1 : q < 16) (w : World) :
    (Instr.index 9 (.string d) (.int .u8 q)).run Try.prog w = .ok (.int .u8 (f q)) w := by
  obtain ⟨n, rfl⟩ : ∃ n : Nat, q = (n : Int) := ⟨q.toNat, by omega⟩
  have hs := dig_size hd
  have hn : n < d.size := by omega
  have hu := Try.underlying9
  have := dig_at hd n hn
  simp [go_sem, hn, this]
theorem exec_dig {a : Act} {op : Oper} (d : ByteArray) (f : Int → Int) (hd : (d = digL ∧ f = hexL) ∨ (d = digU ∧ f = hexU)) (x y : Operand) (ho : op.op = .index 9 x y) (q : Int) (hx : a.eval x = .string d) (hy : a.eval y = .int .u8 q) (h0 : 0 ≤ q) (h1 : q < 16) (w : World) :
    (execOp a.eval op).run Try.prog w = .ok (.value (.int .u8 (f q))) w := by
  unfold execOp
  simp only [ho, hx, hy, Sem.run_bind, run_dig hd h0 h1, Result.andThen_ok, Sem.run_pure]

theorem run_bs3 (x y : Int) (w : World) : (Instr.buildSlice 22 3 #[(0, .int .u8 37), (1, .int .u8 x), (2, .int .u8 y)]).run Try.prog w = .ok (.slice (some ⟨w.heap.size, 0, none⟩) 3 3) (w.alloc (.cells #[.int .u8 37, .int .u8 x, .int .u8 y] 5)) := by kernel_rfl
theorem step_bs3 {ops : Array Oper} {op : Oper} {a : Act} {w : World} {K : Act → World → Prop} {Q : Exit → Act → World → Prop} {F : Prop} (hg : op.guard = none) (x0 x1 x2 : Operand) (ho : op.op = .buildSlice 22 3 #[(0, x0), (1, x1), (2, x2)]) (x y : Int)
    (h0 : a.eval x0 = .int .u8 37) (h1 : a.eval x1 = .int .u8 x) (h2 : a.eval x2 = .int .u8 y)
    (h : K (a.put op.dst (.slice (some ⟨w.heap.size, 0, none⟩) 3 3)) (w.alloc (.cells #[.int .u8 37, .int .u8 x, .int .u8 y] 5))) : if Region.wanted op (yielded ops a.tmps) = true then Oper.wp Try.prog op a w K Q else F := by
  rw [if_pos (by simp [Region.wanted, hg])]
  have e : (#[(0, x0), (1, x1), (2, x2)] : Array (Nat × Operand)).map (fun (p : Nat × Operand) => (p.1, a.eval p.2)) = #[(0, .int .u8 37), (1, .int .u8 x), (2, .int .u8 y)] := by simp [h0, h1, h2]
  unfold Oper.wp execOp
  simp only [ho]
  rw [e, Sem.run_bind, run_bs3]
  exact h
theorem full5 : (Try.prog.info? 5).map (fun i => (i.zero, i.size, i.bytes)) = some (some (.int .u8 0), 1, 1) := by kernel_rfl
/-- append within the capacity, as one step of a region that draws. -/
theorem step_app {ops : Array Oper} {op : Oper} {a : Act} {w : World} {K : Act → World → Prop} {Q : Exit → Act → World → Prop} {F : Prop} (hg : op.guard = none) (s x : Operand)
    (ho : op.op = .call { callee := .builtin .append, args := #[s, x], argTypes := #[22, 22] }) (base g k cap : Nat) (xs : List Value) (hs : a.eval s = .slice (some ⟨g, 0, none⟩) k cap) (hown : w.ownsRow base 5 1 (.slice (some ⟨g, 0, none⟩) k cap) k xs)
    (ad : Addr) (m c : Nat) (news : List Value) (hx : a.eval x = .slice (some ad) m c) (hn : news.length = m * 1) (hc : ∀ j u, news[j]? = some u → w.cell? (ad.add j) = some u) (h1c : ∀ u ∈ news, u.oneCell' = true) (b1 : k + m ≤ cap)
    (h : ∀ w', w'.ownsRow base 5 1 (.slice (some ⟨g, 0, none⟩) (k + m) cap) (k + m) (xs ++ news) → w.grownBy w' (some g) → K (a.put op.dst (.slice (some ⟨g, 0, none⟩) (k + m) cap)) w') : if Region.wanted op (yielded ops a.tmps) = true then Oper.wp Try.prog op a w K Q else F := by
  rw [if_pos (by simp [Region.wanted, hg])]
  obtain ⟨i0, hi, hz0, hz1, hz2⟩ := info_parts full5
  obtain ⟨w', hrun, r1, r2⟩ := run_append_fits (P := Try.prog) w base 22 op.type 5 i0 1 Try.underlying22 hi hz1 g k cap xs hown ad m c news hn hc h1c b1
  unfold Oper.wp
  simp [execOp, ho, resolve, invoke, builtin, hs, hx, hrun, Result.andThen]
  exact h w' r1 r2

end Go.Proofs.Qxb6623312a
