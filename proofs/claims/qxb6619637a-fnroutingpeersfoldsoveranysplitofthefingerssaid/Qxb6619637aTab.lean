/-
  Seat b6619637a: ZZNewTable, slices.Clone at IDs, RoutingPeers. Our own text.
-/
import Derived.Test.Qxb6619637aSet
namespace Go.Proofs.Qxb6619637a
open Go.RowKit
set_option linter.unusedSimpArgs false
set_option linter.unusedVariables false

theorem list16 {α : Type} (l : List α) (h : l.length = 16) : ∃ c0 c1 c2 c3 c4 c5 c6 c7 c8 c9 c10 c11 c12 c13 c14 c15, l = [c0, c1, c2, c3, c4, c5, c6, c7, c8, c9, c10, c11, c12, c13, c14, c15] := by
  match l, h with
  | [c0, c1, c2, c3, c4, c5, c6, c7, c8, c9, c10, c11, c12, c13, c14, c15], _ => exact ⟨c0, c1, c2, c3, c4, c5, c6, c7, c8, c9, c10, c11, c12, c13, c14, c15, rfl⟩
/-- The cells of a Table. -/
def tabCells (s : V) (a : Option Addr) (n c : Nat) (b : Option Addr) (m d : Nat) (mv : Int) : Array Value := (E s ++ [Value.slice a n c, Value.slice b m d, Value.int .u64 mv]).toArray
theorem run_build45 (s : V) (a : Option Addr) (n c : Nat) (b : Option Addr) (m d : Nat) (mv : Int) (w : World) :
    (Instr.build 45 #[(0, G s), (1, .slice a n c), (2, .slice b m d), (3, .int .u64 mv)]).run Try.prog w = .ok (.agg (tabCells s a n c b m d mv)) w := by
  unfold G tabCells
  obtain ⟨c0, c1, c2, c3, c4, c5, c6, c7, c8, c9, c10, c11, c12, c13, c14, c15, h⟩ := list16 (E s) (E_len s)
  rw [h]
  kernel_rfl
theorem wpList_bt {ops : Array Oper} {rest : List Oper} {op : Oper} {ac : Act} {w : World} {Q : Exit → Act → World → Prop} (hgd : op.guard = none) (x0 x1 x2 x3 : Operand) (ho : op.op = .build 45 #[(0, x0), (1, x1), (2, x2), (3, x3)])
    (s : V) (a : Option Addr) (n c : Nat) (b : Option Addr) (m d : Nat) (mv : Int) (h0 : ac.eval x0 = G s) (h1 : ac.eval x1 = .slice a n c) (h2 : ac.eval x2 = .slice b m d) (h3 : ac.eval x3 = .int .u64 mv)
    (h : wpList Try.prog ops Q rest (ac.put op.dst (.agg (tabCells s a n c b m d mv))) w) : wpList Try.prog ops Q (op :: rest) ac w := by
  refine wpList_plain hgd fun K hK => ?_
  have e : (#[(0, x0), (1, x1), (2, x2), (3, x3)] : Array (Nat × Operand)).map (fun (p : Nat × Operand) => (p.1, ac.eval p.2)) = #[(0, G s), (1, .slice a n c), (2, .slice b m d), (3, .int .u64 mv)] := by simp [h0, h1, h2, h3]
  unfold Oper.wp execOp
  simp only [ho]
  rw [e, Sem.run_bind, run_build45]
  exact hK _ _ h
/-- A box of a Table. -/
theorem wpList_bxt {ops : Array Oper} {rest : List Oper} {op : Oper} {ac : Act} {w : World} {Q : Exit → Act → World → Prop} (hgd : op.guard = none) (x : Operand) (ho : op.op = .box 45 x)
    (cs : Array Value) (hx : ac.eval x = .agg cs)
    (h : ∀ w', w'.heap[w.heap.size]? = some (.cells cs 45 (0, 0)) → w.grownBy w' none → wpList Try.prog ops Q rest (ac.put op.dst (.pointer (some ⟨w.heap.size, 0, none⟩))) w') : wpList Try.prog ops Q (op :: rest) ac w := by
  refine wpList_plain hgd fun K hK => ?_
  unfold Oper.wp execOp
  simp only [ho, hx, Instr.box]
  exact hK _ _ (h (w.alloc (.cells cs 45)) (heap_alloc_new _ _) (World.grownBy_alloc _ _ _))

/-- A Table lies there: its two lists. -/
def IsTab (w : World) (g : Nat) (a : Option Addr) (n c : Nat) (b : Option Addr) (m d : Nat) : Prop := w.cell? ⟨g, 16, none⟩ = some (.slice a n c) ∧ w.cell? ⟨g, 17, none⟩ = some (.slice b m d)

set_option maxHeartbeats 1000000 in
theorem newTab_any (s : V) (a : Option Addr) (n c : Nat) (b : Option Addr) (m d : Nat) (mv : Int) (w : World) :
    Calls Try.prog 17 #[G s, .slice a n c, .slice b m d, .int .u64 mv] w fun e w' => ∃ g, e = .returned (.pointer (some ⟨g, 0, none⟩)) ∧ IsTab w' g a n c b m d ∧ Below w.heap.size w w' := by
  go_enter Try.func17, Try.ntmps17
  go_wp2_with (first
    | (refine wpList_bx rfl 36 _ rfl s rfl ?_; intro w1 hbox hgr; have hbx : w1.rangeAt w.heap.size 0 (E s) := by { have hbx := hbox.at 0 (by simp); simpa using hbx })
    | (refine wpList_ld rfl 36 _ rfl _ _ s (.inr rfl) hbx rfl ?_)
    | (refine wpList_bt rfl _ _ _ _ rfl s a n c b m d mv rfl rfl rfl rfl ?_)
    | (refine wpList_bxt rfl _ rfl _ rfl ?_; intro w2 hh hgr2))
  go_ret
  refine ⟨_, rfl, ⟨?_, ?_⟩, bone ((Below.refl _ _).grown hgr (Nat.le_refl _) (by simp)) hgr2 (Nat.le_refl _) (by simp)⟩
  · rw [cell_of_row _ _ _ _ _ _ hh]
    simp [tabCells, List.getElem?_append, E_len]
  · rw [cell_of_row _ _ _ _ _ _ hh]
    simp [tabCells, List.getElem?_append, E_len]

/-! ### slices.Clone -/
theorem own_rd {w : World} {B n : Nat} {v : Value} {xs : List V} (h : w.ownsRow B 36 16 v n (flat xs)) : xs.length = n ∧ ∃ a c, v = .slice a n c ∧ Rd w a n xs := by
  have hl : xs.length = n := by have := h.1; rw [flat_len] at this; omega
  refine ⟨hl, ?_⟩
  rcases h.2 with ⟨rfl, rfl⟩ | ⟨g, cap, cur, rfl, _, hh, hnc, _, hs, ht⟩
  · have : xs = [] := List.eq_nil_of_length_eq_zero hl
    subst this; exact ⟨none, 0, rfl, Rd.nil _ _⟩
  · refine ⟨_, cap, rfl, hl, fun j hj => ⟨g, 0, rfl, fun i u hu => ?_⟩⟩
    have hi : i < 16 := by have := (List.getElem?_eq_some_iff.1 hu).1; rwa [E_len] at this
    have h1 := flat_get xs j hj i hi
    rw [hu, ← ht] at h1
    rw [Nat.zero_add, cell_of_row _ _ _ _ _ _ hh, ← Array.getElem?_toList]
    rw [List.getElem?_take] at h1
    split at h1
    · exact h1
    · cases h1
/-- The cells that a slice reads as, in a row. -/
theorem Rd.cells {w : World} {ad : Addr} {n : Nat} {xs : List V} (h : Rd w (some ad) n xs) : ∀ j u, (flat xs)[j]? = some u → w.cell? (ad.add j) = some u := by
  intro j u hu
  have hj : j < xs.length * 16 := by have := (List.getElem?_eq_some_iff.1 hu).1; rwa [flat_len] at this
  have hq : j / 16 < xs.length := by omega
  obtain ⟨b, o, e, hr⟩ := h.2 (j / 16) hq
  simp only [Option.some.injEq] at e
  subst e
  have e2 : j = j / 16 * 16 + j % 16 := (Nat.div_add_mod' j 16).symm
  have h1 := flat_get xs (j / 16) hq (j % 16) (by omega)
  rw [← e2, hu] at h1
  have h2 := hr (j % 16) u h1.symm
  rw [Addr.add_mid]
  rw [show o + j = o + j / 16 * 16 + j % 16 by omega]
  exact h2

set_option maxHeartbeats 1000000 in
theorem sclone_any (a : Option Addr) (n c : Nat) (xs : List V) (w : World) (hr : Rd w a n xs) (hn : n ≤ 4096) :
    Calls Try.prog 29 #[.slice a n c] w fun e w' => ∃ v, e = .returned v ∧ w'.ownsRow w.heap.size 36 16 v n (flat xs) ∧ Below w.heap.size w w' := by
  have hnil := fun wx => Lib.run_eql_slice_nil (P := Try.prog) wx 26 36 a n c 0 0 Try.underlying26
  have hl := hr.1
  cases a with
  | none =>
    obtain ⟨rfl, rfl⟩ := hr.isNil
    go_enter Try.func29, Try.ntmps29
    go_wp2
    go_ret
    exact ⟨_, rfl, World.ownsRow_nil _ _ _ _, Below.refl _ _⟩
  | some ad =>
    obtain ⟨i0, hi, hz0, hz1, hz2⟩ := info_parts full36
    go_enter Try.func29, Try.ntmps29
    have hmade := World.ownsRow_made (base := w.heap.size) (e := 36) (size := 16) w #[] 0 (Nat.le_refl _) (Nat.zero_le _) (by simp)
    have hcs := (hr.alloc (.cells #[] 36)).cells
    have hzs : (Value.agg (List.replicate 16 (Value.int .u8 0)).toArray).cells.size = 16 := by simp [Value.cells]
    go_wp2_with (at_builtin; refine wpList_append_own _ rfl _ _ 26 rfl w.heap.size 36 i0 _ 16 16 Try.underlying26 hi hz0 hz1 hz2 hzs (by decide) (.slice (some ⟨w.heap.size, 0, none⟩) 0 0) 0 [] rfl hmade ad n c (flat xs) rfl (by rw [flat_len]; omega) hcs (flat_one xs) (by unfold maxLen; omega) (by omega) (by simp) ?_; intro v' w1 hown hgrow _)
    rw [Nat.zero_add, List.nil_append] at hown
    go_ret
    refine ⟨_, rfl, hown, bone ((Below.refl _ _).alloc (Nat.le_refl _) _) hgrow (Nat.le_refl _) (by simp [Value.ownBlock])⟩

/-! ### RoutingPeers -/
/-- RoutingPeers, plainly: each finger that is not yet there is laid behind. -/
def rp (xs ys : List V) : List V := ys.foldl (fun acc y => if hasV acc y then acc else acc ++ [y]) xs
theorem rp_nil (xs : List V) : rp xs [] = xs := rfl
theorem rp_cons (xs ys : List V) (y : V) : rp xs (y :: ys) = rp (if hasV xs y then xs else xs ++ [y]) ys := rfl
theorem rp_snoc (xs ys : List V) (y : V) : rp xs (ys ++ [y]) = if hasV (rp xs ys) y then rp xs ys else rp xs ys ++ [y] := by
  unfold rp; rw [List.foldl_append]; rfl
theorem rp_len (xs ys : List V) : (rp xs ys).length ≤ xs.length + ys.length := by
  induction ys generalizing xs with
  | nil => simp [rp]
  | cons y ys ih =>
    rw [rp_cons]
    have := ih (if hasV xs y then xs else xs ++ [y])
    have h2 : (if hasV xs y then xs else xs ++ [y]).length ≤ xs.length + 1 := by split <;> simp
    simp only [List.length_cons]
    omega
theorem take_snocV (ys : List V) (k : Nat) (h : k < ys.length) : ys.take (k + 1) = ys.take k ++ [ys[k]] := List.take_succ_eq_append_getElem h

theorem own_kept {w w' : World} {B n : Nat} {v : Value} {xs : List Value} (h : w.ownsRow B 36 16 v n xs) (hb : Below w.heap.size w w') : w'.ownsRow B 36 16 v n xs :=
  h.kept (row := none) ⟨hb.os, hb.tape, hb.output, hb.size, fun k hk _ => hb.block k hk⟩ (by cases hv : v.ownBlock <;> simp)
theorem flat_snoc (xs : List V) (y : V) : flat (xs ++ [y]) = flat xs ++ E y := by simp [flat]

set_option maxHeartbeats 1000000 in
theorem routing_any (g : Nat) (a : Option Addr) (n c : Nat) (b : Option Addr) (m d : Nat) (xs ys : List V) (w : World) (ht : IsTab w g a n c b m d) (hr : Rd w a n xs) (hr2 : Rd w b m ys) (hn : n ≤ 4096) (hm : m ≤ 4096) :
    Calls Try.prog 18 #[.pointer (some ⟨g, 0, none⟩)] w fun e w' => ∃ a' c', e = .returned (.slice a' (rp xs ys).length c') ∧ Rd w' a' (rp xs ys).length (rp xs ys) ∧ Below w.heap.size w w' := by
  have hl := hr.1
  have hl2 := hr2.1
  obtain ⟨t1, t2⟩ := ht
  have hgl : g < w.heap.size := block_lt_of_cell t1
  obtain ⟨i0, hi, hz0, hz1, hz2⟩ := info_parts full36
  have hzs : (Value.agg (List.replicate 16 (Value.int .u8 0)).toArray).cells.size = 16 := by simp [Value.cells]
  go_enter Try.func18, Try.ntmps18
  go_wp2_with (go_at_call 29; refine (sclone_any a n c xs w hr hn).mono ?_; rintro e w1 ⟨v, rfl, hown, hb1⟩; have t2' : w1.cell? ⟨g, 17, none⟩ = some (.slice b m d) := (hb1.cell (p := ⟨g, 17, none⟩) hgl).trans t2)
  go_loopw [3, 16] (fun s3 i wr => ∃ (k : Nat) (v : Value), k ≤ m ∧ i = .int .i64 k ∧ s3 = v ∧ wr.ownsRow w.heap.size 36 16 v (rp xs (ys.take k)).length (flat (rp xs (ys.take k))) ∧ Below w.heap.size w wr) (fun _ i _ => m - (intOf i).toNat)
  case atStart => exact ⟨0, v, Nat.zero_le _, rfl, rfl, by rw [List.take_zero, rp_nil, hl]; exact hown, hb1⟩
  case round =>
    clear hown hb1 t2'
    obtain ⟨k, u, hk, rfl, rfl, hown, hbel⟩ := hrel
    have hlen := rp_len xs (ys.take k)
    have htk : (ys.take k).length ≤ k := List.length_take_le _ _
    by_cases hlt : k < m
    · obtain ⟨bb, o, rfl, hrng⟩ := (hr2.kept hbel).at k hlt
      have hkx : k < ys.length := by omega
      have hx := hrng k hkx
      have HS : Hid (rp xs (ys.take (k + 1)) = if hasV (rp xs (ys.take k)) ys[k] then rp xs (ys.take k) else rp xs (ys.take k) ++ [ys[k]]) := by
        rw [Hid, take_snocV ys k hkx, rp_snoc]
      generalize ys[k] = y at hx HS
      generalize rp xs (ys.take k) = acc at hown hlen HS
      obtain ⟨hal, a1, c1, rfl, hra⟩ := own_rd hown
      cases hq : hasV acc y with
      | true =>
        rw [hq] at HS
        have HT : Hid (rp xs (ys.take (k + 1)) = acc) := HS.out.trans (if_pos rfl)
        clear HS
        go_wp2_with (first
          | (refine wpList_ld rfl 36 _ rfl _ _ y (.inr rfl) hx rfl ?_)
          | (refine wpList_al rfl 36 rfl (.inr rfl) ?_; intro w2 hbox2 hgr2)
          | (refine wpList_st rfl 36 _ _ rfl wr.heap.size 0 y 36 [Z] (.inr rfl) hbox2 (by simp) rfl rfl ?_; intro w3 hbox3 hgr3; have hB : Below wr.heap.size wr w3 := bone ((Below.refl _ _).grown hgr2 (Nat.le_refl _) (by simp)) hgr3 (Nat.le_refl _) (by simp); have hbx : w3.rangeAt wr.heap.size 0 (E y) := by { have hbx := hbox3.at 0 (by simp); simpa using hbx })
          | (refine wpList_ld rfl 36 _ rfl _ _ y (.inr rfl) hbx rfl ?_)
          | (go_at_call 30; refine (contains_any a1 _ c1 acc y w3 (hra.kept hB) (by omega)).mono ?_; rintro e w4 ⟨rfl, hb4⟩))
        go_roundw
        case rel => exact ⟨k + 1, _, by omega, by go_num, rfl, by rw [HT.out]; exact own_kept (own_kept hown hB) hb4, bstep (bstep hbel hB) hb4⟩
        case measure => simp [intOf]; omega
      | false =>
        rw [hq] at HS
        have HT : Hid (rp xs (ys.take (k + 1)) = acc ++ [y]) := HS.out.trans (if_neg (by simp))
        clear HS
        go_wp2_with (first
          | (refine wpList_ld rfl 36 _ rfl _ _ y (.inr rfl) hx rfl ?_)
          | (refine wpList_al rfl 36 rfl (.inr rfl) ?_; intro w2 hbox2 hgr2)
          | (refine wpList_st rfl 36 _ _ rfl wr.heap.size 0 y 36 [Z] (.inr rfl) hbox2 (by simp) rfl rfl ?_; intro w3 hbox3 hgr3; have hB : Below wr.heap.size wr w3 := bone ((Below.refl _ _).grown hgr2 (Nat.le_refl _) (by simp)) hgr3 (Nat.le_refl _) (by simp); have hbx : w3.rangeAt wr.heap.size 0 (E y) := by { have hbx := hbox3.at 0 (by simp); simpa using hbx })
          | (refine wpList_ld rfl 36 _ rfl _ _ y (.inr rfl) hbx rfl ?_)
          | (go_at_call 30; refine (contains_any a1 _ c1 acc y w3 (hra.kept hB) (by omega)).mono ?_; rintro e w4 ⟨rfl, hb4⟩; have hbx4 : w4.rangeAt wr.heap.size 0 (E y) := by { have hbx := (hbox3.kept hb4 hbox3.lt).at 0 (by simp); simpa using hbx }; have hown4 := own_kept (own_kept hown hB) hb4)
          | (refine wpList_ld rfl 36 _ rfl _ _ y (.inr rfl) hbx4 rfl ?_)
          | (refine wpList_bs rfl 26 36 (.inr ⟨rfl, rfl⟩) _ rfl y rfl ?_; intro w5 hlit hgr5; have hB5 : Below w4.heap.size w4 w5 := (Below.refl _ _).grown hgr5 (Nat.le_refl _) (by simp); have hown5 := own_kept hown4 hB5; have hc5 : ∀ j u, (E y)[j]? = some u → w5.cell? ((⟨w4.heap.size, 0, none⟩ : Addr).add j) = some u := by { intro j u hu; rw [Addr.add_mid]; exact (by simpa using hlit.at 0 (by simp) : w5.rangeAt w4.heap.size 0 (E y)) j u hu }; have hz5 : w.heap.size ≤ w5.heap.size := Nat.le_trans hbel.size (Nat.le_trans hB.size (Nat.le_trans hb4.size hB5.size)))
          | (at_builtin; refine wpList_append_own _ rfl _ _ 26 rfl w.heap.size 36 i0 _ 16 16 Try.underlying26 hi hz0 hz1 hz2 hzs (by decide) (.slice a1 acc.length c1) acc.length (flat acc) rfl hown5 ⟨w4.heap.size, 0, none⟩ 1 1 (E y) rfl (by rw [E_len]) hc5 (E_one y) (by unfold maxLen; omega) (by omega) hz5 ?_; intro v' w6 hown6 hgrow6 _))
        have hb6 : Below w.heap.size w w6 := bone (bstep (bstep (bstep hbel hB) hb4) hB5) hgrow6 (Nat.le_refl _) (fun q hq => (hown5.lt q hq).1)
        go_roundw
        case rel => exact ⟨k + 1, v', by omega, by go_num, rfl, by rw [HT.out, flat_snoc, List.length_append]; exact hown6, hb6⟩
        case measure => simp [intOf]; omega
    · have hkm : k = ys.length := by omega
      rw [hkm, List.take_length] at hown
      obtain ⟨_, a1, c1, rfl, hra⟩ := own_rd hown
      go_wp2
      go_ret
      first | exact ⟨a1, c1, rfl, hra, hbel⟩ | exact ⟨a1, ⟨c1, rfl⟩, hra, hbel⟩

end Go.Proofs.Qxb6619637a
