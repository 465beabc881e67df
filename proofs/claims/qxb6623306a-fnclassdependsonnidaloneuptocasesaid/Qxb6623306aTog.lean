/-
  Seat b6623306a: zzToggleCase: the walk. Our own text.
-/
import Derived.Test.Qxb6623306aCls
namespace Go.Proofs.Qxb6623306a
open Go.RowKit
set_option linter.unusedSimpArgs false
set_option linter.unusedVariables false

/-- A string out of bytes. -/
def mk (ys : List Int) : ByteArray := ys.foldl (fun r n => r.push (UInt8.ofNat n.toNat)) ByteArray.empty
theorem L_push (r : ByteArray) (c : UInt8) : L (r.push c) = L r ++ [(c.toNat : Int)] := by
  cases r; simp [L, ByteArray.push]
theorem L_fold : ∀ (ys : List Int) (r : ByteArray), (∀ y ∈ ys, 0 ≤ y ∧ y ≤ 255) → L (ys.foldl (fun r n => r.push (UInt8.ofNat n.toNat)) r) = L r ++ ys
  | [], r, _ => by simp
  | y :: ys, r, h => by
    have hy := h y (by simp)
    rw [List.foldl_cons, L_fold ys _ (fun z hz => h z (by simp [hz])), L_push]
    have : ((UInt8.ofNat y.toNat).toNat : Int) = y := by
      rw [UInt8.toNat_ofNat']; omega
    rw [this]; simp
theorem L_mk {ys : List Int} (h : ∀ y ∈ ys, 0 ≤ y ∧ y ≤ 255) : L (mk ys) = ys := by
  unfold mk; rw [L_fold ys _ h]; rfl
theorem size_mk {ys : List Int} (h : ∀ y ∈ ys, 0 ≤ y ∧ y ≤ 255) : (mk ys).size = ys.length := by rw [← L_len, L_mk h]

/-- Block g holds just these bytes. -/
def Row1 (w : World) (g : Nat) (ys : List Int) : Prop := w.heap[g]? = some (.cells (ys.map (Value.int .u8)).toArray 5 (0, 0))
theorem info5 : (Try.prog.info? 5).map (·.size) = some 1 := by kernel_rfl
theorem full5 : (Try.prog.info? 5).map (fun i => (i.zero, i.size, i.bytes)) = some (some (.int .u8 0), 1, 1) := by kernel_rfl

theorem made_row (n : Nat) : (madeCells #[Value.int .u8 0] n).toList = (List.replicate n (0 : Int)).map (Value.int .u8) := by
  apply List.ext_getElem?
  intro t
  by_cases ht : t < n
  · simp [madeCells, Value.cells, ht, Nat.mod_one]
  · rw [List.getElem?_eq_none (by simp [madeCells]; omega), List.getElem?_eq_none (by simp; omega)]
theorem row1_of_own {w : World} {base g n : Nat} {ys : List Int} (h : w.ownsRow base 5 1 (.slice (some ⟨g, 0, none⟩) n n) n (ys.map (Value.int .u8))) : Row1 w g ys := by
  rcases h.2 with ⟨h, _⟩ | ⟨g', cap, cur, hv, _, hh, _, _, hs, ht⟩
  · cases h
  · simp only [Value.slice.injEq, Option.some.injEq, Addr.mk.injEq, true_and, and_true] at hv
    obtain ⟨rfl, rfl⟩ := hv
    rw [List.take_of_length_le (by simp [hs])] at ht
    unfold Row1
    rw [hh, ← ht]
theorem Row1.lt {w : World} {g : Nat} {ys : List Int} (h : Row1 w g ys) : g < w.heap.size := (Array.getElem?_eq_some_iff.1 h).1
/-- One byte stored. -/
theorem wpList_st1 {ops : Array Oper} {rest : List Oper} {op : Oper} {a : Act} {w : World} {Q : Exit → Act → World → Prop} (hgd : op.guard = none) (x y : Operand) (ho : op.op = .store 5 x y)
    (g j : Nat) (v : Int) (ys : List Int) (hrow : Row1 w g ys) (hj : j < ys.length) (hx : a.eval x = .pointer (some ⟨g, j, none⟩)) (hy : a.eval y = .int .u8 v)
    (h : ∀ w', Row1 w' g (ys.set j v) → w.grownBy w' (some g) → wpList Try.prog ops Q rest (a.put op.dst undef) w') : wpList Try.prog ops Q (op :: rest) a w := by
  refine wpList_plain hgd fun K hK => ?_
  have hs := run_storeCells_at Try.prog g j 5 [Value.int .u8 v] 0 (ys.map (Value.int .u8)).toArray w hrow (by simp; omega) (by simp; rfl)
  have e : (List.take j (ys.map (Value.int .u8)).toArray.toList ++ [Value.int .u8 v] ++ List.drop (j + 1) (ys.map (Value.int .u8)).toArray.toList) = (ys.set j v).map (Value.int .u8) := by
    simp only [List.toList_toArray]
    rw [List.map_set, List.set_eq_take_append_cons_drop, if_pos (by simpa using hj)]
    simp
  simp only [Nat.add_zero, List.length_singleton] at hs
  rw [e] at hs
  have hst : (storeVar 5 ⟨g, j, none⟩ (.int .u8 v)).run Try.prog w = .ok () (w.setRow g ((ys.set j v).map (Value.int .u8)).toArray) := by
    cases hq : Try.prog.info? 5 with
    | none => have := info5; simp [hq] at this
    | some i =>
      have hi : i.size = 1 := by have := info5; simp [hq] at this; exact this
      simp [storeVar, sizeOf, typeInfo, hq, Value.cells, hi, hs]
  unfold Oper.wp execOp
  simp only [ho, hx, hy, Instr.storeAt, Instr.sureAddr, Sem.run_bind, Sem.run_pure, Result.andThen_ok, hst]
  exact hK _ _ (h _ (setRow_heap w g _ _ 5 _ hrow) ⟨rfl, rfl, rfl, by simp, fun k _ hk => setRow_other w g k _ (fun e => hk (by simp [e]))⟩)
/-- 'string(b)' of a row of bytes. -/
theorem wpList_cv {ops : Array Oper} {rest : List Oper} {op : Oper} {a : Act} {w : World} {Q : Exit → Act → World → Prop} (hgd : op.guard = none) (x : Operand) (ho : op.op = .convert 36 9 x)
    (g n : Nat) (ys : List Int) (hrow : Row1 w g ys) (hn : ys.length = n) (hx : a.eval x = .slice (some ⟨g, 0, none⟩) n n)
    (h : wpList Try.prog ops Q rest (a.put op.dst (.string (mk ys))) w) : wpList Try.prog ops Q (op :: rest) a w := by
  refine wpList_plain hgd fun K hK => ?_
  subst hn
  have hl : (loadCells ⟨g, 0, none⟩ ys.length).run Try.prog w = .ok (ys.map (Value.int .u8)).toArray w := by
    have := run_loadCells_list (P := Try.prog) w ⟨g, 0, none⟩ (ys.map (Value.int .u8)) (fun j v hv => by
      have hadd : (⟨g, 0, none⟩ : Addr).add j = ⟨g, j, none⟩ := by unfold Addr.add; split <;> simp_all
      rw [hadd, cell_of_row w g j _ 5 (0, 0) hrow]
      simpa using hv)
    simpa using this
  have hc := run_convert_bytes_string (P := Try.prog) w 36 9 5 (some ⟨g, 0, none⟩) ys.length ys.length Try.underlying36 Try.underlying5 Try.underlying9
  rw [run_bytesToString w ⟨g, 0, none⟩ ys.length ys.length ys hl] at hc
  unfold Oper.wp execOp
  simp only [ho, hx, Sem.run_bind, hc, Result.andThen_ok, Sem.run_pure]
  exact hK _ _ h

/-- The mask reads as these bools. -/
def Mk (w : World) (a : Option Addr) (n : Nat) (bs : List Bool) : Prop := bs.length = n ∧ ∀ j (h : j < bs.length), ∃ b o, a = some ⟨b, o, none⟩ ∧ w.cell? ⟨b, o + j, none⟩ = some (.bool bs[j])
theorem Mk.kept {w w' : World} {a : Option Addr} {n : Nat} {bs : List Bool} (h : Mk w a n bs) (hb : Below w.heap.size w w') : Mk w' a n bs :=
  ⟨h.1, fun j hj => by
    obtain ⟨b, o, e, hc⟩ := h.2 j hj
    exact ⟨b, o, e, by rw [hb.cell (p := ⟨b, _, none⟩) (block_lt_of_cell hc)]; exact hc⟩⟩

theorem tog_get {l : List Int} {bs : List Bool} {k : Nat} {c : Int} (hc : l[k]? = some c) : (tog l bs)[k]? = some (tg c (bs.getD k false)) := by
  have hk : k < l.length := (List.getElem?_eq_some_iff.1 hc).1
  have e : l[k] = c := by rw [List.getElem?_eq_getElem hk] at hc; simpa using hc
  simp [tog, hk, List.getD, e]
theorem tg_off {c : Int} {b : Bool} (h : b = false) : tg c b = c := by subst h; rfl
theorem tg_up {c : Int} {b : Bool} (h : b = true) (h1 : 97 ≤ c ∧ c ≤ 122) : tg c b = c - 32 := by subst h; unfold tg; rw [if_pos rfl, if_pos h1]
theorem tg_dn {c : Int} {b : Bool} (h : b = true) (h1 : 65 ≤ c ∧ c ≤ 90) : tg c b = c + 32 := by subst h; unfold tg; rw [if_pos rfl, if_neg (by omega), if_pos h1]
theorem tg_no {c : Int} {b : Bool} (h : b = true) (h1 : ¬ (97 ≤ c ∧ c ≤ 122)) (h2 : ¬ (65 ≤ c ∧ c ≤ 90)) : tg c b = c := by subst h; unfold tg; rw [if_pos rfl, if_neg h1, if_neg h2]

set_option maxHeartbeats 2000000 in
theorem toggle_any (s : ByteArray) (a : Option Addr) (n c : Nat) (bs : List Bool) (w : World) (hs : s.size ≤ 4194304) (hn : n ≤ 4194304) (hm : Mk w a n bs) :
    Calls Try.prog 7 #[.string s, .slice a n c] w fun e w' => ∃ t, e = .returned (.string t) ∧ L t = tog (L s) bs ∧ t.size = s.size ∧ Below w.heap.size w w' := by
  have hml := hm.1
  have hls := L_len s
  obtain ⟨i0, hi, hz0, hz1, hz2⟩ := info_parts full5
  go_enter Try.func7, Try.ntmps7
  go_wp2_with (at_make; refine wpList_make_full _ rfl _ _ 36 rfl w.heap.size 5 i0 _ 1 Try.underlying36 hi hz0 hz1 _ _ _ _ s.size rfl rfl rfl rfl (by rw [hz2]; omega) (by unfold maxLen; omega) (Nat.le_refl _) ?_)
  intro w1 hown hgrow
  rw [made_row] at hown
  have hrow0 := row1_of_own hown
  clear hown
  go_wp2
  go_loopw [6] (fun i wr => ∃ (k : Nat) (ys : List Int), k ≤ s.size ∧ i = .int .i64 k ∧ ys.length = s.size ∧ (∀ j, j < k → ys[j]? = (tog (L s) bs)[j]?) ∧ Row1 wr w.heap.size ys ∧ Below w.heap.size w wr) (fun i _ => s.size - (intOf i).toNat)
  case atStart => exact ⟨0, _, Nat.zero_le _, rfl, by simp, fun j h => by omega, hrow0, (Below.refl _ _).grown hgrow (Nat.le_refl _) (by simp)⟩
  case round =>
    clear hrow0
    obtain ⟨k, ys, hk, rfl, hyl, hys, hrow, hbel⟩ := hrel
    have HS : Hid (∀ j, j < k → ys[j]? = (tog (L s) bs)[j]?) := hys
    clear hys
    have key : ∀ (v : Int), (tog (L s) bs)[k]? = some v → k < s.size → ∀ j, j < k + 1 → (ys.set k v)[j]? = (tog (L s) bs)[j]? := fun v hv hks j hj => by
      by_cases hjk : j = k
      · subst hjk; rw [List.getElem?_set_self (by omega), hv]
      · rw [List.getElem?_set_ne (by omega)]; exact HS.out j (by omega)
    have KEY : Hid (∀ (v : Int), (tog (L s) bs)[k]? = some v → k < s.size → ∀ j, j < k + 1 → (ys.set k v)[j]? = (tog (L s) bs)[j]?) := key
    clear key
    by_cases hlt : k < s.size
    · have HG : Hid ((tog (L s) bs)[k]? = some (tg (s[k].toNat : Int) (bs.getD k false))) := tog_get (L_get s k hlt)
      have hb1 : (s[k].toNat : Int) ≤ 255 := u8_le _
      by_cases hkm : k < n
      · obtain ⟨b, o, rfl, hc⟩ := (hm.kept hbel).2 k (by omega)
        have HD : Hid (bs.getD k false = bs[k]'(by omega)) := by simp [Hid, List.getD, show k < bs.length by omega]
        cases hv : bs[k]'(by omega) with
        | false =>
          rw [hv] at hc HD
          have HT : Hid ((tog (L s) bs)[k]? = some (s[k].toNat : Int)) := by rw [Hid, HG.out, tg_off HD.out]
          clear HG
          go_wp2_with (refine wpList_st1 rfl _ _ rfl w.heap.size k (s[k].toNat : Int) ys hrow (by omega) rfl rfl ?_; intro w2 hrow2 hgr2)
          go_roundw
          case rel => exact ⟨k + 1, _, by omega, by go_num, by simpa using hyl, KEY.out _ HT.out hlt, hrow2, hbel.grown hgr2 hbel.size (by simp)⟩
          case measure => simp [intOf]; omega
        | true =>
          rw [hv] at hc HD
          by_cases u1 : 97 ≤ (s[k].toNat : Int)
          · by_cases u2 : (s[k].toNat : Int) ≤ 122
            · have HT : Hid ((tog (L s) bs)[k]? = some ((s[k].toNat : Int) - 32)) := by rw [Hid, HG.out, tg_up HD.out ⟨u1, u2⟩]
              clear HG
              go_wp2_with (refine wpList_st1 rfl _ _ rfl w.heap.size k _ ys hrow (by omega) rfl rfl ?_; intro w2 hrow2 hgr2)
              go_roundw
              case rel => exact ⟨k + 1, _, by omega, by go_num, by simpa using hyl, KEY.out _ (HT.out.trans (congrArg some (by omega))) hlt, hrow2, hbel.grown hgr2 hbel.size (by simp)⟩
              case measure => simp [intOf]; omega
            · have HT : Hid ((tog (L s) bs)[k]? = some (s[k].toNat : Int)) := by rw [Hid, HG.out, tg_no HD.out (by omega) (by omega)]
              clear HG
              go_wp2_with (refine wpList_st1 rfl _ _ rfl w.heap.size k _ ys hrow (by omega) rfl rfl ?_; intro w2 hrow2 hgr2)
              go_roundw
              case rel => exact ⟨k + 1, _, by omega, by go_num, by simpa using hyl, KEY.out _ (HT.out.trans (congrArg some (by omega))) hlt, hrow2, hbel.grown hgr2 hbel.size (by simp)⟩
              case measure => simp [intOf]; omega
          · by_cases d1 : 65 ≤ (s[k].toNat : Int)
            · by_cases d2 : (s[k].toNat : Int) ≤ 90
              · have HT : Hid ((tog (L s) bs)[k]? = some ((s[k].toNat : Int) + 32)) := by rw [Hid, HG.out, tg_dn HD.out ⟨d1, d2⟩]
                clear HG
                go_wp2_with (refine wpList_st1 rfl _ _ rfl w.heap.size k _ ys hrow (by omega) rfl rfl ?_; intro w2 hrow2 hgr2)
                go_roundw
                case rel => exact ⟨k + 1, _, by omega, by go_num, by simpa using hyl, KEY.out _ (HT.out.trans (congrArg some (by omega))) hlt, hrow2, hbel.grown hgr2 hbel.size (by simp)⟩
                case measure => simp [intOf]; omega
              · have HT : Hid ((tog (L s) bs)[k]? = some (s[k].toNat : Int)) := by rw [Hid, HG.out, tg_no HD.out (by omega) (by omega)]
                clear HG
                go_wp2_with (refine wpList_st1 rfl _ _ rfl w.heap.size k _ ys hrow (by omega) rfl rfl ?_; intro w2 hrow2 hgr2)
                go_roundw
                case rel => exact ⟨k + 1, _, by omega, by go_num, by simpa using hyl, KEY.out _ (HT.out.trans (congrArg some (by omega))) hlt, hrow2, hbel.grown hgr2 hbel.size (by simp)⟩
                case measure => simp [intOf]; omega
            · have HT : Hid ((tog (L s) bs)[k]? = some (s[k].toNat : Int)) := by rw [Hid, HG.out, tg_no HD.out (by omega) (by omega)]
              clear HG
              go_wp2_with (refine wpList_st1 rfl _ _ rfl w.heap.size k _ ys hrow (by omega) rfl rfl ?_; intro w2 hrow2 hgr2)
              go_roundw
              case rel => exact ⟨k + 1, _, by omega, by go_num, by simpa using hyl, KEY.out _ (HT.out.trans (congrArg some (by omega))) hlt, hrow2, hbel.grown hgr2 hbel.size (by simp)⟩
              case measure => simp [intOf]; omega
      · have HD : Hid (bs.getD k false = false) := by simp [Hid, List.getD, show ¬ k < bs.length by omega]
        have HT : Hid ((tog (L s) bs)[k]? = some (s[k].toNat : Int)) := by rw [Hid, HG.out, tg_off HD.out]
        clear HG
        go_wp2_with (refine wpList_st1 rfl _ _ rfl w.heap.size k (s[k].toNat : Int) ys hrow (by omega) rfl rfl ?_; intro w2 hrow2 hgr2)
        go_roundw
        case rel => exact ⟨k + 1, _, by omega, by go_num, by simpa using hyl, KEY.out _ HT.out hlt, hrow2, hbel.grown hgr2 hbel.size (by simp)⟩
        case measure => simp [intOf]; omega
    · have hkn : s.size = k := by omega
      have e : ys = tog (L s) bs := List.ext_getElem? fun j => by
        by_cases hj : j < k
        · exact HS.out j hj
        · rw [List.getElem?_eq_none (by omega), List.getElem?_eq_none (by rw [tog_len]; omega)]
      have hbd : ∀ y ∈ ys, 0 ≤ y ∧ y ≤ 255 := by
        rw [e]
        intro y hy
        unfold tog at hy
        obtain ⟨i, hi, rfl⟩ := List.mem_map.1 hy
        have hi' : i < (L s).length := by simpa using hi
        refine tg_bound ?_
        have : (L s).getD i 0 ∈ L s := by simp [List.getD, hi']
        exact L_bound s _ this
      have HE : Hid (ys = tog (L s) bs) := e
      have HB : Hid (∀ y ∈ ys, 0 ≤ y ∧ y ≤ 255) := hbd
      clear e hbd
      go_wp2_with (refine wpList_cv rfl _ rfl w.heap.size s.size ys hrow hyl rfl ?_)
      go_ret
      exact ⟨_, rfl, by rw [L_mk HB.out, HE.out], by rw [size_mk HB.out, hyl], hbel⟩

end Go.Proofs.Qxb6623306a
