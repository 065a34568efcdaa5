import Derived.Test.Qxb6614531aFmtZz
import Derived.Laws.StructEq
set_option linter.unusedVariables false
namespace Go.Proofs.Qxb6614531aFmt
open Go.RowKit

theorem all_range_ints : ∀ (xs ys : List Int), xs.length = ys.length → ((List.range xs.length).all fun i => xs.getD i 0 == ys.getD i 0) = (xs == ys)
  | [], [], _ => rfl
  | x :: xs, y :: ys, h => by
    have ih := all_range_ints xs ys (by simpa using h)
    rw [List.length_cons, List.range_succ_eq_map, List.all_cons, List.all_map]
    simp only [List.getD_cons_zero, Function.comp_def, List.getD_cons_succ, ih]
    simp [List.cons_beq_cons]
  | [], _ :: _, h => by simp at h
  | _ :: _, [], h => by simp at h

theorem run_equalIn_u8s (w : World) (t : TypeId) (n : Nat) (ht : Tryf.prog.underlying t = some (.array n 5)) (xs ys : List Int) (hx : xs.length = n) (hy : ys.length = n) :
    (Op.equalIn 10000 t (.agg (u8s xs)) (.agg (u8s ys))).run Tryf.prog w = .ok (xs == ys) w := by
  have hsz : ∀ w, (sizeOf 5).run Tryf.prog w = .ok 1 w := fun w => by kernel_rfl
  have he := Tryf.underlying5
  show (Op.equalIn (9998 + 2) t (.agg (u8s xs)) (.agg (u8s ys))).run Tryf.prog w = .ok (xs == ys) w
  rw [← all_range_ints xs ys (hx.trans hy.symm), hx, List.range_eq_range', Op.equalIn]
  simp only [Sem.run_bind, run_underlying ht, Result.andThen_ok, hsz, Std.Legacy.Range.forIn_eq_forIn_range', Std.Legacy.Range.size, Nat.sub_zero, Nat.add_sub_cancel, Nat.div_one]
  have hl : ∀ i ∈ List.range' 0 n 1, i < n := fun i hi => by simpa using (List.mem_range'_1.1 hi).2
  generalize List.range' 0 n 1 = l at hl ⊢
  induction l with
  | nil => simp
  | cons i l ih =>
    have hi : i < n := hl i (by simp)
    have px : (part 5 (u8s xs) (i * 1)).run Tryf.prog w = .ok (.int .u8 (xs.getD i 0)) w := by
      simp [part, isAgg, u8s, List.getD, List.getElem?_eq_getElem (show i < xs.length by omega)]
    have py : (part 5 (u8s ys) (i * 1)).run Tryf.prog w = .ok (.int .u8 (ys.getD i 0)) w := by
      simp [part, isAgg, u8s, List.getD, List.getElem?_eq_getElem (show i < ys.length by omega)]
    have pe : (Op.equalIn (9998 + 1) 5 (.int .u8 (xs.getD i 0)) (.int .u8 (ys.getD i 0))).run Tryf.prog w = .ok (xs.getD i 0 == ys.getD i 0) w := run_equalIn_int w 9998 5 .u8 .u8 _ _ he
    simp only [List.forIn_cons, Sem.run_bind, px, py, pe, Result.andThen_ok, List.all_cons]
    cases hb : (xs.getD i 0 == ys.getD i 0)
    · simp
    · simp only [Bool.not_true, Bool.false_eq_true, if_false, Sem.run_pure, Result.andThen_ok, Bool.true_and]
      exact ih fun j hj => hl j (by simp [hj])

theorem run_eql_u8s (w : World) (t : TypeId) (n : Nat) (ht : Tryf.prog.underlying t = some (.array n 5)) (xs ys : List Int) (hx : xs.length = n) (hy : ys.length = n) :
    (binOp .eql t (.agg (u8s xs)) (.agg (u8s ys))).run Tryf.prog w = .ok (.bool (xs == ys)) w := by
  rw [run_eql_struct, run_equalIn_u8s w t n ht xs ys hx hy]
  rfl

/-! ### Plain laws: how the reader's ways and the model's ways meet -/
theorem Skip.uniq {zs : List Int} {i j j' : Nat} (h : Skip zs i j) (h' : Skip zs i j') : j' = j := by
  rcases Nat.lt_trichotomy j j' with h1 | h1 | h1
  · have := h'.all j h.ge h1
    rw [h.stop (by have := h'.le; omega)] at this; cases this
  · exact h1.symm
  · have := h.all j' h'.ge h1
    rw [h'.stop (by have := h.le; omega)] at this; cases this

theorem halt_uniq {zs : List Int} {s k k' : Nat} (h : ∀ q, q < k → halt zs s q = false) (hk : halt zs s k = true) (h' : ∀ q, q < k' → halt zs s q = false) (hk' : halt zs s k' = true) : k' = k := by
  rcases Nat.lt_trichotomy k k' with h1 | h1 | h1
  · rw [h' k h1] at hk; cases hk
  · exact h1.symm
  · rw [h k' h1] at hk'; cases hk'

theorem out_null {zs : List Int} {i j : Nat} {ok : Bool} {pos : Nat} {upd : Option (List Int)} (h : Out zs i ok pos upd) (hs : Skip zs i j) (hn : isNull zs j = true) : ok = true ∧ pos = j + 4 ∧ upd = none := by
  obtain ⟨j', hs', h⟩ := h
  obtain rfl := hs.uniq hs'
  rcases h with ⟨_, h⟩ | ⟨h0, _⟩ | ⟨h0, _⟩
  · exact h
  · rw [hn] at h0; cases h0
  · rw [hn] at h0; cases h0

theorem out_other {zs : List Int} {i j : Nat} {ok : Bool} {pos : Nat} {upd : Option (List Int)} (h : Out zs i ok pos upd) (hs : Skip zs i j) (hn : isNull zs j = false) (hq : j < zs.length → zs.getD j 0 ≠ 34) : ok = false ∧ pos = j ∧ upd = none := by
  obtain ⟨j', hs', h⟩ := h
  obtain rfl := hs.uniq hs'
  rcases h with ⟨h0, _⟩ | ⟨_, _, h⟩ | ⟨_, h1, h2, _⟩
  · rw [hn] at h0; cases h0
  · exact h
  · exact absurd h2 (hq h1)

/-- Behind the opening quote. -/
theorem out_quote {zs : List Int} {i j : Nat} {ok : Bool} {pos : Nat} {upd : Option (List Int)} (h : Out zs i ok pos upd) (hs : Skip zs i j) (hn : isNull zs j = false) (hj : j < zs.length) (hq : zs.getD j 0 = 34) :
    (∃ k, j + 1 + k < zs.length ∧ (∀ q, q < k → halt zs (j + 1) q = false) ∧ halt zs (j + 1) k = true ∧ zs.getD (j + 1 + k) 0 < 32 ∧ ok = false ∧ pos = j + 1 + k ∧ upd = none) ∨
    (∃ k, j + 1 + k < zs.length ∧ (∀ q, q < k → halt zs (j + 1) q = false) ∧ halt zs (j + 1) k = true ∧ zs.getD (j + 1 + k) 0 = 34 ∧ pos = j + 1 + k + 1 ∧
        ((taken (inner zs (j + 1) k) ∧ ok = true ∧ ∃ l, upd = some l ∧ l.length = 32 ∧ ∀ q, q < 32 → l.getD q 0 = hv (digs (inner zs (j + 1) k)) q) ∨ (¬ taken (inner zs (j + 1) k) ∧ ok = false ∧ upd = none))) ∨
    ((∀ q, q < zs.length - (j + 1) → halt zs (j + 1) q = false) ∧ ok = false ∧ pos = (if esc zs (j + 1) (zs.length - (j + 1)) = true then zs.length + 1 else zs.length) ∧ upd = none) := by
  obtain ⟨j', hs', h⟩ := h
  obtain rfl := hs.uniq hs'
  rcases h with ⟨h0, _⟩ | ⟨_, h1, _⟩ | ⟨_, _, _, h⟩
  · rw [hn] at h0; cases h0
  · exact absurd hq (h1 hj)
  · exact h

theorem out_ctl {zs : List Int} {i j k : Nat} {ok : Bool} {pos : Nat} {upd : Option (List Int)} (h : Out zs i ok pos upd) (hs : Skip zs i j) (hn : isNull zs j = false) (hj : j < zs.length) (hq : zs.getD j 0 = 34)
    (hk : j + 1 + k < zs.length) (hb : ∀ q, q < k → halt zs (j + 1) q = false) (hh : halt zs (j + 1) k = true) (hc : zs.getD (j + 1 + k) 0 < 32) : ok = false ∧ pos = j + 1 + k ∧ upd = none := by
  rcases out_quote h hs hn hj hq with ⟨k', _, hb', hh', hc', h1, h2, h3⟩ | ⟨k', _, hb', hh', hc', _⟩ | ⟨hb', _⟩
  · obtain rfl := halt_uniq hb hh hb' hh'
    exact ⟨h1, h2, h3⟩
  · obtain rfl := halt_uniq hb hh hb' hh'
    omega
  · rw [hb' k (by omega)] at hh; cases hh

theorem out_close {zs : List Int} {i j k : Nat} {ok : Bool} {pos : Nat} {upd : Option (List Int)} (h : Out zs i ok pos upd) (hs : Skip zs i j) (hn : isNull zs j = false) (hj : j < zs.length) (hq : zs.getD j 0 = 34)
    (hk : j + 1 + k < zs.length) (hb : ∀ q, q < k → halt zs (j + 1) q = false) (hh : halt zs (j + 1) k = true) (hc : zs.getD (j + 1 + k) 0 = 34) : pos = j + 1 + k + 1 ∧
      ((taken (inner zs (j + 1) k) ∧ ok = true ∧ ∃ l, upd = some l ∧ l.length = 32 ∧ ∀ q, q < 32 → l.getD q 0 = hv (digs (inner zs (j + 1) k)) q) ∨ (¬ taken (inner zs (j + 1) k) ∧ ok = false ∧ upd = none)) := by
  rcases out_quote h hs hn hj hq with ⟨k', _, hb', hh', hc', _⟩ | ⟨k', _, hb', hh', hc', h1, h2⟩ | ⟨hb', _⟩
  · obtain rfl := halt_uniq hb hh hb' hh'
    omega
  · obtain rfl := halt_uniq hb hh hb' hh'
    exact ⟨h1, h2⟩
  · rw [hb' k (by omega)] at hh; cases hh

theorem out_end {zs : List Int} {i j : Nat} {ok : Bool} {pos : Nat} {upd : Option (List Int)} (h : Out zs i ok pos upd) (hs : Skip zs i j) (hn : isNull zs j = false) (hj : j < zs.length) (hq : zs.getD j 0 = 34)
    (hb : ∀ q, q < zs.length - (j + 1) → halt zs (j + 1) q = false) : ok = false ∧ pos = (if esc zs (j + 1) (zs.length - (j + 1)) = true then zs.length + 1 else zs.length) ∧ upd = none := by
  rcases out_quote h hs hn hj hq with ⟨k', hk', hb', hh', _⟩ | ⟨k', hk', hb', hh', _⟩ | ⟨_, h1, h2, h3⟩
  · rw [hb k' (by omega)] at hh'; cases hh'
  · rw [hb k' (by omega)] at hh'; cases hh'
  · exact ⟨h1, h2, h3⟩

theorem list_eq {l l' : List Int} {f : Nat → Int} (h : l.length = 32) (h' : l'.length = 32) (hf : ∀ q, q < 32 → l.getD q 0 = f q) (hf' : ∀ q, q < 32 → l'.getD q 0 = f q) : (l == l') = true := by
  rw [beq_iff_eq]
  apply List.ext_getElem (by omega)
  intro q h1 h2
  have e1 := hf q (by omega)
  have e2 := hf' q (by omega)
  simp only [List.getD, List.getElem?_eq_getElem h1, List.getElem?_eq_getElem h2, Option.getD_some] at e1 e2
  rw [e1, e2]
end Go.Proofs.Qxb6614531aFmt
