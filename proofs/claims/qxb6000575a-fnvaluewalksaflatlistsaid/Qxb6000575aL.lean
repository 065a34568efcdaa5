import Derived.Test.Qxb6000575aJ
set_option linter.unusedVariables false
namespace Go.Proofs.Qxb6000575a
open Go.RowKit

theorem ownsRow_below {w w' : World} {base e size n B : Nat} {v : Value} {xs : List Value} (h : w.ownsRow base e size v n xs) (hb : Below B w w') (hB : w.heap.size ≤ B) : w'.ownsRow base e size v n xs := by
  obtain ⟨h1, h2 | ⟨g, cap, cur, hv, hg, hblk, hr⟩⟩ := h
  · exact ⟨h1, .inl h2⟩
  · exact ⟨h1, .inr ⟨g, cap, cur, hv, hg, by rw [hb.block g (Nat.lt_of_lt_of_le (lt_of_block hblk) hB)]; exact hblk, hr⟩⟩
theorem ownsRow_base {w : World} {base base' e size n : Nat} {v : Value} {xs : List Value} (h : w.ownsRow base e size v n xs) (hB : base' ≤ base) : w.ownsRow base' e size v n xs := by
  obtain ⟨h1, h2 | ⟨g, cap, cur, hv, hg, hr⟩⟩ := h
  · exact ⟨h1, .inl h2⟩
  · exact ⟨h1, .inr ⟨g, cap, cur, hv, Nat.le_trans hB hg, hr⟩⟩
theorem Own.below {w w' : World} {base B : Nat} {v : Value} {zs : List Int} (h : Own w base v zs) (hb : Below B w w') (hB : w.heap.size ≤ B) : Own w' base v zs := ownsRow_below h hb hB

set_option maxRecDepth 10000 in
/-- append(dst, src...), src a slice of bytes somewhere in a row. -/
theorem app_at {ops : Array Oper} {rest : List Oper} {o : Oper} {a : Act} {Q : Exit → Act → World → Prop} (w : World) (hgd : o.guard = none) (s x : Operand)
    (ho : o.op = .call { callee := .builtin .append, args := #[s, x], argTypes := #[22, 22] }) (base : Nat) (v : Value) (zs news : List Int) (hs : a.eval s = v) (hown : Own w base v zs) (g off m c : Nat)
    (hx : a.eval x = .slice (some ⟨g, off, none⟩) m c) (hm : news.length = m) (hl : ∀ j, j < m → w.cell? ⟨g, off + j, none⟩ = some (.int .u8 (news.getD j 0))) (hsm : zs.length + m ≤ 1073741824) (hbase : base ≤ w.heap.size)
    (h : ∀ v' w', Own w' base v' (zs ++ news) → Below base w w' → wpList Try.prog ops Q rest (a.put o.dst v') w') : wpList Try.prog ops Q (o :: rest) a w := by
  obtain ⟨i0, hi5, hz0, hz1, hz2⟩ := info_parts info5
  subst hm
  refine wpList_append_own _ hgd s x 22 ho base 5 i0 (.int .u8 0) 1 1 Try.underlying22 hi5 hz0 hz1 hz2 rfl (by decide) v zs.length (zs.map (Value.int .u8)) hs hown ⟨g, off, none⟩ news.length c (news.map (Value.int .u8)) hx (by simp) ?_ (ints_oneCell _ _) (by unfold maxLen; omega) (by omega) hbase ?_
  · intro j u hj
    rw [Go.WideShapes.add_plain]
    rw [List.getElem?_map] at hj
    obtain ⟨z, hz, rfl⟩ := Option.map_eq_some_iff.1 hj
    obtain ⟨hlt, hz⟩ := List.getElem?_eq_some_iff.1 hz
    rw [hl j hlt, List.getD_eq_getElem?_getD, List.getElem?_eq_getElem hlt, hz]
    rfl
  · intro v' w' hown' hgr _
    refine h v' w' ?_ ?_
    · unfold Own
      rw [List.length_append, List.map_append]
      exact hown'
    · exact (Below.refl base w).grown hgr hbase (fun k hk => (hown.lt k hk).1)

theorem arrayLen48 : Try.prog.arrayLen 48 = 20 := by kernel_rfl
theorem elem48 : Try.prog.elem 48 = 5 := by kernel_rfl
theorem under48 : Try.prog.underlying 48 = some (.array (Try.prog.arrayLen 48) (Try.prog.elem 48)) := by rw [arrayLen48, elem48]; kernel_rfl
theorem size5 (w : World) : (sizeOf 5).run Try.prog w = .ok 1 w := by
  simp [sizeOf]
  rfl

theorem slice48 (w : World) (tb j : Nat) (hj : j < 20) : (Instr.sliceAt 48 (.pointer (some ⟨tb, 0, none⟩)) (some (.int .i64 j)) none none).run Try.prog w = .ok (.slice (some ⟨tb, j, none⟩) (20 - j) (20 - j)) w := by
  rw [run_sliceAt_array_l w 48 ⟨tb, 0, none⟩ under48 .i64 j (by omega) (by rw [arrayLen48]; omega), elem48, size5, arrayLen48]
  simp only [Result.andThen, slicedAt, Int.toNat_natCast]
  rw [if_neg (by omega), Nat.mul_one, Go.WideShapes.add_plain, Nat.zero_add]

/-- The bytes of a number. -/
def digit (z : Int) : Prop := z = 45 ∨ (48 ≤ z ∧ z ≤ 57)

theorem digits_list (cs : Array Value) (j : Nat) (h : ∀ q, j ≤ q → q < 20 → ∃ d, cs[q]? = some (.int .u8 d) ∧ digit d) :
    ∃ ds : List Int, ds.length = 20 - j ∧ (∀ t, t < 20 - j → cs[j + t]? = some (.int .u8 (ds.getD t 0))) ∧ ∀ z ∈ ds, digit z := by
  obtain ⟨f, hf⟩ : ∃ f : Nat → Int, ∀ t, t < 20 - j → (cs[j + t]? = some (.int .u8 (f t)) ∧ digit (f t)) := by
    refine ⟨fun t => match cs[j + t]? with | some (.int _ d) => d | _ => 0, fun t ht => ?_⟩
    obtain ⟨d, hd, hg⟩ := h (j + t) (by omega) (by omega)
    simp only [hd]
    exact ⟨trivial, hg⟩
  refine ⟨(List.range (20 - j)).map f, by simp, fun t ht => ?_, fun z hz => ?_⟩
  · rw [List.getD_eq_getElem?_getD, List.getElem?_map, List.getElem?_range ht]
    exact (hf t ht).1
  · simp only [List.mem_map, List.mem_range] at hz
    obtain ⟨t, ht, rfl⟩ := hz
    exact (hf t ht).2

set_option maxRecDepth 100000 in
set_option maxHeartbeats 4000000 in
theorem int_any (n : Int) (w : World) (h0 : -9223372036854775808 ≤ n) (h1 : n ≤ 9223372036854775807) :
    Calls Try.prog 27 #[.slice none 0 0, .int .i64 n] w fun e w' => ∃ v' ds, e = .returned v' ∧ Own w' w.heap.size v' ds ∧ Below w.heap.size w w' ∧ ds ≠ [] ∧ ds.length ≤ 21 ∧ ∀ z ∈ ds, digit z := by
  have HO : Hid (Own w w.heap.size (.slice none 0 0) []) := World.ownsRow_nil _ _ _ _
  go_enter Try.func27, Try.ntmps27
  go_upto_if 9 with (fail)
  go_cut [0, 5] (fun v0 v5 wd => ∃ (U : Nat) (zs : List Int), v5 = .int .u64 U ∧ U ≤ 18446744073709551615 ∧ zs.length ≤ 1 ∧ Hid (∀ z ∈ zs, digit z) ∧ Hid (Own wd w.heap.size v0 zs) ∧ Hid (Below w.heap.size w wd))
  case first =>
    by_cases hn : n < 0
    · have b : decide (n < 0) = true := by simpa using hn
      go_wp2_with (first | (at_builtin; refine app_lits _ _ rfl (.tmp 10) (.tmp 11) rfl w.heap.size _ [] [45] rfl HO.out _ _ rfl rfl rfl (by simp) (Nat.le_refl _) ?_; intro v2 w2 hown2 hb2))
      go_meet
      case rel =>
        refine ⟨(-n).toNat, [45], ?_, by omega, by simp, (fun z hz => by simp at hz; exact .inl hz), hown2, hb2⟩
        congr 1; omega
    · have b : decide (n < 0) = false := by simpa using hn
      go_wp2_with fail
      go_meet
      case rel =>
        refine ⟨n.toNat, [], ?_, by omega, by simp, (fun z hz => by cases hz), HO.out, Below.refl _ _⟩
        congr 1; omega
  case rest =>
    obtain ⟨U, zs, rfl, hU, hz1, HZ, HO1, HB1⟩ := hcut
    go_wp2_with fail
    go_loopg [5, 7] 20 (fun g v5 v7 wr => ∃ (u i : Nat) (cs : Array Value), v5 = .int .u64 u ∧ v7 = .int .i64 i ∧ g = i ∧ 1 ≤ i ∧ i ≤ 20 ∧ u ≤ 18446744073709551615 ∧ Hid (u < 10 ^ i) ∧ Hid (cs.size = 20 ∧ wr.heap[wc.heap.size]? = some (.cells cs 48 (0, 0)) ∧ ∀ q, i ≤ q → q < 20 → ∃ d, cs[q]? = some (.int .u8 d) ∧ digit d) ∧ Hid (Below wc.heap.size wc wr))
    case atStart =>
      exact ⟨U, 20, _, rfl, rfl, rfl, by omega, Nat.le_refl _, hU, by show U < 10 ^ 20; omega, ⟨by rfl, heap_alloc_new _ _, fun q h1 h2 => by omega⟩, (Below.refl _ _).alloc (Nat.le_refl _) _⟩
    case round =>
      obtain ⟨u, i, cs, rfl, rfl, hg, hi1, hi2, hu, HU, HC, HBr⟩ := hrel
      obtain ⟨j, rfl⟩ : ∃ j, i = j + 1 := ⟨i - 1, by omega⟩
      obtain ⟨x, hx⟩ : ∃ x, cs[j]? = some x := ⟨cs[j]'(by rw [HC.out.1]; omega), by rw [Array.getElem?_eq_getElem]⟩
      have hcj : wr.cell? ⟨wc.heap.size, j, none⟩ = some x := (cell_of_block HC.out.2.1 j).trans hx
      have hfj : wr.frozen? ⟨wc.heap.size, j, none⟩ = false := free_of_block HC.out.2.1 j
      have hsl := fun ww => slice48 ww wc.heap.size j (by omega)
      clear hx
      obtain ⟨u', hu'⟩ : ∃ u' : Nat, u' = u / 10 := ⟨_, rfl⟩
      have HU' : Hid (u' = u / 10) := hu'
      clear hu'
      have HC2 : Hid ((cs.setIfInBounds j (.int .u8 (48 + (u : Int) % 10))).size = 20 ∧ (wr.setCell ⟨wc.heap.size, j, none⟩ (.int .u8 (48 + (u : Int) % 10))).heap[wc.heap.size]? = some (.cells (cs.setIfInBounds j (.int .u8 (48 + (u : Int) % 10))) 48 (0, 0)) ∧ ∀ q, j ≤ q → q < 20 → ∃ d, (cs.setIfInBounds j (.int .u8 (48 + (u : Int) % 10)))[q]? = some (.int .u8 d) ∧ digit d) := by
        refine ⟨by simp [HC.out.1], block_setCell HC.out.2.1 j _, fun q h1 h2 => ?_⟩
        by_cases e : q = j
        · subst e
          exact ⟨48 + (u : Int) % 10, by rw [Array.getElem?_setIfInBounds_self, if_pos (by rw [HC.out.1]; omega)], .inr (by omega)⟩
        · rw [Array.getElem?_setIfInBounds_ne (by omega)]
          exact HC.out.2.2 q (by omega) h2
      by_cases h0 : u / 10 = 0
      · have c0 : ((u : Int) / 10 == 0) = true := by simp; omega
        obtain ⟨ds, hd1, hd2, hd3⟩ := digits_list _ j HC2.out.2.2
        have HOb : Hid (Own (wr.setCell ⟨wc.heap.size, j, none⟩ (.int .u8 (48 + (u : Int) % 10))) w.heap.size u0 zs) := HO1.out.below (HBr.out.setCell (p := ⟨wc.heap.size, j, none⟩) (Nat.le_refl _) _) (Nat.le_refl _)
        have HCE : Hid (∀ t, t < 20 - j → (wr.setCell ⟨wc.heap.size, j, none⟩ (.int .u8 (48 + (u : Int) % 10))).cell? ⟨wc.heap.size, j + t, none⟩ = some (.int .u8 (ds.getD t 0))) := fun t ht => (cell_of_block HC2.out.2.1 (j + t)).trans (hd2 t ht)
        have HD3 : Hid (∀ z ∈ ds, digit z) := hd3
        have hbs : w.heap.size ≤ (wr.setCell ⟨wc.heap.size, j, none⟩ (.int .u8 (48 + (u : Int) % 10))).heap.size := by
          have h1 := HB1.out.size
          have h2 := (HBr.out.setCell (p := ⟨wc.heap.size, j, none⟩) (Nat.le_refl _) (.int .u8 (48 + (u : Int) % 10))).size
          omega
        have HBE : Hid (Below w.heap.size w (wr.setCell ⟨wc.heap.size, j, none⟩ (.int .u8 (48 + (u : Int) % 10)))) := HB1.out.trans ((HBr.out.setCell (p := ⟨wc.heap.size, j, none⟩) (Nat.le_refl _) _).mono HB1.out.size)
        have HD1 : Hid (ds.length = 20 - j) := hd1
        clear hd1 hd2 hd3 HC HC2
        go_wp2_with (first | (at_builtin; refine app_at _ rfl (.tmp 32) (.tmp 34) rfl w.heap.size _ zs ds rfl HOb.out wc.heap.size j (20 - j) (20 - j) rfl HD1.out HCE.out (by omega) hbs ?_; intro v2 w2 hown2 hb2))
        go_ret
        refine ⟨v2, zs ++ ds, rfl, hown2, HBE.out.trans hb2, fun h => ?_, by rw [List.length_append, HD1.out]; omega, fun z hz => ?_⟩
        · have := congrArg List.length h
          rw [List.length_append, HD1.out, List.length_nil] at this
          omega
        · rcases List.mem_append.1 hz with h | h
          · exact HZ.out z h
          · exact HD3.out z h
      · have c0 : ((u : Int) / 10 == 0) = false := by simp; omega
        go_wp2_with fail
        go_roundg j
        case measure => omega
        case rel =>
          have hp : u / 10 < 10 ^ j := by
            have := HU.out
            rw [Nat.pow_succ] at this
            omega
          refine ⟨u / 10, j, cs.setIfInBounds j (.int .u8 (48 + (u : Int) % 10)), by go_num, rfl, rfl, ?_, by omega, by omega, hp, HC2.out, HBr.out.setCell (Nat.le_refl _) _⟩
          rcases Nat.eq_zero_or_pos j with h | h
          · subst h
            rw [Nat.pow_zero] at hp
            omega
          · exact h
end Go.Proofs.Qxb6000575a
