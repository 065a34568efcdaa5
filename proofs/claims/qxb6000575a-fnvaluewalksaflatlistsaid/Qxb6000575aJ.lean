import Derived.Test.Qxb6000575aI
set_option linter.unusedVariables false
namespace Go.Proofs.Qxb6000575a
open Go.RowKit

set_option maxRecDepth 100000 in
set_option maxHeartbeats 2000000 in
theorem zzNest_any (b off : Nat) (a : Option Addr) (n c : Nat) (f : Nat → ByteArray) (d p : Int) (w : World) (hs : Strs w b off a n f) (hnm : n ≤ maxLen) :
    Calls Try.prog 21 #[.slice a n c, .int .i64 d, .int .i64 p] w fun e w' => w' = w ∧ ∃ r : Bool, e = .returned (.bool r) ∧ (r = true → n ≤ 1048576 ∧ ∀ t, t < n → (f t).size ≤ 1048576) := by
  have HS : Hid (Strs w b off a n f) := hs
  clear hs
  by_cases hn : n ≤ 1048576
  · have b0 : decide ((1048576 : Int) < (n : Int)) = false := by simp; omega
    clear hnm
    go_enter Try.func21, Try.ntmps21
    go_wp2_with fail
    go_loopg [7, 8] n (fun g v6 v7 wr => ∃ (k T : Nat), v6 = .int .i64 T ∧ v7 = .int .i64 k ∧ k ≤ n ∧ T ≤ 1048576 ∧ g = n - k ∧ wr = w ∧ Hid (∀ t, t < k → (f t).size ≤ 1048576))
    case atStart => exact ⟨0, n, rfl, rfl, Nat.zero_le _, hn, rfl, rfl, fun t h => by omega⟩
    case round =>
      obtain ⟨k, T, rfl, rfl, hk, hT, hg, rfl, HK⟩ := hrel
      clear b0
      by_cases hlt : k < n
      · obtain rfl := HS.out.at_ (by omega)
        have hc := HS.out.cell k hlt
        have hm := HS.out.len k hlt
        obtain ⟨s, hs⟩ : ∃ s, s = f k := ⟨_, rfl⟩
        have HF : Hid (s = f k) := hs
        rw [← hs] at hc hm
        clear hs
        have hm2 : s.size ≤ 9223372036854775807 := hm
        clear hm
        by_cases h1 : s.size ≤ 1048576
        · have c1 : decide ((1048576 : Int) < (s.size : Int)) = false := by simp; omega
          by_cases h2 : T + s.size ≤ 1048576
          · have c2 : decide ((1048576 : Int) < (T : Int) + (s.size : Int)) = false := by simp; omega
            as_aux_lemma =>
              go_wp2_with fail
              go_roundg (n - (k + 1))
              case measure => omega
              case rel =>
                refine ⟨k + 1, T + s.size, by go_num, by go_num, by omega, h2, rfl, rfl, fun t h => ?_⟩
                by_cases e : t = k
                · subst e; rw [← HF.out]; exact h1
                · exact HK.out t (by omega)
          · have c2 : decide ((1048576 : Int) < (T : Int) + (s.size : Int)) = true := by simp; omega
            as_aux_lemma =>
              go_wp2_with fail
              go_ret
              exact ⟨rfl, false, rfl, fun h => by cases h⟩
        · have c1 : decide ((1048576 : Int) < (s.size : Int)) = true := by simp; omega
          as_aux_lemma =>
            go_wp2_with fail
            go_ret
            exact ⟨rfl, false, rfl, fun h => by cases h⟩
      · obtain rfl : k = n := by omega
        have c1 : decide ((k : Int) < (k : Int)) = false := by simp
        as_aux_lemma =>
          go_wp2_with fail
          go_ret
          exact ⟨rfl, true, rfl, fun _ => ⟨hn, HK.out⟩⟩
  · have b0 : decide ((1048576 : Int) < (n : Int)) = true := by simp; omega
    have hn2 : n ≤ 9223372036854775807 := hnm
    clear hnm
    go_enter Try.func21, Try.ntmps21
    go_wp2_with fail
    go_ret
    exact ⟨rfl, false, rfl, fun h => by cases h⟩

theorem tmod2 (i r : Nat) (h : i % 2 = r) : (i : Int).tmod 2 = (r : Int) := by
  rw [Int.tmod_eq_emod_of_nonneg (by omega)]; omega

theorem Own.shape {w : World} {base : Nat} {v : Value} {zs : List Int} (h : Own w base v zs) (N : Nat) (hN : zs.length = N) (h0 : 0 < N) : ∃ g cap, v = .slice (some ⟨g, 0, none⟩) N cap ∧ N ≤ cap ∧ base ≤ g ∧ g < w.heap.size := by
  subst hN
  obtain ⟨_, ⟨_, hn⟩ | ⟨g, cap, cur, rfl, hb, hblk, hnc, _, _, _⟩⟩ := h
  · omega
  · exact ⟨g, cap, rfl, hnc, hb, lt_of_block hblk⟩

theorem Own.toLine {w : World} {base : Nat} {g cap N : Nat} {zs : List Int} (h : Own w base (.slice (some ⟨g, 0, none⟩) N cap) zs) (hr : ∀ z ∈ zs, 0 ≤ z ∧ z < 256) (hN : zs.length = N) : Line w g (some ⟨g, 0, none⟩) N zs := by
  refine ⟨hN, fun _ => rfl, fun i hi => ?_, hr⟩
  subst hN
  have := World.ownsRow.cellAt (show w.ownsRow base 5 1 (.slice (some ⟨g, 0, none⟩) zs.length cap) zs.length (zs.map (Value.int .u8)) from h) i (by omega)
  rw [this, List.getElem?_map, List.getElem?_eq_getElem hi, List.getD_eq_getElem?_getD, List.getElem?_eq_getElem hi]
  rfl

set_option maxRecDepth 10000 in
/-- append(dst, src...), src a slice of bytes whose cells are known. -/
theorem app_src {ops : Array Oper} {rest : List Oper} {o : Oper} {a : Act} {Q : Exit → Act → World → Prop} (w : World) (hgd : o.guard = none) (s x : Operand)
    (ho : o.op = .call { callee := .builtin .append, args := #[s, x], argTypes := #[22, 22] }) (base : Nat) (v : Value) (zs news : List Int) (hs : a.eval s = v) (hown : Own w base v zs) (g m c : Nat)
    (hx : a.eval x = .slice (some ⟨g, 0, none⟩) m c) (hl : Line w g (some ⟨g, 0, none⟩) m news) (hsm : zs.length + m ≤ 1073741824) (hbase : base ≤ w.heap.size)
    (h : ∀ v' w', Own w' base v' (zs ++ news) → Below base w w' → wpList Try.prog ops Q rest (a.put o.dst v') w') : wpList Try.prog ops Q (o :: rest) a w := by
  obtain ⟨i0, hi5, hz0, hz1, hz2⟩ := info_parts info5
  have hm := hl.len
  subst hm
  refine wpList_append_own _ hgd s x 22 ho base 5 i0 (.int .u8 0) 1 1 Try.underlying22 hi5 hz0 hz1 hz2 rfl (by decide) v zs.length (zs.map (Value.int .u8)) hs hown ⟨g, 0, none⟩ news.length c (news.map (Value.int .u8)) hx (by simp) ?_ (ints_oneCell _ _) (by unfold maxLen; omega) (by omega) hbase ?_
  · intro j u hj
    have : (⟨g, 0, none⟩ : Addr).add j = ⟨g, j, none⟩ := by unfold Addr.add; by_cases h0 : j = 0 <;> simp [h0]
    rw [List.getElem?_map] at hj
    obtain ⟨z, hz, rfl⟩ := Option.map_eq_some_iff.1 hj
    obtain ⟨hlt, hz⟩ := List.getElem?_eq_some_iff.1 hz
    rw [this, hl.cell j hlt, List.getD_eq_getElem?_getD, List.getElem?_eq_getElem hlt, hz]
    rfl
  · intro v' w' hown' hgr _
    refine h v' w' ?_ ?_
    · unfold Own
      rw [List.length_append, List.map_append]
      exact hown'
    · exact (Below.refl base w).grown hgr hbase (fun k hk => (hown.lt k hk).1)
end Go.Proofs.Qxb6000575a
