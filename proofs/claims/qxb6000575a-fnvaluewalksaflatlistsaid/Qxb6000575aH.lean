import Derived.Test.Qxb6000575aE
import Derived.Test.Qxb6000575aQ
import Derived.Deep.DeepMust
import Derived.Deep.DeepCutAuto
import Derived.Deep.CutBlock
set_option linter.unusedVariables false
namespace Go.Proofs.Qxb6000575a
open Go.RowKit

theorem hex_any (z : Int) (w : World) (h0 : 0 ≤ z) (h1 : z < 16) : Calls Try.prog 30 #[.int .u8 z] w fun e w' => e = .returned (.int .u8 (hexd z)) ∧ w' = w := by
  by_cases h : z < 10
  · have HX : Hid (hexd z = 48 + z) := by show _ = _; simp [hexd, h]
    go_enter Try.func30, Try.ntmps30
    go_wp2
    go_ret
    refine ⟨?_, rfl⟩
    rw [HX.out]
    rfl
  · have HX : Hid (hexd z = 87 + z) := by show _ = _; simp [hexd, h]
    have h' : decide (z < 10) = false := by simpa using h
    go_enter Try.func30, Try.ntmps30
    go_wp2
    go_ret
    refine ⟨?_, rfl⟩
    rw [HX.out, show 87 + z = 97 + z - 10 by omega]
    rfl

theorem tmod4 (i r : Nat) (h : i % 4 = r) : (i : Int).tmod 4 = (r : Int) := by
  rw [Int.tmod_eq_emod_of_nonneg (by omega)]; omega

theorem ws_any (i : Nat) (w : World) (hi : i ≤ 268435456) : Calls Try.prog 22 #[.int .i64 i] w fun e w' => e = .returned (.int .u8 (wsb i)) ∧ w' = w := by
  rcases (show i % 4 = 0 ∨ i % 4 = 1 ∨ i % 4 = 2 ∨ i % 4 = 3 by omega) with h | h | h | h
  · have hm := tmod4 i 0 h
    have HW : Hid (wsb i = 32) := by show _ = _; simp [wsb, h]
    clear h
    go_enter Try.func22, Try.ntmps22
    go_wp2
    go_ret
    exact ⟨by rw [HW.out]; rfl, rfl⟩
  · have hm := tmod4 i 1 h
    have HW : Hid (wsb i = 9) := by show _ = _; simp [wsb, h]
    clear h
    go_enter Try.func22, Try.ntmps22
    go_wp2
    go_ret
    exact ⟨by rw [HW.out]; rfl, rfl⟩
  · have hm := tmod4 i 2 h
    have HW : Hid (wsb i = 10) := by show _ = _; simp [wsb, h]
    clear h
    go_enter Try.func22, Try.ntmps22
    go_wp2
    go_ret
    exact ⟨by rw [HW.out]; rfl, rfl⟩
  · have hm := tmod4 i 3 h
    have HW : Hid (wsb i = 13) := by show _ = _; simp [wsb, h]
    clear h
    go_enter Try.func22, Try.ntmps22
    go_wp2
    go_ret
    exact ⟨by rw [HW.out]; rfl, rfl⟩

set_option maxHeartbeats 2000000 in
/-- Two slices of the same bytes. -/
theorem equal_any (b1 o1 b2 o2 n c1 c2 : Nat) (a1 a2 : Option Addr) (f : Nat → Int) (w : World) (h1 : 0 < n → a1 = some ⟨b1, o1, none⟩) (h2 : 0 < n → a2 = some ⟨b2, o2, none⟩) (hn : n ≤ 268435456)
    (k1 : ∀ t, t < n → w.cell? ⟨b1, o1 + t, none⟩ = some (.int .u8 (f t))) (k2 : ∀ t, t < n → w.cell? ⟨b2, o2 + t, none⟩ = some (.int .u8 (f t))) :
    Calls Try.prog 25 #[.slice a1 n c1, .slice a2 n c2] w fun e w' => e = .returned (.bool true) ∧ ∃ m, w' = w.drewN m := by
  have H1 : Hid (0 < n → a1 = some ⟨b1, o1, none⟩) := h1
  have H2 : Hid (0 < n → a2 = some ⟨b2, o2, none⟩) := h2
  have K1 : Hid (∀ t, t < n → w.cell? ⟨b1, o1 + t, none⟩ = some (.int .u8 (f t))) := k1
  have K2 : Hid (∀ t, t < n → w.cell? ⟨b2, o2 + t, none⟩ = some (.int .u8 (f t))) := k2
  clear h1 h2 k1 k2
  go_enter Try.func25, Try.ntmps25
  go_wp2_with fail
  go_loopg [5] n (fun g v wr => ∃ j m : Nat, v = .int .i64 j ∧ j ≤ n ∧ g = n - j ∧ wr = w.drewN m)
  case atStart => exact ⟨0, 0, rfl, Nat.zero_le _, rfl, rfl⟩
  case round =>
    obtain ⟨j, m, rfl, hj, hg, rfl⟩ := hrel
    by_cases hlt : j < n
    · obtain rfl := H1.out (by omega)
      obtain rfl := H2.out (by omega)
      have q1 := K1.out j hlt
      have q2 := K2.out j hlt
      generalize f j = y at q1 q2
      have e1 : (y != y) = false := by simp
      go_wp2_with fail
      go_quiet (fail)
      go_wp2_with fail
      go_roundg (n - (j + 1))
      case measure => omega
      case rel => exact ⟨j + 1, _, by go_num, by omega, rfl, rfl⟩
    · obtain rfl : j = n := by omega
      have e0 : decide ((j : Int) < (j : Int)) = false := by simp
      go_wp2_with fail
      go_ret
      exact ⟨rfl, m, rfl⟩

/-- A slice of bytes that the call itself made. -/
def Own (w : World) (base : Nat) (v : Value) (zs : List Int) : Prop := w.ownsRow base 5 1 v zs.length (zs.map (Value.int .u8))

set_option maxRecDepth 10000 in
theorem app_lits {ops : Array Oper} {rest : List Oper} {o : Oper} {a : Act} {Q : Exit → Act → World → Prop} (w : World) (cs : Array Value) (hgd : o.guard = none) (s x : Operand)
    (ho : o.op = .call { callee := .builtin .append, args := #[s, x], argTypes := #[22, 22] }) (base : Nat) (v : Value) (zs news : List Int) (hs : a.eval s = v) (hown : Own w base v zs) (m c : Nat)
    (hx : a.eval x = .slice (some ⟨w.heap.size, 0, none⟩) m c) (hm : news.length = m) (hcs : cs = (news.map (Value.int .u8)).toArray) (hsm : zs.length + m ≤ 1073741824) (hbase : base ≤ w.heap.size)
    (h : ∀ v' w', Own w' base v' (zs ++ news) → Below base w w' → wpList Try.prog ops Q rest (a.put o.dst v') w') : wpList Try.prog ops Q (o :: rest) a (w.alloc (.cells cs 5)) := by
  obtain ⟨i0, hi5, hz0, hz1, hz2⟩ := info_parts info5
  subst hm
  refine wpList_append_own _ hgd s x 22 ho base 5 i0 (.int .u8 0) 1 1 Try.underlying22 hi5 hz0 hz1 hz2 rfl (by decide) v zs.length (zs.map (Value.int .u8)) hs (hown.alloc _) ⟨w.heap.size, 0, none⟩ news.length c (news.map (Value.int .u8)) hx (by simp) ?_ (ints_oneCell _ _) (by unfold maxLen; omega) (by omega) (by simp; omega) ?_
  · intro j u hj
    have : (⟨w.heap.size, 0, none⟩ : Addr).add j = ⟨w.heap.size, j, none⟩ := by unfold Addr.add; by_cases h0 : j = 0 <;> simp [h0]
    rw [this, World.cell?_alloc_at _ _ _ _ rfl, hcs]
    simpa using hj
  · intro v' w' hown' hgr _
    refine h v' w' ?_ ?_
    · unfold Own
      rw [List.length_append, List.map_append]
      exact hown'
    · exact ((Below.refl base w).alloc hbase _).grown hgr (by simp; omega) (fun k hk => (hown.lt k hk).1)

/-- A string's bytes. -/
def sb (s : ByteArray) : List Int := s.data.toList.map fun b => (b.toNat : Int)
theorem sb_len (s : ByteArray) : (sb s).length = s.size := by rw [sb, List.length_map]; rfl
theorem sb_rng (s : ByteArray) : ∀ z ∈ sb s, 0 ≤ z ∧ z < 256 := by
  intro z hz
  simp only [sb, List.mem_map] at hz
  obtain ⟨b, _, rfl⟩ := hz
  have := b.toNat_lt
  omega

theorem encB_len (c : Int) : (encB c).length ≤ 6 := by
  unfold encB
  split
  · simp
  · split
    · simp
    · split <;> simp
theorem encBody_len : ∀ l : List Int, (encBody l).length ≤ 6 * l.length
  | [] => by simp [encBody]
  | c :: l => by
    have h1 := encBody_len l
    have h2 := encB_len c
    simp only [encBody, List.flatMap_cons, List.length_append, List.length_cons] at h1 ⊢
    omega
theorem encBody_take (l : List Int) (k : Nat) (h : k < l.length) : encBody (l.take (k + 1)) = encBody (l.take k) ++ encB (l.getD k 0) := by
  rw [List.take_add_one, List.getElem?_eq_getElem h, List.getD_eq_getElem?_getD, List.getElem?_eq_getElem h]
  simp only [encBody, Option.toList_some, List.flatMap_append, List.flatMap_cons, List.flatMap_nil, List.append_nil, Option.getD_some]

set_option maxRecDepth 100000 in
set_option maxHeartbeats 2000000 in
theorem enc_any (base : Nat) (v : Value) (zs : List Int) (s : ByteArray) (w : World) (hown : Own w base v zs) (hbase : base ≤ w.heap.size) (hsmall : zs.length + 6 * s.size + 2 ≤ 268435456) :
    Calls Try.prog 23 #[v, .string s] w fun e w' => ∃ v', e = .returned v' ∧ Own w' base v' (zs ++ enc (sb s)) ∧ Below base w w' := by
  have HO : Hid (Own w base v zs) := hown
  clear hown
  go_enter Try.func23, Try.ntmps23
  go_wp2_with (first | (at_builtin; refine app_lits _ _ rfl (.tmp 7) (.tmp 8) rfl base v zs [34] rfl HO.out _ _ rfl rfl rfl (by omega) hbase ?_; intro v1 w1 hown1 hb1))
  go_loopg [0, 5] s.size (fun g v0 v5 wr => ∃ k : Nat, v5 = .int .i64 k ∧ k ≤ s.size ∧ g = s.size - k ∧ Hid (Own wr base v0 (zs ++ [34] ++ encBody ((sb s).take k))) ∧ Hid (Below base w wr))
  case atStart => exact ⟨0, rfl, Nat.zero_le _, rfl, by show Own _ _ _ _; simpa [encBody] using hown1, hb1⟩
  case round =>
    obtain ⟨k, rfl, hk, hg, HOr, HBr⟩ := hrel
    have HLN : Hid ((encBody ((sb s).take k)).length ≤ 6 * k) := by
      have := encBody_len ((sb s).take k)
      rw [List.length_take] at this
      show _ ≤ _
      omega
    clear hown1 hb1
    by_cases hks : k < s.size
    · have HC : Hid ((sb s).getD k 0 = ((s[k]'hks).toNat : Int)) := by
        show _ = _
        rw [List.getD_eq_getElem?_getD, List.getElem?_eq_getElem (by rw [sb_len]; exact hks)]
        simp only [sb, List.getElem_map, Option.getD_some]
        rfl
      have hr := sb_rng s _ (List.getElem_mem (show k < (sb s).length by rw [sb_len]; exact hks))
      have HT : Hid (encBody ((sb s).take (k + 1)) = encBody ((sb s).take k) ++ encB ((sb s).getD k 0)) := encBody_take (sb s) k (by rw [sb_len]; exact hks)
      rw [HC.out] at HT
      have hr0 : 0 ≤ (sb s).getD k 0 ∧ (sb s).getD k 0 < 256 := by rw [List.getD_eq_getElem?_getD, List.getElem?_eq_getElem (by rw [sb_len]; exact hks)]; exact hr
      rw [HC.out] at hr0
      clear hr HC
      go_upto_region 6 with (fail)
      generalize ((s[k]'hks).toNat : Int) = y at HT hr0 ⊢
      have hl1 : (zs ++ [34] ++ encBody ((sb s).take k)).length + 6 ≤ 1073741824 := by
        simp only [List.length_append, List.length_cons, List.length_nil]
        have := HLN.out
        omega
      generalize hE : encBody ((sb s).take k) = E at HT HOr HLN hl1
      clear hE
      generalize hL : zs ++ [34] ++ E = L at HOr hl1
      have HL : Hid (zs ++ [34] ++ E = L) := hL
      clear hL
      have hbr : base ≤ wr.heap.size := Nat.le_trans hbase HBr.out.size
      by_cases y1 : y = 34
      · subst y1
        have HN : Hid (zs ++ [34] ++ encBody ((sb s).take (k + 1)) = L ++ [92, 34]) := by show _ = _; rw [HT.out, ← HL.out]; simp [encB]
        clear HT hr0
        as_aux_lemma =>
          go_wp2_with (first | (at_builtin; refine app_lits _ _ rfl (.tmp 21) (.tmp 22) rfl base _ L [92, 34] rfl HOr.out _ _ rfl rfl rfl (by omega) hbr ?_; intro v2 w2 hown2 hb2))
          go_roundg (s.size - (k + 1))
          case measure => omega
          case rel => exact ⟨k + 1, by go_num, by omega, rfl, by rw [HN.out]; exact hown2, HBr.out.trans hb2⟩
      · have e1 : (y == 34) = false := by simpa using y1
        by_cases y2 : y = 92
        · subst y2
          have HN : Hid (zs ++ [34] ++ encBody ((sb s).take (k + 1)) = L ++ [92, 92]) := by show _ = _; rw [HT.out, ← HL.out]; simp [encB]
          clear HT hr0
          as_aux_lemma =>
            go_wp2_with (first | (at_builtin; refine app_lits _ _ rfl (.tmp 26) (.tmp 27) rfl base _ L [92, 92] rfl HOr.out _ _ rfl rfl rfl (by omega) hbr ?_; intro v2 w2 hown2 hb2))
            go_roundg (s.size - (k + 1))
            case measure => omega
            case rel => exact ⟨k + 1, by go_num, by omega, rfl, by rw [HN.out]; exact hown2, HBr.out.trans hb2⟩
        · have e2 : (y == 92) = false := by simpa using y2
          by_cases y3 : y < 32
          · have HN : Hid (zs ++ [34] ++ encBody ((sb s).take (k + 1)) = L ++ [92, 117, 48, 48, hexd (y / 16), hexd (y % 16)]) := by show _ = _; rw [HT.out, ← HL.out]; simp [encB, y1, y2, y3]
            clear HT
            generalize hx1 : hexd (y / 16) = x1 at HN
            generalize hx2 : hexd (y % 16) = x2 at HN
            have HX1 : Hid (hexd (y / 16) = x1) := hx1
            have HX2 : Hid (hexd (y % 16) = x2) := hx2
            clear hx1 hx2
            go_wp2_with fail
            refine (hex_any (y / 16) wr (by omega) (by omega)).mono ?_
            rintro e w3 ⟨rfl, rfl⟩
            rw [HX1.out]
            go_wp2_with fail
            refine (hex_any (y % 16) w3 (by omega) (by omega)).mono ?_
            rintro e w4 ⟨rfl, rfl⟩
            rw [HX2.out]
            go_wp2_with (first | (at_builtin; (refine app_lits w4 _ rfl (.tmp 31) (.tmp 38) rfl base u0 L [92, 117, 48, 48, x1, x2] rfl HOr.out 6 6 rfl rfl rfl (by omega) hbr ?_); intro v2 w2 hown2 hb2; clear HX1 HX2 hr0 y1 y2 y3 e1 e2))
            go_roundg (s.size - (k + 1))
            case measure => omega
            case rel => exact ⟨k + 1, by go_num, by omega, rfl, by rw [HN.out]; exact hown2, HBr.out.trans hb2⟩
          · have HN : Hid (zs ++ [34] ++ encBody ((sb s).take (k + 1)) = L ++ [y]) := by show _ = _; rw [HT.out, ← HL.out]; simp [encB, y1, y2, y3]
            have e3 : decide (y < 32) = false := by simpa using y3
            clear HT hr0
            as_aux_lemma =>
              go_wp2_with (first | (at_builtin; refine app_lits _ _ rfl (.tmp 40) (.tmp 42) rfl base _ L [y] rfl HOr.out _ _ rfl rfl rfl (by omega) hbr ?_; intro v2 w2 hown2 hb2))
              go_roundg (s.size - (k + 1))
              case measure => omega
              case rel => exact ⟨k + 1, by go_num, by omega, rfl, by rw [HN.out]; exact hown2, HBr.out.trans hb2⟩
    · obtain rfl : k = s.size := by omega
      have e0 : decide ((s.size : Int) < (s.size : Int)) = false := by simp
      have hl1 : (zs ++ [34] ++ encBody ((sb s).take s.size)).length + 6 ≤ 1073741824 := by
        simp only [List.length_append, List.length_cons, List.length_nil]
        have := HLN.out
        omega
      have HN : Hid (zs ++ enc (sb s) = zs ++ [34] ++ encBody ((sb s).take s.size) ++ [34]) := by
        show _ = _
        rw [← sb_len, List.take_length]
        simp [enc]
      have hbr : base ≤ wr.heap.size := Nat.le_trans hbase HBr.out.size
      generalize hL : zs ++ [34] ++ encBody ((sb s).take s.size) = L at HOr hl1 HN
      clear hL HLN
      as_aux_lemma =>
        go_wp2_with (first | (at_builtin; refine app_lits _ _ rfl (.tmp 44) (.tmp 45) rfl base _ L [34] rfl HOr.out _ _ rfl rfl rfl (by omega) hbr ?_; intro v2 w2 hown2 hb2))
        go_ret
        exact ⟨v2, rfl, by rw [HN.out]; exact hown2, HBr.out.trans hb2⟩
end Go.Proofs.Qxb6000575a
