import Derived.Test.Qxb6000575aN
set_option linter.unusedVariables false
namespace Go.Proofs.Qxb6000575a
open Go.RowKit

theorem info22 : (Try.prog.info? 22).map (fun i => (i.zero, i.size, i.bytes)) = some (some (.slice none 0 0), 1, 24) := by kernel_rfl

/-- The row of the elements: each cell a slice of bytes of the call's own, which reads as the element's text. -/
structure Els (w : World) (B : Nat) (v : Value) (es : List (List Int)) (vs : List Value) : Prop where
  row : w.ownsRow B 22 1 v es.length vs
  elt : ∀ i, i < es.length → ∃ x, vs[i]? = some x ∧ Own w B x (es.getD i [])
  ok : ∀ e ∈ es, IsElem e

theorem Els.below {w w' : World} {B D : Nat} {v : Value} {es : List (List Int)} {vs : List Value} (h : Els w B v es vs) (hb : Below D w w') (hD : w.heap.size ≤ D) : Els w' B v es vs :=
  ⟨ownsRow_below h.row hb hD, fun i hi => (h.elt i hi).elim fun x hx => ⟨x, hx.1, hx.2.below hb hD⟩, h.ok⟩

theorem own_oneCell {w : World} {B e size n : Nat} {v : Value} {xs : List Value} (h : w.ownsRow B e size v n xs) : v.oneCell' = true := by
  obtain ⟨_, ⟨rfl, _⟩ | ⟨g, cap, cur, rfl, _⟩⟩ := h <;> rfl

theorem blocks_apart {w : World} {B B' : Nat} {x v : Value} {zs : List Int} {n : Nat} {vs : List Value} (hx : Own w B x zs) (hv : w.ownsRow B' 22 1 v n vs) : x.ownBlock = none ∨ x.ownBlock ≠ v.ownBlock := by
  obtain ⟨_, ⟨rfl, _⟩ | ⟨g, cap, cur, rfl, _, hblk, _⟩⟩ := hx
  · left; rfl
  · right
    obtain ⟨_, ⟨rfl, _⟩ | ⟨g', cap', cur', rfl, _, hblk', _⟩⟩ := hv
    · intro h; cases h
    · intro h
      simp only [Value.ownBlock, Option.some.injEq] at h
      subst h
      rw [hblk] at hblk'
      simp at hblk'

set_option maxRecDepth 10000 in
/-- elems = append(elems, x). -/
theorem app_elem {ops : Array Oper} {rest : List Oper} {o : Oper} {a : Act} {Q : Exit → Act → World → Prop} (w : World) (hgd : o.guard = none) (s y : Operand)
    (ho : o.op = .call { callee := .builtin .append, args := #[s, y], argTypes := #[41, 41] }) (B : Nat) (v x : Value) (es : List (List Int)) (vs : List Value) (e : List Int) (hs : a.eval s = v) (hels : Els w B v es vs) (hx : Own w B x e) (he : IsElem e)
    (c A : Nat) (hy : a.eval y = .slice (some ⟨A, 0, none⟩) 1 c) (hA : A = w.heap.size) (hsm : es.length ≤ 1073741824) (hB : B ≤ w.heap.size)
    (h : ∀ v' w', Els w' B v' (es ++ [e]) (vs ++ [x]) → Below B w w' → wpList Try.prog ops Q rest (a.put o.dst v') w') : wpList Try.prog ops Q (o :: rest) a (w.alloc (.cells #[x] 22)) := by
  subst hA
  obtain ⟨i0, hi, hz0, hz1, hz2⟩ := info_parts info22
  have hels1 : Els (w.alloc (.cells #[x] 22)) B v es vs := hels.below ((Below.refl w.heap.size w).alloc (Nat.le_refl _) _) (Nat.le_refl _)
  have hx1 : Own (w.alloc (.cells #[x] 22)) B x e := hx.below ((Below.refl w.heap.size w).alloc (Nat.le_refl _) _) (Nat.le_refl _)
  refine wpList_append_own _ hgd s y 41 ho B 22 i0 (.slice none 0 0) 1 24 Try.underlying41 hi hz0 hz1 hz2 rfl (by decide) v es.length vs hs hels1.row ⟨w.heap.size, 0, none⟩ 1 c [x] hy rfl ?_ ?_ (by unfold maxLen; omega) (by omega) (by simp; omega) ?_
  · intro j u hj
    match j, hj with
    | 0, hj =>
      rw [Go.WideShapes.add_plain, World.cell?_alloc_at _ _ _ _ rfl]
      simpa using hj
  · intro u hu
    simp at hu
    subst hu
    exact own_oneCell hx
  · intro v' w' hown' hgr _
    refine h v' w' ⟨?_, fun i hi => ?_, fun e' he' => ?_⟩ ?_
    · rw [List.length_append]; exact hown'
    · have hvl : vs.length = es.length := by have := hels.row.1; omega
      by_cases hlt : i < es.length
      · obtain ⟨x', h1, h2⟩ := hels1.elt i hlt
        refine ⟨x', by rw [List.getElem?_append_left (by omega)]; exact h1, ?_⟩
        rw [List.getD_eq_getElem?_getD, List.getElem?_append_left hlt, ← List.getD_eq_getElem?_getD]
        exact World.ownsRow.kept h2 hgr (blocks_apart h2 hels1.row)
      · have hie : i = es.length := by rw [List.length_append, List.length_singleton] at hi; omega
        subst hie
        refine ⟨x, by rw [← hvl, List.getElem?_append_right (Nat.le_refl _), Nat.sub_self]; rfl, ?_⟩
        rw [List.getD_eq_getElem?_getD, List.getElem?_append_right (Nat.le_refl _), Nat.sub_self]
        exact World.ownsRow.kept hx1 hgr (blocks_apart hx1 hels1.row)
    · rcases List.mem_append.1 he' with h | h
      · exact hels.ok e' h
      · rw [List.mem_singleton.1 h]; exact he
    · exact ((Below.refl B w).alloc hB _).grown hgr (by simp; omega) (fun k hk => (hels.row.lt k hk).1)

/-- A literal's bytes. -/
theorem own_lit (w : World) (B : Nat) (zs : List Int) (cs : Array Value) (n : Nat) (hB : B ≤ w.heap.size) (hn : zs.length = n) (hsm : n ≤ 1000) (hcs : cs = (zs.map (Value.int .u8)).toArray) : Own (w.alloc (.cells cs 5)) B (.slice (some ⟨w.heap.size, 0, none⟩) n n) zs := by
  subst hn hcs
  have := World.ownsRow_lit (e := 5) (size := 1) (base := B) w (zs.map (Value.int .u8)).toArray zs.length hB (by unfold maxLen; omega) (by simp)
  exact this

/-- Numbers that came in. -/
structure Ints (k : IntKind) (w : World) (b off : Nat) (a : Option Addr) (n : Nat) (f : Nat → Int) : Prop where
  at_ : 0 < n → a = some ⟨b, off, none⟩
  cell : ∀ t, t < n → w.cell? ⟨b, off + t, none⟩ = some (.int k (f t))
  wf : ∀ t, t < n → (Lit.int k (f t)).wf = true

theorem Ints.below {k : IntKind} {w w' : World} {b off : Nat} {a : Option Addr} {n : Nat} {f : Nat → Int} {B : Nat} (h : Ints k w b off a n f) (hB : w.heap.size ≤ B) (hb : Below B w w') : Ints k w' b off a n f :=
  ⟨h.at_, fun t ht => (hb.cell (p := ⟨b, off + t, none⟩) (Nat.lt_of_lt_of_le (World.block_lt_of_cell? _ _ (h.cell t ht)) hB)).trans (h.cell t ht), h.wf⟩

set_option maxRecDepth 100000 in
set_option maxHeartbeats 2000000 in
theorem zzFlat_any (b off : Nat) (a a1 a2 : Option Addr) (n c n1 c1 n2 c2 : Nat) (f : Nat → ByteArray) (d : Int) (w : World) (hs : Strs w b off a n f) (hnm : n ≤ maxLen) (hnm1 : n1 ≤ maxLen) (hnm2 : n2 ≤ maxLen) :
    Calls Try.prog 26 #[.slice a n c, .slice a1 n1 c1, .slice a2 n2 c2, .int .i64 d] w fun e w' => w' = w ∧ ∃ r : Bool, e = .returned (.bool r) ∧ (r = true → n ≤ 1048576 ∧ n1 ≤ 1048576 ∧ n2 ≤ 1048576 ∧ ∀ t, t < n → (f t).size ≤ 1048576) := by
  have HS : Hid (Strs w b off a n f) := hs
  have hm1 : n1 ≤ 9223372036854775807 := hnm1
  have hm2 : n2 ≤ 9223372036854775807 := hnm2
  clear hs hnm1 hnm2
  by_cases hn : n ≤ 1048576
  · have b0 : decide ((1048576 : Int) < (n : Int)) = false := by simp; omega
    clear hnm
    go_enter Try.func26, Try.ntmps26
    go_wp2_with fail
    go_loopg [9, 10] n (fun g v6 v7 wr => ∃ (k T : Nat), v6 = .int .i64 T ∧ v7 = .int .i64 k ∧ k ≤ n ∧ T ≤ 1048576 ∧ g = n - k ∧ wr = w ∧ Hid (∀ t, t < k → (f t).size ≤ 1048576))
    case atStart => exact ⟨0, n, rfl, rfl, Nat.zero_le _, hn, rfl, rfl, fun t h => by omega⟩
    case round =>
      obtain ⟨k, T, rfl, rfl, hk, hT, hg, rfl, HK⟩ := hrel
      clear b0
      by_cases hlt : k < n
      · obtain rfl := HS.out.at_ (by omega)
        have hc := HS.out.cell k hlt
        have hm := HS.out.len k hlt
        obtain ⟨s, hs⟩ : ∃ s, s = f k := ⟨_, rfl⟩
        have HF : Hid (s = f k) := hs
        rw [← hs] at hc hm
        clear hs
        have hmm : s.size ≤ 9223372036854775807 := hm
        clear hm
        by_cases h1 : s.size ≤ 1048576
        · have c1 : decide ((1048576 : Int) < (s.size : Int)) = false := by simp; omega
          by_cases h2 : T + s.size ≤ 1048576
          · have c2 : decide ((1048576 : Int) < (T : Int) + (s.size : Int)) = false := by simp; omega
            go_wp2_with fail
            go_roundg (n - (k + 1))
            case measure => omega
            case rel =>
              refine ⟨k + 1, T + s.size, by go_num, by go_num, by omega, h2, rfl, rfl, fun t h => ?_⟩
              by_cases e : t = k
              · subst e; rw [← HF.out]; exact h1
              · exact HK.out t (by omega)
          · have c2 : decide ((1048576 : Int) < (T : Int) + (s.size : Int)) = true := by simp; omega
            go_wp2_with fail
            go_ret
            exact ⟨rfl, false, rfl, fun h => by cases h⟩
        · have c1 : decide ((1048576 : Int) < (s.size : Int)) = true := by simp; omega
          go_wp2_with fail
          go_ret
          exact ⟨rfl, false, rfl, fun h => by cases h⟩
      · obtain rfl : k = n := by omega
        have c1 : decide ((k : Int) < (k : Int)) = false := by simp
        by_cases g1 : n1 ≤ 1048576
        · by_cases g2 : T + n1 ≤ 1048576
          · by_cases g3 : n2 ≤ 1048576
            · by_cases g4 : T + n1 + n2 ≤ 1048576
              · go_wp2_with fail
                go_ret
                exact ⟨rfl, true, rfl, fun _ => ⟨hn, g1, g3, HK.out⟩⟩
              · go_wp2_with fail
                go_ret
                exact ⟨rfl, false, rfl, fun h => by cases h⟩
            · go_wp2_with fail
              go_ret
              exact ⟨rfl, false, rfl, fun h => by cases h⟩
          · go_wp2_with fail
            go_ret
            exact ⟨rfl, false, rfl, fun h => by cases h⟩
        · go_wp2_with fail
          go_ret
          exact ⟨rfl, false, rfl, fun h => by cases h⟩
  · have b0 : decide ((1048576 : Int) < (n : Int)) = true := by simp; omega
    have hn2 : n ≤ 9223372036854775807 := hnm
    clear hnm
    go_enter Try.func26, Try.ntmps26
    go_wp2_with fail
    go_ret
    exact ⟨rfl, false, rfl, fun h => by cases h⟩
end Go.Proofs.Qxb6000575a
