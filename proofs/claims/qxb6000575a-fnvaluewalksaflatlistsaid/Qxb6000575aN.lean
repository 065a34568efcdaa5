import Derived.Test.Qxb6000575aL
import Derived.Test.Qxb6000575aD
set_option linter.unusedVariables false
namespace Go.Proofs.Qxb6000575a
open Go.RowKit

/-- An element's text: a string literal, or bytes of which none ends a literal and the first opens nothing. -/
structure IsElem (e : List Int) : Prop where
  rng : ∀ z ∈ e, 0 ≤ z ∧ z < 256
  is : (∃ s, (∀ c ∈ s, 0 ≤ c) ∧ e = enc s) ∨ (e ≠ [] ∧ (∀ z ∈ e, dl z = false) ∧ e.getD 0 0 ≠ 34 ∧ e.getD 0 0 ≠ 123 ∧ e.getD 0 0 ≠ 91)

theorem IsElem.pos {e : List Int} (h : IsElem e) : 0 < e.length := by
  rcases h.is with ⟨s, _, rfl⟩ | ⟨h, _⟩
  · simp [enc]
  · exact List.length_pos_iff.mpr h

theorem elem_enc (s : ByteArray) : IsElem (enc (sb s)) := ⟨enc_rng (sb_rng s), .inl ⟨_, fun c hc => (sb_rng s c hc).1, rfl⟩⟩
theorem digit_dl {z : Int} (h : digit z) : dl z = false ∧ 0 ≤ z ∧ z < 256 ∧ z ≠ 34 ∧ z ≠ 123 ∧ z ≠ 91 := by
  have : z ≠ 32 ∧ z ≠ 9 ∧ z ≠ 10 ∧ z ≠ 13 ∧ z ≠ 44 ∧ z ≠ 125 ∧ z ≠ 93 ∧ 0 ≤ z ∧ z < 256 ∧ z ≠ 34 ∧ z ≠ 123 ∧ z ≠ 91 := by rcases h with rfl | ⟨h1, h2⟩ <;> omega
  refine ⟨?_, this.2.2.2.2.2.2.2⟩
  simp [dl, this]
theorem elem_int {ds : List Int} (h0 : ds ≠ []) (h : ∀ z ∈ ds, digit z) : IsElem ds := by
  refine ⟨fun z hz => ⟨(digit_dl (h z hz)).2.1, (digit_dl (h z hz)).2.2.1⟩, .inr ⟨h0, fun z hz => (digit_dl (h z hz)).1, ?_⟩⟩
  cases ds with
  | nil => exact absurd rfl h0
  | cons d ds => exact (digit_dl (h d (List.mem_cons_self ..))).2.2.2
theorem elem_true : IsElem [116, 114, 117, 101] := ⟨by decide, .inr ⟨by decide, by decide, by decide⟩⟩
theorem elem_false : IsElem [102, 97, 108, 115, 101] := ⟨by decide, .inr ⟨by decide, by decide, by decide⟩⟩
theorem elem_null : IsElem [110, 117, 108, 108] := ⟨by decide, .inr ⟨by decide, by decide, by decide⟩⟩

theorem dl_sp {z : Int} (h : dl z = false) : sp z = false := by
  simp only [dl, Bool.or_eq_false_iff] at h
  simp [sp, h]

theorem getD_drop (zs : List Int) (p t : Nat) : zs.getD (p + t) 0 = (zs.drop p).getD t 0 := by
  rw [List.getD_eq_getElem?_getD, List.getD_eq_getElem?_getD, List.getElem?_drop]

/-- The reader at an element: behind blanks bs stands e; behind e what ends a literal. -/
theorem elem_law (Z : List Int) (p : Nat) (bs e rest : List Int) (hp : p ≤ Z.length) (hd : Z.drop p = bs ++ e ++ rest) (hbs : ∀ b ∈ bs, sp b = true) (he : IsElem e) (y : Int) (r : List Int) (hr : rest = y :: r) (hy : dl y = true) :
    Skip Z p (p + bs.length) ∧ p + bs.length + e.length < Z.length ∧ (Z.getD (p + bs.length) 0 = 34 → p + bs.length + 1 + send (Z.drop (p + bs.length + 1)) false = p + bs.length + e.length) ∧
      Z.getD (p + bs.length) 0 ≠ 123 ∧ Z.getD (p + bs.length) 0 ≠ 91 ∧ (Z.getD (p + bs.length) 0 ≠ 34 → ∀ q, Lit Z (p + bs.length) q → q = p + bs.length + e.length) ∧
      (∀ t, t < e.length → Z.getD (p + bs.length + t) 0 = e.getD t 0) ∧ Z.drop (p + bs.length + e.length) = rest := by
  have hpos := he.pos
  have hd1 : Z.drop (p + bs.length) = e ++ rest := by rw [← List.drop_drop, hd, List.append_assoc, List.drop_left]
  have hd2 : Z.drop (p + bs.length + e.length) = rest := by rw [← List.drop_drop, hd1, List.drop_left]
  have hlen : Z.length = p + bs.length + e.length + rest.length := by
    have := congrArg List.length hd
    simp only [List.length_drop, List.length_append] at this
    omega
  have hrl : 0 < rest.length := by rw [hr]; simp
  have hg : ∀ t, t < e.length → Z.getD (p + bs.length + t) 0 = e.getD t 0 := fun t ht => by
    rw [getD_drop, hd1, List.getD_eq_getElem?_getD, List.getElem?_append_left ht, List.getD_eq_getElem?_getD]
  have hg0 : Z.getD (p + bs.length) 0 = e.getD 0 0 := hg 0 hpos
  have hye : Z.getD (p + bs.length + e.length) 0 = y := by
    have := getD_drop Z (p + bs.length + e.length) 0
    rw [hd2, hr] at this
    exact this
  have hsk : ∀ (h : sp (e.getD 0 0) = false), Skip Z p (p + bs.length) := fun h => by
    refine ⟨by omega, by omega, fun t h1 h2 => ?_, fun _ => by rw [hg0]; exact h⟩
    have ht : t - p < bs.length := by omega
    rw [show t = p + (t - p) by omega, getD_drop, hd, List.append_assoc, List.getD_eq_getElem?_getD, List.getElem?_append_left ht, List.getElem?_eq_getElem ht]
    exact hbs _ (List.getElem_mem ht)
  rcases he.is with ⟨s, hs, hes⟩ | ⟨_, hall, h34, h123, h91⟩
  · have h0 : e.getD 0 0 = 34 := by rw [hes]; rfl
    refine ⟨hsk (by rw [h0]; rfl), by omega, fun _ => ?_, by rw [hg0, h0]; decide, by rw [hg0, h0]; decide, fun h => absurd (hg0.trans h0) h, hg, hd2⟩
    have hd3 : Z.drop (p + bs.length + 1) = encBody s ++ 34 :: rest := by
      rw [← List.drop_drop, hd1, hes]; simp [enc]
    rw [hd3, send_encBody s hs rest, hes]
    simp [enc]; omega
  · have hmem : ∀ t, t < e.length → e.getD t 0 ∈ e := fun t ht => by
      rw [List.getD_eq_getElem?_getD, List.getElem?_eq_getElem ht]; exact List.getElem_mem ht
    refine ⟨hsk (dl_sp (hall _ (hmem 0 hpos))), by omega, fun h => absurd (hg0.symm.trans h) h34, by rw [hg0]; exact h123, by rw [hg0]; exact h91, fun _ q hq => ?_, hg, hd2⟩
    rcases Nat.lt_trichotomy q (p + bs.length + e.length) with h | h | h
    · have h1 := hq.stop (by omega)
      have h2 := hq.ge
      have h3 := hg (q - (p + bs.length)) (by omega)
      rw [show p + bs.length + (q - (p + bs.length)) = q by omega] at h3
      rw [h3, hall _ (hmem _ (by omega))] at h1
      cases h1
    · exact h
    · have h1 := hq.all (p + bs.length + e.length) (by omega) h
      rw [hye, hy] at h1
      cases h1

/-- What stands behind an element: a blank and a comma, or a blank and the bracket. -/
theorem next_law (Z : List Int) (q : Nat) (b c : Int) (more : List Int) (hq : q ≤ Z.length) (hd : Z.drop q = b :: c :: more) (hb : sp b = true) (hc : sp c = false) :
    Skip Z q (q + 1) ∧ Z.getD (q + 1) 0 = c ∧ q + 2 ≤ Z.length ∧ Z.drop (q + 2) = more := by
  have hlen : Z.length = q + 2 + more.length := by
    have := congrArg List.length hd
    simp only [List.length_drop, List.length_cons] at this
    omega
  have h1 : Z.getD (q + 1) 0 = c := by rw [getD_drop, hd]; rfl
  have h0 : Z.getD q 0 = b := by
    have := getD_drop Z q 0
    rw [hd] at this
    exact this
  refine ⟨⟨by omega, by omega, fun t ht1 ht2 => ?_, fun _ => by rw [h1]; exact hc⟩, h1, by omega, by rw [← List.drop_drop, hd]; rfl⟩
  obtain rfl : t = q := by omega
  rw [h0]; exact hb

/-! ### the list's text -/
def jn : Nat → List (List Int) → List Int
  | _, [] => []
  | i, e :: es => (if 0 < i then [wsb i, 44, wsb (i + 1)] else []) ++ e ++ jn (i + 1) es
theorem jn_snoc (e : List Int) : ∀ (i : Nat) (l : List (List Int)), jn i (l ++ [e]) = jn i l ++ ((if 0 < i + l.length then [wsb (i + l.length), 44, wsb (i + l.length + 1)] else []) ++ e)
  | i, [] => by simp [jn]
  | i, x :: l => by
    have ih := jn_snoc e (i + 1) l
    rw [List.cons_append, jn, jn, ih, show i + 1 + l.length = i + (x :: l).length by simp; omega]
    simp
theorem jn_take (es : List (List Int)) (k : Nat) (h : k < es.length) : jn 0 (es.take (k + 1)) = jn 0 (es.take k) ++ ((if 0 < k then [wsb k, 44, wsb (k + 1)] else []) ++ es.getD k []) := by
  rw [List.take_add_one, List.getElem?_eq_getElem h, Option.toList_some, jn_snoc, List.length_take, List.getD_eq_getElem?_getD, List.getElem?_eq_getElem h, Nat.min_eq_left (by omega), Nat.zero_add]
  rfl

/-- What follows the i-th element: the rest of the list. -/
def tl : Nat → List (List Int) → List Int
  | _, [] => [32, 93]
  | i, e :: es => [wsb i, 44, wsb (i + 1)] ++ e ++ tl (i + 1) es
theorem jn_tl : ∀ (i : Nat) (es : List (List Int)), 0 < i → jn i es ++ [32, 93] = tl i es
  | i, [], _ => rfl
  | i, e :: es, h => by rw [jn, tl, if_pos h, List.append_assoc, jn_tl (i + 1) es (by omega)]
theorem tl_head (i : Nat) (es : List (List Int)) : ∃ y r, tl i es = y :: r ∧ dl y = true := by
  cases es with
  | nil => exact ⟨32, _, rfl, rfl⟩
  | cons e es => exact ⟨wsb i, _, rfl, by rcases wsb_is i with h | h | h | h <;> rw [h] <;> rfl⟩
end Go.Proofs.Qxb6000575a
