import Derived.Test.Qxb6000575aM
set_option linter.unusedVariables false
namespace Go.Proofs.Qxb6000575a
open Go.RowKit

theorem len_snoc {es : List (List Int)} {e : List Int} {m m' : Nat} (h : m + 1 ≤ m') (h1 : es.length ≤ m) : (es ++ [e]).length ≤ m' := by simp; omega
theorem flat_snoc {es : List (List Int)} {e : List Int} {m m' : Nat} (h : m + e.length ≤ m') (h1 : es.flatten.length ≤ m) : (es ++ [e]).flatten.length ≤ m' := by
  rw [List.flatten_append, List.length_append, List.flatten_cons, List.flatten_nil, List.append_nil]; omega

theorem jn_len : ∀ (i : Nat) (es : List (List Int)), (jn i es).length ≤ 3 * es.length + es.flatten.length
  | i, [] => by simp [jn]
  | i, e :: es => by
    have ih := jn_len (i + 1) es
    rw [jn, List.length_append, List.length_append, List.flatten_cons, List.length_append, List.length_cons]
    split
    · simp only [List.length_cons, List.length_nil]; omega
    · simp only [List.length_nil]; omega
theorem jn_len_take (es : List (List Int)) (k : Nat) : (jn 0 (es.take k)).length ≤ 3 * es.length + es.flatten.length := by
  have h1 := jn_len 0 (es.take k)
  have h2 : (es.take k).length ≤ es.length := by rw [List.length_take]; omega
  have h3 : es.flatten.length = (es.take k).flatten.length + (es.drop k).flatten.length := by rw [← List.length_append, ← List.flatten_append, List.take_append_drop]
  omega
theorem elem_len (es : List (List Int)) (i : Nat) (h : i < es.length) : (es.getD i []).length ≤ es.flatten.length := by
  have h3 : es = es.take i ++ es.getD i [] :: es.drop (i + 1) := by
    rw [List.getD_eq_getElem?_getD, List.getElem?_eq_getElem h, Option.getD_some, ← List.drop_eq_getElem_cons h, List.take_append_drop]
  have := congrArg (fun l : List (List Int) => l.flatten.length) h3
  simp only [List.flatten_append, List.flatten_cons, List.length_append] at this
  omega

theorem jn_rng : ∀ (es : List (List Int)) (i : Nat), (∀ e ∈ es, ∀ z ∈ e, 0 ≤ z ∧ z < 256) → ∀ z ∈ jn i es, 0 ≤ z ∧ z < 256
  | [], i, h, z, hz => by cases hz
  | e :: es, i, h, z, hz => by
    rw [jn, List.mem_append, List.mem_append] at hz
    rcases hz with (hz | hz) | hz
    · have h1 := wsb_rng i
      have h2 := wsb_rng (i + 1)
      split at hz
      · simp at hz; omega
      · cases hz
    · exact h e (List.mem_cons_self ..) z hz
    · exact jn_rng es (i + 1) (fun e' he' => h e' (List.mem_cons_of_mem _ he')) z hz

theorem Els.shape {w : World} {B : Nat} {v : Value} {es : List (List Int)} {vs : List Value} (h : Els w B v es vs) : ∃ (ge : Nat) (ae : Option Addr) (ce : Nat), v = .slice ae es.length ce ∧ (0 < es.length → ae = some ⟨ge, 0, none⟩ ∧ ge < w.heap.size) ∧ es.length ≤ ce ∧ ∀ i, i < es.length → w.cell? ⟨ge, i, none⟩ = vs[i]? := by
  have hh := h.row
  obtain ⟨_, ⟨rfl, hn⟩ | ⟨g, cap, cur, rfl, hb, hblk, hnc, _, _, _⟩⟩ := h.row
  · exact ⟨0, none, 0, by rw [hn], fun h => absurd h (by omega), by omega, fun i hi => by omega⟩
  · exact ⟨g, _, cap, rfl, fun _ => ⟨rfl, lt_of_block hblk⟩, hnc, fun i hi => World.ownsRow.cellAt hh i (by omega)⟩

/-- Value at an element. -/
theorem value_elem (rb lb : Nat) (a : Option Addr) (n c i p L : Nat) (zs : List Int) (w : World) (hl : Line w lb a n zs) (hr : Dec w rb a n c i) (hb : 0 < n → lb < rb) (hn : n ≤ 268435456) (hi : i ≤ n) (hnc : n ≤ c) (hsk : Skip zs i p)
    (h34 : zs.getD p 0 = 34 → p + 1 + send (zs.drop (p + 1)) false = p + L) (h123 : zs.getD p 0 ≠ 123) (h91 : zs.getD p 0 ≠ 91) (hlit : zs.getD p 0 ≠ 34 → ∀ q, Lit zs p q → q = p + L) (hlt : p + L < n) :
    Calls Try.prog 24 #[.pointer (some ⟨rb, 0, none⟩)] w (Got rb lb a n c p (fun q => q = p + L) w) :=
  value_any rb lb a n c i p zs w hl hr hb hn hi hnc hsk (fun q => q = p + L) (fun _ _ => False) (fun _ h => h34 h) (fun _ h => by rcases h with h | h; exact h123 h; exact h91 h) (fun _ _ _ _ h => h.elim) (fun _ h => h.elim)
    (fun h => hlit (h (by omega)).1)

/-- The reader stands ahead of the i-th element: only blanks between. -/
def At (Z : List Int) (es : List (List Int)) (i p : Nat) : Prop := p ≤ Z.length ∧ ∃ bs, (∀ b ∈ bs, sp b = true) ∧ Z.drop p = bs ++ es.getD i [] ++ tl (i + 1) (es.drop (i + 1))

theorem drop_getD' (es : List (List Int)) (i : Nat) (h : i < es.length) : es.drop i = es.getD i [] :: es.drop (i + 1) := by
  rw [List.drop_eq_getElem_cons h, List.getD_eq_getElem?_getD, List.getElem?_eq_getElem h]; rfl

theorem sp_ws (i : Nat) : sp (wsb i) = true := sp_of (wsb_is i)
theorem sp_wsl (s k : Nat) : ∀ b ∈ wsl s k, sp b = true := by
  intro b hb
  simp only [wsl, List.mem_map] at hb
  obtain ⟨i, _, rfl⟩ := hb
  exact sp_ws _

theorem at_start (Z : List Int) (es : List (List Int)) (lN : Nat) (hZ : Z = [91] ++ wsl 2 lN ++ jn 0 es ++ [wsb 0, 93]) (h0 : 0 < es.length) : At Z es 0 1 := by
  refine ⟨by rw [hZ]; simp, wsl 2 lN, sp_wsl _ _, ?_⟩
  have h1 := drop_getD' es 0 h0
  rw [List.drop_zero] at h1
  have h2 : jn 0 es = es.getD 0 [] ++ jn 1 (es.drop 1) := by
    have h4 := congrArg (jn 0) h1
    rw [h4, jn]; simp
  have h3 := jn_tl 1 (es.drop 1) (by omega)
  rw [hZ, h2]
  have : [91] ++ wsl 2 lN ++ (es.getD 0 [] ++ jn 1 (es.drop 1)) ++ [wsb 0, 93] = 91 :: (wsl 2 lN ++ es.getD 0 [] ++ (jn 1 (es.drop 1) ++ [32, 93])) := by
    rw [show wsb 0 = 32 from rfl]; simp
  rw [this, h3]
  rfl

theorem at_empty (Z : List Int) (lN : Nat) (hZ : Z = [91] ++ wsl 2 lN ++ jn 0 [] ++ [wsb 0, 93]) : Skip Z 1 (lN + 2) ∧ Z.getD (lN + 2) 0 = 93 ∧ Z.length = lN + 3 := by
  have hlen : Z.length = lN + 3 := by rw [hZ]; simp [jn, wsl_len]
  have hZ' : Z = 91 :: ((wsl 2 lN ++ [wsb 0]) ++ [93]) := by rw [hZ]; simp [jn]
  have hl : (wsl 2 lN ++ [wsb 0]).length = lN + 1 := by simp [wsl_len]
  have h93 : Z.getD (lN + 2) 0 = 93 := by
    rw [hZ', show lN + 2 = (lN + 1) + 1 by omega, List.getD_cons_succ, List.getD_eq_getElem?_getD, List.getElem?_append_right (by omega), hl, Nat.sub_self]
    rfl
  refine ⟨⟨by omega, by omega, fun t h1 h2 => ?_, fun _ => by rw [h93]; rfl⟩, h93, hlen⟩
  obtain ⟨t', rfl⟩ : ∃ t', t = t' + 1 := ⟨t - 1, by omega⟩
  have ht : t' < (wsl 2 lN ++ [wsb 0]).length := by omega
  rw [hZ', List.getD_cons_succ, List.getD_eq_getElem?_getD, List.getElem?_append_left ht, List.getElem?_eq_getElem ht]
  have hm := List.getElem_mem ht
  rcases List.mem_append.1 hm with h | h
  · exact sp_wsl _ _ _ h
  · simp only [Option.getD_some]
    rw [List.mem_singleton.1 h]; exact sp_ws 0

theorem at_step (Z : List Int) (es : List (List Int)) (i p : Nat) (hi : i < es.length) (hok : ∀ e ∈ es, IsElem e) (h : At Z es i p) :
    ∃ p', Skip Z p p' ∧ p' + (es.getD i []).length < Z.length ∧ (Z.getD p' 0 = 34 → p' + 1 + send (Z.drop (p' + 1)) false = p' + (es.getD i []).length) ∧ Z.getD p' 0 ≠ 123 ∧ Z.getD p' 0 ≠ 91 ∧ (Z.getD p' 0 ≠ 34 → ∀ q, Lit Z p' q → q = p' + (es.getD i []).length) ∧
      (∀ t, t < (es.getD i []).length → Z.getD (p' + t) 0 = (es.getD i []).getD t 0) ∧ Skip Z (p' + (es.getD i []).length) (p' + (es.getD i []).length + 1) ∧
      Z.getD (p' + (es.getD i []).length + 1) 0 = (if i + 1 = es.length then 93 else 44) ∧ p' + (es.getD i []).length + 2 ≤ Z.length ∧
      (i + 1 < es.length → At Z es (i + 1) (p' + (es.getD i []).length + 2)) ∧ (i + 1 = es.length → p' + (es.getD i []).length + 2 = Z.length) := by
  obtain ⟨hp, bs, hbs, hd⟩ := h
  have hmem : es.getD i [] ∈ es := by rw [List.getD_eq_getElem?_getD, List.getElem?_eq_getElem hi]; exact List.getElem_mem hi
  obtain ⟨y, r, hy, hdl⟩ := tl_head (i + 1) (es.drop (i + 1))
  obtain ⟨h1, h2, h3, h4, h5, h6, h7, h8⟩ := elem_law Z p bs (es.getD i []) _ hp hd hbs (hok _ hmem) y r hy hdl
  refine ⟨p + bs.length, h1, h2, h3, h4, h5, h6, h7, ?_⟩
  generalize p + bs.length + (es.getD i []).length = q at h2 h8
  by_cases hlast : i + 1 = es.length
  · rw [show es.drop (i + 1) = [] from List.drop_eq_nil_of_le (by omega)] at h8
    obtain ⟨k1, k2, k3, k4⟩ := next_law Z q 32 93 [] (by omega) h8 rfl rfl
    refine ⟨k1, by rw [if_pos hlast]; exact k2, k3, fun h => absurd h (by omega), fun _ => ?_⟩
    have := congrArg List.length k4
    rw [List.length_drop, List.length_nil] at this
    omega
  · have hi1 : i + 1 < es.length := by omega
    rw [drop_getD' es (i + 1) hi1] at h8
    obtain ⟨k1, k2, k3, k4⟩ := next_law Z q (wsb (i + 1)) 44 (wsb (i + 1 + 1) :: (es.getD (i + 1) [] ++ tl (i + 1 + 1) (es.drop (i + 1 + 1)))) (by omega) h8 (sp_ws _) rfl
    refine ⟨k1, by rw [if_neg hlast]; exact k2, k3, fun _ => ⟨k3, [wsb (i + 1 + 1)], fun b hb => ?_, ?_⟩, fun h => absurd h hlast⟩
    · rw [List.mem_singleton.1 hb]; exact sp_ws _
    · rw [k4]; simp
end Go.Proofs.Qxb6000575a
