import Derived.Test.Qxb6000575aP
set_option linter.unusedVariables false
namespace Go.Proofs.Qxb6000575a

/-- One round of the walk through brackets: how far it goes, and the depth behind it. -/
def step : List Int → Int → Nat × Int
  | [], d => (0, d)
  | z :: zs, d => if z = 34 then (1 + send zs false, d) else if z = 123 ∨ z = 91 then (1, d + 1) else if z = 125 ∨ z = 93 then (1, d - 1) else (1, d)

abbrev Tok := List Int × Int
def flat (ts : List Tok) : List Int := ts.flatMap Prod.fst
def TokOk (t : Tok) : Prop := t.1 ≠ [] ∧ ∀ rest d, step (t.1 ++ rest) d = (t.1.length, d + t.2)
def Good : List Tok → Int → Prop
  | [], _ => False
  | t :: ts, d => TokOk t ∧ ((d + t.2 = 0 ∧ ts = []) ∨ (d + t.2 ≠ 0 ∧ Good ts (d + t.2)))
def Pos : List Tok → Int → Int → Prop
  | [], d, d' => d' = d
  | t :: ts, d, d' => TokOk t ∧ 0 < d + t.2 ∧ Pos ts (d + t.2) d'

theorem Pos.append : ∀ {ts us : List Tok} {d d' d'' : Int}, Pos ts d d' → Pos us d' d'' → Pos (ts ++ us) d d''
  | [], us, d, d', d'', h, k => by cases h; exact k
  | t :: ts, us, d, d', d'', h, k => ⟨h.1, h.2.1, Pos.append h.2.2 k⟩
theorem Pos.good : ∀ {ts us : List Tok} {d d' : Int}, Pos ts d d' → Good us d' → Good (ts ++ us) d
  | [], us, d, d', h, k => by cases h; exact k
  | t :: ts, us, d, d', h, k => ⟨h.1, .inr ⟨by have := h.2.1; omega, Pos.good h.2.2 k⟩⟩

theorem tok_open {z : Int} (h : z = 123 ∨ z = 91) : TokOk ([z], 1) := ⟨by simp, fun rest d => by rcases h with rfl | rfl <;> simp [step]⟩
theorem tok_close {z : Int} (h : z = 125 ∨ z = 93) : TokOk ([z], -1) := ⟨by simp, fun rest d => by rcases h with rfl | rfl <;> simp [step] <;> omega⟩
theorem tok_plain {z : Int} (h : z ≠ 34 ∧ z ≠ 123 ∧ z ≠ 91 ∧ z ≠ 125 ∧ z ≠ 93) : TokOk ([z], 0) := ⟨by simp, fun rest d => by simp [step, h]⟩
theorem tok_enc {s : List Int} (h : ∀ c ∈ s, 0 ≤ c) : TokOk (enc s, 0) := ⟨by simp [enc], fun rest d => by
  have := send_encBody s h rest
  simp [enc, step, this]; omega⟩

/-- The walk's relation: so many tokens are left. -/
def Left (zs tail : List Int) (q : Nat) (d : Int) : Prop := ∃ ts, zs.drop q = flat ts ++ tail ∧ Good ts d

theorem left_step {zs tail : List Int} {q : Nat} {d : Int} (h : Left zs tail q d) :
    let r := step (zs.drop q) d
    (r.2 = 0 → zs.drop (q + r.1) = tail) ∧ (r.2 ≠ 0 → Left zs tail (q + r.1) r.2) := by
  obtain ⟨ts, he, hg⟩ := h
  cases ts with
  | nil => exact hg.elim
  | cons t ts =>
    obtain ⟨⟨hne, hst⟩, hg⟩ := hg
    have e1 : zs.drop q = t.1 ++ (flat ts ++ tail) := by rw [he]; simp [flat]
    have e2 := hst (flat ts ++ tail) d
    rw [e1, e2]
    have e3 : zs.drop (q + t.1.length) = flat ts ++ tail := by rw [← List.drop_drop, e1]; simp
    refine ⟨fun h0 => ?_, fun h0 => ?_⟩
    · rcases hg with ⟨_, rfl⟩ | ⟨h1, _⟩
      · rw [e3]; simp [flat]
      · exact absurd h0 h1
    · rcases hg with ⟨h1, rfl⟩ | ⟨h1, h2⟩
      · exact absurd h1 h0
      · exact ⟨ts, e3, h2⟩

theorem left_some {zs tail : List Int} {q : Nat} {d : Int} (h : Left zs tail q d) : q < zs.length := by
  obtain ⟨ts, he, hg⟩ := h
  cases ts with
  | nil => exact hg.elim
  | cons t ts =>
    have hne := hg.1.1
    rcases Nat.lt_or_ge q zs.length with h | h
    · exact h
    · rw [List.drop_eq_nil_of_le h] at he
      simp [flat] at he
      exact absurd he.1 hne

/-! ### the nested text -/
def wsb (i : Nat) : Int := if i % 4 = 0 then 32 else if i % 4 = 1 then 9 else if i % 4 = 2 then 10 else 13
theorem wsb_is (i : Nat) : wsb i = 32 ∨ wsb i = 9 ∨ wsb i = 10 ∨ wsb i = 13 := by
  unfold wsb; split
  · simp
  · split
    · simp
    · split <;> simp
theorem tok_ws (i : Nat) : TokOk ([wsb i], 0) := tok_plain (by have := wsb_is i; omega)

def openT (d : Nat) : List Tok := if d % 2 = 0 then [([91], 1)] else [([123], 1), ([34, 107, 34], 0), ([58], 0)]
def openB (d : Nat) : List Int := if d % 2 = 0 then [91] else [123, 34, 107, 34, 58]
def closeB (d : Nat) : Int := if d % 2 = 0 then 93 else 125
def opens (k : Nat) : List Int := (List.range k).flatMap openB
def itemB (i : Nat) (s : List Int) : List Int := (if 0 < i then [44, wsb i] else []) ++ enc s
def itemT (i : Nat) (s : List Int) : List Tok := (if 0 < i then [([44], 0), ([wsb i], 0)] else []) ++ [(enc s, 0)]
def itemsB (f : Nat → List Int) (k : Nat) : List Int := (List.range k).flatMap fun i => itemB i (f i)
def closes (depth k : Nat) : List Int := (List.range k).map fun i => closeB (depth - 1 - i)
def nest (f : Nat → List Int) (m depth : Nat) : List Int := opens depth ++ [91] ++ itemsB f m ++ [93] ++ closes depth depth

theorem pos_openT (d : Nat) (x : Int) (h : 0 ≤ x) : Pos (openT d) x (x + 1) ∧ flat (openT d) = openB d := by
  unfold openT openB
  split
  · exact ⟨⟨tok_open (.inr rfl), by show 0 < x + 1; omega, rfl⟩, rfl⟩
  · refine ⟨⟨tok_open (.inl rfl), by show 0 < x + 1; omega, ?_, by show 0 < x + 1 + 0; omega, tok_plain (by decide), by show 0 < x + 1 + 0 + 0; omega, by show x + 1 = x + 1 + 0 + 0; omega⟩, rfl⟩
    have := tok_enc (s := [107]) (by simp)
    exact this

theorem flat_append (a b : List Tok) : flat (a ++ b) = flat a ++ flat b := by simp [flat]

theorem pos_opens : ∀ k : Nat, ∃ ts, Pos ts 0 k ∧ flat ts = opens k
  | 0 => ⟨[], rfl, rfl⟩
  | k + 1 => by
    obtain ⟨ts, h1, h2⟩ := pos_opens k
    have h3 := pos_openT k k (by omega)
    refine ⟨ts ++ openT k, h1.append (by simpa using h3.1), ?_⟩
    rw [flat_append, h2, h3.2]
    simp [opens, List.range_succ]

theorem pos_itemT (i : Nat) (s : List Int) (hs : ∀ c ∈ s, 0 ≤ c) (x : Int) (h : 0 < x) : Pos (itemT i s) x x ∧ flat (itemT i s) = itemB i s := by
  unfold itemT itemB
  split
  · refine ⟨⟨tok_plain (by decide), by show 0 < x + 0; omega, tok_ws i, by show 0 < x + 0 + 0; omega, tok_enc hs, by show 0 < x + 0 + 0 + 0; omega, by show x = x + 0 + 0 + 0; omega⟩, by simp [flat]⟩
  · exact ⟨⟨tok_enc hs, by show 0 < x + 0; omega, by show x = x + 0; omega⟩, by simp [flat]⟩

theorem pos_items (f : Nat → List Int) (x : Int) (h : 0 < x) : ∀ k : Nat, (∀ i, i < k → ∀ c ∈ f i, 0 ≤ c) → ∃ ts, Pos ts x x ∧ flat ts = itemsB f k
  | 0, _ => ⟨[], rfl, rfl⟩
  | k + 1, hf => by
    obtain ⟨ts, h1, h2⟩ := pos_items f x h k (fun i hi => hf i (by omega))
    have h3 := pos_itemT k (f k) (hf k (by omega)) x h
    refine ⟨ts ++ itemT k (f k), h1.append h3.1, ?_⟩
    rw [flat_append, h2, h3.2]
    simp [itemsB, List.range_succ]

theorem good_closes : ∀ (bs : List Int), (∀ b ∈ bs, b = 125 ∨ b = 93) → bs ≠ [] → Good (bs.map fun b => ([b], (-1 : Int))) bs.length
  | [], _, h => absurd rfl h
  | b :: bs, hb, _ => by
    refine ⟨tok_close (hb b (List.mem_cons_self ..)), ?_⟩
    by_cases h0 : bs = []
    · subst h0; left; simp
    · right
      have := good_closes bs (fun x hx => hb x (List.mem_cons_of_mem _ hx)) h0
      have hl : 0 < bs.length := List.length_pos_iff.mpr h0
      have e : (((b :: bs).length : Nat) : Int) + (-1) = (bs.length : Int) := by simp; omega
      show (((b :: bs).length : Nat) : Int) + (-1) ≠ 0 ∧ Good (bs.map fun b => ([b], (-1 : Int))) ((((b :: bs).length : Nat) : Int) + (-1))
      rw [e]
      exact ⟨by omega, this⟩

theorem flat_ones (bs : List Int) : flat (bs.map fun b => ([b], (-1 : Int))) = bs := by
  induction bs with
  | nil => rfl
  | cons b bs ih => simp only [List.map_cons, flat, List.flatMap_cons] at ih ⊢; rw [ih]; rfl

theorem left_nest (f : Nat → List Int) (m depth : Nat) (hf : ∀ i, i < m → ∀ c ∈ f i, 0 ≤ c) (pre tail : List Int) : Left (pre ++ nest f m depth ++ tail) tail pre.length 0 := by
  obtain ⟨t1, p1, f1⟩ := pos_opens depth
  obtain ⟨t2, p2, f2⟩ := pos_items f ((depth : Int) + 1) (by omega) m hf
  have hcl : ∀ b ∈ (93 : Int) :: closes depth depth, b = 125 ∨ b = 93 := by
    intro b hb
    rcases List.mem_cons.1 hb with rfl | hb
    · right; rfl
    · simp only [closes, List.mem_map] at hb
      obtain ⟨i, _, rfl⟩ := hb
      unfold closeB; split
      · right; rfl
      · left; rfl
  have g := good_closes _ hcl (by simp)
  have hlen : (((93 : Int) :: closes depth depth).length : Int) = (depth : Int) + 1 := by simp [closes]
  rw [hlen] at g
  have p3 : Pos (t1 ++ [([91], 1)]) 0 ((depth : Int) + 1) := p1.append ⟨tok_open (.inr rfl), by show 0 < (depth : Int) + 1; omega, rfl⟩
  refine ⟨(t1 ++ [([91], 1)]) ++ t2 ++ _, ?_, (p3.append p2).good g⟩
  rw [flat_append, flat_append, flat_append, flat_ones, f1, f2]
  rw [List.append_assoc, List.drop_left]
  simp [nest, flat]
end Go.Proofs.Qxb6000575a
