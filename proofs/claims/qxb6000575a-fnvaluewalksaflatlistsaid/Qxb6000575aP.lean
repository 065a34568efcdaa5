import Derived.WalkKit
set_option linter.unusedVariables false
namespace Go.Proofs.Qxb6000575a

/-- How many bytes from here up to and with the closing quote (or to the end); b: the byte before escapes this one. -/
def send : List Int → Bool → Nat
  | [], _ => 0
  | z :: zs, b => if b then 1 + send zs false else if z = 92 then 1 + send zs true else if z = 34 then 1 else 1 + send zs false

/-- Is the byte behind u escaped? -/
def par : Bool → List Int → Bool
  | b, [] => b
  | b, z :: zs => par (decide (z = 92) && !b) zs

theorem send_le : ∀ (zs : List Int) (b : Bool), send zs b ≤ zs.length
  | [], b => by simp [send]
  | z :: zs, b => by
    have h1 := send_le zs false
    have h2 := send_le zs true
    simp only [send, List.length_cons]
    split
    · omega
    · split
      · omega
      · split <;> omega

theorem send_none : ∀ (u : List Int) (b : Bool), (∀ z ∈ u, z ≠ 34) → send u b = u.length
  | [], b, h => by simp [send]
  | z :: u, b, h => by
    have hz := h z (List.mem_cons_self ..)
    have h1 := send_none u false (fun y hy => h y (List.mem_cons_of_mem _ hy))
    have h2 := send_none u true (fun y hy => h y (List.mem_cons_of_mem _ hy))
    simp only [send, List.length_cons, if_neg hz]
    split
    · omega
    · split <;> omega

theorem send_quote : ∀ (u rest : List Int) (b : Bool), (∀ z ∈ u, z ≠ 34) → send (u ++ 34 :: rest) b = if par b u then u.length + 1 + send rest false else u.length + 1
  | [], rest, b, h => by cases b <;> simp [send, par]
  | z :: u, rest, b, h => by
    have hz := h z (List.mem_cons_self ..)
    have hh : ∀ y ∈ u, y ≠ 34 := fun y hy => h y (List.mem_cons_of_mem _ hy)
    have h1 := send_quote u rest false hh
    have h2 := send_quote u rest true hh
    simp only [List.cons_append, send, if_neg hz, par, List.length_cons]
    cases b
    · by_cases h92 : z = 92
      · simp only [h92, h2]
        simp
        split <;> omega
      · simp only [h92, h1]
        simp
        split <;> omega
    · simp only [h1]
      simp
      split <;> omega

theorem par_append : ∀ (u v : List Int) (b : Bool), par b (u ++ v) = par (par b u) v
  | [], v, b => rfl
  | z :: u, v, b => by simp only [List.cons_append, par]; exact par_append u v _

theorem par_run : ∀ (k : Nat) (b : Bool), par b (List.replicate k 92) = (if k % 2 = 0 then b else !b)
  | 0, b => by simp [par]
  | k + 1, b => by
    rw [List.replicate_succ, par, par_run k]
    rcases Nat.mod_two_eq_zero_or_one k with h | h
    · have : (k + 1) % 2 = 1 := by omega
      simp [h, this]
    · have : (k + 1) % 2 = 0 := by omega
      simp [h, this]

/-- The run of backslashes ahead of the quote decides. -/
theorem par_tail (u : List Int) (k : Nat) (h : u = [] ∨ ∃ u' x, u = u' ++ [x] ∧ x ≠ 92) : par false (u ++ List.replicate k 92) = decide (k % 2 = 1) := by
  rw [par_append]
  have : par false u = false := by
    rcases h with rfl | ⟨u', x, rfl, hx⟩
    · rfl
    · rw [par_append]; simp [par, hx]
  rw [this, par_run]
  rcases Nat.mod_two_eq_zero_or_one k with h | h <;> simp [h]

/-- What a stretch of u, cut out of zs, looks like at its end: the stretch from i to e; from j + 1 on backslashes; at j none (or j + 1 = i). -/
theorem par_cut (zs : List Int) (i j e : Nat) (hij : i ≤ j) (hje : j ≤ e) (he : e ≤ zs.length) (hall : ∀ t, j ≤ t → t < e → zs.getD t 0 = 92) (hj : j = i ∨ zs.getD (j - 1) 0 ≠ 92) :
    par false ((zs.drop i).take (e - i)) = decide ((e - j) % 2 = 1) := by
  have hs : (zs.drop i).take (e - i) = (zs.drop i).take (j - i) ++ List.replicate (e - j) 92 := by
    apply List.ext_getElem
    · simp; omega
    · intro t h1 h2
      simp at h1
      rw [List.getElem_append]
      simp only [List.length_take, List.length_drop]
      split
      · simp
      · simp only [List.getElem_take, List.getElem_drop, List.getElem_replicate]
        have := hall (i + t) (by omega) (by omega)
        rw [List.getD_eq_getElem?_getD, List.getElem?_eq_getElem (by omega)] at this
        simpa using this
  rw [hs]
  apply par_tail
  rcases hj with rfl | hj
  · left; simp
  · by_cases h0 : j = i
    · left; subst h0; simp
    · right
      refine ⟨(zs.drop i).take (j - 1 - i), zs.getD (j - 1) 0, ?_, hj⟩
      have e1 : j - i = (j - 1 - i) + 1 := by omega
      rw [e1, List.take_add_one]
      congr 1
      rw [List.getElem?_drop, show i + (j - 1 - i) = j - 1 by omega, List.getElem?_eq_getElem (by omega), List.getD_eq_getElem?_getD, List.getElem?_eq_getElem (by omega)]
      rfl

/-- The scan's one round: from i the next quote stands at e. -/
theorem send_step (zs : List Int) (i e : Nat) (hie : i ≤ e) (he : e < zs.length) (hq : zs.getD e 0 = 34) (hno : ∀ t, i ≤ t → t < e → zs.getD t 0 ≠ 34) :
    send (zs.drop i) false = if par false ((zs.drop i).take (e - i)) then e - i + 1 + send (zs.drop (e + 1)) false else e - i + 1 := by
  have hs : zs.drop i = (zs.drop i).take (e - i) ++ 34 :: zs.drop (e + 1) := by
    have h1 : (zs.drop i).drop (e - i) = 34 :: zs.drop (e + 1) := by
      rw [List.drop_drop, show i + (e - i) = e by omega, List.drop_eq_getElem_cons he]
      rw [List.getD_eq_getElem?_getD, List.getElem?_eq_getElem he] at hq
      simp at hq
      rw [hq]
    rw [← h1, List.take_append_drop]
  have hl : ((zs.drop i).take (e - i)).length = e - i := by simp; omega
  have hno' : ∀ z ∈ (zs.drop i).take (e - i), z ≠ 34 := by
    intro z hz
    obtain ⟨t, ht, rfl⟩ := List.getElem_of_mem hz
    rw [hl] at ht
    simp only [List.getElem_take, List.getElem_drop]
    have := hno (i + t) (by omega) (by omega)
    rw [List.getD_eq_getElem?_getD, List.getElem?_eq_getElem (by omega)] at this
    simpa using this
  have := send_quote _ (zs.drop (e + 1)) false hno'
  rw [← hs, hl] at this
  exact this

theorem send_last (zs : List Int) (i : Nat) (hno : ∀ t, i ≤ t → t < zs.length → zs.getD t 0 ≠ 34) (hi : i ≤ zs.length) : send (zs.drop i) false = zs.length - i := by
  rw [send_none]
  · simp
  · intro z hz
    obtain ⟨t, ht, rfl⟩ := List.getElem_of_mem hz
    simp at ht
    simp only [List.getElem_drop]
    have := hno (i + t) (by omega) (by omega)
    rw [List.getD_eq_getElem?_getD, List.getElem?_eq_getElem (by omega)] at this
    simpa using this

/-! ### the encoder's text -/

def hexd (n : Int) : Int := if n < 10 then 48 + n else 87 + n

/-- One byte of a string, as the encoder writes it. -/
def encB (c : Int) : List Int := if c = 34 then [92, 34] else if c = 92 then [92, 92] else if c < 32 then [92, 117, 48, 48, hexd (c / 16), hexd (c % 16)] else [c]

def encBody (s : List Int) : List Int := s.flatMap encB
def enc (s : List Int) : List Int := 34 :: (encBody s ++ [34])

theorem hexd_range {n : Int} (h0 : 0 ≤ n) (h1 : n < 16) : 48 ≤ hexd n ∧ hexd n ≤ 102 ∧ hexd n ≠ 92 := by unfold hexd; split <;> omega

theorem send_encB (c : Int) (h0 : 0 ≤ c) (rest : List Int) : send (encB c ++ rest) false = (encB c).length + send rest false := by
  unfold encB
  split
  · simp [send]; omega
  · split
    · simp [send]; omega
    · split
      · have a := hexd_range (n := c / 16) (by omega) (by omega)
        have b := hexd_range (n := c % 16) (by omega) (by omega)
        have a1 : hexd (c / 16) ≠ 34 := by omega
        have b1 : hexd (c % 16) ≠ 34 := by omega
        simp [send, a.2.2, b.2.2, a1, b1]; omega
      · rename_i h1 h2 h3
        simp [send, h1, h2]

theorem send_encBody : ∀ (s : List Int), (∀ c ∈ s, 0 ≤ c) → ∀ rest, send (encBody s ++ 34 :: rest) false = (encBody s).length + 1
  | [], _, rest => by simp [encBody, send]
  | c :: s, h, rest => by
    have ih := send_encBody s (fun x hx => h x (List.mem_cons_of_mem _ hx)) rest
    simp only [encBody] at ih
    rw [encBody, List.flatMap_cons, List.append_assoc, send_encB c (h c (List.mem_cons_self ..)), ih]
    simp; omega
end Go.Proofs.Qxb6000575a
