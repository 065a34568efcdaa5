import Derived.Test.Qxb6000575aH
set_option linter.unusedVariables false
namespace Go.Proofs.Qxb6000575a
open Go.RowKit

/-- The strings that came in. -/
structure Strs (w : World) (b off : Nat) (a : Option Addr) (n : Nat) (f : Nat → ByteArray) : Prop where
  at_ : 0 < n → a = some ⟨b, off, none⟩
  cell : ∀ t, t < n → w.cell? ⟨b, off + t, none⟩ = some (.string (f t))
  len : ∀ t, t < n → (f t).size ≤ maxLen

theorem Strs.below {w w' : World} {b off : Nat} {a : Option Addr} {n : Nat} {f : Nat → ByteArray} {B : Nat} (h : Strs w b off a n f) (hB : w.heap.size ≤ B) (hb : Below B w w') : Strs w' b off a n f :=
  ⟨h.at_, fun t ht => (hb.cell (p := ⟨b, off + t, none⟩) (Nat.lt_of_lt_of_le (World.block_lt_of_cell? _ _ (h.cell t ht)) hB)).trans (h.cell t ht), h.len⟩

def sumS (f : Nat → ByteArray) : Nat → Nat
  | 0 => 0
  | k + 1 => sumS f k + (f k).size
theorem sumS_mono (f : Nat → ByteArray) : ∀ {k n : Nat}, k ≤ n → sumS f k ≤ sumS f n
  | k, 0, h => by obtain rfl : k = 0 := by omega
                  exact Nat.le_refl _
  | k, n + 1, h => by
    by_cases e : k = n + 1
    · subst e; exact Nat.le_refl _
    · have := sumS_mono f (show k ≤ n by omega)
      simp only [sumS]; omega

theorem enc_len (l : List Int) : (enc l).length ≤ 6 * l.length + 2 := by
  have := encBody_len l
  simp [enc]; omega
theorem itemsB_succ (f : Nat → List Int) (k : Nat) : itemsB f (k + 1) = itemsB f k ++ itemB k (f k) := by simp [itemsB, List.range_succ]
theorem opens_succ (k : Nat) : opens (k + 1) = opens k ++ openB k := by simp [opens, List.range_succ]
theorem closes_succ (depth k : Nat) : closes depth (k + 1) = closes depth k ++ [closeB (depth - 1 - k)] := by simp [closes, List.range_succ]
theorem itemsB_len (f : Nat → ByteArray) : ∀ k, (itemsB (fun i => sb (f i)) k).length ≤ 4 * k + 6 * sumS f k
  | 0 => by simp [itemsB]
  | k + 1 => by
    have ih := itemsB_len f k
    have h := enc_len (sb (f k))
    rw [sb_len] at h
    rw [itemsB_succ, List.length_append, itemB, List.length_append, sumS]
    split
    · simp only [List.length_cons, List.length_nil]; omega
    · simp only [List.length_nil]; omega
theorem opens_len : ∀ k, (opens k).length ≤ 5 * k
  | 0 => by simp [opens]
  | k + 1 => by
    have ih := opens_len k
    rw [opens_succ, List.length_append]
    have : (openB k).length ≤ 5 := by unfold openB; split <;> simp
    omega
theorem closes_len (depth k : Nat) : (closes depth k).length = k := by simp [closes]

def wsl (s k : Nat) : List Int := (List.range k).map fun i => wsb (i + s)
theorem wsl_succ (s k : Nat) : wsl s (k + 1) = wsl s k ++ [wsb (k + s)] := by simp [wsl, List.range_succ]
theorem wsl_len (s k : Nat) : (wsl s k).length = k := by simp [wsl]
theorem wsb_rng (i : Nat) : 0 ≤ wsb i ∧ wsb i < 256 := by have := wsb_is i; omega

/-- From what is owned to what is known of its cells. -/
theorem Own.line {w : World} {base : Nat} {v : Value} {zs : List Int} (h : Own w base v zs) (h0 : 0 < zs.length) (hr : ∀ z ∈ zs, 0 ≤ z ∧ z < 256) :
    ∃ g cap, v = .slice (some ⟨g, 0, none⟩) zs.length cap ∧ base ≤ g ∧ g < w.heap.size ∧ zs.length ≤ cap ∧ Line w g (some ⟨g, 0, none⟩) zs.length zs := by
  have hh := h
  obtain ⟨_, ⟨_, hn⟩ | ⟨g, cap, cur, rfl, hb, hblk, hnc, _, _, _⟩⟩ := h
  · omega
  · refine ⟨g, cap, rfl, hb, lt_of_block hblk, hnc, rfl, fun _ => rfl, fun i hi => ?_, hr⟩
    have := World.ownsRow.cellAt (show w.ownsRow base 5 1 (.slice (some ⟨g, 0, none⟩) zs.length cap) zs.length (zs.map (Value.int .u8)) from hh) i (by omega)
    rw [this, List.getElem?_map, List.getElem?_eq_getElem hi, List.getD_eq_getElem?_getD, List.getElem?_eq_getElem hi]
    rfl

/-! ### the ranges -/
theorem encB_rng {c : Int} (h : 0 ≤ c ∧ c < 256) : ∀ z ∈ encB c, 0 ≤ z ∧ z < 256 := by
  intro z hz
  unfold encB at hz
  split at hz
  · simp at hz; omega
  · split at hz
    · simp at hz; omega
    · split at hz
      · have a := hexd_range (n := c / 16) (by omega) (by omega)
        have b := hexd_range (n := c % 16) (by omega) (by omega)
        simp at hz; omega
      · simp at hz; omega
theorem enc_rng {l : List Int} (h : ∀ c ∈ l, 0 ≤ c ∧ c < 256) : ∀ z ∈ enc l, 0 ≤ z ∧ z < 256 := by
  intro z hz
  simp only [enc, encBody, List.mem_cons, List.mem_append, List.mem_flatMap, List.not_mem_nil, or_false] at hz
  rcases hz with rfl | ⟨c, hc, hz⟩ | rfl
  · omega
  · exact encB_rng (h c hc) z hz
  · omega
theorem nest_rng (f : Nat → ByteArray) (m depth : Nat) : ∀ z ∈ nest (fun i => sb (f i)) m depth, 0 ≤ z ∧ z < 256 := by
  intro z hz
  simp only [nest, opens, itemsB, closes, List.mem_append, List.mem_flatMap, List.mem_map, List.mem_cons, List.not_mem_nil, or_false, List.mem_range] at hz
  rcases hz with ((((⟨d, _, hz⟩ | rfl) | ⟨i, _, hz⟩) | rfl) | ⟨i, _, rfl⟩)
  · unfold openB at hz; split at hz
    · simp at hz; omega
    · simp at hz; omega
  · omega
  · simp only [itemB, List.mem_append] at hz
    rcases hz with hz | hz
    · split at hz
      · have := wsb_rng i
        simp at hz; omega
      · simp at hz
    · exact enc_rng (sb_rng _) z hz
  · omega
  · unfold closeB; split <;> omega
theorem wsl_rng (s k : Nat) : ∀ z ∈ wsl s k, 0 ≤ z ∧ z < 256 := by
  intro z hz
  simp only [wsl, List.mem_map] at hz
  obtain ⟨i, _, rfl⟩ := hz
  exact wsb_rng _
theorem nest_head (f : Nat → List Int) (m depth : Nat) : ∃ rest, nest f m depth = 91 :: rest := by
  cases depth with
  | zero => exact ⟨_, rfl⟩
  | succ d =>
    refine ⟨((List.range d).flatMap (openB ∘ Nat.succ)) ++ [91] ++ itemsB f m ++ [93] ++ closes (d + 1) (d + 1), ?_⟩
    simp [nest, opens, List.range_succ_eq_map, openB, List.flatMap_map, Function.comp_def]
end Go.Proofs.Qxb6000575a
