import Derived.Test.Qxb6000449aProg
import Derived.WalkKit
import Derived.WalkSpells
import Derived.Handy
import Derived.WalkLawsBesides
import Derived.Deep.LoopGhost
import Derived.BigQuiet
import Derived.Deep.QuietTactic
import Derived.Deep.RegionHeld3
set_option linter.unusedVariables false
namespace Go.Proofs.Qxb6000449a
open Go.RowKit

/-- JSON's blank. -/
def sp (c : Int) : Bool := c == 32 || c == 9 || c == 13 || c == 10

/-- j: the first place from i on that is no blank. -/
structure Skip (zs : List Int) (i j : Nat) : Prop where
  ge : i ≤ j
  le : j ≤ zs.length
  all : ∀ t, i ≤ t → t < j → sp (zs.getD t 0) = true
  stop : j < zs.length → sp (zs.getD j 0) = false

theorem Skip.uniq {zs : List Int} {i j j' : Nat} (h : Skip zs i j) (h' : Skip zs i j') : j' = j := by
  rcases Nat.lt_trichotomy j j' with h1 | h1 | h1
  · have := h'.all j h.ge h1
    rw [h.stop (by have := h'.le; omega)] at this; cases this
  · exact h1.symm
  · have := h.all j' h'.ge h1
    rw [h'.stop (by have := h.le; omega)] at this; cases this

/-- What is known of the data's memory. -/
structure Line (w : World) (lb : Nat) (a : Option Addr) (n : Nat) (zs : List Int) : Prop where
  len : zs.length = n
  at_ : 0 < n → a = some ⟨lb, 0, none⟩
  cell : ∀ i, i < n → w.cell? ⟨lb, i, none⟩ = some (.int .u8 (zs.getD i 0))
  rng : ∀ z ∈ zs, 0 ≤ z ∧ z < 256

theorem Line.below {w w' : World} {lb : Nat} {a : Option Addr} {n : Nat} {zs : List Int} {B : Nat} (h : Line w lb a n zs) (hb : Below B w w') (hB : 0 < n → lb < B) : Line w' lb a n zs :=
  ⟨h.len, h.at_, fun i hi => (hb.cell (p := ⟨lb, i, none⟩) (hB (by omega))).trans (h.cell i hi), h.rng⟩

theorem Line.drewN {w : World} {lb : Nat} {a : Option Addr} {n : Nat} {zs : List Int} (h : Line w lb a n zs) (k : Nat) : Line (w.drewN k) lb a n zs := ⟨h.len, h.at_, h.cell, h.rng⟩

theorem Line.byte {w : World} {lb : Nat} {a : Option Addr} {n : Nat} {zs : List Int} (h : Line w lb a n zs) (t : Nat) : 0 ≤ zs.getD t 0 ∧ zs.getD t 0 < 256 := by
  by_cases ht : t < zs.length
  · simp only [List.getD, List.getElem?_eq_getElem ht, Option.getD_some]; exact h.rng _ (List.getElem_mem ht)
  · simp [List.getD, List.getElem?_eq_none (show zs.length ≤ t by omega)]

theorem below_drewN {B : Nat} {a w : World} (h : Below B a w) (n : Nat) : Below B a (w.drewN n) := h.trans ⟨rfl, rfl, rfl, Nat.le_refl _, fun _ _ => rfl⟩
theorem ret_bool {a b : Bool} (h : a = b) : Ending.returned (.bool a) = .returned (.bool b) := by rw [h]

theorem lawBlank_any (c : Int) (w : World) : Calls Try.prog 19 #[.int .u8 c] w fun e w' => e = .returned (.bool (sp c)) ∧ w' = w := by
  by_cases h1 : c = 32
  · subst h1
    go_enter Try.func19, Try.ntmps19
    go_wp2
    go_ret
    exact ⟨rfl, rfl⟩
  · have b1 : (c == 32) = false := by simpa using h1
    by_cases h2 : c = 9
    · subst h2
      go_enter Try.func19, Try.ntmps19
      go_wp2
      go_ret
      exact ⟨rfl, rfl⟩
    · have b2 : (c == 9) = false := by simpa using h2
      by_cases h3 : c = 13
      · subst h3
        go_enter Try.func19, Try.ntmps19
        go_wp2
        go_ret
        exact ⟨rfl, rfl⟩
      · have b3 : (c == 13) = false := by simpa using h3
        have HS : Hid (sp c = (c == 10)) := by show _ = _; simp [sp, b1, b2, b3]
        go_enter Try.func19, Try.ntmps19
        go_wp2
        go_ret
        exact ⟨by rw [HS.out]; rfl, rfl⟩

theorem isBlank_any (c : Int) (w : World) : Calls Try.prog 36 #[.int .u8 c] w fun e w' => e = .returned (.bool (sp c)) ∧ w' = w := by
  by_cases h1 : c = 32
  · subst h1
    go_enter Try.func36, Try.ntmps36
    go_wp2
    go_ret
    exact ⟨rfl, rfl⟩
  · have b1 : (c == 32) = false := by simpa using h1
    by_cases h2 : c = 9
    · subst h2
      go_enter Try.func36, Try.ntmps36
      go_wp2
      go_ret
      exact ⟨rfl, rfl⟩
    · have b2 : (c == 9) = false := by simpa using h2
      by_cases h3 : c = 13
      · subst h3
        go_enter Try.func36, Try.ntmps36
        go_wp2
        go_ret
        exact ⟨rfl, rfl⟩
      · have b3 : (c == 13) = false := by simpa using h3
        have HS : Hid (sp c = (c == 10)) := by show _ = _; simp [sp, b1, b2, b3]
        go_enter Try.func36, Try.ntmps36
        go_wp2
        go_ret
        exact ⟨by rw [HS.out]; rfl, rfl⟩

set_option maxHeartbeats 1000000 in
theorem lawSkip_any (lb : Nat) (a : Option Addr) (n c i : Nat) (zs : List Int) (w : World) (hl : Line w lb a n zs) (hn : n ≤ 1048576) (hi : i ≤ n) :
    Calls Try.prog 11 #[.slice a n c, .int .i64 i] w fun e w' => ∃ j : Nat, Skip zs i j ∧ e = .returned (.int .i64 j) ∧ w' = w := by
  have hlen := hl.len
  go_enter Try.func11, Try.ntmps11
  go_wp2_with fail
  go_loop [1] (fun v => ∃ j : Nat, v = .int .i64 j ∧ i ≤ j ∧ j ≤ n ∧ Hid (∀ t, i ≤ t → t < j → sp (zs.getD t 0) = true)) (fun v => n - (intOf v).toNat)
  case atStart => exact ⟨i, rfl, Nat.le_refl _, hi, fun t h1 h2 => by omega⟩
  case round =>
    obtain ⟨j, rfl, hij, hjn, HS⟩ := hrel
    by_cases hlt : j < n
    · have hc := hl.cell j hlt
      obtain rfl := hl.at_ (by omega)
      cases hsp : sp (zs.getD j 0) with
      | true =>
        have HSP : Hid (sp (zs.getD j 0) = true) := hsp
        generalize zs.getD j 0 = z at hc hsp
        go_wp2_with (first
          | (go_at_call 19; refine (lawBlank_any z _).mono ?_; rintro e w3 ⟨rfl, rfl⟩; rw [hsp]))
        go_round
        case rel =>
          refine ⟨j + 1, by go_num, by omega, by omega, fun t h1 h2 => ?_⟩
          by_cases e : t = j
          · subst e; exact HSP.out
          · exact HS.out t h1 (by omega)
        case measure => simp [intOf]; omega
      | false =>
        have HSP : Hid (sp (zs.getD j 0) = false) := hsp
        generalize zs.getD j 0 = z at hc hsp
        go_wp2_with (first
          | (go_at_call 19; refine (lawBlank_any z _).mono ?_; rintro e w3 ⟨rfl, rfl⟩; rw [hsp]))
        go_ret
        exact ⟨j, ⟨hij, by omega, HS.out, fun _ => HSP.out⟩, rfl, rfl⟩
    · have b1 : decide ((j : Int) < (n : Int)) = false := by simp; omega
      go_wp2
      go_ret
      exact ⟨j, ⟨hij, by omega, HS.out, fun h => absurd h (by omega)⟩, rfl, rfl⟩

set_option maxHeartbeats 1000000 in
theorem skip_any (lb : Nat) (a : Option Addr) (n c i : Nat) (zs : List Int) (w : World) (hl : Line w lb a n zs) (hn : n ≤ 1048576) (hi : i ≤ n) :
    Calls Try.prog 34 #[.slice a n c, .int .i64 i] w fun e w' => ∃ j : Nat, Skip zs i j ∧ e = .returned (.int .i64 j) ∧ w' = w := by
  have hlen := hl.len
  go_enter Try.func34, Try.ntmps34
  go_wp2_with fail
  go_loop [1] (fun v => ∃ j : Nat, v = .int .i64 j ∧ i ≤ j ∧ j ≤ n ∧ Hid (∀ t, i ≤ t → t < j → sp (zs.getD t 0) = true)) (fun v => n - (intOf v).toNat)
  case atStart => exact ⟨i, rfl, Nat.le_refl _, hi, fun t h1 h2 => by omega⟩
  case round =>
    obtain ⟨j, rfl, hij, hjn, HS⟩ := hrel
    by_cases hlt : j < n
    · have hc := hl.cell j hlt
      obtain rfl := hl.at_ (by omega)
      cases hsp : sp (zs.getD j 0) with
      | true =>
        have HSP : Hid (sp (zs.getD j 0) = true) := hsp
        generalize zs.getD j 0 = z at hc hsp
        go_wp2_with (first
          | (go_at_call 36; refine (isBlank_any z _).mono ?_; rintro e w3 ⟨rfl, rfl⟩; rw [hsp]))
        go_round
        case rel =>
          refine ⟨j + 1, by go_num, by omega, by omega, fun t h1 h2 => ?_⟩
          by_cases e : t = j
          · subst e; exact HSP.out
          · exact HS.out t h1 (by omega)
        case measure => simp [intOf]; omega
      | false =>
        have HSP : Hid (sp (zs.getD j 0) = false) := hsp
        generalize zs.getD j 0 = z at hc hsp
        go_wp2_with (first
          | (go_at_call 36; refine (isBlank_any z _).mono ?_; rintro e w3 ⟨rfl, rfl⟩; rw [hsp]))
        go_ret
        exact ⟨j, ⟨hij, by omega, HS.out, fun _ => HSP.out⟩, rfl, rfl⟩
    · have b1 : decide ((j : Int) < (n : Int)) = false := by simp; omega
      go_wp2
      go_ret
      exact ⟨j, ⟨hij, by omega, HS.out, fun h => absurd h (by omega)⟩, rfl, rfl⟩
end Go.Proofs.Qxb6000449a
