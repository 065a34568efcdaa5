import Derived.Test.Qxb6000449aC
import Derived.Test.Qxb6000449aD
set_option linter.unusedVariables false
namespace Go.Proofs.Qxb6000449a
open Go.RowKit

theorem num_sp {z : Int} (h : num z) : sp z = false := by
  have : z ≠ 32 ∧ z ≠ 9 ∧ z ≠ 13 ∧ z ≠ 10 := by rcases h with h | h | h | h | h | ⟨h, h'⟩ <;> omega
  simp [sp, this]
theorem num_ne {z : Int} (h : num z) (k : Int) (hk : k = 34 ∨ k = 123 ∨ k = 91 ∨ k = 44 ∨ k = 93 ∨ k = 125) : (z == k) = false := by
  have : z ≠ k := by rcases h with h | h | h | h | h | ⟨h, h'⟩ <;> omega
  simpa using this

set_option maxRecDepth 100000 in
set_option maxHeartbeats 2000000 in
theorem valueEnd_any (lb : Nat) (a : Option Addr) (n c p q : Nat) (zs : List Int) (w : World) (hl : Line w lb a n zs) (hn : n ≤ 1048576) (hpq : p < q) (hqn : q ≤ n) (hnum : Num zs p q) (hstop : q < n → sp (zs.getD q 0) = true ∨ zs.getD q 0 = 44 ∨ zs.getD q 0 = 93 ∨ zs.getD q 0 = 125) :
    Calls Try.prog 30 #[.slice a n c, .int .i64 p] w fun e w' => e = .returned (.int .i64 q) ∧ w' = w := by
  have HL : Hid (Line w lb a n zs) := hl
  have HN : Hid (Num zs p q) := hnum
  have HS : Hid (q < n → sp (zs.getD q 0) = true ∨ zs.getD q 0 = 44 ∨ zs.getD q 0 = 93 ∨ zs.getD q 0 = 125) := hstop
  have hcp := hl.cell p (by omega)
  obtain rfl := hl.at_ (by omega)
  have hzp := hnum p (Nat.le_refl _) hpq
  generalize zs.getD p 0 = z at hcp hzp
  have f1 := num_ne hzp 34 (by omega)
  have f2 := num_ne hzp 123 (by omega)
  have f3 := num_ne hzp 91 (by omega)
  have hpn : p < n := by omega
  clear hl hnum hstop hzp
  go_enter Try.func30, Try.ntmps30
  go_wp2_with fail
  go_loop [7] (fun v => ∃ j : Nat, v = .int .i64 j ∧ p ≤ j ∧ j ≤ q) (fun v => q - (intOf v).toNat)
  case atStart => exact ⟨p, rfl, Nat.le_refl _, by omega⟩
  case round =>
    obtain ⟨j, rfl, hj1, hj2⟩ := hrel
    clear hcp f1 f2 f3
    by_cases hlt : j < q
    · have hc := HL.out.cell j (by omega)
      have hz := HN.out j hj1 hlt
      generalize zs.getD j 0 = y at hc hz
      have hsp := num_sp hz
      have g1 := num_ne hz 44 (by omega)
      have g2 := num_ne hz 93 (by omega)
      have g3 := num_ne hz 125 (by omega)
      have hjn : j < n := by omega
      have m1 : (y != 44) = true := by simp [bne, g1]
      have m2 : (y != 93) = true := by simp [bne, g2]
      have m3 : (y != 125) = true := by simp [bne, g3]
      clear hz
      as_aux_lemma =>
        go_wp2_with (first
          | (go_at_call 36; refine (isBlank_any y _).mono ?_; rintro e w3 ⟨rfl, rfl⟩; rw [hsp]))
        go_round
        case rel => exact ⟨j + 1, by go_num, by omega, by omega⟩
        case measure => simp [intOf]; omega
    · obtain rfl : j = q := by omega
      by_cases hjn : j < n
      · have hc := HL.out.cell j hjn
        have hst := HS.out hjn
        generalize zs.getD j 0 = y at hc hst
        cases hsp : sp y with
        | true =>
          as_aux_lemma =>
            clear hst
            go_wp2_with (first
              | (go_at_call 36; refine (isBlank_any y _).mono ?_; rintro e w3 ⟨rfl, rfl⟩; rw [hsp]))
            go_ret
            exact ⟨rfl, rfl⟩
        | false =>
          rw [hsp] at hst
          rcases hst with h | rfl | rfl | rfl
          · cases h
          · as_aux_lemma =>
              go_wp2_with (first
                | (go_at_call 36; refine (isBlank_any _ _).mono ?_; rintro e w3 ⟨rfl, rfl⟩; rw [hsp]))
              go_ret
              exact ⟨rfl, rfl⟩
          · as_aux_lemma =>
              go_wp2_with (first
                | (go_at_call 36; refine (isBlank_any _ _).mono ?_; rintro e w3 ⟨rfl, rfl⟩; rw [hsp]))
              go_ret
              exact ⟨rfl, rfl⟩
          · as_aux_lemma =>
              go_wp2_with (first
                | (go_at_call 36; refine (isBlank_any _ _).mono ?_; rintro e w3 ⟨rfl, rfl⟩; rw [hsp]))
              go_ret
              exact ⟨rfl, rfl⟩
      · have hb : decide ((j : Int) < (n : Int)) = false := by simp; omega
        as_aux_lemma =>
          go_wp2
          go_ret
          exact ⟨rfl, rfl⟩
end Go.Proofs.Qxb6000449a
