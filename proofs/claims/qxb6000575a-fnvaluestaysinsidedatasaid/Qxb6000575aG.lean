import Derived.Test.Qxb6000575aD
import Derived.Test.Qxb6000575aE
set_option linter.unusedVariables false
namespace Go.Proofs.Qxb6000575a
open Go.RowKit

theorem step_pos (zs : List Int) (q : Nat) (d : Int) (h : q < zs.length) : 1 ≤ (step (zs.drop q) d).1 := by
  rw [step_at zs q d h _ rfl]
  split
  · show 1 ≤ 1 + send (zs.drop (q + 1)) false
    omega
  · split
    · exact Nat.le_refl _
    · split <;> exact Nat.le_refl _

set_option maxRecDepth 100000 in
set_option maxHeartbeats 4000000 in
theorem stays_any (a : Option Addr) (n c : Nat) (zs0 : List Int) (i : Int) (w : World) (hrow : IsRow .u8 w a n c zs0) :
    Calls Try.prog 9 #[.slice a n c, .int .i64 i] w fun e w' => e = .returned (.bool true) ∧ Below w.heap.size w w' := by
  have HR : Hid (IsRow .u8 w a n c zs0) := hrow
  clear hrow
  go_enter Try.func9, Try.ntmps9
  go_wp2_with fail
  refine (zzBytes_any a n c i w).mono ?_
  rintro e w1 ⟨rfl, rfl⟩
  by_cases hn : n ≤ 1048576
  · rw [show decide (n ≤ 1048576) = true by simpa using hn]
    by_cases hi : 0 ≤ i ∧ i ≤ n
    · obtain ⟨iN, rfl⟩ := Int.eq_ofNat_of_zero_le hi.1
      have hiN : iN ≤ n := by omega
      have b0 : decide ((1048576 : Int) < (n : Int)) = false := by simp; omega
      have b1 : decide ((iN : Int) < 0) = false := by simp
      have b2 : decide ((n : Int) < (iN : Int)) = false := by simp; omega
      clear hi
      go_wp2_with fail
      refine (clone_any a n c zs0 w1 HR.out hn).mono ?_
      rintro e w2 ⟨a', c', lb, zs, rfl, hl, hnc, hcm, hlb, hlbw, hb2⟩
      clear HR b0 b1 b2
      have HB2 : Hid (Below w1.heap.size w1 w2) := hb2
      have HL2 : Hid (Line w2 lb a' n zs) := hl
      have HLB : Hid (0 < n → lb < w2.heap.size) := hlb
      have HLEN : Hid (zs.length = n) := hl.len
      clear hb2 hl hlb
      go_wp2_with fail
      refine (newWalker_any a' n c' iN w2).mono ?_
      rintro e w3 ⟨rfl, hd3, hb3⟩
      have HD3 : Hid (Dec w3 w2.heap.size a' n c' iN) := hd3
      have HB3 : Hid (Below w2.heap.size w2 w3) := hb3
      have HL3 : Hid (Line w3 lb a' n zs) := HL2.out.below hb3 HLB.out
      clear hd3 hb3
      go_wp2_with fail
      refine (next_any w2.heap.size lb a' n c' iN zs w3 HL3.out HD3.out HLB.out (by omega) hiN).mono ?_
      rintro e w4 ⟨p, hsk, rfl, hd4, hb4⟩
      have HSK : Hid (Skip zs iN p) := hsk
      have hip : iN ≤ p := hsk.ge
      have hpn : p ≤ n := by have := hsk.le; rw [HLEN.out] at this; exact this
      have HD4 : Hid (Dec w4 w2.heap.size a' n c' p) := hd4
      have HB4 : Hid (Below w2.heap.size w2 w4) := HB3.out.trans hb4
      obtain ⟨z, hz⟩ : ∃ z, z = zs.getD p 0 := ⟨_, rfl⟩
      have HZ : Hid (z = zs.getD p 0) := hz
      rw [← hz]
      clear hsk hd4 hb4 HD3 HB3 HL3 hz
      go_wp2_with fail
      refine (pos_any _ _ _ _ _ w4 HD4.out).mono ?_
      rintro e w5 ⟨rfl, rfl⟩
      have HL5 : Hid (Line w5 lb a' n zs) := HL2.out.below HB4.out HLB.out
      have HLB5 : Hid (0 < n → lb < w5.heap.size) := fun h => Nat.lt_of_lt_of_le (HLB.out h) HB4.out.size
      go_wp2_with fail
      refine (newWalker_any a' n c' iN w5).mono ?_
      rintro e w6 ⟨rfl, hd6, hb6⟩
      have HD6 : Hid (Dec w6 w5.heap.size a' n c' iN) := hd6
      have HB6 : Hid (Below w5.heap.size w5 w6) := hb6
      have HL6 : Hid (Line w6 lb a' n zs) := HL5.out.below hb6 HLB5.out
      clear hd6 hb6
      go_wp2_with fail
      refine (value_any w5.heap.size lb a' n c' iN p zs w6 HL6.out HD6.out HLB5.out (by omega) hiN hnc HSK.out
        (fun q => p < n ∧ (zs.getD p 0 = 34 ∨ zs.getD p 0 = 123 ∨ zs.getD p 0 = 91) → p < q) (fun _ _ => p < n)
        (fun _ _ _ => by omega) (fun h _ => h)
        (fun q d h1 h2 h3 => ⟨fun _ _ => by have := step_pos zs q d (by rw [HLEN.out]; exact h2); omega, fun _ => h3⟩)
        (fun _ h _ => h)
        (fun h e _ h2 => by have := h h2.1; omega)).mono ?_
      rintro e w7 ⟨q, av, l, cv, hpq, hqn, hF, rfl, hlq, hlc, hav, hd7, hb7⟩
      have HF : Hid (p < n ∧ (z = 34 ∨ z = 123 ∨ z = 91) → p < q) := by rw [← HZ.out] at hF; exact hF
      have HD7 : Hid (Dec w7 w5.heap.size a' n c' q) := hd7
      have HL7 : Hid (Line w7 lb a' n zs) := HL6.out.below hb7 HLB5.out
      have HB7 : Hid (Below w1.heap.size w1 w7) := HB2.out.trans ((HB4.out.mono HB2.out.size).trans ((HB6.out.trans hb7).mono (Nat.le_trans HB2.out.size HB4.out.size)))
      have HAV : Hid (p < q → av = some ⟨lb, p, none⟩) := hav
      have hlq1 : l + p ≤ q := by omega
      have hlq2 : q ≤ l + p := by omega
      clear hlq hF hd7 hb7 hav HD6 HB6 HL6 HD4 HB4 HL5 HB2 HL2
      go_wp2_with fail
      refine (pos_any _ _ _ _ _ w7 HD7.out).mono ?_
      rintro e w8 ⟨rfl, rfl⟩
      have f1 : decide ((p : Int) < (iN : Int)) = false := by simp; omega
      have f2 : decide ((q : Int) < (p : Int)) = false := by simp; omega
      have f3 : decide ((n : Int) < (q : Int)) = false := by simp; omega
      have f4 : ((l : Int) != (q : Int) - (p : Int)) = false := by simp; omega
      have f5 : decide (p < iN) = false := by simp; omega
      have f6 : decide (q < p) = false := by simp; omega
      have f7 : decide (n < q) = false := by simp; omega
      go_wp2_with fail
      go_loopg [11] l (fun g v wr => ∃ j : Nat, v = .int .i64 j ∧ j ≤ l ∧ g = l - j ∧ Hid (Line wr lb a' n zs) ∧ Hid (Below w1.heap.size w1 wr))
      case atStart => exact ⟨0, rfl, by omega, by omega, HL7.out, HB7.out⟩
      case round =>
        obtain ⟨j, rfl, hjl, hg, HLr, HBr⟩ := hrel
        clear f1 f2 f3 f4 f5 f6 f7
        by_cases hj : j < l
        · obtain rfl := HL7.out.at_ (by omega)
          obtain rfl := HAV.out (by omega)
          have hc := HLr.out.cell (p + j) (by omega)
          generalize zs.getD (p + j) 0 = y at hc
          have e1 : (y != y) = false := by simp
          as_aux_lemma =>
            go_wp2_with fail
            go_quiet (fail)
            go_wp2_with fail
            go_roundg (l - (j + 1))
            case measure => omega
            case rel => exact ⟨j + 1, by go_num, by omega, rfl, HLr.out.drewN _, below_drewN HBr.out _⟩
        · obtain rfl : j = l := by omega
          have g0 : decide ((j : Int) < (j : Int)) = false := by simp
          by_cases hl0 : 0 < j
          · obtain rfl := HL7.out.at_ (by omega)
            obtain rfl := HAV.out (by omega)
            have hc := HLr.out.cell p (by omega)
            rw [← HZ.out] at hc
            have g1 : ((j : Int) == 0) = false := by simp; omega
            have g2 : decide ((0 : Int) < (j : Int)) = true := by simp; omega
            have g3 : decide ((p : Int) < (n : Int)) = true := by simp; omega
            have e1 : (z != z) = false := by simp
            go_wp2_with fail
            all_goals (go_ret; exact ⟨rfl, HBr.out⟩)
          · obtain rfl : j = 0 := by omega
            obtain rfl : q = p := by omega
            by_cases hp : q < n
            · have hzz : ¬ (z = 34 ∨ z = 123 ∨ z = 91) := fun h => by have := HF.out ⟨hp, h⟩; omega
              have e1 : (z == 34) = false := by simp; omega
              have e2 : (z == 123) = false := by simp; omega
              have e3 : (z == 91) = false := by simp; omega
              have g3 : decide ((q : Int) < (n : Int)) = true := by simp; omega
              clear hzz
              go_wp2_with fail
              all_goals (go_ret; exact ⟨rfl, HBr.out⟩)
            · have g3 : decide ((q : Int) < (n : Int)) = false := by simp; omega
              go_wp2_with fail
              all_goals (go_ret; exact ⟨rfl, HBr.out⟩)
    · by_cases hi0 : i < 0
      · go_wp2
        go_ret
        exact ⟨rfl, Below.refl _ _⟩
      · have b0 : decide (i < 0) = false := by simpa using hi0
        have b1 : decide ((n : Int) < i) = true := by simp; omega
        go_wp2
        go_ret
        exact ⟨rfl, Below.refl _ _⟩
  · rw [show decide (n ≤ 1048576) = false by simpa using hn]
    go_wp2
    go_ret
    exact ⟨rfl, Below.refl _ _⟩
end Go.Proofs.Qxb6000575a
