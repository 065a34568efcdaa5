import Derived.Test.Qxb6000575aB
set_option linter.unusedVariables false
namespace Go.Proofs.Qxb6000575a
open Go.RowKit

theorem index_at (lb o : Nat) (n i k c' : Nat) (zs : List Int) (w : World) (a : Option Addr) (hl : Line w lb a n zs) (ho : o = i ∨ i = n) (hi : i ≤ n) (hk : k = n - i) :
    Calls Try.prog 32 #[.slice (some ⟨lb, o, none⟩) k c', .int .u8 34] w fun e w' => ∃ r, Hid (First zs i r) ∧ e = .returned (.int .i64 r) ∧ w' = w := by
  refine (indexByte_any lb o k c' (zs.drop i) 34 w (by rw [List.length_drop, hl.len, hk]) fun t ht => ?_).mono ?_
  · rcases ho with rfl | rfl
    · rw [hl.cell _ (by omega)]
      simp [List.getD_eq_getElem?_getD]
    · omega
  · rintro e w' ⟨rfl, rfl⟩
    exact ⟨_, first_of zs i (by rw [hl.len]; omega) hl.rng, rfl, rfl⟩

set_option maxRecDepth 100000 in
set_option maxHeartbeats 2000000 in
theorem stringEnd_any (lb : Nat) (n c s : Nat) (zs : List Int) (w : World) (hl : Line w lb (some ⟨lb, 0, none⟩) n zs) (hn : n ≤ 268435456) (hs : s < n) (hq : zs.getD s 0 = 34) (hnc : n ≤ c) :
    Calls Try.prog 29 #[.slice (some ⟨lb, 0, none⟩) n c, .int .i64 s] w fun e w' => e = .returned (.int .i64 ((s + 1 + send (zs.drop (s + 1)) false : Nat))) ∧ w' = w := by
  have HL : Hid (Line w lb (some ⟨lb, 0, none⟩) n zs) := hl
  have HLEN : Hid (zs.length = n) := hl.len
  have HQ : Hid (zs.getD s 0 = 34) := hq
  clear hl hq
  go_enter Try.func29, Try.ntmps29
  go_wp2_with fail
  go_loopg [5] (n - s) (fun g v wr => ∃ i : Nat, v = .int .i64 i ∧ s < i ∧ i ≤ n ∧ g + i = n + 1 ∧ wr = w ∧ Hid (zs.getD (i - 1) 0 = 34) ∧ Hid (s + 1 + send (zs.drop (s + 1)) false = i + send (zs.drop i) false))
  case atStart => exact ⟨s + 1, by go_num, by omega, by omega, by omega, rfl, HQ.out, rfl⟩
  case round =>
    obtain ⟨i, rfl, hsi, hin, hg, rfl, HI, HS⟩ := hrel
    by_cases hic : i = c
    · subst hic
      obtain rfl : i = n := by omega
      go_wp2_with fail
      refine (index_at lb 0 i i _ _ zs wr _ HL.out (.inr rfl) (Nat.le_refl _) (by omega)).mono ?_
      rintro e w' ⟨r, HF, rfl, rfl⟩
      have hr : r = -1 := by
        rcases HF.out with ⟨h, _⟩ | ⟨m, h, h2, _⟩
        · exact h
        · rw [HLEN.out] at h2; omega
      subst hr
      go_wp2_with fail
      go_ret
      refine ⟨?_, rfl⟩
      rw [HS.out, List.drop_eq_nil_of_le (by rw [HLEN.out]; omega)]
      rfl
    · have hic' : i < c := by omega
      have b0 : (c - i == 0) = false := by simp; omega
      go_wp2_with fail
      refine (index_at lb i n i _ _ zs wr _ HL.out (.inl rfl) hin (by omega)).mono ?_
      rintro e w' ⟨r, HF, rfl, rfl⟩
      rcases HF.out with ⟨rfl, hno⟩ | ⟨m, rfl, hlt, hq, hno⟩
      · have HNO : Hid (∀ t, i ≤ t → t < zs.length → zs.getD t 0 ≠ 34) := hno
        clear hno HF
        go_wp2_with fail
        go_ret
        refine ⟨?_, rfl⟩
        have := send_last zs i HNO.out (by rw [HLEN.out]; omega)
        rw [HLEN.out] at this
        rw [HS.out, this, show i + (n - i) = n by omega]
        rfl
      · have hmn : i + m < n := by rw [HLEN.out] at hlt; exact hlt
        have HQM : Hid (zs.getD (i + m) 0 = 34) := hq
        have HNO : Hid (∀ t, i ≤ t → t < i + m → zs.getD t 0 ≠ 34) := hno
        clear hno HF hq hlt
        have b1 : decide ((m : Int) < 0) = false := by simp
        go_wp2_with fail
        go_loopg [8, 9] (m + 1) (fun g v8 v9 wx => ∃ (k j : Nat) (b : Bool), v8 = .bool b ∧ v9 = .int .i64 j ∧ k ≤ m ∧ j + k + 1 = i + m ∧ g + k = m + 1 ∧ wx = w' ∧ Hid (b = decide (k % 2 = 1)) ∧ Hid (∀ t, i + m - k ≤ t → t < i + m → zs.getD t 0 = 92))
        case atStart => exact ⟨0, i + m - 1, false, rfl, by go_num, by omega, by omega, by omega, rfl, rfl, fun t h1 h2 => by omega⟩
        case round =>
          obtain ⟨k, j, b, rfl, rfl, hkm, hjk, hgk, rfl, HB, HA⟩ := hrel
          have hjn : j < n := by omega
          have hc := HL.out.cell j hjn
          obtain ⟨z, hz⟩ : ∃ z, z = zs.getD j 0 := ⟨_, rfl⟩
          have HZ : Hid (z = zs.getD j 0) := hz
          rw [← hz] at hc
          clear hz
          by_cases h92 : z = 92
          · have hk : k < m := by
              rcases Nat.lt_or_ge k m with h | h
              · exact h
              · have h1 := HI.out
                rw [show i - 1 = j by omega, ← HZ.out, h92] at h1
                omega
            subst h92
            go_wp2_with fail
            go_roundg (m + 1 - (k + 1))
            case measure => omega
            case rel =>
              refine ⟨k + 1, j - 1, !b, rfl, by go_num, by omega, by omega, by omega, rfl, ?_, fun t h1 h2 => ?_⟩
              · show (!b) = _
                rw [HB.out]
                rcases Nat.mod_two_eq_zero_or_one k with h | h
                · have : (k + 1) % 2 = 1 := by omega
                  simp [h, this]
                · have : (k + 1) % 2 = 0 := by omega
                  simp [h, this]
              · by_cases e : t = j
                · subst e; exact HZ.out.symm
                · exact HA.out t (by omega) h2
          · have b2 : (z == 92) = false := by simpa using h92
            have HP : Hid (par false ((zs.drop i).take (i + m - i)) = b) := by
              show _ = _
              rw [par_cut zs i (i + m - k) (i + m) (by omega) (by omega) (by rw [HLEN.out]; omega) HA.out ?_, HB.out, show i + m - (i + m - k) = k by omega]
              rcases Nat.lt_or_ge k m with h | h
              · right
                rw [show i + m - k - 1 = j by omega, ← HZ.out]; exact h92
              · left; omega
            have HST := send_step zs i (i + m) (by omega) (by rw [HLEN.out]; omega) HQM.out HNO.out
            rw [HP.out] at HST
            have HST' : Hid (send (zs.drop i) false = if b = true then i + m - i + 1 + send (zs.drop (i + m + 1)) false else i + m - i + 1) := HST
            clear HST
            cases b with
            | false =>
              go_wp2_with fail
              go_ret
              refine ⟨?_, rfl⟩
              rw [HS.out, HST'.out, if_neg (by decide), show i + (i + m - i + 1) = i + m + 1 by omega]
              show Ending.returned (.int .i64 ((i : Int) + m + 1)) = _
              push_cast
              rfl
            | true =>
              go_wp2_with fail
              go_roundg (n + 1 - (i + m + 1))
              case measure => omega
              case rel =>
                refine ⟨i + m + 1, by go_num, by omega, by omega, by omega, rfl, HQM.out, ?_⟩
                show _ = _
                rw [HS.out, HST'.out]
                simp; omega
end Go.Proofs.Qxb6000575a
