import Derived.Test.Qxb6614531aFmtErr
set_option linter.unusedVariables false
namespace Go.Proofs.Qxb6614531aFmt
open Go.RowKit Go.Extern.Stop Go.Stop Go.Extern

/-- Is the byte k places behind s escaped (an odd run of backslashes, begun at s or later, stands right ahead of it)? -/
def esc (zs : List Int) (s : Nat) : Nat → Bool
  | 0 => false
  | k + 1 => (zs.getD (s + k) 0 == 92) && !esc zs s k

/-- The string's text stops there: a bare quote or a bare control byte. -/
def halt (zs : List Int) (s k : Nat) : Bool := !esc zs s k && (decide (zs.getD (s + k) 0 < 32) || zs.getD (s + k) 0 == 34)

/-- How rawText ends, begun behind the opening quote at s. -/
def RawEnd (zs : List Int) (lb s n : Nat) (a : Option Addr) (c rb : Nat) (e : Ending) (w' : World) : Prop :=
  (∃ k p, s + k < n ∧ (∀ q, q < k → halt zs s q = false) ∧ halt zs s k = true ∧ zs.getD (s + k) 0 < 32 ∧ e = .returned (.tuple #[.slice none 0 0, .bool false, .iface 66 p]) ∧ Rdr w' rb a n c (s + k)) ∨
  (∃ k b, s + k < n ∧ (∀ q, q < k → halt zs s q = false) ∧ halt zs s k = true ∧ zs.getD (s + k) 0 = 34 ∧ e = .returned (.tuple #[.slice (some ⟨lb, s, none⟩) k (c - s), .bool b, .nilIface]) ∧ Rdr w' rb a n c (s + k + 1)) ∨
  (∃ p, (∀ q, q < n - s → halt zs s q = false) ∧ e = .returned (.tuple #[.slice none 0 0, .bool false, .iface 66 p]) ∧ Rdr w' rb a n c (if esc zs s (n - s) = true then n + 1 else n))

theorem esc_one {zs : List Int} {s k : Nat} (h : zs.getD (s + k) 0 = 92) (he : esc zs s k = false) : esc zs s (k + 1) = true := by
  simp only [esc, h, he]; rfl
theorem esc_two {zs : List Int} {s k : Nat} (h : esc zs s (k + 1) = true) : esc zs s (k + 2) = false := by
  rw [esc, h]; simp
theorem esc_plain {zs : List Int} {s k : Nat} (h : zs.getD (s + k) 0 ≠ 92) : esc zs s (k + 1) = false := by
  rw [esc]; simp only [Bool.and_eq_false_iff]; left; simpa using h
theorem halt_plain {zs : List Int} {s k : Nat} (h : ¬ zs.getD (s + k) 0 < 32) (h2 : zs.getD (s + k) 0 ≠ 34) : halt zs s k = false := by
  rw [halt]; simp only [Bool.and_eq_false_iff, Bool.or_eq_false_iff, decide_eq_false_iff_not, beq_eq_false_iff_ne]; exact .inr ⟨h, h2⟩
theorem halt_esc {zs : List Int} {s k : Nat} (h : esc zs s k = true) : halt zs s k = false := by rw [halt, h]; rfl

set_option maxRecDepth 100000 in
set_option maxHeartbeats 2000000 in
theorem raw_any (F : Interp) (rb lb : Nat) (a : Option Addr) (n c i : Nat) (zs : List Int) (w : World) (hF : F.answers w.tape) (hl : Line w lb a n zs) (hr : Rdr w rb a n c i) (hb : lb < rb) (hn : n ≤ 1048576) (hi : i ≤ n) (hnc : n ≤ c) :
    Calls Tryf.prog 18 #[.pointer (some ⟨rb, 0, none⟩)] w fun e w' => ∃ j, Skip zs i j ∧ Below rb w w' ∧
      (((j < n → zs.getD j 0 ≠ 34) ∧ (∃ p, e = .returned (.tuple #[.slice none 0 0, .bool false, .iface 66 p])) ∧ Rdr w' rb a n c j) ∨ (j < n ∧ zs.getD j 0 = 34 ∧ RawEnd zs lb (j + 1) n a c rb e w')) := by
  go_enter Tryf.func18, Tryf.ntmps18
  go_wp2_with fail
  refine (take_any rb lb a n c i zs 34 w hl hr hb hn hi).mono ?_
  rintro e w1 ⟨j, hsk, hb1, ⟨hjn, hj34, rfl, hr1⟩ | ⟨hno, rfl, hr1⟩⟩
  · have hc0 := hr1.line
    have hc1 := hr1.pos
    obtain rfl := hl.at_ (by omega)
    have H0 : Hid (zs.getD j 0 = 34) := hj34
    have HF : Hid (F.answers w.tape) := hF
    clear hj34 hr hF
    go_wp2_with fail
    go_loopg [6] (n + 2 - (j + 1)) (fun g v wr => ∃ p k b, Hid (p = j + 1 + k) ∧ j < p ∧ p ≤ n + 1 ∧ g = n + 2 - p ∧ v = .bool b ∧ Rdr wr rb (some ⟨lb, 0, none⟩) n c p ∧ Below rb w wr ∧ Hid (esc zs (j + 1) k = false) ∧ Hid (∀ q, q < k → j + 1 + q < n → halt zs (j + 1) q = false) ∧ Hid (n < p → esc zs (j + 1) (n - (j + 1)) = true))
    case atStart => exact ⟨j + 1, 0, false, rfl, by omega, by omega, rfl, rfl, hr1, hb1, rfl, fun q h => absurd h (by omega), fun h => absurd h (by omega)⟩
    case round =>
      obtain ⟨p, k, b, HP, hjp, hpn, hg, rfl, hrk, hbk, HE, HQ, HN⟩ := hrel
      have hd0 := hrk.line
      have hd1 := hrk.pos
      have hfr := hrk.free
      by_cases hlt : p < n
      · have hcj : wr.cell? ⟨lb, p, none⟩ = some (.int .u8 (zs.getD p 0)) := (hbk.cell (p := ⟨lb, p, none⟩) hb).trans (hl.cell p hlt)
        have hlt' : (p : Int) < (n : Int) := by omega
        obtain ⟨y, hy⟩ : ∃ y, y = zs.getD p 0 := ⟨_, rfl⟩
        have hy0 : 0 ≤ y ∧ y < 256 := by rw [hy]; exact hl.byte p
        rw [← hy] at hcj
        have HY : Hid (y = zs.getD p 0) := hy
        obtain ⟨hya, hyb⟩ := hy0
        clear hy hl hr1 hc0 hc1 hb1
        rcases (show y < 32 ∨ (32 ≤ y ∧ y = 34) ∨ (32 ≤ y ∧ y ≠ 34 ∧ y = 92) ∨ (32 ≤ y ∧ y ≠ 34 ∧ y ≠ 92) from by omega) with h | ⟨h, h2⟩ | ⟨h, h2, h3⟩ | ⟨h, h2, h3⟩
        · go_wp2
          go_quiet (fail)
          go_wp2
          go_quiet (fail)
          go_wp2_with fail
          refine (errorf_ctl F (p + 1) wr.heap.size _ ?_ ?_).mono ?_
          · show F.answers wr.tape
            rw [hbk.tape]; exact HF.out
          · exact World.cell?_alloc_at (w := wr.drewN _) _ _ _ 0 rfl
          · rintro e w2 ⟨⟨ep, rfl⟩, hb2⟩
            go_wp2
            go_returns
            have hb3 : Below wr.heap.size wr w2 := ((below_drewN (Below.refl _ _) _).alloc (Nat.le_refl _) _).trans (hb2.mono (by simp))
            have e1 := HP.out
            subst e1
            refine ⟨j, hsk, hbk.trans (hb3.mono (Nat.le_of_lt hrk.lt)), .inr ⟨hjn, H0.out, .inl ⟨k, ep, hlt, fun q hq => HQ.out q hq (by omega), ?_, ?_, rfl, hrk.below hb3⟩⟩⟩
            · rw [halt, HE.out, ← HY.out]; simp [h]
            · rw [← HY.out]; exact h
        · subst h2
          go_wp2
          go_quiet (fail)
          go_wp2
          go_quiet (fail)
          go_wp2
          go_quiet (fail)
          go_wp2
          go_returns
          have e1 := HP.out
          subst e1
          refine ⟨j, hsk, below_drewN ((below_drewN hbk _).setCell (Nat.le_refl _) _) _, .inr ⟨hjn, H0.out, .inr (.inl ⟨k, b, hlt, fun q hq => HQ.out q hq (by omega), ?_, HY.out.symm, ?_, (((hrk.drewN _).set _ (by go_num)).drewN _)⟩)⟩⟩
          · rw [halt, HE.out, ← HY.out]; rfl
          · rw [show j + 1 + k - (j + 1) = k by omega]; rfl
        · subst h3
          go_wp2
          go_quiet (fail)
          go_wp2
          go_quiet (fail)
          go_wp2
          go_roundg (n + 2 - (p + 2))
          case measure => omega
          case rel =>
            have e1 := HP.out
            have hy : zs.getD (j + 1 + k) 0 = 92 := by rw [← e1]; exact HY.out.symm
            have he1 := esc_one hy HE.out
            refine ⟨p + 2, k + 2, true, by show _ = _; omega, by omega, by omega, rfl, rfl, ((hrk.drewN _).set (p + 1) (by go_num)).set (p + 2) (by go_num), ((below_drewN hbk _).setCell (Nat.le_refl _) _).setCell (Nat.le_refl _) _, esc_two he1, fun q hq hqn => ?_, fun hnp => ?_⟩
            · rcases (show q < k ∨ q = k ∨ q = k + 1 by omega) with h | rfl | rfl
              · exact HQ.out q h hqn
              · exact halt_plain (by omega) (by omega)
              · exact halt_esc he1
            · rw [show n - (j + 1) = k + 1 by omega]; exact he1
        · have h2b : (y == 34) = false := by simpa using h2
          have h3b : (y == 92) = false := by simpa using h3
          go_wp2
          go_quiet (fail)
          go_wp2
          go_quiet (fail)
          go_wp2
          go_roundg (n + 2 - (p + 1))
          case measure => omega
          case rel =>
            have e1 := HP.out
            have hy : zs.getD (j + 1 + k) 0 = y := by rw [← e1]; exact HY.out.symm
            refine ⟨p + 1, k + 1, b, by show _ = _; omega, by omega, by omega, rfl, rfl, (hrk.drewN _).set (p + 1) (by go_num), (below_drewN hbk _).setCell (Nat.le_refl _) _, esc_plain (by rw [hy]; exact h3), fun q hq hqn => ?_, fun hnp => absurd hnp (by omega)⟩
            rcases (show q < k ∨ q = k by omega) with h | rfl
            · exact HQ.out q h hqn
            · exact halt_plain (by omega) (by omega)
      · go_wp2
        go_quiet (fail)
        go_wp2_with fail
        refine (expected_any F rb (some ⟨lb, 0, none⟩) n c p _ _ ?_ (hrk.drewN _) hn hpn).mono ?_
        · show F.answers wr.tape
          rw [hbk.tape]; exact HF.out
        · rintro e w2 ⟨⟨ep, rfl⟩, hb2⟩
          go_wp2
          go_returns
          have hb3 : Below wr.heap.size wr w2 := (below_drewN (Below.refl _ _) _).trans hb2
          have e1 := HP.out
          refine ⟨j, hsk, hbk.trans (hb3.mono (Nat.le_of_lt hrk.lt)), .inr ⟨hjn, H0.out, .inr (.inr ⟨ep, fun q hq => HQ.out q (by omega) (by omega), rfl, ?_⟩)⟩⟩
          by_cases hnp : n < p
          · rw [if_pos (HN.out hnp), show n + 1 = p by omega]; exact hrk.below hb3
          · have e2 : n - (j + 1) = k := by omega
            rw [e2, HE.out, if_neg (by decide)]
            obtain rfl : p = n := by omega
            exact hrk.below hb3
  · have hF1 : F.answers w1.tape := by rw [hb1.tape]; exact hF
    go_wp2_with fail
    refine (expected_any F rb a n c j _ w1 hF1 hr1 hn (by have := hsk.le; have := hl.len; omega)).mono ?_
    rintro e w2 ⟨⟨p, rfl⟩, hb2⟩
    go_wp2
    go_returns
    exact ⟨j, hsk, hb1.trans (hb2.mono (Nat.le_of_lt hr1.lt)), .inl ⟨hno, ⟨p, rfl⟩, hr1.below hb2⟩⟩
end Go.Proofs.Qxb6614531aFmt
