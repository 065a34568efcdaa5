import Derived.Test.Qxb6000449aB
import Derived.Deep.DeepCutAuto
import Derived.Deep.CutBlock
set_option linter.unusedVariables false
namespace Go.Proofs.Qxb6000449a
open Go.RowKit

/-- A byte that a number holds. -/
def num (z : Int) : Prop := z = 45 ∨ z = 43 ∨ z = 46 ∨ z = 101 ∨ z = 69 ∨ (48 ≤ z ∧ z ≤ 57)
/-- From p up to k all bytes are such. -/
def Num (zs : List Int) (p k : Nat) : Prop := ∀ t, p ≤ t → t < k → num (zs.getD t 0)

theorem Num.step {zs : List Int} {p k : Nat} (h : Num zs p k) (hz : num (zs.getD k 0)) : Num zs p (k + 1) := fun t h1 h2 => by
  by_cases e : t = k
  · subst e; exact hz
  · exact h t h1 (by omega)
theorem Num.digits {zs : List Int} {p k j : Nat} (h : Num zs p k) (hd : ∀ t, k ≤ t → t < j → 48 ≤ zs.getD t 0 ∧ zs.getD t 0 ≤ 57) : Num zs p j := fun t h1 h2 => by
  by_cases e : t < k
  · exact h t h1 e
  · exact .inr (.inr (.inr (.inr (.inr (hd t (by omega) h2)))))

set_option maxRecDepth 100000 in
set_option maxHeartbeats 4000000 in
theorem number_any (rb lb : Nat) (a : Option Addr) (n c i : Nat) (zs : List Int) (w : World) (hl : Line w lb a n zs) (hr : Dec w rb a n c i) (hb : 0 < n → lb < rb) (hn : n ≤ 1048576) (hi : i ≤ n) (hnc : n ≤ c) :
    Calls Try.prog 14 #[.pointer (some ⟨rb, 0, none⟩)] w fun e w' => ∃ p, Skip zs i p ∧ Below rb w w' ∧
      ((∃ v, e = .returned (.tuple #[v, .bool false])) ∨ (∃ v k, p < k ∧ k ≤ n ∧ Num zs p k ∧ e = .returned (.tuple #[v, .bool true]) ∧ Dec w' rb a n c k)) := by
  have hlen := hl.len
  go_enter Try.func14, Try.ntmps14
  go_wp2_with fail
  refine (decSkip_any rb lb a n c i zs w hl hr hb hn hi).mono ?_
  rintro e w1 ⟨rfl, p, hsk, hr1, hb1⟩
  have h1 := hr1.line
  have h2 := hr1.pos
  have h3 := hr1.free
  have hpn : p ≤ n := by have := hsk.le; omega
  have HSK : Hid (Skip zs i p) := hsk
  have HB : Hid (Below rb w w1) := hb1
  have HL : Hid (Line w1 lb a n zs) := hl.below hb1 hb
  have HD : Hid (Dec w1 rb a n c p) := hr1
  clear hsk hb1 hl hr hr1
  go_wp2
  go_quiet (fail)
  go_step
  go_step
  go_step
  go_cut [5] (fun x wd => ∃ k : Nat, x = .int .i64 k ∧ p ≤ k ∧ k ≤ n ∧ Hid (Num zs p k) ∧ w1.drewN nq = wd)
  case first =>
    by_cases hlt : p < n
    · have hc := HL.out.cell p hlt
      obtain rfl := HL.out.at_ (by omega)
      obtain ⟨z, hz⟩ : ∃ z, z = zs.getD p 0 := ⟨_, rfl⟩
      rw [← hz] at hc
      by_cases h45 : z = 45
      · have HN : Hid (Num zs p (p + 1)) := fun t h1 h2 => by
          obtain rfl : t = p := by omega
          rw [← hz]; exact .inl h45
        subst h45
        clear hz
        as_aux_lemma =>
          go_wp2
          go_meet
          case rel => exact ⟨p + 1, by go_num, by omega, by omega, HN.out, rfl⟩
      · have hb : (z == 45) = false := by simpa using h45
        clear hz h45
        as_aux_lemma =>
          go_wp2
          go_meet
          case rel => exact ⟨p, rfl, by omega, by omega, fun t h1 h2 => by omega, rfl⟩
    · have hb : decide ((p : Int) < (n : Int)) = false := by simp; omega
      as_aux_lemma =>
        go_wp2
        go_meet
        case rel => exact ⟨p, rfl, by omega, by omega, fun t h1 h2 => by omega, rfl⟩
  case rest =>
    obtain ⟨k1, rfl, hk1, hk1n, HN1, hw⟩ := hcut
    subst hw
    go_step
    go_step
    go_cut [5] (fun x wd => ∃ k : Nat, x = .int .i64 k ∧ p < k ∧ k ≤ n ∧ Hid (Num zs p k) ∧ w1.drewN nq = wd)
    case first =>
      by_cases hlt : k1 < n
      · have hc := HL.out.cell k1 hlt
        obtain rfl := HL.out.at_ (by omega)
        obtain ⟨z, hz⟩ : ∃ z, z = zs.getD k1 0 := ⟨_, rfl⟩
        rw [← hz] at hc
        have HZ : Hid (z = zs.getD k1 0) := hz
        clear hz
        rcases (show z < 48 ∨ z = 48 ∨ (49 ≤ z ∧ z ≤ 57) ∨ 57 < z by omega) with h | h | ⟨h, h'⟩ | h
        · have e1 : (z == 48) = false := by simp; omega
          have e2 : decide (49 ≤ z) = false := by simp; omega
          as_aux_lemma =>
            go_wp2
            go_returns
            exact ⟨p, HSK.out, below_drewN HB.out _, .inl ⟨_, rfl⟩⟩
        · have HN : Hid (Num zs p (k1 + 1)) := HN1.out.step (by rw [← HZ.out]; exact .inr (.inr (.inr (.inr (.inr (by omega))))))
          subst h
          as_aux_lemma =>
            go_wp2
            go_meet
            case rel => exact ⟨k1 + 1, by go_num, by omega, by omega, HN.out, rfl⟩
        · have e1 : (z == 48) = false := by simp; omega
          have HDG := digits_any rb lb (some ⟨lb, 0, none⟩) n c k1 p zs (w1.drewN nq) (HL.out.drewN _) (HD.out.drewN _) hn hk1n
          go_wp2_with (go_at_call 29; refine HDG.mono ?_; rintro e w2 ⟨j, hj1, hj2, hjd, hjs, rfl, rfl⟩)
          go_meet
          case rel =>
            refine ⟨j, rfl, ?_, hj2, HN1.out.digits hjd, rfl⟩
            by_cases e : j = k1
            · subst e; exact absurd ⟨by rw [← HZ.out]; omega, by rw [← HZ.out]; omega⟩ (hjs hlt)
            · omega
        · have e1 : (z == 48) = false := by simp; omega
          have e2 : decide (z ≤ 57) = false := by simp; omega
          as_aux_lemma =>
            go_wp2
            go_returns
            exact ⟨p, HSK.out, below_drewN HB.out _, .inl ⟨_, rfl⟩⟩
      · have hb : decide ((k1 : Int) < (n : Int)) = false := by simp; omega
        as_aux_lemma =>
          go_wp2
          go_returns
          exact ⟨p, HSK.out, below_drewN HB.out _, .inl ⟨_, rfl⟩⟩
    case rest =>
      obtain ⟨k2, rfl, hk2, hk2n, HN2, hw⟩ := hcut
      subst hw
      go_step
      go_step
      go_cut [5] (fun x wd => ∃ k : Nat, x = .int .i64 k ∧ p < k ∧ k ≤ n ∧ Hid (Num zs p k) ∧ w1.drewN nq = wd)
      case first =>
        by_cases hlt : k2 < n
        · have hc := HL.out.cell k2 hlt
          obtain rfl := HL.out.at_ (by omega)
          obtain ⟨z, hz⟩ : ∃ z, z = zs.getD k2 0 := ⟨_, rfl⟩
          rw [← hz] at hc
          have HZ : Hid (z = zs.getD k2 0) := hz
          clear hz
          by_cases h46 : z = 46
          · have HN : Hid (Num zs p (k2 + 1)) := HN2.out.step (by rw [← HZ.out]; exact .inr (.inr (.inl h46)))
            have HDG := digits_any rb lb (some ⟨lb, 0, none⟩) n c (k2 + 1) p zs (w1.drewN nq) (HL.out.drewN _) (HD.out.drewN _) hn (by omega)
            subst h46
            go_wp2_with fail
            refine HDG.mono ?_
            rintro e w2 ⟨j, hj1, hj2, hjd, hjs, rfl, rfl⟩
            obtain ⟨m, rfl⟩ : ∃ m, j = m + 1 := ⟨j - 1, by omega⟩
            have hcm := HL.out.cell m (by omega)
            obtain ⟨y, hy⟩ : ∃ y, y = zs.getD m 0 := ⟨_, rfl⟩
            rw [← hy] at hcm
            have HN4 : Hid (Num zs p (m + 1)) := HN.out.digits hjd
            clear hy HDG hc hjd hjs
            by_cases hy46 : y = 46
            · subst hy46
              as_aux_lemma =>
                go_wp2
                go_returns
                exact ⟨p, HSK.out, below_drewN HB.out _, .inl ⟨_, rfl⟩⟩
            · have f46 : (y == 46) = false := by simpa using hy46
              as_aux_lemma =>
                go_wp2
                go_meet
                case rel => exact ⟨m + 1, rfl, by omega, hj2, HN4.out, rfl⟩
          · have f46 : (z == 46) = false := by simpa using h46
            as_aux_lemma =>
              go_wp2
              go_meet
              case rel => exact ⟨k2, rfl, hk2, hk2n, HN2.out, rfl⟩
        · have hb : decide ((k2 : Int) < (n : Int)) = false := by simp; omega
          as_aux_lemma =>
            go_wp2
            go_meet
            case rel => exact ⟨k2, rfl, hk2, hk2n, HN2.out, rfl⟩
      case rest =>
        obtain ⟨k3, rfl, hk3, hk3n, HN3, hw⟩ := hcut
        subst hw
        go_step
        go_step
        go_cut [5] (fun x wd => ∃ k : Nat, x = .int .i64 k ∧ p < k ∧ k ≤ n ∧ Hid (Num zs p k) ∧ w1.drewN nq = wd)
        case first =>
          by_cases hlt : k3 < n
          · have hcz := HL.out.cell k3 hlt
            obtain rfl := HL.out.at_ (by omega)
            obtain ⟨z, hz⟩ : ∃ z, z = zs.getD k3 0 := ⟨_, rfl⟩
            have hc : w1.cell? ⟨lb, k3, none⟩ = some (.int .u8 z) := by rw [hz]; exact hcz
            have HZ : Hid (z = zs.getD k3 0) := hz
            clear hz
            by_cases h101 : z = 101
            · have HN4 : Hid (Num zs p (k3 + 1)) := HN3.out.step (by rw [← HZ.out]; exact .inr (.inr (.inr (.inl h101))))
              clear hcz
              subst h101
              by_cases hlt4 : k3 + 1 < n
              · have hcy := HL.out.cell (k3 + 1) hlt4
                obtain ⟨y, hy⟩ : ∃ y, y = zs.getD (k3 + 1) 0 := ⟨_, rfl⟩
                rw [← hy] at hcy
                have HY : Hid (y = zs.getD (k3 + 1) 0) := hy
                clear hy
                by_cases h43 : y = 43
                · have HN5 : Hid (Num zs p (k3 + 1 + 1)) := HN4.out.step (by rw [← HY.out]; exact .inr (.inl h43))
                  subst h43
                  have HDG := digits_any rb lb (some ⟨lb, 0, none⟩) n c (k3 + 1 + 1) p zs (w1.drewN nq) (HL.out.drewN _) (HD.out.drewN _) hn (by omega)
                  go_wp2_with fail
                  refine HDG.mono ?_
                  rintro e w2 ⟨j, hj1, hj2, hjd, hjs, rfl, rfl⟩
                  have HN6 : Hid (Num zs p j) := HN5.out.digits hjd
                  clear HDG hjd hjs
                  by_cases hje : j = k3 + 1 + 1
                  · have hq : ((j : Int) == (k3 : Int) + 1 + 1) = true := by simp; omega
                    as_aux_lemma =>
                      go_wp2
                      go_returns
                      exact ⟨p, HSK.out, below_drewN HB.out _, .inl ⟨_, rfl⟩⟩
                  · have hq : ((j : Int) == (k3 : Int) + 1 + 1) = false := by simp; omega
                    as_aux_lemma =>
                      go_wp2
                      go_meet
                      case rel => exact ⟨j, rfl, by omega, hj2, HN6.out, rfl⟩
                · by_cases h45 : y = 45
                  · have HN5 : Hid (Num zs p (k3 + 1 + 1)) := HN4.out.step (by rw [← HY.out]; exact .inl h45)
                    subst h45
                    have HDG := digits_any rb lb (some ⟨lb, 0, none⟩) n c (k3 + 1 + 1) p zs (w1.drewN nq) (HL.out.drewN _) (HD.out.drewN _) hn (by omega)
                    go_wp2_with fail
                    refine HDG.mono ?_
                    rintro e w2 ⟨j, hj1, hj2, hjd, hjs, rfl, rfl⟩
                    have HN6 : Hid (Num zs p j) := HN5.out.digits hjd
                    clear HDG hjd hjs
                    by_cases hje : j = k3 + 1 + 1
                    · have hq : ((j : Int) == (k3 : Int) + 1 + 1) = true := by simp; omega
                      as_aux_lemma =>
                        go_wp2
                        go_returns
                        exact ⟨p, HSK.out, below_drewN HB.out _, .inl ⟨_, rfl⟩⟩
                    · have hq : ((j : Int) == (k3 : Int) + 1 + 1) = false := by simp; omega
                      as_aux_lemma =>
                        go_wp2
                        go_meet
                        case rel => exact ⟨j, rfl, by omega, hj2, HN6.out, rfl⟩
                  · have f43 : (y == 43) = false := by simpa using h43
                    have f45 : (y == 45) = false := by simpa using h45
                    have HN5 : Hid (Num zs p (k3 + 1)) := HN4.out
                    have HDG := digits_any rb lb (some ⟨lb, 0, none⟩) n c (k3 + 1) p zs (w1.drewN nq) (HL.out.drewN _) (HD.out.drewN _) hn (by omega)
                    go_wp2_with fail
                    refine HDG.mono ?_
                    rintro e w2 ⟨j, hj1, hj2, hjd, hjs, rfl, rfl⟩
                    have HN6 : Hid (Num zs p j) := HN5.out.digits hjd
                    clear HDG hjd hjs
                    by_cases hje : j = k3 + 1
                    · have hq : ((j : Int) == (k3 : Int) + 1) = true := by simp; omega
                      as_aux_lemma =>
                        go_wp2
                        go_returns
                        exact ⟨p, HSK.out, below_drewN HB.out _, .inl ⟨_, rfl⟩⟩
                    · have hq : ((j : Int) == (k3 : Int) + 1) = false := by simp; omega
                      as_aux_lemma =>
                        go_wp2
                        go_meet
                        case rel => exact ⟨j, rfl, by omega, hj2, HN6.out, rfl⟩
              · have hb4 : decide ((k3 : Int) + 1 < (n : Int)) = false := by simp; omega
                have HN5 : Hid (Num zs p (k3 + 1)) := HN4.out
                have HDG := digits_any rb lb (some ⟨lb, 0, none⟩) n c (k3 + 1) p zs (w1.drewN nq) (HL.out.drewN _) (HD.out.drewN _) hn (by omega)
                go_wp2_with fail
                refine HDG.mono ?_
                rintro e w2 ⟨j, hj1, hj2, hjd, hjs, rfl, rfl⟩
                have HN6 : Hid (Num zs p j) := HN5.out.digits hjd
                clear HDG hjd hjs
                by_cases hje : j = k3 + 1
                · have hq : ((j : Int) == (k3 : Int) + 1) = true := by simp; omega
                  as_aux_lemma =>
                    go_wp2
                    go_returns
                    exact ⟨p, HSK.out, below_drewN HB.out _, .inl ⟨_, rfl⟩⟩
                · have hq : ((j : Int) == (k3 : Int) + 1) = false := by simp; omega
                  as_aux_lemma =>
                    go_wp2
                    go_meet
                    case rel => exact ⟨j, rfl, by omega, hj2, HN6.out, rfl⟩
            · by_cases h69 : z = 69
              · have f101 : (z == 101) = false := by simpa using h101
                have HN4 : Hid (Num zs p (k3 + 1)) := HN3.out.step (by rw [← HZ.out]; exact .inr (.inr (.inr (.inr (.inl h69)))))
                clear hcz
                subst h69
                clear h101
                by_cases hlt4 : k3 + 1 < n
                · have hcy := HL.out.cell (k3 + 1) hlt4
                  obtain ⟨y, hy⟩ : ∃ y, y = zs.getD (k3 + 1) 0 := ⟨_, rfl⟩
                  rw [← hy] at hcy
                  have HY : Hid (y = zs.getD (k3 + 1) 0) := hy
                  clear hy
                  by_cases h43 : y = 43
                  · have HN5 : Hid (Num zs p (k3 + 1 + 1)) := HN4.out.step (by rw [← HY.out]; exact .inr (.inl h43))
                    subst h43
                    have HDG := digits_any rb lb (some ⟨lb, 0, none⟩) n c (k3 + 1 + 1) p zs (w1.drewN nq) (HL.out.drewN _) (HD.out.drewN _) hn (by omega)
                    go_wp2_with fail
                    refine HDG.mono ?_
                    rintro e w2 ⟨j, hj1, hj2, hjd, hjs, rfl, rfl⟩
                    have HN6 : Hid (Num zs p j) := HN5.out.digits hjd
                    clear HDG hjd hjs
                    by_cases hje : j = k3 + 1 + 1
                    · have hq : ((j : Int) == (k3 : Int) + 1 + 1) = true := by simp; omega
                      as_aux_lemma =>
                        go_wp2
                        go_returns
                        exact ⟨p, HSK.out, below_drewN HB.out _, .inl ⟨_, rfl⟩⟩
                    · have hq : ((j : Int) == (k3 : Int) + 1 + 1) = false := by simp; omega
                      as_aux_lemma =>
                        go_wp2
                        go_meet
                        case rel => exact ⟨j, rfl, by omega, hj2, HN6.out, rfl⟩
                  · by_cases h45 : y = 45
                    · have HN5 : Hid (Num zs p (k3 + 1 + 1)) := HN4.out.step (by rw [← HY.out]; exact .inl h45)
                      subst h45
                      have HDG := digits_any rb lb (some ⟨lb, 0, none⟩) n c (k3 + 1 + 1) p zs (w1.drewN nq) (HL.out.drewN _) (HD.out.drewN _) hn (by omega)
                      go_wp2_with fail
                      refine HDG.mono ?_
                      rintro e w2 ⟨j, hj1, hj2, hjd, hjs, rfl, rfl⟩
                      have HN6 : Hid (Num zs p j) := HN5.out.digits hjd
                      clear HDG hjd hjs
                      by_cases hje : j = k3 + 1 + 1
                      · have hq : ((j : Int) == (k3 : Int) + 1 + 1) = true := by simp; omega
                        as_aux_lemma =>
                          go_wp2
                          go_returns
                          exact ⟨p, HSK.out, below_drewN HB.out _, .inl ⟨_, rfl⟩⟩
                      · have hq : ((j : Int) == (k3 : Int) + 1 + 1) = false := by simp; omega
                        as_aux_lemma =>
                          go_wp2
                          go_meet
                          case rel => exact ⟨j, rfl, by omega, hj2, HN6.out, rfl⟩
                    · have f43 : (y == 43) = false := by simpa using h43
                      have f45 : (y == 45) = false := by simpa using h45
                      have HN5 : Hid (Num zs p (k3 + 1)) := HN4.out
                      have HDG := digits_any rb lb (some ⟨lb, 0, none⟩) n c (k3 + 1) p zs (w1.drewN nq) (HL.out.drewN _) (HD.out.drewN _) hn (by omega)
                      go_wp2_with fail
                      refine HDG.mono ?_
                      rintro e w2 ⟨j, hj1, hj2, hjd, hjs, rfl, rfl⟩
                      have HN6 : Hid (Num zs p j) := HN5.out.digits hjd
                      clear HDG hjd hjs
                      by_cases hje : j = k3 + 1
                      · have hq : ((j : Int) == (k3 : Int) + 1) = true := by simp; omega
                        as_aux_lemma =>
                          go_wp2
                          go_returns
                          exact ⟨p, HSK.out, below_drewN HB.out _, .inl ⟨_, rfl⟩⟩
                      · have hq : ((j : Int) == (k3 : Int) + 1) = false := by simp; omega
                        as_aux_lemma =>
                          go_wp2
                          go_meet
                          case rel => exact ⟨j, rfl, by omega, hj2, HN6.out, rfl⟩
                · have hb4 : decide ((k3 : Int) + 1 < (n : Int)) = false := by simp; omega
                  have HN5 : Hid (Num zs p (k3 + 1)) := HN4.out
                  have HDG := digits_any rb lb (some ⟨lb, 0, none⟩) n c (k3 + 1) p zs (w1.drewN nq) (HL.out.drewN _) (HD.out.drewN _) hn (by omega)
                  go_wp2_with fail
                  refine HDG.mono ?_
                  rintro e w2 ⟨j, hj1, hj2, hjd, hjs, rfl, rfl⟩
                  have HN6 : Hid (Num zs p j) := HN5.out.digits hjd
                  clear HDG hjd hjs
                  by_cases hje : j = k3 + 1
                  · have hq : ((j : Int) == (k3 : Int) + 1) = true := by simp; omega
                    as_aux_lemma =>
                      go_wp2
                      go_returns
                      exact ⟨p, HSK.out, below_drewN HB.out _, .inl ⟨_, rfl⟩⟩
                  · have hq : ((j : Int) == (k3 : Int) + 1) = false := by simp; omega
                    as_aux_lemma =>
                      go_wp2
                      go_meet
                      case rel => exact ⟨j, rfl, by omega, hj2, HN6.out, rfl⟩
              · have f1 : (z == 101) = false := by simpa using h101
                have f2 : (z == 69) = false := by simpa using h69
                clear hcz
                as_aux_lemma =>
                  go_wp2
                  go_meet
                  case rel => exact ⟨k3, rfl, hk3, hk3n, HN3.out, rfl⟩
          · have hb : decide ((k3 : Int) < (n : Int)) = false := by simp; omega
            as_aux_lemma =>
              go_wp2
              go_meet
              case rel => exact ⟨k3, rfl, hk3, hk3n, HN3.out, rfl⟩
        case rest =>
          obtain ⟨k4, rfl, hk4, hk4n, HN4, hw⟩ := hcut
          subst hw
          obtain rfl := HL.out.at_ (by omega)
          as_aux_lemma =>
            go_wp2
            go_returns
            refine ⟨p, HSK.out, ?_, .inr ⟨_, k4, hk4, hk4n, HN4.out, rfl, (HD.out.drewN _).set k4 rfl⟩⟩
            exact (below_drewN HB.out _).setCell (p := ⟨rb, 2, none⟩) (Nat.le_refl _) _
end Go.Proofs.Qxb6000449a
