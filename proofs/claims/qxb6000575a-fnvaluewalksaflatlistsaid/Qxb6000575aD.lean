import Derived.Test.Qxb6000575aC
import Derived.Test.Qxb6000575aQ
import Derived.Deep.DeepCutAuto
import Derived.Deep.CutBlock
set_option linter.unusedVariables false
namespace Go.Proofs.Qxb6000575a
open Go.RowKit

theorem wrap_nat (n : Nat) (h : n ≤ 268435456) : IntKind.i64.wrap (n : Int) = n := by rw [IntKind.wrap_i64]; omega

/-- What ends a number or a literal. -/
def dl (c : Int) : Bool := c == 32 || c == 9 || c == 10 || c == 13 || c == 44 || c == 125 || c == 93

theorem isDelim_any (z : Int) (w : World) : Calls Try.prog 31 #[.int .u8 z] w fun e w' => e = .returned (.bool (dl z)) ∧ w' = w := by
  by_cases h : z = 32 ∨ z = 9 ∨ z = 10 ∨ z = 13 ∨ z = 44 ∨ z = 125 ∨ z = 93
  · rcases h with rfl | rfl | rfl | rfl | rfl | rfl | rfl
    all_goals (
      go_enter Try.func31, Try.ntmps31
      go_wp2
      go_ret
      exact ⟨rfl, rfl⟩)
  · have b1 : (z == 32) = false := by simp; omega
    have b2 : (z == 9) = false := by simp; omega
    have b3 : (z == 10) = false := by simp; omega
    have b4 : (z == 13) = false := by simp; omega
    have b5 : (z == 44) = false := by simp; omega
    have b6 : (z == 125) = false := by simp; omega
    have b7 : (z == 93) = false := by simp; omega
    have HS : Hid (dl z = false) := by show _ = _; simp [dl, b1, b2, b3, b4, b5, b6, b7]
    clear h
    go_enter Try.func31, Try.ntmps31
    go_wp2
    go_ret
    exact ⟨by rw [HS.out]; rfl, rfl⟩

/-- e: the first place from p on that ends a literal. -/
structure Lit (zs : List Int) (p e : Nat) : Prop where
  ge : p ≤ e
  le : e ≤ zs.length
  all : ∀ t, p ≤ t → t < e → dl (zs.getD t 0) = false
  stop : e < zs.length → dl (zs.getD e 0) = true

theorem drop_getD (zs : List Int) (q : Nat) (h : q < zs.length) : zs.drop q = zs.getD q 0 :: zs.drop (q + 1) := by
  rw [List.drop_eq_getElem_cons h, List.getD_eq_getElem?_getD, List.getElem?_eq_getElem h]; rfl

theorem step_at (zs : List Int) (q : Nat) (d : Int) (h : q < zs.length) (y : Int) (hy : y = zs.getD q 0) : step (zs.drop q) d = if y = 34 then (1 + send (zs.drop (q + 1)) false, d) else if y = 123 ∨ y = 91 then (1, d + 1) else if y = 125 ∨ y = 93 then (1, d - 1) else (1, d) := by
  rw [drop_getD zs q h, ← hy]; rfl

/-- What Value leaves: it stands at q, and handed out the stretch from p to q. -/
def Got (rb lb : Nat) (a : Option Addr) (n c p : Nat) (F : Nat → Prop) (w : World) (e : Ending) (w' : World) : Prop :=
  ∃ (q : Nat) (a' : Option Addr) (l c' : Nat), p ≤ q ∧ q ≤ n ∧ F q ∧ e = .returned (.slice a' l c') ∧ l + p = q ∧ l ≤ c' ∧ (p < q → a' = some ⟨lb, p, none⟩) ∧ Dec w' rb a n c q ∧ Below rb w w'

set_option maxRecDepth 100000 in
set_option maxHeartbeats 4000000 in
theorem value_any (rb lb : Nat) (a : Option Addr) (n c i p : Nat) (zs : List Int) (w : World) (hl : Line w lb a n zs) (hr : Dec w rb a n c i) (hb : 0 < n → lb < rb) (hn : n ≤ 268435456) (hi : i ≤ n) (hnc : n ≤ c) (hsk : Skip zs i p)
    (F : Nat → Prop) (J : Nat → Int → Prop)
    (hstr : p < n → zs.getD p 0 = 34 → F (p + 1 + send (zs.drop (p + 1)) false))
    (hbr0 : p < n → (zs.getD p 0 = 123 ∨ zs.getD p 0 = 91) → J p 0)
    (hbr : ∀ q d, p ≤ q → q < n → J q d → ((step (zs.drop q) d).2 = 0 → F (q + (step (zs.drop q) d).1)) ∧ ((step (zs.drop q) d).2 ≠ 0 → J (q + (step (zs.drop q) d).1) (step (zs.drop q) d).2))
    (hend : ∀ d, J n d → F n)
    (hlit : (p < n → zs.getD p 0 ≠ 34 ∧ zs.getD p 0 ≠ 123 ∧ zs.getD p 0 ≠ 91) → ∀ e, Lit zs p e → F e) :
    Calls Try.prog 24 #[.pointer (some ⟨rb, 0, none⟩)] w (Got rb lb a n c p F w) := by
  have HLEN : Hid (zs.length = n) := hl.len
  have HSTR : Hid (p < n → zs.getD p 0 = 34 → F (p + 1 + send (zs.drop (p + 1)) false)) := hstr
  have HBR0 : Hid (p < n → (zs.getD p 0 = 123 ∨ zs.getD p 0 = 91) → J p 0) := hbr0
  have HBR : Hid (∀ q d, p ≤ q → q < n → J q d → ((step (zs.drop q) d).2 = 0 → F (q + (step (zs.drop q) d).1)) ∧ ((step (zs.drop q) d).2 ≠ 0 → J (q + (step (zs.drop q) d).1) (step (zs.drop q) d).2)) := hbr
  have HEND : Hid (∀ d, J n d → F n) := hend
  have HLIT : Hid ((p < n → zs.getD p 0 ≠ 34 ∧ zs.getD p 0 ≠ 123 ∧ zs.getD p 0 ≠ 91) → ∀ e, Lit zs p e → F e) := hlit
  have hpn : p ≤ n := by have := hsk.le; rw [HLEN.out] at this; exact this
  have HLW : Hid (Line w lb a n zs) := hl
  have HNX := next_any rb lb a n c i zs w hl hr hb hn hi
  have HSK : Hid (Skip zs i p) := hsk
  have HBL : Hid (0 < n → lb < rb) := hb
  clear hstr hbr0 hbr hend hlit hl hr hsk hb
  go_enter Try.func24, Try.ntmps24
  go_wp2_with fail
  refine HNX.mono ?_
  rintro e w1 ⟨p', hsk', rfl, hd1, hb1⟩
  obtain rfl := HSK.out.uniq hsk'
  clear hsk' HNX
  have HD : Hid (Dec w1 rb a n c p') := hd1
  have HB : Hid (Below rb w w1) := hb1
  have HL : Hid (Line w1 lb a n zs) := HLW.out.below hb1 HBL.out
  have h1 := hd1.line
  have h2 := hd1.pos
  have h3 := hd1.free
  obtain ⟨z, hz⟩ : ∃ z, z = zs.getD p' 0 := ⟨_, rfl⟩
  have HZ : Hid (z = zs.getD p' 0) := hz
  rw [← hz]
  clear hz hd1 hb1
  go_upto_block 0 with (fail)
  go_cut [] (fun wd => ∃ q : Nat, p' ≤ q ∧ q ≤ n ∧ Hid (F q) ∧ Hid (Dec wd rb a n c q) ∧ Hid (Below rb w wd))
  case first =>
    by_cases hs : p' < n ∧ z = 34
    · obtain ⟨hp, rfl⟩ := hs
      obtain rfl := HLW.out.at_ (by omega)
      have HSE : ∀ k, Calls Try.prog 29 #[.slice (some ⟨lb, 0, none⟩) n c, .int .i64 p'] (w1.drewN k) fun e w' => e = .returned (.int .i64 ((p' + 1 + send (zs.drop (p' + 1)) false : Nat))) ∧ w' = w1.drewN k := fun k => stringEnd_any lb n c p' zs (w1.drewN k) (HL.out.drewN k) hn hp HZ.out.symm hnc
      have hq : p' + 1 + send (zs.drop (p' + 1)) false ≤ n := by have := send_le (zs.drop (p' + 1)) false; rw [List.length_drop, HLEN.out] at this; omega
      have HF : Hid (F (p' + 1 + send (zs.drop (p' + 1)) false)) := HSTR.out hp HZ.out.symm
      have hpq : p' < p' + 1 + send (zs.drop (p' + 1)) false := by omega
      generalize p' + 1 + send (zs.drop (p' + 1)) false = q at HSE hq HF hpq
      go_wp2_with fail
      go_region_with (go_at_call 29; refine (HSE 1).mono ?_; rintro e w' ⟨rfl, rfl⟩)
      all_goals (
        go_wp2_with fail
        go_meet
        case rel => exact ⟨q, by omega, by omega, HF.out, (HD.out.drewN _).set q rfl, (below_drewN HB.out _).setCell (Nat.le_refl _) _⟩)
    · by_cases hbk : p' < n ∧ (z = 123 ∨ z = 91)
      · obtain ⟨hp, hz⟩ := hbk
        obtain rfl := HLW.out.at_ (by omega)
        have HJ0 : Hid (J p' 0) := HBR0.out hp (by rw [← HZ.out]; exact hz)
        have c1 : (z == 34) = false := by simp; omega
        go_upto_if 58 with (fail)
        go_cut [58, 60] (fun x y wd => x = .bool true ∧ wd = w1)
        case first =>
          rcases hz with rfl | rfl
          · as_aux_lemma =>
              go_wp2_with fail
              go_meet
              case rel => exact ⟨rfl, rfl⟩
          · as_aux_lemma =>
              go_wp2_with fail
              go_meet
              case rel => exact ⟨rfl, rfl⟩
        case rest =>
          obtain ⟨rfl, rfl⟩ := hcut
          clear hz c1
          go_wp2_with fail
          go_loopg [5] (n - p') (fun g v wr => ∃ (q : Nat) (d : Int), v = .int .i64 d ∧ p' ≤ q ∧ q ≤ n ∧ g = n - q ∧ -(q : Int) ≤ d ∧ d ≤ q ∧ Hid (J q d) ∧ Hid (Dec wr rb (some ⟨lb, 0, none⟩) n c q) ∧ Hid (Below rb w wr))
          case atStart => exact ⟨p', 0, rfl, Nat.le_refl _, hpn, rfl, by omega, by omega, HJ0.out, HD.out, HB.out⟩
          case round =>
            obtain ⟨q, d, rfl, hpq, hqn, hg, hd1, hd2, HJ, HDr, HBr⟩ := hrel
            have g1 := HDr.out.line
            have g2 := HDr.out.pos
            clear h1 h2 h3
            by_cases hq : q < n
            · have HLr : Hid (Line wr lb (some ⟨lb, 0, none⟩) n zs) := HLW.out.below HBr.out HBL.out
              have hc := HLr.out.cell q hq
              obtain ⟨y, hy⟩ : ∃ y, y = zs.getD q 0 := ⟨_, rfl⟩
              have HY : Hid (y = zs.getD q 0) := hy
              rw [← hy] at hc
              clear hy
              have HST : Hid (step (zs.drop q) d = if y = 34 then (1 + send (zs.drop (q + 1)) false, d) else if y = 123 ∨ y = 91 then (1, d + 1) else if y = 125 ∨ y = 93 then (1, d - 1) else (1, d)) := step_at zs q d (by rw [HLEN.out]; exact hq) y HY.out
              have f1 : decide ((q : Int) < (n : Int)) = true := by simp; omega
              go_wp2_with fail
              go_quiet (fail)
              go_wp2_with fail
              go_quiet (fail)
              rename_i nqa nqb
              go_upto_block 5 with (fail)
              go_cut [5] (fun v wd => ∃ (q1 : Nat) (d' : Int), v = .int .i64 d' ∧ q ≤ q1 ∧ q1 < n ∧ -((q1 : Int) + 1) ≤ d' ∧ d' ≤ (q1 : Int) + 1 ∧ Hid (step (zs.drop q) d = (q1 + 1 - q, d')) ∧ Hid (Dec wd rb (some ⟨lb, 0, none⟩) n c q1) ∧ Hid (Below rb w wd))
              case first =>
                by_cases y1 : y = 34
                · subst y1
                  have HSE : ∀ k, Calls Try.prog 29 #[.slice (some ⟨lb, 0, none⟩) n c, .int .i64 q] (wr.drewN k) fun e w' => e = .returned (.int .i64 ((q + 1 + send (zs.drop (q + 1)) false : Nat))) ∧ w' = wr.drewN k := fun k => stringEnd_any lb n c q zs (wr.drewN k) (HLr.out.drewN k) hn hq HY.out.symm hnc
                  have hqe : q + 1 + send (zs.drop (q + 1)) false ≤ n := by have := send_le (zs.drop (q + 1)) false; rw [List.length_drop, HLEN.out] at this; omega
                  have HR : Hid (step (zs.drop q) d = (q + 1 + send (zs.drop (q + 1)) false - q, d)) := by rw [HST.out, if_pos rfl, show q + 1 + send (zs.drop (q + 1)) false - q = 1 + send (zs.drop (q + 1)) false by omega]; rfl
                  have hpe : q < q + 1 + send (zs.drop (q + 1)) false := by omega
                  clear HST
                  generalize q + 1 + send (zs.drop (q + 1)) false = qe at HSE hqe HR hpe
                  obtain ⟨qm, rfl⟩ : ∃ qm, qe = qm + 1 := ⟨qe - 1, by omega⟩
                  have g3 := HDr.out.free
                  go_wp2_with fail
                  go_region_with (go_at_call 29; refine (HSE _).mono ?_; rintro e w' ⟨rfl, rfl⟩)
                  all_goals (
                    go_wp2_with fail
                    go_meet
                    case rel => exact ⟨qm, d, rfl, by omega, by omega, by omega, by omega, HR.out, (HDr.out.drewN _).set qm (by rw [wrap_nat qm (by omega)]), (below_drewN HBr.out _).setCell (Nat.le_refl _) _⟩)
                · have e1 : (y == 34) = false := by simpa using y1
                  by_cases y2 : y = 123 ∨ y = 91
                  · have HR : Hid (step (zs.drop q) d = (q + 1 - q, d + 1)) := by rw [HST.out, if_neg y1, if_pos y2, show q + 1 - q = 1 by omega]; rfl
                    clear HST
                    rcases y2 with rfl | rfl
                    · as_aux_lemma =>
                        go_wp2_with fail
                        go_meet
                        case rel => exact ⟨q, d + 1, by go_num, Nat.le_refl _, hq, by omega, by omega, HR.out, HDr.out.drewN _, below_drewN HBr.out _⟩
                    · as_aux_lemma =>
                        go_wp2_with fail
                        go_meet
                        case rel => exact ⟨q, d + 1, by go_num, Nat.le_refl _, hq, by omega, by omega, HR.out, HDr.out.drewN _, below_drewN HBr.out _⟩
                  · have e2 : (y == 123) = false := by simp; omega
                    have e3 : (y == 91) = false := by simp; omega
                    by_cases y3 : y = 125 ∨ y = 93
                    · have HR : Hid (step (zs.drop q) d = (q + 1 - q, d - 1)) := by rw [HST.out, if_neg y1, if_neg y2, if_pos y3, show q + 1 - q = 1 by omega]; rfl
                      clear HST y2
                      rcases y3 with rfl | rfl
                      · as_aux_lemma =>
                          go_wp2_with fail
                          go_meet
                          case rel => exact ⟨q, d - 1, by go_num, Nat.le_refl _, hq, by omega, by omega, HR.out, HDr.out.drewN _, below_drewN HBr.out _⟩
                      · as_aux_lemma =>
                          go_wp2_with fail
                          go_meet
                          case rel => exact ⟨q, d - 1, by go_num, Nat.le_refl _, hq, by omega, by omega, HR.out, HDr.out.drewN _, below_drewN HBr.out _⟩
                    · have e4 : (y == 125) = false := by simp; omega
                      have e5 : (y == 93) = false := by simp; omega
                      have HR : Hid (step (zs.drop q) d = (q + 1 - q, d)) := by rw [HST.out, if_neg y1, if_neg y2, if_neg y3, show q + 1 - q = 1 by omega]; rfl
                      clear HST y2 y3
                      as_aux_lemma =>
                        go_wp2_with fail
                        go_meet
                        case rel => exact ⟨q, d, by go_num, Nat.le_refl _, hq, by omega, by omega, HR.out, HDr.out.drewN _, below_drewN HBr.out _⟩
              case rest =>
                obtain ⟨q1, d', rfl, hq1, hq1n, hd1', hd2', HR, HDx, HBx⟩ := hcut
                have k1 := HDx.out.line
                have k2 := HDx.out.pos
                have k3 := HDx.out.free
                clear g1 g2 hc
                have hstep := HBR.out q d hpq hq HJ.out
                rw [HR.out, show q + (q1 + 1 - q) = q1 + 1 by omega] at hstep
                have HS1 : Hid (d' = 0 → F (q1 + 1)) := hstep.1
                have HS2 : Hid (d' ≠ 0 → J (q1 + 1) d') := hstep.2
                clear hstep
                by_cases h0 : d' = 0
                · have HF1 : Hid (F (q1 + 1)) := HS1.out h0
                  clear HS1 HS2
                  subst h0
                  as_aux_lemma =>
                    go_wp2_with fail
                    go_meet
                    case rel => exact ⟨q1 + 1, by omega, by omega, HF1.out, HDx.out.set (q1 + 1) (by go_num), HBx.out.setCell (Nat.le_refl _) _⟩
                · have e0 : (d' == 0) = false := by simpa using h0
                  as_aux_lemma =>
                    go_wp2_with fail
                    go_roundg (n - (q1 + 1))
                    case measure => omega
                    case rel => exact ⟨q1 + 1, d', rfl, by omega, by omega, rfl, by omega, by omega, HS2.out h0, HDx.out.set (q1 + 1) (by go_num), HBx.out.setCell (Nat.le_refl _) _⟩
            · obtain rfl : q = n := by omega
              have f1 : decide ((q : Int) < (q : Int)) = false := by simp
              as_aux_lemma =>
                go_wp2_with fail
                go_quiet (fail)
                go_wp2_with fail
                go_meet
                case rel => exact ⟨q, hpq, Nat.le_refl _, HEND.out d HJ.out, HDr.out.drewN _, below_drewN HBr.out _⟩
      · have HF0 : Hid (∀ e, Lit zs p' e → F e) := HLIT.out (fun h => by rw [← HZ.out]; omega)
        have hz0 : z ≠ 34 ∧ z ≠ 123 ∧ z ≠ 91 := by
          by_cases h : p' < n
          · omega
          · have : z = 0 := by rw [HZ.out, List.getD, List.getElem?_eq_none (by rw [HLEN.out]; omega)]; rfl
            omega
        have c1 : (z == 34) = false := by simpa using hz0.1
        have c2 : (z == 123) = false := by simpa using hz0.2.1
        have c3 : (z == 91) = false := by simpa using hz0.2.2
        clear hs hbk hz0
        go_wp2_with fail
        go_loopg [] (n - p') (fun g wr => ∃ q : Nat, p' ≤ q ∧ q ≤ n ∧ g = n - q ∧ Hid (∀ t, p' ≤ t → t < q → dl (zs.getD t 0) = false) ∧ Hid (Dec wr rb a n c q) ∧ Hid (Below rb w wr))
        case atStart => exact ⟨p', Nat.le_refl _, hpn, rfl, fun t h1 h2 => by omega, HD.out, HB.out⟩
        case round =>
          obtain ⟨q, hpq, hqn, hg, HA, HDr, HBr⟩ := hrel
          have g1 := HDr.out.line
          have g2 := HDr.out.pos
          have g3 := HDr.out.free
          clear h1 h2 h3 c1 c2 c3
          by_cases hq : q < n
          · obtain rfl := HLW.out.at_ (by omega)
            have HLr : Hid (Line wr lb (some ⟨lb, 0, none⟩) n zs) := HLW.out.below HBr.out HBL.out
            have hc := HLr.out.cell q hq
            obtain ⟨y, hy⟩ : ∃ y, y = zs.getD q 0 := ⟨_, rfl⟩
            have HY : Hid (y = zs.getD q 0) := hy
            rw [← hy] at hc
            clear hy
            have f1 : decide ((q : Int) < (n : Int)) = true := by simp; omega
            cases hdl : dl y with
            | true =>
              have HDL : Hid (dl y = true) := hdl
              have HC : ∀ k, Calls Try.prog 31 #[.int .u8 y] (wr.drewN k) fun e w' => e = .returned (.bool true) ∧ w' = wr.drewN k := fun k => by rw [← hdl]; exact isDelim_any y _
              clear hdl
              as_aux_lemma =>
                go_wp2_with fail
                go_quiet (first | (go_at_call 31; exact Calls.quiet_of_same (HC _)))
                go_wp2_with fail
                go_meet
                case rel => exact ⟨q, hpq, hqn, HF0.out q ⟨hpq, by rw [HLEN.out]; exact hqn, HA.out, fun _ => by rw [← HY.out]; exact HDL.out⟩, HDr.out.drewN _, below_drewN HBr.out _⟩
            | false =>
              have HDL : Hid (dl y = false) := hdl
              have HC : ∀ k, Calls Try.prog 31 #[.int .u8 y] (wr.drewN k) fun e w' => e = .returned (.bool false) ∧ w' = wr.drewN k := fun k => by rw [← hdl]; exact isDelim_any y _
              clear hdl
              as_aux_lemma =>
                go_wp2_with fail
                go_quiet (first | (go_at_call 31; exact Calls.quiet_of_same (HC _)))
                go_wp2_with fail
                go_roundg (n - (q + 1))
                case measure => omega
                case rel =>
                  refine ⟨q + 1, by omega, by omega, rfl, fun t h1 h2 => ?_, (HDr.out.drewN _).set (q + 1) (by go_num), (below_drewN HBr.out _).setCell (Nat.le_refl _) _⟩
                  by_cases e : t = q
                  · subst e; rw [← HY.out]; exact HDL.out
                  · exact HA.out t h1 (by omega)
          · obtain rfl : q = n := by omega
            have f1 : decide ((q : Int) < (q : Int)) = false := by simp
            as_aux_lemma =>
              go_wp2_with fail
              go_quiet (fail)
              go_wp2_with fail
              go_meet
              case rel => exact ⟨q, hpq, Nat.le_refl _, HF0.out q ⟨hpq, by rw [HLEN.out]; exact Nat.le_refl _, HA.out, fun h => absurd h (by rw [HLEN.out]; omega)⟩, HDr.out.drewN _, below_drewN HBr.out _⟩
  case rest =>
    obtain ⟨q, hpq, hqn, HF, HD2, HB2⟩ := hcut
    have g1 := HD2.out.line
    have g2 := HD2.out.pos
    by_cases hpe : p' < q
    · obtain rfl := HLW.out.at_ (by omega)
      go_wp2_with fail
      go_quiet (fail)
      go_wp2_with fail
      go_ret
      exact ⟨q, _, _, _, hpq, hqn, HF.out, rfl, by omega, by omega, fun _ => rfl, HD2.out.drewN _, below_drewN HB2.out _⟩
    · obtain rfl : q = p' := by omega
      by_cases hcq : c = q
      · subst hcq
        go_wp2_with fail
        go_quiet (fail)
        go_wp2_with fail
        go_ret
        exact ⟨c, _, _, _, Nat.le_refl _, hqn, HF.out, rfl, by omega, by omega, fun h => absurd h (by omega), HD2.out.drewN _, below_drewN HB2.out _⟩
      go_wp2_with fail
      go_quiet (fail)
      go_wp2_with fail
      all_goals (
        go_ret
        exact ⟨q, _, _, _, Nat.le_refl _, hqn, HF.out, rfl, by omega, by omega, fun h => absurd h (by omega), HD2.out.drewN _, below_drewN HB2.out _⟩)
end Go.Proofs.Qxb6000575a
