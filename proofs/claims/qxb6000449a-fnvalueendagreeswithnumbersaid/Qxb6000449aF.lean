import Derived.Test.Qxb6000449aE
set_option linter.unusedVariables false
namespace Go.Proofs.Qxb6000449a
open Go.RowKit

set_option maxHeartbeats 1000000 in
theorem zzBytes_any (a : Option Addr) (n c : Nat) (i : Int) (w : World) : Calls Try.prog 18 #[.slice a n c, .int .i64 i] w fun e w' => e = .returned (.bool (decide (n ≤ 1048576))) ∧ w' = w := by
  by_cases h : n ≤ 1048576
  · have b1 : decide ((1048576 : Int) < (n : Int)) = false := by simp; omega
    rw [show decide (n ≤ 1048576) = true by simpa using h]
    go_enter Try.func18, Try.ntmps18
    go_wp2
    go_ret
    exact ⟨rfl, rfl⟩
  · have b1 : decide ((1048576 : Int) < (n : Int)) = true := by simp; omega
    rw [show decide (n ≤ 1048576) = false by simpa using h]
    go_enter Try.func18, Try.ntmps18
    go_wp2
    go_ret
    exact ⟨rfl, rfl⟩

set_option maxHeartbeats 1000000 in
theorem newDec_any (a : Option Addr) (n c i : Nat) (w : World) : Calls Try.prog 13 #[.slice a n c, .int .i64 i] w fun e w' => e = .returned (.pointer (some ⟨w.heap.size, 0, none⟩)) ∧ Dec w' w.heap.size a n c i ∧ Below w.heap.size w w' := by
  go_enter Try.func13, Try.ntmps13
  go_wp2
  go_ret
  refine ⟨rfl, ⟨?_, ?_, ?_, ?_⟩, ?_⟩
  · exact World.cell?_alloc_at _ _ _ _ rfl
  · exact World.cell?_alloc_at _ _ _ _ rfl
  · exact World.frozen?_alloc_at _ _ _ _ rfl
  · simp
  · exact (Below.refl _ _).alloc (Nat.le_refl _) _

set_option maxHeartbeats 1000000 in
theorem decPos_any (rb : Nat) (a : Option Addr) (n c i : Nat) (w : World) (h : Dec w rb a n c i) : Calls Try.prog 15 #[.pointer (some ⟨rb, 0, none⟩)] w fun e w' => e = .returned (.int .i64 i) ∧ w' = w := by
  have h2 := h.pos
  go_enter Try.func15, Try.ntmps15
  go_wp2
  go_ret
  exact ⟨rfl, rfl⟩

set_option maxHeartbeats 1000000 in
theorem zzEnd_any (lb : Nat) (a : Option Addr) (n c p q : Nat) (zs : List Int) (w : World) (hl : Line w lb a n zs) (hn : n ≤ 1048576) (hpq : p < q) (hqn : q ≤ n) (hnum : Num zs p q) (hstop : q < n → sp (zs.getD q 0) = true ∨ zs.getD q 0 = 44 ∨ zs.getD q 0 = 93 ∨ zs.getD q 0 = 125) :
    Calls Try.prog 20 #[.slice a n c, .int .i64 p] w fun e w' => e = .returned (.int .i64 q) ∧ w' = w := by
  have HV := valueEnd_any lb a n c p q zs w hl hn hpq hqn hnum hstop
  clear hl hnum hstop
  go_enter Try.func20, Try.ntmps20
  go_wp2_with fail
  refine HV.mono ?_
  rintro e w1 ⟨rfl, rfl⟩
  go_wp2
  go_ret
  exact ⟨rfl, rfl⟩

set_option maxRecDepth 100000 in
set_option maxHeartbeats 4000000 in
theorem law_any (a : Option Addr) (n c : Nat) (zs0 : List Int) (i : Int) (w : World) (hrow : IsRow .u8 w a n c zs0) :
    Calls Try.prog 5 #[.slice a n c, .int .i64 i] w fun e w' => e = .returned (.bool true) ∧ Below w.heap.size w w' := by
  have HR : Hid (IsRow .u8 w a n c zs0) := hrow
  clear hrow
  go_enter Try.func5, Try.ntmps5
  go_wp2_with fail
  refine (zzBytes_any a n c i w).mono ?_
  rintro e w1 ⟨rfl, rfl⟩
  by_cases hn : n ≤ 1048576
  · rw [show decide (n ≤ 1048576) = true by simpa using hn]
    by_cases hi : 0 ≤ i ∧ i ≤ n
    · obtain ⟨iN, rfl⟩ := Int.eq_ofNat_of_zero_le hi.1
      have hiN : iN ≤ n := by omega
      have b0 : decide ((1048576 : Int) < (n : Int)) = false := by simp; omega
      have b1 : decide ((iN : Int) < 0) = false := by simp
      have b2 : decide ((n : Int) < (iN : Int)) = false := by simp; omega
      clear hi
      go_wp2_with fail
      refine (clone_any a n c zs0 w1 HR.out hn).mono ?_
      rintro e w2 ⟨a', c', lb, zs, rfl, hl, hnc, hcm, hlb, hlbw, hb2⟩
      clear HR
      have HB2 : Hid (Below w1.heap.size w1 w2) := hb2
      have HL2 : Hid (Line w2 lb a' n zs) := hl
      have HLB : Hid (0 < n → lb < w2.heap.size) := hlb
      have hlen : zs.length = n := hl.len
      clear hb2 hl hlb
      go_wp2_with fail
      refine (lawSkip_any lb a' n c' iN zs w2 HL2.out hn hiN).mono ?_
      rintro e w3 ⟨p, hsk, rfl, rfl⟩
      have HSK : Hid (Skip zs iN p) := hsk
      clear hsk
      go_wp2_with fail
      refine (newDec_any a' n c' iN w3).mono ?_
      rintro e w4 ⟨rfl, hd4, hb4⟩
      have HD4 : Hid (Dec w4 w3.heap.size a' n c' iN) := hd4
      have HB4 : Hid (Below w3.heap.size w3 w4) := hb4
      have HL4 : Hid (Line w4 lb a' n zs) := HL2.out.below hb4 HLB.out
      clear hd4 hb4
      go_wp2_with fail
      refine (number_any w3.heap.size lb a' n c' iN zs w4 HL4.out HD4.out HLB.out hn hiN hnc).mono ?_
      rintro e w5 ⟨p', hsk', hb5, hres⟩
      obtain rfl := HSK.out.uniq hsk'
      have HL5 : Hid (Line w5 lb a' n zs) := HL4.out.below hb5 HLB.out
      have HB5 : Hid (Below w1.heap.size w1 w5) := HB2.out.trans ((HB4.out.mono HB2.out.size).trans (hb5.mono HB2.out.size))
      clear hsk' hb5 HD4 HL4 HB4 HB2 HL2
      rcases hres with ⟨v, rfl⟩ | ⟨v, k, hpk, hkn, hnum, rfl, hd5⟩
      · go_wp2_with fail
        go_ret
        exact ⟨rfl, HB5.out⟩
      · have HN : Hid (Num zs p' k) := hnum
        have HD5 : Hid (Dec w5 w3.heap.size a' n c' k) := hd5
        clear hnum hd5
        go_wp2_with fail
        refine (decPos_any w3.heap.size a' n c' k w5 HD5.out).mono ?_
        rintro e w6 ⟨rfl, rfl⟩
        by_cases hk : k < n
        · have hc := HL5.out.cell k hk
          have ha := HL5.out.at_ (by omega)
          subst ha
          obtain ⟨z, hz⟩ : ∃ z, z = zs.getD k 0 := ⟨_, rfl⟩
          have HZ : Hid (z = zs.getD k 0) := hz
          rw [← hz] at hc
          clear hz
          have HE : Hid ((sp z = true ∨ z = 44 ∨ z = 93 ∨ z = 125) → Calls Try.prog 20 #[.slice (some ⟨lb, 0, none⟩) n c', .int .i64 p'] w6 fun e w' => e = .returned (.int .i64 k) ∧ w' = w6) := fun h => zzEnd_any lb (some ⟨lb, 0, none⟩) n c' p' k zs w6 HL5.out hn hpk hkn HN.out (fun _ => by rw [← HZ.out]; exact h)
          cases hs : sp z with
          | true =>
            as_aux_lemma =>
              go_wp2_with (first
                | (go_at_call 19; refine (lawBlank_any z _).mono ?_; rintro e w3 ⟨rfl, rfl⟩; rw [hs])
                | (go_at_call 20; refine (HE.out (.inl hs)).mono ?_; rintro e w3 ⟨rfl, rfl⟩))
              go_ret
              exact ⟨rfl, HB5.out⟩
          | false =>
            by_cases h1 : z = 44
            · subst h1
              have HE1 := HE.out (.inr (.inl rfl))
              as_aux_lemma =>
                go_wp2_with (first
                  | (go_at_call 19; refine (lawBlank_any _ _).mono ?_; rintro e w3 ⟨rfl, rfl⟩; rw [hs])
                  | (go_at_call 20; refine HE1.mono ?_; rintro e w3 ⟨rfl, rfl⟩))
                go_ret
                exact ⟨rfl, HB5.out⟩
            · have g1 : (z == 44) = false := by simpa using h1
              by_cases h2 : z = 93
              · subst h2
                have HE1 := HE.out (.inr (.inr (.inl rfl)))
                as_aux_lemma =>
                  go_wp2_with (first
                    | (go_at_call 19; refine (lawBlank_any _ _).mono ?_; rintro e w3 ⟨rfl, rfl⟩; rw [hs])
                    | (go_at_call 20; refine HE1.mono ?_; rintro e w3 ⟨rfl, rfl⟩))
                  go_ret
                  exact ⟨rfl, HB5.out⟩
              · have g2 : (z == 93) = false := by simpa using h2
                by_cases h3 : z = 125
                · subst h3
                  have HE1 := HE.out (.inr (.inr (.inr rfl)))
                  as_aux_lemma =>
                    go_wp2_with (first
                      | (go_at_call 19; refine (lawBlank_any _ _).mono ?_; rintro e w3 ⟨rfl, rfl⟩; rw [hs])
                      | (go_at_call 20; refine HE1.mono ?_; rintro e w3 ⟨rfl, rfl⟩))
                    go_ret
                    exact ⟨rfl, HB5.out⟩
                · have g3 : (z == 125) = false := by simpa using h3
                  as_aux_lemma =>
                    go_wp2_with (first
                      | (go_at_call 19; refine (lawBlank_any _ _).mono ?_; rintro e w3 ⟨rfl, rfl⟩; rw [hs]))
                    go_ret
                    exact ⟨rfl, HB5.out⟩
        · have hkn' : decide ((k : Int) < (n : Int)) = false := by simp; omega
          have HE : Hid (Calls Try.prog 20 #[.slice a' n c', .int .i64 p'] w6 fun e w' => e = .returned (.int .i64 k) ∧ w' = w6) := zzEnd_any lb a' n c' p' k zs w6 HL5.out hn hpk hkn HN.out (fun h => absurd h hk)
          as_aux_lemma =>
            go_wp2_with (first
              | (go_at_call 20; refine (HE.out).mono ?_; rintro e w3 ⟨rfl, rfl⟩))
            go_ret
            exact ⟨rfl, HB5.out⟩
    · by_cases hi0 : i < 0
      · go_wp2
        go_ret
        exact ⟨rfl, Below.refl _ _⟩
      · have b0 : decide (i < 0) = false := by simpa using hi0
        have b1 : decide ((n : Int) < i) = true := by simp; omega
        go_wp2
        go_ret
        exact ⟨rfl, Below.refl _ _⟩
  · rw [show decide (n ≤ 1048576) = false by simpa using hn]
    go_wp2
    go_ret
    exact ⟨rfl, Below.refl _ _⟩
end Go.Proofs.Qxb6000449a
