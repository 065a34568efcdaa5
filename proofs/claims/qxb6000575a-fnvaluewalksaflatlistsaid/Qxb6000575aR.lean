import Derived.Test.Qxb6000575aS
set_option linter.unusedVariables false
namespace Go.Proofs.Qxb6000575a
open Go.RowKit

set_option maxRecDepth 100000 in
set_option maxHeartbeats 16000000 in
theorem flat_any (b off : Nat) (a : Option Addr) (n c : Nat) (f : Nat → ByteArray) (b1 off1 : Nat) (a1 : Option Addr) (n1 c1 : Nat) (f1 : Nat → Int) (b2 off2 : Nat) (a2 : Option Addr) (n2 c2 : Nat) (f2 : Nat → Int) (lead : Int) (w : World)
    (hs : Strs w b off a n f) (hs1 : Ints .i64 w b1 off1 a1 n1 f1) (hs2 : Ints .u8 w b2 off2 a2 n2 f2) (hnm : n ≤ maxLen) (hnm1 : n1 ≤ maxLen) (hnm2 : n2 ≤ maxLen) :
    Calls Try.prog 8 #[.slice a n c, .slice a1 n1 c1, .slice a2 n2 c2, .int .i64 lead] w fun e w' => e = .returned (.bool true) ∧ Below w.heap.size w w' := by
  have HS : Hid (Strs w b off a n f) := hs
  have HS1 : Hid (Ints .i64 w b1 off1 a1 n1 f1) := hs1
  have HS2 : Hid (Ints .u8 w b2 off2 a2 n2 f2) := hs2
  have HZZ := zzFlat_any b off a a1 a2 n c n1 c1 n2 c2 f lead w hs hnm hnm1 hnm2
  have hm0 : n ≤ 9223372036854775807 := hnm
  have hm1 : n1 ≤ 9223372036854775807 := hnm1
  have hm2 : n2 ≤ 9223372036854775807 := hnm2
  clear hs hs1 hs2 hnm hnm1 hnm2
  go_enter Try.func8, Try.ntmps8
  go_wp2_with fail
  refine HZZ.mono ?_
  rintro e w1 ⟨rfl, r, rfl, hr⟩
  cases r with
  | false =>
    clear hr HZZ
    go_wp2_with fail
    go_ret
    exact ⟨rfl, Below.refl _ _⟩
  | true =>
    obtain ⟨hx0, hx1, hx2, hsz⟩ := hr rfl
    have HSZ : Hid (∀ t, t < n → (f t).size ≤ 1048576) := hsz
    clear hr hsz HZZ hm0 hm1 hm2
    by_cases hn : n ≤ 65536
    · by_cases hn1 : n1 ≤ 65536
      · by_cases hn2 : n2 ≤ 65536
        · by_cases hlp : 0 ≤ lead ∧ lead ≤ 4096
          · by_cases h8 : 8 * n + 24 * n1 + n2 ≤ 131072
            · obtain ⟨lN, rfl⟩ := Int.eq_ofNat_of_zero_le hlp.1
              have hlN : lN ≤ 4096 := by omega
              clear hlp hx0 hx1 hx2
              have q0 : decide ((65536 : Int) < (n : Int)) = false := by simp; omega
              have q1 : decide ((65536 : Int) < (n1 : Int)) = false := by simp; omega
              have q2 : decide ((65536 : Int) < (n2 : Int)) = false := by simp; omega
              have q3 : decide ((lN : Int) < 0) = false := by simp
              have q4 : decide ((4096 : Int) < (lN : Int)) = false := by simp; omega
              have q5 : decide ((131072 : Int) < 8 * (n : Int) + 24 * (n1 : Int) + (n2 : Int)) = false := by simp; omega
              go_wp2_with fail
              clear q0 q1 q2 q3 q4 q5
              go_loopg [9, 10] n (fun g v9 v10 wr => ∃ k T : Nat, v9 = .int .i64 ((8 * n + 24 * n1 + n2 + T : Nat) : Int) ∧ v10 = .int .i64 k ∧ k ≤ n ∧ 8 * n + 24 * n1 + n2 + T ≤ 131072 ∧ g = n - k ∧ w1 = wr ∧ Hid (T = sumS f k))
              case atStart => exact ⟨0, 0, by go_num, rfl, Nat.zero_le _, by omega, rfl, rfl, rfl⟩
              case round =>
                obtain ⟨k, T, rfl, rfl, hk, hT, hg, rfl, HT⟩ := hrel
                by_cases hlt : k < n
                · obtain rfl := HS.out.at_ (by omega)
                  have hc := HS.out.cell k hlt
                  have hm := HSZ.out k hlt
                  obtain ⟨s, hs⟩ : ∃ s, s = f k := ⟨_, rfl⟩
                  have HF : Hid (s = f k) := hs
                  rw [← hs] at hc hm
                  clear hs
                  by_cases h2 : 8 * n + 24 * n1 + n2 + T + s.size ≤ 131072
                  · have c2 : decide ((131072 : Int) < ((8 * n + 24 * n1 + n2 + T : Nat) : Int) + (s.size : Int)) = false := by simp; omega
                    go_wp2_with fail
                    go_roundg (n - (k + 1))
                    case measure => omega
                    case rel => exact ⟨k + 1, T + s.size, by go_num, by go_num, by omega, by omega, rfl, rfl, by show _ = _; rw [HT.out, HF.out]; rfl⟩
                  · have c2 : decide ((131072 : Int) < ((8 * n + 24 * n1 + n2 + T : Nat) : Int) + (s.size : Int)) = true := by simp; omega
                    go_wp2_with fail
                    go_ret
                    exact ⟨rfl, Below.refl _ _⟩
                · obtain rfl : k = n := by omega
                  clear hlt hg
                  obtain ⟨i0, hi, hz0, hz1, hz2⟩ := info_parts info22
                  go_wp2_with (first
                    | (at_make; refine wpList_make_own w1 rfl _ _ 41 rfl w1.heap.size 22 i0 (.slice none 0 0) 1 Try.underlying41 hi hz0 hz1 .i64 .i64 _ (n2 + k + n1) rfl rfl (by omega) (by rw [hz2]; omega) (by unfold maxLen; omega) (Nat.le_refl _) ?_; intro w2 hown2 hgr2))
                  have HB2 : Hid (Below w1.heap.size w1 w2) := (Below.refl _ _).grown hgr2 (Nat.le_refl _) (fun q hq => by cases hq)
                  have HE2 : Hid (Els w2 w1.heap.size (.slice (some ⟨w1.heap.size, 0, none⟩) 0 (n2 + k + n1)) [] []) := ⟨hown2, fun i hi => absurd hi (by simp), fun e he => by cases he⟩
                  clear hown2 hgr2 hi hz0 hz1 hz2
                  go_loopg [11, 12, 13, 14] n2 (fun g v11 v12 v13 v14 wx => ∃ (t si ni : Nat) (es : List (List Int)) (vs : List Value), v12 = .int .i64 si ∧ v13 = .int .i64 ni ∧ v14 = .int .i64 t ∧ t ≤ n2 ∧ si ≤ k ∧ ni ≤ n1 ∧ g = n2 - t ∧ Hid (Els wx w1.heap.size v11 es vs) ∧ Hid (Below w1.heap.size w1 wx) ∧ Hid (es.length ≤ t + si + ni) ∧ Hid (es.flatten.length ≤ 6 * sumS f si + 2 * si + 21 * ni + 5 * t))
                  case atStart => exact ⟨0, 0, 0, [], [], rfl, rfl, rfl, Nat.zero_le _, Nat.zero_le _, Nat.zero_le _, rfl, HE2.out, HB2.out, Nat.zero_le _, Nat.zero_le _⟩
                  case round =>
                    obtain ⟨t, si, ni, es, vs, rfl, rfl, rfl, ht, hsi, hni, hg, HE, HB, HL1, HL2⟩ := hrel
                    clear HE2 HB2
                    by_cases hlt : t < n2
                    · have hc := (HS2.out.below (Nat.le_refl _) HB.out).cell t hlt
                      have hw := HS2.out.wf t hlt
                      obtain rfl := HS2.out.at_ (by omega)
                      obtain ⟨y, hy⟩ : ∃ y, y = f2 t := ⟨_, rfl⟩
                      rw [← hy] at hc hw
                      clear hy
                      have hy0 : 0 ≤ y ∧ y < 256 := by simp [Lit.wf, IntKind.min, IntKind.max, IntKind.signed, IntKind.bits] at hw; omega
                      clear hw
                      go_upto_region 23 with (fail)
                      generalize hm : y % 5 = m
                      have hm0 : 0 ≤ m ∧ m < 5 := by omega
                      clear hm hy0 hc
                      have hbr := HB.out.size
                      have hl1 := HL1.out
                      rcases (show m = 0 ∨ m = 1 ∨ m = 2 ∨ m = 3 ∨ m = 4 by omega) with rfl | rfl | rfl | rfl | rfl
                      · clear hm0
                        by_cases hss : si < k
                        · have hc := (HS.out.below (Nat.le_refl _) HB.out).cell si hss
                          have hz := HSZ.out si hss
                          obtain rfl := HS.out.at_ (by omega)
                          obtain ⟨s, hs⟩ : ∃ s, s = f si := ⟨_, rfl⟩
                          have HF : Hid (s = f si) := hs
                          rw [← hs] at hc hz
                          clear hs
                          go_wp2_with fail
                          refine (enc_any wr.heap.size (.slice none 0 0) [] s wr (World.ownsRow_nil _ _ _ _) (Nat.le_refl _) (by simp; omega)).mono ?_
                          rintro e w3 ⟨v3, rfl, hown3, hb3⟩
                          have HE3 : Hid (Els w3 w1.heap.size _ es vs) := HE.out.below hb3 (Nat.le_refl _)
                          have HO3 : Hid (Own w3 w1.heap.size v3 (enc (sb s))) := ownsRow_base (base := wr.heap.size) (by simpa [Own] using hown3) hbr
                          have HB3 : Hid (Below w1.heap.size w1 w3) := HB.out.trans (hb3.mono hbr)
                          have hbr3 := HB3.out.size
                          clear hown3 hb3
                          obtain ⟨g3, cap3, rfl, -, -, -⟩ := HO3.out.shape _ rfl (elem_enc s).pos
                          go_wp2_with (first | (at_builtin; refine app_elem _ rfl (.tmp 108) (.tmp 114) rfl w1.heap.size _ _ es vs (enc (sb s)) rfl HE3.out HO3.out (elem_enc s) _ _ rfl (by simp) (by omega) hbr3 ?_; intro v4 w4 hels4 hb4))
                          go_roundg (n2 - (t + 1))
                          case measure => omega
                          case rel =>
                            refine ⟨t + 1, si + 1, ni, es ++ [enc (sb s)], vs ++ [_], by go_num, rfl, by go_num, by omega, by omega, hni, rfl, hels4, HB3.out.trans hb4, len_snoc (by omega) HL1.out, ?_⟩
                            have h1 := enc_len (sb s)
                            rw [sb_len] at h1
                            refine flat_snoc ?_ HL2.out
                            rw [sumS, ← HF.out]
                            omega
                        · have e1 : decide ((si : Int) < (k : Int)) = false := by simp; omega
                          go_wp2_with (first | (at_builtin; refine app_elem _ rfl (.tmp 148) (.tmp 150) rfl w1.heap.size _ _ es vs [110, 117, 108, 108] rfl (HE.out.below ((Below.refl _ _).alloc (Nat.le_refl _) _) (Nat.le_refl _)) (own_lit wr w1.heap.size [110, 117, 108, 108] _ 4 hbr rfl (by omega) rfl) elem_null _ _ rfl (by simp) (by omega) (Nat.le_trans hbr (by simp)) ?_; intro v4 w4 hels4 hb4))
                          go_roundg (n2 - (t + 1))
                          case measure => omega
                          case rel => exact ⟨t + 1, si, ni, es ++ [[110, 117, 108, 108]], vs ++ [_], rfl, rfl, by go_num, by omega, hsi, hni, rfl, hels4, (HB.out.alloc hbr _).trans hb4, len_snoc (by omega) HL1.out, flat_snoc (by simp only [List.length_cons, List.length_nil]; omega) HL2.out⟩
                      · clear hm0
                        by_cases hss : ni < n1
                        · have hc := (HS1.out.below (Nat.le_refl _) HB.out).cell ni hss
                          have hz := HS1.out.wf ni hss
                          obtain rfl := HS1.out.at_ (by omega)
                          obtain ⟨x, hx⟩ : ∃ x, x = f1 ni := ⟨_, rfl⟩
                          rw [← hx] at hc hz
                          clear hx
                          have hz2 : -9223372036854775808 ≤ x ∧ x ≤ 9223372036854775807 := by simp [Lit.wf, IntKind.min, IntKind.max, IntKind.signed, IntKind.bits] at hz; omega
                          clear hz
                          go_wp2_with fail
                          refine (int_any x wr hz2.1 hz2.2).mono ?_
                          rintro e w3 ⟨v3, ds, rfl, hown3, hb3, hne, hdl, hdg⟩
                          have HE3 : Hid (Els w3 w1.heap.size _ es vs) := HE.out.below hb3 (Nat.le_refl _)
                          have HO3 : Hid (Own w3 w1.heap.size v3 ds) := ownsRow_base hown3 hbr
                          have HB3 : Hid (Below w1.heap.size w1 w3) := HB.out.trans (hb3.mono hbr)
                          have HEL : Hid (IsElem ds) := elem_int hne hdg
                          have hbr3 := HB3.out.size
                          clear hown3 hb3 hne hdg hz2
                          obtain ⟨g3, cap3, rfl, -, -, -⟩ := HO3.out.shape _ rfl HEL.out.pos
                          go_wp2_with (first | (at_builtin; refine app_elem _ rfl (.tmp 126) (.tmp 132) rfl w1.heap.size _ _ es vs ds rfl HE3.out HO3.out HEL.out _ _ rfl (by simp) (by omega) hbr3 ?_; intro v4 w4 hels4 hb4))
                          go_roundg (n2 - (t + 1))
                          case measure => omega
                          case rel => exact ⟨t + 1, si, ni + 1, es ++ [ds], vs ++ [_], rfl, by go_num, by go_num, by omega, hsi, by omega, rfl, hels4, HB3.out.trans hb4, len_snoc (by omega) HL1.out, flat_snoc (by omega) HL2.out⟩
                        · have e1 : decide ((ni : Int) < (n1 : Int)) = false := by simp; omega
                          go_wp2_with (first | (at_builtin; refine app_elem _ rfl (.tmp 148) (.tmp 150) rfl w1.heap.size _ _ es vs [110, 117, 108, 108] rfl (HE.out.below ((Below.refl _ _).alloc (Nat.le_refl _) _) (Nat.le_refl _)) (own_lit wr w1.heap.size [110, 117, 108, 108] _ 4 hbr rfl (by omega) rfl) elem_null _ _ rfl (by simp) (by omega) (Nat.le_trans hbr (by simp)) ?_; intro v4 w4 hels4 hb4))
                          go_roundg (n2 - (t + 1))
                          case measure => omega
                          case rel => exact ⟨t + 1, si, ni, es ++ [[110, 117, 108, 108]], vs ++ [_], rfl, rfl, by go_num, by omega, hsi, hni, rfl, hels4, (HB.out.alloc hbr _).trans hb4, len_snoc (by omega) HL1.out, flat_snoc (by simp only [List.length_cons, List.length_nil]; omega) HL2.out⟩
                      · clear hm0
                        go_wp2_with (first | (at_builtin; refine app_elem _ rfl (.tmp 138) (.tmp 140) rfl w1.heap.size _ _ es vs [116, 114, 117, 101] rfl (HE.out.below ((Below.refl _ _).alloc (Nat.le_refl _) _) (Nat.le_refl _)) (own_lit wr w1.heap.size [116, 114, 117, 101] _ 4 hbr rfl (by omega) rfl) elem_true _ _ rfl (by simp) (by omega) (Nat.le_trans hbr (by simp)) ?_; intro v4 w4 hels4 hb4))
                        go_roundg (n2 - (t + 1))
                        case measure => omega
                        case rel => exact ⟨t + 1, si, ni, es ++ [[116, 114, 117, 101]], vs ++ [_], rfl, rfl, by go_num, by omega, hsi, hni, rfl, hels4, (HB.out.alloc hbr _).trans hb4, len_snoc (by omega) HL1.out, flat_snoc (by simp only [List.length_cons, List.length_nil]; omega) HL2.out⟩
                      · clear hm0
                        go_wp2_with (first | (at_builtin; refine app_elem _ rfl (.tmp 144) (.tmp 146) rfl w1.heap.size _ _ es vs [102, 97, 108, 115, 101] rfl (HE.out.below ((Below.refl _ _).alloc (Nat.le_refl _) _) (Nat.le_refl _)) (own_lit wr w1.heap.size [102, 97, 108, 115, 101] _ 5 hbr rfl (by omega) rfl) elem_false _ _ rfl (by simp) (by omega) (Nat.le_trans hbr (by simp)) ?_; intro v4 w4 hels4 hb4))
                        go_roundg (n2 - (t + 1))
                        case measure => omega
                        case rel => exact ⟨t + 1, si, ni, es ++ [[102, 97, 108, 115, 101]], vs ++ [_], rfl, rfl, by go_num, by omega, hsi, hni, rfl, hels4, (HB.out.alloc hbr _).trans hb4, len_snoc (by omega) HL1.out, flat_snoc (by simp only [List.length_cons, List.length_nil]; omega) HL2.out⟩
                      · clear hm0
                        go_wp2_with (first | (at_builtin; refine app_elem _ rfl (.tmp 148) (.tmp 150) rfl w1.heap.size _ _ es vs [110, 117, 108, 108] rfl (HE.out.below ((Below.refl _ _).alloc (Nat.le_refl _) _) (Nat.le_refl _)) (own_lit wr w1.heap.size [110, 117, 108, 108] _ 4 hbr rfl (by omega) rfl) elem_null _ _ rfl (by simp) (by omega) (Nat.le_trans hbr (by simp)) ?_; intro v4 w4 hels4 hb4))
                        go_roundg (n2 - (t + 1))
                        case measure => omega
                        case rel => exact ⟨t + 1, si, ni, es ++ [[110, 117, 108, 108]], vs ++ [_], rfl, rfl, by go_num, by omega, hsi, hni, rfl, hels4, (HB.out.alloc hbr _).trans hb4, len_snoc (by omega) HL1.out, flat_snoc (by simp only [List.length_cons, List.length_nil]; omega) HL2.out⟩
                    · obtain rfl : t = n2 := by omega
                      have f0 : decide ((t : Int) < (t : Int)) = false := by simp
                      clear hlt hg
                      obtain ⟨w5, hw5⟩ : ∃ w5, w5 = wr := ⟨_, rfl⟩
                      subst hw5
                      go_wp2_with fail
                      clear f0
                      go_loopg [11, 12] (k - si) (fun g v11 v12 wx => ∃ (sj : Nat) (es : List (List Int)) (vs : List Value), v12 = .int .i64 sj ∧ sj ≤ k ∧ g = k - sj ∧ Hid (Els wx w1.heap.size v11 es vs) ∧ Hid (Below w1.heap.size w1 wx) ∧ Hid (es.length ≤ t + sj + ni) ∧ Hid (es.flatten.length ≤ 6 * sumS f sj + 2 * sj + 21 * ni + 5 * t))
                      case atStart => exact ⟨si, es, vs, rfl, hsi, rfl, HE.out, HB.out, HL1.out, HL2.out⟩
                      case round =>
                        clear HE HB HL1 HL2
                        obtain ⟨sj, es, vs, rfl, hsj, hg, HE, HB, HL1, HL2⟩ := hrel
                        have hbr := HB.out.size
                        have hl1 := HL1.out
                        by_cases hss : sj < k
                        · have hc := (HS.out.below (Nat.le_refl _) HB.out).cell sj hss
                          have hz := HSZ.out sj hss
                          obtain rfl := HS.out.at_ (by omega)
                          obtain ⟨s, hs⟩ : ∃ s, s = f sj := ⟨_, rfl⟩
                          have HF : Hid (s = f sj) := hs
                          rw [← hs] at hc hz
                          clear hs
                          go_wp2_with fail
                          refine (enc_any wr.heap.size (.slice none 0 0) [] s wr (World.ownsRow_nil _ _ _ _) (Nat.le_refl _) (by simp; omega)).mono ?_
                          rintro e w3 ⟨v3, rfl, hown3, hb3⟩
                          have HE3 : Hid (Els w3 w1.heap.size _ es vs) := HE.out.below hb3 (Nat.le_refl _)
                          have HO3 : Hid (Own w3 w1.heap.size v3 (enc (sb s))) := ownsRow_base (base := wr.heap.size) (by simpa [Own] using hown3) hbr
                          have HB3 : Hid (Below w1.heap.size w1 w3) := HB.out.trans (hb3.mono hbr)
                          have hbr3 := HB3.out.size
                          clear hown3 hb3
                          obtain ⟨g3, cap3, rfl, -, -, -⟩ := HO3.out.shape _ rfl (elem_enc s).pos
                          go_wp2_with (first | (at_builtin; refine app_elem _ rfl (.tmp 158) (.tmp 164) rfl w1.heap.size _ _ es vs (enc (sb s)) rfl HE3.out HO3.out (elem_enc s) _ _ rfl (by simp) (by omega) hbr3 ?_; intro v4 w4 hels4 hb4))
                          go_roundg (k - (sj + 1))
                          case measure => omega
                          case rel =>
                            refine ⟨sj + 1, es ++ [enc (sb s)], vs ++ [_], by go_num, by omega, rfl, hels4, HB3.out.trans hb4, len_snoc (by omega) HL1.out, ?_⟩
                            have h1 := enc_len (sb s)
                            rw [sb_len] at h1
                            refine flat_snoc ?_ HL2.out
                            rw [sumS, ← HF.out]
                            omega
                        · obtain rfl : sj = k := by omega
                          have f0 : decide ((sj : Int) < (sj : Int)) = false := by simp
                          clear hss hg hbr hl1
                          obtain ⟨w6, hw6⟩ : ∃ w6, w6 = wr := ⟨_, rfl⟩
                          subst hw6
                          go_wp2_with fail
                          clear f0
                          go_loopg [11, 13] (n1 - ni) (fun g v11 v13 wx => ∃ (nj : Nat) (es : List (List Int)) (vs : List Value), v13 = .int .i64 nj ∧ nj ≤ n1 ∧ g = n1 - nj ∧ Hid (Els wx w1.heap.size v11 es vs) ∧ Hid (Below w1.heap.size w1 wx) ∧ Hid (es.length ≤ t + sj + nj) ∧ Hid (es.flatten.length ≤ 6 * sumS f sj + 2 * sj + 21 * nj + 5 * t))
                          case atStart => exact ⟨ni, es, vs, rfl, hni, rfl, HE.out, HB.out, HL1.out, HL2.out⟩
                          case round =>
                            clear HE HB HL1 HL2
                            obtain ⟨nj, es, vs, rfl, hnj, hg, HE, HB, HL1, HL2⟩ := hrel
                            have hbr := HB.out.size
                            have hl1 := HL1.out
                            by_cases hss : nj < n1
                            · have hc := (HS1.out.below (Nat.le_refl _) HB.out).cell nj hss
                              have hz := HS1.out.wf nj hss
                              obtain rfl := HS1.out.at_ (by omega)
                              obtain ⟨x, hx⟩ : ∃ x, x = f1 nj := ⟨_, rfl⟩
                              rw [← hx] at hc hz
                              clear hx
                              have hz2 : -9223372036854775808 ≤ x ∧ x ≤ 9223372036854775807 := by simp [Lit.wf, IntKind.min, IntKind.max, IntKind.signed, IntKind.bits] at hz; omega
                              clear hz
                              go_wp2_with fail
                              refine (int_any x wr hz2.1 hz2.2).mono ?_
                              rintro e w3 ⟨v3, ds, rfl, hown3, hb3, hne, hdl, hdg⟩
                              have HE3 : Hid (Els w3 w1.heap.size _ es vs) := HE.out.below hb3 (Nat.le_refl _)
                              have HO3 : Hid (Own w3 w1.heap.size v3 ds) := ownsRow_base hown3 hbr
                              have HB3 : Hid (Below w1.heap.size w1 w3) := HB.out.trans (hb3.mono hbr)
                              have HEL : Hid (IsElem ds) := elem_int hne hdg
                              have hbr3 := HB3.out.size
                              clear hown3 hb3 hne hdg hz2
                              obtain ⟨g3, cap3, rfl, -, -, -⟩ := HO3.out.shape _ rfl HEL.out.pos
                              go_wp2_with (first | (at_builtin; refine app_elem _ rfl (.tmp 172) (.tmp 178) rfl w1.heap.size _ _ es vs ds rfl HE3.out HO3.out HEL.out _ _ rfl (by simp) (by omega) hbr3 ?_; intro v4 w4 hels4 hb4))
                              go_roundg (n1 - (nj + 1))
                              case measure => omega
                              case rel => exact ⟨nj + 1, es ++ [ds], vs ++ [_], by go_num, by omega, rfl, hels4, HB3.out.trans hb4, len_snoc (by omega) HL1.out, flat_snoc (by omega) HL2.out⟩
                            · obtain rfl : nj = n1 := by omega
                              have f0 : decide ((nj : Int) < (nj : Int)) = false := by simp
                              clear hss hg hl1
                              obtain ⟨wv, hwv⟩ : ∃ wv, wv = wr := ⟨_, rfl⟩
                              subst hwv
                              obtain ⟨ge, ae, ce, rfl, hae, hce, hcl⟩ := HE.out.shape
                              obtain ⟨M, hM⟩ : ∃ M, es.length = M := ⟨_, rfl⟩
                              have hMb : M ≤ 196608 := by rw [← hM]; have := HL1.out; omega
                              have HFL : Hid (es.flatten.length ≤ 2621440) := by
                                have h1 := HL2.out
                                have h2 := HT.out
                                show _ ≤ _
                                omega
                              rw [hM] at hae hce hcl ⊢
                              have HM : Hid (es.length = M) := hM
                              have HAE : Hid (0 < M → ae = some ⟨ge, 0, none⟩ ∧ ge < wv.heap.size) := hae
                              have HCL : Hid (∀ i, i < M → wv.cell? ⟨ge, i, none⟩ = vs[i]?) := hcl
                              clear hae hcl hM HL1 HL2
                              go_wp2_with (first | (at_builtin; refine app_lits _ _ rfl (.tmp 180) (.tmp 181) rfl wv.heap.size _ [] [91] rfl (World.ownsRow_nil _ _ _ _) _ _ rfl rfl rfl (by simp) (Nat.le_refl _) ?_; intro v2 w2 hown2 hb2))
                              have HO2 : Hid (Own w2 wv.heap.size v2 [91]) := hown2
                              have HB2 : Hid (Below wv.heap.size wv w2) := hb2
                              clear hown2 hb2 f0
                              go_loopg [16, 17] lN (fun g v16 v17 wx => ∃ q : Nat, v17 = .int .i64 q ∧ q ≤ lN ∧ g = lN - q ∧ Hid (Own wx wv.heap.size v16 ([91] ++ wsl 2 q)) ∧ Hid (Below wv.heap.size wv wx))
                              case atStart => exact ⟨0, rfl, Nat.zero_le _, rfl, by show Own _ _ _ _; simpa [wsl] using HO2.out, HB2.out⟩
                              case round =>
                                clear HO2 HB2
                                obtain ⟨q, rfl, hq, hg, HO, HBq⟩ := hrel
                                have hbq := HBq.out.size
                                have hlw : ([91] ++ wsl 2 q).length ≤ 4097 := by rw [List.length_append, wsl_len]; simp; omega
                                by_cases hlt : q < lN
                                · have HN : Hid ([91] ++ wsl 2 (q + 1) = [91] ++ wsl 2 q ++ [wsb (q + 2)]) := by show _ = _; rw [wsl_succ]; simp
                                  have HWS := ws_any (q + 2) wr (by omega)
                                  rw [show ((q + 2 : Nat) : Int) = (q : Int) + 2 by omega] at HWS
                                  go_wp2_with fail
                                  refine HWS.mono ?_
                                  rintro e w3 ⟨rfl, rfl⟩
                                  clear HWS
                                  generalize wsb (q + 2) = y at HN
                                  generalize [91] ++ wsl 2 q = X at HN HO hlw
                                  go_wp2_with (first | (at_builtin; refine app_lits _ _ rfl (.tmp 188) (.tmp 192) rfl wv.heap.size _ X [y] rfl HO.out _ _ rfl rfl rfl (by omega) hbq ?_; intro v2 w2 hown2 hb2))
                                  go_roundg (lN - (q + 1))
                                  case measure => omega
                                  case rel => exact ⟨q + 1, by go_num, by omega, rfl, by rw [HN.out]; exact hown2, HBq.out.trans hb2⟩
                                · obtain rfl : q = lN := by omega
                                  have f0 : decide ((q : Int) < (q : Int)) = false := by simp
                                  clear hlt hg hlw
                                  obtain ⟨wy, hwy⟩ : ∃ wy, wy = wr := ⟨_, rfl⟩
                                  subst hwy
                                  go_wp2_with fail
                                  clear f0
                                  go_loopg [16, 18] M (fun g v16 v18 wx => ∃ i : Nat, v18 = .int .i64 i ∧ i ≤ M ∧ g = M - i ∧ Hid (Own wx wv.heap.size v16 ([91] ++ wsl 2 q ++ jn 0 (es.take i))) ∧ Hid (Below wv.heap.size wv wx))
                                  case atStart => exact ⟨0, rfl, Nat.zero_le _, rfl, by show Own _ _ _ _; simpa [jn] using HO.out, HBq.out⟩
                                  case round =>
                                    clear HO HBq hbq
                                    obtain ⟨i, rfl, hiM, hg, HO, HBq⟩ := hrel
                                    have hbq := HBq.out.size
                                    have hlX : ([91] ++ wsl 2 q ++ jn 0 (es.take i)).length ≤ 4000000 := by
                                      have h1 := jn_len_take es i
                                      have h2 := HFL.out
                                      rw [HM.out] at h1
                                      rw [List.length_append, List.length_append, wsl_len]
                                      simp only [List.length_cons, List.length_nil]
                                      omega
                                    by_cases hlt : i < M
                                    · obtain ⟨x, hx1, hx2⟩ := HE.out.elt i (by rw [HM.out]; exact hlt)
                                      have hxk : IsElem (es.getD i []) := HE.out.ok _ (by rw [List.getD_eq_getElem?_getD, List.getElem?_eq_getElem (by rw [HM.out]; exact hlt)]; exact List.getElem_mem _)
                                      have hlen := elem_len es i (by rw [HM.out]; exact hlt)
                                      have hfl := HFL.out
                                      have HN0 := jn_take es i (by rw [HM.out]; exact hlt)
                                      obtain ⟨le, hle⟩ : ∃ le, (es.getD i []).length = le := ⟨_, rfl⟩
                                      have hle0 : 0 < le := by rw [← hle]; exact hxk.pos
                                      have hle1 : le ≤ 2621440 := by omega
                                      obtain ⟨gx, cx, rfl, hcx, hgx1, hgx2⟩ := hx2.shape le hle hle0
                                      have HLX : Hid (Line wv gx (some ⟨gx, 0, none⟩) le (es.getD i [])) := hx2.toLine hxk.rng hle
                                      have hge := (HAE.out (by omega)).2
                                      obtain rfl := (HAE.out (by omega)).1
                                      have HCX : Hid (wv.cell? ⟨ge, i, none⟩ = some (.slice (some ⟨gx, 0, none⟩) le cx)) := (HCL.out i hlt).trans hx1
                                      have hc : wr.cell? ⟨ge, i, none⟩ = some (.slice (some ⟨gx, 0, none⟩) le cx) := (HBq.out.cell (p := ⟨ge, i, none⟩) hge).trans HCX.out
                                      clear hx1 hx2 hxk hlen hfl hle
                                      generalize es.getD i [] = e at HN0 HLX
                                      by_cases hi0 : 0 < i
                                      · have HN : Hid ([91] ++ wsl 2 q ++ jn 0 (es.take (i + 1)) = [91] ++ wsl 2 q ++ jn 0 (es.take i) ++ [wsb i, 44, wsb (i + 1)] ++ e) := by show _ = _; rw [HN0, if_pos hi0]; simp
                                        have c1 : decide ((0 : Int) < (i : Int)) = true := by simp; omega
                                        have HWS := ws_any (i + 1) wr (by omega)
                                        rw [show ((i + 1 : Nat) : Int) = (i : Int) + 1 by omega] at HWS
                                        clear HN0
                                        go_wp2_with fail
                                        refine (ws_any i wr (by omega)).mono ?_
                                        rintro e3 w3 ⟨rfl, rfl⟩
                                        go_wp2_with fail
                                        refine HWS.mono ?_
                                        rintro e3 w3 ⟨rfl, rfl⟩
                                        clear HWS
                                        generalize wsb i = y1 at HN
                                        generalize wsb (i + 1) = y2 at HN
                                        generalize [91] ++ wsl 2 q ++ jn 0 (es.take i) = X at HN HO hlX
                                        go_wp2_with (first
                                          | (at_builtin; refine app_lits _ _ rfl (.tmp 202) (.tmp 208) rfl wv.heap.size _ X [y1, 44, y2] rfl HO.out _ _ rfl rfl rfl (by omega) hbq ?_; intro v2 w2 hown2 hb2; have hc2 := ((HBq.out.trans hb2).cell (p := ⟨ge, i, none⟩) hge).trans HCX.out)
                                          | (at_builtin; refine app_src _ rfl (.tmp 210) (.tmp 214) rfl wv.heap.size _ (X ++ [y1, 44, y2]) e rfl hown2 gx le cx rfl (HLX.out.below (HBq.out.trans hb2) (fun _ => hgx2)) (by simp only [List.length_append, List.length_cons, List.length_nil]; omega) (Nat.le_trans hbq hb2.size) ?_; intro v3 w3 hown3 hb3))
                                        go_roundg (M - (i + 1))
                                        case measure => omega
                                        case rel => exact ⟨i + 1, by go_num, by omega, rfl, by rw [HN.out]; exact hown3, HBq.out.trans (hb2.trans hb3)⟩
                                      · have HN : Hid ([91] ++ wsl 2 q ++ jn 0 (es.take (i + 1)) = [91] ++ wsl 2 q ++ jn 0 (es.take i) ++ e) := by show _ = _; rw [HN0, if_neg hi0]; simp
                                        have c1 : decide ((0 : Int) < (i : Int)) = false := by simp; omega
                                        clear HN0
                                        generalize [91] ++ wsl 2 q ++ jn 0 (es.take i) = X at HN HO hlX
                                        go_wp2_with (first
                                          | (at_builtin; refine app_src _ rfl (.tmp 210) (.tmp 214) rfl wv.heap.size _ X e rfl HO.out gx le cx rfl (HLX.out.below HBq.out (fun _ => hgx2)) (by omega) hbq ?_; intro v3 w3 hown3 hb3))
                                        go_roundg (M - (i + 1))
                                        case measure => omega
                                        case rel => exact ⟨i + 1, by go_num, by omega, rfl, by rw [HN.out]; exact hown3, HBq.out.trans hb3⟩
                                    · obtain rfl : i = M := by omega
                                      clear hlt hg
                                      obtain ⟨Z, hZ⟩ : ∃ Z, Z = [91] ++ wsl 2 q ++ jn 0 es ++ [wsb 0, 93] := ⟨_, rfl⟩
                                      have HZ : Hid (Z = [91] ++ wsl 2 q ++ jn 0 es ++ [wsb 0, 93]) := hZ
                                      rw [show es.take i = es from by rw [← HM.out]; exact List.take_length] at HO hlX
                                      obtain ⟨N, hN⟩ : ∃ N, Z.length = N := ⟨_, rfl⟩
                                      have HN : Hid (Z.length = N) := hN
                                      have hN2 : N ≤ 4000002 := by rw [← hN, hZ, List.length_append]; simp only [List.length_cons, List.length_nil]; omega
                                      have hN1 : 2 ≤ N := by rw [← hN, hZ, List.length_append]; simp only [List.length_cons, List.length_nil]; omega
                                      have HZR : Hid (∀ z ∈ Z, 0 ≤ z ∧ z < 256) := by
                                        intro z hz
                                        rw [hZ] at hz
                                        simp only [List.mem_append, List.mem_cons, List.not_mem_nil, or_false] at hz
                                        rcases hz with ((rfl | hz) | hz) | (rfl | rfl)
                                        · omega
                                        · exact wsl_rng _ _ z hz
                                        · exact jn_rng es 0 (fun e he => (HE.out.ok e he).rng) z hz
                                        · exact wsb_rng 0
                                        · omega
                                      have HX : Hid ([91] ++ wsl 2 q ++ jn 0 es ++ [wsb 0, 93] = Z) := hZ.symm
                                      clear hZ hN
                                      generalize [91] ++ wsl 2 q ++ jn 0 es = X at HO hlX HX
                                      have HWZ := ws_any 0 wr (by omega)
                                      go_wp2_with fail
                                      refine HWZ.mono ?_
                                      rintro e3 w3 ⟨rfl, rfl⟩
                                      clear HWZ
                                      generalize wsb 0 = y0 at HX
                                      by_cases hM0 : 0 < i
                                      · have c0 : ((i : Int) == 0) = false := by simp; omega
                                        go_wp2_with (first
                                          | (at_builtin; refine app_lits _ _ rfl (.tmp 216) (.tmp 218) rfl wv.heap.size _ X [y0, 93] rfl HO.out _ _ rfl rfl rfl (by omega) hbq ?_; intro v2 w2 hown2 hb2; rw [HX.out] at hown2; obtain ⟨gd, cd, rfl, hcd, hgd1, hgd2⟩ := hown2.shape N HN.out (by omega)))
                                        have HLZ : Hid (Line w2 gd (some ⟨gd, 0, none⟩) N Z) := hown2.toLine HZR.out HN.out
                                        have HBZ : Hid (Below wv.heap.size wv w2) := HBq.out.trans hb2
                                        have hszv : wv.heap.size ≤ w2.heap.size := HBZ.out.size
                                        have HEZ : Hid (∀ j, j < i → ∃ gx cx, w2.cell? ⟨ge, j, none⟩ = some (.slice (some ⟨gx, 0, none⟩) (es.getD j []).length cx) ∧ gx < w2.heap.size ∧ Line w2 gx (some ⟨gx, 0, none⟩) (es.getD j []).length (es.getD j [])) := fun j hj => by
                                          obtain ⟨x, hx1, hx2⟩ := HE.out.elt j (by rw [HM.out]; exact hj)
                                          have hxk : IsElem (es.getD j []) := HE.out.ok _ (by rw [List.getD_eq_getElem?_getD, List.getElem?_eq_getElem (by rw [HM.out]; exact hj)]; exact List.getElem_mem _)
                                          obtain ⟨gx, cx, rfl, hcx, hgx1, hgx2⟩ := hx2.shape _ rfl hxk.pos
                                          exact ⟨gx, cx, (HBZ.out.cell (p := ⟨ge, j, none⟩) (HAE.out (by omega)).2).trans ((HCL.out j hj).trans hx1), by omega, (hx2.toLine hxk.rng rfl).below HBZ.out (fun _ => hgx2)⟩
                                        have HOK : Hid (∀ e ∈ es, IsElem e) := HE.out.ok
                                        have hge := Nat.lt_of_lt_of_le (HAE.out (by omega)).2 hszv
                                        obtain rfl := (HAE.out (by omega)).1
                                        have HBW : Hid (Below w1.heap.size w1 w2) := HB.out.trans (HBZ.out.mono HB.out.size)
                                        clear hown2 hb2 HO HBq hbq hlX
                                        go_loopg [21, 22] i (fun g v21 v22 wx => ∃ j p : Nat, v21 = .int .i64 p ∧ v22 = .int .i64 j ∧ j ≤ i ∧ g = i - j ∧ p ≤ N ∧ Hid (j < i → At Z es j p) ∧ Hid (j = i → p = N) ∧ Hid (Below w2.heap.size w2 wx))
                                        case atStart => exact ⟨0, 1, rfl, rfl, Nat.zero_le _, rfl, by omega, (fun _ => at_start Z es q HZ.out (by rw [HM.out]; exact hM0)), (fun h => absurd h (by omega)), Below.refl _ _⟩
                                        case round =>
                                          obtain ⟨j, p, rfl, rfl, hji, hg, hpN, HAT, HEN, HBx⟩ := hrel
                                          have hbx := HBx.out.size
                                          by_cases hlt : j < i
                                          · obtain ⟨p', k1, k2, k3, k4, k5, k6, k7, k8, k9, k10, k11, k12⟩ := at_step Z es j p (by rw [HM.out]; exact hlt) HOK.out (HAT.out hlt)
                                            rw [HN.out] at k2 k10 k12
                                            rw [HM.out] at k9 k11 k12
                                            obtain ⟨gx, cx, hcx0, hgx, hlx⟩ := HEZ.out j hlt
                                            have hpos : 0 < (es.getD j []).length := (HOK.out _ (by rw [List.getD_eq_getElem?_getD, List.getElem?_eq_getElem (by rw [HM.out]; exact hlt)]; exact List.getElem_mem _) : IsElem (es.getD j [])).pos
                                            obtain ⟨e, he⟩ : ∃ e, e = es.getD j [] := ⟨_, rfl⟩
                                            rw [← he] at k2 k3 k6 k7 k8 k9 k10 k11 k12 hcx0 hlx hpos
                                            obtain ⟨le, hle⟩ : ∃ le, e.length = le := ⟨_, rfl⟩
                                            rw [hle] at k2 k3 k6 k7 k8 k9 k10 k11 k12 hcx0 hlx hpos
                                            have K1 : Hid (Skip Z p p') := k1
                                            have K3 : Hid (Z.getD p' 0 = 34 → p' + 1 + send (Z.drop (p' + 1)) false = p' + le) := k3
                                            have K4 : Hid (Z.getD p' 0 ≠ 123) := k4
                                            have K5 : Hid (Z.getD p' 0 ≠ 91) := k5
                                            have K6 : Hid (Z.getD p' 0 ≠ 34 → ∀ q, Lit Z p' q → q = p' + le) := k6
                                            have K7 : Hid (∀ t, t < le → Z.getD (p' + t) 0 = e.getD t 0) := k7
                                            have K8 : Hid (Skip Z (p' + le) (p' + le + 1)) := k8
                                            have K9 : Hid (Z.getD (p' + le + 1) 0 = if j + 1 = i then 93 else 44) := k9
                                            have K11 : Hid (j + 1 < i → At Z es (j + 1) (p' + le + 2)) := k11
                                            have K12 : Hid (j + 1 = i → p' + le + 2 = N) := k12
                                            have HLX : Hid (Line w2 gx (some ⟨gx, 0, none⟩) le e) := hlx
                                            have HCX0 : Hid (w2.cell? ⟨ge, j, none⟩ = some (.slice (some ⟨gx, 0, none⟩) le cx)) := hcx0
                                            clear k1 k3 k4 k5 k6 k7 k8 k9 k11 k12 hlx hcx0 he hle
                                            go_wp2_with fail
                                            refine (newWalker_any (some ⟨gd, 0, none⟩) N cd p wr).mono ?_
                                            rintro e4 w4 ⟨rfl, hd4, hb4⟩
                                            have HD4 : Hid (Dec w4 wr.heap.size (some ⟨gd, 0, none⟩) N cd p) := hd4
                                            have HB4 : Hid (Below wr.heap.size wr w4) := hb4
                                            have HL4 : Hid (Line w4 gd (some ⟨gd, 0, none⟩) N Z) := HLZ.out.below (HBx.out.trans (hb4.mono hbx)) (fun _ => hgd2)
                                            clear hd4 hb4
                                            go_wp2_with fail
                                            refine (value_elem wr.heap.size gd _ N cd p p' le Z w4 HL4.out HD4.out (fun _ => Nat.lt_of_lt_of_le hgd2 hbx) (by omega) hpN hcd K1.out K3.out K4.out K5.out K6.out k2).mono ?_
                                            rintro e5 w5 ⟨qe, av, l, cv, hpq, hqn, hF, rfl, hlq, hlc, hav, hd5, hb5⟩
                                            subst hF
                                            obtain rfl : l = le := by omega
                                            obtain rfl := hav (by omega)
                                            have HD5 : Hid (Dec w5 wr.heap.size (some ⟨gd, 0, none⟩) N cd (p' + l)) := hd5
                                            have HB5 : Hid (Below w2.heap.size w2 w5) := HBx.out.trans ((HB4.out.trans hb5).mono hbx)
                                            have HL5 : Hid (Line w5 gd (some ⟨gd, 0, none⟩) N Z) := HLZ.out.below HB5.out (fun _ => hgd2)
                                            have HLX5 : Hid (Line w5 gx (some ⟨gx, 0, none⟩) l e) := HLX.out.below HB5.out (fun _ => hgx)
                                            have hc5 : w5.cell? ⟨ge, j, none⟩ = some (.slice (some ⟨gx, 0, none⟩) l cx) := (HB5.out.cell (p := ⟨ge, j, none⟩) hge).trans HCX0.out
                                            have HEQ := equal_any gd p' gx 0 l cv cx _ _ (fun t => e.getD t 0) w5 (fun _ => rfl) (fun _ => rfl) (by omega) (fun t ht => by rw [← K7.out t ht]; exact HL5.out.cell (p' + t) (by omega)) (fun t ht => by rw [Nat.zero_add]; exact HLX5.out.cell t ht)
                                            clear hd5 hb5 hav hlq HD4 HB4 HL4
                                            obtain ⟨qq, hqq⟩ : ∃ qq, p' + l = qq := ⟨_, rfl⟩
                                            rw [hqq] at HD5 K8 K9 K11 K12 k10 k2
                                            clear hqq hqn hpq K1 K3 K4 K5 K6 K7 HL5 HLX5
                                            go_wp2_with fail
                                            refine HEQ.mono ?_
                                            rintro e6 w6 ⟨rfl, m, rfl⟩
                                            clear HEQ
                                            obtain ⟨w7, hw7⟩ : ∃ w7, w7 = w5.drewN m := ⟨_, rfl⟩
                                            have HD7 : Hid (Dec w7 wr.heap.size (some ⟨gd, 0, none⟩) N cd qq) := by rw [hw7]; exact HD5.out.drewN m
                                            have HB7 : Hid (Below w2.heap.size w2 w7) := by rw [hw7]; exact below_drewN HB5.out m
                                            rw [← hw7]
                                            clear hw7 HD5 HB5 hc5
                                            have hb7s := HB7.out.size
                                            have HL7 : Hid (Line w7 gd (some ⟨gd, 0, none⟩) N Z) := HLZ.out.below HB7.out (fun _ => hgd2)
                                            go_wp2_with fail
                                            refine (pos_any _ _ _ _ _ w7 HD7.out).mono ?_
                                            rintro e8 w8 ⟨rfl, rfl⟩
                                            go_wp2_with fail
                                            refine (newWalker_any (some ⟨gd, 0, none⟩) N cd qq w8).mono ?_
                                            rintro e9 w9 ⟨rfl, hd9, hb9⟩
                                            have HD9 : Hid (Dec w9 w8.heap.size (some ⟨gd, 0, none⟩) N cd qq) := hd9
                                            have HB9 : Hid (Below w8.heap.size w8 w9) := hb9
                                            have HL9 : Hid (Line w9 gd (some ⟨gd, 0, none⟩) N Z) := HL7.out.below hb9 (fun _ => Nat.lt_of_lt_of_le hgd2 hb7s)
                                            clear hd9 hb9
                                            go_wp2_with fail
                                            refine (next_any w8.heap.size gd _ N cd qq Z w9 HL9.out HD9.out (fun _ => Nat.lt_of_lt_of_le hgd2 hb7s) (by omega) (by omega)).mono ?_
                                            rintro e10 w10 ⟨p2, hsk2, rfl, hd10, hb10⟩
                                            have hp2 := K8.out.uniq hsk2
                                            subst hp2
                                            have HD10 : Hid (Dec w10 w8.heap.size (some ⟨gd, 0, none⟩) N cd (qq + 1)) := hd10
                                            have HB10 : Hid (Below w2.heap.size w2 w10) := HB7.out.trans ((HB9.out.trans hb10).mono hb7s)
                                            clear hsk2 hd10 hb10 HD9 HB9 HL9
                                            by_cases hlast : j + 1 = i
                                            · rw [K9.out, if_pos hlast]
                                              have hpN2 : qq + 2 = N := K12.out hlast
                                              have d1 : ((j : Int) == (i : Int) - 1) = true := by simp; omega
                                              have HP2 : Hid (qq + 2 = N) := hpN2
                                              clear hpN2
                                              go_wp2_with (first | (go_at_call 14; refine (pos_any _ _ _ _ _ w10 HD10.out).mono ?_; rintro e11 w11 ⟨rfl, rfl⟩))
                                              go_roundg (i - (j + 1))
                                              case measure => omega
                                              case rel => exact ⟨j + 1, qq + 2, by go_num, by go_num, by omega, rfl, k10, (fun h => absurd h (by omega)), (fun _ => HP2.out), HB10.out⟩
                                            · rw [K9.out, if_neg hlast]
                                              have d1 : ((j : Int) == (i : Int) - 1) = false := by simp; omega
                                              go_wp2_with (first | (go_at_call 14; refine (pos_any _ _ _ _ _ w10 HD10.out).mono ?_; rintro e11 w11 ⟨rfl, rfl⟩))
                                              go_roundg (i - (j + 1))
                                              case measure => omega
                                              case rel => exact ⟨j + 1, qq + 2, by go_num, by go_num, by omega, rfl, k10, (fun h => K11.out h), (fun h => absurd h hlast), HB10.out⟩
                                          · obtain rfl : j = i := by omega
                                            have hpe := HEN.out rfl
                                            subst hpe
                                            go_wp2_with fail
                                            go_ret
                                            exact ⟨rfl, HBW.out.trans (HBx.out.mono HBW.out.size)⟩
                                      · obtain rfl : i = 0 := by omega
                                        have hes : es = [] := List.length_eq_zero_iff.1 HM.out
                                        rw [hes] at HZ
                                        have HEM := at_empty Z q HZ.out
                                        rw [HN.out] at HEM
                                        have HSK : Hid (Skip Z 1 (q + 2)) := HEM.1
                                        have H93 : Hid (Z.getD (q + 2) 0 = 93) := HEM.2.1
                                        have hNq : N ≤ q + 3 := by omega
                                        have hNq2 : q + 3 ≤ N := by omega
                                        clear HEM
                                        go_wp2_with (first
                                          | (at_builtin; refine app_lits _ _ rfl (.tmp 216) (.tmp 218) rfl wv.heap.size _ X [y0, 93] rfl HO.out _ _ rfl rfl rfl (by omega) hbq ?_; intro v2 w2 hown2 hb2; rw [HX.out] at hown2; obtain ⟨gd, cd, rfl, hcd, hgd1, hgd2⟩ := hown2.shape N HN.out (by omega)))
                                        have HLZ : Hid (Line w2 gd (some ⟨gd, 0, none⟩) N Z) := hown2.toLine HZR.out HN.out
                                        have HBZ : Hid (Below wv.heap.size wv w2) := HBq.out.trans hb2
                                        have HBW : Hid (Below w1.heap.size w1 w2) := HB.out.trans (HBZ.out.mono HB.out.size)
                                        clear hown2 hb2 HO HBq hbq hlX
                                        refine (newWalker_any (some ⟨gd, 0, none⟩) N cd 1 w2).mono ?_
                                        rintro e9 w9 ⟨rfl, hd9, hb9⟩
                                        have HD9 : Hid (Dec w9 w2.heap.size (some ⟨gd, 0, none⟩) N cd 1) := hd9
                                        have HB9 : Hid (Below w2.heap.size w2 w9) := hb9
                                        have HL9 : Hid (Line w9 gd (some ⟨gd, 0, none⟩) N Z) := HLZ.out.below hb9 (fun _ => hgd2)
                                        clear hd9 hb9
                                        go_wp2_with fail
                                        refine (next_any w2.heap.size gd _ N cd 1 Z w9 HL9.out HD9.out (fun _ => hgd2) (by omega) (by omega)).mono ?_
                                        rintro e10 w10 ⟨p2, hsk2, rfl, hd10, hb10⟩
                                        have hp2 := HSK.out.uniq hsk2
                                        subst hp2
                                        have HD10 : Hid (Dec w10 w2.heap.size (some ⟨gd, 0, none⟩) N cd (q + 2)) := hd10
                                        have HB10 : Hid (Below w1.heap.size w1 w10) := HBW.out.trans ((HB9.out.trans hb10).mono HBW.out.size)
                                        clear hsk2 hd10 hb10
                                        have d2 : ((q : Int) + 2 == (N : Int) - 1) = true := by simp; omega
                                        rw [H93.out]
                                        go_wp2_with (first | (go_at_call 14; refine (pos_any _ _ _ _ _ w10 HD10.out).mono ?_; rintro e11 w11 ⟨rfl, rfl⟩))
                                        go_ret
                                        exact ⟨rfl, HB10.out⟩
            · have q0 : decide ((65536 : Int) < (n : Int)) = false := by simp; omega
              have q1 : decide ((65536 : Int) < (n1 : Int)) = false := by simp; omega
              have q2 : decide ((65536 : Int) < (n2 : Int)) = false := by simp; omega
              have q3 : decide (lead < 0) = false := by simp; omega
              have q4 : decide ((4096 : Int) < lead) = false := by simp; omega
              have q5 : decide ((131072 : Int) < 8 * (n : Int) + 24 * (n1 : Int) + (n2 : Int)) = true := by simp; omega
              go_wp2_with fail
              go_ret
              exact ⟨rfl, Below.refl _ _⟩
          · have q0 : decide ((65536 : Int) < (n : Int)) = false := by simp; omega
            have q1 : decide ((65536 : Int) < (n1 : Int)) = false := by simp; omega
            have q2 : decide ((65536 : Int) < (n2 : Int)) = false := by simp; omega
            by_cases hl0 : lead < 0
            · have q3 : decide (lead < 0) = true := by simpa using hl0
              go_wp2_with fail
              go_ret
              exact ⟨rfl, Below.refl _ _⟩
            · have q3 : decide (lead < 0) = false := by simpa using hl0
              have q4 : decide ((4096 : Int) < lead) = true := by simp; omega
              go_wp2_with fail
              go_ret
              exact ⟨rfl, Below.refl _ _⟩
        · have q0 : decide ((65536 : Int) < (n : Int)) = false := by simp; omega
          have q1 : decide ((65536 : Int) < (n1 : Int)) = false := by simp; omega
          have q2 : decide ((65536 : Int) < (n2 : Int)) = true := by simp; omega
          go_wp2_with fail
          go_ret
          exact ⟨rfl, Below.refl _ _⟩
      · have q0 : decide ((65536 : Int) < (n : Int)) = false := by simp; omega
        have q1 : decide ((65536 : Int) < (n1 : Int)) = true := by simp; omega
        go_wp2_with fail
        go_ret
        exact ⟨rfl, Below.refl _ _⟩
    · have q0 : decide ((65536 : Int) < (n : Int)) = true := by simp; omega
      go_wp2_with fail
      go_ret
      exact ⟨rfl, Below.refl _ _⟩
end Go.Proofs.Qxb6000575a
