import Derived.Test.Qxb6000575aJ
import Derived.Test.Qxb6000575aD
set_option linter.unusedVariables false
namespace Go.Proofs.Qxb6000575a
open Go.RowKit

/-- The plain law: past the blanks stands a bracket; the walk through the brackets ends behind the value. -/
theorem nest_law (f : Nat → ByteArray) (m depth r : Nat) (Z V W : List Int) (hV : V = nest (fun t => sb (f t)) m depth) (hW : wsl 0 r = W) (hZ : Z = W ++ V ++ [44] ++ wsl 1 r ++ [48]) :
    Skip Z 0 r ∧ Z.getD r 0 = 91 ∧ Left Z ([44] ++ wsl 1 r ++ [48]) r 0 ∧ (∀ t, t < V.length → Z.getD (r + t) 0 = V.getD t 0) ∧ ∀ q, q ≤ Z.length → Z.drop q = [44] ++ wsl 1 r ++ [48] → q = r + V.length := by
  have hWl : W.length = r := by rw [← hW, wsl_len]
  have hZ' : Z = W ++ V ++ ([44] ++ wsl 1 r ++ [48]) := by rw [hZ]; simp
  have hg : ∀ t, t < V.length → Z.getD (r + t) 0 = V.getD t 0 := fun t ht => by
    rw [hZ', List.append_assoc, List.getD_eq_getElem?_getD, List.getElem?_append_right (by omega), hWl, show r + t - r = t by omega, List.getElem?_append_left ht, List.getD_eq_getElem?_getD]
  obtain ⟨rest, hh⟩ := nest_head (fun t => sb (f t)) m depth
  have h91 : Z.getD r 0 = 91 := by
    have := hg 0 (by rw [hV, hh]; simp)
    rw [Nat.add_zero] at this
    rw [this, hV, hh]; rfl
  have hlen : Z.length = r + V.length + ([44] ++ wsl 1 r ++ [48]).length := by rw [hZ', List.length_append, List.length_append, hWl]
  refine ⟨⟨Nat.zero_le _, by omega, fun t _ ht => ?_, fun _ => by rw [h91]; rfl⟩, h91, ?_, hg, fun q hq hd => ?_⟩
  · rw [hZ', List.append_assoc, List.getD_eq_getElem?_getD, List.getElem?_append_left (by omega), ← hW]
    simp only [wsl, List.getElem?_map, List.getElem?_range ht, Option.map_some, Option.getD_some]
    exact sp_of (wsb_is _)
  · have := left_nest (fun t => sb (f t)) m depth (fun i _ c hc => (sb_rng _ c hc).1) W ([44] ++ wsl 1 r ++ [48])
    rw [← hV, hWl, ← hZ'] at this
    exact this
  · have := congrArg List.length hd
    rw [List.length_drop] at this
    omega

set_option maxRecDepth 100000 in
set_option maxHeartbeats 8000000 in
theorem nested_any (b off : Nat) (a : Option Addr) (n c : Nat) (f : Nat → ByteArray) (depth pad : Int) (w : World) (hs : Strs w b off a n f) (hnm : n ≤ maxLen) :
    Calls Try.prog 7 #[.slice a n c, .int .i64 depth, .int .i64 pad] w fun e w' => e = .returned (.bool true) ∧ Below w.heap.size w w' := by
  have HS : Hid (Strs w b off a n f) := hs
  have hnm2 : n ≤ 9223372036854775807 := hnm
  have HZZ := zzNest_any b off a n c f depth pad w hs hnm
  clear hs hnm
  go_enter Try.func7, Try.ntmps7
  go_wp2_with fail
  refine HZZ.mono ?_
  rintro e w1 ⟨rfl, r, rfl, hr⟩
  cases r with
  | false =>
    as_aux_lemma =>
      go_wp2_with fail
      go_ret
      exact ⟨rfl, Below.refl _ _⟩
  | true =>
    obtain ⟨hn1, hsz⟩ := hr rfl
    have HSZ : Hid (∀ t, t < n → (f t).size ≤ 1048576) := hsz
    clear hr hsz HZZ hnm2
    by_cases hn : n ≤ 65536
    · by_cases hdp : 0 ≤ depth ∧ depth ≤ 4096
      · by_cases hpp : 0 ≤ pad ∧ pad ≤ 4096
        · by_cases h8 : n ≤ 16384
          · obtain ⟨dN, rfl⟩ := Int.eq_ofNat_of_zero_le hdp.1
            obtain ⟨pN, rfl⟩ := Int.eq_ofNat_of_zero_le hpp.1
            have hdN : dN ≤ 4096 := by omega
            have hpN : pN ≤ 4096 := by omega
            clear hdp hpp hn hn1
            have b0 : decide ((65536 : Int) < (n : Int)) = false := by simp; omega
            have b1 : decide ((dN : Int) < 0) = false := by simp
            have b2 : decide ((4096 : Int) < (dN : Int)) = false := by simp; omega
            have b3 : decide ((pN : Int) < 0) = false := by simp
            have b4 : decide ((4096 : Int) < (pN : Int)) = false := by simp; omega
            have b5 : decide ((131072 : Int) < 8 * (n : Int)) = false := by simp; omega
            go_wp2_with fail
            clear b0 b1 b2 b3 b4 b5
            go_loopg [7, 8] n (fun g v7 v8 wr => ∃ k T : Nat, v7 = .int .i64 ((8 * n + T : Nat) : Int) ∧ v8 = .int .i64 k ∧ k ≤ n ∧ 8 * n + T ≤ 131072 ∧ g = n - k ∧ w1 = wr ∧ Hid (T = sumS f k))
            case atStart => exact ⟨0, 0, by go_num, rfl, Nat.zero_le _, by omega, rfl, rfl, rfl⟩
            case round =>
              obtain ⟨k, T, rfl, rfl, hk, hT, hg, rfl, HT⟩ := hrel
              by_cases hlt : k < n
              · obtain rfl := HS.out.at_ (by omega)
                have hc := HS.out.cell k hlt
                have hm := HSZ.out k hlt
                obtain ⟨s, hs⟩ : ∃ s, s = f k := ⟨_, rfl⟩
                have HF : Hid (s = f k) := hs
                rw [← hs] at hc hm
                clear hs
                by_cases h2 : 8 * n + T + s.size ≤ 131072
                · have c2 : decide ((131072 : Int) < ((8 * n + T : Nat) : Int) + (s.size : Int)) = false := by simp; omega
                  as_aux_lemma =>
                    go_wp2_with fail
                    go_roundg (n - (k + 1))
                    case measure => omega
                    case rel => exact ⟨k + 1, T + s.size, by go_num, by go_num, by omega, by omega, rfl, rfl, by show _ = _; rw [HT.out, HF.out]; rfl⟩
                · have c2 : decide ((131072 : Int) < ((8 * n + T : Nat) : Int) + (s.size : Int)) = true := by simp; omega
                  as_aux_lemma =>
                    go_wp2_with fail
                    go_ret
                    exact ⟨rfl, Below.refl _ _⟩
              · obtain rfl : k = n := by omega
                go_wp2_with fail
                clear hg hlt
                go_loopg [9, 10] dN (fun g v9 v10 wx => ∃ j : Nat, v10 = .int .i64 j ∧ j ≤ dN ∧ g = dN - j ∧ Hid (Own wx w1.heap.size v9 (opens j)) ∧ Hid (Below w1.heap.size w1 wx))
                case atStart => exact ⟨0, rfl, Nat.zero_le _, rfl, World.ownsRow_nil _ _ _ _, Below.refl _ _⟩
                case round =>
                  obtain ⟨j, rfl, hj, hg, HO, HB⟩ := hrel
                  have hbr := HB.out.size
                  have hlo := opens_len j
                  by_cases hlt : j < dN
                  · rcases Nat.mod_two_eq_zero_or_one j with hp | hp
                    · have hm := tmod2 j 0 hp
                      have HN : Hid (opens (j + 1) = opens j ++ [91]) := by show _ = _; rw [opens_succ]; simp [openB, hp]
                      clear hp
                      go_wp2_with (first | (at_builtin; refine app_lits _ _ rfl (.tmp 69) (.tmp 70) rfl w1.heap.size _ (opens j) [91] rfl HO.out _ _ rfl rfl rfl (by omega) hbr ?_; intro v2 w2 hown2 hb2))
                      go_roundg (dN - (j + 1))
                      case measure => omega
                      case rel => exact ⟨j + 1, by go_num, by omega, rfl, by rw [HN.out]; exact hown2, HB.out.trans hb2⟩
                    · have hm := tmod2 j 1 hp
                      have HN : Hid (opens (j + 1) = opens j ++ [123, 34, 107, 34, 58]) := by show _ = _; rw [opens_succ]; simp [openB, hp]
                      clear hp
                      go_wp2_with (first | (at_builtin; refine app_lits _ _ rfl (.tmp 72) (.tmp 73) rfl w1.heap.size _ (opens j) [123, 34, 107, 34, 58] rfl HO.out _ _ rfl rfl rfl (by omega) hbr ?_; intro v2 w2 hown2 hb2))
                      go_roundg (dN - (j + 1))
                      case measure => omega
                      case rel => exact ⟨j + 1, by go_num, by omega, rfl, by rw [HN.out]; exact hown2, HB.out.trans hb2⟩
                  · obtain rfl : j = dN := by omega
                    clear hlt hg
                    go_wp2_with (first | (at_builtin; refine app_lits _ _ rfl (.tmp 75) (.tmp 76) rfl w1.heap.size _ (opens j) [91] rfl HO.out _ _ rfl rfl rfl (by omega) hbr ?_; intro v2 w2 hown2 hb2))
                    have HO2 : Hid (Own w2 w1.heap.size v2 (opens j ++ [91])) := hown2
                    have HB2 : Hid (Below w1.heap.size w1 w2) := HB.out.trans hb2
                    clear hown2 hb2 HO HB hbr
                    go_loopg [9, 11] k (fun g v9 v11 wx => ∃ i : Nat, v11 = .int .i64 i ∧ i ≤ k ∧ g = k - i ∧ Hid (Own wx w1.heap.size v9 (opens j ++ [91] ++ itemsB (fun t => sb (f t)) i)) ∧ Hid (Below w1.heap.size w1 wx))
                    case atStart => exact ⟨0, rfl, Nat.zero_le _, rfl, by show Own _ _ _ _; simpa [itemsB] using HO2.out, HB2.out⟩
                    case round =>
                      obtain ⟨i, rfl, hi, hg, HO, HB⟩ := hrel
                      clear HO2 HB2
                      have hbr := HB.out.size
                      have HLI : Hid ((opens j ++ [91] ++ itemsB (fun t => sb (f t)) i).length ≤ 1000000) := by
                        show _ ≤ _
                        have h1 := itemsB_len f i
                        have h2 := sumS_mono f hi
                        have h3 := HT.out
                        simp only [List.length_append, List.length_cons, List.length_nil]
                        omega
                      by_cases hlt : i < k
                      · have HSr : Hid (Strs wr b off a k f) := HS.out.below (Nat.le_refl _) HB.out
                        obtain rfl := HS.out.at_ (by omega)
                        have hc := HSr.out.cell i hlt
                        have hm := HSZ.out i hlt
                        obtain ⟨s, hs⟩ : ∃ s, s = f i := ⟨_, rfl⟩
                        have HF : Hid (s = f i) := hs
                        rw [← hs] at hc hm
                        clear hs
                        have HLS := HLI.out
                        generalize hL : opens j ++ [91] ++ itemsB (fun t => sb (f t)) i = L at HO HLI HLS
                        have HL : Hid (opens j ++ [91] ++ itemsB (fun t => sb (f t)) i = L) := hL
                        clear hL
                        by_cases hi0 : 0 < i
                        · have HN : Hid (opens j ++ [91] ++ itemsB (fun t => sb (f t)) (i + 1) = L ++ [44, wsb i] ++ enc (sb s)) := by
                            show _ = _
                            rw [itemsB_succ, ← List.append_assoc, HL.out, itemB, if_pos hi0, HF.out, List.append_assoc]
                          clear HL
                          have c1 : decide ((0 : Int) < (i : Int)) = true := by simp; omega
                          go_wp2_with fail
                          refine (ws_any i wr (by omega)).mono ?_
                          rintro e w3 ⟨rfl, rfl⟩
                          generalize wsb i = y at HN
                          go_wp2_with (first | (at_builtin; refine app_lits _ _ rfl (.tmp 86) (.tmp 89) rfl w1.heap.size _ L [44, y] rfl HO.out _ _ rfl rfl rfl (by omega) hbr ?_; intro v2 w2 hown2 hb2; have hc2 := (HS.out.below (Nat.le_refl _) (HB.out.trans hb2)).cell i hlt; rw [← HF.out] at hc2))
                          refine (enc_any w1.heap.size v2 (L ++ [44, y]) s w2 hown2 (Nat.le_trans hbr hb2.size) (by simp only [List.length_append, List.length_cons, List.length_nil]; omega)).mono ?_
                          rintro e w4 ⟨v4, rfl, hown4, hb4⟩
                          have HB4 : Hid (Below w1.heap.size w1 w4) := HB.out.trans (hb2.trans hb4)
                          have HO4 : Hid (Own w4 w1.heap.size v4 (L ++ [44, y] ++ enc (sb s))) := hown4
                          clear hown2 hb2 hc2 hown4 hb4 hc
                          go_wp2_with fail
                          go_roundg (k - (i + 1))
                          case measure => omega
                          case rel => exact ⟨i + 1, by go_num, by omega, rfl, by rw [HN.out]; exact HO4.out, HB4.out⟩
                        · have c1 : decide ((0 : Int) < (i : Int)) = false := by simp; omega
                          have HN : Hid (opens j ++ [91] ++ itemsB (fun t => sb (f t)) (i + 1) = L ++ enc (sb s)) := by
                            show _ = _
                            rw [itemsB_succ, ← List.append_assoc, HL.out, itemB, if_neg hi0, HF.out, List.nil_append]
                          clear HL
                          go_wp2_with fail
                          refine (enc_any w1.heap.size _ L s wr HO.out hbr (by omega)).mono ?_
                          rintro e w4 ⟨v4, rfl, hown4, hb4⟩
                          have HB4 : Hid (Below w1.heap.size w1 w4) := HB.out.trans hb4
                          have HO4 : Hid (Own w4 w1.heap.size v4 (L ++ enc (sb s))) := hown4
                          clear hown4 hb4 hc
                          go_wp2_with fail
                          go_roundg (k - (i + 1))
                          case measure => omega
                          case rel => exact ⟨i + 1, by go_num, by omega, rfl, by rw [HN.out]; exact HO4.out, HB4.out⟩
                      · obtain rfl : i = k := by omega
                        clear hlt hg
                        have HLS := HLI.out
                        generalize hL : opens j ++ [91] ++ itemsB (fun t => sb (f t)) i = L at HO HLI HLS
                        have HL : Hid (opens j ++ [91] ++ itemsB (fun t => sb (f t)) i = L) := hL
                        clear hL
                        go_wp2_with (first | (at_builtin; refine app_lits _ _ rfl (.tmp 97) (.tmp 98) rfl w1.heap.size _ L [93] rfl HO.out _ _ rfl rfl rfl (by omega) hbr ?_; intro v2 w2 hown2 hb2))
                        have HO2 : Hid (Own w2 w1.heap.size v2 (L ++ [93])) := hown2
                        have HB2 : Hid (Below w1.heap.size w1 w2) := HB.out.trans hb2
                        clear hown2 hb2 HO HB hbr
                        go_loopg [9, 12] j (fun g v9 v12 wx => ∃ q : Nat, v12 = .int .i64 ((j : Int) - 1 - q) ∧ q ≤ j ∧ g = j - q ∧ Hid (Own wx w1.heap.size v9 (L ++ [93] ++ closes j q)) ∧ Hid (Below w1.heap.size w1 wx))
                        case atStart => exact ⟨0, by go_num, Nat.zero_le _, rfl, by show Own _ _ _ _; simpa [closes] using HO2.out, HB2.out⟩
                        case round =>
                          obtain ⟨q, rfl, hq, hg, HO, HB⟩ := hrel
                          clear HO2 HB2
                          have hbr := HB.out.size
                          have hlc : (L ++ [93] ++ closes j q).length ≤ 1004097 := by
                            simp only [List.length_append, List.length_cons, List.length_nil, closes_len]; omega
                          by_cases hlt : q < j
                          · obtain ⟨d, hd⟩ : ∃ d : Nat, d + 1 + q = j := ⟨j - 1 - q, by omega⟩
                            have hdq : (j : Int) - 1 - (q : Int) = (d : Int) := by omega
                            rw [hdq]
                            have HN0 := closes_succ j q
                            rw [show j - 1 - q = d by omega] at HN0
                            rcases Nat.mod_two_eq_zero_or_one d with hp | hp
                            · have hm := tmod2 d 0 hp
                              have HN : Hid (L ++ [93] ++ closes j (q + 1) = L ++ [93] ++ closes j q ++ [93]) := by show _ = _; rw [HN0, closeB, if_pos hp]; simp
                              clear hp HN0 hdq
                              generalize L ++ [93] ++ closes j q = M at HN HO hlc
                              have hd1 : d + 1 + q ≤ j := by omega
                              have hd2 : j ≤ d + 1 + q := by omega
                              clear hd
                              go_wp2_with (first | (at_builtin; refine app_lits _ _ rfl (.tmp 109) (.tmp 110) rfl w1.heap.size _ M [93] rfl HO.out _ _ rfl rfl rfl (by omega) hbr ?_; intro v2 w2 hown2 hb2))
                              go_roundg (j - (q + 1))
                              case measure => omega
                              case rel => exact ⟨q + 1, by go_num, by omega, rfl, by rw [HN.out]; exact hown2, HB.out.trans hb2⟩
                            · have hm := tmod2 d 1 hp
                              have HN : Hid (L ++ [93] ++ closes j (q + 1) = L ++ [93] ++ closes j q ++ [125]) := by show _ = _; rw [HN0, closeB, if_neg (by omega)]; simp
                              clear hp HN0 hdq
                              generalize L ++ [93] ++ closes j q = M at HN HO hlc
                              have hd1 : d + 1 + q ≤ j := by omega
                              have hd2 : j ≤ d + 1 + q := by omega
                              clear hd
                              go_wp2_with (first | (at_builtin; refine app_lits _ _ rfl (.tmp 112) (.tmp 113) rfl w1.heap.size _ M [125] rfl HO.out _ _ rfl rfl rfl (by omega) hbr ?_; intro v2 w2 hown2 hb2))
                              go_roundg (j - (q + 1))
                              case measure => omega
                              case rel => exact ⟨q + 1, by go_num, by omega, rfl, by rw [HN.out]; exact hown2, HB.out.trans hb2⟩
                          · obtain rfl : q = j := by omega
                            have HVN : Hid (L ++ [93] ++ closes q q = nest (fun t => sb (f t)) i q) := by show _ = _; rw [← HL.out]; rfl
                            have hc0 : decide ((0 : Int) ≤ (q : Int) - 1 - (q : Int)) = false := by simp; omega
                            rw [HVN.out] at HO hlc
                            clear HVN HL HLI HLS hlt hg
                            obtain ⟨V, hV⟩ : ∃ V, V = nest (fun t => sb (f t)) i q := ⟨_, rfl⟩
                            have HV : Hid (V = nest (fun t => sb (f t)) i q) := hV
                            rw [← hV] at HO hlc
                            obtain ⟨M, hM⟩ : ∃ M, V.length = M := ⟨_, rfl⟩
                            have HM : Hid (V.length = M) := hM
                            have hM0 : 0 < M := by
                              obtain ⟨rest, hh⟩ := nest_head (fun t => sb (f t)) i q
                              rw [← hM, hV, hh]; simp
                            have hMb : M ≤ 1004097 := by rw [← hM]; exact hlc
                            have HVR : Hid (∀ z ∈ V, 0 ≤ z ∧ z < 256) := by rw [hV]; exact nest_rng f i q
                            clear hV hM hlc
                            obtain ⟨g1, cap1, rfl, hcap1, hg1a, hg1b⟩ := HO.out.shape M HM.out hM0
                            obtain ⟨wv, hwv⟩ : ∃ wv, wv = wr := ⟨_, rfl⟩
                            subst hwv
                            have HLV : Hid (Line wv g1 (some ⟨g1, 0, none⟩) M V) := HO.out.toLine HVR.out HM.out
                            have HBV : Hid (Below w1.heap.size w1 wv) := HB.out
                            clear HO HB
                            go_wp2_with fail
                            clear hc0
                            go_loopg [13, 14] pN (fun g v13 v14 wx => ∃ t : Nat, v14 = .int .i64 t ∧ t ≤ pN ∧ g = pN - t ∧ Hid (Own wx wv.heap.size v13 (wsl 0 t)) ∧ Hid (Below wv.heap.size wv wx))
                            case atStart => exact ⟨0, rfl, Nat.zero_le _, rfl, World.ownsRow_nil _ _ _ _, Below.refl _ _⟩
                            case round =>
                              obtain ⟨t, rfl, ht, hg, HO, HB⟩ := hrel
                              have hbr2 := HB.out.size
                              have hlw := wsl_len 0 t
                              by_cases hlt : t < pN
                              · have HN : Hid (wsl 0 (t + 1) = wsl 0 t ++ [wsb t]) := wsl_succ 0 t
                                have hlw1 : (wsl 0 t).length + 1 ≤ 1073741824 := by omega
                                clear hlw
                                go_wp2_with fail
                                refine (ws_any t wr (by omega)).mono ?_
                                rintro e w3 ⟨rfl, rfl⟩
                                generalize wsb t = y at HN
                                generalize wsl 0 t = W at HN HO hlw1
                                go_wp2_with (first | (at_builtin; refine app_lits _ _ rfl (.tmp 120) (.tmp 123) rfl wv.heap.size _ W [y] rfl HO.out _ _ rfl rfl rfl (by omega) hbr2 ?_; intro v2 w2 hown2 hb2))
                                go_roundg (pN - (t + 1))
                                case measure => omega
                                case rel => exact ⟨t + 1, by go_num, by omega, rfl, by rw [HN.out]; exact hown2, HB.out.trans hb2⟩
                              · obtain rfl : t = pN := by omega
                                clear hlt hg
                                have HLV2 : Hid (Line wr g1 (some ⟨g1, 0, none⟩) M V) := HLV.out.below HB.out (fun _ => hg1b)
                                have HWL : Hid ((wsl 0 t ++ V).length = t + M) := by show _ = _; rw [List.length_append, HM.out, hlw]
                                have hlw1 : (wsl 0 t).length + M ≤ 1073741824 := by omega
                                clear hlw
                                generalize hW : wsl 0 t = W at HO HWL hlw1
                                have HW : Hid (wsl 0 t = W) := hW
                                clear hW
                                have hl2 : (W ++ V).length + 1 ≤ 1073741824 := by rw [HWL.out]; omega
                                go_wp2_with (first
                                  | (at_builtin; refine app_src _ rfl (.tmp 125) (.tmp 126) rfl wv.heap.size _ W V rfl HO.out g1 M cap1 rfl HLV2.out (by omega) hbr2 ?_; intro v2 w2 hown2 hb2; obtain ⟨g2, cap2, rfl, hcap2, hg2a, hg2b⟩ := hown2.shape (t + M) HWL.out (by omega))
                                  | (at_builtin; refine app_lits _ _ rfl (.tmp 130) (.tmp 131) rfl wv.heap.size _ (W ++ V) [44] rfl hown2 _ _ rfl rfl rfl (by omega) (Nat.le_trans hbr2 hb2.size) ?_; intro v3 w3 hown3 hb3))
                                have HB3 : Hid (Below wv.heap.size wv w3) := HB.out.trans (hb2.trans hb3)
                                have HO3 : Hid (Own w3 wv.heap.size v3 (W ++ V ++ [44])) := hown3
                                clear hown2 hb2 hown3 hb3 HO HB hbr2 HLV2
                                go_loopg [13, 16] t (fun g v13 v16 wx => ∃ r : Nat, v16 = .int .i64 r ∧ r ≤ t ∧ g = t - r ∧ Hid (Own wx wv.heap.size v13 (W ++ V ++ [44] ++ wsl 1 r)) ∧ Hid (Below wv.heap.size wv wx))
                                case atStart => exact ⟨0, rfl, Nat.zero_le _, rfl, by show Own _ _ _ _; simpa [wsl] using HO3.out, HB3.out⟩
                                case round =>
                                  obtain ⟨r, rfl, hr, hg, HO, HB⟩ := hrel
                                  clear HO3 HB3
                                  have hbr2 := HB.out.size
                                  have hl4 : (W ++ V ++ [44] ++ wsl 1 r).length = t + M + 1 + r := by rw [List.length_append, List.length_append, HWL.out, wsl_len]; rfl
                                  by_cases hlt : r < t
                                  · have HN : Hid (W ++ V ++ [44] ++ wsl 1 (r + 1) = W ++ V ++ [44] ++ wsl 1 r ++ [wsb (r + 1)]) := by show _ = _; rw [wsl_succ]; simp
                                    have hl5 : (W ++ V ++ [44] ++ wsl 1 r).length + 1 ≤ 1073741824 := by rw [hl4]; omega
                                    clear hl4
                                    have HWS := ws_any (r + 1) wr (by omega)
                                    rw [show ((r + 1 : Nat) : Int) = (r : Int) + 1 by omega] at HWS
                                    go_wp2_with fail
                                    refine HWS.mono ?_
                                    rintro e w3 ⟨rfl, rfl⟩
                                    clear HWS
                                    generalize wsb (r + 1) = y at HN
                                    generalize W ++ V ++ [44] ++ wsl 1 r = X at HN HO hl5
                                    go_wp2_with (first | (at_builtin; refine app_lits _ _ rfl (.tmp 138) (.tmp 142) rfl wv.heap.size _ X [y] rfl HO.out _ _ rfl rfl rfl (by omega) hbr2 ?_; intro v2 w2 hown2 hb2))
                                    go_roundg (t - (r + 1))
                                    case measure => omega
                                    case rel => exact ⟨r + 1, by go_num, by omega, rfl, by rw [HN.out]; exact hown2, HB.out.trans hb2⟩
                                  · obtain rfl : r = t := by omega
                                    clear hlt hg
                                    have hl5 : (W ++ V ++ [44] ++ wsl 1 r).length + 1 ≤ 1073741824 := by rw [hl4]; omega
                                    have HL4 : Hid ((W ++ V ++ [44] ++ wsl 1 r ++ [48]).length = r + M + 1 + r + 1) := by show _ = _; rw [List.length_append, hl4]; rfl
                                    clear hl4
                                    obtain ⟨Z, hZ⟩ : ∃ Z, Z = W ++ V ++ [44] ++ wsl 1 r ++ [48] := ⟨_, rfl⟩
                                    have HZ : Hid (Z = W ++ V ++ [44] ++ wsl 1 r ++ [48]) := hZ
                                    clear hZ
                                    go_wp2_with (first
                                      | (at_builtin; refine app_lits _ _ rfl (.tmp 144) (.tmp 145) rfl wv.heap.size _ (W ++ V ++ [44] ++ wsl 1 r) [48] rfl HO.out _ _ rfl rfl rfl (by omega) hbr2 ?_; intro v2 w2 hown2 hb2; obtain ⟨g3, cap3, rfl, hcap3, hg3a, hg3b⟩ := hown2.shape (r + M + 1 + r + 1) HL4.out (by omega)))
                                    rw [← HZ.out] at hown2 HL4
                                    have HZR : Hid (∀ z ∈ Z, 0 ≤ z ∧ z < 256) := by
                                      intro z hz
                                      rw [HZ.out, ← HW.out] at hz
                                      simp only [List.mem_append, List.mem_cons, List.not_mem_nil, or_false] at hz
                                      rcases hz with (((hz | hz) | rfl) | hz) | rfl
                                      · exact wsl_rng _ _ z hz
                                      · exact HVR.out z hz
                                      · omega
                                      · exact wsl_rng _ _ z hz
                                      · omega
                                    have HLZ : Hid (Line w2 g3 (some ⟨g3, 0, none⟩) (r + M + 1 + r + 1) Z) := hown2.toLine HZR.out HL4.out
                                    have HB6 : Hid (Below wv.heap.size wv w2) := HB.out.trans hb2
                                    clear hown2 hb2 HO HB hl5 hl2 hlw1
                                    refine (newWalker_any (some ⟨g3, 0, none⟩) (r + M + 1 + r + 1) cap3 0 w2).mono ?_
                                    rintro e w7 ⟨rfl, hd7, hb7⟩
                                    have HD7 : Hid (Dec w7 w2.heap.size (some ⟨g3, 0, none⟩) (r + M + 1 + r + 1) cap3 0) := hd7
                                    have HB7 : Hid (Below w2.heap.size w2 w7) := hb7
                                    have HL7 : Hid (Line w7 g3 (some ⟨g3, 0, none⟩) (r + M + 1 + r + 1) Z) := HLZ.out.below hb7 (fun _ => hg3b)
                                    clear hd7 hb7
                                    have HT1 := nest_law f i q r Z V W HV.out HW.out HZ.out
                                    have HSK : Hid (Skip Z 0 r) := HT1.1
                                    have H91 : Hid (Z.getD r 0 = 91) := HT1.2.1
                                    have HLF : Hid (Left Z ([44] ++ wsl 1 r ++ [48]) r 0) := HT1.2.2.1
                                    have HVZ : Hid (∀ t, t < V.length → Z.getD (r + t) 0 = V.getD t 0) := HT1.2.2.2.1
                                    have HFIN : Hid (∀ q, q ≤ Z.length → Z.drop q = [44] ++ wsl 1 r ++ [48] → q = r + V.length) := HT1.2.2.2.2
                                    clear HT1
                                    go_wp2_with fail
                                    refine (value_any w2.heap.size g3 _ _ cap3 0 r Z w7 HL7.out HD7.out (fun _ => hg3b) (by omega) (by omega) hcap3 HSK.out
                                      (fun x => Z.drop x = [44] ++ wsl 1 r ++ [48]) (Left Z ([44] ++ wsl 1 r ++ [48]))
                                      (fun _ h => by rw [H91.out] at h; omega) (fun _ _ => HLF.out) (fun _ _ _ _ h => left_step h)
                                      (fun d h => absurd (left_some h) (by rw [HL4.out]; omega))
                                      (fun h _ _ => absurd H91.out (h (by omega)).2.2)).mono ?_
                                    rintro e w8 ⟨qe, av, l, cv, hpq, hqn, hF, rfl, hlq, hlc, hav, hd8, hb8⟩
                                    have hqe : qe = r + M := by rw [← HM.out]; exact HFIN.out qe (by rw [HL4.out]; exact hqn) hF
                                    subst hqe
                                    obtain rfl : l = M := by omega
                                    obtain rfl := hav (by omega)
                                    clear hF hav hlq
                                    have HD8 : Hid (Dec w8 w2.heap.size (some ⟨g3, 0, none⟩) (r + l + 1 + r + 1) cap3 (r + l)) := hd8
                                    have HL8 : Hid (Line w8 g3 (some ⟨g3, 0, none⟩) (r + l + 1 + r + 1) Z) := HL7.out.below hb8 (fun _ => hg3b)
                                    have HB8 : Hid (Below wv.heap.size wv w8) := HB6.out.trans ((HB7.out.trans hb8).mono HB6.out.size)
                                    have HLV8 : Hid (Line w8 g1 (some ⟨g1, 0, none⟩) l V) := HLV.out.below HB8.out (fun _ => hg1b)
                                    clear hd8 hb8
                                    have HEQ : ∃ m, Calls Try.prog 25 #[.slice (some ⟨g3, r, none⟩) l cv, .slice (some ⟨g1, 0, none⟩) l cap1] w8 fun e w' => e = .returned (.bool true) ∧ ∃ m, w' = w8.drewN m := ⟨0, equal_any g3 r g1 0 l cv cap1 _ _ (fun x => V.getD x 0) w8 (fun _ => rfl) (fun _ => rfl) (by omega) (fun x hx => by rw [← HVZ.out x (by rw [HM.out]; exact hx)]; exact HL8.out.cell (r + x) (by omega)) (fun x hx => by rw [Nat.zero_add]; exact HLV8.out.cell x hx)⟩
                                    obtain ⟨_, HEQ⟩ := HEQ
                                    have HEND : Hid (Below w1.heap.size w1 w8) := HBV.out.trans (HB8.out.mono HBV.out.size)
                                    go_wp2_with fail
                                    refine (pos_any _ _ _ _ _ w8 HD8.out).mono ?_
                                    rintro e w9 ⟨rfl, rfl⟩
                                    go_wp2_with (first | (go_at_call 25; refine HEQ.mono ?_; rintro e w10 ⟨rfl, m, rfl⟩))
                                    go_ret
                                    exact ⟨rfl, below_drewN HEND.out _⟩
          · have b0 : decide ((65536 : Int) < (n : Int)) = false := by simp; omega
            have b1 : decide (depth < 0) = false := by simp; omega
            have b2 : decide ((4096 : Int) < depth) = false := by simp; omega
            have b3 : decide (pad < 0) = false := by simp; omega
            have b4 : decide ((4096 : Int) < pad) = false := by simp; omega
            have b5 : decide ((131072 : Int) < 8 * (n : Int)) = true := by simp; omega
            go_wp2_with fail
            go_ret
            exact ⟨rfl, Below.refl _ _⟩
        · have b0 : decide ((65536 : Int) < (n : Int)) = false := by simp; omega
          have b1 : decide (depth < 0) = false := by simp; omega
          have b2 : decide ((4096 : Int) < depth) = false := by simp; omega
          by_cases hp0 : pad < 0
          · have b3 : decide (pad < 0) = true := by simpa using hp0
            go_wp2_with fail
            go_ret
            exact ⟨rfl, Below.refl _ _⟩
          · have b3 : decide (pad < 0) = false := by simpa using hp0
            have b4 : decide ((4096 : Int) < pad) = true := by simp; omega
            go_wp2_with fail
            go_ret
            exact ⟨rfl, Below.refl _ _⟩
      · have b0 : decide ((65536 : Int) < (n : Int)) = false := by simp; omega
        by_cases hd0 : depth < 0
        · have b1 : decide (depth < 0) = true := by simpa using hd0
          go_wp2_with fail
          go_ret
          exact ⟨rfl, Below.refl _ _⟩
        · have b1 : decide (depth < 0) = false := by simpa using hd0
          have b2 : decide ((4096 : Int) < depth) = true := by simp; omega
          go_wp2_with fail
          go_ret
          exact ⟨rfl, Below.refl _ _⟩
    · have b0 : decide ((65536 : Int) < (n : Int)) = true := by simp; omega
      go_wp2_with fail
      go_ret
      exact ⟨rfl, Below.refl _ _⟩
end Go.Proofs.Qxb6000575a
