import Derived.Test.Qxb6614531aFmtEq
import Derived.Deep.DeepCutAuto
import Derived.Deep.CutBlock
import Derived.Laws.CopyOwn
set_option linter.unusedVariables false
namespace Go.Proofs.Qxb6614531aFmt
open Go.RowKit Go.Extern.Stop Go.Stop Go.Extern

theorem jsonSpace_any (c : Int) (w : World) : Calls Tryf.prog 6 #[.int .u8 c] w fun e w' => e = .returned (.bool (sp c)) ∧ w' = w := by
  by_cases h1 : c = 32
  · subst h1
    go_enter Tryf.func6, Tryf.ntmps6
    go_wp2
    go_ret
    exact ⟨rfl, rfl⟩
  · have b1 : (c == 32) = false := by simpa using h1
    by_cases h2 : c = 9
    · subst h2
      go_enter Tryf.func6, Tryf.ntmps6
      go_wp2
      go_ret
      exact ⟨rfl, rfl⟩
    · have b2 : (c == 9) = false := by simpa using h2
      by_cases h3 : c = 10
      · subst h3
        go_enter Tryf.func6, Tryf.ntmps6
        go_wp2
        go_ret
        exact ⟨rfl, rfl⟩
      · have b3 : (c == 10) = false := by simpa using h3
        have HS : Hid (sp c = (c == 13)) := by show _ = _; simp [sp, b1, b2, b3]
        go_enter Tryf.func6, Tryf.ntmps6
        go_wp2
        go_ret
        exact ⟨by rw [HS.out]; rfl, rfl⟩

set_option maxHeartbeats 1000000 in
theorem zzBytes_any (a : Option Addr) (n c : Nat) (i : Int) (C : Array Value) (w : World) (hn : n ≤ 9223372036854775807) :
    Calls Tryf.prog 5 #[.slice a n c, .int .i64 i, .agg C] w fun e w' => e = .returned (.bool (decide (n ≤ 1048576))) ∧ Below w.heap.size w w' := by
  by_cases h : n ≤ 1048576
  · have h1 : (n : Int) ≤ 1048576 := by omega
    have HD : Hid (decide (n ≤ 1048576) = true) := decide_eq_true h
    clear h
    go_enter Tryf.func5, Tryf.ntmps5
    go_wp2
    go_ret
    exact ⟨by rw [HD.out]; rfl, (Below.refl _ _).alloc (Nat.le_refl _) _⟩
  · have h1 : (1048576 : Int) < n := by omega
    have HD : Hid (decide (n ≤ 1048576) = false) := decide_eq_false h
    clear h
    go_enter Tryf.func5, Tryf.ntmps5
    go_wp2
    go_ret
    exact ⟨by rw [HD.out]; rfl, (Below.refl _ _).alloc (Nat.le_refl _) _⟩

theorem info5 : (Tryf.prog.info? 5).map (fun i => (i.zero, i.size, i.bytes)) = some (some (.int .u8 0), 1, 1) := by kernel_rfl

/-- The slice that came in. -/
def IsRow (w : World) (a : Option Addr) (len cap : Nat) (zs : List Int) : Prop :=
  (a = none ∧ len = 0 ∧ cap = 0 ∧ zs = []) ∨
  ∃ x, a = some x ∧ len ≤ cap ∧ cap ≤ maxLen ∧ zs.length = cap ∧ (∀ i, i < zs.length → w.cell? (x.add i) = some (.int .u8 (zs.getD i 0))) ∧ ∀ n ∈ zs, (Lit.int .u8 n).wf = true

theorem made {w' : World} {base g n : Nat} {xs : List Value} (h : w'.ownsRow base 5 1 (.slice (some ⟨g, 0, none⟩) n n) n xs) : ∃ cur : Array Value, cur.size = n ∧ w'.heap[g]? = some (.cells cur 5 (0, 0)) := by
  obtain ⟨_, h | ⟨g', cap, cur, hv, _, hh, _, _, hsz, _⟩⟩ := h
  · cases h.1
  · cases hv
    exact ⟨cur, by omega, hh⟩

theorem row_src {w w2 : World} {x : Addr} {zs0 : List Int} {c : Nat} (n : Nat) (h3 : zs0.length = c) (h4 : ∀ i, i < zs0.length → w.cell? (x.add i) = some (.int .u8 (zs0.getD i 0))) (h1 : n ≤ c) (hb : Below w.heap.size w w2) :
    ∀ j v, ((zs0.take n).map (Value.int .u8))[j]? = some v → w2.cell? (x.add j) = some v := by
  intro j v hj
  have hjn : j < n ∧ j < zs0.length := by
    rcases Nat.lt_or_ge j ((zs0.take n).map (Value.int .u8)).length with h | h
    · rw [List.length_map, List.length_take] at h; omega
    · rw [List.getElem?_eq_none h] at hj; cases hj
  have e := h4 j hjn.2
  rw [hb.cell (World.block_lt_of_cell? _ _ e), e]
  simp [hjn.1, List.getElem?_eq_getElem hjn.2] at hj
  rw [← hj]
  simp [List.getElem?_eq_getElem hjn.2]

theorem out_len {zs : List Int} {i : Nat} {ok : Bool} {pos : Nat} {upd : Option (List Int)} {lo : List Int} (h : Out zs i ok pos upd) (hlo : lo.length = 32) : (upd.getD lo).length = 32 := by
  obtain ⟨j, _, h⟩ := h
  rcases h with ⟨_, _, _, rfl⟩ | ⟨_, _, _, _, rfl⟩ | ⟨_, _, _, ⟨k, _, _, _, _, _, _, rfl⟩ | ⟨k, _, _, _, _, _, ⟨_, _, l, rfl, hl, _⟩ | ⟨_, _, rfl⟩⟩ | ⟨_, _, _, rfl⟩⟩
  · exact hlo
  · exact hlo
  · exact hlo
  · exact hl
  · exact hlo
  · exact hlo

theorem null_parts {zs : List Int} {n j : Nat} (hl : zs.length = n) (h : j + 4 ≤ n) : isNull zs j = (zs.getD j 0 == 110 && zs.getD (j + 1) 0 == 117 && zs.getD (j + 2) 0 == 108 && zs.getD (j + 3) 0 == 108) := by
  have hd : decide (j + 4 ≤ zs.length) = true := decide_eq_true (by omega)
  rw [isNull, hd]; rfl
theorem null_short {zs : List Int} {n j : Nat} (hl : zs.length = n) (h : ¬ j + 4 ≤ n) : isNull zs j = false := by
  have hd : decide (j + 4 ≤ zs.length) = false := decide_eq_false (by omega)
  rw [isNull, hd]; rfl

theorem wpList_wanted {ops : Array Oper} {rest : List Oper} {o : Oper} {a : Act} {w : World} {Q : Exit → Act → World → Prop} (hw : Region.wanted o (yielded ops a.tmps) = true)
    (h : ∀ K : Act → World → Prop, (∀ a w, wpList Tryf.prog ops Q rest a w → K a w) → o.wp Tryf.prog a w K Q) : wpList Tryf.prog ops Q (o :: rest) a w :=
  wpList_step fun K hK => by rw [if_pos hw]; exact h K hK

theorem esc_step {zs : List Int} {s k r : Nat} (h : esc zs s k = decide (r % 2 = 1)) (hc : zs.getD (s + k) 0 = 92) : esc zs s (k + 1) = decide ((r + 1) % 2 = 1) := by
  rw [esc, h, hc]
  by_cases e : r % 2 = 1
  · simp [e]; omega
  · simp [e]; omega

set_option maxRecDepth 100000 in
set_option maxHeartbeats 8000000 in
theorem law_any (F : Interp) (a : Option Addr) (n c : Nat) (zs0 : List Int) (i : Int) (lo : List Int) (a0 : Addr) (s0 : ByteArray) (w : World) (hF : F.answers w.tape) (hrow : IsRow w a n c zs0) (hi0 : -9223372036854775808 ≤ i) (hi1 : i ≤ 9223372036854775807) (hlo : lo.length = 32)
    (hG : Glob w a0) (hs0 : w.cell? a0 = some (.string s0)) :
    Calls Tryf.prog 3 #[.slice a n c, .int .i64 i, .agg (u8s lo)] w fun e w' => e = .returned (.bool true) ∧ Below w.heap.size w w' := by
  have hnc : n ≤ c := by rcases hrow with ⟨_, rfl, rfl, _⟩ | ⟨x, _, h, _⟩ <;> omega
  have hcm : c ≤ maxLen := by rcases hrow with ⟨_, rfl, rfl, _⟩ | ⟨x, _, _, h, _⟩ <;> omega
  have hnm : n ≤ 9223372036854775807 := by have h := hcm; unfold maxLen at h; omega
  have hN := heap_alloc_new w (.cells (u8s lo) 23)
  have hloS : (Tryf.prog.info? 23).map (·.size) = some (u8s lo).size := by rw [u8s_size, hlo]; kernel_rfl
  have hbW : Below w.heap.size w (w.alloc (.cells (u8s lo) 23)) := (Below.refl _ _).alloc (Nat.le_refl _) _
  have HF : Hid (F.answers w.tape) := hF
  have HR : Hid (IsRow w a n c zs0) := hrow
  have HG : Hid (Glob w a0 ∧ w.cell? a0 = some (.string s0)) := ⟨hG, hs0⟩
  clear hF hrow hG hs0
  go_enter Tryf.func3, Tryf.ntmps3
  go_wp2_with (first | ((with_reducible change wpList _ _ _ _ _ _); refine wpList_load_row rfl 23 (.tmp 5) rfl w.heap.size rfl 23 (u8s lo) (0, 0) _ hN Tryf.underlying23 rfl hloS ?_) | fail)
  refine (zzBytes_any a n c i (u8s lo) _ hnm).mono ?_
  rintro e w1 ⟨rfl, hb1⟩
  have hN1 : w1.heap[w.heap.size]? = some (.cells (u8s lo) 23 (0, 0)) := (hb1.block _ (by simp)).trans hN
  have hbel := hbW.trans (hb1.mono (by simp))
  clear hN hbW hb1
  by_cases hn : n ≤ 1048576
  · have hn' : decide (n ≤ 1048576) = true := decide_eq_true hn
    have hn2 : (n : Int) ≤ 1048576 := by omega
    rw [hn']
    clear hn'
    by_cases hir : 0 ≤ i ∧ i ≤ n
    · obtain ⟨hi2, hi3⟩ := hir
      have b1 : decide (i < 0) = false := by simp; omega
      have b2 : decide ((n : Int) < i) = false := by simp; omega
      go_upto_if 36 with (fail)
      go_cut [0] (fun v wc => ∃ (a' : Option Addr) (c' lb : Nat) (zs : List Int), v = .slice a' n c' ∧ Hid (Line wc lb a' n zs ∧ n ≤ c' ∧ c' ≤ maxLen ∧ lb < wc.heap.size ∧ Below w.heap.size w wc ∧ wc.heap[w.heap.size]? = some (.cells (u8s lo) 23 (0, 0))))
      case first =>
        rcases HR.out with ⟨rfl, rfl, rfl, rfl⟩ | ⟨x, rfl, h1, h2, h3, h4, h5⟩
        · as_aux_lemma =>
            go_wp2
            go_meet
            case rel => exact ⟨none, 0, w.heap.size, [], rfl, ⟨rfl, fun h => absurd h (by omega), fun i h => absurd h (by omega), fun z hz => by cases hz⟩, Nat.le_refl _, hcm, lt_of_block hN1, hbel, hN1⟩
        · obtain ⟨i0, hi5, hz0, hz1, hz2⟩ := info_parts info5
          have hcs : (zs0.take n).length = n := by rw [List.length_take]; omega
          as_aux_lemma =>
            go_wp2_with (first
              | (at_make; go_must (refine wpList_make_full w1 rfl _ _ 22 rfl w1.heap.size 5 i0 (.int .u8 0) 1 Tryf.underlying22 hi5 hz0 hz1 .i64 .i64 _ _ n rfl rfl rfl rfl (by rw [hz2]; omega) (by unfold maxLen; omega) (Nat.le_refl _) ?_); intro w2 hown hgr; obtain ⟨cur, hcur, hblk2⟩ := made hown; have hbel2 : Below w.heap.size w w2 := hbel.grown hgr (Nat.le_of_lt (lt_of_block hN1)) (fun k hk => by cases hk); have hN2 : w2.heap[w.heap.size]? = some (.cells (u8s lo) 23 (0, 0)) := (hgr.block _ (lt_of_block hN1) (fun e => by cases e)).trans hN1; have hsrc := row_src n h3 h4 h1 hbel2; clear hown hgr)
              | ((with_reducible change wpList _ _ _ _ _ _); (refine wpList_copy_own rfl (.tmp 40) (.tmp 41) 22 22 rfl 5 Tryf.underlying22 (by kernel_rfl) w1.heap.size 0 n n x n c rfl rfl cur 5 hblk2 ((zs0.take n).map (Value.int .u8)) (by rw [List.length_map, hcs]; exact (Nat.min_self n).symm) hsrc (by rw [List.length_map, hcs]; omega) (fun v hv => by simp only [List.mem_map] at hv; obtain ⟨z, _, rfl⟩ := hv; rfl) ?_)))
            go_meet
            case rel =>
              have hrow : (List.take n (List.map (Value.int .u8) zs0) ++ List.drop n cur.toList).toArray = u8s (zs0.take n) := by
                rw [List.drop_of_length_le (by simp; omega)]; simp [u8s]
              rw [hrow]
              have hb3 := setRow_block hblk2 (u8s (zs0.take n))
              refine ⟨_, _, w1.heap.size, zs0.take n, rfl, ⟨hcs, fun _ => rfl, fun q hq => (cell_of_block hb3 q).trans (u8s_get _ q (by omega)), fun z hz => ?_⟩, Nat.le_refl _, by unfold maxLen; omega, lt_of_block hb3, hbel2.trans (Proofs.Qxb6614531aFmt.below_setRow (Nat.le_of_lt (lt_of_block hN1)) _), ?_⟩
              · have := h5 z (List.mem_of_mem_take hz)
                simp [Lit.wf, IntKind.min, IntKind.max, IntKind.signed, IntKind.bits] at this
                omega
              · rw [setRow_other _ _ _ _ (by have := lt_of_block hN1; omega)]; exact hN2
      case rest =>
        obtain ⟨a', c', lb, zs, rfl, HH⟩ := hcut
        obtain ⟨W0, rfl⟩ : ∃ W0 : World, W0 = wc := ⟨_, rfl⟩
        obtain ⟨iN, rfl⟩ := Int.eq_ofNat_of_zero_le hi2
        clear hi2 b1 b2 hN1 hbel
        have hzl := HH.out.1.len
        have hiN : iN ≤ n := by omega
        go_upto_block 0 with (fail)
        go_cut [8] (fun v wd => ∃ j : Nat, v = .int .i64 j ∧ W0 = wd ∧ Hid (Skip zs iN j))
        case first =>
          go_wp2_with fail
          go_loop [8] (fun v => ∃ j : Nat, v = .int .i64 j ∧ iN ≤ j ∧ j ≤ n ∧ Hid (∀ t, iN ≤ t → t < j → sp (zs.getD t 0) = true)) (fun v => n - (intOf v).toNat)
          case atStart => exact ⟨iN, rfl, Nat.le_refl _, hiN, fun t h1 h2 => by omega⟩
          case round =>
            obtain ⟨j, rfl, hij, hjn, HS⟩ := hrel
            by_cases hlt : j < n
            · have hc := HH.out.1.cell j hlt
              obtain rfl := HH.out.1.at_ (by omega)
              cases hsp : sp (zs.getD j 0) with
              | true =>
                have HSP : Hid (sp (zs.getD j 0) = true) := hsp
                generalize zs.getD j 0 = z at hc hsp
                as_aux_lemma =>
                  go_wp2_with (first
                    | (go_at_call 6; refine (jsonSpace_any z _).mono ?_; rintro e w3 ⟨rfl, rfl⟩; rw [hsp]))
                  go_round
                  case rel =>
                    refine ⟨j + 1, by go_num, by omega, by omega, fun t h1 h2 => ?_⟩
                    by_cases e : t = j
                    · subst e; exact HSP.out
                    · exact HS.out t h1 (by omega)
                  case measure => simp [intOf]; omega
              | false =>
                have HSP : Hid (sp (zs.getD j 0) = false) := hsp
                generalize zs.getD j 0 = z at hc hsp
                as_aux_lemma =>
                  go_wp2_with (first
                    | (go_at_call 6; refine (jsonSpace_any z _).mono ?_; rintro e w3 ⟨rfl, rfl⟩; rw [hsp]))
                  go_meet
                  case rel => exact ⟨j, rfl, rfl, hij, by omega, HS.out, fun _ => HSP.out⟩
            · have b1 : decide ((j : Int) < (n : Int)) = false := by simp; omega
              as_aux_lemma =>
                go_wp2
                go_meet
                case rel => exact ⟨j, rfl, rfl, hij, by omega, HS.out, fun h => absurd h (by omega)⟩
        case rest =>
          obtain ⟨j, rfl, hwd, HSK⟩ := hcut
          subst hwd
          obtain ⟨hL, hnc', hcm', hlb, hbel, hN⟩ := HH.out
          have hvn := heap_alloc_new W0 (.cells (u8s z32) 26)
          have hs1 : (Tryf.prog.info? 26).map (·.size) = some (u8s lo).size := by rw [u8s_size, hlo]; kernel_rfl
          have hs2 : (u8s z32).size = (u8s lo).size := by rw [u8s_size, u8s_size, hlo]; decide
          have hz := zero26
          have hNlt := lt_of_block hN
          have HC : Hid (Calls Tryf.prog 7 #[.slice a' n c', .int .i64 iN, .pointer (some ⟨W0.heap.size, 0, none⟩)] ((W0.alloc (.cells (u8s z32) 26)).setRow W0.heap.size (u8s lo)) fun e w' => ∃ ok pos upd v, Out zs iN ok pos upd ∧ e = .returned (.tuple #[.int .i64 (pos : Nat), v]) ∧ ErrIs ok v ∧ Below W0.heap.size ((W0.alloc (.cells (u8s z32) 26)).setRow W0.heap.size (u8s lo)) w' ∧ w'.heap[W0.heap.size]? = some (.cells (u8s (upd.getD lo)) 26 (0, 0))) := by
            have hb0 : Below W0.heap.size W0 ((W0.alloc (.cells (u8s z32) 26)).setRow W0.heap.size (u8s lo)) := ((Below.refl _ _).alloc (Nat.le_refl _) _).trans (Proofs.Qxb6614531aFmt.below_setRow (Nat.le_refl _) _)
            have hG0 : Glob W0 a0 := (hbel.cell (p := ⟨0, 0, none⟩) (World.block_lt_of_cell? _ _ HG.out.1)).trans HG.out.1
            have hs0' : W0.cell? a0 = some (.string s0) := (hbel.cell (p := a0) (World.block_lt_of_cell? _ _ HG.out.2)).trans HG.out.2
            exact zz_any F lb W0.heap.size a' n c' iN zs lo a0 s0 _ (by show F.answers W0.tape; rw [hbel.tape]; exact HF.out) (hL.below hb0 hlb) (by simp [World.setRow]; omega) hn hiN hnc' hcm' ((hb0.cell (p := ⟨0, 0, none⟩) (World.block_lt_of_cell? _ _ hG0)).trans hG0) ((hb0.cell (p := a0) (World.block_lt_of_cell? _ _ hs0')).trans hs0') (World.block_lt_of_cell? _ _ hs0') hlo (setRow_block hvn _)
          have hNv : ∀ o : Obj, (W0.alloc o).heap[w.heap.size]? = some (.cells (u8s lo) 23 (0, 0)) := fun o => (Below.heap_alloc _ _ _ hNlt).trans hN
          go_wp2_with (first
            | ((with_reducible change wpList _ _ _ _ _ _); refine wpList_load_row rfl 23 (.tmp 5) rfl w.heap.size rfl 23 (u8s lo) (0, 0) _ hN Tryf.underlying23 rfl hloS ?_)
            | ((with_reducible change wpList _ _ _ _ _ _); refine wpList_store_row rfl 26 (.tmp 9) _ rfl W0.heap.size (u8s lo) rfl rfl 26 (u8s z32) hvn hs1 hs2 (u8s_one lo) ?_))
          refine HC.out.mono ?_
          rintro e w2 ⟨ok, pos, upd, v, hout, rfl, herr, hb2, hblk2⟩
          have hN2 : w2.heap[w.heap.size]? = some (.cells (u8s lo) 23 (0, 0)) := (hb2.block _ hNlt).trans ((setRow_other _ _ _ _ (by omega)).trans (hNv _))
          have hb02 : Below W0.heap.size W0 w2 := (((Below.refl _ _).alloc (Nat.le_refl _) _).trans (Proofs.Qxb6614531aFmt.below_setRow (Nat.le_refl _) _)).trans hb2
          have hlvl := out_len hout hlo
          have HOUT : Hid (Out zs iN ok pos upd) := hout
          have HERR : Hid (ErrIs ok v) := herr
          have HLV : Hid (upd.getD lo = upd.getD lo) := rfl
          have hL2 := hL.below hb02 hlb
          have hbel2 := hbel.trans (hb02.mono (Nat.le_of_lt hNlt))
          have HL : Hid (Line w2 lb a' n zs ∧ Below w.heap.size w w2) := ⟨hL2, hbel2⟩
          have hsz2 : (Tryf.prog.info? 26).map (·.size) = some (u8s (upd.getD lo)).size := by rw [u8s_size, hlvl]; kernel_rfl
          have HU : Hid (upd = none → (upd.getD lo == lo) = true) := fun h => by rw [h]; simp
          have heq1 := fun ww => run_eql_u8s ww 26 32 Tryf.underlying26 (upd.getD lo) lo hlvl hlo
          have heq2 := fun ww => run_equalIn_u8s ww 26 32 Tryf.underlying26 (upd.getD lo) lo hlvl hlo
          have HVB : Hid (w2.heap[W0.heap.size]? = some (.cells (u8s (upd.getD lo)) 26 (0, 0)) ∧ (upd.getD lo).length = 32) := ⟨hblk2, hlvl⟩
          clear hout herr hL hL2 hb2 hb02 hbel hbel2 hvn hz HC hNv hN HH hs2 hs1 hlb hcm'
          go_upto_region 17 with (first
            | ((with_reducible change wpList _ _ _ _ _ _); refine wpList_load_row rfl 26 (.tmp 9) rfl W0.heap.size rfl 26 (u8s (upd.getD lo)) (0, 0) _ hblk2 Tryf.underlying26 rfl hsz2 ?_)
            | ((with_reducible change wpList _ _ _ _ _ _); refine wpList_load_row rfl 23 (.tmp 5) rfl w.heap.size rfl 23 (u8s lo) (0, 0) _ hN2 Tryf.underlying23 rfl hloS ?_))
          clear heq1 heq2 hsz2 hblk2 HLV hlvl hN2 hNlt
          generalize (upd.getD lo == lo) = u at HU ⊢
          go_cut [103] (fun x wd => x = .bool (isNull zs j) ∧ w2 = wd)
          case first =>
            clear HF HR HG HERR HOUT HU HVB hloS hlo hnm hcm
            by_cases h4 : j + 4 ≤ n
            · have c0 := HL.out.1.cell j (by omega)
              have c1 := HL.out.1.cell (j + 1) (by omega)
              have c2 := HL.out.1.cell (j + 2) (by omega)
              have c3 := HL.out.1.cell (j + 3) (by omega)
              obtain rfl := HL.out.1.at_ (by omega)
              have HP : Hid (isNull zs j = (zs.getD j 0 == 110 && zs.getD (j + 1) 0 == 117 && zs.getD (j + 2) 0 == 108 && zs.getD (j + 3) 0 == 108)) := null_parts hzl h4
              generalize zs.getD j 0 = x0 at c0 HP
              generalize zs.getD (j + 1) 0 = x1 at c1 HP
              generalize zs.getD (j + 2) 0 = x2 at c2 HP
              generalize zs.getD (j + 3) 0 = x3 at c3 HP
              have h1 : (4 : Int) ≤ (n : Int) - (j : Int) := by omega
              by_cases e0 : x0 = 110
              · subst e0
                by_cases e1 : x1 = 117
                · subst e1
                  by_cases e2 : x2 = 108
                  · subst e2
                    by_cases e3 : x3 = 108
                    · subst e3
                      as_aux_lemma =>
                        go_wp2
                        go_meet
                        case rel => exact ⟨by rw [HP.out]; rfl, rfl⟩
                    · have f3 : (x3 == 108) = false := by simpa using e3
                      have HQ : Hid (isNull zs j = false) := by show _ = _; rw [HP.out, f3]; rfl
                      as_aux_lemma =>
                        go_wp2
                        go_meet
                        case rel => exact ⟨by rw [HQ.out], rfl⟩
                  · have f2 : (x2 == 108) = false := by simpa using e2
                    have HQ : Hid (isNull zs j = false) := by show _ = _; rw [HP.out, f2]; rfl
                    as_aux_lemma =>
                      go_wp2
                      go_meet
                      case rel => exact ⟨by rw [HQ.out], rfl⟩
                · have f1 : (x1 == 117) = false := by simpa using e1
                  have HQ : Hid (isNull zs j = false) := by show _ = _; rw [HP.out, f1]; rfl
                  as_aux_lemma =>
                    go_wp2
                    go_meet
                    case rel => exact ⟨by rw [HQ.out], rfl⟩
              · have f0 : (x0 == 110) = false := by simpa using e0
                have HQ : Hid (isNull zs j = false) := by show _ = _; rw [HP.out, f0]; rfl
                as_aux_lemma =>
                  go_wp2
                  go_meet
                  case rel => exact ⟨by rw [HQ.out], rfl⟩
            · have b1 : decide ((4 : Int) ≤ (n : Int) - (j : Int)) = false := by simp; omega
              have HP : Hid (isNull zs j = false) := null_short hzl h4
              have hjn : j ≤ n := by have := HSK.out.le; omega
              as_aux_lemma =>
                go_wp2
                go_meet
                case rel => exact ⟨by rw [HP.out], rfl⟩
          case rest =>
            obtain ⟨rfl, rfl⟩ := hcut
            obtain ⟨hL2, hbel2⟩ := HL.out
            have hjn0 : j ≤ n := by have := HSK.out.le; omega
            cases hnull : isNull zs j with
            | true =>
              obtain ⟨e1, e2, e3⟩ := out_null HOUT.out HSK.out hnull
              subst e1 e2 e3
              obtain rfl : u = true := HU.out rfl
              rcases HERR.out with ⟨_, rfl⟩ | ⟨h, _⟩
              · clear hnull
                as_aux_lemma =>
                  go_wp2
                  go_ret
                  exact ⟨by simp, hbel2⟩
              · cases h
            | false =>
              by_cases hq : j < n ∧ zs.getD j 0 = 34
              · obtain ⟨hjl, hq⟩ := hq
                have hc := hL2.cell j hjl
                obtain rfl := hL2.at_ (by omega)
                have HQ : Hid (isNull zs j = false ∧ zs.getD j 0 = 34) := ⟨hnull, hq⟩
                rw [hq] at hc
                clear hq hnull
                go_wp2_with fail
                go_loop [13, 14] (fun x y => ∃ p k r : Nat, x = .int .i64 r ∧ y = .int .i64 p ∧ r ≤ k ∧ j < p ∧ p ≤ n ∧ Hid (p = j + 1 + k) ∧ Hid (esc zs (j + 1) k = decide (r % 2 = 1)) ∧ Hid (∀ q, q < k → halt zs (j + 1) q = false)) (fun _ y => n - (intOf y).toNat)
                case atStart => exact ⟨j + 1, 0, 0, rfl, by go_num, by omega, by omega, by omega, rfl, rfl, fun q h => absurd h (by omega)⟩
                case round =>
                  obtain ⟨p, k, r, rfl, rfl, hrk, hjp, hpn, HPK, HE, HB⟩ := hrel
                  have hkn : k ≤ n := by have := HPK.out; omega
                  by_cases hlt : p < n
                  · have hcp := hL2.cell p hlt
                    have hyr := hL2.byte p
                    obtain ⟨y, hy⟩ : ∃ y, y = zs.getD p 0 := ⟨_, rfl⟩
                    rw [← hy] at hcp hyr
                    have HY : Hid (y = zs.getD p 0) := hy
                    obtain ⟨hy0, hy1⟩ := hyr
                    clear hy
                    by_cases hr : r % 2 = 0
                    · have hr1 : ((r : Int) % 2 == 0) = true := by simp; omega
                      rcases (show y < 32 ∨ (32 ≤ y ∧ y = 34) ∨ (32 ≤ y ∧ y ≠ 34 ∧ y = 92) ∨ (32 ≤ y ∧ y ≠ 34 ∧ y ≠ 92) from by omega) with h | ⟨h, h2⟩ | ⟨h, h2, h3⟩ | ⟨h, h2, h3⟩
                      · have e0 := HPK.out
                        have hy : zs.getD (j + 1 + k) 0 = y := by rw [← e0]; exact HY.out.symm
                        have hh : halt zs (j + 1) k = true := by rw [halt, HE.out, hy]; simp [hr, h]
                        obtain ⟨e1, e2, e3⟩ := out_ctl HOUT.out HSK.out HQ.out.1 (by omega) HQ.out.2 (by omega) HB.out hh (by omega)
                        have e4 : pos = p := by omega
                        subst e1 e3
                        obtain rfl : u = true := HU.out rfl
                        rcases HERR.out with ⟨h9, _⟩ | ⟨_, t9, p9, rfl⟩
                        · cases h9
                        · rw [e4]
                          clear e0 hy hh e2 e4
                          as_aux_lemma =>
                            go_wp2
                            go_ret
                            exact ⟨by simp, hbel2⟩
                      · subst h2
                        have e0 := HPK.out
                        have ek : p - (j + 1) = k := by omega
                        have hy : zs.getD (j + 1 + k) 0 = 34 := by rw [← e0]; exact HY.out.symm
                        have hh : halt zs (j + 1) k = true := by rw [halt, HE.out, hy]; simp [hr]
                        obtain ⟨e2, hcase⟩ := out_close HOUT.out HSK.out HQ.out.1 (by omega) HQ.out.2 (by omega) HB.out hh hy
                        have e4 : pos = p + 1 := by omega
                        have hxl : ((zs.drop (j + 1)).take (p - (j + 1))).length = p - (j + 1) := by rw [List.length_take, List.length_drop]; omega
                        have hconv := fun cp => run_convert_bytes_arg (P := Tryf.prog) w2 22 5 Tryf.underlying22 Tryf.underlying5 lb (j + 1) (p - (j + 1)) cp ((zs.drop (j + 1)).take (p - (j + 1))) hxl (by
                          intro t ht
                          rw [hL2.cell (j + 1 + t) (by omega)]
                          congr 2
                          simp [List.getD, ht]) 9 Tryf.underlying9
                        have hS : strOfNums ((zs.drop (j + 1)).take (p - (j + 1))) = inner zs (j + 1) k := by rw [ek]; rfl
                        have hSs : (strOfNums ((zs.drop (j + 1)).take (p - (j + 1)))).size ≤ 1048576 := by rw [strOfNums_size, hxl]; omega
                        rw [hS] at hSs
                        simp only [hS] at hconv
                        have hG2 : w2.cell? ⟨0, 0, none⟩ = some (.iface 66 (.pointer (some a0))) := (hbel2.cell (p := ⟨0, 0, none⟩) (World.block_lt_of_cell? _ _ HG.out.1)).trans HG.out.1
                        have HPA : Hid (Calls Tryf.prog 8 #[.string (inner zs (j + 1) k)] w2 fun e w' => Below w2.heap.size w2 w' ∧ ((taken (inner zs (j + 1) k) ∧ ∃ l, l.length = 32 ∧ (∀ q, q < 32 → l.getD q 0 = hv (digs (inner zs (j + 1) k)) q) ∧ e = .returned (.tuple #[.agg (u8s l), .nilIface])) ∨ (¬ taken (inner zs (j + 1) k) ∧ ∃ l : List Int, l.length = 32 ∧ e = .returned (.tuple #[.agg (u8s l), .iface 66 (.pointer (some a0))])))) := parse_any _ a0 w2 hSs hG2
                        have HCS : Hid ((taken (inner zs (j + 1) k) ∧ ok = true ∧ ∃ l, upd = some l ∧ l.length = 32 ∧ ∀ q, q < 32 → l.getD q 0 = hv (digs (inner zs (j + 1) k)) q) ∨ (¬ taken (inner zs (j + 1) k) ∧ ok = false ∧ upd = none)) := hcase
                        have hz := zero26
                        have hjp' : (j : Int) + 1 ≤ p := by omega
                        have hpc : p ≤ c' := by omega
                        generalize inner zs (j + 1) k = S at hconv HPA HCS
                        rw [e4]
                        clear e0 ek hy hh e2 hcase e4 hxl hS hSs hG2
                        go_wp2_with fail
                        refine HPA.out.mono ?_
                        clear HPA hconv
                        rintro e w3 ⟨hb3, ⟨ht, l, hl, hlq, rfl⟩ | ⟨ht, l, hl, rfl⟩⟩
                        · have hs1 : (Tryf.prog.info? 26).map (·.size) = some (u8s l).size := by rw [u8s_size, hl]; kernel_rfl
                          have hs2 : (u8s z32).size = (u8s l).size := by rw [u8s_size, u8s_size, hl]; decide
                          have hn := heap_alloc_new w3 (.cells (u8s z32) 26)
                          have h5 := setRow_block hn (u8s l)
                          have hb5 : Below w2.heap.size w2 ((w3.alloc (.cells (u8s z32) 26)).setRow w3.heap.size (u8s l)) := (hb3.alloc hb3.size _).trans (Proofs.Qxb6614531aFmt.below_setRow hb3.size _)
                          have hbE := hbel2.trans (hb5.mono hbel2.size)
                          rcases HCS.out with ⟨_, e1, l', e3, hl', hlq'⟩ | ⟨h9, _⟩
                          · subst e1 e3
                            have hv5 : ((w3.alloc (.cells (u8s z32) 26)).setRow w3.heap.size (u8s l)).heap[W0.heap.size]? = some (.cells (u8s l') 26 (0, 0)) := (hb5.block _ (lt_of_block HVB.out.1)).trans HVB.out.1
                            have hs3 : (Tryf.prog.info? 26).map (·.size) = some (u8s l').size := by rw [u8s_size, hl']; kernel_rfl
                            have heq := list_eq hl' hl hlq' hlq
                            have q1 := fun ww => run_eql_u8s ww 26 32 Tryf.underlying26 l' l hl' hl
                            have q2 := fun ww => run_equalIn_u8s ww 26 32 Tryf.underlying26 l' l hl' hl
                            rw [heq] at q1 q2
                            rcases HERR.out with ⟨_, rfl⟩ | ⟨h9, _⟩
                            · clear ht hlq hlq' heq
                              as_aux_lemma =>
                                go_wp2_with (first
                                  | ((with_reducible change wpList _ _ _ _ _ _); refine wpList_store_row rfl 26 (.tmp 16) _ rfl w3.heap.size (u8s l) rfl rfl 26 (u8s z32) hn hs1 hs2 (u8s_one l) ?_)
                                  | ((with_reducible change wpList _ _ _ _ _ _); refine wpList_wanted (by rfl) fun K hK => wp_load_row 26 (.tmp 9) rfl W0.heap.size rfl 26 (u8s l') (0, 0) _ hv5 Tryf.underlying26 rfl hs3 (hK _ _ ?_))
                                  | ((with_reducible change wpList _ _ _ _ _ _); refine wpList_wanted (by rfl) fun K hK => wp_load_row 26 (.tmp 16) rfl w3.heap.size rfl 26 (u8s l) (0, 0) _ h5 Tryf.underlying26 rfl hs1 (hK _ _ ?_)))
                                go_ret
                                exact ⟨by simp, hbE⟩
                            · cases h9
                          · exact absurd ht h9
                        · have hs1 : (Tryf.prog.info? 26).map (·.size) = some (u8s l).size := by rw [u8s_size, hl]; kernel_rfl
                          have hs2 : (u8s z32).size = (u8s l).size := by rw [u8s_size, u8s_size, hl]; decide
                          have hn := heap_alloc_new w3 (.cells (u8s z32) 26)
                          have hb5 : Below w2.heap.size w2 ((w3.alloc (.cells (u8s z32) 26)).setRow w3.heap.size (u8s l)) := (hb3.alloc hb3.size _).trans (Proofs.Qxb6614531aFmt.below_setRow hb3.size _)
                          have hbE := hbel2.trans (hb5.mono hbel2.size)
                          rcases HCS.out with ⟨h9, _⟩ | ⟨_, e1, e3⟩
                          · exact absurd h9 ht
                          · subst e1 e3
                            obtain rfl : u = true := HU.out rfl
                            rcases HERR.out with ⟨h9, _⟩ | ⟨_, t9, p9, rfl⟩
                            · cases h9
                            · clear ht
                              as_aux_lemma =>
                                go_wp2_with (first
                                  | ((with_reducible change wpList _ _ _ _ _ _); refine wpList_store_row rfl 26 (.tmp 16) _ rfl w3.heap.size (u8s l) rfl rfl 26 (u8s z32) hn hs1 hs2 (u8s_one l) ?_))
                                go_ret
                                exact ⟨by simp, hbE⟩
                      · subst h3
                        as_aux_lemma =>
                          go_wp2
                          go_round
                          case rel =>
                            have e0 := HPK.out
                            have hy : zs.getD (j + 1 + k) 0 = 92 := by rw [← e0]; exact HY.out.symm
                            refine ⟨p + 1, k + 1, r + 1, by go_num, by go_num, by omega, by omega, by omega, by show _ = _; omega, esc_step HE.out hy, fun q hq => ?_⟩
                            by_cases e : q = k
                            · subst e; exact halt_plain (by omega) (by omega)
                            · exact HB.out q (by omega)
                          case measure => simp [intOf]; omega
                      · have f2 : (y == 34) = false := by simpa using h2
                        have f3 : (y == 92) = false := by simpa using h3
                        as_aux_lemma =>
                          go_wp2
                          go_round
                          case rel =>
                            have e0 := HPK.out
                            have hy : zs.getD (j + 1 + k) 0 = y := by rw [← e0]; exact HY.out.symm
                            refine ⟨p + 1, k + 1, 0, by go_num, by go_num, by omega, by omega, by omega, by show _ = _; omega, esc_plain (by omega), fun q hq => ?_⟩
                            by_cases e : q = k
                            · subst e; exact halt_plain (by omega) (by omega)
                            · exact HB.out q (by omega)
                          case measure => simp [intOf]; omega
                    · have hr1 : ((r : Int) % 2 == 0) = false := by simp; omega
                      have HEs : Hid (esc zs (j + 1) k = true) := by show _ = _; rw [HE.out]; simp; omega
                      by_cases h3 : y = 92
                      · subst h3
                        as_aux_lemma =>
                          go_wp2
                          go_round
                          case rel =>
                            have e0 := HPK.out
                            have hy : zs.getD (j + 1 + k) 0 = 92 := by rw [← e0]; exact HY.out.symm
                            refine ⟨p + 1, k + 1, r + 1, by go_num, by go_num, by omega, by omega, by omega, by show _ = _; omega, esc_step HE.out hy, fun q hq => ?_⟩
                            by_cases e : q = k
                            · subst e; exact halt_esc HEs.out
                            · exact HB.out q (by omega)
                          case measure => simp [intOf]; omega
                      · have f3 : (y == 92) = false := by simpa using h3
                        as_aux_lemma =>
                          go_wp2
                          go_round
                          case rel =>
                            have e0 := HPK.out
                            have hy : zs.getD (j + 1 + k) 0 = y := by rw [← e0]; exact HY.out.symm
                            refine ⟨p + 1, k + 1, 0, by go_num, by go_num, by omega, by omega, by omega, by show _ = _; omega, esc_plain (by omega), fun q hq => ?_⟩
                            by_cases e : q = k
                            · subst e; exact halt_esc HEs.out
                            · exact HB.out q (by omega)
                          case measure => simp [intOf]; omega
                  · have e0 := HPK.out
                    obtain ⟨e1, e2, e3⟩ := out_end HOUT.out HSK.out HQ.out.1 (by omega) HQ.out.2 (fun q hq => HB.out q (by omega))
                    have e4 : zs.length - (j + 1) = k := by omega
                    rw [e4, HE.out, hzl] at e2
                    subst e1 e3
                    obtain rfl : u = true := HU.out rfl
                    rcases HERR.out with ⟨h9, _⟩ | ⟨_, t9, p9, rfl⟩
                    · cases h9
                    · by_cases hr : r % 2 = 1
                      · have hr1 : ((r : Int) % 2 == 1) = true := by simp; omega
                        have e5 : pos = n + 1 := by rw [e2, if_pos (by simp [hr])]
                        rw [e5]
                        clear e0 e2 e4 e5
                        as_aux_lemma =>
                          go_wp2
                          go_ret
                          exact ⟨by simp, hbel2⟩
                      · have hr1 : ((r : Int) % 2 == 1) = false := by simp; omega
                        have e5 : pos = n := by rw [e2, if_neg (by simp [hr])]
                        rw [e5]
                        clear e0 e2 e4 e5
                        as_aux_lemma =>
                          go_wp2
                          go_ret
                          exact ⟨by simp, hbel2⟩
              · obtain ⟨e1, e2, e3⟩ := out_other HOUT.out HSK.out hnull (fun h1 h2 => hq ⟨by omega, h2⟩)
                subst e1 e3
                obtain rfl : u = true := HU.out rfl
                rcases HERR.out with ⟨h, _⟩ | ⟨_, t, p, rfl⟩
                · cases h
                · rw [e2]
                  clear hnull e2
                  by_cases hjn : j < n
                  · have hne : (zs.getD j 0 == 34) = false := by simpa using fun h => hq ⟨hjn, h⟩
                    have hc := hL2.cell j hjn
                    obtain rfl := hL2.at_ (by omega)
                    generalize zs.getD j 0 = z at hc hne
                    have hne2 : (z != 34) = true := by simp [bne, hne]
                    have hdl : decide ((n : Int) ≤ (j : Int)) = false := by simp; omega
                    clear hq
                    as_aux_lemma =>
                      go_wp2
                      go_ret
                      exact ⟨by simp, hbel2⟩
                  · have hdl : decide ((n : Int) ≤ (j : Int)) = true := by simp; omega
                    clear hq
                    as_aux_lemma =>
                      go_wp2
                      go_ret
                      exact ⟨by simp, hbel2⟩
    · by_cases hneg : i < 0
      · as_aux_lemma =>
          go_wp2
          go_ret
          exact ⟨rfl, hbel⟩
      · have b1 : decide (i < 0) = false := by simp; omega
        have b2 : (n : Int) < i := by omega
        as_aux_lemma =>
          go_wp2
          go_ret
          exact ⟨rfl, hbel⟩
  · have hn' : decide (n ≤ 1048576) = false := decide_eq_false hn
    rw [hn']
    as_aux_lemma =>
      go_wp2
      go_ret
      exact ⟨rfl, hbel⟩
end Go.Proofs.Qxb6614531aFmt
