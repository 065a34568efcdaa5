import Derived.Test.Qxb6614531aFmtHex
import Derived.Test.Qxb6614531aFmtAny
import Derived.Deep.RegionHeld3
import Derived.Laws.IdiomStrings
import Derived.Lib.LazyBuf
set_option linter.unusedVariables false
namespace Go.Proofs.Qxb6614531aFmt
open Go.RowKit

/-- Thirty-two noughts. -/
def z32 : List Int := List.replicate 32 0
theorem zero26 (w : World) : (zeroValue 26).run Tryf.prog w = .ok (.agg (u8s z32)) w := by kernel_rfl

theorem range_of {w : World} {g : Nat} {l : List Int} {t : TypeId} {fr : Nat × Nat} (h : w.heap[g]? = some (.cells (u8s l) t fr)) : w.rangeAt g 0 (l.map (Value.int .u8)) := fun j v hj => by
  rw [Nat.zero_add, cell_of_block h]
  simpa [u8s] using hj
theorem there_of {w : World} {g n : Nat} {cs : Array Value} {t : TypeId} (h : w.heap[g]? = some (.cells cs t (0, 0))) (hn : cs.size = n) : w.there g 0 n := fun j hj => by
  rw [Nat.zero_add, cell_of_block h, free_of_block h]
  simp [Array.getElem?_eq_getElem (show j < cs.size by omega)]
theorem glob_kept {w : World} {b : Nat} {v : Value} (vs : List Value) (hb : 0 < b) (h : w.cell? ⟨0, 0, none⟩ = some v) : (w.setCells b 0 vs).cell? ⟨0, 0, none⟩ = some v := by
  rw [World.cell?_setCells_out b vs 0 w ⟨0, 0, none⟩ (fun e => by simp at e; omega)]; exact h

/-- The bytes of s behind the prefix. -/
def digs (s : ByteArray) (j : Nat) : Int := ((s.extract 7 s.size).data.toList.getD j 0).toNat
/-- ParseHash takes s. -/
def taken (s : ByteArray) : Prop := pre s = true ∧ (s.extract 7 s.size).size = 64 ∧ (¬ ∃ k, ∃ h : k < (s.extract 7 s.size).size, up ((s.extract 7 s.size)[k]'h) = true) ∧ ∀ q, q < 32 → hok (digs s) q

set_option maxRecDepth 100000 in
set_option maxHeartbeats 8000000 in
theorem parse_any (s : ByteArray) (a0 : Addr) (w : World) (hs : s.size ≤ 1048576) (hG : w.cell? ⟨0, 0, none⟩ = some (.iface 66 (.pointer (some a0)))) :
    Calls Tryf.prog 8 #[.string s] w fun e w' => Below w.heap.size w w' ∧ ((taken s ∧ ∃ l, l.length = 32 ∧ (∀ q, q < 32 → l.getD q 0 = hv (digs s) q) ∧ e = .returned (.tuple #[.agg (u8s l), .nilIface])) ∨ (¬ taken s ∧ ∃ l : List Int, l.length = 32 ∧ e = .returned (.tuple #[.agg (u8s l), .iface 66 (.pointer (some a0))]))) := by
  have hz := zero26
  have hw0 : 0 < w.heap.size := World.block_lt_of_cell? _ _ hG
  have h4 : ((w.alloc (.cells (u8s z32) 26)).alloc (.cells (u8s z32) 26)).heap[w.heap.size + 1]? = some (.cells (u8s z32) 26 (0, 0)) := heap_alloc2_new _ _ _
  have h2 : ((w.alloc (.cells (u8s z32) 26)).alloc (.cells (u8s z32) 26)).heap[w.heap.size]? = some (.cells (u8s z32) 26 (0, 0)) := heap_alloc2_old _ _ _
  have hg : ((w.alloc (.cells (u8s z32) 26)).alloc (.cells (u8s z32) 26)).cell? ⟨0, 0, none⟩ = some (.iface 66 (.pointer (some a0))) := by
    rw [World.cell?_alloc_lt _ _ _ (by simp), World.cell?_alloc_lt _ _ _ hw0]; exact hG
  have hbel : Below w.heap.size w ((w.alloc (.cells (u8s z32) 26)).alloc (.cells (u8s z32) 26)) := ((Below.refl _ _).alloc (Nat.le_refl _) _).alloc (by simp) _
  have hl4 : z32.length = 32 := by decide
  clear hG
  cases h : pre s with
  | false =>
    have HN : Hid (¬ taken s) := fun hh => by rw [hh.1] at h; cases h
    go_enter Tryf.func8, Tryf.ntmps8
    go_wp2_with fail
    refine (cut_no s _ hs h).mono ?_
    rintro e w1 ⟨rfl, rfl⟩
    clear hz h
    generalize (w.alloc (.cells (u8s z32) 26)).alloc (.cells (u8s z32) 26) = W at *
    go_wp2
    have r4 := range_of h4
    have r2 := there_of (n := 32) h2 (u8s_size _)
    have hcl : (z32.map (Value.int .u8)).length = 32 := by rw [List.length_map]; exact hl4
    have hone : ∀ v ∈ z32.map (Value.int .u8), v.oneCell' = true := fun v hv => by simp only [List.mem_map] at hv; obtain ⟨x, _, rfl⟩ := hv; rfl
    have hu26 := Tryf.underlying26
    have hi26 : (Tryf.prog.info? 26).map (·.size) = some (z32.map (Value.int .u8)).length := by rw [hcl]; kernel_rfl
    have HC : Hid (∃ l : List Int, l.length = 32 ∧ u8s l = (z32.map (Value.int .u8)).toArray) := ⟨_, hl4, rfl⟩
    generalize z32.map (Value.int .u8) = cs at *
    clear h2 h4 hl4
    go_region_held3 (fun w' => w'.rangeAt (w.heap.size + 1) 0 cs ∧ w'.there w.heap.size 0 32 ∧ w'.cell? ⟨0, 0, none⟩ = some (.iface 66 (.pointer (some a0)))) (first | go_keep_ranges | (go_split_ands; simp only [World.rangeAt_drew, World.there_drew] at *; refine ⟨World.rangeAt_setCells_apart (by assumption) _ _ _ (by omega), World.there_setCells (by assumption) _ _ _, glob_kept _ hw0 (by assumption)⟩) | go_keep) (fail)
    go_wp2
    obtain ⟨l5, h5, e5⟩ := HC.out
    have hlv := run_loadVar_mid (P := Tryf.prog) (W.drew.setCells w.heap.size 0 cs) w.heap.size 0 26 cs _ (World.rangeAt_setCells_same _ _ _ _ (by rw [hcl]; exact r2)) hu26 rfl hi26
    have hb9 := Go.below_setCells (Nat.le_refl w.heap.size) cs 0 W.drew hbel.drew
    clear r4 r2
    generalize W.drew.setCells w.heap.size 0 cs = W9 at *
    exact bodyPost_ret (v := .tuple #[.agg cs.toArray, .iface 66 (.pointer (some a0))]) (by simp [results, Tryf.results8, asAddr, hlv]) rfl ⟨hb9, .inr ⟨HN.out, l5, h5, by rw [e5]⟩⟩
  | true =>
    go_enter Tryf.func8, Tryf.ntmps8
    go_wp2_with fail
    refine (cut_yes s _ hs h).mono ?_
    rintro e w1 ⟨rfl, rfl⟩
    clear hz
    generalize (w.alloc (.cells (u8s z32) 26)).alloc (.cells (u8s z32) 26) = W at *
    have HT : Hid (taken s ↔ pre s = true ∧ (s.extract 7 s.size).size = 64 ∧ (¬ ∃ k, ∃ h : k < (s.extract 7 s.size).size, up ((s.extract 7 s.size)[k]'h) = true) ∧ ∀ q, q < 32 → hok (digs s) q) := Iff.rfl
    have HD : Hid (∀ j, digs s j = ((s.extract 7 s.size).data.toList.getD j 0).toNat) := fun j => rfl
    have hDs : (s.extract 7 s.size).size ≤ 1048576 := by simp; omega
    generalize s.extract 7 s.size = D at *
    have HP : Hid (pre s = true) := h
    clear h
    by_cases h64 : D.size = 64
    · have h64a : ((D.size : Int) == 64) = true := by simp; omega
      have H64 : Hid (D.size = 64) := h64
      have hd1 : D.size ≤ 64 := by omega
      have hd2 : 64 ≤ D.size := by omega
      clear h64
      go_wp2_with (first | (go_at_call 13; go_in) | fail)
      refine (containsAny_any D W H64.out).mono ?_
      rintro e w1 ⟨⟨b, rfl, hbb⟩, hbw⟩
      have HB : Hid (b = true ↔ ∃ k, ∃ h : k < D.size, up (D[k]'h) = true) := hbb
      clear hbb
      have h4' := (hbw.block (w.heap.size + 1) (lt_of_block h4)).trans h4
      have h2' := (hbw.block w.heap.size (lt_of_block h2)).trans h2
      have hg' := (hbw.cell (p := ⟨0, 0, none⟩) (by have := hbel.size; show 0 < _; omega)).trans hg
      have hbel' := hbel.trans (hbw.mono hbel.size)
      clear h4 h2 hg hbel hbw
      have h4 := h4'
      have h2 := h2'
      have hg := hg'
      have hbel := hbel'
      clear h4' h2' hg' hbel' W
      cases b with
      | true =>
        have HN : Hid (¬ taken s) := fun hh => (HT.out.1 hh).2.2.1 (HB.out.1 rfl)
        go_wp2
        have r4 := range_of h4
        have r2 := there_of (n := 32) h2 (u8s_size _)
        have hcl : (z32.map (Value.int .u8)).length = 32 := by rw [List.length_map]; exact hl4
        have hone : ∀ v ∈ z32.map (Value.int .u8), v.oneCell' = true := fun v hv => by simp only [List.mem_map] at hv; obtain ⟨x, _, rfl⟩ := hv; rfl
        have hu26 := Tryf.underlying26
        have hi26 : (Tryf.prog.info? 26).map (·.size) = some (z32.map (Value.int .u8)).length := by rw [hcl]; kernel_rfl
        have HC : Hid (∃ l : List Int, l.length = 32 ∧ u8s l = (z32.map (Value.int .u8)).toArray) := ⟨_, hl4, rfl⟩
        generalize z32.map (Value.int .u8) = cs at *
        clear h2 h4 hl4
        go_region_held3 (fun w' => w'.rangeAt (w.heap.size + 1) 0 cs ∧ w'.there w.heap.size 0 32 ∧ w'.cell? ⟨0, 0, none⟩ = some (.iface 66 (.pointer (some a0)))) (first | go_keep_ranges | (go_split_ands; simp only [World.rangeAt_drew, World.there_drew] at *; refine ⟨World.rangeAt_setCells_apart (by assumption) _ _ _ (by omega), World.there_setCells (by assumption) _ _ _, glob_kept _ hw0 (by assumption)⟩) | go_keep) (fail)
        go_wp2
        obtain ⟨l5, h5, e5⟩ := HC.out
        have hlv := run_loadVar_mid (P := Tryf.prog) (w1.drew.setCells w.heap.size 0 cs) w.heap.size 0 26 cs _ (World.rangeAt_setCells_same _ _ _ _ (by rw [hcl]; exact r2)) hu26 rfl hi26
        have hb9 := Go.below_setCells (Nat.le_refl w.heap.size) cs 0 w1.drew hbel.drew
        clear r4 r2
        generalize w1.drew.setCells w.heap.size 0 cs = W9 at *
        exact bodyPost_ret (v := .tuple #[.agg cs.toArray, .iface 66 (.pointer (some a0))]) (by simp [results, Tryf.results8, asAddr, hlv]) rfl ⟨hb9, .inr ⟨HN.out, l5, h5, by rw [e5]⟩⟩
      | false =>
        have HY : Hid ((∀ q, q < 32 → hok (digs s) q) → taken s) := fun hall => HT.out.2 ⟨HP.out, H64.out, fun hh => absurd (HB.out.2 hh) (by decide), hall⟩
        have HZ : Hid (¬ (∀ q, q < 32 → hok (digs s) q) → ¬ taken s) := fun hnot hh => hnot (HT.out.1 hh).2.2.2
        clear HT HB
        have hcv := fun w s => run_bytes_of_string (P := Tryf.prog) w 9 22 5 s Tryf.underlying9 Tryf.underlying22 Tryf.underlying5
        go_wp2_with fail
        clear hcv
        have h4'' : ∀ o : Obj, (w1.alloc o).drew.heap[w.heap.size + 1]? = some (.cells (u8s z32) 26 (0, 0)) := fun o => (Below.heap_alloc w1 o _ (lt_of_block h4)).trans h4
        have hsr : ∀ c, ∀ j, j < 64 → (w1.alloc (Obj.cells (bytesRow D c) 5 ((bytesRow D c).size, (bytesRow D c).size + 1))).drew.cell? ⟨w1.heap.size, j, none⟩ = some (.int .u8 (digs s j)) := by
          intro c j hj
          have hjD : j < D.data.size := by have e : D.data.size = D.size := rfl; omega
          show (w1.alloc _).cell? _ = _
          rw [World.cell?_alloc_mark, bytesRow_at D c j hjD, HD.out j]
          rw [List.getD, Array.getElem?_toList, Array.getElem?_eq_getElem hjD]; rfl
        rw [H64.out]
        generalize grownCap w1 64 0 5 = c at *
        refine (decode_any (w.heap.size + 1) w1.heap.size c z32 (digs s) 26 _ hl4 (h4'' _) (lt_of_block h4) (hsr c) (fun j => by rw [HD.out j]; have := (D.data.toList.getD j 0).toNat_lt; omega)).mono ?_
        rintro e w2 ⟨hbw, l', hl', hblk', hres⟩
        have h2' : w2.heap[w.heap.size]? = some (.cells (u8s z32) 26 (0, 0)) := (hbw.block w.heap.size (by omega)).trans ((Below.heap_alloc w1 _ _ (lt_of_block h2)).trans h2)
        have hg' : w2.cell? ⟨0, 0, none⟩ = some (.iface 66 (.pointer (some a0))) := (hbw.cell (p := ⟨0, 0, none⟩) (by show 0 < _; omega)).trans ((World.cell?_alloc_lt _ _ _ (by have := lt_of_block h2; show 0 < _; omega)).trans hg)
        have hbel' : Below w.heap.size w w2 := (hbel.alloc (Nat.le_of_lt (lt_of_block h2)) _).drew.trans (hbw.mono (by omega))
        clear h4 h2 hg hbel hbw h4'' hsr hl4
        have h4 := hblk'
        have h2 := h2'
        have hg := hg'
        have hbel := hbel'
        have hl4 := hl'
        clear hblk' h2' hg' hbel' hl'
        rcases hres with ⟨hall, hval, rfl⟩ | ⟨hnot, i, y, rfl⟩
        · have HOK : Hid (taken s ∧ ∃ l, l.length = 32 ∧ (∀ q, q < 32 → l.getD q 0 = hv (digs s) q) ∧ u8s l = u8s l') := ⟨HY.out hall, l', hl4, hval, rfl⟩
          clear hall hval
          have hs1 : (Tryf.prog.info? 26).map (·.size) = some (u8s l').size := by rw [u8s_size, hl4]; kernel_rfl
          have hs2 : (u8s z32).size = (u8s l').size := by rw [u8s_size, u8s_size, hl4]; decide
          have hs3 := u8s_one l'
          generalize u8s l' = C at *
          go_wp2_with (first | (refine wpList_load_row rfl 26 _ rfl (w.heap.size + 1) rfl 26 C (0, 0) _ h4 Tryf.underlying26 rfl hs1 ?_) | (refine wpList_store_row rfl 26 _ _ rfl w.heap.size C rfl rfl 26 (u8s z32) h2 hs1 hs2 hs3 ?_))
          have hlv := run_loadVar_row (P := Tryf.prog) (w2.setRow w.heap.size C) w.heap.size 26 26 C (0, 0) _ (setRow_block h2 C) Tryf.underlying26 rfl hs1
          have hb9 := hbel.trans (below_setRow (w := w2) (Nat.le_refl _) C)
          obtain ⟨ht, l, e1, e2, e3⟩ := HOK.out
          clear h2 h4 hg hbel
          generalize w2.setRow w.heap.size C = W9 at *
          exact bodyPost_ret (v := .tuple #[.agg C, .nilIface]) (by simp [results, Tryf.results8, asAddr, hlv]) rfl ⟨hb9, .inl ⟨ht, l, e1, e2, by rw [e3]⟩⟩
        · have HN : Hid (¬ taken s) := HZ.out hnot
          clear hnot
          go_wp2
          have r4 := range_of h4
          have r2 := there_of (n := 32) h2 (u8s_size _)
          have hcl : (l'.map (Value.int .u8)).length = 32 := by rw [List.length_map]; exact hl4
          have hone : ∀ v ∈ l'.map (Value.int .u8), v.oneCell' = true := fun v hv => by simp only [List.mem_map] at hv; obtain ⟨x, _, rfl⟩ := hv; rfl
          have hu26 := Tryf.underlying26
          have hi26 : (Tryf.prog.info? 26).map (·.size) = some (l'.map (Value.int .u8)).length := by rw [hcl]; kernel_rfl
          have HC : Hid (∃ l : List Int, l.length = 32 ∧ u8s l = (l'.map (Value.int .u8)).toArray) := ⟨_, hl4, rfl⟩
          generalize l'.map (Value.int .u8) = cs at *
          clear h2 h4 hl4
          go_region_held3 (fun w' => w'.rangeAt (w.heap.size + 1) 0 cs ∧ w'.there w.heap.size 0 32 ∧ w'.cell? ⟨0, 0, none⟩ = some (.iface 66 (.pointer (some a0)))) (first | go_keep_ranges | (go_split_ands; simp only [World.rangeAt_drew, World.there_drew] at *; refine ⟨World.rangeAt_setCells_apart (by assumption) _ _ _ (by omega), World.there_setCells (by assumption) _ _ _, glob_kept _ hw0 (by assumption)⟩) | go_keep) (fail)
          go_wp2
          obtain ⟨l5, h5, e5⟩ := HC.out
          have hlv := run_loadVar_mid (P := Tryf.prog) (w2.drew.setCells w.heap.size 0 cs) w.heap.size 0 26 cs _ (World.rangeAt_setCells_same _ _ _ _ (by rw [hcl]; exact r2)) hu26 rfl hi26
          have hb9 := Go.below_setCells (Nat.le_refl w.heap.size) cs 0 w2.drew hbel.drew
          clear r4 r2
          generalize w2.drew.setCells w.heap.size 0 cs = W9 at *
          exact bodyPost_ret (v := .tuple #[.agg cs.toArray, .iface 66 (.pointer (some a0))]) (by simp [results, Tryf.results8, asAddr, hlv]) rfl ⟨hb9, .inr ⟨HN.out, l5, h5, by rw [e5]⟩⟩
    · have h64b : ((D.size : Int) == 64) = false := by simp; omega
      have HN : Hid (¬ taken s) := fun hh => h64 (HT.out.1 hh).2.1
      go_wp2
      have r4 := range_of h4
      have r2 := there_of (n := 32) h2 (u8s_size _)
      have hcl : (z32.map (Value.int .u8)).length = 32 := by rw [List.length_map]; exact hl4
      have hone : ∀ v ∈ z32.map (Value.int .u8), v.oneCell' = true := fun v hv => by simp only [List.mem_map] at hv; obtain ⟨x, _, rfl⟩ := hv; rfl
      have hu26 := Tryf.underlying26
      have hi26 : (Tryf.prog.info? 26).map (·.size) = some (z32.map (Value.int .u8)).length := by rw [hcl]; kernel_rfl
      have HC : Hid (∃ l : List Int, l.length = 32 ∧ u8s l = (z32.map (Value.int .u8)).toArray) := ⟨_, hl4, rfl⟩
      generalize z32.map (Value.int .u8) = cs at *
      clear h2 h4 hl4
      go_region_held3 (fun w' => w'.rangeAt (w.heap.size + 1) 0 cs ∧ w'.there w.heap.size 0 32 ∧ w'.cell? ⟨0, 0, none⟩ = some (.iface 66 (.pointer (some a0)))) (first | go_keep_ranges | (go_split_ands; simp only [World.rangeAt_drew, World.there_drew] at *; refine ⟨World.rangeAt_setCells_apart (by assumption) _ _ _ (by omega), World.there_setCells (by assumption) _ _ _, glob_kept _ hw0 (by assumption)⟩) | go_keep) (fail)
      go_wp2
      obtain ⟨l5, h5, e5⟩ := HC.out
      have hlv := run_loadVar_mid (P := Tryf.prog) (W.drew.setCells w.heap.size 0 cs) w.heap.size 0 26 cs _ (World.rangeAt_setCells_same _ _ _ _ (by rw [hcl]; exact r2)) hu26 rfl hi26
      have hb9 := Go.below_setCells (Nat.le_refl w.heap.size) cs 0 W.drew hbel.drew
      clear r4 r2
      generalize W.drew.setCells w.heap.size 0 cs = W9 at *
      exact bodyPost_ret (v := .tuple #[.agg cs.toArray, .iface 66 (.pointer (some a0))]) (by simp [results, Tryf.results8, asAddr, hlv]) rfl ⟨hb9, .inr ⟨HN.out, l5, h5, by rw [e5]⟩⟩
end Go.Proofs.Qxb6614531aFmt
