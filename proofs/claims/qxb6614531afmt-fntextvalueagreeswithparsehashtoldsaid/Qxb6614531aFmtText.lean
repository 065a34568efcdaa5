import Derived.Test.Qxb6614531aFmtParse
import Derived.Test.Qxb6614531aFmtRaw
set_option linter.unusedVariables false
namespace Go.Proofs.Qxb6614531aFmt
open Go.RowKit Go.Extern.Stop Go.Stop Go.Extern

/-- What is known of the errors' variable. -/
def Glob (w : World) (a0 : Addr) : Prop := w.cell? ⟨0, 0, none⟩ = some (.iface 66 (.pointer (some a0)))

set_option maxRecDepth 100000 in
set_option maxHeartbeats 8000000 in
theorem unmarshal_any (vb lb s k cp : Nat) (xs lv : List Int) (a0 : Addr) (w : World) (hxk : xs.length = k) (hk : k ≤ 1048576) (hcell : ∀ i, i < k → w.cell? ⟨lb, s + i, none⟩ = some (.int .u8 (xs.getD i 0)))
    (hG : Glob w a0) (hlv : lv.length = 32) (hblk : w.heap[vb]? = some (.cells (u8s lv) 26 (0, 0))) :
    Calls Tryf.prog 54 #[.pointer (some ⟨vb, 0, none⟩), .slice (some ⟨lb, s, none⟩) k cp] w fun e w' =>
      (taken (strOfNums xs) ∧ e = .returned .nilIface ∧ Below vb w w' ∧ (∀ b, b < w.heap.size → b ≠ vb → w'.heap[b]? = w.heap[b]?) ∧ ∃ l, l.length = 32 ∧ (∀ q, q < 32 → l.getD q 0 = hv (digs (strOfNums xs)) q) ∧ w'.heap[vb]? = some (.cells (u8s l) 26 (0, 0))) ∨
      (¬ taken (strOfNums xs) ∧ e = .returned (.iface 66 (.pointer (some a0))) ∧ Below w.heap.size w w') := by
  have hconv := run_convert_bytes_arg (P := Tryf.prog) w 22 5 Tryf.underlying22 Tryf.underlying5 lb s k cp xs hxk hcell 9 Tryf.underlying9
  have hsz : (strOfNums xs).size ≤ 1048576 := by rw [strOfNums_size]; omega
  have hz := zero26
  have hvlt := lt_of_block hblk
  generalize strOfNums xs = S at *
  clear hcell
  unfold Glob at hG
  go_enter Tryf.func54, Tryf.ntmps54
  go_wp2_with fail
  refine (parse_any S a0 w hsz hG).mono ?_
  clear hconv
  rintro e w1 ⟨hb1, ⟨ht, l, hl, hlq, rfl⟩ | ⟨ht, l, hl, rfl⟩⟩
  · have HR : Hid (taken S ∧ ∃ l', l'.length = 32 ∧ (∀ q, q < 32 → l'.getD q 0 = hv (digs S) q) ∧ u8s l' = u8s l) := ⟨ht, l, hl, hlq, rfl⟩
    have hs1 : (Tryf.prog.info? 26).map (·.size) = some (u8s l).size := by rw [u8s_size, hl]; kernel_rfl
    have hs2 : (u8s z32).size = (u8s l).size := by rw [u8s_size, u8s_size, hl]; decide
    have hs3 := u8s_one l
    have hs4 : (u8s lv).size = (u8s l).size := by rw [u8s_size, u8s_size, hl, hlv]
    clear ht hl hlq hG hsz
    generalize u8s l = C at *
    have hn := heap_alloc_new w1 (.cells (u8s z32) 26)
    have h5 := setRow_block hn C
    have hv1 : w1.heap[vb]? = some (.cells (u8s lv) 26 (0, 0)) := (hb1.block vb hvlt).trans hblk
    have hv5 : ((w1.alloc (.cells (u8s z32) 26)).setRow w1.heap.size C).heap[vb]? = some (.cells (u8s lv) 26 (0, 0)) := by
      rw [setRow_other _ _ _ _ (by have := lt_of_block hv1; omega), Below.heap_alloc _ _ _ (lt_of_block hv1)]; exact hv1
    go_wp2_with (first | (refine wpList_store_row rfl 26 (.tmp 5) _ rfl w1.heap.size C rfl rfl 26 (u8s z32) hn hs1 hs2 hs3 ?_) | (refine wpList_load_row rfl 26 (.tmp 5) rfl w1.heap.size rfl 26 C (0, 0) _ h5 Tryf.underlying26 rfl hs1 ?_) | (refine wpList_store_row rfl 26 (.tmp 18) _ rfl vb C rfl rfl 26 (u8s lv) hv5 hs1 hs4 hs3 ?_))
    go_ret
    obtain ⟨r1, l', r2, r3, r4⟩ := HR.out
    have hb5 : Below w.heap.size w ((w1.alloc (.cells (u8s z32) 26)).setRow w1.heap.size C) := (hb1.alloc hb1.size _).trans (below_setRow hb1.size _)
    refine .inl ⟨r1, rfl, (hb5.mono (Nat.le_of_lt hvlt)).trans (below_setRow (Nat.le_refl _) _), fun b hb hne => ?_, l', r2, r3, by rw [r4]; exact setRow_block hv5 C⟩
    rw [setRow_other _ _ _ _ hne]
    exact hb5.block b hb
  · have HR : Hid (¬ taken S) := ht
    have hs1 : (Tryf.prog.info? 26).map (·.size) = some (u8s l).size := by rw [u8s_size, hl]; kernel_rfl
    have hs2 : (u8s z32).size = (u8s l).size := by rw [u8s_size, u8s_size, hl]; decide
    have hs3 := u8s_one l
    clear ht hl hG hsz
    generalize u8s l = C at *
    have hn := heap_alloc_new w1 (.cells (u8s z32) 26)
    go_wp2_with (first | (refine wpList_store_row rfl 26 (.tmp 5) _ rfl w1.heap.size C rfl rfl 26 (u8s z32) hn hs1 hs2 hs3 ?_))
    go_ret
    exact .inr ⟨HR.out, rfl, (hb1.alloc hb1.size _).trans (below_setRow hb1.size _)⟩

/-- The text between the quotes. -/
def inner (zs : List Int) (s k : Nat) : ByteArray := strOfNums ((zs.drop s).take k)

/-- How textValue ends: whether it takes the value; the reader's place; the hash, where it is new. -/
def Out (zs : List Int) (i : Nat) (ok : Bool) (pos : Nat) (upd : Option (List Int)) : Prop :=
  ∃ j, Skip zs i j ∧ (
    (isNull zs j = true ∧ ok = true ∧ pos = j + 4 ∧ upd = none) ∨
    (isNull zs j = false ∧ (j < zs.length → zs.getD j 0 ≠ 34) ∧ ok = false ∧ pos = j ∧ upd = none) ∨
    (isNull zs j = false ∧ j < zs.length ∧ zs.getD j 0 = 34 ∧ (
      (∃ k, j + 1 + k < zs.length ∧ (∀ q, q < k → halt zs (j + 1) q = false) ∧ halt zs (j + 1) k = true ∧ zs.getD (j + 1 + k) 0 < 32 ∧ ok = false ∧ pos = j + 1 + k ∧ upd = none) ∨
      (∃ k, j + 1 + k < zs.length ∧ (∀ q, q < k → halt zs (j + 1) q = false) ∧ halt zs (j + 1) k = true ∧ zs.getD (j + 1 + k) 0 = 34 ∧ pos = j + 1 + k + 1 ∧
        ((taken (inner zs (j + 1) k) ∧ ok = true ∧ ∃ l, upd = some l ∧ l.length = 32 ∧ ∀ q, q < 32 → l.getD q 0 = hv (digs (inner zs (j + 1) k)) q) ∨ (¬ taken (inner zs (j + 1) k) ∧ ok = false ∧ upd = none))) ∨
      ((∀ q, q < zs.length - (j + 1) → halt zs (j + 1) q = false) ∧ ok = false ∧ pos = (if esc zs (j + 1) (zs.length - (j + 1)) = true then zs.length + 1 else zs.length) ∧ upd = none))))

/-- What textValue hands back. -/
def ErrIs (ok : Bool) (v : Value) : Prop := (ok = true ∧ v = .nilIface) ∨ (ok = false ∧ ∃ t p, v = .iface t p)

theorem Skip.again {zs : List Int} {i j j' : Nat} (h : Skip zs i j) (h' : Skip zs j j') : j' = j := by
  by_cases e : j < zs.length
  · rcases Nat.lt_or_ge j j' with h1 | h1
    · have := h'.all j (Nat.le_refl _) h1
      rw [h.stop e] at this; cases this
    · have := h'.ge; omega
  · have := h'.le; have := h'.ge; omega

set_option maxRecDepth 100000 in
set_option maxHeartbeats 8000000 in
theorem textValue_any (F : Interp) (rb lb vb : Nat) (a : Option Addr) (n c i : Nat) (zs lv : List Int) (a0 : Addr) (s0 : ByteArray) (w : World) (hF : F.answers w.tape) (hl : Line w lb a n zs) (hr : Rdr w rb a n c i)
    (hb : lb < rb) (hn : n ≤ 1048576) (hi : i ≤ n) (hnc : n ≤ c) (hcm : c ≤ maxLen) (hvr : vb < rb) (hG : Glob w a0) (hs0 : w.cell? a0 = some (.string s0)) (ha0 : a0.block < vb) (hlv : lv.length = 32) (hblk : w.heap[vb]? = some (.cells (u8s lv) 26 (0, 0))) :
    Calls Tryf.prog 11 #[.pointer (some ⟨rb, 0, none⟩), .iface 31 (.pointer (some ⟨vb, 0, none⟩))] w fun e w' => ∃ ok pos upd v, Out zs i ok pos upd ∧ e = .returned v ∧ ErrIs ok v ∧ Rdr w' rb a n c pos ∧ Below vb w w' ∧
      w'.heap[vb]? = some (.cells (u8s (upd.getD lv)) 26 (0, 0)) := by
  have hlen := hl.len
  go_enter Tryf.func11, Tryf.ntmps11
  go_wp2_with fail
  refine (null_any rb lb a n c i zs w hl hr hb hn hi hnc hcm).mono ?_
  rintro e w1 ⟨j, hsk, hb1, ⟨hnull, rfl, hr1⟩ | ⟨hnull, rfl, hr1⟩⟩
  · have HO : Hid (Out zs i true (j + 4) none) := ⟨j, hsk, .inl ⟨hnull, rfl, rfl, rfl⟩⟩
    clear hnull
    go_wp2
    go_ret
    exact ⟨true, j + 4, none, _, HO.out, rfl, .inl ⟨rfl, rfl⟩, hr1, hb1.mono (Nat.le_of_lt hvr), (hb1.block vb hvr).trans hblk⟩
  · have HN : Hid (isNull zs j = false) := hnull
    have hc1 := hr1.pos
    have HF : Hid (F.answers w.tape) := hF
    have hjn : j ≤ n := by have := hsk.le; omega
    clear hnull hF
    go_wp2_with fail
    refine (raw_any F rb lb a n c j zs w1 (by rw [hb1.tape]; exact HF.out) (hl.below hb1 hb) hr1 hb hn hjn hnc).mono ?_
    rintro e w2 ⟨j', hsk', hb2, hraw⟩
    obtain rfl := hsk.again hsk'
    have hb02 := hb1.trans hb2
    clear hr1 hc1 hsk' hb2
    rcases hraw with ⟨hno, ⟨p, rfl⟩, hr2⟩ | ⟨hjl, hq, ⟨k, p, hk, hbe, hh, hlt, rfl, hr2⟩ | ⟨k, b, hk, hbe, hh, heq, rfl, hr2⟩ | ⟨p, hbe, rfl, hr2⟩⟩
    · have HO : Hid (Out zs i false j' none) := ⟨j', hsk, .inr (.inl ⟨HN.out, fun h => hno (by omega), rfl, rfl, rfl⟩)⟩
      clear hno
      go_wp2
      go_ret
      exact ⟨false, _, none, _, HO.out, rfl, .inr ⟨rfl, _, _, rfl⟩, hr2, hb02.mono (Nat.le_of_lt hvr), (hb02.block vb hvr).trans hblk⟩
    · have HO : Hid (Out zs i false (j' + 1 + k) none) := ⟨j', hsk, .inr (.inr ⟨HN.out, by omega, hq, .inl ⟨k, by omega, hbe, hh, hlt, rfl, rfl, rfl⟩⟩)⟩
      clear hbe hh hlt hq
      go_wp2
      go_ret
      exact ⟨false, _, none, _, HO.out, rfl, .inr ⟨rfl, _, _, rfl⟩, hr2, hb02.mono (Nat.le_of_lt hvr), (hb02.block vb hvr).trans hblk⟩
    · have hl2 := hl.below hb02 hb
      have HO : Hid (∀ ok upd, ((taken (inner zs (j' + 1) k) ∧ ok = true ∧ ∃ l, upd = some l ∧ l.length = 32 ∧ ∀ q, q < 32 → l.getD q 0 = hv (digs (inner zs (j' + 1) k)) q) ∨ (¬ taken (inner zs (j' + 1) k) ∧ ok = false ∧ upd = none)) → Out zs i ok (j' + 1 + k + 1) upd) := fun ok upd h => ⟨j', hsk, .inr (.inr ⟨HN.out, by omega, hq, .inr (.inl ⟨k, by omega, hbe, hh, heq, rfl, h⟩)⟩)⟩
      have hxl : ((zs.drop (j' + 1)).take k).length = k := by rw [List.length_take, List.length_drop]; omega
      have hxc : ∀ t, t < k → w2.cell? ⟨lb, j' + 1 + t, none⟩ = some (.int .u8 (((zs.drop (j' + 1)).take k).getD t 0)) := by
        intro t ht
        rw [hl2.cell (j' + 1 + t) (by omega)]
        congr 2
        simp [List.getD, ht]
      have hG2 : Glob w2 a0 := (hb02.cell (p := ⟨0, 0, none⟩) (by show 0 < _; omega)).trans hG
      have hblk2 : w2.heap[vb]? = some (.cells (u8s lv) 26 (0, 0)) := (hb02.block vb hvr).trans hblk
      have HI : Hid (inner zs (j' + 1) k = strOfNums ((zs.drop (j' + 1)).take k)) := rfl
      have hk2 : k ≤ 1048576 := by omega
      generalize (zs.drop (j' + 1)).take k = xs at hxl hxc HI
      clear hbe hh heq hq hl2
      go_wp2_with fail
      refine (unmarshal_any vb lb (j' + 1) k _ xs lv a0 w2 hxl hk2 hxc hG2 hlv hblk2).mono ?_
      have hb02v := hb02.mono (Nat.le_of_lt hvr)
      rintro e w3 (⟨ht, rfl, hb3, hoth, l, hll, hlq, hblk3⟩ | ⟨ht, rfl, hb3⟩)
      · have HR : Hid (Out zs i true (j' + 1 + k + 1) (some l)) := HO.out true (some l) (.inl ⟨by rw [HI.out]; exact ht, rfl, l, rfl, hll, by rw [HI.out]; exact hlq⟩)
        have hr3 : Rdr w3 rb a n c (j' + 1 + k + 1) := by
          have hB := hoth rb hr2.lt (by omega)
          exact ⟨(World.cell?_of_block hB).trans hr2.line, (World.cell?_of_block hB).trans hr2.pos, (World.frozen?_of_block hB).trans hr2.free, Nat.lt_of_lt_of_le hr2.lt hb3.size⟩
        clear ht hlq hoth hxc
        go_wp2
        go_ret
        exact ⟨true, _, some l, _, HR.out, rfl, .inl ⟨rfl, rfl⟩, hr3, hb02v.trans hb3, hblk3⟩
      · have HR : Hid (Out zs i false (j' + 1 + k + 1) none) := HO.out false none (.inr ⟨by rw [HI.out]; exact ht, rfl, rfl⟩)
        clear ht hxc
        have hs3 : w3.cell? a0 = some (.string s0) := by
          rw [hb3.cell (p := a0) (by have := hr2.lt; omega), hb02.cell (p := a0) (by omega)]; exact hs0
        have hF3 : Hid (F.answers w3.tape) := by show F.answers w3.tape; rw [hb3.tape, hb02.tape]; exact HF.out
        clear hs0
        go_wp2_with fail
        refine (errorf_wrap F (j' + 1) a0 s0 w3.heap.size _ ?_ ?_ ?_ ?_).mono ?_
        · exact hF3.out
        · exact World.cell?_alloc_at (w := w3) _ _ _ 0 rfl
        · exact World.cell?_alloc_at (w := w3) _ _ _ 1 rfl
        · rw [World.cell?_alloc_lt _ _ _ (by have := hb3.size; have := hr2.lt; omega)]; exact hs3
        · rintro e w4 ⟨⟨p, rfl⟩, hb4⟩
          go_wp2
          go_ret
          have hb5 : Below w2.heap.size w2 w4 := (hb3.alloc hb3.size _).trans (hb4.mono (by have := hb3.size; simp; omega))
          exact ⟨false, _, none, _, HR.out, rfl, .inr ⟨rfl, _, _, rfl⟩, hr2.below hb5, hb02v.trans (hb5.mono (by have := hr2.lt; omega)), (hb5.block vb (by have := hr2.lt; omega)).trans hblk2⟩
    · have HO : Hid (Out zs i false (if esc zs (j' + 1) (n - (j' + 1)) = true then n + 1 else n) none) := ⟨j', hsk, .inr (.inr ⟨HN.out, by omega, hq, .inr (.inr ⟨by rw [hlen]; exact hbe, rfl, by rw [hlen], rfl⟩)⟩)⟩
      generalize (if esc zs (j' + 1) (n - (j' + 1)) = true then n + 1 else n) = pos at *
      clear hbe hq
      go_wp2
      go_ret
      exact ⟨false, _, none, _, HO.out, rfl, .inr ⟨rfl, _, _, rfl⟩, hr2, hb02.mono (Nat.le_of_lt hvr), (hb02.block vb hvr).trans hblk⟩
end Go.Proofs.Qxb6614531aFmt
