import Derived.Test.Qxb6614531aFmtText
set_option linter.unusedVariables false
namespace Go.Proofs.Qxb6614531aFmt
open Go.RowKit Go.Extern.Stop Go.Stop Go.Extern

set_option maxRecDepth 100000 in
set_option maxHeartbeats 4000000 in
theorem zz_any (F : Interp) (lb vb : Nat) (a : Option Addr) (n c i : Nat) (zs lv : List Int) (a0 : Addr) (s0 : ByteArray) (w : World) (hF : F.answers w.tape) (hl : Line w lb a n zs) (hb : lb < w.heap.size) (hn : n ≤ 1048576) (hi : i ≤ n) (hnc : n ≤ c) (hcm : c ≤ maxLen) (hG : Glob w a0) (hs0 : w.cell? a0 = some (.string s0)) (ha0 : a0.block < vb) (hlv : lv.length = 32) (hblk : w.heap[vb]? = some (.cells (u8s lv) 26 (0, 0))) :
    Calls Tryf.prog 7 #[.slice a n c, .int .i64 i, .pointer (some ⟨vb, 0, none⟩)] w fun e w' => ∃ ok pos upd v, Out zs i ok pos upd ∧ e = .returned (.tuple #[.int .i64 (pos : Nat), v]) ∧ ErrIs ok v ∧ Below vb w w' ∧
      w'.heap[vb]? = some (.cells (u8s (upd.getD lv)) 26 (0, 0)) := by
  have hvlt := lt_of_block hblk
  have hbel : Below w.heap.size w (w.alloc (.cells #[.slice a n c, .int .i64 i] 38)) := (Below.refl _ _).alloc (Nat.le_refl _) _
  have hrd : Rdr (w.alloc (.cells #[.slice a n c, .int .i64 i] 38)) w.heap.size a n c i := ⟨World.cell?_alloc_at (w := w) _ _ _ 0 rfl, World.cell?_alloc_at (w := w) _ _ _ 1 rfl, World.frozen?_alloc_at (w := w) _ _ _ 1 rfl, by simp⟩
  have hcall := textValue_any F w.heap.size lb vb a n c i zs lv a0 s0 (w.alloc (.cells #[.slice a n c, .int .i64 i] 38)) (by exact hF) (hl.below hbel hb) hrd hb hn hi hnc hcm hvlt ((hbel.cell (p := ⟨0, 0, none⟩) (by show 0 < _; omega)).trans hG) ((hbel.cell (p := a0) (by omega)).trans hs0) ha0 hlv ((hbel.block vb hvlt).trans hblk)
  have HC := hcall
  have HB : Hid (Below w.heap.size w (w.alloc (.cells #[.slice a n c, .int .i64 i] 38))) := hbel
  clear hrd hcall hG hs0 hl hbel
  go_enter Tryf.func7, Tryf.ntmps7
  go_wp2_with fail
  refine HC.mono ?_
  clear HC
  rintro e w1 ⟨ok, pos, upd, v, hout, rfl, herr, hr, hb1, hblk1⟩
  have hc1 := hr.pos
  have HO : Hid (Out zs i ok pos upd) := hout
  have HE : Hid (ErrIs ok v) := herr
  clear hout herr
  go_wp2
  go_returns
  exact ⟨ok, pos, upd, _, HO.out, rfl, HE.out, (HB.out.mono (Nat.le_of_lt hvlt)).trans hb1, hblk1⟩
end Go.Proofs.Qxb6614531aFmt
