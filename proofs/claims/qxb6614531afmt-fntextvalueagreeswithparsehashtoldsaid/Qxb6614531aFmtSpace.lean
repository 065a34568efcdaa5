import Derived.Test.Qxb6614531aFmtProg
import Derived.WalkKit
import Derived.WalkSpells
import Derived.Handy
import Derived.WalkLawsBesides
import Derived.Deep.LoopGhost
import Derived.BigQuiet
import Derived.Deep.QuietTactic
namespace Go.Proofs.Qxb6614531aFmt
open Go.RowKit

/-- JSON's blank. -/
def sp (c : Int) : Bool := c == 32 || c == 9 || c == 13 || c == 10

/-- j: the first place from i on that is no blank. -/
structure Skip (zs : List Int) (i j : Nat) : Prop where
  ge : i ≤ j
  le : j ≤ zs.length
  all : ∀ t, i ≤ t → t < j → sp (zs.getD t 0) = true
  stop : j < zs.length → sp (zs.getD j 0) = false

/-- What is known of the line's memory. -/
structure Line (w : World) (lb : Nat) (a : Option Addr) (n : Nat) (zs : List Int) : Prop where
  len : zs.length = n
  at_ : 0 < n → a = some ⟨lb, 0, none⟩
  cell : ∀ i, i < n → w.cell? ⟨lb, i, none⟩ = some (.int .u8 (zs.getD i 0))
  rng : ∀ z ∈ zs, 0 ≤ z ∧ z < 256

theorem Line.below {w w' : World} {lb : Nat} {a : Option Addr} {n : Nat} {zs : List Int} {B : Nat} (h : Line w lb a n zs) (hb : Below B w w') (hB : lb < B) : Line w' lb a n zs :=
  ⟨h.len, h.at_, fun i hi => (hb.cell (p := ⟨lb, i, none⟩) hB).trans (h.cell i hi), h.rng⟩

/-- What is known of the reader's memory. -/
structure Rdr (w : World) (rb : Nat) (a : Option Addr) (n c : Nat) (i : Nat) : Prop where
  line : w.cell? ⟨rb, 0, none⟩ = some (.slice a n c)
  pos : w.cell? ⟨rb, 1, none⟩ = some (.int .i64 i)
  free : w.frozen? ⟨rb, 1, none⟩ = false
  lt : rb < w.heap.size

theorem Rdr.drewN {w : World} {rb : Nat} {a : Option Addr} {n c i : Nat} (h : Rdr w rb a n c i) (k : Nat) : Rdr (w.drewN k) rb a n c i := ⟨h.line, h.pos, h.free, h.lt⟩

theorem Rdr.set {w : World} {rb : Nat} {a : Option Addr} {n c i : Nat} (h : Rdr w rb a n c i) {v : Value} (j : Nat) (hv : v = .int .i64 j) : Rdr (w.setCell ⟨rb, 1, none⟩ v) rb a n c j := by
  subst hv
  have h1 := h.line
  have h2 := h.pos
  have h3 := h.free
  have h4 := h.lt
  refine ⟨by go_simp, by go_simp, by go_simp, by simpa [World.setCell] using h4⟩

theorem Rdr.below {w w' : World} {rb : Nat} {a : Option Addr} {n c i : Nat} (h : Rdr w rb a n c i) (hb : Below w.heap.size w w') : Rdr w' rb a n c i :=
  ⟨(hb.cell (p := ⟨rb, 0, none⟩) h.lt).trans h.line, (hb.cell (p := ⟨rb, 1, none⟩) h.lt).trans h.pos, (hb.frozen (p := ⟨rb, 1, none⟩) h.lt).trans h.free, Nat.lt_of_lt_of_le h.lt hb.size⟩

theorem below_drewN {B : Nat} {a w : World} (h : Below B a w) (n : Nat) : Below B a (w.drewN n) := h.trans ⟨rfl, rfl, rfl, Nat.le_refl _, fun _ _ => rfl⟩

theorem sp_of {c : Int} (h : c = 32 ∨ c = 9 ∨ c = 13 ∨ c = 10) : sp c = true := by rcases h with rfl | rfl | rfl | rfl <;> rfl

set_option maxHeartbeats 1000000 in
theorem space_any (rb lb : Nat) (a : Option Addr) (n c i : Nat) (zs : List Int) (w : World) (hl : Line w lb a n zs) (hr : Rdr w rb a n c i) (hb : lb < rb) (hn : n ≤ 1048576) (hi : i ≤ n) :
    Calls Tryf.prog 23 #[.pointer (some ⟨rb, 0, none⟩)] w fun e w' => e = .returned (.tuple #[]) ∧ ∃ j, Skip zs i j ∧ Rdr w' rb a n c j ∧ Below rb w w' := by
  have hlen := hl.len
  go_enter Tryf.func23, Tryf.ntmps23
  go_wp2
  go_loopg [] (n - i) (fun k wr => ∃ j : Nat, i ≤ j ∧ j ≤ n ∧ k = n - j ∧ Rdr wr rb a n c j ∧ Below rb w wr ∧ Hid (∀ t, i ≤ t → t < j → sp (zs.getD t 0) = true))
  case atStart => exact ⟨i, Nat.le_refl _, hi, rfl, hr, Below.refl _ _, fun t h1 h2 => by omega⟩
  case round =>
    obtain ⟨j, hij, hjn, hk, hrj, hbj, HS⟩ := hrel
    have hc0 := hrj.line
    have hc1 := hrj.pos
    have hfr := hrj.free
    by_cases hlt : j < n
    · obtain rfl := hl.at_ (by omega)
      have hcj : wr.cell? ⟨lb, j, none⟩ = some (.int .u8 (zs.getD j 0)) := (hbj.cell (p := ⟨lb, j, none⟩) hb).trans (hl.cell j hlt)
      have hlt' : (j : Int) < (n : Int) := by omega
      clear hl hr
      go_wp2
      go_quiet (fail)
      go_wp2
      go_quiet (fail)
      go_wp2
      all_goals first
        | (go_roundg (n - (j + 1))
           case measure => omega
           case rel =>
             refine ⟨j + 1, by omega, by omega, rfl, (hrj.drewN _).set (j + 1) (by go_num), (below_drewN hbj _).setCell (Nat.le_refl _) _, fun t h1 h2 => ?_⟩
             by_cases e : t = j
             · subst e; exact sp_of (by simp_all)
             · exact HS.out t h1 (by omega))
        | (go_returns
           exact ⟨rfl, j, ⟨hij, by omega, HS.out, fun _ => by simp_all [sp]⟩, hrj.drewN _, below_drewN hbj _⟩)


    · go_wp2
      go_quiet (fail)
      go_wp2
      go_returns
      exact ⟨rfl, j, ⟨hij, by omega, HS.out, fun h => absurd h (by omega)⟩, hrj.drewN _, below_drewN hbj _⟩
end Go.Proofs.Qxb6614531aFmt
