import Derived.Test.Qxb6000575aProg
import Derived.Test.Qxb6000575aP
import Derived.WalkKit
import Derived.WalkSpells
import Derived.Handy
import Derived.WalkLawsBesides
import Derived.Deep.LoopGhost
import Derived.BigQuiet
import Derived.Deep.QuietTactic
import Derived.Deep.RegionHeld3
set_option linter.unusedVariables false
namespace Go.Proofs.Qxb6000575a
open Go.RowKit

/-- JSON's blank. -/
def sp (c : Int) : Bool := c == 32 || c == 9 || c == 10 || c == 13
theorem sp_of {c : Int} (h : c = 32 ∨ c = 9 ∨ c = 10 ∨ c = 13) : sp c = true := by rcases h with rfl | rfl | rfl | rfl <;> rfl

/-- j: the first place from i on that is no blank. -/
structure Skip (zs : List Int) (i j : Nat) : Prop where
  ge : i ≤ j
  le : j ≤ zs.length
  all : ∀ t, i ≤ t → t < j → sp (zs.getD t 0) = true
  stop : j < zs.length → sp (zs.getD j 0) = false

theorem Skip.uniq {zs : List Int} {i j j' : Nat} (h : Skip zs i j) (h' : Skip zs i j') : j' = j := by
  rcases Nat.lt_trichotomy j j' with h1 | h1 | h1
  · have := h'.all j h.ge h1
    rw [h.stop (by have := h'.le; omega)] at this; cases this
  · exact h1.symm
  · have := h.all j' h'.ge h1
    rw [h'.stop (by have := h.le; omega)] at this; cases this

/-- What is known of the data's memory. -/
structure Line (w : World) (lb : Nat) (a : Option Addr) (n : Nat) (zs : List Int) : Prop where
  len : zs.length = n
  at_ : 0 < n → a = some ⟨lb, 0, none⟩
  cell : ∀ i, i < n → w.cell? ⟨lb, i, none⟩ = some (.int .u8 (zs.getD i 0))
  rng : ∀ z ∈ zs, 0 ≤ z ∧ z < 256

theorem Line.below {w w' : World} {lb : Nat} {a : Option Addr} {n : Nat} {zs : List Int} {B : Nat} (h : Line w lb a n zs) (hb : Below B w w') (hB : 0 < n → lb < B) : Line w' lb a n zs :=
  ⟨h.len, h.at_, fun i hi => (hb.cell (p := ⟨lb, i, none⟩) (hB (by omega))).trans (h.cell i hi), h.rng⟩

theorem Line.drewN {w : World} {lb : Nat} {a : Option Addr} {n : Nat} {zs : List Int} (h : Line w lb a n zs) (k : Nat) : Line (w.drewN k) lb a n zs := ⟨h.len, h.at_, h.cell, h.rng⟩

theorem Line.byte {w : World} {lb : Nat} {a : Option Addr} {n : Nat} {zs : List Int} (h : Line w lb a n zs) (t : Nat) : 0 ≤ zs.getD t 0 ∧ zs.getD t 0 < 256 := by
  by_cases ht : t < zs.length
  · simp only [List.getD, List.getElem?_eq_getElem ht, Option.getD_some]; exact h.rng _ (List.getElem_mem ht)
  · simp [List.getD, List.getElem?_eq_none (show zs.length ≤ t by omega)]

theorem below_drewN {B : Nat} {a w : World} (h : Below B a w) (n : Nat) : Below B a (w.drewN n) := h.trans ⟨rfl, rfl, rfl, Nat.le_refl _, fun _ _ => rfl⟩

/-- What is known of the walker's memory. -/
structure Dec (w : World) (rb : Nat) (a : Option Addr) (n c : Nat) (i : Nat) : Prop where
  line : w.cell? ⟨rb, 0, none⟩ = some (.slice a n c)
  pos : w.cell? ⟨rb, 1, none⟩ = some (.int .i64 i)
  free : w.frozen? ⟨rb, 1, none⟩ = false
  lt : rb < w.heap.size

theorem Dec.drewN {w : World} {rb : Nat} {a : Option Addr} {n c i : Nat} (h : Dec w rb a n c i) (k : Nat) : Dec (w.drewN k) rb a n c i := ⟨h.line, h.pos, h.free, h.lt⟩

theorem Dec.set {w : World} {rb : Nat} {a : Option Addr} {n c i : Nat} (h : Dec w rb a n c i) {v : Value} (j : Nat) (hv : v = .int .i64 j) : Dec (w.setCell ⟨rb, 1, none⟩ v) rb a n c j := by
  subst hv
  have h1 := h.line
  have h2 := h.pos
  have h3 := h.free
  have h4 := h.lt
  refine ⟨by go_simp, by go_simp, by go_simp, by simpa [World.setCell] using h4⟩

theorem Dec.below {w w' : World} {rb : Nat} {a : Option Addr} {n c i : Nat} (h : Dec w rb a n c i) (hb : Below w.heap.size w w') : Dec w' rb a n c i :=
  ⟨(hb.cell (p := ⟨rb, 0, none⟩) h.lt).trans h.line, (hb.cell (p := ⟨rb, 1, none⟩) h.lt).trans h.pos, (hb.frozen (p := ⟨rb, 1, none⟩) h.lt).trans h.free, Nat.lt_of_lt_of_le h.lt hb.size⟩

set_option maxHeartbeats 2000000 in
/-- Next: past the blanks; the byte there, or 0. -/
theorem next_any (rb lb : Nat) (a : Option Addr) (n c i : Nat) (zs : List Int) (w : World) (hl : Line w lb a n zs) (hr : Dec w rb a n c i) (hb : 0 < n → lb < rb) (hn : n ≤ 268435456) (hi : i ≤ n) :
    Calls Try.prog 13 #[.pointer (some ⟨rb, 0, none⟩)] w fun e w' => ∃ j, Skip zs i j ∧ e = .returned (.int .u8 (zs.getD j 0)) ∧ Dec w' rb a n c j ∧ Below rb w w' := by
  have hlen := hl.len
  have HLEN : Hid (zs.length = n) := hlen
  go_enter Try.func13, Try.ntmps13
  go_wp2
  go_loopg [] (n - i) (fun k wr => ∃ j : Nat, i ≤ j ∧ j ≤ n ∧ k = n - j ∧ Dec wr rb a n c j ∧ Below rb w wr ∧ Hid (∀ t, i ≤ t → t < j → sp (zs.getD t 0) = true))
  case atStart => exact ⟨i, Nat.le_refl _, hi, rfl, hr, Below.refl _ _, fun t h1 h2 => by omega⟩
  case round =>
    obtain ⟨j, hij, hjn, hk, hrj, hbj, HS⟩ := hrel
    have hc0 := hrj.line
    have hc1 := hrj.pos
    have hfr := hrj.free
    have HD : Hid (Dec wr rb a n c j) := hrj
    have HB : Hid (Below rb w wr) := hbj
    by_cases hlt : j < n
    · obtain rfl := hl.at_ (by omega)
      have hcj : wr.cell? ⟨lb, j, none⟩ = some (.int .u8 (zs.getD j 0)) := (hbj.cell (p := ⟨lb, j, none⟩) (hb (by omega))).trans (hl.cell j hlt)
      have hlt' : (j : Int) < (n : Int) := by omega
      obtain ⟨z, hz⟩ : ∃ z, z = zs.getD j 0 := ⟨_, rfl⟩
      have HZ : Hid (z = zs.getD j 0) := hz
      rw [← hz] at hcj
      clear hl hr hlen hz hrj hbj
      go_wp2
      go_quiet (fail)
      go_wp2
      go_quiet (fail)
      go_wp2
      all_goals first
        | (go_roundg (n - (j + 1))
           case measure => omega
           case rel =>
             refine ⟨j + 1, by omega, by omega, rfl, (HD.out.drewN _).set (j + 1) (by go_num), (below_drewN HB.out _).setCell (Nat.le_refl _) _, fun t h1 h2 => ?_⟩
             by_cases e : t = j
             · subst e; rw [← HZ.out]; exact sp_of (by simp_all)
             · exact HS.out t h1 (by omega))
        | (go_ret
           exact ⟨j, ⟨hij, by rw [HLEN.out]; omega, HS.out, fun _ => by rw [← HZ.out]; simp_all [sp]⟩, by rw [← HZ.out]; rfl, HD.out.drewN _, below_drewN HB.out _⟩)
    · have hlt' : decide ((j : Int) < (n : Int)) = false := by simp; omega
      have h0 : zs.getD j 0 = 0 := by rw [List.getD, List.getElem?_eq_none (by omega)]; rfl
      have H0 : Hid (zs.getD j 0 = 0) := h0
      clear hl hr hlen h0 hrj hbj
      go_wp2
      go_quiet (fail)
      go_wp2
      go_ret
      exact ⟨j, ⟨hij, by rw [HLEN.out]; omega, HS.out, fun h => absurd h (by rw [HLEN.out]; omega)⟩, by rw [H0.out]; rfl, HD.out.drewN _, below_drewN HB.out _⟩

set_option maxHeartbeats 1000000 in
theorem newWalker_any (a : Option Addr) (n c i : Nat) (w : World) : Calls Try.prog 12 #[.slice a n c, .int .i64 i] w fun e w' => e = .returned (.pointer (some ⟨w.heap.size, 0, none⟩)) ∧ Dec w' w.heap.size a n c i ∧ Below w.heap.size w w' := by
  go_enter Try.func12, Try.ntmps12
  go_wp2
  go_ret
  refine ⟨rfl, ⟨?_, ?_, ?_, ?_⟩, ?_⟩
  · exact World.cell?_alloc_at _ _ _ _ rfl
  · exact World.cell?_alloc_at _ _ _ _ rfl
  · exact World.frozen?_alloc_at _ _ _ _ rfl
  · simp
  · exact (Below.refl _ _).alloc (Nat.le_refl _) _

set_option maxHeartbeats 1000000 in
theorem pos_any (rb : Nat) (a : Option Addr) (n c i : Nat) (w : World) (h : Dec w rb a n c i) : Calls Try.prog 14 #[.pointer (some ⟨rb, 0, none⟩)] w fun e w' => e = .returned (.int .i64 i) ∧ w' = w := by
  have h2 := h.pos
  go_enter Try.func14, Try.ntmps14
  go_wp2
  go_ret
  exact ⟨rfl, rfl⟩

set_option maxHeartbeats 1000000 in
theorem zzBytes_any (a : Option Addr) (n c : Nat) (i : Int) (w : World) : Calls Try.prog 28 #[.slice a n c, .int .i64 i] w fun e w' => e = .returned (.bool (decide (n ≤ 1048576))) ∧ w' = w := by
  by_cases h : n ≤ 1048576
  · have b1 : decide ((1048576 : Int) < (n : Int)) = false := by simp; omega
    rw [show decide (n ≤ 1048576) = true by simpa using h]
    go_enter Try.func28, Try.ntmps28
    go_wp2
    go_ret
    exact ⟨rfl, rfl⟩
  · have b1 : decide ((1048576 : Int) < (n : Int)) = true := by simp; omega
    rw [show decide (n ≤ 1048576) = false by simpa using h]
    go_enter Try.func28, Try.ntmps28
    go_wp2
    go_ret
    exact ⟨rfl, rfl⟩
end Go.Proofs.Qxb6000575a
