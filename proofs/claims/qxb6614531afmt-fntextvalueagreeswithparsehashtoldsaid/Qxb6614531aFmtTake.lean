import Derived.Test.Qxb6614531aFmtSpace
import Derived.Laws.BytesArg
set_option linter.unusedVariables false
namespace Go.Proofs.Qxb6614531aFmt
open Go.RowKit

set_option maxHeartbeats 1000000 in
theorem take_any (rb lb : Nat) (a : Option Addr) (n c i : Nat) (zs : List Int) (x : Int) (w : World) (hl : Line w lb a n zs) (hr : Rdr w rb a n c i) (hb : lb < rb) (hn : n ≤ 1048576) (hi : i ≤ n) :
    Calls Tryf.prog 24 #[.pointer (some ⟨rb, 0, none⟩), .int .u8 x] w fun e w' => ∃ j, Skip zs i j ∧ Below rb w w' ∧
      ((j < n ∧ zs.getD j 0 = x ∧ e = .returned (.bool true) ∧ Rdr w' rb a n c (j + 1)) ∨ ((j < n → zs.getD j 0 ≠ x) ∧ e = .returned (.bool false) ∧ Rdr w' rb a n c j)) := by
  go_enter Tryf.func24, Tryf.ntmps24
  go_wp2_with fail
  refine (space_any rb lb a n c i zs w hl hr hb hn hi).mono ?_
  rintro e w1 ⟨rfl, j, hsk, hr1, hb1⟩
  have hc0 := hr1.line
  have hc1 := hr1.pos
  have hfr := hr1.free
  have hlen := hl.len
  by_cases hlt : j < n
  · obtain rfl := hl.at_ (by omega)
    have hcj : w1.cell? ⟨lb, j, none⟩ = some (.int .u8 (zs.getD j 0)) := (hb1.cell (p := ⟨lb, j, none⟩) hb).trans (hl.cell j hlt)
    have hlt' : (j : Int) < (n : Int) := by omega
    have hd : decide ((j : Int) < (n : Int)) = true := by simpa using hlt
    clear hl hr
    by_cases hx : zs.getD j 0 = x
    · have HX : Hid (zs.getD j 0 = x) := hx
      rw [hx] at hcj
      clear hx
      go_wp2
      go_quiet (fail)
      go_wp2
      go_returns
      exact ⟨j, hsk, (below_drewN hb1 _).setCell (Nat.le_refl _) _, .inl ⟨hlt, HX.out, rfl, (hr1.drewN _).set (j + 1) (by go_num)⟩⟩
    · have hxb : (zs.getD j 0 == x) = false := by simpa using hx
      obtain ⟨y, hy⟩ : ∃ y, y = zs.getD j 0 := ⟨_, rfl⟩
      rw [← hy] at hcj hxb
      have HX : Hid (zs.getD j 0 ≠ x) := hx
      clear hx hy
      go_wp2
      go_quiet (fail)
      go_wp2
      go_returns
      exact ⟨j, hsk, below_drewN hb1 _, .inr ⟨fun _ => HX.out, rfl, hr1.drewN _⟩⟩
  · have hd : decide ((j : Int) < (n : Int)) = false := by simp; omega
    clear hl hr
    go_wp2
    go_quiet (fail)
    go_wp2
    go_returns
    exact ⟨j, hsk, below_drewN hb1 _, .inr ⟨fun h => absurd h hlt, rfl, hr1.drewN _⟩⟩

/-- "null" stands at j. -/
def isNull (zs : List Int) (j : Nat) : Bool := j + 4 ≤ zs.length && (zs.getD j 0 == 110 && zs.getD (j + 1) 0 == 117 && zs.getD (j + 2) 0 == 108 && zs.getD (j + 3) 0 == 108)

theorem ofNat_eq {a : Int} (h0 : 0 ≤ a) (h1 : a < 256) (k : Nat) (hk : k < 256) : (UInt8.ofNat a.toNat = UInt8.ofNat k) ↔ a = k := by
  constructor
  · intro h
    have := congrArg UInt8.toNat h
    simp only [UInt8.toNat_ofNat'] at this
    omega
  · rintro rfl
    simp

theorem null_bytes {a b c d : Int} (ha : 0 ≤ a ∧ a < 256) (hb : 0 ≤ b ∧ b < 256) (hc : 0 ≤ c ∧ c < 256) (hd : 0 ≤ d ∧ d < 256) :
    ((strOfNums [a, b, c, d]).toList == [110, 117, 108, 108]) = (a == 110 && b == 117 && c == 108 && d == 108) := by
  rw [ByteArray.toList_eq, strOfNums_data, Bool.eq_iff_iff]
  have e1 := ofNat_eq ha.1 ha.2 110 (by decide)
  have e2 := ofNat_eq hb.1 hb.2 117 (by decide)
  have e3 := ofNat_eq hc.1 hc.2 108 (by decide)
  have e4 := ofNat_eq hd.1 hd.2 108 (by decide)
  simp at e1 e2 e3 e4
  simp [e1, e2, e3, e4, and_assoc]

theorem Line.byte {w : World} {lb : Nat} {a : Option Addr} {n : Nat} {zs : List Int} (h : Line w lb a n zs) (t : Nat) : 0 ≤ zs.getD t 0 ∧ zs.getD t 0 < 256 := by
  by_cases ht : t < zs.length
  · simp only [List.getD, List.getElem?_eq_getElem ht, Option.getD_some]; exact h.rng _ (List.getElem_mem ht)
  · simp [List.getD, List.getElem?_eq_none (show zs.length ≤ t by omega)]

theorem isNull_of {zs : List Int} {n j : Nat} (hlen : zs.length = n) (hlt : j + 4 ≤ n) (hr : ∀ t, 0 ≤ zs.getD t 0 ∧ zs.getD t 0 < 256) {b : Bool}
    (h : ((strOfNums [zs.getD j 0, zs.getD (j+1) 0, zs.getD (j+2) 0, zs.getD (j+3) 0]).toList == [110, 117, 108, 108]) = b) : isNull zs j = b := by
  rw [null_bytes (hr _) (hr _) (hr _) (hr _)] at h
  have hd : decide (j + 4 ≤ zs.length) = true := decide_eq_true (by omega)
  rw [isNull, h, hd]; rfl

set_option maxHeartbeats 1000000 in
theorem null_any (rb lb : Nat) (a : Option Addr) (n c i : Nat) (zs : List Int) (w : World) (hl : Line w lb a n zs) (hr : Rdr w rb a n c i) (hb : lb < rb) (hn : n ≤ 1048576) (hi : i ≤ n) (hnc : n ≤ c) (hcm : c ≤ maxLen) :
    Calls Tryf.prog 17 #[.pointer (some ⟨rb, 0, none⟩)] w fun e w' => ∃ j, Skip zs i j ∧ Below rb w w' ∧
      ((isNull zs j = true ∧ e = .returned (.bool true) ∧ Rdr w' rb a n c (j + 4)) ∨ (isNull zs j = false ∧ e = .returned (.bool false) ∧ Rdr w' rb a n c j)) := by
  unfold maxLen at hcm
  go_enter Tryf.func17, Tryf.ntmps17
  go_wp2_with fail
  refine (space_any rb lb a n c i zs w hl hr hb hn hi).mono ?_
  rintro e w1 ⟨rfl, j, hsk, hr1, hb1⟩
  have hc0 := hr1.line
  have hc1 := hr1.pos
  have hfr := hr1.free
  have hlen := hl.len
  have hjn : j ≤ n := by have := hsk.le; omega
  by_cases hlt : j + 4 ≤ n
  · obtain rfl := hl.at_ (by omega)
    have hcell : ∀ t, t < 4 → w1.cell? ⟨lb, j + t, none⟩ = some (.int .u8 ([zs.getD j 0, zs.getD (j+1) 0, zs.getD (j+2) 0, zs.getD (j+3) 0].getD t 0)) := by
      intro t ht
      rw [hb1.cell (p := ⟨lb, j + t, none⟩) hb, hl.cell (j + t) (by omega)]
      match t, ht with
      | 0, _ => rfl
      | 1, _ => rfl
      | 2, _ => rfl
      | 3, _ => rfl
    have hconv := fun cap k => run_convert_bytes_arg (P := Tryf.prog) (w1.drewN k) 22 5 Tryf.underlying22 Tryf.underlying5 lb j 4 cap [zs.getD j 0, zs.getD (j+1) 0, zs.getD (j+2) 0, zs.getD (j+3) 0] rfl hcell 9 Tryf.underlying9
    have h1 : (4 : Int) ≤ (n : Int) - (j : Int) := by omega
    have hd : decide ((4 : Int) ≤ (n : Int) - (j : Int)) = true := by simpa using h1
    have HB : Hid (∀ t, 0 ≤ zs.getD t 0 ∧ zs.getD t 0 < 256) := hl.byte
    clear hl hr
    have HE : Hid (∀ b, ((strOfNums [zs.getD j 0, zs.getD (j+1) 0, zs.getD (j+2) 0, zs.getD (j+3) 0]).toList == [110, 117, 108, 108]) = b → isNull zs j = b) := fun b h => isNull_of hlen hlt HB.out h
    generalize zs.getD j 0 = x0 at *
    generalize zs.getD (j+1) 0 = x1 at *
    generalize zs.getD (j+2) 0 = x2 at *
    generalize zs.getD (j+3) 0 = x3 at *
    clear hcell
    go_wp2
    go_quiet (fail)
    go_wp2
    all_goals go_returns
    · exact ⟨j, hsk, (below_drewN hb1 _).setCell (Nat.le_refl _) _, .inl ⟨HE.out _ (by assumption), rfl, (hr1.drewN _).set (j + 4) (by go_num)⟩⟩
    · exact ⟨j, hsk, below_drewN hb1 _, .inr ⟨HE.out _ (by assumption), rfl, hr1.drewN _⟩⟩
  · have hd : decide ((4 : Int) ≤ (n : Int) - (j : Int)) = false := by simp; omega
    clear hl hr
    go_wp2
    go_quiet (fail)
    go_wp2
    go_returns
    exact ⟨j, hsk, below_drewN hb1 _, .inr ⟨by simp [isNull]; omega, rfl, hr1.drewN _⟩⟩
end Go.Proofs.Qxb6614531aFmt
