import Derived.Test.Qxb6000449aA
set_option linter.unusedVariables false
namespace Go.Proofs.Qxb6000449a
open Go.RowKit

/-- What is known of the decoder's memory. -/
structure Dec (w : World) (rb : Nat) (a : Option Addr) (n c : Nat) (i : Nat) : Prop where
  line : w.cell? ⟨rb, 0, none⟩ = some (.slice a n c)
  pos : w.cell? ⟨rb, 2, none⟩ = some (.int .i64 i)
  free : w.frozen? ⟨rb, 2, none⟩ = false
  lt : rb < w.heap.size

theorem Dec.drewN {w : World} {rb : Nat} {a : Option Addr} {n c i : Nat} (h : Dec w rb a n c i) (k : Nat) : Dec (w.drewN k) rb a n c i := ⟨h.line, h.pos, h.free, h.lt⟩
theorem Dec.drew {w : World} {rb : Nat} {a : Option Addr} {n c i : Nat} (h : Dec w rb a n c i) : Dec w.drew rb a n c i := ⟨h.line, h.pos, h.free, h.lt⟩

theorem Dec.set {w : World} {rb : Nat} {a : Option Addr} {n c i : Nat} (h : Dec w rb a n c i) {v : Value} (j : Nat) (hv : v = .int .i64 j) : Dec (w.setCell ⟨rb, 2, none⟩ v) rb a n c j := by
  subst hv
  have h1 := h.line
  have h2 := h.pos
  have h3 := h.free
  have h4 := h.lt
  refine ⟨by go_simp, by go_simp, by go_simp, by simpa [World.setCell] using h4⟩

set_option maxHeartbeats 1000000 in
theorem decSkip_any (rb lb : Nat) (a : Option Addr) (n c i : Nat) (zs : List Int) (w : World) (hl : Line w lb a n zs) (hr : Dec w rb a n c i) (hb : 0 < n → lb < rb) (hn : n ≤ 1048576) (hi : i ≤ n) :
    Calls Try.prog 28 #[.pointer (some ⟨rb, 0, none⟩)] w fun e w' => e = .returned (.tuple #[]) ∧ ∃ j, Skip zs i j ∧ Dec w' rb a n c j ∧ Below rb w w' := by
  have h1 := hr.line
  have h2 := hr.pos
  have h3 := hr.free
  have HC : ∀ k, Calls Try.prog 34 #[.slice a n c, .int .i64 i] (w.drewN k) fun e w' => ∃ j : Nat, Skip zs i j ∧ e = .returned (.int .i64 j) ∧ w' = w.drewN k := fun k => skip_any lb a n c i zs (w.drewN k) (hl.drewN k) hn hi
  go_enter Try.func28, Try.ntmps28
  go_wp2
  go_region_with (go_at_call 34; refine (HC 1).mono ?_; rintro e w' ⟨j, hsk, rfl, rfl⟩)
  all_goals (
    go_wp2
    go_returns
    refine ⟨rfl, j, hsk, ?_, ?_⟩
    · first | exact (hr.drewN 1).set j rfl | exact (hr.set j rfl).drewN 1
    · have hA : Below rb w (w.drewN 1) := below_drewN (Below.refl _ _) 1
      have hB : Below rb w ((w.drewN 1).setCell ⟨rb, 2, none⟩ (.int .i64 j)) := hA.setCell (p := ⟨rb, 2, none⟩) (Nat.le_refl _) _
      exact hB)

set_option maxHeartbeats 1000000 in
theorem digits_any (rb lb : Nat) (a : Option Addr) (n c i i0 : Nat) (zs : List Int) (w : World) (hl : Line w lb a n zs) (hr : Dec w rb a n c i0) (hn : n ≤ 1048576) (hi : i ≤ n) :
    Calls Try.prog 29 #[.pointer (some ⟨rb, 0, none⟩), .int .i64 i] w fun e w' => ∃ j : Nat, i ≤ j ∧ j ≤ n ∧ (∀ t, i ≤ t → t < j → 48 ≤ zs.getD t 0 ∧ zs.getD t 0 ≤ 57) ∧ (j < n → ¬ (48 ≤ zs.getD j 0 ∧ zs.getD j 0 ≤ 57)) ∧ e = .returned (.int .i64 j) ∧ w' = w := by
  have h1 := hr.line
  go_enter Try.func29, Try.ntmps29
  go_wp2_with fail
  go_loop [1] (fun v => ∃ j : Nat, v = .int .i64 j ∧ i ≤ j ∧ j ≤ n ∧ Hid (∀ t, i ≤ t → t < j → 48 ≤ zs.getD t 0 ∧ zs.getD t 0 ≤ 57)) (fun v => n - (intOf v).toNat)
  case atStart => exact ⟨i, rfl, Nat.le_refl _, hi, fun t h1 h2 => by omega⟩
  case round =>
    obtain ⟨j, rfl, hij, hjn, HS⟩ := hrel
    by_cases hlt : j < n
    · have hc := hl.cell j hlt
      obtain rfl := hl.at_ (by omega)
      obtain ⟨z, hz⟩ : ∃ z, z = zs.getD j 0 := ⟨_, rfl⟩
      have HZ : Hid (z = zs.getD j 0) := hz
      rw [← hz] at hc
      clear hz
      rcases (show z < 48 ∨ (48 ≤ z ∧ z ≤ 57) ∨ (48 ≤ z ∧ 57 < z) by omega) with h | ⟨h, h'⟩ | ⟨h, h'⟩
      · have hd : decide (48 ≤ z) = false := by simp; omega
        go_wp2
        go_ret
        exact ⟨j, hij, hjn, HS.out, fun _ h9 => by have h10 : z = zs[j]?.getD 0 := HZ.out; omega, rfl, rfl⟩
      · go_wp2
        go_round
        case rel =>
          refine ⟨j + 1, by go_num, by omega, by omega, fun t h1 h2 => ?_⟩
          by_cases e : t = j
          · subst e; rw [← HZ.out]; exact ⟨h, h'⟩
          · exact HS.out t h1 (by omega)
        case measure => simp [intOf]; omega
      · have hd : decide (z ≤ 57) = false := by simp; omega
        go_wp2
        go_ret
        exact ⟨j, hij, hjn, HS.out, fun _ h9 => by have h10 : z = zs[j]?.getD 0 := HZ.out; omega, rfl, rfl⟩
    · have b1 : decide ((j : Int) < (n : Int)) = false := by simp; omega
      go_wp2
      go_ret
      exact ⟨j, hij, hjn, HS.out, fun h9 => absurd h9 hlt, rfl, rfl⟩
end Go.Proofs.Qxb6000449a
