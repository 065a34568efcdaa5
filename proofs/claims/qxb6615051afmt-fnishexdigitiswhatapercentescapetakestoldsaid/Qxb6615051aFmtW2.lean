import Derived.Test.Qxb6615051aFmtW1
set_option linter.unusedVariables false
namespace Go.Proofs.Qxb6615051aFmt
open Go.RowKit

set_option maxHeartbeats 1000000 in
theorem zzCheck_any (u v : UInt8) (w : World) : Calls Tryf.prog 10 #[.string (txt u v)] w fun e w' => ((hx u.toNat = true ∧ hx v.toNat = true ∧ e = .returned .nilIface) ∨ ((hx u.toNat && hx v.toNat) = false ∧ ∃ t p, e = .returned (.iface t p))) ∧ Below w.heap.size w w' := by
  go_enter Tryf.func10, Tryf.ntmps10
  go_wp2_with fail
  refine (check_any u v w).mono ?_
  rintro e w1 ⟨⟨h1, h2, rfl⟩ | ⟨h, t, p, rfl⟩, hb⟩
  · have HX : Hid (hx u.toNat = true ∧ hx v.toNat = true) := ⟨h1, h2⟩
    clear h1 h2
    go_wp2
    go_ret
    exact ⟨.inl ⟨HX.out.1, HX.out.2, rfl⟩, hb⟩
  · have HX : Hid ((hx u.toNat && hx v.toNat) = false) := h
    clear h
    go_wp2
    go_ret
    exact ⟨.inr ⟨HX.out, _, _, rfl⟩, hb⟩

set_option maxRecDepth 100000 in
set_option maxHeartbeats 2000000 in
theorem law_any (c1 c2 : Int) (w : World) (a0 : 0 ≤ c1) (a1 : c1 < 256) (b0 : 0 ≤ c2) (b1 : c2 < 256) :
    Calls Tryf.prog 4 #[.int .u8 c1, .int .u8 c2] w fun e w' => e = .returned (.bool true) ∧ Below w.heap.size w w' := by
  obtain ⟨u, rfl⟩ : ∃ u : UInt8, c1 = (u.toNat : Int) := ⟨UInt8.ofNat c1.toNat, by simp; omega⟩
  obtain ⟨v, rfl⟩ : ∃ v : UInt8, c2 = (v.toNat : Int) := ⟨UInt8.ofNat c2.toNat, by simp; omega⟩
  have hS : strOfNums [97, 58, 37, (u.toNat : Int), (v.toNat : Int)] = txt u v := by simp [strOfNums, txt]
  have hconv := run_convert_bytes_arg (P := Tryf.prog) (w.alloc (.cells #[.int .u8 97, .int .u8 58, .int .u8 37, .int .u8 (u.toNat : Int), .int .u8 (v.toNat : Int)] 32)) 34 5 Tryf.underlying34 Tryf.underlying5 w.heap.size 0 5 5 [97, 58, 37, (u.toNat : Int), (v.toNat : Int)] rfl (fun i hi => by
    rw [Nat.zero_add, World.cell?_alloc_at (w := w) _ _ _ i rfl]
    match i, hi with
    | 0, _ => rfl
    | 1, _ => rfl
    | 2, _ => rfl
    | 3, _ => rfl
    | 4, _ => rfl) 9 Tryf.underlying9
  rw [hS] at hconv
  clear hS
  have hbA : Below w.heap.size w (w.alloc (.cells #[.int .u8 97, .int .u8 58, .int .u8 37, .int .u8 (u.toNat : Int), .int .u8 (v.toNat : Int)] 32)) := (Below.refl _ _).alloc (Nat.le_refl _) _
  have HZ := zzCheck_any u v (w.alloc (.cells #[.int .u8 97, .int .u8 58, .int .u8 37, .int .u8 (u.toNat : Int), .int .u8 (v.toNat : Int)] 32))
  go_enter Tryf.func4, Tryf.ntmps4
  go_wp2_with fail
  refine HZ.mono ?_
  clear HZ hconv
  rintro e w1 ⟨hres, hb1⟩
  have hbel := hbA.trans (hb1.mono (by simp))
  clear hbA hb1
  have f1 : hx u.toNat = true ∨ hx u.toNat = false := by cases hx u.toNat <;> simp
  have f2 : hx v.toNat = true ∨ hx v.toNat = false := by cases hx v.toNat <;> simp
  rcases hres with ⟨h1, h2, rfl⟩ | ⟨h, t, p, rfl⟩
  · go_wp2_with fail
    refine (zzIsHex_any _ _ a0 a1).mono ?_
    rintro e w2 ⟨rfl, rfl⟩
    rw [h1]
    go_wp2_with fail
    refine (zzIsHex_any _ _ b0 b1).mono ?_
    rintro e w2 ⟨rfl, rfl⟩
    rw [h2]
    go_wp2_with fail
    refine (zzHex_any _ _ a0 a1).mono ?_
    rintro e w2 ⟨rfl, rfl⟩
    rw [h1]
    go_wp2_with fail
    refine (zzHex_any _ _ b0 b1).mono ?_
    rintro e w2 ⟨rfl, rfl⟩
    rw [h2]
    go_wp2
    go_ret
    exact ⟨rfl, hbel⟩
  · have hcase : ∃ x y : Bool, hx u.toNat = x ∧ hx v.toNat = y ∧ (x && y) = false := ⟨_, _, rfl, rfl, h⟩
    obtain ⟨x, y, h1, h2, h3⟩ := hcase
    have h4 : (x = true ∧ y = false) ∨ x = false := by cases x <;> cases y <;> simp_all
    clear h h3 f1 f2
    rcases h4 with ⟨rfl, rfl⟩ | rfl
    · go_wp2_with fail
      refine (zzIsHex_any _ _ a0 a1).mono ?_
      rintro e w2 ⟨rfl, rfl⟩
      rw [h1]
      go_wp2_with fail
      refine (zzIsHex_any _ _ b0 b1).mono ?_
      rintro e w2 ⟨rfl, rfl⟩
      rw [h2]
      go_wp2_with fail
      refine (zzHex_any _ _ a0 a1).mono ?_
      rintro e w2 ⟨rfl, rfl⟩
      rw [h1]
      go_wp2_with fail
      refine (zzHex_any _ _ b0 b1).mono ?_
      rintro e w2 ⟨rfl, rfl⟩
      rw [h2]
      go_wp2
      go_ret
      exact ⟨rfl, hbel⟩
    · go_wp2_with fail
      refine (zzIsHex_any _ _ a0 a1).mono ?_
      rintro e w2 ⟨rfl, rfl⟩
      rw [h1]
      go_wp2_with fail
      refine (zzIsHex_any _ _ b0 b1).mono ?_
      rintro e w2 ⟨rfl, rfl⟩
      rw [h2]
      go_wp2_with fail
      refine (zzHex_any _ _ a0 a1).mono ?_
      rintro e w2 ⟨rfl, rfl⟩
      rw [h1]
      go_wp2_with fail
      refine (zzHex_any _ _ b0 b1).mono ?_
      rintro e w2 ⟨rfl, rfl⟩
      rw [h2]
      have hyy : (y == y) = true := by simp
      go_wp2
      go_ret
      exact ⟨rfl, hbel⟩
end Go.Proofs.Qxb6615051aFmt
