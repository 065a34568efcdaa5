import Derived.Test.Qxb6615051aFmtProg
import Derived.WalkKit
import Derived.WalkSpells
import Derived.Handy
import Derived.WalkLawsBesides
import Derived.BigQuiet
import Derived.Deep.QuietTactic
import Derived.Lib.Bytealg
import Derived.Lib.OthersKept
import Derived.Laws.BytesArg
set_option linter.unusedVariables false
namespace Go.Proofs.Qxb6615051aFmt
open Go.RowKit

/-- A hex digit. -/
def hx (c : Int) : Bool := (decide (48 ≤ c) && decide (c ≤ 57)) || ((decide (97 ≤ c) && decide (c ≤ 102)) || (decide (65 ≤ c) && decide (c ≤ 70)))

theorem ret_bool {a b : Bool} (h : a = b) : Ending.returned (.bool a) = .returned (.bool b) := by rw [h]

theorem isHex_any (c : Int) (w : World) (h0 : 0 ≤ c) (h1 : c < 256) : Calls Tryf.prog 25 #[.int .u8 c] w fun e w' => e = .returned (.bool (hx c)) ∧ w' = w := by
  rcases (show c < 48 ∨ (48 ≤ c ∧ c ≤ 57) ∨ (57 < c ∧ c < 65) ∨ (65 ≤ c ∧ c ≤ 70) ∨ (70 < c ∧ c < 97) ∨ (97 ≤ c ∧ c ≤ 102) ∨ 102 < c from by omega) with h | ⟨h, h'⟩ | ⟨h, h'⟩ | ⟨h, h'⟩ | ⟨h, h'⟩ | ⟨h, h'⟩ | h
  all_goals
    go_enter Tryf.func25, Tryf.ntmps25
    go_wp2
    go_ret
    refine ⟨ret_bool ?_, rfl⟩
    rw [Bool.eq_iff_iff]
    simp [hx]
    try omega

theorem zzIsHex_any (c : Int) (w : World) (h0 : 0 ≤ c) (h1 : c < 256) : Calls Tryf.prog 11 #[.int .u8 c] w fun e w' => e = .returned (.bool (hx c)) ∧ w' = w := by
  go_enter Tryf.func11, Tryf.ntmps11
  go_wp2_with fail
  refine (isHex_any c w h0 h1).mono ?_
  rintro e w1 ⟨rfl, rfl⟩
  go_wp2
  go_ret
  exact ⟨rfl, rfl⟩

theorem zz_tab : ∀ c : Fin 256, (decide (((c.val : Int) - 48) % 256 < 10) || decide ((bits .or .u8 (c.val : Int) 32 - 97) % 256 < 6)) = hx c.val := by decide +kernel

theorem zzHex_any (c : Int) (w : World) (h0 : 0 ≤ c) (h1 : c < 256) : Calls Tryf.prog 12 #[.int .u8 c] w fun e w' => e = .returned (.bool (hx c)) ∧ w' = w := by
  have ht := zz_tab ⟨c.toNat, by omega⟩
  have e0 : ((c.toNat : Nat) : Int) = c := by omega
  simp only [e0] at ht
  have HT : Hid ((decide ((c - 48) % 256 < 10) || decide ((bits .or .u8 c 32 - 97) % 256 < 6)) = hx c) := ht
  clear ht e0
  go_enter Tryf.func12, Tryf.ntmps12
  go_wp2
  all_goals go_ret
  all_goals
    refine ⟨ret_bool ?_, rfl⟩
    first
      | exact HT.out
      | (rw [← HT.out]; done)
      | (rw [← HT.out]; simp [*]; done)
      | (rw [← HT.out]; simp; omega)

theorem call76 (args : Array Value) (w : World) : (callFunc 76 args).run Tryf.prog w = ((Extern.BytealgIndexByte.indexByte args).run Tryf.prog w).andThen fun v w' => .ok (.value v) w' :=
  run_callFunc_extern Tryf.func76 (by kernel_rfl) (by kernel_rfl) (by kernel_rfl) (by kernel_rfl) args w

/-- The text: a colon behind its first byte. -/
def txt (u v : UInt8) : ByteArray := ⟨#[97, 58, 37, u, v]⟩
theorem txt_idx (u v : UInt8) : Lib.indexByte (txt u v).data.toList 58 = 1 := by kernel_rfl
theorem txt_size (u v : UInt8) : (txt u v).size = 5 := by kernel_rfl
theorem txt_head (u v : UInt8) : (txt u v).extract 0 1 = ⟨#[97]⟩ := by kernel_rfl
theorem txt_tail (u v : UInt8) : (txt u v).extract 2 (txt u v).size = ⟨#[37, u, v]⟩ := by kernel_rfl

set_option maxRecDepth 100000 in
set_option maxHeartbeats 1000000 in
theorem index_any (u v : UInt8) (w : World) : Calls Tryf.prog 73 #[.string (txt u v), .string ⟨#[58]⟩] w fun e w' => e = .returned (.int .i64 1) ∧ w' = w := by
  have hc : ∀ ww, (callFunc 76 #[.string (txt u v), .int .u8 58]).run Tryf.prog ww = .ok (.value (.int .i64 1)) ww := fun ww => by
    rw [call76, Lib.run_indexByteString, show (58 : Int).toNat.toUInt8 = 58 from rfl, txt_idx]; rfl
  have hne : ([58] == (txt u v).toList) = false := by rw [ByteArray.toList_eq]; rfl
  have h58 : ∀ h, ((⟨#[58]⟩ : ByteArray)[0]'h).toNat = 58 := fun _ => rfl
  generalize txt u v = T at *
  go_enter Tryf.func73, Tryf.ntmps73
  go_wp2
  go_ret
  exact ⟨rfl, rfl⟩

set_option maxRecDepth 100000 in
set_option maxHeartbeats 1000000 in
theorem cut_any (u v : UInt8) (w : World) : Calls Tryf.prog 34 #[.string (txt u v), .string ⟨#[58]⟩] w fun e w' => e = .returned (.tuple #[.string ⟨#[97]⟩, .string ⟨#[37, u, v]⟩, .bool true]) ∧ ∃ k, w' = w.drewN k := by
  have HH : Hid ((txt u v).extract 0 1 = ⟨#[97]⟩) := txt_head u v
  have HT : Hid ((txt u v).extract 2 (txt u v).size = ⟨#[37, u, v]⟩) := txt_tail u v
  have HI := index_any u v
  have hs : (txt u v).size ≤ 5 := by rw [txt_size]; omega
  have hs2 : 5 ≤ (txt u v).size := by rw [txt_size]; omega
  generalize txt u v = T at *
  go_enter Tryf.func34, Tryf.ntmps34
  go_wp2_with (first | (go_at_call 56; go_in) | (go_at_call 73; refine (HI _).mono ?_; rintro e w1 ⟨rfl, rfl⟩))
  go_quiet (fail)
  go_wp2
  go_returns
  refine ⟨?_, nq, rfl⟩
  rw [← HH.out, ← HT.out]
  rfl

set_option maxHeartbeats 1000000 in
theorem scheme_a (w : World) : Calls Tryf.prog 37 #[.int .i32 97] w fun e w' => e = .returned (.bool false) ∧ w' = w := by
  go_enter Tryf.func37, Tryf.ntmps37
  go_wp2
  go_ret
  exact ⟨rfl, rfl⟩

set_option maxRecDepth 100000 in
set_option maxHeartbeats 1000000 in
theorem contains_any (w : World) : Calls Tryf.prog 36 #[.string ⟨#[97]⟩, .func (.func 37) #[] #[]] w fun e w' => e = .returned (.bool false) ∧ Below w.heap.size w w' := by
  have h0 := World.iter_heap w ⟨#[97]⟩ 0
  have hd : Utf8.decode ⟨#[97]⟩ 0 = (97, 1) := by kernel_rfl
  have n0 := fun ty => Lib.run_next_any_at (P := Tryf.prog) (w.iter ⟨#[97]⟩ 0) w.heap.size ⟨#[97]⟩ 0 ty h0 (by decide)
  rw [hd] at n0
  have h1 := Lib.iterAt_heap (w.iter ⟨#[97]⟩ 0) w.heap.size ⟨#[97]⟩ 0 (0 + 1) h0
  have n1 := fun ty => Lib.run_next_end_at (P := Tryf.prog) ((w.iter ⟨#[97]⟩ 0).iterAt w.heap.size ⟨#[97]⟩ (0 + 1)) w.heap.size ⟨#[97]⟩ (0 + 1) ty h1 (by decide)
  have hb : Below w.heap.size w ((w.iter ⟨#[97]⟩ 0).iterAt w.heap.size ⟨#[97]⟩ (0 + 1)) := Lib.below_iterAt ((Below.refl _ _).alloc (Nat.le_refl _) _) (Nat.le_refl _) _ _
  simp only at n0
  generalize (w.iter ⟨#[97]⟩ 0).iterAt w.heap.size ⟨#[97]⟩ (0 + 1) = W1 at *
  clear h0 h1 hd
  go_enter Tryf.func36, Tryf.ntmps36
  go_wp2_with (first | (go_at_call 57; go_in) | (go_at_call 74; go_in))
  refine wp_loop_rounds 2 ?_
  rw [rounds_succ]
  go_wp2_with (first | (go_at_call 37; refine (scheme_a _).mono ?_; rintro e w1 ⟨rfl, rfl⟩))
  rw [rounds_succ]
  go_wp2
  go_ret
  exact ⟨rfl, hb⟩

theorem rest_size (u v : UInt8) : (⟨#[37, u, v]⟩ : ByteArray).size = 3 := rfl

set_option maxRecDepth 100000 in
set_option maxHeartbeats 2000000 in
theorem check_any (u v : UInt8) (w : World) : Calls Tryf.prog 24 #[.string (txt u v)] w fun e w' => ((hx u.toNat = true ∧ hx v.toNat = true ∧ e = .returned .nilIface) ∨ ((hx u.toNat && hx v.toNat) = false ∧ ∃ t p, e = .returned (.iface t p))) ∧ Below w.heap.size w w' := by
  have hu : (u.toNat : Int) < 256 := by have := u.toNat_lt; omega
  have hv : (v.toNat : Int) < 256 := by have := v.toNat_lt; omega
  have i1 : ∀ h, ((⟨#[97]⟩ : ByteArray)[0]'h).toNat = 97 := fun _ => rfl
  have hR : (⟨#[37, u, v]⟩ : ByteArray).size = 3 := rfl
  have j0 : ∀ h, ((⟨#[37, u, v]⟩ : ByteArray)[0]'h).toNat = 37 := fun _ => rfl
  have j1 : ∀ h, ((⟨#[37, u, v]⟩ : ByteArray)[1]'h).toNat = u.toNat := fun _ => rfl
  have j2 : ∀ h, ((⟨#[37, u, v]⟩ : ByteArray)[2]'h).toNat = v.toNat := fun _ => rfl
  have hne : (⟨#[37, u, v]⟩ : ByteArray).toList.isEmpty = false := by rw [ByteArray.toList_eq]; rfl
  go_enter Tryf.func24, Tryf.ntmps24
  go_wp2_with fail
  refine (cut_any u v w).mono ?_
  rintro e w1 ⟨rfl, k, rfl⟩
  generalize (⟨#[37, u, v]⟩ : ByteArray) = R at *
  go_wp2_with (first | (go_at_call 35; go_in) | fail)
  refine (contains_any _).mono ?_
  rintro e w1 ⟨rfl, hb1⟩
  have hbel : Below w.heap.size w w1 := by
    refine Below.trans ?_ hb1
    exact ⟨rfl, rfl, rfl, Nat.le_refl _, fun _ _ => rfl⟩
  clear hb1
  have hR1 : R.size ≤ 3 := by omega
  have hR2 : 3 ≤ R.size := by omega
  clear hR
  have g0 := fun h => j0 h
  have hu0 : (0 : Int) ≤ u.toNat := by omega
  have hv0 : (0 : Int) ≤ v.toNat := by omega
  cases h1 : hx u.toNat with
  | true =>
    cases h2 : hx v.toNat with
    | true =>
      have HX : Hid (hx u.toNat = true ∧ hx v.toNat = true) := ⟨h1, h2⟩
      go_wp2_with fail
      refine wp_loop_rounds 2 ?_
      rw [rounds_succ]
      go_wp2_with fail
      refine (isHex_any _ _ hu0 hu).mono ?_
      rintro e w3 ⟨rfl, rfl⟩
      rw [h1]
      go_wp2_with fail
      refine (isHex_any _ _ hv0 hv).mono ?_
      rintro e w4 ⟨rfl, rfl⟩
      rw [h2]
      clear h1 h2
      go_wp2
      rw [rounds_succ]
      go_wp2
      go_ret
      exact ⟨.inl ⟨HX.out.1, HX.out.2, rfl⟩, hbel⟩
    | false =>
      have HX : Hid ((hx u.toNat && hx v.toNat) = false) := by show _ = _; rw [h1, h2]; rfl
      go_wp2_with fail
      refine wp_loop_rounds 2 ?_
      rw [rounds_succ]
      go_wp2_with fail
      refine (isHex_any _ _ hu0 hu).mono ?_
      rintro e w3 ⟨rfl, rfl⟩
      rw [h1]
      go_wp2_with fail
      refine (isHex_any _ _ hv0 hv).mono ?_
      rintro e w4 ⟨rfl, rfl⟩
      rw [h2]
      clear h1 h2
      go_wp2
      go_ret
      exact ⟨.inr ⟨HX.out, _, _, rfl⟩, hbel.alloc hbel.size _⟩
  | false =>
    have HX : Hid ((hx u.toNat && hx v.toNat) = false) := by show _ = _; rw [h1]; rfl
    go_wp2_with fail
    refine wp_loop_rounds 2 ?_
    rw [rounds_succ]
    go_wp2_with fail
    refine (isHex_any _ _ hu0 hu).mono ?_
    rintro e w3 ⟨rfl, rfl⟩
    rw [h1]
    clear h1
    go_wp2
    go_ret
    exact ⟨.inr ⟨HX.out, _, _, rfl⟩, hbel.alloc hbel.size _⟩
end Go.Proofs.Qxb6615051aFmt
