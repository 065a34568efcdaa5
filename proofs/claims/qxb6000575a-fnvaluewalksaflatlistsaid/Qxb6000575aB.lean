import Derived.Test.Qxb6000575aA
import Derived.Lib.BytesEntry
import Derived.Lib.IndexLaws
set_option linter.unusedVariables false
namespace Go.Proofs.Qxb6000575a
open Go.RowKit

/-- The first quote from i on: at i + m; or none: -1. -/
def First (zs : List Int) (i : Nat) (r : Int) : Prop :=
  (r = -1 ∧ ∀ t, i ≤ t → t < zs.length → zs.getD t 0 ≠ 34) ∨
  ∃ m : Nat, r = m ∧ i + m < zs.length ∧ zs.getD (i + m) 0 = 34 ∧ ∀ t, i ≤ t → t < i + m → zs.getD t 0 ≠ 34

theorem byte_eq {z : Int} (h0 : 0 ≤ z) (h1 : z < 256) : (z.toNat.toUInt8 = (34 : Int).toNat.toUInt8) ↔ z = 34 := by
  constructor
  · intro h
    have h2 := congrArg UInt8.toNat h
    simp at h2
    omega
  · rintro rfl; rfl

theorem first_of (zs : List Int) (i : Nat) (hi : i ≤ zs.length) (hr : ∀ z ∈ zs, 0 ≤ z ∧ z < 256) : First zs i (Lib.indexByte (Lib.bytesOf (zs.drop i)) (34 : Int).toNat.toUInt8) := by
  have hget : ∀ t (h : i + t < zs.length), (Lib.bytesOf (zs.drop i))[t]? = some ((zs.getD (i + t) 0).toNat.toUInt8) := by
    intro t h
    simp [Lib.bytesOf, List.getElem?_drop, List.getElem?_eq_getElem h, List.getD_eq_getElem?_getD]
  have hb : ∀ t (h : t < zs.length), 0 ≤ zs.getD t 0 ∧ zs.getD t 0 < 256 := by
    intro t h
    rw [List.getD_eq_getElem?_getD, List.getElem?_eq_getElem h]
    exact hr _ (List.getElem_mem h)
  have hge := Lib.indexByte_ge (Lib.bytesOf (zs.drop i)) (34 : Int).toNat.toUInt8
  by_cases h : Lib.indexByte (Lib.bytesOf (zs.drop i)) (34 : Int).toNat.toUInt8 = -1
  · left
    refine ⟨h, fun t h1 h2 h3 => ?_⟩
    have := Lib.indexByte_none h (t - i)
    rw [hget (t - i) (by omega), show i + (t - i) = t by omega, h3] at this
    exact this rfl
  · right
    obtain ⟨m, hm⟩ := Int.eq_ofNat_of_zero_le (show 0 ≤ Lib.indexByte (Lib.bytesOf (zs.drop i)) (34 : Int).toNat.toUInt8 by omega)
    obtain ⟨h1, h2⟩ := Lib.indexByte_some hm
    have hlt : i + m < zs.length := by
      rcases Nat.lt_or_ge (i + m) zs.length with h | h
      · exact h
      · rw [List.getElem?_eq_none (by simp [Lib.bytesOf]; omega)] at h1; cases h1
    refine ⟨m, hm, hlt, ?_, fun t h3 h4 h5 => ?_⟩
    · rw [hget m hlt] at h1
      have := hb _ hlt
      exact (byte_eq this.1 this.2).1 (Option.some.inj h1)
    · have := h2 (t - i) (by omega)
      rw [hget (t - i) (by omega), show i + (t - i) = t by omega, h5] at this
      exact this rfl

set_option maxHeartbeats 1000000 in
theorem indexByte_any (b o n c : Nat) (xs : List Int) (cv : Int) (w : World) (hx : xs.length = n)
    (hc : ∀ i, i < n → w.cell? ⟨b, o + i, none⟩ = some (.int .u8 (xs.getD i 0))) :
    Calls Try.prog 32 #[.slice (some ⟨b, o, none⟩) n c, .int .u8 cv] w fun e w' => e = .returned (.int .i64 (Lib.indexByte (Lib.bytesOf xs) cv.toNat.toUInt8)) ∧ w' = w := by
  go_enter Try.func32, Try.ntmps32
  go_wp2
  rw [run_callFunc_extern Try.func33 (by kernel_rfl) (by kernel_rfl) (by kernel_rfl) (e := Extern.BytealgIndexByte.indexByte) (by kernel_rfl), Lib.run_indexByteSlice w b o n c xs hx hc cv]
  simp only [Result.andThen]
  rw [Oper.upon_value]
  go_wp2
  go_ret
  exact ⟨rfl, rfl⟩

set_option maxHeartbeats 1000000 in
theorem indexByte_nil (n c : Nat) (cv : Int) (w : World) :
    Calls Try.prog 32 #[.slice none n c, .int .u8 cv] w fun e w' => e = .returned (.int .i64 (-1)) ∧ w' = w := by
  go_enter Try.func32, Try.ntmps32
  go_wp2
  rw [run_callFunc_extern Try.func33 (by kernel_rfl) (by kernel_rfl) (by kernel_rfl) (e := Extern.BytealgIndexByte.indexByte) (by kernel_rfl), Lib.run_indexByteNil w n c cv]
  simp only [Result.andThen]
  rw [Oper.upon_value]
  go_wp2
  go_ret
  exact ⟨rfl, rfl⟩
end Go.Proofs.Qxb6000575a
