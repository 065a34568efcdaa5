import Derived.Test.Qxb6614531aFmtHex
import Derived.Test.Qxb6614531aFmtRows
import Derived.ProofKit
import Derived.OpenShut
set_option linter.unusedVariables false
namespace Go.Proofs.Qxb6614531aFmt
open Go.ChangeShapes Go.WideShapes Go.ChangeAt Go.RowKit

theorem ints_of {cs : List Value} (h : ∀ i, i < cs.length → ∃ x, cs[i]? = some (.int .u8 x)) : ∃ lo : List Int, cs = lo.map (Value.int .u8) := by
  induction cs with
  | nil => exact ⟨[], rfl⟩
  | cons c cs ih =>
    obtain ⟨x, hx⟩ := h 0 (by simp)
    obtain ⟨lo, hlo⟩ := ih (fun i hi => by simpa using h (i + 1) (by simpa using hi))
    simp at hx
    exact ⟨x :: lo, by rw [hx, hlo]; rfl⟩

/-- The array argument. -/
theorem open_hash {H : Type} {enc : TypeId × Value → H} {W : World} {b base : Nat} {sp : Nat → Bool} {held : Bool} {v : Value} {d : DataW H} {p : List MemPlace}
    (hv : Value.okWide Tryf.prog W .any base 23 v) (h : DataW.Trod enc Tryf.prog W b sp held 23 v d p) : ∃ lo : List Int, v = .agg (u8s lo) ∧ lo.length = 32 := by
  have c23 : Tryf.prog.cellsOf 23 = 32 := by kernel_rfl
  have c5 : Tryf.prog.cellsOf 5 = 1 := by kernel_rfl
  obtain ⟨cs, rfl, hsz, _⟩ : ∃ cs, v = .agg cs ∧ cs.size = Tryf.prog.cellsOf 23 ∧ Row.okWide Tryf.prog W .any base 23 cs := by
    simpa [Value.okWide, Tryf.underlying23] using hv
  rw [c23] at hsz
  obtain ⟨l⟩ := cs
  obtain ⟨fuel, hf⟩ := h
  obtain ⟨xs, m, _, _, _, hxl, hel⟩ := DataW.trod_array Tryf.underlying23 hf
  have hl : l.length = 32 := by simpa using hsz
  obtain ⟨lo, hlo⟩ := ints_of (cs := l) (fun i hi => by
    have h1 := hel i (by omega)
    rw [c5, List.getElem?_eq_getElem (show i < xs.length by omega)] at h1
    obtain ⟨x, e0, _, _⟩ := DataW.trod_int Tryf.underlying5 h1
    refine ⟨x, ?_⟩
    simp only [Value.cells, Nat.mul_one] at e0
    rw [List.drop_eq_getElem_cons hi, List.take_succ_cons, List.take_zero] at e0
    injection e0 with e0
    rw [List.getElem?_eq_getElem hi, e0])
  exact ⟨lo, by rw [hlo]; rfl, by rw [hlo] at hl; simpa using hl⟩
end Go.Proofs.Qxb6614531aFmt
