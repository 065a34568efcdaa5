import Derived.Test.Qxb6614531aFmtLaw
import Derived.Test.Qxb6614531aFmtOpen
import Derived.Test.Qxb6614531aFmtTie
import Derived.Test.Qxb6614531aFmtCards
import Derived.ProofKit
import Derived.OpenShut
import Derived.RowKitTokens
import Derived.Stop.JoinedAt
import Derived.Stop.Texts
import Derived.Stop.JoinedTold
import Derived.Stop.LaidErr
import Derived.SevenTiedAt
import Derived.WalkSmall
set_option linter.unusedVariables false
namespace Go.Proofs.Qxb6614531aFmt
open Go.ChangeShapes Go.WideShapes Go.ChangeAt Go.RowKit Go.Kit
open Go.Extern.Stop Go.Stop Go.Extern

theorem own : ownKnob Tryf.prog.godebug = none := by kernel_rfl
theorem laidOut : laidOutB Tryf.prog = true := by kernel_rfl
theorem laidOutP : laidOutB Tryf.pinned.checked.prog = true := by kernel_rfl
theorem stopKnobs : Tryf.pinned.checked.prog.stopKnobs = [] := by kernel_rfl
theorem quietAll (os : Os) : Stop.quiet Tryf.pinned.checked.prog os := by
  intro k hk
  rw [stopKnobs] at hk
  cases hk
theorem cells68 : Tryf.prog.cellsOf 68 = 1 := by kernel_rfl
theorem cells9 : Tryf.prog.cellsOf 9 = 1 := by kernel_rfl
/-- The error type's name, as the row lists it. -/
def errName : String := match (Rows.laid_encoding_hex_ErrLength : DataW Unit) with
  | .iface n _ => n
  | _ => ""
theorem row66 (u : TypeId) (h : Tryf.prog.typeName? 3 u = some errName) : u = 66 :=
  typeName_ptr_named (nm := "errors.errorString") (by kernel_rfl) (by kernel_rfl) (by decide) u (h.trans (by kernel_rfl))

/-! ### One start that fits: the two errors as their initialisers lay them -/
def lenS : ByteArray := { data := #[101, 110, 99, 111, 100, 105, 110, 103, 47, 104, 101, 120, 58, 32, 111, 100, 100, 32, 108, 101, 110, 103, 116, 104, 32, 104, 101, 120, 32, 115, 116, 114, 105, 110, 103] }
def formS : ByteArray := { data := #[97, 32, 104, 97, 115, 104, 32, 109, 117, 115, 116, 32, 98, 101, 32, 34, 115, 104, 97, 50, 53, 54, 58, 34, 32, 97, 110, 100, 32, 54, 52, 32, 108, 111, 119, 101, 114, 99, 97, 115, 101, 32, 104, 101, 120, 32, 100, 105, 103, 105, 116, 115] }
def lowOf (P : Program) : Nat := (World.holding P default ⟨#[], #[], []⟩).heap.size
def layW (P : Program) (os : Os) : World :=
  let w0 := World.holding P os ⟨#[.cells #[.string lenS] 68, .cells #[.string formS] 68], #[], []⟩
  { w0 with heap := (w0.heap.modify 1 fun
      | .cells _ t frozen => .cells #[.iface 66 (.pointer (some ⟨lowOf P, 0, none⟩))] t frozen
      | o => o).modify 0 fun
      | .cells _ t frozen => .cells #[.iface 66 (.pointer (some ⟨lowOf P + 1, 0, none⟩))] t frozen
      | o => o }
theorem laid_met (os : Os) (args : Array Value) : laidMet Tryf.prog Rows.fnTextValueAgreesWithParseHashRow.laid ((layW Tryf.prog os).forCall (fun _ _ => 0) ⟨#[], args, []⟩).memory :=
  laidMet_of_run (ps := [.cell 1 0, .cell (lowOf Tryf.prog) 0, .cell 0 0, .cell (lowOf Tryf.prog + 1) 0]) 8 (by kernel_rfl) (by kernel_rfl) (by kernel_rfl)

/-- The listed variable's name, as the row lists it. -/
def varName : String := Rows.fnTextValueAgreesWithParseHashSpec.vars.headD ""
theorem gName : Tryf.prog.globalNamed varName = some 0 := by kernel_rfl
theorem gType : (Tryf.prog.globals[0]?).map (·.type) = some 28 := by kernel_rfl

set_option maxRecDepth 100000 in
theorem t_lifted (os : Os) (started : os.Started) (H : Type) (enc : TypeId × Value → H) :
    ReturnsInTold none {} Tryf.checked os 3 .any Input.okWide ((OpenSpec.ofChange Rows.fnTextValueAgreesWithParseHashSpec).preRow enc Tryf.prog Tryf.f3 [] false Rows.fnTextValueAgreesWithParseHashRow.laid) (fun F => ((OpenSpec.ofChange Rows.fnTextValueAgreesWithParseHashSpec).at F).post enc Tryf.prog Tryf.f3 false true false false) (aloneAtReturn Tryf.prog) nothingAlways := by
  refine returnsInTold_of_row (C := Tryf.checked) (s := OpenSpec.ofChange Rows.fnTextValueAgreesWithParseHashSpec) (by kernel_rfl) own started (by kernel_rfl) Tryf.func3
    (OpenSpec.witness_stopped_at (enc := enc) (C := Tryf.checked) false (layW Tryf.prog os) #[.slice none 0 0, .int .i64 0, .agg (u8s z32)] rfl (by kernel_rfl) (by kernel_rfl) (by kernel_rfl)
      (OpenSpec.preRow_of_B rfl 8 (by kernel_rfl) (by kernel_rfl) (laid_met os _))) ?_
  intro F W base args ds gs before _ hF hval0 hW _ _ _ hL _
  have hval : ∀ (j : Nat) t v, Tryf.f3.params[j]? = some t → args[j]? = some v → Value.okWide Tryf.prog W .any base t v := hval0
  have hW' := hW
  obtain ⟨p, q, hA0, hV0, rfl, hfz, hnd⟩ := hW
  have hA : DataW.TrodAll enc Tryf.prog W 0 (fun _ => true) true Tryf.f3.params.toList args.toList ds p := hA0
  have hV : DataW.TrodVars enc Tryf.prog W (fun _ => true) [varName] gs q := hV0
  rw [Tryf.params3] at hA hval
  obtain ⟨v0, vs0, d0, ds0, p0, q0, hargs, rfl, rfl, h0, r0⟩ := trodAll_cons hA
  obtain ⟨v1, vs1, d1, ds1, p1, q1, rfl, rfl, rfl, h1, r1⟩ := trodAll_cons r0
  obtain ⟨v2, vs2, d2, ds2, p2, q2, rfl, rfl, rfl, h2, r2⟩ := trodAll_cons r1
  obtain ⟨rfl, rfl, rfl⟩ := trodAll_nil r2
  obtain rfl : args = #[v0, v1, v2] := by cases args; simp_all
  obtain ⟨a0, s0, hv0, hc0, hs0, hz0⟩ := laid_sentinel hL.tail gName gType Tryf.underlying28 row66 Tryf.underlying66 Tryf.underlying68 rfl rfl Tryf.underlying9 cells68 cells9
  obtain ⟨rfl, rfl⟩ := hV.unique (vars_read1 enc gName gType Tryf.underlying28 hv0 trivial _)
  have hg0 : W.cell? ⟨0, 0, none⟩ = some (.iface 66 (.pointer (some a0))) := by simpa using World.var?_cell gName hv0 0
  obtain ⟨a, len, cap, rfl⟩ := okWide_slice Tryf.underlying22 (hval 0 22 v0 rfl rfl)
  have k0 := h0
  have k2 := h2
  have lt0 : ∀ x ∈ p0, x.block < W.heap.size := by obtain ⟨m, hm⟩ := k0; exact DataW.trod_lt m _ _ _ hm
  have lt2 : ∀ x ∈ p2, x.block < W.heap.size := by obtain ⟨m, hm⟩ := k2; exact DataW.trod_lt m _ _ _ hm
  obtain ⟨zs, hrow⟩ : ∃ zs, IsRow W a len cap zs := by
    obtain ⟨fuel, hf⟩ := h0
    rcases open_ints Tryf.underlying22 Tryf.underlying5 (by kernel_rfl) hf with ⟨hcs, _⟩ | ⟨x, l, c, zs, hcs, _, hl, hm, hz, _, hcell, hwz⟩
    · simp [Value.cells] at hcs
      obtain ⟨rfl, rfl, rfl⟩ := hcs
      exact ⟨[], .inl ⟨rfl, rfl, rfl, rfl⟩⟩
    · simp [Value.cells] at hcs
      obtain ⟨rfl, rfl, rfl⟩ := hcs
      exact ⟨zs, .inr ⟨_, rfl, hl, hm, by simpa using hz, hcell, hwz⟩⟩
  obtain ⟨i, rfl, rfl, rfl, w1⟩ := open_int Tryf.underlying3 (hval 1 3 v1 rfl rfl) h1
  obtain ⟨lo, rfl, hlo⟩ := open_hash (hval 2 23 v2 rfl rfl) h2
  have hib : -9223372036854775808 ≤ i ∧ i ≤ 9223372036854775807 := by
    have e1 : IntKind.i64.min = -9223372036854775808 := rfl
    have e2 : IntKind.i64.max = 9223372036854775807 := rfl
    simp [Lit.wf, e1, e2] at w1
    omega
  clear hA0 hV0 hval0
  refine (law_any F.told a len cap zs i lo a0 s0 W hF hrow hib.1 hib.2 hlo hg0 hc0).mono fun e W' ⟨he, bel⟩ => ?_
  subst he
  refine ⟨_, rfl, _, _, _, [], p0 ++ ([] ++ (p2 ++ [])), [.cell 0 0], hW', trodAll_mk1 (shut_bool Tryf.underlying4 _), ?_, ?_, bel.frame _, fun h => by cases h⟩
  · exact trodAll_cons_mk (Below.trod laidOut (by kernel_rfl) (of_decide_eq_true (by kernel_rfl)) k0 bel lt0) (trodAll_cons_mk (shut_int Tryf.underlying3 w1) (trodAll_cons_mk (Below.trod laidOut (by kernel_rfl) (of_decide_eq_true (by kernel_rfl)) k2 bel lt2) trodAll_mk0))
  · exact vars_read1 enc gName gType Tryf.underlying28 (var?_below bel gName (World.block_lt_of_cell? _ _ hg0) hv0) trivial _

theorem card_holds : Rows.FnTextValueAgreesWithParseHashToldSaid :=
  Claim7.holds_of_told_tied_any_at .later 3 Tryf.f3 _ _ [] (true, "473a6e4b41dc6a6ae709ff16da8fd78459c16e8b34f2d85d62434f8915d42768") false false [.called, .called] true (by kernel_rfl) rfl rfl rfl laidOutP (by kernel_rfl) rfl ⟨rfl, rfl, rfl, rfl, rfl, rfl, rfl⟩ rfl rfl (by kernel_rfl) (by kernel_rfl) Tryf.func3 (by kernel_rfl)
    (of_decide_eq_true (by kernel_rfl)) (of_decide_eq_true (by kernel_rfl)) (by kernel_rfl) rfl stopKnobs.symm (by kernel_rfl)
    (by kernel_rfl) (by kernel_rfl) (by kernel_rfl) (by kernel_rfl) (by kernel_rfl) (by kernel_rfl) (by kernel_rfl) (by kernel_rfl) (by kernel_rfl) rfl (by kernel_rfl) rfl rfl
    rfl rfl
    rfl (by kernel_rfl) (by kernel_rfl) (by kernel_rfl) (by decide) (by kernel_rfl) fnTextValueAgreesWithParseHash_row_tie
    (OpenClaim.moreEntering_of (by kernel_rfl) (by kernel_rfl) (by kernel_rfl) (by kernel_rfl) (by kernel_rfl) (by kernel_rfl) (by kernel_rfl) (by kernel_rfl) (by kernel_rfl) (by kernel_rfl))
    ⟨_, WideRow.started_initial, quietAll _⟩
    (fun os started _ H enc _ => t_lifted os started H enc)

#print axioms card_holds
end Go.Proofs.Qxb6614531aFmt
