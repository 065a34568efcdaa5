/-
  The proof of Rows.FnValueWalksAFlatListSaid: the frame turned from the sister statement's given shell to a []string, an []int64, an []uint8 and an int; the walk: Qxb6000575aR's flat_any.
-/
import Derived.Test.Qxb6000575aRows
import Derived.Test.Qxb6000575aR
import Derived.SliceStrings
import Derived.WalkKit
import Derived.ProofKit
import Derived.OpenShut
import Derived.ShutString
import Derived.ChangeOld
import Derived.Below
namespace Go.Proofs.Qxb6000575a.fnValueWalksAFlatList
open Go.ChangeShapes Go.WideShapes Go.ChangeAt Go.RowKit
open Go.ChangeMaps (open_string shut_string)
set_option linter.unusedVariables false

theorem own : ownKnob Try.prog.godebug = none := by kernel_rfl
theorem laidOut : laidOutB Try.prog = true := by kernel_rfl

/-- What the walk is told of the strings that came in. -/
theorem strs_of (W : World) (x : Addr) (len : Nat) (ss : List ByteArray) (hlen : len ≤ ss.length) (hcell : ∀ i, i < ss.length → W.cell? (x.add i) = some (.string (ss.getD i ByteArray.empty))) (hsz : ∀ s ∈ ss, s.size ≤ maxLen) :
    ∃ b off, Strs W b off (some x) len (fun i => ss.getD i ByteArray.empty) := by
  by_cases h0 : 0 < len
  · obtain ⟨b, off, spot⟩ := x
    have hspot : spot = none := by simpa [Addr.add] using World.cell?_spot (hcell 0 (by omega))
    subst hspot
    refine ⟨b, off, fun _ => rfl, fun t ht => ?_, fun t ht => ?_⟩
    · rw [← Go.WideShapes.add_plain]; exact hcell t (by omega)
    · have hlt : t < ss.length := by omega
      show (ss.getD t ByteArray.empty).size ≤ maxLen
      rw [List.getD_eq_getElem?_getD, List.getElem?_eq_getElem hlt]
      exact hsz _ (List.getElem_mem hlt)
  · exact ⟨0, 0, fun h => absurd h h0, fun t ht => by omega, fun t ht => by omega⟩

/-- What the walk is told of a slice of numbers that came in. -/
theorem ints_of (k : IntKind) (W : World) (x : Addr) (len : Nat) (zs : List Int) (hlen : len ≤ zs.length) (hcell : ∀ i, i < zs.length → W.cell? (x.add i) = some (.int k (zs.getD i 0))) (hwf : ∀ z ∈ zs, (Lit.int k z).wf = true) :
    ∃ b off, Ints k W b off (some x) len (fun i => zs.getD i 0) := by
  by_cases h0 : 0 < len
  · obtain ⟨b, off, rfl, hc⟩ := ints_at hcell (by omega)
    refine ⟨b, off, fun _ => rfl, fun t ht => hc t (by omega), fun t ht => ?_⟩
    have hlt : t < zs.length := by omega
    show (Lit.int k (zs.getD t 0)).wf = true
    rw [List.getD_eq_getElem?_getD, List.getElem?_eq_getElem hlt]
    exact hwf _ (List.getElem_mem hlt)
  · exact ⟨0, 0, fun h => absurd h h0, fun t ht => by omega, fun t ht => by omega⟩

/-! ### THE ROW's STEP: WRITTEN OUT: LEAVE IT -/
set_option maxRecDepth 100000 in
theorem lifted (os : Os) (started : os.Started) (H : Type) (enc : TypeId × Value → H) :
    ReturnsInHanded {} Try.checked os 8 .any (Rows.fnValueWalksAFlatListSpec.pre6 enc Try.prog Try.f8 Rows.fnValueWalksAFlatListRow.domain false) (Rows.fnValueWalksAFlatListSpec.post enc Try.prog Try.f8 false true false false) := by
  refine returnsInHanded_of_change (C := Try.checked) own started (by kernel_rfl) Try.func8
    (ChangeSpec.witness6 (enc := enc) (C := Try.checked) false ⟨#[], #[.slice none 0 0, .slice none 0 0, .slice none 0 0, .int .i64 0], []⟩ 8 (by kernel_rfl) (by kernel_rfl) (by kernel_rfl) (by kernel_rfl)) ?_
  intro W base args ds gs before hval0 hW hcnd _
  have hval : ∀ (j : Nat) t v, Try.f8.params[j]? = some t → args[j]? = some v → Value.okWide Try.prog W .any base t v := hval0
  have hW' := hW
  obtain ⟨p, q, hA0, hV, rfl, hfz, hnd⟩ := hW
  have hA : DataW.TrodAll enc Try.prog W 0 (fun _ => true) true Try.f8.params.toList args.toList ds p := hA0
  rw [Try.params8] at hA hval
  obtain ⟨v0, vs0, d0, ds0, p0, q0, hargs, rfl, rfl, h0, r0⟩ := trodAll_cons hA
  obtain ⟨v1, vs1, d1, ds1, p1, q1, rfl, rfl, rfl, h1, r1⟩ := trodAll_cons r0
  obtain ⟨v2, vs2, d2, ds2, p2, q2, rfl, rfl, rfl, h2, r2⟩ := trodAll_cons r1
  obtain ⟨v3, vs3, d3, ds3, p3, q3, rfl, rfl, rfl, h3, r3⟩ := trodAll_cons r2
  obtain ⟨rfl, rfl, rfl⟩ := trodAll_nil r3
  obtain rfl : args = #[v0, v1, v2, v3] := by cases args; simp_all
  obtain ⟨rfl, rfl⟩ := trodVars_none hV
  obtain ⟨a0, len0, cap0, rfl⟩ := okWide_slice Try.underlying33 (hval 0 33 v0 rfl rfl)
  have k0 := h0
  have lt0 : ∀ x ∈ p0, x.block < W.heap.size := by obtain ⟨m, hm⟩ := k0; exact DataW.trod_lt m _ _ _ hm
  obtain ⟨b, off, f, w0, hln⟩ : ∃ b off f, Strs W b off a0 len0 f ∧ len0 ≤ maxLen := by
    obtain ⟨fuel, hf⟩ := h0
    rcases open_strings Try.underlying33 Try.underlying9 (by kernel_rfl) hf with ⟨hcs, _⟩ | ⟨x, l, c, ss, hcs, _, hl, hm, hz, _, hcell, hwz⟩
    · simp [Value.cells] at hcs
      obtain ⟨rfl, rfl, rfl⟩ := hcs
      exact ⟨0, 0, fun _ => ByteArray.empty, ⟨fun h => absurd h (by omega), fun t h => by omega, fun t h => by omega⟩, Nat.zero_le _⟩
    · simp [Value.cells] at hcs
      obtain ⟨rfl, rfl, rfl⟩ := hcs
      have hz' : ss.length = cap0 := by simpa using hz
      obtain ⟨b, off, hs⟩ := strs_of W x len0 ss (by omega) hcell hwz
      exact ⟨b, off, _, hs, Nat.le_trans hl hm⟩
  obtain ⟨a1, len1, cap1, rfl⟩ := okWide_slice Try.underlying39 (hval 1 39 v1 rfl rfl)
  have k1 := h1
  have lt1 : ∀ x ∈ p1, x.block < W.heap.size := by obtain ⟨m, hm⟩ := k1; exact DataW.trod_lt m _ _ _ hm
  obtain ⟨b1, off1, f1, w1, hln1⟩ : ∃ b off f, Ints .i64 W b off a1 len1 f ∧ len1 ≤ maxLen := by
    obtain ⟨fuel, hf⟩ := h1
    rcases open_ints Try.underlying39 Try.underlying2 (by kernel_rfl) hf with ⟨hcs, _⟩ | ⟨x, l, c, zs, hcs, _, hl, hm, hz, _, hcell, hwz⟩
    · simp [Value.cells] at hcs
      obtain ⟨rfl, rfl, rfl⟩ := hcs
      exact ⟨0, 0, fun _ => 0, ⟨fun h => absurd h (by omega), fun t h => by omega, fun t h => by omega⟩, Nat.zero_le _⟩
    · simp [Value.cells] at hcs
      obtain ⟨rfl, rfl, rfl⟩ := hcs
      have hz' : zs.length = cap1 := by simpa using hz
      obtain ⟨b, off, hs⟩ := ints_of .i64 W x len1 zs (by omega) hcell hwz
      exact ⟨b, off, _, hs, Nat.le_trans hl hm⟩
  obtain ⟨a2, len2, cap2, rfl⟩ := okWide_slice Try.underlying22 (hval 2 22 v2 rfl rfl)
  have k2 := h2
  have lt2 : ∀ x ∈ p2, x.block < W.heap.size := by obtain ⟨m, hm⟩ := k2; exact DataW.trod_lt m _ _ _ hm
  obtain ⟨b2, off2, f2, w2, hln2⟩ : ∃ b off f, Ints .u8 W b off a2 len2 f ∧ len2 ≤ maxLen := by
    obtain ⟨fuel, hf⟩ := h2
    rcases open_ints Try.underlying22 Try.underlying5 (by kernel_rfl) hf with ⟨hcs, _⟩ | ⟨x, l, c, zs, hcs, _, hl, hm, hz, _, hcell, hwz⟩
    · simp [Value.cells] at hcs
      obtain ⟨rfl, rfl, rfl⟩ := hcs
      exact ⟨0, 0, fun _ => 0, ⟨fun h => absurd h (by omega), fun t h => by omega, fun t h => by omega⟩, Nat.zero_le _⟩
    · simp [Value.cells] at hcs
      obtain ⟨rfl, rfl, rfl⟩ := hcs
      have hz' : zs.length = cap2 := by simpa using hz
      obtain ⟨b, off, hs⟩ := ints_of .u8 W x len2 zs (by omega) hcell hwz
      exact ⟨b, off, _, hs, Nat.le_trans hl hm⟩
  obtain ⟨a3, rfl, rfl, rfl, w3⟩ := open_int Try.underlying3 (hval 3 3 v3 rfl rfl) h3
  clear hA0 hval0
  refine (flat_any b off a0 len0 cap0 f b1 off1 a1 len1 cap1 f1 b2 off2 a2 len2 cap2 f2 a3 W w0 w1 w2 hln hln1 hln2).mono fun e W' ⟨he, bel⟩ => ?_
  subst he
  exact ⟨_, rfl, _, _, _, [], _, [], hW', trodAll_mk1 (shut_bool Try.underlying4 _), (trodAll_cons_mk (Below.trod laidOut (by kernel_rfl) (of_decide_eq_true (by kernel_rfl)) k0 bel lt0) (trodAll_cons_mk (Below.trod laidOut (by kernel_rfl) (of_decide_eq_true (by kernel_rfl)) k1 bel lt1) (trodAll_cons_mk (Below.trod laidOut (by kernel_rfl) (of_decide_eq_true (by kernel_rfl)) k2 bel lt2) (trodAll_cons_mk (shut_int Try.underlying3 w3) trodAll_mk0)))), rfl, bel.frame _, fun h => by cases h⟩

theorem over : Rows.fnValueWalksAFlatListRow.holds Try.pinned (OpenSpec.ofChange Rows.fnValueWalksAFlatListSpec) :=
  OpenClaim.holds_of_wide 8 Try.f8 rfl rfl rfl rfl rfl rfl rfl ⟨rfl, rfl, rfl, rfl, rfl⟩ rfl rfl rfl rfl rfl (by kernel_rfl) Try.func8 (by kernel_rfl)
    (of_decide_eq_true (by kernel_rfl)) (by unfold Func.isWrapper; first | (rw [if_pos (by decide +kernel)]; kernel_rfl) | (rw [if_neg (by decide +kernel)]; exact ⟨rfl, rfl⟩))
    (fun os started H enc _ => lifted os started H enc)

/-- ████ THE STATEMENT ████ -/
theorem proved : Rows.FnValueWalksAFlatListSaid := over
#print axioms proved
end Go.Proofs.Qxb6000575a.fnValueWalksAFlatList
