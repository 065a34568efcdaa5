import Derived.Test.Qxb6000575aA
import Derived.Lib.SliceRun
import Derived.OpenShut
set_option linter.unusedVariables false
namespace Go.Proofs.Qxb6000575a
open Go.RowKit

theorem info5 : (Try.prog.info? 5).map (fun i => (i.zero, i.size, i.bytes)) = some (some (.int .u8 0), 1, 1) := by kernel_rfl

/-- The slice that came in. -/
def IsRow (k : IntKind) (w : World) (a : Option Addr) (len cap : Nat) (zs : List Int) : Prop :=
  (a = none ∧ len = 0 ∧ cap = 0 ∧ zs = []) ∨
  ∃ x, a = some x ∧ len ≤ cap ∧ cap ≤ maxLen ∧ zs.length = cap ∧ (∀ i, i < zs.length → w.cell? (x.add i) = some (.int k (zs.getD i 0))) ∧ ∀ n ∈ zs, (Lit.int k n).wf = true

theorem made {w' : World} {base g n : Nat} {xs : List Value} (h : w'.ownsRow base 5 1 (.slice (some ⟨g, 0, none⟩) n n) n xs) : ∃ cur : Array Value, cur.size = n ∧ w'.heap[g]? = some (.cells cur 5 (0, 0)) := by
  obtain ⟨_, h | ⟨g', cap, cur, hv, _, hh, _, _, hsz, _⟩⟩ := h
  · cases h.1
  · cases hv
    exact ⟨cur, by omega, hh⟩

theorem cell_of_block {w : World} {g : Nat} {cs : Array Value} {t : TypeId} {fr : Nat × Nat} (h : w.heap[g]? = some (.cells cs t fr)) (j : Nat) : w.cell? ⟨g, j, none⟩ = cs[j]? := by simp [World.cell?, h]
theorem free_of_block {w : World} {g : Nat} {cs : Array Value} {t : TypeId} (h : w.heap[g]? = some (.cells cs t (0, 0))) (j : Nat) : w.frozen? ⟨g, j, none⟩ = false := by simp [World.frozen?, h]
theorem block_setCell {w : World} {g : Nat} {cs : Array Value} {t : TypeId} {fr : Nat × Nat} (h : w.heap[g]? = some (.cells cs t fr)) (j : Nat) (u : Value) : (w.setCell ⟨g, j, none⟩ u).heap[g]? = some (.cells (cs.setIfInBounds j u) t fr) := by
  have hlt := lt_of_block h
  have h' : w.heap[g] = .cells cs t fr := by simpa [Array.getElem?_eq_getElem hlt] using h
  show (w.heap.modify g _)[g]? = _
  rw [Array.getElem?_eq_getElem (by simpa using hlt), Array.getElem_modify_self, h']
  rfl

set_option maxHeartbeats 2000000 in
theorem clone_any (a : Option Addr) (n c : Nat) (zs0 : List Int) (w : World) (hrow : IsRow .u8 w a n c zs0) (hn : n ≤ 1048576) :
    Calls Try.prog 11 #[.slice a n c] w fun e w' => ∃ (a' : Option Addr) (c' lb : Nat) (zs : List Int), e = .returned (.slice a' n c') ∧ Line w' lb a' n zs ∧ n ≤ c' ∧ c' ≤ maxLen ∧ (0 < n → lb < w'.heap.size) ∧ lb ≤ w.heap.size ∧ Below w.heap.size w w' := by
  have hnil := fun ww aa nn cc => Lib.run_eql_slice_nil (P := Try.prog) ww 22 5 aa nn cc 0 0 Try.underlying22
  rcases hrow with ⟨rfl, rfl, rfl, rfl⟩ | ⟨x, rfl, h1, h2, h3, h4, h5⟩
  · go_enter Try.func11, Try.ntmps11
    go_wp2
    go_ret
    exact ⟨none, 0, 0, [], rfl, ⟨rfl, fun h => absurd h (by omega), fun i h => absurd h (by omega), fun z hz => by cases hz⟩, Nat.le_refl _, by unfold maxLen; omega, fun h => absurd h (by omega), Nat.zero_le _, Below.refl _ _⟩
  · obtain ⟨i0, hi5, hz0, hz1, hz2⟩ := info_parts info5
    have HX : Hid (∀ q, q < zs0.length → w.cell? (x.add q) = some (.int .u8 (zs0.getD q 0))) := h4
    have HZ : Hid (∀ z ∈ zs0.take n, 0 ≤ z ∧ z < 256) := fun z hz => by
      have := h5 z (List.mem_of_mem_take hz)
      simp [Lit.wf, IntKind.min, IntKind.max, IntKind.signed, IntKind.bits] at this
      omega
    have HL : Hid ((zs0.take n).length = n) := by show _ = _; rw [List.length_take]; omega
    clear h4 h5
    go_enter Try.func11, Try.ntmps11
    go_wp2_with (first
      | (at_make; go_must (refine wpList_make_full w rfl _ _ 22 rfl w.heap.size 5 i0 (.int .u8 0) 1 Try.underlying22 hi5 hz0 hz1 .i64 .i64 _ _ n rfl rfl rfl rfl (by rw [hz2]; omega) (by unfold maxLen; omega) (Nat.le_refl _) ?_); intro w2 hown hgr; obtain ⟨cur, hcur, hblk⟩ := made hown; have hbel : Below w.heap.size w w2 := (Below.refl _ _).grown hgr (Nat.le_refl _) (fun k hk => by cases hk); clear hown hgr))
    go_loopw [4] (fun v wr => ∃ (k : Nat) (cs : Array Value), v = .int .i64 k ∧ k ≤ n ∧ Below w.heap.size w wr ∧ Hid (cs.size = n ∧ wr.heap[w.heap.size]? = some (.cells cs 5 (0, 0)) ∧ ∀ q, q < k → cs[q]? = some (.int .u8 (zs0.getD q 0)))) (fun v _ => n - (intOf v).toNat)
    case atStart => exact ⟨0, cur, rfl, by omega, hbel, hcur, hblk, fun q h => absurd h (by omega)⟩
    case round =>
      obtain ⟨k, cs, rfl, hk, hbr, HC⟩ := hrel
      clear hblk hbel hcur
      by_cases hlt : k < n
      · obtain ⟨b, off, rfl, hcc⟩ := ints_at HX.out (by omega)
        have hc1 := hcc k (by omega)
        have hcr : wr.cell? ⟨b, off + k, none⟩ = some (.int .u8 (zs0.getD k 0)) := (hbr.cell (World.block_lt_of_cell? _ _ hc1)).trans hc1
        obtain ⟨u, hu⟩ : ∃ u, cs[k]? = some u := ⟨cs[k]'(by rw [HC.out.1]; exact hlt), by rw [Array.getElem?_eq_getElem]⟩
        have hcd : wr.cell? ⟨w.heap.size, k, none⟩ = some u := (cell_of_block HC.out.2.1 k).trans hu
        have hfd := free_of_block HC.out.2.1 k
        obtain ⟨z, hz⟩ : ∃ z, z = zs0.getD k 0 := ⟨_, rfl⟩
        rw [← hz] at hcr
        have HZK : Hid (z = zs0.getD k 0) := hz
        clear hz hc1 hcc
        go_wp2
        go_roundw
        case rel =>
          refine ⟨k + 1, cs.setIfInBounds k (.int .u8 z), by go_num, by omega, hbr.setCell (p := ⟨w.heap.size, k, none⟩) (Nat.le_refl _) _, by simp [HC.out.1], block_setCell HC.out.2.1 k _, fun q hq => ?_⟩
          by_cases e : q = k
          · subst e
            rw [Array.getElem?_setIfInBounds_self, if_pos (by rw [HC.out.1]; exact hlt), HZK.out]
          · rw [Array.getElem?_setIfInBounds_ne (by omega)]
            exact HC.out.2.2 q (by omega)
        case measure => simp [intOf]; omega
      · go_wp2
        go_ret
        refine ⟨_, _, w.heap.size, zs0.take n, rfl, ⟨HL.out, fun _ => rfl, fun q hq => ?_, HZ.out⟩, Nat.le_refl _, by unfold maxLen; omega, fun _ => lt_of_block HC.out.2.1, Nat.le_refl _, hbr⟩
        rw [cell_of_block HC.out.2.1, HC.out.2.2 q (by omega)]
        simp [List.getD, hq]
end Go.Proofs.Qxb6000575a
