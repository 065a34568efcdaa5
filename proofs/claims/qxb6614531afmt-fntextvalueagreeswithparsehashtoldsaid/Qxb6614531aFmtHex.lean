import Derived.Test.Qxb6614531aFmtCut
set_option linter.unusedVariables false
namespace Go.Proofs.Qxb6614531aFmt
open Go.RowKit

/-- Go's table of hex digits, as the program lays it. -/
def hexT : ByteArray := ⟨(([255, 255, 255, 255, 255, 255, 255, 255, 255, 255, 255, 255, 255, 255, 255, 255, 255, 255, 255, 255, 255, 255, 255, 255, 255, 255, 255, 255, 255, 255, 255, 255, 255, 255, 255, 255, 255, 255, 255, 255, 255, 255, 255, 255, 255, 255, 255, 255, 0, 1, 2, 3, 4, 5, 6, 7, 8, 9, 255, 255, 255, 255, 255, 255].append [255, 10, 11, 12, 13, 14, 15, 255, 255, 255, 255, 255, 255, 255, 255, 255, 255, 255, 255, 255, 255, 255, 255, 255, 255, 255, 255, 255, 255, 255, 255, 255, 255, 10, 11, 12, 13, 14, 15, 255, 255, 255, 255, 255, 255, 255, 255, 255, 255, 255, 255, 255, 255, 255, 255, 255, 255, 255, 255, 255, 255, 255, 255, 255]).append ([255, 255, 255, 255, 255, 255, 255, 255, 255, 255, 255, 255, 255, 255, 255, 255, 255, 255, 255, 255, 255, 255, 255, 255, 255, 255, 255, 255, 255, 255, 255, 255, 255, 255, 255, 255, 255, 255, 255, 255, 255, 255, 255, 255, 255, 255, 255, 255, 255, 255, 255, 255, 255, 255, 255, 255, 255, 255, 255, 255, 255, 255, 255, 255].append [255, 255, 255, 255, 255, 255, 255, 255, 255, 255, 255, 255, 255, 255, 255, 255, 255, 255, 255, 255, 255, 255, 255, 255, 255, 255, 255, 255, 255, 255, 255, 255, 255, 255, 255, 255, 255, 255, 255, 255, 255, 255, 255, 255, 255, 255, 255, 255, 255, 255, 255, 255, 255, 255, 255, 255, 255, 255, 255, 255, 255, 255, 255, 255])).toArray⟩
/-- A byte's value as a hex digit; 255 where it is none. -/
def tab (n : Int) : Int := (hexT.data.toList.getD n.toNat 0).toNat
theorem hexT_size : hexT.size = 256 := by kernel_rfl
theorem tab_rng (n : Int) : 0 ≤ tab n ∧ tab n < 256 := by
  unfold tab
  have := (hexT.data.toList.getD n.toNat 0).toNat_lt
  omega

theorem run_tab (n : Int) (h0 : 0 ≤ n) (h1 : n < 256) (k : IntKind) (w : World) : (Instr.index 9 (.string hexT) (.int k n)).run Tryf.prog w = .ok (.int .u8 (tab n)) w := by
  have hlt : n.toNat < hexT.size := by rw [hexT_size]; omega
  have e : (hexT[n.toNat]'hlt) = hexT.data.toList.getD n.toNat 0 := by
    have hl : n.toNat < hexT.data.toList.length := by simpa using hlt
    simp only [List.getD, List.getElem?_eq_getElem hl, Option.getD_some]
    rfl
  have hi : 0 ≤ n ∧ n < (hexT.size : Int) := by rw [hexT_size]; omega
  rw [run_index_string w 9 hexT k n Tryf.underlying9, dif_pos hi, tab, ← e]

theorem wpList_tab {ops : Array Oper} {rest : List Oper} {o : Oper} {a : Act} {w : World} {Q : Exit → Act → World → Prop} (hgd : o.guard = none) (y : Operand) (ho : o.op = .index 9 (.const (.string hexT)) y)
    (n : Int) (k : IntKind) (hy : a.eval y = .int k n) (h0 : 0 ≤ n) (h1 : n < 256) (h : wpList Tryf.prog ops Q rest (a.put o.dst (.int .u8 (tab n))) w) : wpList Tryf.prog ops Q (o :: rest) a w := by
  refine wpList_plain hgd fun _ hK => ?_
  have hx : a.eval (.const (.string hexT)) = .string hexT := rfl
  unfold Oper.wp execOp
  simp only [ho, hy, hx, Sem.run_bind, Sem.run_pure, Result.andThen_ok, run_tab n h0 h1]
  exact hK _ _ h

/-- A row of bytes as cells. -/
def u8s (l : List Int) : Array Value := (l.map (Value.int .u8)).toArray
theorem u8s_size (l : List Int) : (u8s l).size = l.length := by simp [u8s]
theorem u8s_get (l : List Int) (j : Nat) (h : j < l.length) : (u8s l)[j]? = some (.int .u8 (l.getD j 0)) := by simp [u8s, h]
theorem u8s_set (l : List Int) (j : Nat) (x : Int) : (u8s l).setIfInBounds j (.int .u8 x) = u8s (l.set j x) := by simp [u8s, List.map_set]
theorem u8s_one (l : List Int) : (u8s l).all (·.oneCell') = true := by
  rw [Array.all_eq_true_iff_forall_mem]
  intro v hv
  simp only [u8s, List.mem_toArray, List.mem_map] at hv
  obtain ⟨x, _, rfl⟩ := hv
  rfl

/-- The byte that two hex digits make. -/
def hv (d : Nat → Int) (q : Nat) : Int := bits .or .u8 (tab (d (2 * q)) * 16) (tab (d (2 * q + 1)))
/-- Both are hex digits. -/
def hok (d : Nat → Int) (q : Nat) : Prop := tab (d (2 * q)) ≤ 15 ∧ tab (d (2 * q + 1)) ≤ 15

set_option maxRecDepth 100000 in
set_option maxHeartbeats 4000000 in
theorem decode_any (hb sb cap : Nat) (l : List Int) (d : Nat → Int) (t : TypeId) (w : World) (hsz : l.length = 32) (hblk : w.heap[hb]? = some (.cells (u8s l) t (0, 0))) (hne : hb < sb)
    (hsrc : ∀ j, j < 64 → w.cell? ⟨sb, j, none⟩ = some (.int .u8 (d j))) (hd : ∀ j, 0 ≤ d j ∧ d j < 256) :
    Calls Tryf.prog 15 #[.slice (some ⟨hb, 0, none⟩) 32 32, .slice (some ⟨sb, 0, none⟩) 64 cap] w fun e w' => Below hb w w' ∧ ∃ l', l'.length = 32 ∧ w'.heap[hb]? = some (.cells (u8s l') t (0, 0)) ∧
      (((∀ q, q < 32 → hok d q) ∧ (∀ q, q < 32 → l'.getD q 0 = hv d q) ∧ e = .returned (.tuple #[.int .i64 32, .nilIface])) ∨ (¬ (∀ q, q < 32 → hok d q)) ∧ ∃ i y, e = .returned (.tuple #[.int .i64 i, .iface 54 y])) := by
  go_enter Tryf.func15, Tryf.ntmps15
  go_wp2
  go_loopw [6, 7] (fun i j wr => ∃ (k : Nat) (l' : List Int), k ≤ 32 ∧ i = .int .i64 k ∧ j = .int .i64 (2 * k : Nat) ∧ Below hb w wr ∧ Hid (l'.length = 32 ∧ wr.heap[hb]? = some (.cells (u8s l') t (0, 0)) ∧ (∀ q, q < k → l'.getD q 0 = hv d q) ∧ (∀ q, q < k → hok d q)) ∧ Hid (∀ j, j < 64 → wr.cell? ⟨sb, j, none⟩ = some (.int .u8 (d j)))) (fun i _ _ => 32 - (intOf i).toNat)
  case atStart => exact ⟨0, l, by omega, rfl, rfl, Below.refl _ _, ⟨hsz, hblk, fun q h => absurd h (by omega), fun q h => absurd h (by omega)⟩, hsrc⟩
  case round =>
    obtain ⟨k, l', hk, rfl, rfl, hbel, HB, HS⟩ := hrel
    by_cases hlt : k < 32
    · have h1 := HS.out (2 * k) (by omega)
      have h2 := HS.out (2 * k + 1) (by omega)
      obtain ⟨a0, a1⟩ := hd (2 * k)
      obtain ⟨b0, b1⟩ := hd (2 * k + 1)
      have hcell := (cell_of_block HB.out.2.1 k).trans (u8s_get l' k (by rw [HB.out.1]; exact hlt))
      have hfree := free_of_block HB.out.2.1 k
      have HV : Hid (hv d k = bits .or .u8 (tab (d (2 * k)) * 16) (tab (d (2 * k + 1)))) := rfl
      have HO : Hid (hok d k ↔ tab (d (2 * k)) ≤ 15 ∧ tab (d (2 * k + 1)) ≤ 15) := Iff.rfl
      generalize l'.getD k 0 = z at hcell
      generalize d (2 * k) = x at h1 a0 a1 HV HO
      generalize d (2 * k + 1) = y at h2 b0 b1 HV HO
      clear hsrc hd
      have hx := tab_rng x
      have hy := tab_rng y
      go_wp2_with (first | (refine wpList_tab rfl (.tmp 28) rfl x .u8 rfl a0 a1 ?_) | (refine wpList_tab rfl (.tmp 30) rfl y .u8 rfl b0 b1 ?_))
      · have hgt : 15 < tab x := by assumption
        go_returns
        exact ⟨hbel, l', HB.out.1, HB.out.2.1, .inr ⟨fun h => by have := HO.out.1 (h k hlt); omega, _, _, rfl⟩⟩
      · have hgt : 15 < tab y := by assumption
        go_returns
        exact ⟨hbel, l', HB.out.1, HB.out.2.1, .inr ⟨fun h => by have := HO.out.1 (h k hlt); omega, _, _, rfl⟩⟩
      · have hg1 : tab x ≤ 15 := by assumption
        have hg2 : tab y ≤ 15 := by assumption
        go_roundw
        case rel =>
          refine ⟨k + 1, l'.set k (hv d k), by omega, by go_num, by go_num, hbel.setCell (Nat.le_refl _) _, ⟨by rw [List.length_set]; exact HB.out.1, ?_, fun q hq => ?_, fun q hq => ?_⟩, fun j hj => ?_⟩
          · rw [HV.out, block_setCell HB.out.2.1, u8s_set]
          · by_cases e : q = k
            · subst e; simp [HB.out.1, hlt]
            · rw [List.getD, List.getElem?_set_ne (by omega)]; exact HB.out.2.2.1 q (by omega)
          · by_cases e : q = k
            · subst e; exact HO.out.2 ⟨hg1, hg2⟩
            · exact HB.out.2.2.2 q (by omega)
          · rw [← HS.out j hj]
            exact World.cell?_of_block (Below.heap_setCell _ _ _ _ (by show sb ≠ hb; omega))
        case measure => simp [intOf]; omega
    · obtain rfl : k = 32 := by omega
      go_wp2
      go_returns
      exact ⟨hbel, l', HB.out.1, HB.out.2.1, .inl ⟨HB.out.2.2.2, HB.out.2.2.1, rfl⟩⟩
end Go.Proofs.Qxb6614531aFmt
