import Derived.Test.Qxb6614531aFmtSpace
set_option linter.unusedVariables false
namespace Go.Proofs.Qxb6614531aFmt
open Go.RowKit

/-- Does s begin with the seven bytes of the hash's prefix? -/
def pre (s : ByteArray) : Bool := decide (7 ≤ s.size) && ((s.extract 0 7).toList == [115, 104, 97, 50, 53, 54, 58])

set_option maxHeartbeats 1000000 in
theorem cut_yes (s : ByteArray) (w : World) (hs : s.size ≤ 1048576) (h : pre s = true) :
    Calls Tryf.prog 12 #[.string s, .string ⟨#[115, 104, 97, 50, 53, 54, 58]⟩] w fun e w' => e = .returned (.tuple #[.string (s.extract 7 s.size), .bool true]) ∧ w' = w := by
  unfold pre at h
  simp only [Bool.and_eq_true, decide_eq_true_eq] at h
  obtain ⟨h1, h2⟩ := h
  go_enter Tryf.func12, Tryf.ntmps12
  go_wp2
  go_returns
  exact ⟨rfl, rfl⟩

set_option maxHeartbeats 1000000 in
theorem cut_no (s : ByteArray) (w : World) (hs : s.size ≤ 1048576) (h : pre s = false) :
    Calls Tryf.prog 12 #[.string s, .string ⟨#[115, 104, 97, 50, 53, 54, 58]⟩] w fun e w' => e = .returned (.tuple #[.string s, .bool false]) ∧ w' = w := by
  unfold pre at h
  by_cases h1 : 7 ≤ s.size
  · have h2 : ((s.extract 0 7).toList == [115, 104, 97, 50, 53, 54, 58]) = false := by simpa [h1] using h
    clear h
    go_enter Tryf.func12, Tryf.ntmps12
    go_wp2
    go_returns
    exact ⟨rfl, rfl⟩
  · have h1b : decide ((7 : Int) ≤ (s.size : Int)) = false := by simp; omega
    clear h
    go_enter Tryf.func12, Tryf.ntmps12
    go_wp2
    go_returns
    exact ⟨rfl, rfl⟩

theorem cell_of_block {w : World} {g : Nat} {cs : Array Value} {t : TypeId} {fr : Nat × Nat} (h : w.heap[g]? = some (.cells cs t fr)) (j : Nat) : w.cell? ⟨g, j, none⟩ = cs[j]? := by simp [World.cell?, h]
theorem free_of_block {w : World} {g : Nat} {cs : Array Value} {t : TypeId} (h : w.heap[g]? = some (.cells cs t (0, 0))) (j : Nat) : w.frozen? ⟨g, j, none⟩ = false := by simp [World.frozen?, h]
theorem block_setCell {w : World} {g : Nat} {cs : Array Value} {t : TypeId} {fr : Nat × Nat} (h : w.heap[g]? = some (.cells cs t fr)) (j : Nat) (u : Value) : (w.setCell ⟨g, j, none⟩ u).heap[g]? = some (.cells (cs.setIfInBounds j u) t fr) := by
  have hlt := lt_of_block h
  have h' : w.heap[g] = .cells cs t fr := by simpa [Array.getElem?_eq_getElem hlt] using h
  show (w.heap.modify g _)[g]? = _
  rw [Array.getElem?_eq_getElem (by simpa using hlt), Array.getElem_modify_self, h']
  rfl

theorem setRow_block {w : World} {g : Nat} {cs : Array Value} {t : TypeId} {fr : Nat × Nat} (h : w.heap[g]? = some (.cells cs t fr)) (cs' : Array Value) : (w.setRow g cs').heap[g]? = some (.cells cs' t fr) := by
  have hlt := lt_of_block h
  have h' : w.heap[g] = .cells cs t fr := by simpa [Array.getElem?_eq_getElem hlt] using h
  show (w.heap.modify g _)[g]? = _
  rw [Array.getElem?_eq_getElem (by simpa using hlt), Array.getElem_modify_self, h']

theorem below_setRow {w : World} {B g : Nat} (h : B ≤ g) (cs : Array Value) : Below B w (w.setRow g cs) := by
  refine ⟨rfl, rfl, rfl, by simp [World.setRow], fun k hk => ?_⟩
  show (w.heap.modify g _)[k]? = _
  rw [Array.getElem?_modify, if_neg (by omega)]

/-- The set of the first k of A to F. -/
def setK (k : Nat) : Array Value := Array.ofFn (n := 256) fun j => .bool (decide (65 ≤ j.val) && decide (j.val < 65 + k))
theorem zero63 (w : World) : (zeroValue 63).run Tryf.prog w = .ok (.agg (setK 0)) w := by kernel_rfl
theorem setK_size (k : Nat) : (setK k).size = 256 := by simp [setK]
theorem setK_get (k j : Nat) (h : j < 256) : (setK k)[j]? = some (.bool (decide (65 ≤ j) && decide (j < 65 + k))) := by simp [setK, h]
theorem setK_0 : (setK 0).setIfInBounds 65 (.bool true) = setK 1 := by kernel_rfl
theorem setK_1 : (setK 1).setIfInBounds 66 (.bool true) = setK 2 := by kernel_rfl
theorem setK_2 : (setK 2).setIfInBounds 67 (.bool true) = setK 3 := by kernel_rfl
theorem setK_3 : (setK 3).setIfInBounds 68 (.bool true) = setK 4 := by kernel_rfl
theorem setK_4 : (setK 4).setIfInBounds 69 (.bool true) = setK 5 := by kernel_rfl
theorem setK_5 : (setK 5).setIfInBounds 70 (.bool true) = setK 6 := by kernel_rfl

theorem setK_set (k : Nat) (hk : k < 6) : (setK k).setIfInBounds (65 + k) (.bool true) = setK (k + 1) := by
  rcases (show k = 0 ∨ k = 1 ∨ k = 2 ∨ k = 3 ∨ k = 4 ∨ k = 5 by omega) with rfl | rfl | rfl | rfl | rfl | rfl
  · exact setK_0
  · exact setK_1
  · exact setK_2
  · exact setK_3
  · exact setK_4
  · exact setK_5

set_option maxRecDepth 100000 in
set_option maxHeartbeats 4000000 in
theorem set_any (s : ByteArray) (w : World) (hs : s.size = 6) (hb : ∀ k (h : k < s.size), (s[k]'h).toNat = 65 + k) :
    Calls Tryf.prog 31 #[.string s] w fun e w' => e = .returned (.tuple #[.agg (setK 6), .bool true]) ∧ Below w.heap.size w w' := by
  have hz := zero63
  have HB : Hid (∀ k (h : k < s.size), (s[k]'h).toNat = 65 + k) := hb
  have hs1 : s.size ≤ 6 := by omega
  have hs2 : 6 ≤ s.size := by omega
  clear hb hs
  go_enter Tryf.func31, Tryf.ntmps31
  go_wp2
  go_loopw [4] (fun i wr => ∃ k : Nat, k ≤ 6 ∧ i = .int .i64 k ∧ wr.heap[w.heap.size]? = some (.cells (setK k) 63 (0, 0)) ∧ Below w.heap.size w wr) (fun i _ => 6 - (intOf i).toNat)
  case atStart => exact ⟨0, by omega, rfl, heap_alloc_new _ _, (Below.refl _ _).alloc (Nat.le_refl _) _⟩
  case round =>
    obtain ⟨k, hk, rfl, hblk, hbel⟩ := hrel
    clear hz
    by_cases hlt : k < 6
    · have hcell := (cell_of_block hblk (65 + k)).trans (setK_get k (65 + k) (by omega))
      have hfree := free_of_block hblk (65 + k)
      have HK : Hid (wr.heap[w.heap.size]? = some (.cells (setK k) 63 (0, 0))) := hblk
      have hks : k < s.size := by omega
      have hbk : (s[k]'hks).toNat = 65 + k := HB.out k hks
      clear hblk
      go_wp2
      go_roundw
      case rel => exact ⟨k + 1, by omega, by go_num, by rw [block_setCell HK.out, setK_set k hlt], hbel.setCell (Nat.le_refl _) _⟩
      case measure => simp [intOf]; omega
    · obtain rfl : k = 6 := by omega
      have hsz : ((s.size : Int)) ≤ 6 := by omega
      go_wp2_with (first | (refine wpList_load_row rfl 63 _ rfl w.heap.size rfl 63 (setK 6) (0, 0) _ hblk Tryf.underlying63 rfl (by kernel_rfl) ?_) | (refine wpList_store_row rfl 63 _ _ rfl w.heap.size (setK 6) rfl rfl 63 (setK 6) hblk (by kernel_rfl) rfl (by kernel_rfl) ?_))
      have h2 := setRow_block hblk (setK 6)
      have hlv := run_loadVar_row (P := Tryf.prog) (wr.setRow w.heap.size (setK 6)) w.heap.size 63 63 (setK 6) (0, 0) _ h2 Tryf.underlying63 rfl (by kernel_rfl)
      have hb2 := hbel.trans (below_setRow (w := wr) (Nat.le_refl _) (setK 6))
      clear hblk h2 hbel
      generalize wr.setRow w.heap.size (setK 6) = W2 at *
      generalize setK 6 = S at *
      exact bodyPost_ret (v := .tuple #[.agg S, .bool true]) (by simp [results, Tryf.results31, asAddr, hlv]) rfl ⟨rfl, hb2⟩
end Go.Proofs.Qxb6614531aFmt
