import Derived.Test.Qxb6614531aFmtCut
set_option linter.unusedVariables false
namespace Go.Proofs.Qxb6614531aFmt
open Go.RowKit

/-- A byte from A to F. -/
def up (c : UInt8) : Bool := decide (65 ≤ c.toNat) && decide (c.toNat < 71)

set_option maxRecDepth 100000 in
set_option maxHeartbeats 4000000 in
theorem indexAny_any (s : ByteArray) (t : ByteArray) (w : World) (hs : s.size = 64) (ht : t.size = 6) (htb : ∀ k (h : k < t.size), (t[k]'h).toNat = 65 + k) :
    Calls Tryf.prog 21 #[.string s, .string t] w fun e w' => (∃ n : Int, e = .returned (.int .i64 n) ∧ (0 ≤ n ↔ ∃ k, ∃ h : k < s.size, up (s[k]'h) = true)) ∧ Below w.heap.size w w' := by
  have hz := zero63
  have HT : Hid (∀ k (h : k < t.size), (t[k]'h).toNat = 65 + k) := htb
  have HS : Hid (s.size = 64) := hs
  have HTS : Hid (t.size = 6) := ht
  have hs1 : s.size ≤ 64 := by omega
  have hs2 : 64 ≤ s.size := by omega
  have ht1 : t.size ≤ 6 := by omega
  have ht2 : 6 ≤ t.size := by omega
  have ht0 : (t.toList == []) = false := by
    rw [ByteArray.toList_eq]
    have e : t.data.toList.length = t.size := by simp
    cases h : t.data.toList with
    | nil => rw [h] at e; simp at e; omega
    | cons a l => rfl
  have ht3 : t.toList.isEmpty = false := by
    rw [ByteArray.toList_eq]
    have e : t.data.toList.length = t.size := by simp
    cases h : t.data.toList with
    | nil => rw [h] at e; simp at e; omega
    | cons a l => rfl
  clear htb hs ht
  go_enter Tryf.func21, Tryf.ntmps21
  go_wp2_with (first | (go_at_call 30; go_in) | fail)
  refine (set_any t w HTS.out HT.out).mono ?_
  rintro e w1 ⟨rfl, hb1⟩
  have hn1 := heap_alloc_new w1 (.cells (setK 0) 63)
  go_wp2_with (refine wpList_store_row rfl 63 _ _ rfl w1.heap.size (setK 6) rfl rfl 63 (setK 0) hn1 (by kernel_rfl) ((setK_size 0).trans (setK_size 6).symm) (by kernel_rfl) ?_)
  have hblk := setRow_block hn1 (setK 6)
  have hbel : Below w.heap.size w ((w1.alloc (.cells (setK 0) 63)).setRow w1.heap.size (setK 6)) := (hb1.alloc hb1.size _).trans (below_setRow hb1.size _)
  generalize (w1.alloc (.cells (setK 0) 63)).setRow w1.heap.size (setK 6) = W2 at *
  have hsmall : ∀ c : Nat, c < 256 → W2.cell? ⟨w1.heap.size, c, none⟩ = some (.bool (decide (65 ≤ c) && decide (c < 71))) := fun c hc => (cell_of_block hblk c).trans (setK_get 6 c hc)
  clear hblk hn1 hz
  go_loop [8] (fun i => ∃ k : Nat, k ≤ s.size ∧ i = .int .i64 k ∧ Hid (∀ q, q < k → ∀ h : q < s.size, up (s[q]'h) = false)) (fun i => s.size - (intOf i).toNat)
  case atStart => exact ⟨0, by omega, rfl, fun q h => absurd h (by omega)⟩
  case round =>
    obtain ⟨k, hk, rfl, HQ⟩ := hrel
    by_cases hlt : k < s.size
    · have hc : (s[k]'hlt).toNat < 256 := (s[k]'hlt).toNat_lt
      have hcell := hsmall _ hc
      have HU : Hid (up (s[k]'hlt) = (decide (65 ≤ (s[k]'hlt).toNat) && decide ((s[k]'hlt).toNat < 71))) := rfl
      clear hsmall
      cases hu : (decide (65 ≤ (s[k]'hlt).toNat) && decide ((s[k]'hlt).toNat < 71)) with
      | true =>
        rw [hu] at hcell
        have HV : Hid (up (s[k]'hlt) = true) := HU.out.trans hu
        clear hu HU
        go_wp2
        go_ret
        exact ⟨⟨_, rfl, ⟨fun _ => ⟨k, hlt, HV.out⟩, fun _ => by omega⟩⟩, hbel⟩
      | false =>
        rw [hu] at hcell
        have HV : Hid (up (s[k]'hlt) = false) := HU.out.trans hu
        clear hu HU
        go_wp2
        go_round
        case rel =>
          refine ⟨k + 1, by omega, by go_num, fun q hq h => ?_⟩
          by_cases e : q = k
          · subst e; exact HV.out
          · exact HQ.out q (by omega) h
        case measure => simp [intOf]; omega
    · clear hsmall
      go_wp2
      go_ret
      refine ⟨⟨_, rfl, ⟨fun h => absurd h (by omega), fun ⟨q, h, hu⟩ => ?_⟩⟩, hbel⟩
      rw [HQ.out q (by omega) h] at hu
      cases hu

set_option maxHeartbeats 1000000 in
theorem containsAny_any (s : ByteArray) (w : World) (hs : s.size = 64) :
    Calls Tryf.prog 14 #[.string s, .string ⟨#[65, 66, 67, 68, 69, 70]⟩] w fun e w' => (∃ b, e = .returned (.bool b) ∧ (b = true ↔ ∃ k, ∃ h : k < s.size, up (s[k]'h) = true)) ∧ Below w.heap.size w w' := by
  go_enter Tryf.func14, Tryf.ntmps14
  go_wp2_with fail
  refine (indexAny_any s _ w hs rfl ?_).mono ?_
  · intro k h
    have hk : k < 6 := h
    rcases (show k = 0 ∨ k = 1 ∨ k = 2 ∨ k = 3 ∨ k = 4 ∨ k = 5 by omega) with rfl | rfl | rfl | rfl | rfl | rfl <;> rfl
  rintro e w1 ⟨⟨n, rfl, hn⟩, hb⟩
  have HN : Hid (0 ≤ n ↔ ∃ k, ∃ h : k < s.size, up (s[k]'h) = true) := hn
  clear hn
  go_wp2
  go_ret
  exact ⟨⟨_, rfl, by rw [← HN.out]; simp⟩, hb⟩
end Go.Proofs.Qxb6614531aFmt
