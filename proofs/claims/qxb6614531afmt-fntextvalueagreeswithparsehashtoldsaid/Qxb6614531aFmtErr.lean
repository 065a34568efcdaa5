import Derived.Test.Qxb6614531aFmtTake
import Derived.Stop.CallBack
import Derived.Stop.IfaceNil
import GoSem.ClaimData
set_option linter.unusedVariables false
namespace Go.Proofs.Qxb6614531aFmt
open Go.RowKit Go.Extern.Stop Go.Stop Go.Extern

theorem call26 (args : Array Value) (w : World) : (callFunc 26 args).run Tryf.prog w = (FmtCalls.errorf #[9, 58] #[28] args).run Tryf.prog w :=
  run_callFunc_next Tryf.func26 (by kernel_rfl) (by kernel_rfl) (by kernel_rfl) args w
theorem guardOk (name : String) (w : World) : (FmtStop.guard name).run Tryf.prog w = .ok () w := by kernel_rfl
theorem nextTurns : Extern.next FmtCalls.turnsRow = some (FmtCalls.begun #[] #[]) := by kernel_rfl
-- column %d: the line ends where %s was expected
theorem fmt0r (w : World) : (FmtDoors.printed ⟨#[99, 111, 108, 117, 109, 110, 32, 37, 100, 58, 32, 116, 104, 101, 32, 108, 105, 110, 101, 32, 101, 110, 100, 115, 32, 119, 104, 101, 114, 101, 32, 37, 115, 32, 119, 97, 115, 32, 101, 120, 112, 101, 99, 116, 101, 100]⟩ 2).run Tryf.prog w = .ok [(0, 100, false), (1, 115, false)] w := by kernel_rfl
-- column %d: %s expected
theorem fmt1r (w : World) : (FmtDoors.printed ⟨#[99, 111, 108, 117, 109, 110, 32, 37, 100, 58, 32, 37, 115, 32, 101, 120, 112, 101, 99, 116, 101, 100]⟩ 2).run Tryf.prog w = .ok [(0, 100, false), (1, 115, false)] w := by kernel_rfl
-- column %d: a control character in a string
theorem fmt2r (w : World) : (FmtDoors.printed ⟨#[99, 111, 108, 117, 109, 110, 32, 37, 100, 58, 32, 97, 32, 99, 111, 110, 116, 114, 111, 108, 32, 99, 104, 97, 114, 97, 99, 116, 101, 114, 32, 105, 110, 32, 97, 32, 115, 116, 114, 105, 110, 103]⟩ 1).run Tryf.prog w = .ok [(0, 100, false)] w := by kernel_rfl
-- column %d: %w
theorem fmt3r (w : World) : (FmtDoors.printed ⟨#[99, 111, 108, 117, 109, 110, 32, 37, 100, 58, 32, 37, 119]⟩ 2).run Tryf.prog w = .ok [(0, 100, false), (1, 119, false)] w := by kernel_rfl

def shape3 : List UInt8 := [5, 3, 0, 0, 0, 0, 0, 0, 0, 105, 110, 116]
def shape9 : List UInt8 := [12, 6, 0, 0, 0, 0, 0, 0, 0, 115, 116, 114, 105, 110, 103]
theorem act3_100w (name : String) (x : Value) (w : World) : (FmtCalls.act name true 100 false (.iface 3 x)).run Tryf.prog w = .ok (.closed true) w := by kernel_rfl
theorem act9_115w (name : String) (x : Value) (w : World) : (FmtCalls.act name true 115 false (.iface 9 x)).run Tryf.prog w = .ok (.closed true) w := by kernel_rfl
theorem act66_119w (name : String) (x : Value) (w : World) : (FmtCalls.act name true 119 false (.iface 66 x)).run Tryf.prog w = .ok (.closed true) w := by kernel_rfl
theorem op3_100w (name : String) (x : Int) (w : World) : (FmtStop.operand name true 100 false (.iface 3 (.int .i64 x))).run Tryf.prog w = .ok (shape3, Go.Extern.Stop.digits 8 (x % 2 ^ 64).toNat) w := by kernel_rfl
theorem op9_115w (name : String) (x : ByteArray) (w : World) : (FmtStop.operand name true 115 false (.iface 9 (.string x))).run Tryf.prog w = .ok (shape9, FmtStop.pack x.data.toList) w := by kernel_rfl
theorem ptr66 (w : World) : (FmtStop.ptrTo "errors.errorString").run Tryf.prog w = .ok 66 w := by kernel_rfl
theorem elem66 (w : World) : (elemOf 66).run Tryf.prog w = .ok 68 w := by kernel_rfl
theorem isError66 (w : World) : (FmtDoors.textMethod 66 "Error").run Tryf.prog w = .ok true w := by kernel_rfl
theorem ptr59 (w : World) : (FmtStop.ptrTo "fmt.wrapError").run Tryf.prog w = .ok 59 w := by kernel_rfl
theorem elem59 (w : World) : (elemOf 59).run Tryf.prog w = .ok 90 w := by kernel_rfl
theorem opPlain66_119w (name : String) (a : Addr) (s : ByteArray) (w : World) (hc : w.cell? a = some (.string s)) :
    (FmtStop.operand name true 119 false (.iface 66 (.pointer (some a)))).run Tryf.prog w = .ok (14 :: FmtStop.pack Tryf.t66.str.toUTF8.data.toList, s.data.toList) w := by
  have h1 : (typeStr 66).run Tryf.prog w = .ok Tryf.t66.str w := by kernel_rfl
  have d2 : Tryf.t66.desc = .pointer 68 := rfl
  have d3 : Tryf.t68.desc = .named "errors.errorString" 67 := rfl
  simp [FmtStop.operand, h1, d2, d3, run_load, hc]

attribute [local go_sem] call26 guardOk fmt0r fmt1r fmt2r fmt3r act3_100w act9_115w act66_119w op3_100w op9_115w ptr66 elem66 isError66 ptr59 elem59

set_option maxHeartbeats 1000000 in
theorem errorf_ends (F : Interp) (x : Int) (s : ByteArray) (blk : Nat) (w : World) (hF : F.answers w.tape)
    (hc0 : w.cell? ⟨blk, 0, none⟩ = some (.iface 3 (.int .i64 x))) (hc1 : w.cell? ⟨blk, 1, none⟩ = some (.iface 9 (.string s))) :
    Calls Tryf.prog 19 #[.string ⟨#[99, 111, 108, 117, 109, 110, 32, 37, 100, 58, 32, 116, 104, 101, 32, 108, 105, 110, 101, 32, 101, 110, 100, 115, 32, 119, 104, 101, 114, 101, 32, 37, 115, 32, 119, 97, 115, 32, 101, 120, 112, 101, 99, 116, 101, 100]⟩, .slice (some ⟨blk, 0, none⟩) 2 2] w fun e w' =>
      (∃ p, e = .returned (.iface 66 p)) ∧ Below w.heap.size w w' := by
  have hF' := answers_open hF
  have hb : blk < w.heap.size := World.block_lt_of_cell? _ _ hc0
  go_enter Tryf.func19, Tryf.ntmps19
  go_wp2
  apply rows_value nextTurns
  case hr =>
    go_simp
    exact ⟨rfl, rfl⟩
  case h =>
    go_wp2
    go_ret
    exact ⟨⟨_, rfl⟩, ((Below.refl _ _).alloc (Nat.le_refl _) _).drew⟩

set_option maxHeartbeats 1000000 in
theorem errorf_exp (F : Interp) (x : Int) (s : ByteArray) (blk : Nat) (w : World) (hF : F.answers w.tape)
    (hc0 : w.cell? ⟨blk, 0, none⟩ = some (.iface 3 (.int .i64 x))) (hc1 : w.cell? ⟨blk, 1, none⟩ = some (.iface 9 (.string s))) :
    Calls Tryf.prog 19 #[.string ⟨#[99, 111, 108, 117, 109, 110, 32, 37, 100, 58, 32, 37, 115, 32, 101, 120, 112, 101, 99, 116, 101, 100]⟩, .slice (some ⟨blk, 0, none⟩) 2 2] w fun e w' =>
      (∃ p, e = .returned (.iface 66 p)) ∧ Below w.heap.size w w' := by
  have hF' := answers_open hF
  have hb : blk < w.heap.size := World.block_lt_of_cell? _ _ hc0
  go_enter Tryf.func19, Tryf.ntmps19
  go_wp2
  apply rows_value nextTurns
  case hr =>
    go_simp
    exact ⟨rfl, rfl⟩
  case h =>
    go_wp2
    go_ret
    exact ⟨⟨_, rfl⟩, ((Below.refl _ _).alloc (Nat.le_refl _) _).drew⟩

set_option maxHeartbeats 1000000 in
theorem errorf_ctl (F : Interp) (x : Int) (blk : Nat) (w : World) (hF : F.answers w.tape)
    (hc0 : w.cell? ⟨blk, 0, none⟩ = some (.iface 3 (.int .i64 x))) :
    Calls Tryf.prog 19 #[.string ⟨#[99, 111, 108, 117, 109, 110, 32, 37, 100, 58, 32, 97, 32, 99, 111, 110, 116, 114, 111, 108, 32, 99, 104, 97, 114, 97, 99, 116, 101, 114, 32, 105, 110, 32, 97, 32, 115, 116, 114, 105, 110, 103]⟩, .slice (some ⟨blk, 0, none⟩) 1 1] w fun e w' =>
      (∃ p, e = .returned (.iface 66 p)) ∧ Below w.heap.size w w' := by
  have hF' := answers_open hF
  have hb : blk < w.heap.size := World.block_lt_of_cell? _ _ hc0
  go_enter Tryf.func19, Tryf.ntmps19
  go_wp2
  apply rows_value nextTurns
  case hr =>
    go_simp
    exact ⟨rfl, rfl⟩
  case h =>
    go_wp2
    go_ret
    exact ⟨⟨_, rfl⟩, ((Below.refl _ _).alloc (Nat.le_refl _) _).drew⟩

set_option maxHeartbeats 1000000 in
theorem errorf_wrap (F : Interp) (x : Int) (a : Addr) (s : ByteArray) (blk : Nat) (w : World) (hF : F.answers w.tape)
    (hc0 : w.cell? ⟨blk, 0, none⟩ = some (.iface 3 (.int .i64 x))) (hc1 : w.cell? ⟨blk, 1, none⟩ = some (.iface 66 (.pointer (some a)))) (hs : w.cell? a = some (.string s)) :
    Calls Tryf.prog 19 #[.string ⟨#[99, 111, 108, 117, 109, 110, 32, 37, 100, 58, 32, 37, 119]⟩, .slice (some ⟨blk, 0, none⟩) 2 2] w fun e w' =>
      (∃ p, e = .returned (.iface 59 p)) ∧ Below w.heap.size w w' := by
  have hF' := answers_open hF
  have hb : blk < w.heap.size := World.block_lt_of_cell? _ _ hc0
  have hop := opPlain66_119w "fmt.errorf" a s w hs
  go_enter Tryf.func19, Tryf.ntmps19
  go_wp2
  apply rows_value nextTurns
  case hr =>
    go_simp
    exact ⟨rfl, rfl⟩
  case h =>
    go_wp2
    go_ret
    exact ⟨⟨_, rfl⟩, ((Below.refl _ _).alloc (Nat.le_refl _) _).drew⟩

set_option maxHeartbeats 1000000 in
theorem expected_any (F : Interp) (rb : Nat) (a : Option Addr) (n c i : Nat) (s : ByteArray) (w : World) (hF : F.answers w.tape) (hr : Rdr w rb a n c i) (hn : n ≤ 1048576) (hi : i ≤ n + 1) :
    Calls Tryf.prog 25 #[.pointer (some ⟨rb, 0, none⟩), .string s] w fun e w' => (∃ p, e = .returned (.iface 66 p)) ∧ Below w.heap.size w w' := by
  have hc0 := hr.line
  have hc1 := hr.pos
  have hlt := hr.lt
  by_cases h : n ≤ i
  · have hd : decide ((n : Int) ≤ (i : Int)) = true := by simpa using h
    go_enter Tryf.func25, Tryf.ntmps25
    go_wp2
    go_quiet (fail)
    go_wp2_with (go_at_call 19; go_must (refine (errorf_ends F (i + 1) s w.heap.size _ ?_ ?_ ?_).mono ?_))
    · exact hF
    · exact World.cell?_alloc_at (w := w.drewN nq) _ _ _ 0 rfl
    · exact World.cell?_alloc_at (w := w.drewN nq) _ _ _ 1 rfl
    · rintro e w1 ⟨⟨p, rfl⟩, hb⟩
      go_wp2
      go_ret
      exact ⟨⟨_, rfl⟩, ((below_drewN (Below.refl _ _) _).alloc (Nat.le_refl _) _).trans (hb.mono (by simp))⟩
  · have hd : decide ((n : Int) ≤ (i : Int)) = false := by simp; omega
    go_enter Tryf.func25, Tryf.ntmps25
    go_wp2
    go_quiet (fail)
    go_wp2_with (go_at_call 19; go_must (refine (errorf_exp F (i + 1) s w.heap.size _ ?_ ?_ ?_).mono ?_))
    · exact hF
    · exact World.cell?_alloc_at (w := w.drewN nq) _ _ _ 0 rfl
    · exact World.cell?_alloc_at (w := w.drewN nq) _ _ _ 1 rfl
    · rintro e w1 ⟨⟨p, rfl⟩, hb⟩
      go_wp2
      go_ret
      exact ⟨⟨_, rfl⟩, ((below_drewN (Below.refl _ _) _).alloc (Nat.le_refl _) _).trans (hb.mono (by simp))⟩

end Go.Proofs.Qxb6614531aFmt
