/-
  The error of another major type: describeMajor, describe, errorAt (fmt.Sprintf by its stop), mismatch.
-/
import Derived.Test.YbulkcufiFmtK
import Derived.Stop.CallBack
import Derived.Stop.IfaceNil
import GoSem.ClaimData
namespace Go.Proofs.YbulkcufiFmt
open Go.RowKit Go.Extern.Stop Go.Stop Go.Extern
attribute [local go_sem] alloc_drewN setCell_drewN

def fmtB : ByteArray := ⟨#[102, 111, 117, 110, 100, 32, 37, 115, 32, 119, 104, 101, 114, 101, 32, 37, 115, 32, 119, 97, 115, 32, 101, 120, 112, 101, 99, 116, 101, 100]⟩
@[local go_sem] theorem call39 (args : Array Value) (w : World) : (callFunc 39 args).run Ybaf.prog w = (FmtCalls.sprintf #[9, 95] #[9] args).run Ybaf.prog w :=
  run_callFunc_next Ybaf.func39 (by kernel_rfl) (by kernel_rfl) (by kernel_rfl) args w
@[local go_sem] theorem fguard (name : String) (w : World) : (FmtStop.guard name).run Ybaf.prog w = .ok () w := by kernel_rfl
theorem nextTurns : Extern.next FmtCalls.turnsRow = some (FmtCalls.begun #[] #[]) := by kernel_rfl
theorem nextReturned : Extern.next FmtCalls.returnedRow = some (FmtCalls.returned #[] #[]) := by kernel_rfl
@[local go_sem] theorem fmtP : FmtStop.printed? ⟨#[102, 111, 117, 110, 100, 32, 37, 115, 32, 119, 104, 101, 114, 101, 32, 37, 115, 32, 119, 97, 115, 32, 101, 120, 112, 101, 99, 116, 101, 100]⟩ 2 = some [(0, 115, false), (1, 115, false)] := by kernel_rfl
def shape9 : List UInt8 := [12, 6, 0, 0, 0, 0, 0, 0, 0, 115, 116, 114, 105, 110, 103]
@[local go_sem] theorem act9_115 (name : String) (x : Value) (w : World) : (FmtCalls.act name false 115 false (.iface 9 x)).run Ybaf.prog w = .ok (.closed false) w := by kernel_rfl
@[local go_sem] theorem op9_115 (name : String) (x : ByteArray) (w : World) : (FmtStop.operand name false 115 false (.iface 9 (.string x))).run Ybaf.prog w = .ok (shape9, FmtStop.pack x.data.toList) w := by kernel_rfl

set_option maxRecDepth 100000 in
set_option maxHeartbeats 1000000 in
theorem errorAt_does (F : Interp) (B : Nat) (off : Int) (D : Value) (s1 s2 : ByteArray) (w : World) (hF : F.answers w.tape) (hB : w.heap[B]? = some (.cells #[.iface 9 (.string s1), .iface 9 (.string s2)] 20 (0, 0))) :
    Calls Ybaf.prog 33 #[D, .int .i64 off, .string fmtB, .slice (some ⟨B, 0, none⟩) 2 2] w fun e w' => e = .returned (.iface 23 (.pointer (some ⟨w.heap.size, 0, none⟩))) ∧
      ∃ n msg, w' = (w.alloc (eObj off msg .nilIface)).drewN n := by
  have b0 : w.cell? ⟨B, 0, none⟩ = some (.iface 9 (.string s1)) := by rw [cell_heap hB]; rfl
  have b1 : w.cell? ⟨B, 1, none⟩ = some (.iface 9 (.string s2)) := by rw [cell_heap hB]; rfl
  have hF' := answers_open hF
  clear hB
  unfold fmtB
  go_enter Ybaf.func33, Ybaf.ntmps33
  go_wp2
  apply rows_value nextTurns
  case hr =>
    go_simp
    exact ⟨rfl, rfl⟩
  case h =>
    go_wp2
    go_ret
    exact ⟨rfl, _, _, rfl⟩

theorem heap_at (w : World) (o : Obj) (n : Nat) (h : n = w.heap.size) : (w.alloc o).heap[n]? = some o := by subst h; exact heap_alloc_new w o

set_option maxRecDepth 100000 in
theorem describeMajor_does (m : Int) (w : World) : Calls Ybaf.prog 25 #[.int .u8 m] w fun e w' => (∃ s, e = .returned (.string s)) ∧ w' = w := by
  go_enter Ybaf.func25, Ybaf.ntmps25
  go_wp2
  all_goals (go_ret; exact ⟨⟨_, rfl⟩, rfl⟩)

set_option maxRecDepth 100000 in
set_option maxHeartbeats 1000000 in
theorem describe_does (off m info arg : Int) (w : World) : Calls Ybaf.prog 34 #[.agg #[.int .i64 off, .int .u8 m, .int .u8 info, .int .u64 arg]] w fun e w' => (∃ s, e = .returned (.string s)) ∧ ∃ n, w' = (w.alloc (hObj (.int .i64 off) (.int .u8 m) (.int .u8 info) (.int .u64 arg))).drewN n := by
  go_enter Ybaf.func34, Ybaf.ntmps34
  go_wp2_with (go_at_call 25; refine (describeMajor_does m _).mono ?_; rintro e w' ⟨⟨s, rfl⟩, rfl⟩)
  all_goals (go_ret; exact ⟨⟨_, rfl⟩, 0, rfl⟩)

set_option maxRecDepth 100000 in
set_option maxHeartbeats 1000000 in
theorem mismatch_does (F : Interp) (N : Nat) (off m info arg : Int) (s2 : ByteArray) (w : World) (hF : F.answers w.tape) :
    Calls Ybaf.prog 24 #[.pointer (some ⟨N + 3, 0, none⟩), .agg #[.int .i64 off, .int .u8 m, .int .u8 info, .int .u64 arg], .string s2] w fun e w' => ∃ E msg, e = .returned (.iface 23 (.pointer (some ⟨E, 0, none⟩))) ∧ w.heap.size ≤ E ∧
      w'.heap[E]? = some (eObj off msg .nilIface) ∧ Fx (fun _ => False) w w' := by
  go_enter Ybaf.func24, Ybaf.ntmps24
  go_wp2
  go_region_with (first | (go_at_call 34; refine (describe_does off m info arg _).mono ?_; rintro e w1 ⟨⟨s1, rfl⟩, n, rfl⟩) | (go_at_call 33; refine (errorAt_does F _ off _ _ s2 _ (by exact hF) (by simp only [World.heap_drewN]; exact heap_at _ _ _ (by simp))).mono ?_; rintro e w2 ⟨rfl, n2, msg, rfl⟩))
  all_goals go_wp2
  all_goals go_ret
  all_goals
    refine ⟨w.heap.size + 1 + 1 + 1, msg, rfl, by omega, ?_, ?_⟩
    · simp only [World.heap_drewN]
      exact heap_at _ _ _ (by simp)
    · repeat (first | with_reducible exact Fx.refl _ _ | with_reducible refine Fx.drewN ?_ _ | with_reducible refine Fx.drew ?_ | with_reducible refine Fx.alloc ?_ _)
end Go.Proofs.YbulkcufiFmt
