/-
  THE LEAVES OF THE ROADS THROUGH package capture: binary.BigEndian.Uint16, Uint32, netip.AddrPortFrom, each with the world written out.
-/
import Derived.Test.YbulkcufiRows
import Derived.WalkKit
import Derived.WalkSpells
import Derived.WalkLawsBesides
import Derived.StillTactics
import Derived.Laws.Pointers
import Derived.RegionTactic
import Derived.Deep.QuietTactic
import Derived.BigQuiet
import Derived.Deep.RegionHeld3
import Derived.RowKit3
import Derived.Lib.EndianBits
import Derived.Stop.LaidErr
namespace Go.Proofs.Ybulkcufi.Cap
open Go.RowKit

/-- The draws stand outermost, 'drewN' too. -/
theorem alloc_drewN (w : World) (o : Obj) (n : Nat) : (w.drewN n).alloc o = (w.alloc o).drewN n := rfl
theorem setCell_drewN (w : World) (a : Addr) (v : Value) (n : Nat) : (w.drewN n).setCell a v = (w.setCell a v).drewN n := rfl

theorem ret_int {k : IntKind} {a b : Int} (h : a = b) : Ending.returned (.int k a) = .returned (.int k b) := by rw [h]

set_option maxHeartbeats 1000000 in
/-- binary.BigEndian.Uint16 over two cells. -/
theorem u16 (g o n c : Nat) (x0 x1 : Int) (w : World) (hn : 2 ≤ n) (h0 : 0 ≤ x0) (h0' : x0 < 256) (h1 : 0 ≤ x1) (h1' : x1 < 256)
    (c0 : w.cell? ⟨g, o, none⟩ = some (.int .u8 x0)) (c1 : w.cell? ⟨g, o + 1, none⟩ = some (.int .u8 x1)) :
    Calls Yba.prog 23 #[.agg #[], .slice (some ⟨g, o, none⟩) n c] w fun e w' => e = .returned (.int .u16 (x0 * 256 + x1)) ∧ ∃ m, w' = (w.alloc (.cells #[] 69)).drewN m := by
  have hl1 : (1 : Int) < (n : Int) := by omega
  have hl0 : 0 < n := by omega
  have d0 := cell?_alloc_old (.cells #[] 69) c0
  have d1 := cell?_alloc_old (.cells #[] 69) c1
  go_enter Yba.func23, Yba.ntmps23
  go_wp2
  go_quiet (fail)
  go_wp2
  go_ret
  refine ⟨ret_int ?_, _, rfl⟩
  rw [u16_or8 _ _ h1 h1' (by omega) (by omega) (by omega)]
  omega

set_option maxHeartbeats 1000000 in
/-- binary.BigEndian.Uint32 over four cells. -/
theorem u32 (g o n c : Nat) (x0 x1 x2 x3 : Int) (w : World) (hn : 4 ≤ n) (h0 : 0 ≤ x0) (h0' : x0 < 256) (h1 : 0 ≤ x1) (h1' : x1 < 256) (h2 : 0 ≤ x2) (h2' : x2 < 256) (h3 : 0 ≤ x3) (h3' : x3 < 256)
    (c0 : w.cell? ⟨g, o, none⟩ = some (.int .u8 x0)) (c1 : w.cell? ⟨g, o + 1, none⟩ = some (.int .u8 x1)) (c2 : w.cell? ⟨g, o + 2, none⟩ = some (.int .u8 x2)) (c3 : w.cell? ⟨g, o + 3, none⟩ = some (.int .u8 x3)) :
    Calls Yba.prog 18 #[.agg #[], .slice (some ⟨g, o, none⟩) n c] w fun e w' => e = .returned (.int .u32 (x0 * 16777216 + x1 * 65536 + x2 * 256 + x3)) ∧ ∃ m, w' = (w.alloc (.cells #[] 69)).drewN m := by
  have hl1 : (1 : Int) < (n : Int) := by omega
  have hl2 : (2 : Int) < (n : Int) := by omega
  have hl3 : (3 : Int) < (n : Int) := by omega
  have hl0 : 0 < n := by omega
  have d0 := cell?_alloc_old (.cells #[] 69) c0
  have d1 := cell?_alloc_old (.cells #[] 69) c1
  have d2 := cell?_alloc_old (.cells #[] 69) c2
  have d3 := cell?_alloc_old (.cells #[] 69) c3
  go_enter Yba.func18, Yba.ntmps18
  go_wp2
  go_quiet (fail)
  go_wp2
  go_ret
  refine ⟨ret_int ?_, _, rfl⟩
  have e1 := u32_or8 x3 (x2 * 256) h3 h3' (by omega) (by omega) (by omega)
  have e2 := u32_or16 (x3 + x2 * 256) (x1 * 65536) (by omega) (by omega) (by omega) (by omega) (by omega)
  have e3 := u32_or24 (x3 + x2 * 256 + x1 * 65536) (x0 * 16777216) (by omega) (by omega) (by omega) (by omega) (by omega)
  rw [e1, e2, e3]
  omega

set_option maxHeartbeats 1000000 in
/-- netip.AddrPortFrom at the zero address. -/
theorem apf (p : Int) (w : World) :
    Calls Yba.prog 8 #[.agg #[.int .u64 0, .int .u64 0, .pointer none], .int .u16 p] w fun e w' => e = .returned (.agg #[.int .u64 0, .int .u64 0, .pointer none, .int .u16 p]) ∧
      w' = (w.alloc (.cells #[.int .u64 0, .int .u64 0, .pointer none] 31)).alloc (.cells #[.int .u64 0, .int .u64 0, .pointer none, .int .u16 p] 36) := by
  go_enter Yba.func8, Yba.ntmps8
  go_wp2
  simp [bodyPost, results, Yba.results8, go_sem]

end Go.Proofs.Ybulkcufi.Cap
