/-
  zzs4792bbe16, zzs4792bbe32: the law's own readers. Nothing is made: the world has at most drawn.
-/
import Derived.Test.YbulkcufiCapC
namespace Go.Proofs.Ybulkcufi.Cap
open Go.RowKit

theorem or16h (x y : Int) (hx : 0 ≤ x) (hx' : x < 256) (hy : 0 ≤ y) (hy' : y < 256) : bits .or .u16 (x * 256) y = x * 256 + y :=
  bits_join .u16 16 (by decide) wraps_u16 8 (x * 256) y (by omega) (by omega) (by omega) hy (by omega) (by omega)
theorem or32h (i : Nat) (x y : Int) (hx : 0 ≤ x) (hx' : x < 4294967296) (hm : x % 2 ^ i = 0) (hy : 0 ≤ y) (hy' : y < 2 ^ i) (hy2 : y < 4294967296) : bits .or .u32 x y = x + y :=
  bits_join .u32 32 (by decide) wraps_u32 i x y hx hm (by omega) hy hy' (by omega)

set_option maxHeartbeats 1000000 in
theorem be16 (g o n c i : Nat) (I : Int) (hI : I = (i : Int)) (x0 x1 : Int) (w : World) (hn : i + 1 < n) (hn' : n ≤ 100000) (h0 : 0 ≤ x0) (h0' : x0 < 256) (h1 : 0 ≤ x1) (h1' : x1 < 256)
    (c0 : w.cell? ⟨g, o + i, none⟩ = some (.int .u8 x0)) (c1 : w.cell? ⟨g, o + (i + 1), none⟩ = some (.int .u8 x1)) :
    Calls Yba.prog 9 #[.slice (some ⟨g, o, none⟩) n c, .int .i64 I] w fun e w' => e = .returned (.int .u16 (x0 * 256 + x1)) ∧ ∃ m, w' = w.drewN m := by
  subst hI
  have hl1 : (i : Int) + 1 < (n : Int) := by omega
  have hl0 : (i : Int) < (n : Int) := by omega
  have hi0 : (0 : Int) ≤ (i : Int) := by omega
  have hi1 : (0 : Int) ≤ (i : Int) + 1 := by omega
  have et : ((i : Int) + 1).toNat = i + 1 := by omega
  go_enter Yba.func9, Yba.ntmps9
  go_wp2
  go_quiet (fail)
  go_wp2
  go_ret
  refine ⟨ret_int ?_, _, rfl⟩
  rw [or16h x0 x1 h0 h0' h1 h1']

set_option maxHeartbeats 1000000 in
theorem be32 (g o n c i : Nat) (I : Int) (hI : I = (i : Int)) (x0 x1 x2 x3 : Int) (w : World) (hn : i + 3 < n) (hn' : n ≤ 100000) (h0 : 0 ≤ x0) (h0' : x0 < 256) (h1 : 0 ≤ x1) (h1' : x1 < 256) (h2 : 0 ≤ x2) (h2' : x2 < 256) (h3 : 0 ≤ x3) (h3' : x3 < 256)
    (c0 : w.cell? ⟨g, o + i, none⟩ = some (.int .u8 x0)) (c1 : w.cell? ⟨g, o + (i + 1), none⟩ = some (.int .u8 x1)) (c2 : w.cell? ⟨g, o + (i + 2), none⟩ = some (.int .u8 x2)) (c3 : w.cell? ⟨g, o + (i + 3), none⟩ = some (.int .u8 x3)) :
    Calls Yba.prog 10 #[.slice (some ⟨g, o, none⟩) n c, .int .i64 I] w fun e w' => e = .returned (.int .u32 (x0 * 16777216 + x1 * 65536 + x2 * 256 + x3)) ∧ ∃ m, w' = w.drewN m := by
  subst hI
  have hl3 : (i : Int) + 3 < (n : Int) := by omega
  have hl2 : (i : Int) + 2 < (n : Int) := by omega
  have hl1 : (i : Int) + 1 < (n : Int) := by omega
  have hl0 : (i : Int) < (n : Int) := by omega
  have hi0 : (0 : Int) ≤ (i : Int) := by omega
  have hi1 : (0 : Int) ≤ (i : Int) + 1 := by omega
  have hi2 : (0 : Int) ≤ (i : Int) + 2 := by omega
  have hi3 : (0 : Int) ≤ (i : Int) + 3 := by omega
  have et : ((i : Int) + 1).toNat = i + 1 := by omega
  have et2 : ((i : Int) + 2).toNat = i + 2 := by omega
  have et3 : ((i : Int) + 3).toNat = i + 3 := by omega
  go_enter Yba.func10, Yba.ntmps10
  go_wp2
  go_quiet (fail)
  go_wp2
  go_ret
  refine ⟨ret_int ?_, _, rfl⟩
  have e1 := or32h 24 (x0 * 16777216) (x1 * 65536) (by omega) (by omega) (by omega) (by omega) (by omega) (by omega)
  have e2 := or32h 16 (x0 * 16777216 + x1 * 65536) (x2 * 256) (by omega) (by omega) (by omega) (by omega) (by omega) (by omega)
  have e3 := or32h 8 (x0 * 16777216 + x1 * 65536 + x2 * 256) x3 (by omega) (by omega) (by omega) (by omega) (by omega) (by omega)
  rw [e1, e2, e3]

end Go.Proofs.Ybulkcufi.Cap
