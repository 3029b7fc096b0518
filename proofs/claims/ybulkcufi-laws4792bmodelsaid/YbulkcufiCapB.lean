/-
  (*IPPacket).ends and (*IPPacket).TCP, by their contracts.
-/
import Derived.Test.YbulkcufiCapA
import Derived.Deep.DeepFit
namespace Go.Proofs.Ybulkcufi.Cap
open Go.RowKit
attribute [local go_sem] alloc_drewN setCell_drewN

/-- What the roads know of the packet: its nine cells, both addresses the zero Addr. -/
def IsPkt (w : World) (b : Nat) (hop pr : Int) (sl : Value) : Prop :=
  w.cell? ⟨b, 0, none⟩ = some (.int .u64 0) ∧ w.cell? ⟨b, 1, none⟩ = some (.int .u64 0) ∧ w.cell? ⟨b, 2, none⟩ = some (.pointer none) ∧
  w.cell? ⟨b, 3, none⟩ = some (.int .u64 0) ∧ w.cell? ⟨b, 4, none⟩ = some (.int .u64 0) ∧ w.cell? ⟨b, 5, none⟩ = some (.pointer none) ∧
  w.cell? ⟨b, 6, none⟩ = some (.int .u8 hop) ∧ w.cell? ⟨b, 7, none⟩ = some (.int .u8 pr) ∧ w.cell? ⟨b, 8, none⟩ = some sl

set_option maxHeartbeats 2000000 in
theorem ends_any (b g o n c : Nat) (hop pr x0 x1 x2 x3 : Int) (w : World) (hp : IsPkt w b hop pr (.slice (some ⟨g, o, none⟩) n c)) (hn : 4 ≤ n) (hnc : n ≤ c)
    (h0 : 0 ≤ x0) (h0' : x0 < 256) (h1 : 0 ≤ x1) (h1' : x1 < 256) (h2 : 0 ≤ x2) (h2' : x2 < 256) (h3 : 0 ≤ x3) (h3' : x3 < 256)
    (c0 : w.cell? ⟨g, o, none⟩ = some (.int .u8 x0)) (c1 : w.cell? ⟨g, o + 1, none⟩ = some (.int .u8 x1)) (c2 : w.cell? ⟨g, o + 2, none⟩ = some (.int .u8 x2)) (c3 : w.cell? ⟨g, o + 3, none⟩ = some (.int .u8 x3)) :
    Calls Yba.prog 17 #[.pointer (some ⟨b, 0, none⟩)] w fun e w' => e = .returned (.tuple #[.agg #[.int .u64 0, .int .u64 0, .pointer none, .int .u16 (x0 * 256 + x1)], .agg #[.int .u64 0, .int .u64 0, .pointer none, .int .u16 (x2 * 256 + x3)]]) ∧
      Below w.heap.size w w' := by
  obtain ⟨p0, p1, p2, p3, p4, p5, p6, p7, p8⟩ := hp
  have hl2 : (2 : Int) ≤ (n : Int) := by omega
  have hc2 : ¬ c = 2 := by omega
  have hnc' : (n : Int) ≤ (c : Int) := by omega
  have hbB : b < w.heap.size := World.block_lt_of_cell? w _ p0
  have hgB : g < w.heap.size := World.block_lt_of_cell? w _ c0
  go_enter Yba.func17, Yba.ntmps17
  go_wp2
  go_region_held3 (fun w' => ∀ bl o, bl < w.heap.size → w'.cell? ⟨bl, o, none⟩ = w.cell? ⟨bl, o, none⟩)
    (exact fun bl o hbl => Below.cell (p := ⟨bl, o, none⟩) (B := w.heap.size) (by repeat (first | with_reducible exact Below.refl _ _ | with_reducible refine below_drewN ?_ _ | with_reducible refine Below.drew ?_ | with_reducible refine Below.alloc ?_ (by simp <;> omega) _ | with_reducible refine Below.setCell ?_ (by simp <;> omega) _)) hbl)
    (first
      | (go_at_call_of 23 (Addr.mk g o none); refine (u16 g o n c x0 x1 _ (by omega) h0 h0' h1 h1' ?_ ?_).mono ?_; (exact (‹∀ bl o, bl < w.heap.size → World.cell? _ ⟨bl, o, none⟩ = w.cell? ⟨bl, o, none⟩› _ _ hgB).trans c0); (exact (‹∀ bl o, bl < w.heap.size → World.cell? _ ⟨bl, o, none⟩ = w.cell? ⟨bl, o, none⟩› _ _ hgB).trans c1); rintro e w' ⟨rfl, m, rfl⟩)
      | (go_at_call 23; refine (u16 g (o + 2) (n - 2) (c - 2) x2 x3 _ (by omega) h2 h2' h3 h3' ?_ ?_).mono ?_; (exact (‹∀ bl o, bl < w.heap.size → World.cell? _ ⟨bl, o, none⟩ = w.cell? ⟨bl, o, none⟩› _ _ hgB).trans c2); (exact (‹∀ bl o, bl < w.heap.size → World.cell? _ ⟨bl, o, none⟩ = w.cell? ⟨bl, o, none⟩› _ _ hgB).trans c3); rintro e w' ⟨rfl, m, rfl⟩)
      | (go_at_call 8; refine (apf _ _).mono ?_; rintro e w' ⟨rfl, rfl⟩))
  go_wp2
  refine bodyPost_ret (v := .tuple #[.agg #[.int .u64 0, .int .u64 0, .pointer none, .int .u16 (x0 * 256 + x1)], .agg #[.int .u64 0, .int .u64 0, .pointer none, .int .u16 (x2 * 256 + x3)]]) (by simp [results, Yba.results17, go_sem]) rfl ⟨rfl, ?_⟩
  repeat (first | with_reducible exact Below.refl _ _ | with_reducible refine below_drewN ?_ _ | with_reducible refine Below.drew ?_ | with_reducible refine Below.alloc ?_ (by simp <;> omega) _ | with_reducible refine Below.setCell ?_ (by simp <;> omega) _)

end Go.Proofs.Ybulkcufi.Cap
