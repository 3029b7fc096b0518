/-
  (*IPPacket).TCP, by its contracts.
-/
import Derived.Test.YbulkcufiCapB
namespace Go.Proofs.Ybulkcufi.Cap
open Go.RowKit
attribute [local go_sem] alloc_drewN setCell_drewN

/-- A byte. -/
def Byte (x : Int) : Prop := 0 ≤ x ∧ x < 256

/-- The address of 'xs[off:]' as the model has it: at the capacity's end the base stays. -/
def tailAddr (g o c off : Nat) : Option Addr := if c = off then some ⟨g, o, none⟩ else some ⟨g, o + off, none⟩

/-- The packet's cells behind a new block. -/
theorem IsPkt.old {w w' : World} {b : Nat} {hop pr : Int} {sl : Value} (h : IsPkt w b hop pr sl) (hb : Below w.heap.size w w') : IsPkt w' b hop pr sl := by
  obtain ⟨p0, p1, p2, p3, p4, p5, p6, p7, p8⟩ := h
  have hbB : b < w.heap.size := World.block_lt_of_cell? w _ p0
  exact ⟨(hb.cell hbB).trans p0, (hb.cell hbB).trans p1, (hb.cell hbB).trans p2, (hb.cell hbB).trans p3, (hb.cell hbB).trans p4, (hb.cell hbB).trans p5, (hb.cell hbB).trans p6, (hb.cell hbB).trans p7, (hb.cell hbB).trans p8⟩

set_option maxHeartbeats 2000000 in
theorem tcp_yes (b g o n c off : Nat) (hop x0 x1 x2 x3 x4 x5 x6 x7 x8 x9 x10 x11 x12 x13 : Int) (w : World) (hp : IsPkt w b hop 6 (.slice (some ⟨g, o, none⟩) n c)) (hn : 20 ≤ n) (hnc : n ≤ c)
    (b0 : Byte x0) (b1 : Byte x1) (b2 : Byte x2) (b3 : Byte x3) (b4 : Byte x4) (b5 : Byte x5) (b6 : Byte x6) (b7 : Byte x7) (b8 : Byte x8) (b9 : Byte x9) (b10 : Byte x10) (b11 : Byte x11) (b12 : Byte x12)
    (c0 : w.cell? ⟨g, o, none⟩ = some (.int .u8 x0)) (c1 : w.cell? ⟨g, o + 1, none⟩ = some (.int .u8 x1)) (c2 : w.cell? ⟨g, o + 2, none⟩ = some (.int .u8 x2)) (c3 : w.cell? ⟨g, o + 3, none⟩ = some (.int .u8 x3))
    (c4 : w.cell? ⟨g, o + 4, none⟩ = some (.int .u8 x4)) (c5 : w.cell? ⟨g, o + 5, none⟩ = some (.int .u8 x5)) (c6 : w.cell? ⟨g, o + 6, none⟩ = some (.int .u8 x6)) (c7 : w.cell? ⟨g, o + 7, none⟩ = some (.int .u8 x7))
    (c8 : w.cell? ⟨g, o + 8, none⟩ = some (.int .u8 x8)) (c9 : w.cell? ⟨g, o + 9, none⟩ = some (.int .u8 x9)) (c10 : w.cell? ⟨g, o + 10, none⟩ = some (.int .u8 x10)) (c11 : w.cell? ⟨g, o + 11, none⟩ = some (.int .u8 x11))
    (c12 : w.cell? ⟨g, o + 12, none⟩ = some (.int .u8 x12)) (c13 : w.cell? ⟨g, o + 13, none⟩ = some (.int .u8 x13))
    (hoff : x12 / 16 * 4 = off) (h20 : 20 ≤ off) (hle : off ≤ n) :
    Calls Yba.prog 7 #[.pointer (some ⟨b, 0, none⟩)] w fun e w' => e = .returned (.tuple #[.agg #[.int .u64 0, .int .u64 0, .pointer none, .int .u16 (x0 * 256 + x1), .int .u64 0, .int .u64 0, .pointer none, .int .u16 (x2 * 256 + x3),
        .int .u8 hop, .int .u32 (x4 * 16777216 + x5 * 65536 + x6 * 256 + x7), .int .u32 (x8 * 16777216 + x9 * 65536 + x10 * 256 + x11), .int .u8 x13, .slice (tailAddr g o c off) (n - off) (c - off)], .bool true]) ∧
      Below w.heap.size w w' := by
  have hpk := hp
  obtain ⟨p0, p1, p2, p3, p4, p5, p6, p7, p8⟩ := hp
  obtain ⟨q1, q2⟩ := b12
  have hbB : b < w.heap.size := World.block_lt_of_cell? w _ p0
  have hgB : g < w.heap.size := World.block_lt_of_cell? w _ c0
  have hl12 : (12 : Int) < (n : Int) := by omega
  have hl20 : (20 : Int) ≤ (n : Int) := by omega
  go_enter Yba.func7, Yba.ntmps7
  go_wp2_with fail
  have ha : ∀ O : Obj, Below w.heap.size w (w.alloc O) := fun O => (Below.refl _ _).alloc (Nat.le_refl _) O
  refine (ends_any b g o n c hop 6 x0 x1 x2 x3 _ (hpk.old (ha _)) (by omega) hnc b0.1 b0.2 b1.1 b1.2 b2.1 b2.2 b3.1 b3.2 (((ha _).cell hgB).trans c0) (((ha _).cell hgB).trans c1) (((ha _).cell hgB).trans c2) (((ha _).cell hgB).trans c3)).mono ?_
  rintro e w1 ⟨rfl, hb1⟩
  have hq : Below w.heap.size w w1 := (ha _).trans (hb1.mono (by simp))
  have hz : w.heap.size < w1.heap.size := by have := hb1.size; simp at this; omega
  have hcw : ∀ i, w1.cell? ⟨w.heap.size, i, none⟩ = _ := fun i => hb1.cell (p := ⟨w.heap.size, i, none⟩) (by simp)
  have k0 : w1.cell? ⟨w.heap.size, 0, none⟩ = some (.int .u64 0) := (hcw 0).trans (by simp [go_sem])
  have k1 : w1.cell? ⟨w.heap.size, 1, none⟩ = some (.int .u64 0) := (hcw 1).trans (by simp [go_sem])
  have k2 : w1.cell? ⟨w.heap.size, 2, none⟩ = some (.pointer none) := (hcw 2).trans (by simp [go_sem])
  have k3 : w1.cell? ⟨w.heap.size, 3, none⟩ = some (.int .u16 0) := (hcw 3).trans (by simp [go_sem])
  have k4 : w1.cell? ⟨w.heap.size, 4, none⟩ = some (.int .u64 0) := (hcw 4).trans (by simp [go_sem])
  have k5 : w1.cell? ⟨w.heap.size, 5, none⟩ = some (.int .u64 0) := (hcw 5).trans (by simp [go_sem])
  have k6 : w1.cell? ⟨w.heap.size, 6, none⟩ = some (.pointer none) := (hcw 6).trans (by simp [go_sem])
  have k7 : w1.cell? ⟨w.heap.size, 7, none⟩ = some (.int .u16 0) := (hcw 7).trans (by simp [go_sem])
  have k8 : w1.cell? ⟨w.heap.size, 8, none⟩ = some (.int .u8 0) := (hcw 8).trans (by simp [go_sem])
  have k9 : w1.cell? ⟨w.heap.size, 9, none⟩ = some (.int .u32 0) := (hcw 9).trans (by simp [go_sem])
  have k10 : w1.cell? ⟨w.heap.size, 10, none⟩ = some (.int .u32 0) := (hcw 10).trans (by simp [go_sem])
  have k11 : w1.cell? ⟨w.heap.size, 11, none⟩ = some (.int .u8 0) := (hcw 11).trans (by simp [go_sem])
  have k12 : w1.cell? ⟨w.heap.size, 12, none⟩ = some (.slice none 0 0) := (hcw 12).trans (by simp [go_sem])
  have hfw : ∀ i, w1.frozen? ⟨w.heap.size, i, none⟩ = false := fun i => (hb1.frozen (p := ⟨w.heap.size, i, none⟩) (by simp)).trans (by simp [go_sem])
  clear hcw
  have hold : ∀ bl o, bl < w.heap.size → w1.cell? ⟨bl, o, none⟩ = w.cell? ⟨bl, o, none⟩ := fun bl o h => hq.cell (p := ⟨bl, o, none⟩) h
  have HB : Hid (Below w.heap.size w w1) := hq
  clear hb1 hq ha
  go_wp2
  have hz' : ¬ w1.heap.size = w.heap.size := by omega
  have hz2 : ¬ w1.heap.size + 1 = w.heap.size := by omega
  have s1 : w.heap.size < w1.heap.size + 1 := by omega
  have s2 : w.heap.size < w1.heap.size + 1 + 1 := by omega
  have s3 : w.heap.size < w1.heap.size + 1 + 1 + 1 := by omega
  have s4 : w.heap.size < w1.heap.size + 1 + 1 + 1 + 1 := by omega
  have hl4 : (4 : Int) ≤ (n : Int) := by omega
  have hl8 : (8 : Int) ≤ (n : Int) := by omega
  have hl13 : (13 : Int) < (n : Int) := by omega
  have hlo0 : (0 : Int) ≤ (off : Int) := by omega
  have hlo : (off : Int) ≤ (n : Int) := by omega
  have hnc' : (n : Int) ≤ (c : Int) := by omega
  have tok4 : True := trivial
  have hc4 : ¬ c = 4 := by omega
  have hc8 : ¬ c = 8 := by omega
  by_cases hco : c = off
  · subst hco
    go_region_held3 (fun w' => (∀ bl o, bl < w.heap.size → w'.cell? ⟨bl, o, none⟩ = w.cell? ⟨bl, o, none⟩) ∧
        w'.cell? ⟨w1.heap.size, 0, none⟩ = some (.int .u64 0) ∧ w'.cell? ⟨w1.heap.size, 1, none⟩ = some (.int .u64 0) ∧ w'.cell? ⟨w1.heap.size, 2, none⟩ = some (.pointer none) ∧ w'.cell? ⟨w1.heap.size, 3, none⟩ = some (.int .u16 (x0 * 256 + x1)) ∧
        w'.cell? ⟨w1.heap.size + 1, 0, none⟩ = some (.int .u64 0) ∧ w'.cell? ⟨w1.heap.size + 1, 1, none⟩ = some (.int .u64 0) ∧ w'.cell? ⟨w1.heap.size + 1, 2, none⟩ = some (.pointer none) ∧ w'.cell? ⟨w1.heap.size + 1, 3, none⟩ = some (.int .u16 (x2 * 256 + x3)))
      (exact ⟨fun bl o hbl => Below.cell (p := ⟨bl, o, none⟩) (B := w.heap.size) (by repeat (first | with_reducible exact HB.out | with_reducible refine below_drewN ?_ _ | with_reducible refine Below.drew ?_ | with_reducible refine Below.alloc ?_ (by (try simp) <;> omega) _ | with_reducible refine Below.setCell ?_ (by (try simp) <;> omega) _)) hbl, by simp [go_sem], by simp [go_sem], by simp [go_sem], by simp [go_sem], by simp [go_sem], by simp [go_sem], by simp [go_sem], by simp [go_sem]⟩)
      (first
        | (go_at_call 18; have _t := tok4; refine (u32 g (o + 4) (n - 4) (c - 4) x4 x5 x6 x7 _ (by omega) b4.1 b4.2 b5.1 b5.2 b6.1 b6.2 b7.1 b7.2 ?_ ?_ ?_ ?_).mono ?_; (exact ((‹(∀ bl o, bl < w.heap.size → World.cell? _ ⟨bl, o, none⟩ = w.cell? ⟨bl, o, none⟩) ∧ _›).1 _ _ hgB).trans c4); (exact ((‹(∀ bl o, bl < w.heap.size → World.cell? _ ⟨bl, o, none⟩ = w.cell? ⟨bl, o, none⟩) ∧ _›).1 _ _ hgB).trans c5); (exact ((‹(∀ bl o, bl < w.heap.size → World.cell? _ ⟨bl, o, none⟩ = w.cell? ⟨bl, o, none⟩) ∧ _›).1 _ _ hgB).trans c6); (exact ((‹(∀ bl o, bl < w.heap.size → World.cell? _ ⟨bl, o, none⟩ = w.cell? ⟨bl, o, none⟩) ∧ _›).1 _ _ hgB).trans c7); rintro e w' ⟨rfl, m, rfl⟩; clear tok4)
        | (go_at_call 18; refine (u32 g (o + 8) (n - 8) (c - 8) x8 x9 x10 x11 _ (by omega) b8.1 b8.2 b9.1 b9.2 b10.1 b10.2 b11.1 b11.2 ?_ ?_ ?_ ?_).mono ?_; (exact ((‹(∀ bl o, bl < w.heap.size → World.cell? _ ⟨bl, o, none⟩ = w.cell? ⟨bl, o, none⟩) ∧ _›).1 _ _ hgB).trans c8); (exact ((‹(∀ bl o, bl < w.heap.size → World.cell? _ ⟨bl, o, none⟩ = w.cell? ⟨bl, o, none⟩) ∧ _›).1 _ _ hgB).trans c9); (exact ((‹(∀ bl o, bl < w.heap.size → World.cell? _ ⟨bl, o, none⟩ = w.cell? ⟨bl, o, none⟩) ∧ _›).1 _ _ hgB).trans c10); (exact ((‹(∀ bl o, bl < w.heap.size → World.cell? _ ⟨bl, o, none⟩ = w.cell? ⟨bl, o, none⟩) ∧ _›).1 _ _ hgB).trans c11); rintro e w' ⟨rfl, m, rfl⟩))
    go_wp2
    refine bodyPost_ret (v := .tuple #[.agg #[.int .u64 0, .int .u64 0, .pointer none, .int .u16 (x0 * 256 + x1), .int .u64 0, .int .u64 0, .pointer none, .int .u16 (x2 * 256 + x3), .int .u8 hop, .int .u32 (x4 * 16777216 + x5 * 65536 + x6 * 256 + x7), .int .u32 (x8 * 16777216 + x9 * 65536 + x10 * 256 + x11), .int .u8 x13, .slice (some ⟨g, o, none⟩) 0 0], .bool true]) (by simp [results, Yba.results7, go_sem, k0, k1, k2, k3, k4, k5, k6, k7, k8, k9, k10, k11, k12, s1, s2, s3, hz]) rfl ⟨?_, ?_⟩
    · have e1 : n - c = 0 := by omega
      simp [tailAddr, e1]
    · repeat (first | with_reducible exact HB.out | with_reducible refine below_drewN ?_ _ | with_reducible refine Below.drew ?_ | with_reducible refine Below.alloc ?_ (by (try simp) <;> omega) _ | with_reducible refine Below.setCell ?_ (by (try simp) <;> omega) _)
  · go_region_held3 (fun w' => (∀ bl o, bl < w.heap.size → w'.cell? ⟨bl, o, none⟩ = w.cell? ⟨bl, o, none⟩) ∧
        w'.cell? ⟨w1.heap.size, 0, none⟩ = some (.int .u64 0) ∧ w'.cell? ⟨w1.heap.size, 1, none⟩ = some (.int .u64 0) ∧ w'.cell? ⟨w1.heap.size, 2, none⟩ = some (.pointer none) ∧ w'.cell? ⟨w1.heap.size, 3, none⟩ = some (.int .u16 (x0 * 256 + x1)) ∧
        w'.cell? ⟨w1.heap.size + 1, 0, none⟩ = some (.int .u64 0) ∧ w'.cell? ⟨w1.heap.size + 1, 1, none⟩ = some (.int .u64 0) ∧ w'.cell? ⟨w1.heap.size + 1, 2, none⟩ = some (.pointer none) ∧ w'.cell? ⟨w1.heap.size + 1, 3, none⟩ = some (.int .u16 (x2 * 256 + x3)))
      (exact ⟨fun bl o hbl => Below.cell (p := ⟨bl, o, none⟩) (B := w.heap.size) (by repeat (first | with_reducible exact HB.out | with_reducible refine below_drewN ?_ _ | with_reducible refine Below.drew ?_ | with_reducible refine Below.alloc ?_ (by (try simp) <;> omega) _ | with_reducible refine Below.setCell ?_ (by (try simp) <;> omega) _)) hbl, by simp [go_sem], by simp [go_sem], by simp [go_sem], by simp [go_sem], by simp [go_sem], by simp [go_sem], by simp [go_sem], by simp [go_sem]⟩)
      (first
        | (go_at_call 18; have _t := tok4; refine (u32 g (o + 4) (n - 4) (c - 4) x4 x5 x6 x7 _ (by omega) b4.1 b4.2 b5.1 b5.2 b6.1 b6.2 b7.1 b7.2 ?_ ?_ ?_ ?_).mono ?_; (exact ((‹(∀ bl o, bl < w.heap.size → World.cell? _ ⟨bl, o, none⟩ = w.cell? ⟨bl, o, none⟩) ∧ _›).1 _ _ hgB).trans c4); (exact ((‹(∀ bl o, bl < w.heap.size → World.cell? _ ⟨bl, o, none⟩ = w.cell? ⟨bl, o, none⟩) ∧ _›).1 _ _ hgB).trans c5); (exact ((‹(∀ bl o, bl < w.heap.size → World.cell? _ ⟨bl, o, none⟩ = w.cell? ⟨bl, o, none⟩) ∧ _›).1 _ _ hgB).trans c6); (exact ((‹(∀ bl o, bl < w.heap.size → World.cell? _ ⟨bl, o, none⟩ = w.cell? ⟨bl, o, none⟩) ∧ _›).1 _ _ hgB).trans c7); rintro e w' ⟨rfl, m, rfl⟩; clear tok4)
        | (go_at_call 18; refine (u32 g (o + 8) (n - 8) (c - 8) x8 x9 x10 x11 _ (by omega) b8.1 b8.2 b9.1 b9.2 b10.1 b10.2 b11.1 b11.2 ?_ ?_ ?_ ?_).mono ?_; (exact ((‹(∀ bl o, bl < w.heap.size → World.cell? _ ⟨bl, o, none⟩ = w.cell? ⟨bl, o, none⟩) ∧ _›).1 _ _ hgB).trans c8); (exact ((‹(∀ bl o, bl < w.heap.size → World.cell? _ ⟨bl, o, none⟩ = w.cell? ⟨bl, o, none⟩) ∧ _›).1 _ _ hgB).trans c9); (exact ((‹(∀ bl o, bl < w.heap.size → World.cell? _ ⟨bl, o, none⟩ = w.cell? ⟨bl, o, none⟩) ∧ _›).1 _ _ hgB).trans c10); (exact ((‹(∀ bl o, bl < w.heap.size → World.cell? _ ⟨bl, o, none⟩ = w.cell? ⟨bl, o, none⟩) ∧ _›).1 _ _ hgB).trans c11); rintro e w' ⟨rfl, m, rfl⟩))
    go_wp2
    refine bodyPost_ret (v := .tuple #[.agg #[.int .u64 0, .int .u64 0, .pointer none, .int .u16 (x0 * 256 + x1), .int .u64 0, .int .u64 0, .pointer none, .int .u16 (x2 * 256 + x3), .int .u8 hop, .int .u32 (x4 * 16777216 + x5 * 65536 + x6 * 256 + x7), .int .u32 (x8 * 16777216 + x9 * 65536 + x10 * 256 + x11), .int .u8 x13, .slice (some ⟨g, o + off, none⟩) (n - off) (c - off)], .bool true]) (by simp [results, Yba.results7, go_sem, k0, k1, k2, k3, k4, k5, k6, k7, k8, k9, k10, k11, k12, s1, s2, s3, hz]) rfl ⟨?_, ?_⟩
    · simp [tailAddr, hco]
    · repeat (first | with_reducible exact HB.out | with_reducible refine below_drewN ?_ _ | with_reducible refine Below.drew ?_ | with_reducible refine Below.alloc ?_ (by (try simp) <;> omega) _ | with_reducible refine Below.setCell ?_ (by (try simp) <;> omega) _)

/-- The zero Segment. -/
def zseg : Array Value := #[.int .u64 0, .int .u64 0, .pointer none, .int .u16 0, .int .u64 0, .int .u64 0, .pointer none, .int .u16 0, .int .u8 0, .int .u32 0, .int .u32 0, .int .u8 0, .slice none 0 0]

set_option maxHeartbeats 2000000 in
/-- Another protocol: refused. -/
theorem tcp_no1 (b : Nat) (hop pr : Int) (ao : Option Addr) (n c : Nat) (w : World) (hp : IsPkt w b hop pr (.slice ao n c)) (hpr : (pr != 6) = true) :
    Calls Yba.prog 7 #[.pointer (some ⟨b, 0, none⟩)] w fun e w' => e = .returned (.tuple #[.agg zseg, .bool false]) ∧ Below w.heap.size w w' := by
  obtain ⟨p0, p1, p2, p3, p4, p5, p6, p7, p8⟩ := hp
  have hbB : b < w.heap.size := World.block_lt_of_cell? w _ p0
  go_enter Yba.func7, Yba.ntmps7
  go_wp2
  refine bodyPost_ret (v := .tuple #[.agg zseg, .bool false]) (by simp [results, Yba.results7, go_sem, zseg]) rfl ⟨rfl, ?_⟩
  repeat (first | with_reducible exact Below.refl _ _ | with_reducible refine Below.alloc ?_ (by (try simp) <;> omega) _)

set_option maxHeartbeats 2000000 in
/-- Shorter than a header: refused. -/
theorem tcp_no2 (b : Nat) (hop : Int) (ao : Option Addr) (n c : Nat) (w : World) (hp : IsPkt w b hop 6 (.slice ao n c)) (hn : n < 20) :
    Calls Yba.prog 7 #[.pointer (some ⟨b, 0, none⟩)] w fun e w' => e = .returned (.tuple #[.agg zseg, .bool false]) ∧ Below w.heap.size w w' := by
  obtain ⟨p0, p1, p2, p3, p4, p5, p6, p7, p8⟩ := hp
  have hbB : b < w.heap.size := World.block_lt_of_cell? w _ p0
  have hn' : (n : Int) < 20 := by omega
  go_enter Yba.func7, Yba.ntmps7
  go_wp2
  refine bodyPost_ret (v := .tuple #[.agg zseg, .bool false]) (by simp [results, Yba.results7, go_sem, zseg]) rfl ⟨rfl, ?_⟩
  repeat (first | with_reducible exact Below.refl _ _ | with_reducible refine Below.alloc ?_ (by (try simp) <;> omega) _)

set_option maxHeartbeats 2000000 in
/-- An offset that does not fit: refused. -/
theorem tcp_no3 (b g o n c : Nat) (hop x12 : Int) (w : World) (hp : IsPkt w b hop 6 (.slice (some ⟨g, o, none⟩) n c)) (hn : 20 ≤ n) (b12 : Byte x12) (c12 : w.cell? ⟨g, o + 12, none⟩ = some (.int .u8 x12))
    (hbad : x12 / 16 * 4 < 20 ∨ (n : Int) < x12 / 16 * 4) :
    Calls Yba.prog 7 #[.pointer (some ⟨b, 0, none⟩)] w fun e w' => e = .returned (.tuple #[.agg zseg, .bool false]) ∧ Below w.heap.size w w' := by
  obtain ⟨p0, p1, p2, p3, p4, p5, p6, p7, p8⟩ := hp
  obtain ⟨q1, q2⟩ := b12
  have hbB : b < w.heap.size := World.block_lt_of_cell? w _ p0
  have hgB : g < w.heap.size := World.block_lt_of_cell? w _ c12
  have hl12 : (12 : Int) < (n : Int) := by omega
  have hl20 : (20 : Int) ≤ (n : Int) := by omega
  by_cases hs : x12 / 16 * 4 < 20
  all_goals
    go_enter Yba.func7, Yba.ntmps7
    go_wp2
    refine bodyPost_ret (v := .tuple #[.agg zseg, .bool false]) (by simp [results, Yba.results7, go_sem, zseg]) rfl ⟨rfl, ?_⟩
    repeat (first | with_reducible exact Below.refl _ _ | with_reducible refine Below.alloc ?_ (by (try simp) <;> omega) _)
end Go.Proofs.Ybulkcufi.Cap
