/-
  LawS4792BModel: the walk.
-/
import Derived.Test.YbulkcufiCapG
import Derived.Deep.DeepCutAuto
import Derived.Deep.CutRange
import Derived.Lib.LazyBuf
import Derived.Laws.CopyOwn
namespace Go.Proofs.Ybulkcufi.Cap
open Go.RowKit
attribute [local go_sem] alloc_drewN setCell_drewN

theorem minfo5 : (Yba.prog.info? 5).map (fun i => (i.zero, i.size, i.bytes)) = some (some (.int .u8 0), 1, 1) := by kernel_rfl
theorem msize5 : (Yba.prog.info? 5).map (·.size) = some 1 := by kernel_rfl
theorem meq27 (W : World) : (Op.equalIn 9997 27 (.pointer none) (.pointer none)).run Yba.prog W = .ok true W := by kernel_rfl

/-- 'make([]byte, n)'. -/
theorem maken (n : Nat) (hn : n ≤ 100000) : ∀ W : World, (Instr.makeSlice 22 (.int .i64 (n : Int)) (.int .i64 (n : Int))).run Yba.prog W =
    .ok (.slice (some ⟨W.heap.size, 0, none⟩) n n) (W.alloc (.cells (madeCells #[.int .u8 0] n) 5)) := by
  obtain ⟨i0, hi, hz0, hz1, hz2⟩ := info_parts minfo5
  intro W
  have hr := run_make (P := Yba.prog) W 22 5 i0 (.int .u8 0) Yba.underlying22 hi hz0 .i64 .i64 n n (by omega) (by omega) (by rw [hz2]; omega) (by omega)
  rw [hr, hz1]
  simp [Value.cells]

/-- The payload's bytes as cells. -/
def pay (zs : List Int) (n : Nat) : List Value := (zs.take n).map (Value.int .u8)
theorem pay_length (zs : List Int) (n : Nat) (h : n ≤ zs.length) : (pay zs n).length = n := by simp [pay]; omega
theorem pay_get (zs : List Int) (n j : Nat) (h : j < n) (hn : n ≤ zs.length) : (pay zs n)[j]? = some (.int .u8 (zs.getD j 0)) := by
  unfold pay
  rw [List.getElem?_map, List.getElem?_take, if_pos h, List.getElem?_eq_getElem (by omega)]
  simp [List.getElem?_eq_getElem (show j < zs.length by omega)]
theorem pay_some (zs : List Int) (n j : Nat) (v : Value) (hn : n ≤ zs.length) (h : (pay zs n)[j]? = some v) : j < n ∧ v = .int .u8 (zs.getD j 0) := by
  by_cases hj : j < n
  · rw [pay_get zs n j hj hn] at h; exact ⟨hj, (Option.some.inj h).symm⟩
  · rw [List.getElem?_eq_none (by rw [pay_length zs n hn]; omega)] at h; cases h

/-- The copy as the law holds it: nothing old has turned; the first new block, where there is one, holds the payload. -/
def CpB (w wx : World) (len : Nat) (zs : List Int) : Prop := Below w.heap.size w wx ∧ ∀ j, j < len → wx.cell? ⟨w.heap.size, j, none⟩ = some (.int .u8 (zs.getD j 0))

theorem cpB_of {w wx : World} {len : Nat} {zs : List Int} {t : TypeId} (hn : len ≤ zs.length) (h : wx.heap[w.heap.size]? = some (.cells (splice (madeCells #[.int .u8 0] len).toList 0 (pay zs len)).toArray t (0, 0))) (hb : Below w.heap.size w wx) : CpB w wx len zs := by
  refine ⟨hb, fun j hj => ?_⟩
  rw [cell_of_row wx w.heap.size j _ t (0, 0) h]
  have hl := pay_length zs len hn
  simp only [splice, List.take_zero, List.nil_append, Nat.zero_add, List.getElem?_toArray]
  rw [List.getElem?_append_left (by omega)]
  exact pay_get zs len j hj hn

set_option maxRecDepth 100000 in
set_option maxHeartbeats 4000000 in
theorem model (a0 a1 : Int) (a2 : Option Addr) (len cap : Nat) (zs : List Int) (w : World) (l0 : 0 ≤ a0) (u0 : a0 < 256)
    (hlen : len ≤ 1024) (hlz : len ≤ zs.length) (hw : ∀ n ∈ zs, (Lit.int .u8 n).wf = true) (hnil : a2 = none → len = 0)
    (h2 : 0 < len → ∃ b off, a2 = some ⟨b, off, none⟩ ∧ b < w.heap.size ∧ ∀ j, j < len → w.cell? ⟨b, off + j, none⟩ = some (.int .u8 (zs.getD j 0))) :
    Calls Yba.prog 3 #[.int .u8 a0, .int .u8 a1, .slice a2 len cap] w fun e w' => e = .returned (.bool true) ∧ Below w.heap.size w w' := by
  have hlen' : (len : Int) ≤ 1024 := by omega
  have heqn := fun (W : World) (a : Option Addr) (n c : Nat) => run_eql_slice_nil (P := Yba.prog) W 22 5 a n c Yba.underlying22
  have hneqn := fun (W : World) (a : Option Addr) (n c : Nat) => run_neq_slice_nil (P := Yba.prog) W 22 5 a n c Yba.underlying22
  have hmk := maken len (by omega)
  go_enter Yba.func3, Yba.ntmps3
  go_upto_if 20 with fail
  go_cut [7] (fun s wx => ∃ ca, s = .slice ca len len ∧ ca.isNone = a2.isNone ∧ (0 < len → ca = some ⟨w.heap.size, 0, none⟩) ∧ CpB w wx len zs)
  case first =>
    rcases a2 with _ | x
    · obtain rfl := hnil rfl
      go_wp2
      go_meet
      exact ⟨none, rfl, rfl, fun h => by omega, Below.refl _ _, fun j hj => by omega⟩
    · go_upto_region 6 with fail
      go_wp2_with (refine wpList_copy_splice rfl (.tmp 24) (.tmp 25) 22 22 rfl 5 Yba.underlying22 msize5 (some ⟨w.heap.size, 0, none⟩) (some x) len len len cap rfl rfl w.heap.size 0 (madeCells #[.int .u8 0] len).toList 5 (by exact heap_alloc_new w _) (pay zs len) ?c1 ?c2 ?c3 ?c4 w.heap.size w (by exact (Below.refl _ _).alloc (Nat.le_refl _) _) (Nat.le_refl _) ?_)
      case c1 => rw [pay_length zs len hlz]; simp
      case c2 =>
        intro hpos j v hv
        obtain ⟨hj, rfl⟩ := pay_some zs len j v hlz hv
        obtain ⟨b, off, hab, hbB, hcell⟩ := h2 (by omega)
        obtain rfl : x = ⟨b, off, none⟩ := by simpa using hab
        rw [Go.WideShapes.add_plain]
        refine Eq.trans (World.cell?_alloc_lt _ _ _ hbB) ?_
        exact hcell j hj
      case c3 => rw [pay_length zs len hlz]; simp [size_madeCells]
      case c4 => exact ints_oneCell _ _
      intro w1 hg1 hb1
      have HCB : Hid (CpB w w1 len zs) := cpB_of hlz hg1.out hb1
      clear hg1 hb1 hmk hneqn
      go_wp2
      go_meet
      exact ⟨_, rfl, rfl, fun _ => rfl, HCB.out⟩
  obtain ⟨ca, rfl, hcan, hca, hcp⟩ := hcut
  go_wp2_with fail
  obtain ⟨W1, hW1⟩ : ∃ W1 : World, W1 = wc.alloc (.cells #[.int .u64 0, .int .u64 0, .pointer none, .int .u64 0, .int .u64 0, .pointer none, .int .u8 a1, .int .u8 a0, .slice ca len len] 33) := ⟨_, rfl⟩
  have hpk : IsPkt W1 wc.heap.size a1 a0 (.slice ca len len) := by
    subst hW1; exact ⟨by simp [go_sem], by simp [go_sem], by simp [go_sem], by simp [go_sem], by simp [go_sem], by simp [go_sem], by simp [go_sem], by simp [go_sem], by simp [go_sem]⟩
  have hwc := hcp.1.size
  have hwW : Below w.heap.size w W1 := by subst hW1; exact hcp.1.alloc hcp.1.size _
  have hgl : 0 < len → w.heap.size < wc.heap.size := fun h => World.block_lt_of_cell? wc _ (hcp.2 0 h)
  have hcs : ∀ j, j < len → W1.cell? ⟨w.heap.size, j, none⟩ = some (.int .u8 (zs.getD j 0)) := by
    intro j hj
    subst hW1
    rw [World.cell?_alloc_lt _ _ _ (hgl (by omega))]
    exact hcp.2 j hj
  have hs1 : W1.heap.size = wc.heap.size + 1 := by subst hW1; simp
  rw [← hW1]
  refine (tcp_any wc.heap.size a1 a0 ca w.heap.size len zs W1 hpk hca hw hcs).mono ?_
  rintro e w2 ⟨sp, dp, h, sq, ak, fl, sa, sl, sc, ok, rfl, hsays, hb2⟩
  have hsz2 := hb2.size
  have p6 : w2.cell? ⟨wc.heap.size, 6, none⟩ = some (.int .u8 a1) := (hb2.cell (p := ⟨wc.heap.size, 6, none⟩) (by show wc.heap.size < _; omega)).trans hpk.2.2.2.2.2.2.1
  have p7 : w2.cell? ⟨wc.heap.size, 7, none⟩ = some (.int .u8 a0) := (hb2.cell (p := ⟨wc.heap.size, 7, none⟩) (by show wc.heap.size < _; omega)).trans hpk.2.2.2.2.2.2.2.1
  have p8 : w2.cell? ⟨wc.heap.size, 8, none⟩ = some (.slice ca len len) := (hb2.cell (p := ⟨wc.heap.size, 8, none⟩) (by show wc.heap.size < _; omega)).trans hpk.2.2.2.2.2.2.2.2
  have hs2 : wc.heap.size < w2.heap.size := by omega
  have hq2 : Below w.heap.size w w2 := hwW.trans (hb2.mono (by omega))
  have hcs2 : ∀ j, j < len → w2.cell? ⟨w.heap.size, j, none⟩ = some (.int .u8 (zs.getD j 0)) := fun j hj => (hb2.cell (p := ⟨w.heap.size, j, none⟩) (by show w.heap.size < _; have := hgl (by omega); omega)).trans (hcs j hj)
  have HS : Hid (TcpSays a0 a1 w.heap.size len zs sp dp h sq ak fl sa sl sc ok) := hsays
  have HC : Hid (∀ j, j < len → w2.cell? ⟨w.heap.size, j, none⟩ = some (.int .u8 (zs.getD j 0))) := hcs2
  have HB : Hid (Below w.heap.size w w2) := hq2
  have HCA : Hid (0 < len → ca = some ⟨w.heap.size, 0, none⟩) := hca
  have HG : Hid (0 < len → w.heap.size < w2.heap.size) := fun hl => by have := hgl hl; omega
  clear hb2 hsays hcs2 hq2 hca hgl hcs hwW hpk hW1 hcp hs1 hsz2 hwc hmk
  go_wp2
  go_loopw [11] (fun i wx => ∃ (k m : Nat), k ≤ len ∧ i = .int .i64 k ∧ wx = (w2.alloc (.cells #[.int .u64 0, .int .u64 0, .pointer none, .int .u16 sp, .int .u64 0, .int .u64 0, .pointer none, .int .u16 dp, .int .u8 h, .int .u32 sq, .int .u32 ak, .int .u8 fl, .slice sa sl sc] 39)).drewN m) (fun i _ => len - (intOf i).toNat)
  case atStart => exact ⟨0, 0, by omega, rfl, rfl⟩
  case round =>
    obtain ⟨k, m, hk, rfl, rfl⟩ := hrel
    by_cases hlt : k < len
    · obtain ⟨b, off, hab, hbB, hcell⟩ := h2 (by omega)
      subst hab
      have hca := HCA.out (by omega)
      subst hca
      have hs := HC.out k hlt
      have hg2 := HG.out (by omega)
      have hd := (HB.out.cell (p := ⟨b, off + k, none⟩) hbB).trans (hcell k hlt)
      have hb2 : b < w2.heap.size := by omega
      have hkl : (k : Int) < (len : Int) := by omega
      have hk0 : (0 : Int) ≤ (k : Int) := by omega
      clear hcell h2
      go_wp2
      go_quiet (fail)
      go_wp2
      go_roundw
      case rel => first | exact ⟨k + 1, _, by omega, by go_num, rfl⟩ | ((repeat apply Exists.intro); exact ⟨⟨k + 1, _, by omega, by go_num, rfl⟩, rfl⟩)
      case measure => simp [intOf]; omega
    · obtain rfl : len = k := by omega
      clear hlt
      have he27 := meq27
      rcases HS.out with ⟨rfl, rfl, rfl, rfl, rfl, rfl, rfl, rfl, rfl, rfl, hwhy⟩ | ⟨off, rfl, rfl, h20, ho20, hol, hoff, hsp, hdp, rfl, hsq, hak, hfl, hsa, hsl, hsc⟩
      · have fin : ∀ (e : Ending) (W : World), e = .returned (.bool true) → (∃ O1 O2 n, W = ((w2.alloc O1).alloc O2).drewN n) → e = .returned (.bool true) ∧ Below w.heap.size w W := by
          rintro e W he ⟨O1, O2, n, rfl⟩
          have := HB.out.size
          exact ⟨he, below_drewN ((HB.out.alloc (by omega) _).alloc (by simp; omega) _) _⟩
        have FIN : Hid (∀ (e : Ending) (W : World), e = .returned (.bool true) → (∃ O1 O2 n, W = ((w2.alloc O1).alloc O2).drewN n) → e = .returned (.bool true) ∧ Below w.heap.size w W) := fin
        clear fin
        rcases hwhy with h6 | ⟨rfl, hl⟩ | ⟨rfl, hl, hbad⟩
        · have h6b : (a0 == 6) = false := by simpa using h6
          clear HS
          go_wp2
          go_ret
          exact FIN.out _ _ rfl ⟨_, _, _, rfl⟩
        · have hl' : (len : Int) < 20 := by omega
          clear HS
          go_wp2
          go_ret
          exact FIN.out _ _ rfl ⟨_, _, _, rfl⟩
        · have hl' : (20 : Int) ≤ (len : Int) := by omega
          have hl12 : (12 : Int) < (len : Int) := by omega
          have hca := HCA.out (by omega)
          subst hca
          have hg2 := HG.out (by omega)
          have c12 := HC.out 12 (by omega)
          obtain ⟨z12, hz12⟩ : ∃ z, z = zs.getD 12 0 := ⟨_, rfl⟩
          have q12 := byteAt hw 12
          rw [← hz12] at hbad c12 q12
          obtain ⟨q1, q2⟩ := q12
          clear HS hz12
          by_cases hs : z12 / 16 * 4 < 20
          · have hs' : ¬ (20 : Int) ≤ z12 / 16 * 4 := by omega
            clear hbad
            go_wp2
            go_ret
            exact FIN.out _ _ rfl ⟨_, _, _, rfl⟩
          · have hs' : (20 : Int) ≤ z12 / 16 * 4 := by omega
            have hs2 : (len : Int) < z12 / 16 * 4 := by omega
            clear hbad
            go_wp2
            go_ret
            exact FIN.out _ _ rfl ⟨_, _, _, rfl⟩
      · have hca := HCA.out (by omega)
        subst hca
        have hg2 := HG.out (by omega)
        have KC : ∀ W : World, Below w2.heap.size w2 W → ∀ j, j < len → W.cell? ⟨w.heap.size, j, none⟩ = some (.int .u8 (zs.getD j 0)) := fun W hW j hj => (hW.cell (p := ⟨w.heap.size, j, none⟩) hg2).trans (HC.out j hj)
        have B0 : ∀ W : World, (∀ j, j < len → W.cell? ⟨w.heap.size, j, none⟩ = some (.int .u8 (zs.getD j 0))) → Calls Yba.prog 9 #[.slice (some ⟨w.heap.size, 0, none⟩) len len, .int .i64 0] W fun e w' => e = .returned (.int .u16 sp) ∧ ∃ m, w' = W.drewN m := by
          intro W hW; rw [hsp]
          exact be16 w.heap.size 0 len len 0 0 rfl _ _ W (by omega) (by omega) (byteAt hw 0).1 (byteAt hw 0).2 (byteAt hw 1).1 (byteAt hw 1).2 (hW 0 (by omega)) (hW 1 (by omega))
        have B2 : ∀ W : World, (∀ j, j < len → W.cell? ⟨w.heap.size, j, none⟩ = some (.int .u8 (zs.getD j 0))) → Calls Yba.prog 9 #[.slice (some ⟨w.heap.size, 0, none⟩) len len, .int .i64 2] W fun e w' => e = .returned (.int .u16 dp) ∧ ∃ m, w' = W.drewN m := by
          intro W hW; rw [hdp]
          exact be16 w.heap.size 0 len len 2 2 rfl _ _ W (by omega) (by omega) (byteAt hw 2).1 (byteAt hw 2).2 (byteAt hw 3).1 (byteAt hw 3).2 (hW 2 (by omega)) (hW 3 (by omega))
        have C4 : ∀ W : World, (∀ j, j < len → W.cell? ⟨w.heap.size, j, none⟩ = some (.int .u8 (zs.getD j 0))) → Calls Yba.prog 10 #[.slice (some ⟨w.heap.size, 0, none⟩) len len, .int .i64 4] W fun e w' => e = .returned (.int .u32 sq) ∧ ∃ m, w' = W.drewN m := by
          intro W hW; rw [hsq]
          exact be32 w.heap.size 0 len len 4 4 rfl _ _ _ _ W (by omega) (by omega) (byteAt hw 4).1 (byteAt hw 4).2 (byteAt hw 5).1 (byteAt hw 5).2 (byteAt hw 6).1 (byteAt hw 6).2 (byteAt hw 7).1 (byteAt hw 7).2 (hW 4 (by omega)) (hW 5 (by omega)) (hW 6 (by omega)) (hW 7 (by omega))
        have C8 : ∀ W : World, (∀ j, j < len → W.cell? ⟨w.heap.size, j, none⟩ = some (.int .u8 (zs.getD j 0))) → Calls Yba.prog 10 #[.slice (some ⟨w.heap.size, 0, none⟩) len len, .int .i64 8] W fun e w' => e = .returned (.int .u32 ak) ∧ ∃ m, w' = W.drewN m := by
          intro W hW; rw [hak]
          exact be32 w.heap.size 0 len len 8 8 rfl _ _ _ _ W (by omega) (by omega) (byteAt hw 8).1 (byteAt hw 8).2 (byteAt hw 9).1 (byteAt hw 9).2 (byteAt hw 10).1 (byteAt hw 10).2 (byteAt hw 11).1 (byteAt hw 11).2 (hW 8 (by omega)) (hW 9 (by omega)) (hW 10 (by omega)) (hW 11 (by omega))
        have HK : Hid (∀ W : World, Below w2.heap.size w2 W → ∀ j, j < len → W.cell? ⟨w.heap.size, j, none⟩ = some (.int .u8 (zs.getD j 0))) := KC
        have HB0 : Hid (∀ W : World, (∀ j, j < len → W.cell? ⟨w.heap.size, j, none⟩ = some (.int .u8 (zs.getD j 0))) → Calls Yba.prog 9 #[.slice (some ⟨w.heap.size, 0, none⟩) len len, .int .i64 0] W fun e w' => e = .returned (.int .u16 sp) ∧ ∃ m, w' = W.drewN m) := B0
        have HB2 : Hid (∀ W : World, (∀ j, j < len → W.cell? ⟨w.heap.size, j, none⟩ = some (.int .u8 (zs.getD j 0))) → Calls Yba.prog 9 #[.slice (some ⟨w.heap.size, 0, none⟩) len len, .int .i64 2] W fun e w' => e = .returned (.int .u16 dp) ∧ ∃ m, w' = W.drewN m) := B2
        have HC4 : Hid (∀ W : World, (∀ j, j < len → W.cell? ⟨w.heap.size, j, none⟩ = some (.int .u8 (zs.getD j 0))) → Calls Yba.prog 10 #[.slice (some ⟨w.heap.size, 0, none⟩) len len, .int .i64 4] W fun e w' => e = .returned (.int .u32 sq) ∧ ∃ m, w' = W.drewN m) := C4
        have HC8 : Hid (∀ W : World, (∀ j, j < len → W.cell? ⟨w.heap.size, j, none⟩ = some (.int .u8 (zs.getD j 0))) → Calls Yba.prog 10 #[.slice (some ⟨w.heap.size, 0, none⟩) len len, .int .i64 8] W fun e w' => e = .returned (.int .u32 ak) ∧ ∃ m, w' = W.drewN m) := C8
        have c12 := HC.out 12 (by omega)
        have c13 := HC.out 13 (by omega)
        have q12 := byteAt hw 12
        rw [← hfl] at c13
        obtain ⟨z12, hz12⟩ : ∃ z, z = zs.getD 12 0 := ⟨_, rfl⟩
        rw [← hz12] at hoff c12 q12
        obtain ⟨q1, q2⟩ := q12
        have hl20 : (20 : Int) ≤ (len : Int) := by omega
        have hl12 : (12 : Int) < (len : Int) := by omega
        have hl13 : (13 : Int) < (len : Int) := by omega
        have ho1 : (20 : Int) ≤ (off : Int) := by omega
        have ho2 : (off : Int) ≤ (len : Int) := by omega
        have hslI : (sl : Int) = (len : Int) - (off : Int) := by omega
        have HSA : Hid (sa = tailAddr w.heap.size 0 len off) := hsa
        have HSL : Hid (sl = len - off) := hsl
        clear KC B0 B2 C4 C8 HS hz12 hsp hdp hsq hak hfl hsa hsl hsc
        go_wp2
        have tok0 : True := trivial
        go_region_held3 (fun w' => w'.cell? ⟨w2.heap.size, 0, none⟩ = some (.int .u64 0) ∧ w'.cell? ⟨w2.heap.size, 1, none⟩ = some (.int .u64 0) ∧ w'.cell? ⟨w2.heap.size, 2, none⟩ = some (.pointer none) ∧ w'.cell? ⟨w2.heap.size, 3, none⟩ = some (.int .u16 sp) ∧
            w'.cell? ⟨w2.heap.size, 4, none⟩ = some (.int .u64 0) ∧ w'.cell? ⟨w2.heap.size, 5, none⟩ = some (.int .u64 0) ∧ w'.cell? ⟨w2.heap.size, 6, none⟩ = some (.pointer none) ∧ w'.cell? ⟨w2.heap.size, 7, none⟩ = some (.int .u16 dp))
          (exact ⟨by simp [go_sem], by simp [go_sem], by simp [go_sem], by simp [go_sem], by simp [go_sem], by simp [go_sem], by simp [go_sem], by simp [go_sem]⟩)
          (first
            | (go_at_call 8; refine (apf _ _).mono ?_; rintro e w' ⟨rfl, rfl⟩)
            | (go_at_call 9; have _t := tok0; refine (HB0.out _ (HK.out _ (by repeat (first | with_reducible exact Below.refl _ _ | with_reducible refine below_drewN ?_ _ | with_reducible refine Below.drew ?_ | with_reducible refine Below.alloc ?_ (by (try simp) <;> omega) _)))).mono ?_; rintro e w' ⟨rfl, m, rfl⟩; clear tok0)
            | (go_at_call 9; refine (HB2.out _ (HK.out _ (by repeat (first | with_reducible exact Below.refl _ _ | with_reducible refine below_drewN ?_ _ | with_reducible refine Below.drew ?_ | with_reducible refine Below.alloc ?_ (by (try simp) <;> omega) _)))).mono ?_; rintro e w' ⟨rfl, m, rfl⟩))
        go_wp2
        have tok4 : True := trivial
        have K13 : ∀ W : World, Below w2.heap.size w2 W → W.cell? ⟨w.heap.size, 13, none⟩ = some (.int .u8 fl) := fun W hW => (hW.cell (p := ⟨w.heap.size, 13, none⟩) hg2).trans c13
        have HK13 : Hid (∀ W : World, Below w2.heap.size w2 W → W.cell? ⟨w.heap.size, 13, none⟩ = some (.int .u8 fl)) := K13
        clear K13
        go_region_held3 (fun w' => w'.cell? ⟨w2.heap.size, 8, none⟩ = some (.int .u8 h) ∧ w'.cell? ⟨w2.heap.size, 9, none⟩ = some (.int .u32 sq) ∧ w'.cell? ⟨w2.heap.size, 10, none⟩ = some (.int .u32 ak) ∧ w'.cell? ⟨w2.heap.size, 11, none⟩ = some (.int .u8 fl) ∧
            w'.cell? ⟨w.heap.size, 13, none⟩ = some (.int .u8 fl))
          (exact ⟨by simp [go_sem], by simp [go_sem], by simp [go_sem], by simp [go_sem], HK13.out _ (by repeat (first | with_reducible exact Below.refl _ _ | with_reducible refine below_drewN ?_ _ | with_reducible refine Below.drew ?_ | with_reducible refine Below.alloc ?_ (by (try simp) <;> omega) _))⟩)
          (first
            | (go_at_call 10; have _t := tok4; refine (HC4.out _ (HK.out _ (by repeat (first | with_reducible exact Below.refl _ _ | with_reducible refine below_drewN ?_ _ | with_reducible refine Below.drew ?_ | with_reducible refine Below.alloc ?_ (by (try simp) <;> omega) _)))).mono ?_; rintro e w' ⟨rfl, m, rfl⟩; clear tok4)
            | (go_at_call 10; refine (HC8.out _ (HK.out _ (by repeat (first | with_reducible exact Below.refl _ _ | with_reducible refine below_drewN ?_ _ | with_reducible refine Below.drew ?_ | with_reducible refine Below.alloc ?_ (by (try simp) <;> omega) _)))).mono ?_; rintro e w' ⟨rfl, m, rfl⟩))
        go_wp2
        go_loopw [15] (fun i wx => ∃ k : Nat, k ≤ sl ∧ i = .int .i64 k ∧ Below w2.heap.size w2 wx ∧ wx.cell? ⟨w2.heap.size, 12, none⟩ = some (.slice sa sl sc)) (fun i _ => sl - (intOf i).toNat)
        case atStart => exact ⟨0, by omega, rfl, (by repeat (first | with_reducible exact Below.refl _ _ | with_reducible refine below_drewN ?_ _ | with_reducible refine Below.drew ?_ | with_reducible refine Below.alloc ?_ (by (try simp) <;> omega) _)), by simp [go_sem]⟩
        case round =>
          obtain ⟨k, hk, rfl, hbw, hs12⟩ := hrel
          clear hslI
          have hslN := HSL.out
          by_cases hlt : k < sl
          · have hsa := HSA.out
            rw [tailAddr, if_neg (by omega), Nat.zero_add] at hsa
            subst hsa
            have hx := (HK.out _ hbw) (off + k) (by omega)
            have hkl : (k : Int) < (sl : Int) := by omega
            have hk0 : (0 : Int) ≤ (k : Int) := by omega
            have hok0 : (0 : Int) ≤ (off : Int) + (k : Int) := by omega
            have hokl : (off : Int) + (k : Int) < (len : Int) := by omega
            have het : ((off : Int) + (k : Int)).toNat = off + k := by omega
            have HBW : Hid (Below w2.heap.size w2 wr) := hbw
            clear hbw hslN
            go_wp2
            go_quiet (fail)
            go_wp2
            go_roundw
            case rel => first | exact ⟨k + 1, by omega, by go_num, below_drewN HBW.out _, hs12⟩ | ((repeat apply Exists.intro); exact ⟨⟨k + 1, by omega, by go_num, below_drewN HBW.out _, hs12⟩, rfl⟩)
            case measure => simp [intOf]; omega
          · obtain rfl : sl = k := by omega
            have HBW : Hid (Below w2.heap.size w2 wr) := hbw
            clear hlt hslN hbw
            go_wp2
            go_ret
            exact ⟨rfl, HB.out.trans (HBW.out.mono (by omega))⟩
end Go.Proofs.Ybulkcufi.Cap
