/-
  LawS4792BBuilt: the walk.
-/
import Derived.Test.YbulkcufiCapC
import Derived.Deep.DeepCutAuto
import Derived.Deep.CutRange
import Derived.Lib.LazyBuf
namespace Go.Proofs.Ybulkcufi.Cap
open Go.RowKit
attribute [local go_sem] alloc_drewN setCell_drewN

theorem info5 : (Yba.prog.info? 5).map (fun i => (i.zero, i.size, i.bytes)) = some (some (.int .u8 0), 1, 1) := by kernel_rfl

def Z8 : Value := .int .u8 0

/-- 'make([]byte, 20, c)': the first fourteen cells written out. -/
theorem make20 (c : Nat) (C : Int) (hC : C = (c : Int)) (h20 : 20 ≤ c) (hc : c ≤ 100000) : ∃ r : List Value, r.length = c - 14 ∧ r.take 6 = List.replicate 6 (.int .u8 0) ∧ ∀ W : World, (Instr.makeSlice 22 (.int .i64 20) (.int .i64 C)).run Yba.prog W =
    .ok (.slice (some ⟨W.heap.size, 0, none⟩) 20 c) (W.alloc (.cells (.int .u8 0 :: .int .u8 0 :: .int .u8 0 :: .int .u8 0 :: .int .u8 0 :: .int .u8 0 :: .int .u8 0 :: .int .u8 0 :: .int .u8 0 :: .int .u8 0 :: .int .u8 0 :: .int .u8 0 :: .int .u8 0 :: .int .u8 0 :: r).toArray 5)) := by
  obtain ⟨i0, hi, hz0, hz1, hz2⟩ := info_parts info5
  refine ⟨List.replicate (c - 14) (.int .u8 0), by simp, by rw [List.take_replicate, Nat.min_eq_left (by omega)], fun W => ?_⟩
  subst hC
  have hr := run_make (P := Yba.prog) W 22 5 i0 (.int .u8 0) Yba.underlying22 hi hz0 .i64 .i64 20 c (by omega) (by omega) (by rw [hz2]; omega) (by omega)
  rw [hr]
  have e1 : (madeCells (Value.int IntKind.u8 0).cells ((c : Int).toNat * i0.size)) = (.int .u8 0 :: .int .u8 0 :: .int .u8 0 :: .int .u8 0 :: .int .u8 0 :: .int .u8 0 :: .int .u8 0 :: .int .u8 0 :: .int .u8 0 :: .int .u8 0 :: .int .u8 0 :: .int .u8 0 :: .int .u8 0 :: .int .u8 0 :: List.replicate (c - 14) (.int .u8 0) : List Value).toArray := by
    rw [hz1]
    apply Array.toList_inj.1
    have hcells : (Value.int IntKind.u8 0).cells = #[Value.int IntKind.u8 0] := rfl
    rw [hcells, toList_madeCells_one]
    have : (c : Int).toNat * 1 = 14 + (c - 14) := by omega
    rw [this, ← List.replicate_append_replicate]
    rfl
  rw [e1]
  simp

theorem eq27 (W : World) : (Op.equalIn 9997 27 (.pointer none) (.pointer none)).run Yba.prog W = .ok true W := by kernel_rfl

theorem or12 (a : Int) (h : 0 ≤ a) (h' : a < 256) : bits BinOp.or IntKind.u8 (a % 16 * 16) (a / 16) = a % 16 * 16 + a / 16 := by
  obtain ⟨n, rfl⟩ := Int.eq_ofNat_of_zero_le h
  have hn : n < 256 := by omega
  have key : ∀ m : Fin 256, bits BinOp.or IntKind.u8 ((m.val : Int) % 16 * 16) ((m.val : Int) / 16) = (m.val : Int) % 16 * 16 + (m.val : Int) / 16 := by decide +kernel
  exact key ⟨n, hn⟩

/-- The call's own row of bytes, at the first new block; nothing old has turned. -/
def OwnB (w wr : World) (n c : Nat) (xs : List Value) : Prop := wr.ownsRow w.heap.size 5 1 (.slice (some ⟨w.heap.size, 0, none⟩) n c) n xs ∧ Below w.heap.size w wr

theorem ownB_start (w : World) (x0 x1 x2 x3 x4 x5 x6 x7 x8 x9 x10 x11 x12 x13 : Value) (r : List Value) (c : Nat) (h20 : 20 ≤ c) (hm : c ≤ maxLen) (hr1 : r.length = c - 14) (hr2 : r.take 6 = List.replicate 6 (.int .u8 0)) :
    OwnB w (w.alloc (.cells (x0 :: x1 :: x2 :: x3 :: x4 :: x5 :: x6 :: x7 :: x8 :: x9 :: x10 :: x11 :: x12 :: x13 :: r).toArray 5)) (20 + 0) c ([x0, x1, x2, x3, x4, x5, x6, x7, x8, x9, x10, x11, x12, x13, .int .u8 0, .int .u8 0, .int .u8 0, .int .u8 0, .int .u8 0, .int .u8 0] ++ []) := by
  refine ⟨⟨by simp, .inr ⟨w.heap.size, c, _, rfl, Nat.le_refl _, heap_alloc_new w _, by omega, hm, by simp; omega, ?_⟩⟩, (Below.refl _ _).alloc (Nat.le_refl _) _⟩
  simp [hr2]

theorem one_u8 (x : Int) : ∀ u ∈ [Value.int .u8 x], u.oneCell' = true := by
  intro u hu; simp at hu; subst hu; rfl

/-- The first j bytes of the data, as cells. -/
def dat (zs : List Int) (j : Nat) : List Value := (zs.take j).map (Value.int .u8)
theorem dat_snoc (zs : List Int) (j : Nat) (h : j < zs.length) : dat zs (j + 1) = dat zs j ++ [.int .u8 (zs[j]?.getD 0)] := by
  unfold dat
  rw [List.take_succ_eq_append_getElem h, List.map_append]
  simp [h]
theorem dat_zero (zs : List Int) : dat zs 0 = [] := rfl
theorem dat_length (zs : List Int) (j : Nat) (h : j ≤ zs.length) : (dat zs j).length = j := by simp [dat]; omega
theorem dat_get (zs : List Int) (n j : Nat) (h : j < n) (hn : n ≤ zs.length) : (dat zs n)[j]? = some (.int .u8 (zs.getD j 0)) := by
  unfold dat
  rw [List.getElem?_map, List.getElem?_take, if_pos h, List.getElem?_eq_getElem (by omega)]
  simp [List.getElem?_eq_getElem (show j < zs.length by omega)]

theorem ownB_step {w wr w1 : World} {n c : Nat} {xs ys : List Value} {O : Obj} (how : OwnB w wr n c xs) (hown : w1.ownsRow w.heap.size 5 1 (.slice (some ⟨w.heap.size, 0, none⟩) (n + 1) c) (n + 1) ys) (hg : (wr.alloc O).grownBy w1 (some w.heap.size)) :
    OwnB w w1 (n + 1) c ys := by
  have hs := how.2.size
  refine ⟨hown, (how.2.alloc hs O).grown hg (by simp; omega) (fun k hk => ?_)⟩
  simp at hk; omega

/-- What the last loop reads. -/
def Seg3 (w w2 : World) (ol len : Nat) (tl : Option Addr) (zs : List Int) (wx : World) : Prop :=
  Below w.heap.size w wx ∧ wx.cell? ⟨w2.heap.size, 12, none⟩ = some (.slice tl len len) ∧ ∀ j, j < len → wx.cell? ⟨w.heap.size, 20 + ol + j, none⟩ = some (.int .u8 (zs.getD j 0))

theorem hdr_dat {hdr os : List Value} {zs : List Int} {ol len j : Nat} (hh : hdr.length = 20) (hos : os.length = ol) (hz : len ≤ zs.length) (hj : j < len) : (hdr ++ (os ++ dat zs len))[20 + ol + j]? = some (.int .u8 (zs.getD j 0)) := by
  rw [List.getElem?_append_right (by omega), List.getElem?_append_right (by omega), show 20 + ol + j - hdr.length - os.length = j by omega]
  exact dat_get zs len j hj hz

theorem seg3_start {w w2 W1 W : World} {ol len : Nat} {tl : Option Addr} {zs : List Int} {hdr os : List Value} (hw : Below w.heap.size w W1) (hsz : w.heap.size + 2 ≤ W1.heap.size)
    (hc : ∀ i u, i < 20 + ol + len → (hdr ++ (os ++ dat zs len))[i]? = some u → W1.cell? ⟨w.heap.size, i, none⟩ = some u) (hh : hdr.length = 20) (hos : os.length = ol) (hz : len ≤ zs.length)
    (hb : Below W1.heap.size W1 W) (h12 : W.cell? ⟨w2.heap.size, 12, none⟩ = some (.slice tl len len)) : Seg3 w w2 ol len tl zs W :=
  ⟨hw.trans (hb.mono (by omega)), h12, fun j hj => (hb.cell (p := ⟨w.heap.size, 20 + ol + j, none⟩) (by show w.heap.size < _; omega)).trans (hc _ _ (by omega) (hdr_dat hh hos hz hj))⟩

theorem seg3_drewN {w w2 wx : World} {ol len : Nat} {tl : Option Addr} {zs : List Int} (h : Seg3 w w2 ol len tl zs wx) (n : Nat) : Seg3 w w2 ol len tl zs (wx.drewN n) := ⟨below_drewN h.1 n, h.2⟩

set_option maxRecDepth 100000 in
set_option maxHeartbeats 4000000 in
theorem built (a0 a1 a2 a3 a4 a5 a6 a7 a8 : Int) (a9 : Option Addr) (len cap : Nat) (zs : List Int) (w : World)
    (l0 : 0 ≤ a0) (u0 : a0 < 256) (l3 : 0 ≤ a3) (u3 : a3 < 65536) (l4 : 0 ≤ a4) (u4 : a4 < 65536) (l5 : 0 ≤ a5) (u5 : a5 < 4294967296) (l6 : 0 ≤ a6) (u6 : a6 < 4294967296) (l7 : 0 ≤ a7) (u7 : a7 < 256)
    (hlen : len ≤ 1024) (hlz : len ≤ zs.length) (h9 : 0 < len → ∃ b off, a9 = some ⟨b, off, none⟩ ∧ b < w.heap.size ∧ ∀ j, j < len → w.cell? ⟨b, off + j, none⟩ = some (.int .u8 (zs.getD j 0))) :
    Calls Yba.prog 4 #[.int .u8 a0, .int .u8 a1, .int .u8 a2, .int .u16 a3, .int .u16 a4, .int .u32 a5, .int .u32 a6, .int .u8 a7, .int .u8 a8, .slice a9 len cap] w fun e w' => e = .returned (.bool true) ∧ Below w.heap.size w w' := by
  obtain ⟨pr, hpr⟩ : ∃ pr : Int, pr = if a0 % 2 = 0 then 6 else a1 := ⟨_, rfl⟩
  obtain ⟨ol, hol, hol'⟩ : ∃ ol : Nat, (ol : Int) = (if 5 < a7 % 16 then (a7 % 16 - 5) * 4 else 0) ∧ ol ≤ 40 := ⟨(if 5 < a7 % 16 then (a7 % 16 - 5) * 4 else 0).toNat, by split <;> omega, by split <;> omega⟩
  have Hpr : Hid (pr = if a0 % 2 = 0 then 6 else a1) := hpr
  have Hol : Hid ((ol : Int) = (if 5 < a7 % 16 then (a7 % 16 - 5) * 4 else 0)) := hol
  clear hpr hol
  have hlen' : (len : Int) ≤ 1024 := by omega
  obtain ⟨i0, hi, hz0, hz1, hz2⟩ := info_parts info5
  obtain ⟨r, hr1, hr2, hmk⟩ := make20 (20 + ol + len) (20 + ol + len) (by omega) (by omega) (by omega)
  go_enter Yba.func4, Yba.ntmps4
  go_upto_if 38 with fail
  go_cut [21] (fun s wx => s = .int .u8 pr ∧ w = wx)
  case first =>
    by_cases he : a0 % 2 = 0
    · go_wp2
      go_meet
      exact ⟨by rw [Hpr.out, if_pos (by omega)], rfl⟩
    · go_wp2
      go_meet
      exact ⟨by rw [Hpr.out, if_neg (by omega)], rfl⟩
  obtain ⟨rfl, rfl⟩ := hcut
  go_upto_if 42 with fail
  go_cut [23] (fun s wx => s = .int .i64 ol ∧ w = wx)
  case first =>
    by_cases he : 5 < a7 % 16
    · go_wp2
      go_meet
      exact ⟨by rw [Hol.out, if_pos (by omega)], rfl⟩
    · go_wp2
      go_meet
      exact ⟨by rw [Hol.out, if_neg (by omega)], rfl⟩
  obtain ⟨rfl, rfl⟩ := hcut
  go_wp2
  obtain ⟨hdr, hhdr⟩ : ∃ hdr : List Value, hdr = [.int .u8 (a3 / 256), .int .u8 (a3 % 256), .int .u8 (a4 / 256), .int .u8 (a4 % 256), .int .u8 (a5 / 16777216), .int .u8 (a5 / 65536 % 256), .int .u8 (a5 / 256 % 256), .int .u8 (a5 % 256),
    .int .u8 (a6 / 16777216), .int .u8 (a6 / 65536 % 256), .int .u8 (a6 / 256 % 256), .int .u8 (a6 % 256), .int .u8 (bits BinOp.or IntKind.u8 (a7 % 16 * 16) (a7 / 16)), .int .u8 a8, .int .u8 0, .int .u8 0, .int .u8 0, .int .u8 0, .int .u8 0, .int .u8 0] := ⟨_, rfl⟩
  have Hh : Hid _ := hhdr
  clear hhdr
  go_loopw [24, 25] (fun v i wr => ∃ (k : Nat) (os : List Value), k ≤ ol ∧ i = .int .i64 k ∧ v = .slice (some ⟨w.heap.size, 0, none⟩) (20 + k) (20 + ol + len) ∧ os.length = k ∧ OwnB w wr (20 + k) (20 + ol + len) (hdr ++ os)) (fun _ i _ => ol - (intOf i).toNat)
  case atStart =>
    refine ⟨0, [], by omega, rfl, rfl, rfl, ?_⟩
    rw [Hh.out]
    exact ownB_start w _ _ _ _ _ _ _ _ _ _ _ _ _ _ r (20 + ol + len) (by omega) (by unfold maxLen; omega) hr1 hr2
  case round =>
    obtain ⟨k, os, hk, rfl, rfl, hos, how⟩ := hrel
    by_cases hlt : k < ol
    · go_wp2_with (at_builtin; refine wpList_append_fits _ rfl _ _ 22 rfl w.heap.size 5 i0 1 Yba.underlying22 hi hz1 w.heap.size (20 + k) (20 + ol + len) (hdr ++ os) rfl (how.1.alloc _) ⟨wr.heap.size, 0, none⟩ 1 1 [_] rfl rfl (cell_one_new _ _ _) (one_u8 _) (by omega) ?_)
      intro w1 hown' hgrow
      have how' := ownB_step how hown' hgrow
      clear hown' hgrow how
      go_wp2
      go_roundw
      case rel => exact ⟨k + 1, os ++ [_], by omega, by go_num, by rw [Nat.add_assoc], by simp [hos], how'⟩
      case measure => simp [intOf]; omega
    · obtain rfl : ol = k := by omega
      clear hlt
      go_wp2
      go_loopw [24, 26] (fun v i wr => ∃ (j : Nat), j ≤ len ∧ i = .int .i64 j ∧ v = .slice (some ⟨w.heap.size, 0, none⟩) (20 + ol + j) (20 + ol + len) ∧ OwnB w wr (20 + ol + j) (20 + ol + len) (hdr ++ (os ++ dat zs j))) (fun _ i _ => len - (intOf i).toNat)
      case atStart => exact ⟨0, by omega, rfl, rfl, by rw [dat_zero, List.append_nil]; exact how⟩
      case round =>
        clear how
        obtain ⟨j, hj, rfl, rfl, how⟩ := hrel
        by_cases hlt : j < len
        · obtain ⟨b, off, hab, hbB, hcell⟩ := h9 (by omega)
          subst hab
          have hcx : wr.cell? ⟨b, off + j, none⟩ = some (.int .u8 (zs.getD j 0)) := (how.2.cell hbB).trans (hcell j hlt)
          go_wp2_with (at_builtin; refine wpList_append_fits _ rfl _ _ 22 rfl w.heap.size 5 i0 1 Yba.underlying22 hi hz1 w.heap.size (20 + ol + j) (20 + ol + len) (hdr ++ (os ++ dat zs j)) rfl (how.1.alloc _) ⟨wr.heap.size, 0, none⟩ 1 1 [_] rfl rfl (cell_one_new _ _ _) (one_u8 _) (by omega) ?_)
          intro w1 hown' hgrow
          have how' := ownB_step how hown' hgrow
          clear hown' hgrow how
          go_wp2
          go_roundw
          case rel => exact ⟨j + 1, by omega, by go_num, by rw [Nat.add_assoc], by rw [dat_snoc zs j (by omega)]; exact how'⟩
          case measure => simp [intOf]; omega
        · obtain rfl : len = j := by omega
          clear hlt
          go_wp2_with fail
          obtain ⟨W1, hW1⟩ : ∃ W1 : World, W1 = wr.alloc (.cells #[.int .u64 0, .int .u64 0, .pointer none, .int .u64 0, .int .u64 0, .pointer none, .int .u8 a2, .int .u8 pr, .slice (some ⟨w.heap.size, 0, none⟩) (20 + ol + len) (20 + ol + len)] 33) := ⟨_, rfl⟩
          have hgr : w.heap.size < wr.heap.size := (how.1.lt _ rfl).2
          have hpk : IsPkt W1 wr.heap.size a2 pr (.slice (some ⟨w.heap.size, 0, none⟩) (20 + ol + len) (20 + ol + len)) := by
            subst hW1; exact ⟨by simp [go_sem], by simp [go_sem], by simp [go_sem], by simp [go_sem], by simp [go_sem], by simp [go_sem], by simp [go_sem], by simp [go_sem], by simp [go_sem]⟩
          have hwW : Below w.heap.size w W1 := by subst hW1; exact how.2.alloc how.2.size _
          have hcs : ∀ i u, i < 20 + ol + len → (hdr ++ (os ++ dat zs len))[i]? = some u → W1.cell? ⟨w.heap.size, i, none⟩ = some u := by
            intro i u hi' hu
            subst hW1
            rw [World.cell?_alloc_lt _ _ _ hgr]
            exact (how.1.cellAt i (by omega)).trans hu
          have hsz : w.heap.size + 2 ≤ W1.heap.size := by subst hW1; simp; omega
          rw [← hW1]
          have HW : Hid (Below w.heap.size w W1) := hwW
          have HC : Hid (∀ i u, i < 20 + ol + len → (hdr ++ (os ++ dat zs len))[i]? = some u → W1.cell? ⟨w.heap.size, i, none⟩ = some u) := hcs
          clear hW1 hcs hwW how hmk
          have heqn := fun (W : World) (a : Option Addr) (n c : Nat) => run_eql_slice_nil (P := Yba.prog) W 22 5 a n c Yba.underlying22
          by_cases hok : pr = 6 ∧ 5 ≤ a7 % 16
          · obtain ⟨h6, h5⟩ := hok
            subst h6
            obtain ⟨tl, htl⟩ : ∃ tl, tl = tailAddr w.heap.size 0 (20 + ol + len) (20 + ol) := ⟨_, rfl⟩
            have hTCP : Calls Yba.prog 7 #[.pointer (some ⟨wr.heap.size, 0, none⟩)] W1 fun e w' => e = .returned (.tuple #[.agg #[.int .u64 0, .int .u64 0, .pointer none, .int .u16 a3, .int .u64 0, .int .u64 0, .pointer none, .int .u16 a4,
                .int .u8 a2, .int .u32 a5, .int .u32 a6, .int .u8 a8, .slice tl len len], .bool true]) ∧ Below W1.heap.size W1 w' := by
              have hc := HC.out
              rw [Hh.out, or12 a7 l7 u7] at hc
              have hol := Hol.out
              refine (tcp_yes wr.heap.size w.heap.size 0 (20 + ol + len) (20 + ol + len) (20 + ol) a2 (a3 / 256) (a3 % 256) (a4 / 256) (a4 % 256) (a5 / 16777216) (a5 / 65536 % 256) (a5 / 256 % 256) (a5 % 256) (a6 / 16777216) (a6 / 65536 % 256) (a6 / 256 % 256) (a6 % 256)
                (a7 % 16 * 16 + a7 / 16) a8 W1 hpk (by omega) (by omega) ⟨by omega, by omega⟩ ⟨by omega, by omega⟩ ⟨by omega, by omega⟩ ⟨by omega, by omega⟩ ⟨by omega, by omega⟩ ⟨by omega, by omega⟩ ⟨by omega, by omega⟩ ⟨by omega, by omega⟩ ⟨by omega, by omega⟩ ⟨by omega, by omega⟩ ⟨by omega, by omega⟩ ⟨by omega, by omega⟩ ⟨by omega, by omega⟩
                (hc 0 _ (by omega) rfl) (hc 1 _ (by omega) rfl) (hc 2 _ (by omega) rfl) (hc 3 _ (by omega) rfl) (hc 4 _ (by omega) rfl) (hc 5 _ (by omega) rfl) (hc 6 _ (by omega) rfl) (hc 7 _ (by omega) rfl) (hc 8 _ (by omega) rfl) (hc 9 _ (by omega) rfl) (hc 10 _ (by omega) rfl) (hc 11 _ (by omega) rfl) (hc 12 _ (by omega) rfl) (hc 13 _ (by omega) rfl)
                (by split at hol <;> omega) (by omega) (by omega)).mono ?_
              rintro e w' ⟨he, hb⟩
              refine ⟨?_, hb⟩
              rw [he, htl, show a3 / 256 * 256 + a3 % 256 = a3 by omega, show a4 / 256 * 256 + a4 % 256 = a4 by omega, show a5 / 16777216 * 16777216 + a5 / 65536 % 256 * 65536 + a5 / 256 % 256 * 256 + a5 % 256 = a5 by omega,
                show a6 / 16777216 * 16777216 + a6 / 65536 % 256 * 65536 + a6 / 256 % 256 * 256 + a6 % 256 = a6 by omega, show 20 + ol + len - (20 + ol) = len by omega]
            refine hTCP.mono ?_
            rintro e w2 ⟨rfl, hb2⟩
            have htl' : 0 < len → tl = some ⟨w.heap.size, 20 + ol, none⟩ := by
              intro h
              rw [htl, tailAddr, if_neg (by omega), Nat.zero_add]
            have HTL : Hid (0 < len → tl = some ⟨w.heap.size, 20 + ol, none⟩) := htl'
            have HB2 : Hid (Below W1.heap.size W1 w2) := hb2
            clear hb2 hTCP hpk htl htl'
            go_wp2
            have he27 := eq27
            go_region_held3 (fun w' => w'.cell? ⟨w2.heap.size, 0, none⟩ = some (.int .u64 0) ∧ w'.cell? ⟨w2.heap.size, 1, none⟩ = some (.int .u64 0) ∧ w'.cell? ⟨w2.heap.size, 2, none⟩ = some (.pointer none) ∧ w'.cell? ⟨w2.heap.size, 3, none⟩ = some (.int .u16 a3) ∧
                w'.cell? ⟨w2.heap.size, 4, none⟩ = some (.int .u64 0) ∧ w'.cell? ⟨w2.heap.size, 5, none⟩ = some (.int .u64 0) ∧ w'.cell? ⟨w2.heap.size, 6, none⟩ = some (.pointer none) ∧ w'.cell? ⟨w2.heap.size, 7, none⟩ = some (.int .u16 a4))
              (exact ⟨by simp [go_sem], by simp [go_sem], by simp [go_sem], by simp [go_sem], by simp [go_sem], by simp [go_sem], by simp [go_sem], by simp [go_sem]⟩)
              (first
                | (go_at_call 8; refine (apf _ _).mono ?_; rintro e w' ⟨rfl, rfl⟩))
            go_wp2
            have hsz2 := HB2.out.size
            go_loopw [31] (fun i wx => ∃ k : Nat, k ≤ len ∧ i = .int .i64 k ∧ Seg3 w w2 ol len tl zs wx) (fun i _ => len - (intOf i).toNat)
            case atStart =>
              exact ⟨0, by omega, rfl, seg3_start HW.out hsz HC.out (by rw [Hh.out]; rfl) hos hlz (HB2.out.trans (by repeat (first | with_reducible exact Below.refl _ _ | with_reducible refine Below.drew ?_ | with_reducible refine Below.alloc ?_ (by (try simp) <;> omega) _))) (by simp [go_sem])⟩
            case round =>
              obtain ⟨k, hk, rfl, hseg⟩ := hrel
              by_cases hlt : k < len
              · obtain ⟨b, off, hab, hbB, hcell⟩ := h9 (by omega)
                subst hab
                have htl := HTL.out (by omega)
                subst htl
                have hs := hseg.2.2 k hlt
                have hs12 := hseg.2.1
                have hd := (hseg.1.cell (p := ⟨b, off + k, none⟩) hbB).trans (hcell k hlt)
                have HSG : Hid (Seg3 w w2 ol len (some ⟨w.heap.size, 20 + ol, none⟩) zs wr) := hseg
                have hkl : (k : Int) < (len : Int) := by omega
                have hk0 : (0 : Int) ≤ (k : Int) := by omega
                clear hseg hcell h9
                go_wp2
                go_quiet (fail)
                go_wp2
                go_roundw
                case rel => exact ⟨k + 1, by omega, by go_num, seg3_drewN HSG.out _⟩
                case measure => simp [intOf]; omega
              · obtain rfl : len = k := by omega
                clear hlt
                go_wp2
                go_ret
                exact ⟨rfl, hseg.1⟩
          · have hTCP : Calls Yba.prog 7 #[.pointer (some ⟨wr.heap.size, 0, none⟩)] W1 fun e w' => e = .returned (.tuple #[.agg zseg, .bool false]) ∧ Below W1.heap.size W1 w' := by
              by_cases h6 : pr = 6
              · subst h6
                refine tcp_no3 _ _ 0 _ _ a2 (a7 % 16 * 16 + a7 / 16) W1 hpk (by omega) ⟨by omega, by omega⟩ (HC.out 12 _ (by omega) ?_) (.inl (by omega))
                rw [Hh.out, or12 a7 l7 u7]; rfl
              · exact tcp_no1 _ a2 pr _ _ _ W1 hpk (by simpa using h6)
            refine hTCP.mono ?_
            rintro e w2 ⟨he, hb2⟩
            unfold zseg at he
            subst he
            have HB2 : Hid (Below W1.heap.size W1 w2) := hb2
            have hwant : (decide (pr = 6) && decide (5 ≤ a7 % 16)) = false := by simpa using hok
            clear hb2 hTCP hpk
            by_cases h6 : pr = 6
            · subst h6
              have hn5 : a7 % 16 < 5 := by omega
              clear hok hwant
              go_wp2
              go_ret
              exact ⟨rfl, ((HW.out.trans (HB2.out.mono (by omega))).alloc (by have := HB2.out.size; omega) _)⟩
            · have h6b : (pr == 6) = false := by simpa using h6
              clear hok hwant
              go_wp2
              go_ret
              exact ⟨rfl, ((HW.out.trans (HB2.out.mono (by omega))).alloc (by have := HB2.out.size; omega) _)⟩
end Go.Proofs.Ybulkcufi.Cap
