/-
  THE FRAME of the roads through package cairn: what an append to an owned row leaves alone; the heads of CBOR items.
-/
import Derived.Test.YbulkcufiRows
import Derived.WalkKit
import Derived.WalkSpells
import Derived.WalkLawsBesides
import Derived.StillTactics
import Derived.Laws.Pointers
import Derived.RegionTactic
import Derived.Deep.QuietTactic
import Derived.BigQuiet
import Derived.Deep.RegionHeld3
import Derived.RowKit3
import Derived.Lib.EndianBits
import Derived.Stop.LaidErr
import Derived.ArgAppend
namespace Go.Proofs.Ybulkcufi.Rec
open Go.RowKit

theorem info5 : (Yba.prog.info? 5).map (fun i => (i.zero, i.size, i.bytes)) = some (some (.int .u8 0), 1, 1) := by kernel_rfl
theorem info3 : (Yba.prog.info? 3).map (fun i => (i.zero, i.size, i.bytes)) = some (some (.int .i64 0), 1, 8) := by kernel_rfl

/-- What lies below N, and every block whose element type is not e, is as it was. -/
def Fr (N : Nat) (e : TypeId) (w w' : World) : Prop :=
  w'.os = w.os ∧ w'.tape = w.tape ∧ w'.output = w.output ∧ w.heap.size ≤ w'.heap.size ∧
    ∀ k, k < w.heap.size → (k < N ∨ ∀ cur m, w.heap[k]? ≠ some (.cells cur e m)) → w'.heap[k]? = w.heap[k]?

theorem Fr.refl (N : Nat) (e : TypeId) (w : World) : Fr N e w w := ⟨rfl, rfl, rfl, Nat.le_refl _, fun _ _ _ => rfl⟩
theorem Fr.trans {N : Nat} {e : TypeId} {a b c : World} (h : Fr N e a b) (k : Fr N e b c) : Fr N e a c := by
  obtain ⟨h1, h2, h3, h4, h5⟩ := h
  obtain ⟨k1, k2, k3, k4, k5⟩ := k
  refine ⟨k1.trans h1, k2.trans h2, k3.trans h3, Nat.le_trans h4 k4, fun i hi hc => ?_⟩
  have e1 := h5 i hi hc
  refine (k5 i (by omega) ?_).trans e1
  rcases hc with hc | hc
  · exact .inl hc
  · exact .inr (by rw [e1]; exact hc)
theorem Fr.alloc {N : Nat} {e : TypeId} {a w : World} (h : Fr N e a w) (o : Obj) : Fr N e a (w.alloc o) :=
  h.trans ⟨rfl, rfl, rfl, by simp, fun k hk _ => Below.heap_alloc _ _ _ hk⟩
theorem Fr.drew {N : Nat} {e : TypeId} {a w : World} (h : Fr N e a w) : Fr N e a w.drew := h
theorem Fr.drewN {N : Nat} {e : TypeId} {a w : World} (h : Fr N e a w) (n : Nat) : Fr N e a (w.drewN n) := h
theorem Fr.grown {N : Nat} {e : TypeId} {a w w' : World} {v : Value} {n : Nat} {xs : List Value} (h : Fr N e a w) (hown : w.ownsRow N e 1 v n xs) (hg : w.grownBy w' v.ownBlock) : Fr N e a w' := by
  refine h.trans ⟨hg.os, hg.tape, hg.output, hg.size, fun k hk hc => hg.block k hk fun he => ?_⟩
  have hlt := hown.lt k he.symm
  rcases hown.2 with ⟨rfl, _⟩ | ⟨g, cap, cur, rfl, _, hcur, _⟩
  · simp [Value.ownBlock] at he
  · simp only [Value.ownBlock, Option.some.injEq] at he
    subst he
    rcases hc with hc | hc
    · omega
    · exact hc _ _ hcur
theorem Fr.below {N : Nat} {e : TypeId} {w w' : World} (h : Fr N e w w') (hN : N ≤ w.heap.size) : Below N w w' :=
  ⟨h.1, h.2.1, h.2.2.1, h.2.2.2.1, fun k hk => h.2.2.2.2 k (by omega) (.inl hk)⟩
theorem Fr.size {N : Nat} {e : TypeId} {w w' : World} (h : Fr N e w w') : w.heap.size ≤ w'.heap.size := h.2.2.2.1
/-- A row of another element type stays owned. -/
theorem Fr.owns {N M : Nat} {e e' : TypeId} {w w' : World} {v : Value} {n size : Nat} {xs : List Value} (h : Fr N e w w') (hne : e' ≠ e) (hown : w.ownsRow M e' size v n xs) : w'.ownsRow M e' size v n xs := by
  rcases hown with ⟨h1, ⟨rfl, h2⟩ | ⟨g, cap, cur, h2, h3, h4, h5⟩⟩
  · exact ⟨h1, .inl ⟨rfl, h2⟩⟩
  · refine ⟨h1, .inr ⟨g, cap, cur, h2, h3, ?_, h5⟩⟩
    rw [h.2.2.2.2 g ?_ (.inr ?_)]
    · exact h4
    · by_cases hg : g < w.heap.size
      · exact hg
      · rw [Array.getElem?_eq_none (by omega)] at h4; cases h4
    · intro cur' m he
      rw [h4] at he
      simp at he
      exact hne he.2.1

theorem ints_one (k : IntKind) (l : List Int) : ∀ u ∈ l.map (Value.int k), u.oneCell' = true := ints_oneCell k l

theorem cell_two_new (w : World) (x y : Value) (t : TypeId) : ∀ j u, [x, y][j]? = some u → (w.alloc (.cells #[x, y] t)).cell? ((⟨w.heap.size, 0, none⟩ : Addr).add j) = some u := by
  intro j u h
  match j, h with
  | 0, h => simp at h; subst h; simp [Addr.add, go_sem]
  | 1, h => simp at h; subst h; simp [Addr.add, go_sem]
theorem cell_three_new (w : World) (x y z : Value) (t : TypeId) : ∀ j u, [x, y, z][j]? = some u → (w.alloc (.cells #[x, y, z] t)).cell? ((⟨w.heap.size, 0, none⟩ : Addr).add j) = some u := by
  intro j u h
  match j, h with
  | 0, h => simp at h; subst h; simp [Addr.add, go_sem]
  | 1, h => simp at h; subst h; simp [Addr.add, go_sem]
  | 2, h => simp at h; subst h; simp [Addr.add, go_sem]
theorem one_int (k : IntKind) (x : Int) : ∀ u ∈ [Value.int k x], u.oneCell' = true := by
  intro u hu; simp at hu; subst hu; rfl
theorem two_int (k : IntKind) (x y : Int) : ∀ u ∈ [Value.int k x, .int k y], u.oneCell' = true := by
  intro u hu; simp at hu; rcases hu with rfl | rfl <;> rfl
theorem three_int (k : IntKind) (x y z : Int) : ∀ u ∈ [Value.int k x, .int k y, .int k z], u.oneCell' = true := by
  intro u hu; simp at hu; rcases hu with rfl | rfl | rfl <;> rfl

set_option maxRecDepth 100000 in
set_option maxHeartbeats 1000000 in
theorem ahead1 (N n : Nat) (maj v : Int) (sv : Value) (xs : List Value) (w : World) (hown : w.ownsRow N 5 1 sv n xs) (hN : N ≤ w.heap.size) (hn : n ≤ 100000) (hm0 : 0 ≤ maj) (hm : maj ≤ 7) (hv0 : 0 ≤ v) (hv : v < 24) :
    Calls Yba.prog 24 #[sv, .int .u8 maj, .int .u64 v] w fun e w' => ∃ sv', e = .returned sv' ∧ w'.ownsRow N 5 1 sv' (n + 1) (xs ++ [.int .u8 (bits .or .u8 (maj * 32) v)]) ∧ Fr N 5 w w' := by
  obtain ⟨i0, hi, hz0, hz1, hz2⟩ := info_parts info5
  go_enter Yba.func24, Yba.ntmps24
  go_wp2_with (at_builtin; refine wpList_append_own _ rfl _ _ 22 rfl N 5 i0 (.int .u8 0) 1 1 Yba.underlying22 hi hz0 hz1 hz2 rfl (by decide) _ _ _ rfl (hown.alloc _) ⟨w.heap.size, 0, none⟩ 1 1 [_] rfl rfl (cell_one_new _ _ _) (one_int _ _) (by unfold maxLen; omega) (by omega) (by simp; omega) ?_)
  intro v' w' h1 h2 _
  have hfr := Fr.grown ((Fr.refl N 5 w).alloc _) (hown.alloc _) h2
  clear h2 hown
  go_wp2
  go_ret
  exact ⟨_, rfl, h1, hfr⟩

set_option maxRecDepth 100000 in
set_option maxHeartbeats 1000000 in
theorem ahead2 (N n : Nat) (maj v : Int) (sv : Value) (xs : List Value) (w : World) (hown : w.ownsRow N 5 1 sv n xs) (hN : N ≤ w.heap.size) (hn : n ≤ 100000) (hm0 : 0 ≤ maj) (hm : maj ≤ 7) (hv0 : 24 ≤ v) (hv : v ≤ 255) :
    Calls Yba.prog 24 #[sv, .int .u8 maj, .int .u64 v] w fun e w' => ∃ sv', e = .returned sv' ∧ w'.ownsRow N 5 1 sv' (n + 2) (xs ++ [.int .u8 (bits .or .u8 (maj * 32) 24), .int .u8 v]) ∧ Fr N 5 w w' := by
  obtain ⟨i0, hi, hz0, hz1, hz2⟩ := info_parts info5
  have hv1 : ¬ v < 24 := by omega
  go_enter Yba.func24, Yba.ntmps24
  go_wp2_with (at_builtin; refine wpList_append_own _ rfl _ _ 22 rfl N 5 i0 (.int .u8 0) 1 1 Yba.underlying22 hi hz0 hz1 hz2 rfl (by decide) _ _ _ rfl (hown.alloc _) ⟨w.heap.size, 0, none⟩ 2 2 [_, _] rfl rfl (cell_two_new _ _ _ _) (two_int _ _ _) (by unfold maxLen; omega) (by omega) (by simp; omega) ?_)
  intro v' w' h1 h2 _
  have hfr := Fr.grown ((Fr.refl N 5 w).alloc _) (hown.alloc _) h2
  clear h2 hown
  go_wp2
  go_ret
  exact ⟨_, rfl, h1, hfr⟩

set_option maxRecDepth 100000 in
set_option maxHeartbeats 1000000 in
theorem chead1 (N n : Nat) (maj v : Int) (sv : Value) (xs : List Value) (w : World) (hown : w.ownsRow N 5 1 sv n xs) (hN : N ≤ w.heap.size) (hn : n ≤ 100000) (hm0 : 0 ≤ maj) (hm : maj ≤ 7) (hv0 : 0 ≤ v) (hv : v < 24) :
    Calls Yba.prog 22 #[sv, .int .u8 maj, .int .i64 v] w fun e w' => ∃ sv', e = .returned sv' ∧ w'.ownsRow N 5 1 sv' (n + 1) (xs ++ [.int .u8 (bits .or .u8 (maj * 32) v)]) ∧ Fr N 5 w w' := by
  obtain ⟨i0, hi, hz0, hz1, hz2⟩ := info_parts info5
  go_enter Yba.func22, Yba.ntmps22
  go_wp2_with (at_builtin; refine wpList_append_own _ rfl _ _ 22 rfl N 5 i0 (.int .u8 0) 1 1 Yba.underlying22 hi hz0 hz1 hz2 rfl (by decide) _ _ _ rfl (hown.alloc _) ⟨w.heap.size, 0, none⟩ 1 1 [_] rfl rfl (cell_one_new _ _ _) (one_int _ _) (by unfold maxLen; omega) (by omega) (by simp; omega) ?_)
  intro v' w' h1 h2 _
  have hfr := Fr.grown ((Fr.refl N 5 w).alloc _) (hown.alloc _) h2
  clear h2 hown
  go_wp2
  go_ret
  exact ⟨_, rfl, h1, hfr⟩

set_option maxRecDepth 100000 in
set_option maxHeartbeats 1000000 in
theorem chead2 (N n : Nat) (maj v : Int) (sv : Value) (xs : List Value) (w : World) (hown : w.ownsRow N 5 1 sv n xs) (hN : N ≤ w.heap.size) (hn : n ≤ 100000) (hm0 : 0 ≤ maj) (hm : maj ≤ 7) (hv0 : 24 ≤ v) (hv : v ≤ 255) :
    Calls Yba.prog 22 #[sv, .int .u8 maj, .int .i64 v] w fun e w' => ∃ sv', e = .returned sv' ∧ w'.ownsRow N 5 1 sv' (n + 2) (xs ++ [.int .u8 (bits .or .u8 (maj * 32) 24), .int .u8 v]) ∧ Fr N 5 w w' := by
  obtain ⟨i0, hi, hz0, hz1, hz2⟩ := info_parts info5
  have hv1 : ¬ v < 24 := by omega
  go_enter Yba.func22, Yba.ntmps22
  go_wp2_with (at_builtin; refine wpList_append_own _ rfl _ _ 22 rfl N 5 i0 (.int .u8 0) 1 1 Yba.underlying22 hi hz0 hz1 hz2 rfl (by decide) _ _ _ rfl (hown.alloc _) ⟨w.heap.size, 0, none⟩ 2 2 [_, _] rfl rfl (cell_two_new _ _ _ _) (two_int _ _ _) (by unfold maxLen; omega) (by omega) (by simp; omega) ?_)
  intro v' w' h1 h2 _
  have hfr := Fr.grown ((Fr.refl N 5 w).alloc _) (hown.alloc _) h2
  clear h2 hown
  go_wp2
  go_ret
  exact ⟨_, rfl, h1, hfr⟩

set_option maxRecDepth 100000 in
set_option maxHeartbeats 1000000 in
theorem chead3 (N n : Nat) (maj v : Int) (sv : Value) (xs : List Value) (w : World) (hown : w.ownsRow N 5 1 sv n xs) (hN : N ≤ w.heap.size) (hn : n ≤ 100000) (hm0 : 0 ≤ maj) (hm : maj ≤ 7) (hv0 : 255 < v) (hv : v ≤ 65535) :
    Calls Yba.prog 22 #[sv, .int .u8 maj, .int .i64 v] w fun e w' => ∃ sv', e = .returned sv' ∧ w'.ownsRow N 5 1 sv' (n + 3) (xs ++ [.int .u8 (bits .or .u8 (maj * 32) 25), .int .u8 (v / 256), .int .u8 (v % 256)]) ∧ Fr N 5 w w' := by
  obtain ⟨i0, hi, hz0, hz1, hz2⟩ := info_parts info5
  have hv1 : ¬ v < 24 := by omega
  have hv2 : ¬ v ≤ 255 := by omega
  go_enter Yba.func22, Yba.ntmps22
  go_wp2_with (at_builtin; refine wpList_append_own _ rfl _ _ 22 rfl N 5 i0 (.int .u8 0) 1 1 Yba.underlying22 hi hz0 hz1 hz2 rfl (by decide) _ _ _ rfl (hown.alloc _) ⟨w.heap.size, 0, none⟩ 3 3 [_, _, _] rfl rfl (cell_three_new _ _ _ _ _) (three_int _ _ _ _) (by unfold maxLen; omega) (by omega) (by simp; omega) ?_)
  intro v' w' h1 h2 _
  have hfr := Fr.grown ((Fr.refl N 5 w).alloc _) (hown.alloc _) h2
  clear h2 hown
  go_wp2
  go_ret
  exact ⟨_, rfl, h1, hfr⟩

set_option maxRecDepth 100000 in
set_option maxHeartbeats 1000000 in
theorem au16 (N n : Nat) (v : Int) (sv : Value) (xs : List Value) (w : World) (hown : w.ownsRow N 5 1 sv n xs) (hN : N ≤ w.heap.size) (hn : n ≤ 100000) (hv0 : 0 ≤ v) (hv : v ≤ 65535) :
    Calls Yba.prog 25 #[.agg #[], sv, .int .u16 v] w fun e w' => ∃ sv', e = .returned sv' ∧ w'.ownsRow N 5 1 sv' (n + 2) (xs ++ [.int .u8 (v / 256), .int .u8 (v % 256)]) ∧ Fr N 5 w w' := by
  obtain ⟨i0, hi, hz0, hz1, hz2⟩ := info_parts info5
  have hcn := cell_two_new (w.alloc (.cells #[] 69)) (.int .u8 (v / 256)) (.int .u8 (v % 256)) 5
  rw [show (w.alloc (.cells #[] 69)).heap.size = w.heap.size + 1 by simp] at hcn
  have HCN : Hid _ := hcn
  clear hcn
  go_enter Yba.func25, Yba.ntmps25
  go_wp2_with (at_builtin; refine wpList_append_own _ rfl _ _ 22 rfl N 5 i0 (.int .u8 0) 1 1 Yba.underlying22 hi hz0 hz1 hz2 rfl (by decide) _ _ _ rfl ((hown.alloc _).alloc _) ⟨w.heap.size + 1, 0, none⟩ 2 2 [_, _] rfl rfl HCN.out (two_int _ _ _) (by unfold maxLen; omega) (by omega) (by simp; omega) ?_)
  intro v' w' h1 h2 _
  have hfr := Fr.grown (((Fr.refl N 5 w).alloc _).alloc _) ((hown.alloc _).alloc _) h2
  clear h2 hown
  go_wp2
  go_ret
  exact ⟨_, rfl, h1, hfr⟩

/-- An append to an owned row inside a region that draws its order. -/
theorem step_append_own {P : Program} {w : World} {ops : Array Oper} {o : Oper} {a : Act} {K : Act → World → Prop} {Q : Exit → Act → World → Prop} {E : Prop} (hgd : o.guard = none) (s x : Operand) (t : TypeId)
    (ho : o.op = .call { callee := .builtin .append, args := #[s, x], argTypes := #[t, t] })
    (base : Nat) (e : TypeId) (i : TypeInfo) (z : Value) (size bytes : Nat) (ht : P.underlying t = some (.slice e)) (hi : P.info? e = some i) (hz : i.zero = some z)
    (hsize : i.size = size) (hby : i.bytes = bytes) (hzs : z.cells.size = size) (hsz : 0 < size)
    (v : Value) (n : Nat) (xs : List Value) (hs : a.eval s = v) (hown : w.ownsRow base e size v n xs)
    (ad : Addr) (m c : Nat) (news : List Value) (hx : a.eval x = .slice (some ad) m c) (hl : news.length = m * size) (hnews : ∀ j u, news[j]? = some u → w.cell? (ad.add j) = some u) (h1 : ∀ u ∈ news, u.oneCell' = true)
    (h63 : n + m ≤ maxLen) (hbytes : (n + m) * bytes ≤ 140737488355328) (hbase : base ≤ w.heap.size)
    (h : ∀ v' w', w'.ownsRow base e size v' (n + m) (xs ++ news) → w.grownBy w' v.ownBlock → (v' = .slice none 0 0 ↔ v = .slice none 0 0 ∧ m = 0) → K (a.put o.dst v') w') :
    if Region.wanted o (yielded ops a.tmps) = true then Oper.wp P o a w K Q else E := by
  have hw : Region.wanted o (yielded ops a.tmps) = true := by simp [Region.wanted, hgd]
  rw [if_pos hw]
  exact wp_append_own w s x t ho base e i z size bytes ht hi hz hsize hby hzs hsz v n xs hs hown ad m c news hx hl hnews h1 h63 hbytes hbase h

set_option maxRecDepth 100000 in
set_option maxHeartbeats 1000000 in
theorem ahead3 (N n : Nat) (maj v : Int) (sv : Value) (xs : List Value) (w : World) (hown : w.ownsRow N 5 1 sv n xs) (hN : N ≤ w.heap.size) (hn : n ≤ 90000) (hm0 : 0 ≤ maj) (hm : maj ≤ 7) (hv0 : 255 < v) (hv : v ≤ 65535) :
    Calls Yba.prog 24 #[sv, .int .u8 maj, .int .u64 v] w fun e w' => ∃ sv', e = .returned sv' ∧ w'.ownsRow N 5 1 sv' (n + 3) (xs ++ [.int .u8 (bits .or .u8 (maj * 32) 25), .int .u8 (v / 256), .int .u8 (v % 256)]) ∧ Fr N 5 w w' := by
  obtain ⟨i0, hi, hz0, hz1, hz2⟩ := info_parts info5
  have hv1 : ¬ v < 24 := by omega
  have hv2 : ¬ v ≤ 255 := by omega
  have hwv : IntKind.u16.wrap v = v := by rw [IntKind.wrap_u16]; omega
  have HO : Hid (w.ownsRow N 5 1 sv n xs) := hown
  clear hown
  go_enter Yba.func24, Yba.ntmps24
  go_wp2
  go_region_held3 (fun _ => True) (trivial)
    (first
      | (refine step_append_own rfl (.tmp 42) (.tmp 45) 22 rfl N 5 i0 (.int .u8 0) 1 1 Yba.underlying22 hi hz0 hz1 hz2 rfl (by decide) sv n xs rfl (HO.out.alloc _) ⟨w.heap.size, 0, none⟩ 1 1 [_] rfl rfl (cell_one_new _ _ _) (one_int _ _) (by unfold maxLen; omega) (by omega) (by simp; omega) ?_; intro v1 w1 h1 h2 _; have hfr := Fr.grown ((Fr.refl N 5 w).alloc _).drew (HO.out.alloc _).drew h2; clear h2)
      | (go_at_call 25; refine (au16 N (n + 1) v _ _ _ h1 (by have := hfr.size; omega) (by omega) (by omega) (by omega)).mono ?_; rintro e w2 ⟨sv2, rfl, h4, h5⟩))
  go_wp2
  go_ret
  refine ⟨_, rfl, ?_, hfr.trans h5⟩
  simpa using h4

end Go.Proofs.Ybulkcufi.Rec
