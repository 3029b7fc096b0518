/-
  The closure zzs4792cbuild$1, by its contract.
-/
import Derived.Test.YbulkcufiRecD
import Derived.Deep.RegionLawGrows
import Derived.Lib.Builder
namespace Go.Proofs.Ybulkcufi.Rec
open Go.RowKit

/-- Below N all is as it was but block L; no block has gone. -/
def Kept (N L : Nat) (w w' : World) : Prop :=
  w'.os = w.os ∧ w'.tape = w.tape ∧ w'.output = w.output ∧ w.heap.size ≤ w'.heap.size ∧ ∀ k, k < N → k ≠ L → w'.heap[k]? = w.heap[k]?

theorem Kept.refl (N L : Nat) (w : World) : Kept N L w w := ⟨rfl, rfl, rfl, Nat.le_refl _, fun _ _ _ => rfl⟩
theorem Kept.trans {N L : Nat} {a b c : World} (h : Kept N L a b) (k : Kept N L b c) : Kept N L a c :=
  ⟨k.1.trans h.1, k.2.1.trans h.2.1, k.2.2.1.trans h.2.2.1, Nat.le_trans h.2.2.2.1 k.2.2.2.1, fun i hi hn => (k.2.2.2.2 i hi hn).trans (h.2.2.2.2 i hi hn)⟩
theorem Kept.size {N L : Nat} {a b : World} (h : Kept N L a b) : a.heap.size ≤ b.heap.size := h.2.2.2.1
theorem Kept.alloc {N L : Nat} {a w : World} (h : Kept N L a w) (hN : N ≤ w.heap.size) (o : Obj) : Kept N L a (w.alloc o) :=
  h.trans ⟨rfl, rfl, rfl, by simp, fun k hk _ => Below.heap_alloc _ _ _ (by omega)⟩
theorem Kept.drew {N L : Nat} {a w : World} (h : Kept N L a w) : Kept N L a w.drew := h
theorem Kept.drewN {N L : Nat} {a w : World} (h : Kept N L a w) (n : Nat) : Kept N L a (w.drewN n) := h
theorem Kept.setL {N L : Nat} {a w : World} (h : Kept N L a w) (v : Value) : Kept N L a (w.setCell ⟨L, 0, none⟩ v) :=
  h.trans ⟨rfl, rfl, rfl, by simp [World.setCell], fun k _ hne => heap_setCell_other w ⟨L, 0, none⟩ k v hne⟩
theorem Kept.fr {N L : Nat} {e : TypeId} {a w w' : World} (h : Kept N L a w) (hf : Fr N e w w') (hN : N ≤ w.heap.size) : Kept N L a w' :=
  h.trans ⟨hf.1, hf.2.1, hf.2.2.1, hf.2.2.2.1, fun k hk _ => hf.2.2.2.2 k (by omega) (.inl hk)⟩

/-- The log: still the empty literal, or a row of the call's own from N on. -/
def LogOwn (N : Nat) (w : World) (v : Value) (xs : List Value) : Prop := (∃ ao, v = .slice ao 0 0 ∧ xs = []) ∨ w.ownsRow N 3 1 v xs.length xs

theorem LogOwn.fr {N : Nat} {w w' : World} {v : Value} {xs : List Value} (h : LogOwn N w v xs) (hf : Fr N 5 w w') : LogOwn N w' v xs := by
  rcases h with h | h
  · exact .inl h
  · exact .inr (hf.owns (by decide) h)
theorem LogOwn.alloc {N : Nat} {w : World} {v : Value} {xs : List Value} (h : LogOwn N w v xs) (o : Obj) : LogOwn N (w.alloc o) v xs := by
  rcases h with h | h
  · exact .inl h
  · exact .inr (h.alloc o)

/-- Where the closure stands: its boxes, the log's cell, the log, the bytes. -/
structure At (N L B R S x i n : Nat) (vlog vb : Value) (xs ys : List Value) (w : World) : Prop where
  nsize : N ≤ w.heap.size
  brec : w.heap[B]? = some (.cells #[.pointer (some ⟨R, 0, none⟩)] 48 (0, 0))
  blog : w.heap[B + 1]? = some (.cells #[.pointer (some ⟨L, 0, none⟩)] 54 (0, 0))
  idx : w.heap[x]? = some (.cells #[.int .i64 (i : Int)] 3 (0, 0))
  log : w.heap[L]? = some (.cells #[vlog] 51 (0, 0))
  lN : L < N
  bN : B + 1 < N
  xN : x < N
  own : w.ownsRow N 5 1 vb n ys

theorem owns_get {w : World} {N : Nat} {e : TypeId} {v : Value} {n : Nat} {xs : List Value} (h : w.ownsRow N e 1 v (n + 1) xs) : ∃ g c, v = .slice (some ⟨g, 0, none⟩) (n + 1) c := by
  rcases h.2 with ⟨_, h⟩ | ⟨g, cap, cur, rfl, _⟩
  · omega
  · exact ⟨g, cap, rfl⟩

theorem neq48 (W : World) (R : Nat) : (binOp .neq 48 (.pointer (some ⟨R, 0, none⟩)) (.pointer (some ⟨R, 0, none⟩))).run Yba.prog W = .ok (.bool false) W := by
  obtain ⟨j, hj⟩ : ∃ j, Yba.prog.info? 50 = some j := Option.isSome_iff_exists.1 (by kernel_rfl)
  exact Lib.run_neq_ptr_same W ⟨R, 0, none⟩ Yba.underlying48 hj

theorem owns_mono {w : World} {N M : Nat} {e : TypeId} {size n : Nat} {v : Value} {xs : List Value} (h : w.ownsRow M e size v n xs) (hNM : N ≤ M) : w.ownsRow N e size v n xs := by
  obtain ⟨h1, h2⟩ := h
  refine ⟨h1, ?_⟩
  rcases h2 with h2 | ⟨g, cap, cur, k1, k2, k3⟩
  · exact .inl h2
  · exact .inr ⟨g, cap, cur, k1, by omega, k3⟩
theorem Fr.none (N : Nat) (e : TypeId) {w w' : World} (h : w.grownBy w' none) : Fr N e w w' := ⟨h.os, h.tape, h.output, h.size, fun k hk _ => h.block k hk (by simp)⟩

theorem low_of {N : Nat} {w w1 : World} {O : Obj} {row : Option Nat} (hg : ((w.alloc O).drew).grownBy w1 row) (hr : ∀ g, row = some g → N ≤ g) (hN : N ≤ w.heap.size) : ∀ k, k < N → w1.heap[k]? = w.heap[k]? := by
  intro k hk
  have h1 := hg.block k (by show k < (w.alloc O).heap.size; simp; omega) (fun e => by have := hr k e.symm; omega)
  exact h1.trans (Below.heap_alloc w O k (by omega))

/-- Behind the first statement. -/
def Done (N L n : Nat) (w : World) (vb : Value) (xs ys : List Value) (wx : World) : Prop :=
  ∃ v1, wx.heap[L]? = some (.cells #[v1] 51 (0, 0)) ∧ LogOwn N wx v1 xs ∧ Kept N L w wx ∧ wx.ownsRow N 5 1 vb n ys

theorem done_of {N L B R S x i n : Nat} {vlog vb v1 u : Value} {xs ys : List Value} {w w1 : World} (h : At N L B R S x i n vlog vb xs ys w) (h1 : w1.ownsRow N 3 1 v1 (xs.length + 1) (xs ++ [u])) (hfr : Fr N 3 w w1) :
    Done N L n w vb (xs ++ [u]) ys (w1.setCell ⟨L, 0, none⟩ v1) := by
  have hL : w1.heap[L]? = some (.cells #[vlog] 51 (0, 0)) := (hfr.2.2.2.2 L (by have := h.lN; have := h.nsize; omega) (.inl h.lN)).trans h.log
  have ho : w1.ownsRow N 5 1 vb n ys := hfr.owns (by decide) h.own
  refine ⟨v1, one_setCell hL, .inr ?_, ((Kept.refl N L w).fr hfr h.nsize).setL v1, ownsRow_setCell_below ho h.lN v1⟩
  rw [show (xs ++ [u]).length = xs.length + 1 by simp]
  exact ownsRow_setCell_below h1 h.lN v1

set_option maxRecDepth 100000 in
set_option maxHeartbeats 4000000 in
theorem clo_own (N L B R S x i n : Nat) (vlog vb : Value) (xs ys : List Value) (w : World) (h : At N L B R S x i n vlog vb xs ys w) (hlog : w.ownsRow N 3 1 vlog xs.length xs) (hn : n ≤ 100000) (hx : xs.length ≤ 100000) (hi : i ≤ 100000) :
    Calls Yba.prog 19 #[vb, .pointer (some ⟨R, 0, none⟩), .pointer (some ⟨B + 1, 0, none⟩), .pointer (some ⟨x, 0, none⟩), .pointer (some ⟨B, 0, none⟩), .pointer (some ⟨B + 2, 0, none⟩)] w fun e w' =>
      ∃ vb' vlog', e = .returned vb' ∧ w'.ownsRow N 5 1 vb' (n + 1) (ys ++ [.int .u8 ((i : Int) % 256)]) ∧ w'.heap[L]? = some (.cells #[vlog'] 51 (0, 0)) ∧ LogOwn N w' vlog' (xs ++ [.int .i64 (i : Int)]) ∧ Kept N L w w' := by
  obtain ⟨i5, hi5, hz0, hz1, hz2⟩ := info_parts info5
  obtain ⟨i3, hi3, hy0, hy1, hy2⟩ := info_parts info3
  have cB1 := cell_of_one h.blog
  have cX := cell_of_one h.idx
  have cL := cell_of_one h.log
  have cB := cell_of_one h.brec
  have fL := free_of_one h.log
  have sN := h.nsize
  have lN := h.lN
  have bN := h.bN
  have xN := h.xN
  have hLs : L < w.heap.size := by omega
  have hXs : x < w.heap.size := by omega
  have hB1s : B + 1 < w.heap.size := by omega
  have hBs : B < w.heap.size := by omega
  have HA : Hid (At N L B R S x i n vlog vb xs ys w) := h
  have HL : Hid (w.ownsRow N 3 1 vlog xs.length xs) := hlog
  have i0 : (0 : Int) ≤ (i : Int) := by omega
  clear h hlog
  go_enter Yba.func19, Yba.ntmps19
  go_upto_region 1 with fail
  go_cut [] (fun wx => Done N L n w vb (xs ++ [.int .i64 (i : Int)]) ys wx)
  case first =>
    go_region_law
      (first
        | (refine step_append_own rfl (.tmp 12) (.tmp 14) 51 rfl N 3 i3 (.int .i64 0) 1 8 Yba.underlying51 hi3 hy0 hy1 hy2 rfl (by decide) vlog xs.length xs rfl (HL.out.alloc _).drew ⟨w.heap.size, 0, none⟩ 1 1 [_] rfl rfl (cell_one_new _ _ _) (one_int _ _) (by unfold maxLen; omega) (by omega) (by simp; omega) ?_; intro v1 w1 h1 h2 _; have f1 := low_of h2 (fun g hg => (HL.out.lt g hg).1) sN; obtain ⟨g1, c1, hv1⟩ := owns_get h1; subst hv1; have dL := cell_of_one ((f1 L lN).trans HA.out.log); have eL := free_of_one ((f1 L lN).trans HA.out.log); have dB1 := cell_of_one ((f1 (B + 1) bN).trans HA.out.blog); have dB := cell_of_one ((f1 B (by omega)).trans HA.out.brec); have dX := cell_of_one ((f1 x xN).trans HA.out.idx); have hfr := Fr.grown ((Fr.refl N 3 w).alloc _).drew (HL.out.alloc _).drew h2; clear h2))
    all_goals
      go_wp2
      go_meet
      exact done_of HA.out h1 hfr
  obtain ⟨v1, hL, hlo, hkp, hob⟩ := hcut
  have hnp := fun (W : World) => neq48 W R
  have hs1 := hkp.size
  have hXne : x ≠ L := by
    intro e; have h1 := HA.out.idx; have h2 := HA.out.log; rw [e, h2] at h1; simp at h1
  have hBne : B ≠ L := by
    intro e; have h1 := HA.out.brec; have h2 := HA.out.log; rw [e, h2] at h1; simp at h1
  have dB := cell_of_one ((hkp.2.2.2.2 B (by omega) hBne).trans HA.out.brec)
  have dX := cell_of_one ((hkp.2.2.2.2 x xN hXne).trans HA.out.idx)
  have hXw : x < wc.heap.size := by omega
  have HO : Hid (wc.ownsRow N 5 1 vb n ys) := hob
  have HR : Hid (wc.heap[L]? = some (.cells #[v1] 51 (0, 0)) ∧ LogOwn N wc v1 (xs ++ [.int .i64 (i : Int)]) ∧ Kept N L w wc) := ⟨hL, hlo, hkp⟩
  clear hL hlo hkp hob cB1 cX cL cB fL
  go_wp2_with (at_builtin; refine wpList_append_own _ rfl _ _ 22 rfl N 5 i5 (.int .u8 0) 1 1 Yba.underlying22 hi5 hz0 hz1 hz2 rfl (by decide) _ _ _ rfl (HO.out.alloc _) ⟨wc.heap.size, 0, none⟩ 1 1 [_] rfl rfl (cell_one_new _ _ _) (one_int _ _) (by unfold maxLen; omega) (by omega) (by simp; omega) ?_)
  intro v2 w2 h1 h2 _
  have hfr : Fr N 5 wc w2 := Fr.grown ((Fr.refl N 5 wc).alloc _) (HO.out.alloc _) h2
  have hL2 : w2.heap[L]? = some (.cells #[v1] 51 (0, 0)) := (hfr.2.2.2.2 L (by omega) (.inl lN)).trans HR.out.1
  have hlo2 := HR.out.2.1.fr hfr
  have hkp2 := HR.out.2.2.fr hfr (by omega)
  have HE : Hid (w2.ownsRow N 5 1 v2 (n + 1) (ys ++ [.int .u8 ((i : Int) % 256)]) ∧ w2.heap[L]? = some (.cells #[v1] 51 (0, 0)) ∧ LogOwn N w2 v1 (xs ++ [.int .i64 (i : Int)]) ∧ Kept N L w w2) := ⟨h1, hL2, hlo2, hkp2⟩
  clear h1 h2 hfr hL2 hlo2 hkp2
  go_wp2
  go_ret
  exact ⟨_, v1, rfl, HE.out⟩
set_option maxRecDepth 100000 in
set_option maxHeartbeats 4000000 in
theorem clo_start (N L B R S x i n : Nat) (ao : Option Addr) (vb : Value) (ys : List Value) (w : World) (h : At N L B R S x i n (.slice ao 0 0) vb [] ys w) (hn : n ≤ 100000) (hi : i ≤ 100000) :
    Calls Yba.prog 19 #[vb, .pointer (some ⟨R, 0, none⟩), .pointer (some ⟨B + 1, 0, none⟩), .pointer (some ⟨x, 0, none⟩), .pointer (some ⟨B, 0, none⟩), .pointer (some ⟨B + 2, 0, none⟩)] w fun e w' =>
      ∃ vb' vlog', e = .returned vb' ∧ w'.ownsRow N 5 1 vb' (n + 1) (ys ++ [.int .u8 ((i : Int) % 256)]) ∧ w'.heap[L]? = some (.cells #[vlog'] 51 (0, 0)) ∧ LogOwn N w' vlog' ([] ++ [.int .i64 (i : Int)]) ∧ Kept N L w w' := by
  obtain ⟨i5, hi5, hz0, hz1, hz2⟩ := info_parts info5
  obtain ⟨i3, hi3, hy0, hy1, hy2⟩ := info_parts info3
  have cB1 := cell_of_one h.blog
  have cX := cell_of_one h.idx
  have cL := cell_of_one h.log
  have cB := cell_of_one h.brec
  have fL := free_of_one h.log
  have sN := h.nsize
  have lN := h.lN
  have bN := h.bN
  have xN := h.xN
  have hLs : L < w.heap.size := by omega
  have hXs : x < w.heap.size := by omega
  have hB1s : B + 1 < w.heap.size := by omega
  have hBs : B < w.heap.size := by omega
  have HA : Hid (At N L B R S x i n (.slice ao 0 0) vb [] ys w) := h
  have i0 : (0 : Int) ≤ (i : Int) := by omega
  clear h
  go_enter Yba.func19, Yba.ntmps19
  go_upto_region 1 with fail
  go_cut [] (fun wx => Done N L n w vb ([] ++ [.int .i64 (i : Int)]) ys wx)
  case first =>
    go_region_law
      (first
        | (refine step_append_grows rfl (.tmp 12) (.tmp 14) 51 rfl 3 i3 (.int .i64 0) 1 8 Yba.underlying51 hi3 hy0 hy1 hy2 rfl (by decide) ao 0 0 [] rfl (fun _ => ⟨rfl, rfl⟩) rfl (fun _ _ _ _ h => by simp at h) ⟨w.heap.size, 0, none⟩ 1 1 [_] rfl rfl (cell_one_new _ _ _) (one_int _ _) (by decide) (by unfold maxLen; omega) (by omega) ?_; intro v1 w1 h0 h2; have h1 := owns_mono (N := N) h0 (by simp; omega); clear h0; have f1 := low_of h2 (fun g hg => by cases hg) sN; obtain ⟨g1, c1, hv1⟩ := owns_get h1; subst hv1; have dL := cell_of_one ((f1 L lN).trans HA.out.log); have eL := free_of_one ((f1 L lN).trans HA.out.log); have dB1 := cell_of_one ((f1 (B + 1) bN).trans HA.out.blog); have dB := cell_of_one ((f1 B (by omega)).trans HA.out.brec); have dX := cell_of_one ((f1 x xN).trans HA.out.idx); have hfr := ((Fr.refl N 3 w).alloc _).drew.trans (Fr.none N 3 h2); clear h2))
    all_goals
      go_wp2
      go_meet
      exact done_of HA.out h1 hfr
  obtain ⟨v1, hL, hlo, hkp, hob⟩ := hcut
  have hnp := fun (W : World) => neq48 W R
  have hs1 := hkp.size
  have hXne : x ≠ L := by
    intro e; have h1 := HA.out.idx; have h2 := HA.out.log; rw [e, h2] at h1; simp at h1
  have hBne : B ≠ L := by
    intro e; have h1 := HA.out.brec; have h2 := HA.out.log; rw [e, h2] at h1; simp at h1
  have dB := cell_of_one ((hkp.2.2.2.2 B (by omega) hBne).trans HA.out.brec)
  have dX := cell_of_one ((hkp.2.2.2.2 x xN hXne).trans HA.out.idx)
  have hXw : x < wc.heap.size := by omega
  have HO : Hid (wc.ownsRow N 5 1 vb n ys) := hob
  have HR : Hid (wc.heap[L]? = some (.cells #[v1] 51 (0, 0)) ∧ LogOwn N wc v1 ([] ++ [.int .i64 (i : Int)]) ∧ Kept N L w wc) := ⟨hL, hlo, hkp⟩
  clear hL hlo hkp hob cB1 cX cL cB fL
  go_wp2_with (at_builtin; refine wpList_append_own _ rfl _ _ 22 rfl N 5 i5 (.int .u8 0) 1 1 Yba.underlying22 hi5 hz0 hz1 hz2 rfl (by decide) _ _ _ rfl (HO.out.alloc _) ⟨wc.heap.size, 0, none⟩ 1 1 [_] rfl rfl (cell_one_new _ _ _) (one_int _ _) (by unfold maxLen; omega) (by omega) (by simp; omega) ?_)
  intro v2 w2 h1 h2 _
  have hfr : Fr N 5 wc w2 := Fr.grown ((Fr.refl N 5 wc).alloc _) (HO.out.alloc _) h2
  have hL2 : w2.heap[L]? = some (.cells #[v1] 51 (0, 0)) := (hfr.2.2.2.2 L (by omega) (.inl lN)).trans HR.out.1
  have hlo2 := HR.out.2.1.fr hfr
  have hkp2 := HR.out.2.2.fr hfr (by omega)
  have HE : Hid (w2.ownsRow N 5 1 v2 (n + 1) (ys ++ [.int .u8 ((i : Int) % 256)]) ∧ w2.heap[L]? = some (.cells #[v1] 51 (0, 0)) ∧ LogOwn N w2 v1 ([] ++ [.int .i64 (i : Int)]) ∧ Kept N L w w2) := ⟨h1, hL2, hlo2, hkp2⟩
  clear h1 h2 hfr hL2 hlo2 hkp2
  go_wp2
  go_ret
  exact ⟨_, v1, rfl, HE.out⟩

/-- Whatever the log. -/
theorem clo_any (N L B R S x i n : Nat) (vlog vb : Value) (xs ys : List Value) (w : World) (h : At N L B R S x i n vlog vb xs ys w) (hlog : LogOwn N w vlog xs) (hn : n ≤ 100000) (hx : xs.length ≤ 100000) (hi : i ≤ 100000) :
    Calls Yba.prog 19 #[vb, .pointer (some ⟨R, 0, none⟩), .pointer (some ⟨B + 1, 0, none⟩), .pointer (some ⟨x, 0, none⟩), .pointer (some ⟨B, 0, none⟩), .pointer (some ⟨B + 2, 0, none⟩)] w fun e w' =>
      ∃ vb' vlog', e = .returned vb' ∧ w'.ownsRow N 5 1 vb' (n + 1) (ys ++ [.int .u8 ((i : Int) % 256)]) ∧ w'.heap[L]? = some (.cells #[vlog'] 51 (0, 0)) ∧ LogOwn N w' vlog' (xs ++ [.int .i64 (i : Int)]) ∧ Kept N L w w' := by
  rcases hlog with ⟨ao, rfl, rfl⟩ | hlog
  · exact clo_start N L B R S x i n ao vb ys w h hn hi
  · exact clo_own N L B R S x i n vlog vb xs ys w h hlog hn hx hi

end Go.Proofs.Ybulkcufi.Rec
