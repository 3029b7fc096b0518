/-
  io.ReadAtLeast, io.ReadFull over a reader whose bytes end too soon.
-/
import Derived.Test.YbulkcufiFmtA
import Derived.Test.YbulkcufiFmtG
namespace Go.Proofs.YbulkcufiFmt
open Go.RowKit
attribute [local go_sem] alloc_drewN setCell_drewN

/-- The two sentinels, below N. -/
def Gl (N : Nat) (ea ua : Addr) (w : World) : Prop :=
  w.cell? ⟨3, 0, none⟩ = some (.iface 111 (.pointer (some ea))) ∧ w.cell? ⟨0, 0, none⟩ = some (.iface 111 (.pointer (some ua))) ∧ ea ≠ ua ∧ ea.block < N ∧ ua.block < N ∧
  (∃ ca ta, w.heap[ea.block]? = some (.cells ca ta (0, 0))) ∧ (∃ ca ta, w.heap[ua.block]? = some (.cells ca ta (0, 0))) ∧ 7 ≤ N
theorem Gl.keep {N : Nat} {ea ua : Addr} {w w' : World} {S : Nat → Prop} (h : Gl N ea ua w) (hf : Fx S w w') (hS : ∀ k, k < N → ¬ S k) : Gl N ea ua w' := by
  obtain ⟨a, b, c, d, e, ⟨ca, ta, f⟩, ⟨cb, tb, g⟩, i⟩ := h
  exact ⟨hf.cell a (hS _ (by show 3 < N; omega)), hf.cell b (hS _ (by show 0 < N; omega)), c, d, e, ⟨ca, ta, (hf.block _ (lt_heap f) (hS _ d)).trans f⟩, ⟨cb, tb, (hf.block _ (lt_heap g) (hS _ e)).trans g⟩, i⟩

theorem nilAhead66 (a : Addr) (w : World) : (Go.nilAhead 257 66 (.pointer (some a)) "Read").run Ybaf.prog w = .ok (some false) w := by kernel_rfl

theorem eqlSame : ∃ i j, Ybaf.prog.info? 111 = some i ∧ i.comparable = true ∧ Ybaf.prog.info? 113 = some j ∧ j.size = 1 := by
  obtain ⟨i, hi, hcmp⟩ := Option.map_eq_some_iff.1 isComp
  obtain ⟨j, hj, hjs⟩ := Option.map_eq_some_iff.1 isSize
  exact ⟨i, j, hi, hcmp, hj, hjs⟩

set_option maxRecDepth 100000 in
set_option maxHeartbeats 1000000 in
theorem ral0 (N b k cap P o L C : Nat) (ea ua : Addr) (dat : List Value) (w : World) (h : Rs N b k cap dat k w) (hk0 : 0 < k) (hG : Gl N ea ua w) (hL0 : 0 < L) (hL : L < 4096) (hLC : L ≤ C) :
    Calls Ybaf.prog 41 #[.iface 66 (.pointer (some ⟨N + 1, 0, none⟩)), .slice (some ⟨P, o, none⟩) L C, .int .i64 L] w fun e w' => e = .returned (.tuple #[.int .i64 0, .iface 111 (.pointer (some ea))]) ∧ Fx (fun i => N ≤ i ∧ i ≤ N + 2) w w' := by
  obtain ⟨lb, lr, cur, hl, hU, h⟩ := h
  rcases h with ⟨hp, hA, hR⟩ | ⟨hA, hR, hdd⟩
  · omega
  have HX : Hid (_ ∧ _ ∧ _) := ⟨hA, hR, hG⟩
  clear hA hR hG hU hdd
  have hI : (0 : Int) < L := by omega
  have hC0 : ¬ (C = 0) := by omega
  have mR := methodRead66
  have nA := nilAhead66
  go_enter Ybaf.func41, Ybaf.ntmps41
  go_wp2
  refine wp_loop_rounds 2 ?_
  rw [rounds_succ]
  go_wp2
  go_region_with (go_at_call 65; refine (read_eof1 N k cap L C _ _ ea lb lr _ hL0 hL (by exact HX.out.1) (by exact HX.out.2.1) (by exact HX.out.2.2.1) HX.out.2.2.2.2.2.2.2.2.2).mono ?_; rintro e w1 ⟨rfl, HF1⟩)
  all_goals
    have HF2 : Hid _ := HF1
    clear HF1
    go_wp2
    rw [rounds_succ]
    go_wp2
    go_ret2
    refine ⟨rfl, ?_⟩
    exact ((Fx.refl _ w).drewN _).trans (HF2.out.mono fun i h => by omega)

theorem drop_at {dat : List Value} {pos j : Nat} {v : Value} (h : (dat.drop pos)[j]? = some v) : dat[pos + j]? = some v := by
  rwa [List.getElem?_drop] at h

set_option maxRecDepth 100000 in
set_option maxHeartbeats 1000000 in
theorem ral1 (N b k cap pos m P o L C T : Nat) (ea ua : Addr) (dat pc : List Value) (w : World) (h : Rs N b k cap dat pos w) (hp0 : 0 < pos) (hm : pos + m = k) (hm0 : 0 < m) (hk : k < 4096) (hd : dat.length = k) (hB : Bytes dat)
    (hG : Gl N ea ua w) (hmL : m < L) (hL : L < 4096) (hLC : L ≤ C) (hP : w.heap[P]? = some (.cells pc.toArray T (0, 0))) (hoL : o + L ≤ pc.length) (hPN : N + 2 < P) :
    Calls Ybaf.prog 41 #[.iface 66 (.pointer (some ⟨N + 1, 0, none⟩)), .slice (some ⟨P, o, none⟩) L C, .int .i64 L] w fun e w' => e = .returned (.tuple #[.int .i64 m, .iface 111 (.pointer (some ua))]) ∧ Fx (fun i => (N ≤ i ∧ i ≤ N + 2) ∨ i = P) w w' := by
  obtain ⟨lb, lr, cur, hl, hU, h⟩ := h
  rcases h with ⟨hp, hA, hR⟩ | ⟨hA, hR, hdd⟩
  · omega
  obtain ⟨y, hy, hy0, hy1⟩ := hB.at (j := k - 1) (by omega)
  have HS : Hid (∀ n, Calls Ybaf.prog 65 #[.pointer (some ⟨N + 1, 0, none⟩), .slice (some ⟨P, o, none⟩) L C] (w.drewN n) fun e w' => e = .returned (.tuple #[.int .i64 m, .nilIface]) ∧
      w'.heap[N + 1]? = some (rObj N k k .nilIface (.int .i64 y) (.int .i64 (-1))) ∧ Fx (fun i => i = N + 1 ∨ i = P) (w.drewN n) w') := fun n =>
    read_some1 N k pos P o L C m T y cur pc (dat.drop pos) lb lr (w.drewN n) (by omega) hk hm hmL hR hU hP hoL hPN (by rw [List.length_drop]; omega) (fun v hv => hB.one v (List.mem_of_mem_drop hv))
      (fun j v hj => by have hj2 := drop_at hj; rw [hdd (pos + j) (by have := (List.getElem?_eq_some_iff.1 hj2).1; omega)]; exact hj2) (by rw [hdd (k - 1) (by omega)]; exact hy) hy0 hy1
  have HX : Hid (_ ∧ _) := ⟨hA, hG⟩
  clear hA hR hG hU hdd hP hl hd hB hy hoL
  obtain ⟨i, j, hi, hcmp, hj, -⟩ := eqlSame
  have heq := fun W => run_eql_iface_ptr_same (P := Ybaf.prog) W ea Ybaf.underlying28 Ybaf.underlying111 hi hcmp hj
  clear hi hcmp hj
  have hI : (0 : Int) < L := by omega
  have hC0 : ¬ (C = 0) := by omega
  have hmI : (m : Int) < (L : Int) := by omega
  have hmI2 : ¬ ((L : Int) ≤ (m : Int)) := by omega
  have hmI3 : (m : Int) ≤ (L : Int) := by omega
  have hCm : ¬ (C = m) := by omega
  have hm1 : (0 : Int) < (m : Int) := by omega
  have mR := methodRead66
  have nA := nilAhead66
  go_enter Ybaf.func41, Ybaf.ntmps41
  go_wp2
  refine wp_loop_rounds 3 ?_
  rw [rounds_succ]
  go_upto_region 5 with fail
  go_cut [8, 7] (fun a b wx => a = .int .i64 m ∧ b = .nilIface ∧ Hid (wx.heap[N + 1]? = some (rObj N k k .nilIface (.int .i64 y) (.int .i64 (-1)))) ∧ Hid (Fx (fun i => i = N + 1 ∨ i = P) w wx))
  case first =>
    go_region_with (go_at_call 65; refine (HS.out _).mono ?_; rintro e w1 ⟨rfl, HR1, HF1⟩)
    all_goals
      go_wp2
      go_meet
      exact ⟨rfl, rfl, HR1, ((Fx.refl _ w).drewN _).trans HF1⟩
  case rest =>
    obtain ⟨rfl, rfl, HR1, HF1⟩ := hcut
    obtain ⟨wa, hwa⟩ : ∃ wa, wa = wc := ⟨_, rfl⟩
    subst hwa
    have HA1 : Hid _ := (HF1.out.block N (lt_heap HX.out.1) (by omega)).trans HX.out.1
    have HG1 : Hid (Gl N ea ua wa) := Gl.keep HX.out.2 HF1.out (fun i h => by omega)
    go_wp2
    rw [rounds_succ]
    go_upto_region 5 with fail
    go_cut [8, 7] (fun a b wx => a = .int .i64 0 ∧ b = .iface 111 (.pointer (some ea)) ∧ Hid (Fx (fun i => i = N + 1) wa wx))
    case first =>
      go_region_with (go_at_call 65; refine (read_eof1 N k cap (L - m) (C - m) _ _ ea _ _ _ (by omega) (by omega) (by exact HA1.out) (by exact HR1.out) (by exact HG1.out.1) HG1.out.2.2.2.2.2.2.2).mono ?_; rintro e w1 ⟨rfl, HF2⟩)
      all_goals
        go_wp2
        go_meet
        exact ⟨rfl, rfl, ((Fx.refl _ wa).drewN _).trans HF2⟩
    case rest =>
      obtain ⟨rfl, rfl, HF2⟩ := hcut
      have HG2 : Gl N ea ua wc := Gl.keep HG1.out HF2.out (fun i h => by omega)
      have g3 := HG2.1
      have g0 := HG2.2.1
      clear HG2
      go_wp2
      rw [rounds_succ]
      go_wp2
      go_ret2
      refine ⟨rfl, ?_⟩
      exact (HF1.out.mono fun i h => by omega).trans (HF2.out.mono fun i h => by omega)

theorem ral (N b k cap pos m P o L C T : Nat) (ea ua : Addr) (dat pc : List Value) (w : World) (h : Rs N b k cap dat pos w) (hp0 : 0 < pos) (hm : pos + m = k) (hk : k < 4096) (hd : dat.length = k) (hB : Bytes dat)
    (hG : Gl N ea ua w) (hmL : m < L) (hL : L < 4096) (hLC : L ≤ C) (hP : w.heap[P]? = some (.cells pc.toArray T (0, 0))) (hoL : o + L ≤ pc.length) (hPN : N + 2 < P) :
    Calls Ybaf.prog 41 #[.iface 66 (.pointer (some ⟨N + 1, 0, none⟩)), .slice (some ⟨P, o, none⟩) L C, .int .i64 L] w fun e w' => e = .returned (.tuple #[.int .i64 m, .iface 111 (.pointer (some (if m = 0 then ea else ua)))]) ∧ Fx (fun i => (N ≤ i ∧ i ≤ N + 2) ∨ i = P) w w' := by
  by_cases hm0 : m = 0
  · subst hm0
    obtain rfl : pos = k := by omega
    refine (ral0 N b pos cap P o L C ea ua dat w h hp0 hG (by omega) hL hLC).mono ?_
    rintro e w' ⟨rfl, hf⟩
    exact ⟨rfl, hf.mono fun i h => Or.inl h⟩
  · rw [if_neg hm0]
    exact ral1 N b k cap pos m P o L C T ea ua dat pc w h hp0 hm (by omega) hk hd hB hG hmL hL hLC hP hoL hPN

set_option maxRecDepth 100000 in
theorem rfull (N b k cap pos m P o L C T : Nat) (ea ua : Addr) (dat pc : List Value) (w : World) (h : Rs N b k cap dat pos w) (hp0 : 0 < pos) (hm : pos + m = k) (hk : k < 4096) (hd : dat.length = k) (hB : Bytes dat)
    (hG : Gl N ea ua w) (hmL : m < L) (hL : L < 4096) (hLC : L ≤ C) (hP : w.heap[P]? = some (.cells pc.toArray T (0, 0))) (hoL : o + L ≤ pc.length) (hPN : N + 2 < P) :
    Calls Ybaf.prog 38 #[.iface 66 (.pointer (some ⟨N + 1, 0, none⟩)), .slice (some ⟨P, o, none⟩) L C] w fun e w' => e = .returned (.tuple #[.int .i64 m, .iface 111 (.pointer (some (if m = 0 then ea else ua)))]) ∧ Fx (fun i => (N ≤ i ∧ i ≤ N + 2) ∨ i = P) w w' := by
  have H : Hid (Calls Ybaf.prog 41 #[.iface 66 (.pointer (some ⟨N + 1, 0, none⟩)), .slice (some ⟨P, o, none⟩) L C, .int .i64 L] w fun e w' => e = .returned (.tuple #[.int .i64 m, .iface 111 (.pointer (some (if m = 0 then ea else ua)))]) ∧ Fx (fun i => (N ≤ i ∧ i ≤ N + 2) ∨ i = P) w w') :=
    ral N b k cap pos m P o L C T ea ua dat pc w h hp0 hm hk hd hB hG hmL hL hLC hP hoL hPN
  clear h hd hB hG hP hoL
  obtain ⟨za, hza⟩ : ∃ za, za = (if m = 0 then ea else ua) := ⟨_, rfl⟩
  rw [← hza] at H ⊢
  clear hza
  go_enter Ybaf.func38, Ybaf.ntmps38
  go_wp2_with (go_at_call 41; refine H.out.mono ?_; rintro e w' ⟨rfl, hf⟩)
  go_ret2
  exact ⟨rfl, hf⟩
end Go.Proofs.YbulkcufiFmt
