/-
  The law's encoder: tags, then the head of an unsigned integer, in a row of its own.
-/
import Derived.Test.YbulkcufiFmtO
import Derived.Maps.AppendAt
import Derived.Laws.OwnMore
namespace Go.Proofs.YbulkcufiFmt
open Go.RowKit Go.Extern.Stop Go.Stop Go.Extern
attribute [local go_sem] alloc_drewN setCell_drewN

/-- The call's own row of bytes, at the first new block; nothing old has turned. -/
def Own (w wr : World) (n c : Nat) (xs : List Value) : Prop := wr.ownsRow w.heap.size 5 1 (.slice (some ⟨w.heap.size, 0, none⟩) n c) n xs ∧ Fx (fun _ => False) w wr

theorem own_start (w : World) (zs : List Value) (c : Nat) (hz : zs.length = c) (hc : c ≤ maxLen) : Own w (w.alloc (.cells zs.toArray 5)) 0 c [] :=
  ⟨⟨rfl, .inr ⟨w.heap.size, c, _, rfl, Nat.le_refl _, heap_alloc_new w _, Nat.zero_le _, hc, by simp [hz], by simp⟩⟩, (Fx.refl _ w).alloc _⟩
theorem own_step {w wr w1 : World} {n m c : Nat} {xs ys : List Value} {O : Obj} (how : Own w wr n c xs) (hown : w1.ownsRow w.heap.size 5 1 (.slice (some ⟨w.heap.size, 0, none⟩) (n + m) c) (n + m) ys) (hg : (wr.alloc O).grownBy w1 (some w.heap.size)) :
    Own w w1 (n + m) c ys :=
  ⟨hown, Fx.cut ((how.2.mono fun _ h => h.elim).trans (Fx.trans ((Fx.refl _ wr).alloc O) ⟨hg.os, hg.tape, hg.output, hg.size, fun k hk hn => hg.block k hk (fun e => hn (Or.inr (by cases e; exact Nat.le_refl _)))⟩))⟩
theorem Own.at {w wr : World} {n c : Nat} {xs : List Value} (h : Own w wr n c xs) : xs.length = n ∧ ∀ j v, xs[j]? = some v → wr.cell? ⟨w.heap.size, j, none⟩ = some v := by
  have hl : xs.length = n := by have := h.1.1; omega
  refine ⟨hl, fun j v e => (h.1.cellAt j ?_).trans e⟩
  have := (List.getElem?_eq_some_iff.1 e).1
  omega

theorem cells_new (w : World) (xs : List Value) (t : TypeId) : ∀ j u, xs[j]? = some u → (w.alloc (.cells xs.toArray t)).cell? ((⟨w.heap.size, 0, none⟩ : Addr).add j) = some u := by
  intro j u hj
  have h := cell_heap (heap_alloc_new w (.cells xs.toArray t)) j
  have e : ((⟨w.heap.size, 0, none⟩ : Addr).add j) = ⟨w.heap.size, j, none⟩ := by
    unfold Addr.add
    split <;> simp_all
  rw [e, h]
  simpa using hj

theorem make0 (n : Nat) (hn : n ≤ 100000) : ∃ zs : List Value, zs.length = n ∧ ∀ W : World, (Instr.makeSlice 24 (.int .i64 0) (.int .i64 (n : Int))).run Ybaf.prog W = .ok (.slice (some ⟨W.heap.size, 0, none⟩) 0 n) (W.alloc (.cells zs.toArray 5)) := by
  obtain ⟨i0, hi, hz0, hz1, hz2⟩ := info_parts info5z
  refine ⟨(madeCells #[.int .u8 0] n).toList, by rw [toList_madeCells_one]; exact List.length_replicate, fun W => ?_⟩
  have hr := run_make (P := Ybaf.prog) W 24 5 i0 (.int .u8 0) Ybaf.underlying24 hi hz0 .i64 .i64 0 n (by omega) (by omega) (by rw [hz2]; omega) (by omega)
  rw [hr, hz1]
  simp [Value.cells]

theorem make16 : ∃ zs : List Value, zs.length = 16 ∧ ∀ W : World, (Instr.makeSlice 24 (.int .i64 0) (.int .i64 16)).run Ybaf.prog W = .ok (.slice (some ⟨W.heap.size, 0, none⟩) 0 16) (W.alloc (.cells zs.toArray 5)) := make0 16 (by omega)
theorem make4 : ∃ zs : List Value, zs.length = 4 ∧ ∀ W : World, (Instr.makeSlice 24 (.int .i64 0) (.int .i64 4)).run Ybaf.prog W = .ok (.slice (some ⟨W.heap.size, 0, none⟩) 0 4) (W.alloc (.cells zs.toArray 5)) := make0 4 (by omega)

/-- The tags. -/
def tg (t : Nat) : List Value := (List.range t).map fun j : Nat => .int .u8 (192 + (j : Int))
theorem tg_succ (t : Nat) : tg (t + 1) = tg t ++ [.int .u8 (192 + (t : Int))] := by simp [tg, List.range_succ]
theorem tg_length (t : Nat) : (tg t).length = t := by simp [tg]
theorem tg_at (t j : Nat) (h : j < t) : (tg t)[j]? = some (.int .u8 (192 + j)) := by simp [tg, h]
theorem tg_bytes (t : Nat) (ht : t ≤ 2) : Bytes (tg t) := by
  intro v hv
  obtain ⟨j, hj, rfl⟩ := List.mem_map.1 hv
  have := List.mem_range.1 hj
  exact ⟨_, rfl, by omega, by omega⟩
theorem or192 (k : Nat) (hk : k < 2) : bits BinOp.or IntKind.u8 192 (k : Int) = 192 + k := by
  have : k = 0 ∨ k = 1 := by omega
  rcases this with rfl | rfl <;> decide

theorem Bytes.append {a b : List Value} (ha : Bytes a) (hb : Bytes b) : Bytes (a ++ b) := fun v hv => (List.mem_append.1 hv).elim (ha v) (hb v)
theorem Bytes.take {a : List Value} (ha : Bytes a) (k : Nat) : Bytes (a.take k) := fun v hv => ha v (List.mem_of_mem_take hv)

/-- The encoder's bytes: t tags, a head, and what belongs to it. -/
structure Enc (t n : Nat) (dat : List Value) : Prop where
  t2 : t ≤ 2
  by_ : Bytes dat
  pos : 0 < n
  small : n ≤ 11
  cut : ∀ k, k < n → CutAt k (dat.take k) t

theorem enc_of (t m : Nat) (ht : t ≤ 2) (news : List Value) (hm : news.length = m) (hb : Bytes news) (h0 : 0 < news.length) (h9 : news.length ≤ 9) (hh : 1 < news.length → ∃ i : Nat, i < 4 ∧ news[0]? = some (.int .u8 (24 + i)) ∧ news.length ≤ 1 + 2 ^ i) : Enc t (t + m) (tg t ++ news) := by
  subst hm
  refine ⟨ht, (tg_bytes t ht).append hb, by omega, by omega, fun k hk => ⟨ht, fun j hj => ?_, fun htk => ?_⟩⟩
  · rw [List.getElem?_take_of_lt (by omega), List.getElem?_append_left (by rw [tg_length]; omega)]
    exact tg_at t j (by omega)
  · obtain ⟨i, hi, h1, h2⟩ := hh (by omega)
    refine ⟨i, hi, ?_, by omega⟩
    rw [List.getElem?_take_of_lt htk, List.getElem?_append_right (by rw [tg_length]; omega), tg_length, Nat.sub_self]
    exact h1

set_option maxRecDepth 100000 in
set_option maxHeartbeats 4000000 in
theorem encode_does (u width tags : Int) (w : World) (u0 : 0 ≤ u) (u1 : u < 18446744073709551616) (w0 : 0 ≤ width) (w1 : width < 256) (t0 : 0 ≤ tags) (t1 : tags < 256) :
    Calls Ybaf.prog 4 #[.int .u64 u, .int .u8 width, .int .u8 tags] w fun e w' => ∃ (t n : Nat) (dat : List Value) (x : Int), e = .returned (.tuple #[.slice (some ⟨w.heap.size, 0, none⟩) n 16, .int .u64 x]) ∧ Hid (Enc t n dat ∧ Own w w' n 16 dat) := by
  obtain ⟨t, ht⟩ : ∃ t : Nat, (t : Int) = tags % 3 := ⟨(tags % 3).toNat, by omega⟩
  have ht2 : t ≤ 2 := by omega
  obtain ⟨i0, hi, hz0, hz1, hz2⟩ := info_parts info5z
  obtain ⟨zs, hz, hm⟩ := make16
  go_enter Ybaf.func4, Ybaf.ntmps4
  go_wp2
  go_loopw [9, 10] (fun v i wr => ∃ k : Nat, k ≤ t ∧ i = .int .i64 k ∧ v = .slice (some ⟨w.heap.size, 0, none⟩) k 16 ∧ Own w wr k 16 (tg k)) (fun _ i _ => t - (intOf i).toNat)
  case atStart => exact ⟨0, by omega, rfl, rfl, own_start w zs 16 hz (by unfold maxLen; omega)⟩
  case round =>
    obtain ⟨k, hk, rfl, rfl, how⟩ := hrel
    by_cases hlt : k < t
    · have hlI : (k : Int) < tags % 3 := by omega
      have hwk : IntKind.u8.wrap (k : Int) = k := by rw [IntKind.wrap_u8]; omega
      have hor := or192 k (by omega)
      go_wp2_with (at_builtin; refine wpList_append_fits _ rfl _ _ 24 rfl w.heap.size 5 i0 1 Ybaf.underlying24 hi hz1 w.heap.size k 16 (tg k) rfl (how.1.alloc _) ⟨wr.heap.size, 0, none⟩ 1 1 [_] rfl rfl (cells_new _ _ _) (by simp [Value.oneCell']) (by omega) ?_)
      intro w1 hown' hgrow
      have how' := own_step how hown' hgrow
      clear hown' hgrow how
      go_wp2
      go_roundw
      case rel => exact ⟨k + 1, by omega, by go_num, rfl, by rw [tg_succ]; exact how'⟩
      case measure => simp [intOf]; omega
    · obtain rfl : t = k := by omega
      have hlI : ¬ ((t : Int) < tags % 3) := by omega
      clear hlt
      have hw5 : width % 5 = 0 ∨ width % 5 = 1 ∨ width % 5 = 2 ∨ width % 5 = 3 ∨ width % 5 = 4 := by omega
      rcases hw5 with hw | hw | hw | hw | hw
      · clear hm zs hz
        go_wp2_with (at_builtin; refine wpList_append_fits _ rfl _ _ 24 rfl w.heap.size 5 i0 1 Ybaf.underlying24 hi hz1 w.heap.size t 16 (tg t) rfl (how.1.alloc _) ⟨wr.heap.size, 0, none⟩ 1 1 [_] rfl rfl (cells_new _ _ _) (by simp [Value.oneCell']) (by omega) ?_)
        intro w2 hown' hgrow
        have HO : Hid (Own w w2 (t + 1) 16 _) := own_step how hown' hgrow
        clear hown' hgrow how
        go_wp2
        go_ret2
        refine ⟨t, t + 1, _, _, rfl, ?_, HO.out⟩
        refine enc_of t _ ht2 _ ?_ ?_ ?_ ?_ ?_
        · rfl
        · intro v hv
          simp only [List.mem_cons, List.not_mem_nil, or_false] at hv
          rcases hv with rfl
          all_goals exact ⟨_, rfl, by omega, by omega⟩
        · simp
        · simp
        · exact fun h => absurd h (by simp)
      · clear hm zs hz
        go_wp2_with (at_builtin; refine wpList_append_fits _ rfl _ _ 24 rfl w.heap.size 5 i0 1 Ybaf.underlying24 hi hz1 w.heap.size t 16 (tg t) rfl (how.1.alloc _) ⟨wr.heap.size, 0, none⟩ 2 2 [_, _] rfl rfl (cells_new _ _ _) (by simp [Value.oneCell']) (by omega) ?_)
        intro w2 hown' hgrow
        have HO : Hid (Own w w2 (t + 2) 16 _) := own_step how hown' hgrow
        clear hown' hgrow how
        go_wp2
        go_ret2
        refine ⟨t, t + 2, _, _, rfl, ?_, HO.out⟩
        refine enc_of t _ ht2 _ ?_ ?_ ?_ ?_ ?_
        · rfl
        · intro v hv
          simp only [List.mem_cons, List.not_mem_nil, or_false] at hv
          rcases hv with rfl | rfl
          all_goals exact ⟨_, rfl, by omega, by omega⟩
        · simp
        · simp
        · exact fun _ => ⟨0, by omega, rfl, Nat.le_refl _⟩
      · clear hm zs hz
        go_wp2_with (at_builtin; refine wpList_append_fits _ rfl _ _ 24 rfl w.heap.size 5 i0 1 Ybaf.underlying24 hi hz1 w.heap.size t 16 (tg t) rfl (how.1.alloc _) ⟨wr.heap.size, 0, none⟩ 3 3 [_, _, _] rfl rfl (cells_new _ _ _) (by simp [Value.oneCell']) (by omega) ?_)
        intro w2 hown' hgrow
        have HO : Hid (Own w w2 (t + 3) 16 _) := own_step how hown' hgrow
        clear hown' hgrow how
        go_wp2
        go_ret2
        refine ⟨t, t + 3, _, _, rfl, ?_, HO.out⟩
        refine enc_of t _ ht2 _ ?_ ?_ ?_ ?_ ?_
        · rfl
        · intro v hv
          simp only [List.mem_cons, List.not_mem_nil, or_false] at hv
          rcases hv with rfl | rfl | rfl
          all_goals exact ⟨_, rfl, by omega, by omega⟩
        · simp
        · simp
        · exact fun _ => ⟨1, by omega, rfl, Nat.le_refl _⟩
      · clear hm zs hz
        go_wp2_with (at_builtin; refine wpList_append_fits _ rfl _ _ 24 rfl w.heap.size 5 i0 1 Ybaf.underlying24 hi hz1 w.heap.size t 16 (tg t) rfl (how.1.alloc _) ⟨wr.heap.size, 0, none⟩ 5 5 [_, _, _, _, _] rfl rfl (cells_new _ _ _) (by simp [Value.oneCell']) (by omega) ?_)
        intro w2 hown' hgrow
        have HO : Hid (Own w w2 (t + 5) 16 _) := own_step how hown' hgrow
        clear hown' hgrow how
        go_wp2
        go_ret2
        refine ⟨t, t + 5, _, _, rfl, ?_, HO.out⟩
        refine enc_of t _ ht2 _ ?_ ?_ ?_ ?_ ?_
        · rfl
        · intro v hv
          simp only [List.mem_cons, List.not_mem_nil, or_false] at hv
          rcases hv with rfl | rfl | rfl | rfl | rfl
          all_goals exact ⟨_, rfl, by omega, by omega⟩
        · simp
        · simp
        · exact fun _ => ⟨2, by omega, rfl, Nat.le_refl _⟩
      · clear hm zs hz
        go_wp2_with (at_builtin; refine wpList_append_fits _ rfl _ _ 24 rfl w.heap.size 5 i0 1 Ybaf.underlying24 hi hz1 w.heap.size t 16 (tg t) rfl (how.1.alloc _) ⟨wr.heap.size, 0, none⟩ 9 9 [_, _, _, _, _, _, _, _, _] rfl rfl (cells_new _ _ _) (by simp [Value.oneCell']) (by omega) ?_)
        intro w2 hown' hgrow
        have HO : Hid (Own w w2 (t + 9) 16 _) := own_step how hown' hgrow
        clear hown' hgrow how
        go_wp2
        go_ret2
        refine ⟨t, t + 9, _, _, rfl, ?_, HO.out⟩
        refine enc_of t _ ht2 _ ?_ ?_ ?_ ?_ ?_
        · rfl
        · intro v hv
          simp only [List.mem_cons, List.not_mem_nil, or_false] at hv
          rcases hv with rfl | rfl | rfl | rfl | rfl | rfl | rfl | rfl | rfl
          all_goals exact ⟨_, rfl, by omega, by omega⟩
        · simp
        · simp
        · exact fun _ => ⟨3, by omega, rfl, Nat.le_refl _⟩
end Go.Proofs.YbulkcufiFmt
