/-
  cbor.AppendMap, cbor.AppendUint, zzs4792chead, bytes.Equal, zzs4792ceqi, by their contracts.
-/
import Derived.Test.YbulkcufiRecA
import Derived.Laws.BytesArg
namespace Go.Proofs.Ybulkcufi.Rec
open Go.RowKit

/-- The head of a map of v entries, as both texts write it. -/
def hd (v : Int) : List Value :=
  if v < 24 then [.int .u8 (bits .or .u8 (5 * 32) v)] else if v ≤ 255 then [.int .u8 (bits .or .u8 (5 * 32) 24), .int .u8 v] else [.int .u8 (bits .or .u8 (5 * 32) 25), .int .u8 (v / 256), .int .u8 (v % 256)]

/-- The same as numbers. -/
def hdI (v : Int) : List Int :=
  if v < 24 then [bits .or .u8 (5 * 32) v] else if v ≤ 255 then [bits .or .u8 (5 * 32) 24, v] else [bits .or .u8 (5 * 32) 25, v / 256, v % 256]
theorem hd_eq (v : Int) : hd v = (hdI v).map (Value.int .u8) := by
  unfold hd hdI
  split
  · rfl
  · split <;> rfl
theorem hdI_len (v : Int) : 1 ≤ (hdI v).length ∧ (hdI v).length ≤ 3 := by
  unfold hdI
  split
  · simp
  · split <;> simp

theorem or0 (a : Int) (h : 0 ≤ a) (h' : a < 24) : bits BinOp.or IntKind.u8 (0 * 32) a = a := by
  obtain ⟨n, rfl⟩ := Int.eq_ofNat_of_zero_le h
  have hn : n < 24 := by omega
  have key : ∀ m : Fin 24, bits BinOp.or IntKind.u8 (0 * 32) (m.val : Int) = (m.val : Int) := by decide +kernel
  exact key ⟨n, hn⟩

theorem ahead_any (N n : Nat) (v : Int) (sv : Value) (xs : List Value) (w : World) (hown : w.ownsRow N 5 1 sv n xs) (hN : N ≤ w.heap.size) (hn : n ≤ 90000) (hv0 : 0 ≤ v) (hv : v ≤ 65535) :
    Calls Yba.prog 24 #[sv, .int .u8 5, .int .u64 v] w fun e w' => ∃ sv', e = .returned sv' ∧ w'.ownsRow N 5 1 sv' (n + (hd v).length) (xs ++ hd v) ∧ Fr N 5 w w' := by
  unfold hd
  by_cases h1 : v < 24
  · simp only [if_pos h1]
    exact ahead1 N n 5 v sv xs w hown hN (by omega) (by decide) (by decide) hv0 h1
  · by_cases h2 : v ≤ 255
    · simp only [if_neg h1, if_pos h2]
      exact ahead2 N n 5 v sv xs w hown hN (by omega) (by decide) (by decide) (by omega) h2
    · simp only [if_neg h1, if_neg h2]
      exact ahead3 N n 5 v sv xs w hown hN (by omega) (by decide) (by decide) (by omega) hv

theorem chead_any (N n : Nat) (v : Int) (sv : Value) (xs : List Value) (w : World) (hown : w.ownsRow N 5 1 sv n xs) (hN : N ≤ w.heap.size) (hn : n ≤ 90000) (hv0 : 0 ≤ v) (hv : v ≤ 65535) :
    Calls Yba.prog 22 #[sv, .int .u8 5, .int .i64 v] w fun e w' => ∃ sv', e = .returned sv' ∧ w'.ownsRow N 5 1 sv' (n + (hd v).length) (xs ++ hd v) ∧ Fr N 5 w w' := by
  unfold hd
  by_cases h1 : v < 24
  · simp only [if_pos h1]
    exact chead1 N n 5 v sv xs w hown hN (by omega) (by decide) (by decide) hv0 h1
  · by_cases h2 : v ≤ 255
    · simp only [if_neg h1, if_pos h2]
      exact chead2 N n 5 v sv xs w hown hN (by omega) (by decide) (by decide) (by omega) h2
    · simp only [if_neg h1, if_neg h2]
      exact chead3 N n 5 v sv xs w hown hN (by omega) (by decide) (by decide) (by omega) hv

set_option maxRecDepth 100000 in
set_option maxHeartbeats 1000000 in
theorem appmap (N n : Nat) (v : Int) (sv : Value) (xs : List Value) (w : World) (hown : w.ownsRow N 5 1 sv n xs) (hN : N ≤ w.heap.size) (hn : n ≤ 90000) (hv0 : 0 ≤ v) (hv : v ≤ 65535) :
    Calls Yba.prog 20 #[sv, .int .i64 v] w fun e w' => ∃ sv', e = .returned sv' ∧ w'.ownsRow N 5 1 sv' (n + (hd v).length) (xs ++ hd v) ∧ Fr N 5 w w' := by
  have hA := ahead_any N n v sv xs w hown hN hn hv0 hv
  have HA : Hid (Calls Yba.prog 24 #[sv, .int .u8 5, .int .u64 v] w fun e w' => ∃ sv', e = .returned sv' ∧ w'.ownsRow N 5 1 sv' (n + (hd v).length) (xs ++ hd v) ∧ Fr N 5 w w') := hA
  clear hA
  go_enter Yba.func20, Yba.ntmps20
  go_wp2_with (go_at_call 24; refine HA.out.mono ?_; rintro e w' ⟨sv', rfl, h1, h2⟩)
  go_ret
  exact ⟨_, rfl, h1, h2⟩

set_option maxRecDepth 100000 in
set_option maxHeartbeats 1000000 in
theorem appuint (N n : Nat) (v : Int) (sv : Value) (xs : List Value) (w : World) (hown : w.ownsRow N 5 1 sv n xs) (hN : N ≤ w.heap.size) (hn : n ≤ 90000) (hv0 : 0 ≤ v) (hv : v < 24) :
    Calls Yba.prog 21 #[sv, .int .u64 v] w fun e w' => ∃ sv', e = .returned sv' ∧ w'.ownsRow N 5 1 sv' (n + 1) (xs ++ [.int .u8 v]) ∧ Fr N 5 w w' := by
  have hA := ahead1 N n 0 v sv xs w hown hN (by omega) (by decide) (by decide) hv0 hv
  rw [or0 v hv0 hv] at hA
  have HA : Hid (Calls Yba.prog 24 #[sv, .int .u8 0, .int .u64 v] w fun e w' => ∃ sv', e = .returned sv' ∧ w'.ownsRow N 5 1 sv' (n + 1) (xs ++ [.int .u8 v]) ∧ Fr N 5 w w') := hA
  clear hA
  go_enter Yba.func21, Yba.ntmps21
  go_wp2_with (go_at_call 24; refine HA.out.mono ?_; rintro e w' ⟨sv', rfl, h1, h2⟩)
  go_ret
  exact ⟨_, rfl, h1, h2⟩

/-- What is known of a slice that is read: where it has an element it begins a row. -/
def Reads (w : World) (v : Value) (xs : List Value) : Prop := ∃ ao c, v = .slice ao xs.length c ∧ (0 < xs.length → ∃ g, ao = some ⟨g, 0, none⟩ ∧ ∀ j u, xs[j]? = some u → w.cell? ⟨g, j, none⟩ = some u)

theorem reads_owns {w : World} {N : Nat} {e : TypeId} {v : Value} {n : Nat} {xs : List Value} (h : w.ownsRow N e 1 v n xs) : Reads w v xs := by
  have hl : xs.length = n := by simpa using h.1
  rcases h.2 with ⟨rfl, h2⟩ | ⟨g, cap, cur, rfl, _⟩
  · exact ⟨none, 0, by rw [hl, h2], fun h => by omega⟩
  · refine ⟨_, cap, by rw [hl], fun _ => ⟨g, rfl, fun j u hj => ?_⟩⟩
    have hjl : j < xs.length := by
      by_cases hh : j < xs.length
      · exact hh
      · rw [List.getElem?_eq_none (by omega)] at hj; cases hj
    exact (h.cellAt j (by omega)).trans hj

set_option maxRecDepth 100000 in
set_option maxHeartbeats 1000000 in
theorem beq_any (l : List Int) (v1 v2 : Value) (w : World) (h1 : Reads w v1 (l.map (Value.int .u8))) (h2 : Reads w v2 (l.map (Value.int .u8))) (hpos : 0 < l.length) :
    Calls Yba.prog 14 #[v1, v2] w fun e w' => e = .returned (.bool true) ∧ w' = w := by
  have conv : ∀ v, Reads w v (l.map (Value.int .u8)) → (convert 22 9 v).run Yba.prog w = .ok (.string (strOfNums l)) w := by
    rintro v ⟨ao, c, rfl, hg⟩
    obtain ⟨g, rfl, hc⟩ := hg (by simpa using hpos)
    simp only [List.length_map]
    refine run_convert_bytes_arg w 22 5 Yba.underlying22 Yba.underlying5 g 0 l.length c l rfl ?_ 9 Yba.underlying9
    intro i hi
    rw [Nat.zero_add]
    refine hc i _ ?_
    rw [List.getElem?_map, List.getElem?_eq_getElem hi]
    simp [List.getElem?_eq_getElem hi]
  have k1 := conv v1 h1
  have k2 := conv v2 h2
  clear conv h1 h2
  go_enter Yba.func14, Yba.ntmps14
  go_wp2
  go_ret
  exact ⟨by simp, rfl⟩

set_option maxRecDepth 100000 in
set_option maxHeartbeats 1000000 in
theorem ceqi_any (l : List Int) (v1 v2 : Value) (w : World) (h1 : Reads w v1 (l.map (Value.int .i64))) (h2 : Reads w v2 (l.map (Value.int .i64))) (hb : l.length ≤ 100000) :
    Calls Yba.prog 15 #[v1, v2] w fun e w' => e = .returned (.bool true) ∧ ∃ m, w' = w.drewN m := by
  obtain ⟨n, hn⟩ : ∃ n, n = l.length := ⟨_, rfl⟩
  obtain ⟨ao1, c1, rfl, g1⟩ := h1
  obtain ⟨ao2, c2, rfl, g2⟩ := h2
  simp only [List.length_map] at g1 g2 ⊢
  rw [← hn] at g1 g2 hb ⊢
  have HL : Hid (n = l.length) := hn
  clear hn
  go_enter Yba.func15, Yba.ntmps15
  go_wp2
  go_loopw [5] (fun i wx => ∃ k m : Nat, k ≤ n ∧ i = .int .i64 k ∧ wx = w.drewN m) (fun i _ => n - (intOf i).toNat)
  case atStart => exact ⟨0, 0, by omega, rfl, rfl⟩
  case round =>
    obtain ⟨k, m, hk, rfl, rfl⟩ := hrel
    by_cases hlt : k < n
    · obtain ⟨b1, rfl, d1⟩ := g1 (by omega)
      obtain ⟨b2, rfl, d2⟩ := g2 (by omega)
      have hkk : (l.map (Value.int .i64))[k]? = some (.int .i64 (l.getD k 0)) := by
        have := HL.out
        rw [List.getElem?_map, List.getElem?_eq_getElem (by omega)]
        simp [List.getElem?_eq_getElem (show k < l.length by omega)]
      have x1 := d1 k _ hkk
      have x2 := d2 k _ hkk
      have hkl : (k : Int) < (n : Int) := by omega
      have hk0 : (0 : Int) ≤ (k : Int) := by omega
      clear d1 d2 hkk g1 g2
      go_wp2
      go_quiet (fail)
      go_wp2
      go_roundw
      case rel => first | exact ⟨k + 1, _, by omega, by go_num, rfl⟩ | ((repeat apply Exists.intro); exact ⟨⟨k + 1, _, by omega, by go_num, rfl⟩, rfl⟩)
      case measure => simp [intOf]; omega
    · go_wp2
      go_ret
      exact ⟨rfl, _, rfl⟩
end Go.Proofs.Ybulkcufi.Rec
