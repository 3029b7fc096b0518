/-
  zzs4792cmodel, by its contract.
-/
import Derived.Test.YbulkcufiRecP
import Derived.Deep.DeepCutAuto
import Derived.Deep.CutRange
import Derived.Laws.EntriesVeiled
import Derived.Laws.AppendOwnNone
namespace Go.Proofs.Ybulkcufi.Rec
open Go.RowKit

/-- 'append([]T(nil), xs...)', xs whatever: nil, empty or not. -/
theorem wpList_append_start {P : Program} {w : World} {ops : Array Oper} {rest : List Oper} {o : Oper} {a : Act} {Q : Exit → Act → World → Prop} (hgd : o.guard = none) (x : Operand) (t : TypeId)
    (ho : o.op = .call { callee := .builtin .append, args := #[.const (.slice none 0 0), x], argTypes := #[t, t] })
    (base : Nat) (e : TypeId) (i : TypeInfo) (z : Value) (bytes : Nat) (ht : P.underlying t = some (.slice e)) (hi : P.info? e = some i) (hz : i.zero = some z)
    (hsize : i.size = 1) (hby : i.bytes = bytes) (hzs : z.cells.size = 1)
    (ao : Option Addr) (m c : Nat) (news : List Value) (hx : a.eval x = .slice ao m c) (hl : news.length = m) (hnone : ao = none → m = 0 ∧ c = 0) (hnews : ∀ ad, ao = some ad → ∀ j u, news[j]? = some u → w.cell? (ad.add j) = some u) (h1 : ∀ u ∈ news, u.oneCell' = true)
    (h63 : m ≤ maxLen) (hbytes : m * bytes ≤ 140737488355328) (hbase : base ≤ w.heap.size)
    (h : ∀ v' w', w'.ownsRow base e 1 v' m news → w.grownBy w' none → wpList P ops Q rest (a.put o.dst v') w') : wpList P ops Q (o :: rest) a w := by
  cases ao with
  | none =>
    obtain ⟨rfl, rfl⟩ := hnone rfl
    obtain rfl : news = [] := List.eq_nil_of_length_eq_zero hl
    exact wpList_append_own_none hgd _ x t ho base e i 1 ht hi (.slice none 0 0) 0 [] rfl (World.ownsRow_nil w base e 1) hx (h _ _ (World.ownsRow_nil w base e 1) (World.grownBy.refl _ _))
  | some ad =>
    refine wpList_append_own w hgd _ x t ho base e i z 1 bytes ht hi hz hsize hby hzs (by decide) (.slice none 0 0) 0 [] rfl (World.ownsRow_nil w base e 1) ad m c news hx (by omega) (hnews ad rfl) h1 (by omega) (by simpa using hbytes) hbase ?_
    intro v' w' k1 k2 _
    rw [Nat.zero_add, List.nil_append] at k1
    exact h v' w' k1 k2

theorem owns_shape {w : World} {N : Nat} {e : TypeId} {v : Value} {n : Nat} {xs : List Value} (h : w.ownsRow N e 1 v n xs) : ∃ ao c, v = .slice ao n c ∧ (0 < n → ∃ g, ao = some ⟨g, 0, none⟩ ∧ g < w.heap.size) := by
  have hlt := h.lt
  rcases h.2 with ⟨rfl, rfl⟩ | ⟨g, cap, cur, rfl, _⟩
  · exact ⟨none, 0, rfl, fun h => by omega⟩
  · exact ⟨_, cap, rfl, fun _ => ⟨g, rfl, (hlt g rfl).2⟩⟩

/-- Bytes, indices as cells. -/
def B8 (l : List Int) : List Value := l.map (Value.int .u8)
def I64 (l : List Nat) : List Value := l.map fun (i : Nat) => Value.int .i64 (i : Int)
theorem B8_len (l : List Int) : (B8 l).length = l.length := by simp [B8]
theorem I64_len (l : List Nat) : (I64 l).length = l.length := by simp [I64]
theorem B8_app (l m : List Int) : B8 (l ++ m) = B8 l ++ B8 m := by simp [B8]
theorem I64_snoc (l : List Nat) (i : Nat) : I64 (l ++ [i]) = I64 l ++ [.int .i64 (i : Int)] := by simp [I64]
theorem B8_one (l : List Int) : ∀ u ∈ B8 l, u.oneCell' = true := ints_oneCell .u8 l
theorem B8_get (l : List Int) (j : Nat) (u : Value) (h : (B8 l)[j]? = some u) : j < l.length ∧ u = .int .u8 (l.getD j 0) := by
  unfold B8 at h
  by_cases hj : j < l.length
  · rw [List.getElem?_map, List.getElem?_eq_getElem hj] at h
    simp at h
    exact ⟨hj, by rw [← h]; simp [List.getElem?_eq_getElem hj]⟩
  · rw [List.getElem?_eq_none (by simp; omega)] at h; cases h
theorem I64_at (l : List Nat) (j : Nat) (hj : j < l.length) : (I64 l)[j]? = some (.int .i64 ((l.getD j 0 : Nat) : Int)) := by
  unfold I64
  rw [List.getElem?_map, List.getElem?_eq_getElem hj]
  simp [List.getElem?_eq_getElem hj]

/-- What the roads know of a byte slice that came in: the first n of the numbers zs. -/
structure InRow (w : World) (ao : Option Addr) (n c : Nat) (zs : List Int) : Prop where
  nil : ao = none → n = 0 ∧ c = 0
  le : n ≤ zs.length
  byte : ∀ j, 0 ≤ zs.getD j 0 ∧ zs.getD j 0 < 256
  at_ : 0 < n → ∃ b off, ao = some ⟨b, off, none⟩ ∧ b < w.heap.size ∧ ∀ j, j < n → w.cell? ⟨b, off + j, none⟩ = some (.int .u8 (zs.getD j 0))

theorem InRow.later {w w' : World} {ao : Option Addr} {n c : Nat} {zs : List Int} (h : InRow w ao n c zs) (hb : Below w.heap.size w w') : InRow w' ao n c zs := by
  refine ⟨h.nil, h.le, h.byte, fun hn => ?_⟩
  obtain ⟨b, off, h1, h2, h3⟩ := h.at_ hn
  exact ⟨b, off, h1, Nat.lt_of_lt_of_le h2 hb.size, fun j hj => (hb.cell h2).trans (h3 j hj)⟩

/-- The cells that an append takes from it. -/
theorem InRow.news {w : World} {ao : Option Addr} {n c : Nat} {zs : List Int} (h : InRow w ao n c zs) : ∀ ad, ao = some ad → ∀ j u, (B8 (zs.take n))[j]? = some u → w.cell? (ad.add j) = some u := by
  intro ad ha j u hu
  obtain ⟨hj, rfl⟩ := B8_get _ _ _ hu
  rw [List.length_take] at hj
  obtain ⟨b, off, h1, h2, h3⟩ := h.at_ (by omega)
  rw [ha] at h1
  obtain rfl := Option.some.inj h1
  rw [Go.WideShapes.add_plain, h3 j (by omega)]
  congr 2
  have hjz : j < zs.length := by omega
  simp [show j < n by omega]

set_option maxRecDepth 100000 in
set_option maxHeartbeats 4000000 in
theorem cmodel_any (mod width : Nat) (present : Int) (pa : Option Addr) (plen pcap : Nat) (ps : List Int) (ka : Option Addr) (klen kcap : Nat) (ks : List Int) (w : World) (hp0 : 0 ≤ present) (hp1 : present < 65536) (hm0 : 0 < mod) (hm1 : mod ≤ 24)
    (hpl : plen ≤ 1024) (hkl : klen ≤ 1024) (hP : InRow w pa plen pcap ps) (hK : InRow w ka klen kcap ks) :
    Calls Yba.prog 13 #[.slice pa plen pcap, .int .u64 present, .slice ka klen kcap, .int .i64 mod, .int .i64 width] w fun e w' => ∃ v1 v2 n1, e = .returned (.tuple #[v1, v2]) ∧
      w'.ownsRow w.heap.size 5 1 v1 n1 (B8 (ps.take plen ++ (hdI (sels mod width present ks klen).length ++ outs mod ks (sels mod width present ks klen)))) ∧ w'.ownsRow w.heap.size 3 1 v2 (sels mod width present ks klen).length (I64 (sels mod width present ks klen)) ∧ Below w.heap.size w w' := by
  obtain ⟨i0, hi, hz0, hz1, hz2⟩ := info_parts info5
  obtain ⟨i3, hi3, hy0, hy1, hy2⟩ := info_parts info3
  have hm0' : (0 : Int) < (mod : Int) := by omega
  have hmn : ¬ (mod : Int) = 0 := by omega
  have hmb : ((mod : Int) == 0) = false := by simp; omega
  have HK : Hid (InRow w ka klen kcap ks) := hK
  have HP : Hid (InRow w pa plen pcap ps) := hP
  clear hK hP
  go_enter Yba.func13, Yba.ntmps13
  go_wp2
  go_loopw [12, 13, 14] (fun v i _ wx => ∃ k : Nat, k ≤ klen ∧ i = .int .i64 k ∧ wx.ownsRow w.heap.size 3 1 v (sels mod width present ks k).length (I64 (sels mod width present ks k)) ∧ Below w.heap.size w wx) (fun _ i _ _ => klen - (intOf i).toNat)
  case atStart => exact ⟨0, by omega, rfl, by exact World.ownsRow_made (e := 3) (size := 1) w #[] 0 (Nat.le_refl _) (by decide) (by simp), (Below.refl _ _).alloc (Nat.le_refl _) _⟩
  case round =>
    obtain ⟨k, hk, rfl, hown, hb⟩ := hrel
    have hsl := sels_le mod width present ks k
    by_cases hlt : k < klen
    · obtain ⟨kb, koff, hka, hkB, hkc⟩ := HK.out.at_ (by omega)
      subst hka
      have hc : wr.cell? ⟨kb, koff + k, none⟩ = some (.int .u8 (ks.getD k 0)) := (hb.cell hkB).trans (hkc k hlt)
      have hzb := HK.out.byte k
      have hsy := @sels_yes mod width present ks k
      have hsn := @sels_no mod width present ks k
      have hM := fun h1 h2 => selM width present (ks.getD k 0 % mod) hp0 hp1 h1 h2
      have hMn := selM_no width present (ks.getD k 0 % mod)
      generalize ks.getD k 0 = z at hc hzb hsy hsn hM hMn
      obtain ⟨q1, q2⟩ := hzb
      have m0 : 0 ≤ z % (mod : Int) := Int.emod_nonneg _ hmn
      have m1 : z % (mod : Int) < mod := Int.emod_lt_of_pos _ hm0'
      have HSY : Hid (sel width present (z % mod) = true → sels mod width present ks (k + 1) = sels mod width present ks k ++ [k]) := hsy
      have HSN : Hid (sel width present (z % mod) = false → sels mod width present ks (k + 1) = sels mod width present ks k) := hsn
      clear hkc hsy hsn
      by_cases hkw : z % (mod : Int) < (width : Int)
      · have hM' := hM m0 hkw
        cases hs : sel width present (z % mod)
        · rw [hs] at hM'
          have hb' : Hid (Below w.heap.size w wr) := hb
          have hs' := HSN.out hs
          have HS' : Hid (sels mod width present ks (k + 1) = sels mod width present ks k) := hs'
          clear hM hMn hs hs' hb
          go_wp2
          go_roundw
          case rel => first | exact ⟨k + 1, by omega, by go_num, by rw [HS'.out]; exact hown, hb'.out⟩ | ((repeat apply Exists.intro); exact ⟨⟨k + 1, by omega, by go_num, by rw [HS'.out]; exact hown, hb'.out⟩, rfl⟩)
          case measure => simp [intOf]; omega
        · rw [hs] at hM'
          have hs' := HSY.out hs
          have HS' : Hid (sels mod width present ks (k + 1) = sels mod width present ks k ++ [k]) := hs'
          clear hM hMn hs hs'
          go_wp2_with (at_builtin; refine wpList_append_own _ rfl _ _ 51 rfl w.heap.size 3 i3 (.int .i64 0) 1 8 Yba.underlying51 hi3 hy0 hy1 hy2 rfl (by decide) _ _ _ rfl (hown.alloc _) ⟨wr.heap.size, 0, none⟩ 1 1 [_] rfl rfl (cell_one_new _ _ _) (one_int _ _) (by unfold maxLen; omega) (by omega) (by have := hb.size; simp; omega) ?_)
          intro v' w1 h1 h2 _
          have hfr := Fr.grown ((Fr.refl w.heap.size 3 wr).alloc _) (hown.alloc _) h2
          have hb1 : Hid (Below w.heap.size w w1) := hb.trans (hfr.below hb.size)
          have h1' : Hid _ := h1
          clear h1 h2 hfr hown hb
          go_wp2
          go_roundw
          case rel => first | exact ⟨k + 1, by omega, by go_num, by rw [HS'.out, I64_snoc, List.length_append]; exact h1'.out, hb1.out⟩ | ((repeat apply Exists.intro); exact ⟨⟨k + 1, by omega, by go_num, by rw [HS'.out, I64_snoc, List.length_append]; exact h1'.out, hb1.out⟩, rfl⟩)
          case measure => simp [intOf]; omega
      · have hs := hMn hkw
        have hs' := HSN.out hs
        have HS' : Hid (sels mod width present ks (k + 1) = sels mod width present ks k) := hs'
        have hb' : Hid (Below w.heap.size w wr) := hb
        clear hM hMn hs hs' hb
        go_wp2
        go_roundw
        case rel => first | exact ⟨k + 1, by omega, by go_num, by rw [HS'.out]; exact hown, hb'.out⟩ | ((repeat apply Exists.intro); exact ⟨⟨k + 1, by omega, by go_num, by rw [HS'.out]; exact hown, hb'.out⟩, rfl⟩)
        case measure => simp [intOf]; omega
    · obtain rfl : klen = k := by omega
      clear hlt
      obtain ⟨ao, sc, hv, hg⟩ := owns_shape hown
      subst hv
      have hlts := sels_lt mod width present ks klen
      generalize hSS : sels mod width present ks klen = is at *
      have HSS : Hid (sels mod width present ks klen = is) := hSS
      clear hSS
      have HP1 := HP.out.later hb
      have hlen : (B8 (ps.take plen)).length = plen := by rw [B8_len, List.length_take]; have := HP.out.le; omega
      go_wp2_with (at_builtin; refine wpList_append_start rfl (.tmp 47) 22 rfl w.heap.size 5 i0 (.int .u8 0) 1 Yba.underlying22 hi hz0 hz1 hz2 rfl pa plen pcap (B8 (ps.take plen)) rfl hlen HP1.nil HP1.news (B8_one _) (by unfold maxLen; omega) (by omega) hb.size ?_)
      intro v15 w1 h1 h2
      have hk1 : w1.ownsRow w.heap.size 3 1 (.slice ao is.length sc) is.length (I64 is) := hown.kept h2 (by cases h : (Value.slice ao is.length sc).ownBlock <;> simp)
      have hb1 : Below w.heap.size w w1 := hb.grown h2 hb.size (fun k hk => by cases hk)
      have HH : Hid (Calls Yba.prog 22 #[v15, .int .u8 5, .int .i64 (is.length : Int)] w1 fun e w' => ∃ sv', e = .returned sv' ∧ w'.ownsRow w.heap.size 5 1 sv' (plen + (hd is.length).length) (B8 (ps.take plen) ++ hd is.length) ∧ Fr w.heap.size 5 w1 w') :=
        chead_any w.heap.size plen (is.length : Int) v15 _ w1 h1 hb1.size (by omega) (by omega) (by omega)
      clear h1 h2 hown hb HP1
      go_wp2_with (go_at_call 22; refine HH.out.mono ?_; rintro e w2 ⟨v2, rfl, h3, hfr⟩)
      have h3' : w2.ownsRow w.heap.size 5 1 v2 (plen + (hd is.length).length) (B8 (ps.take plen ++ (hdI is.length ++ outs mod ks (is.take 0)))) := by
        have e : B8 (ps.take plen ++ (hdI is.length ++ outs mod ks (is.take 0))) = B8 (ps.take plen) ++ hd is.length := by
          rw [hd_eq, B8_app]; simp [outs, B8]
        rw [e]; exact h3
      have hk2 := hfr.owns (by decide) hk1
      have hb2 : Below w.heap.size w w2 := hb1.trans (hfr.below hb1.size)
      clear h3 hfr hk1 hb1 HH
      go_loopw [15, 16, 17] (fun v i _ wx => ∃ j n1 : Nat, j ≤ is.length ∧ i = .int .i64 j ∧ wx.ownsRow w.heap.size 5 1 v n1 (B8 (ps.take plen ++ (hdI is.length ++ outs mod ks (is.take j)))) ∧ wx.ownsRow w.heap.size 3 1 (.slice ao is.length sc) is.length (I64 is) ∧ Below w.heap.size w wx) (fun _ i _ _ => is.length - (intOf i).toNat)
      case atStart => exact ⟨0, _, by omega, rfl, h3', hk2, hb2⟩
      case round =>
        clear h3' hk2 hb2
        obtain ⟨j, n1, hj, rfl, how, hk2, hb2⟩ := hrel
        have hn1 : n1 ≤ 8192 := by
          have e1 := how.1
          have e2 := hdI_len is.length
          rw [B8_len, List.length_append, List.length_append, outs_len, List.length_take, List.length_take] at e1
          omega
        by_cases hlt : j < is.length
        · obtain ⟨g, rfl, hgl⟩ := hg (by omega)
          obtain ⟨kb, koff, hka, hkB, hkc⟩ := HK.out.at_ (by have := hlts _ (List.getElem_mem hlt); omega)
          subst hka
          obtain ⟨ix, hix⟩ : ∃ ix, ix = is.getD j 0 := ⟨_, rfl⟩
          have hixl : ix < klen := by
            rw [hix]
            have := hlts (is[j]) (List.getElem_mem hlt)
            simpa [List.getElem?_eq_getElem hlt] using this
          have hsj : wr.cell? ⟨g, j, none⟩ = some (.int .i64 (ix : Int)) := by
            rw [hk2.cellAt j (by omega), I64_at is j hlt, hix]
          have hc : wr.cell? ⟨kb, koff + ix, none⟩ = some (.int .u8 (ks.getD ix 0)) := (hb2.cell hkB).trans (hkc ix hixl)
          have hzb := HK.out.byte ix
          have hts : is.take (j + 1) = is.take j ++ [ix] := by
            rw [List.take_succ_eq_append_getElem hlt, hix]
            simp [List.getElem?_eq_getElem hlt]
          have hos := outs_snoc mod ks (is.take j) ix
          rw [← hts] at hos
          have HOS : Hid (outs mod ks (is.take (j + 1)) = outs mod ks (is.take j) ++ [ks.getD ix 0 % mod, (ix : Int) % 256]) := hos
          have HIX : Hid (ix = is.getD j 0) := hix
          clear hix hts hos hkc
          obtain ⟨z, hz⟩ : ∃ z, z = ks.getD ix 0 := ⟨_, rfl⟩
          rw [← hz] at hc hzb
          have HZ : Hid (z = ks.getD ix 0) := hz
          clear hz
          obtain ⟨q1, q2⟩ := hzb
          have m0 : 0 ≤ z % (mod : Int) := Int.emod_nonneg _ hmn
          have m1 : z % (mod : Int) < mod := Int.emod_lt_of_pos _ hm0'
          have x0 : (0 : Int) ≤ (ix : Int) := by omega
          have x1 : (ix : Int) < (klen : Int) := by omega
          have hjl : (j : Int) < (is.length : Int) := by omega
          go_wp2_with (at_builtin; refine wpList_append_own _ rfl _ _ 22 rfl w.heap.size 5 i0 (.int .u8 0) 1 1 Yba.underlying22 hi hz0 hz1 hz2 rfl (by decide) _ _ _ rfl (how.alloc _) ⟨wr.heap.size, 0, none⟩ 2 2 [_, _] rfl rfl (cell_two_new _ _ _ _) (two_int _ _ _) (by unfold maxLen; omega) (by omega) (by have := hb2.size; simp; omega) ?_)
          intro v' w3 h1 h2 _
          have hfr := Fr.grown ((Fr.refl w.heap.size 5 wr).alloc _) (how.alloc _) h2
          have hk3 : Hid (w3.ownsRow w.heap.size 3 1 (.slice (some ⟨g, 0, none⟩) is.length sc) is.length (I64 is)) := hfr.owns (by decide) hk2
          have hb3 : Hid (Below w.heap.size w w3) := hb2.trans (hfr.below hb2.size)
          have h1' : Hid (w3.ownsRow w.heap.size 5 1 v' (n1 + 2) (B8 (ps.take plen ++ (hdI is.length ++ outs mod ks (is.take (j + 1)))))) := by
            have e : B8 (ps.take plen ++ (hdI is.length ++ outs mod ks (is.take (j + 1)))) = B8 (ps.take plen ++ (hdI is.length ++ outs mod ks (is.take j))) ++ [Value.int IntKind.u8 (z % ↑mod), Value.int IntKind.u8 (↑ix % 256)] := by
              rw [HOS.out, HZ.out]; simp [B8]
            rw [e]; exact h1
          clear h1 h2 hfr how hk2 hb2
          go_wp2
          go_roundw
          case rel => first | exact ⟨j + 1, _, by omega, by go_num, h1'.out, hk3.out, hb3.out⟩ | ((repeat apply Exists.intro); exact ⟨⟨j + 1, _, by omega, by go_num, h1'.out, hk3.out, hb3.out⟩, rfl⟩)
          case measure => simp [intOf]; omega
        · obtain rfl : j = is.length := by omega
          rw [List.take_length] at how
          clear hlt
          go_wp2
          go_ret2
          rw [HSS.out]
          exact ⟨_, _, _, rfl, how, hk2, hb2⟩
end Go.Proofs.Ybulkcufi.Rec
