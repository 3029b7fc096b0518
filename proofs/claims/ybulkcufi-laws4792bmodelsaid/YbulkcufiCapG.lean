/-
  (*IPPacket).TCP over a payload that the call itself made, all ways in one contract.
-/
import Derived.Test.YbulkcufiCapF
import Derived.OpenShut
namespace Go.Proofs.Ybulkcufi.Cap
open Go.RowKit

/-- What TCP answers. -/
def TcpSays (pr hop : Int) (g len : Nat) (zs : List Int) (sp dp h sq ak fl : Int) (sa : Option Addr) (sl sc : Nat) (ok : Bool) : Prop :=
  (ok = false ∧ sp = 0 ∧ dp = 0 ∧ h = 0 ∧ sq = 0 ∧ ak = 0 ∧ fl = 0 ∧ sa = none ∧ sl = 0 ∧ sc = 0 ∧
    (¬ pr = 6 ∨ (pr = 6 ∧ len < 20) ∨ (pr = 6 ∧ 20 ≤ len ∧ (zs.getD 12 0 / 16 * 4 < 20 ∨ (len : Int) < zs.getD 12 0 / 16 * 4)))) ∨
  (∃ off : Nat, ok = true ∧ pr = 6 ∧ 20 ≤ len ∧ 20 ≤ off ∧ off ≤ len ∧ zs.getD 12 0 / 16 * 4 = off ∧ sp = zs.getD 0 0 * 256 + zs.getD 1 0 ∧ dp = zs.getD 2 0 * 256 + zs.getD 3 0 ∧ h = hop ∧
    sq = zs.getD 4 0 * 16777216 + zs.getD 5 0 * 65536 + zs.getD 6 0 * 256 + zs.getD 7 0 ∧ ak = zs.getD 8 0 * 16777216 + zs.getD 9 0 * 65536 + zs.getD 10 0 * 256 + zs.getD 11 0 ∧ fl = zs.getD 13 0 ∧
    sa = tailAddr g 0 len off ∧ sl = len - off ∧ sc = len - off)

theorem byteAt {zs : List Int} (hw : ∀ n ∈ zs, (Lit.int .u8 n).wf = true) (j : Nat) : Byte (zs.getD j 0) := by
  have h := range_u8 hw j
  rw [← List.getD_eq_getElem?_getD] at h
  exact ⟨h.1, by omega⟩

theorem tcp_any (b : Nat) (hop pr : Int) (ca : Option Addr) (g len : Nat) (zs : List Int) (w : World) (hp : IsPkt w b hop pr (.slice ca len len)) (hca : 0 < len → ca = some ⟨g, 0, none⟩)
    (hw : ∀ n ∈ zs, (Lit.int .u8 n).wf = true) (hc : ∀ j, j < len → w.cell? ⟨g, j, none⟩ = some (.int .u8 (zs.getD j 0))) :
    Calls Yba.prog 7 #[.pointer (some ⟨b, 0, none⟩)] w fun e w' => ∃ (sp dp h sq ak fl : Int) (sa : Option Addr) (sl sc : Nat) (ok : Bool),
      e = .returned (.tuple #[.agg #[.int .u64 0, .int .u64 0, .pointer none, .int .u16 sp, .int .u64 0, .int .u64 0, .pointer none, .int .u16 dp, .int .u8 h, .int .u32 sq, .int .u32 ak, .int .u8 fl, .slice sa sl sc], .bool ok]) ∧
      TcpSays pr hop g len zs sp dp h sq ak fl sa sl sc ok ∧ Below w.heap.size w w' := by
  by_cases h6 : pr = 6
  · subst h6
    by_cases h20 : len < 20
    · refine (tcp_no2 b hop ca len len w hp h20).mono ?_
      rintro e w' ⟨he, hb⟩
      exact ⟨0, 0, 0, 0, 0, 0, none, 0, 0, false, he, .inl ⟨rfl, rfl, rfl, rfl, rfl, rfl, rfl, rfl, rfl, rfl, .inr (.inl ⟨rfl, h20⟩)⟩, hb⟩
    · have hca' := hca (by omega)
      subst hca'
      have b12 := byteAt hw 12
      by_cases hbad : zs.getD 12 0 / 16 * 4 < 20 ∨ (len : Int) < zs.getD 12 0 / 16 * 4
      · refine (tcp_no3 b g 0 len len hop (zs.getD 12 0) w hp (by omega) b12 (hc 12 (by omega)) hbad).mono ?_
        rintro e w' ⟨he, hb⟩
        exact ⟨0, 0, 0, 0, 0, 0, none, 0, 0, false, he, .inl ⟨rfl, rfl, rfl, rfl, rfl, rfl, rfl, rfl, rfl, rfl, .inr (.inr ⟨rfl, by omega, hbad⟩)⟩, hb⟩
      · obtain ⟨off, hoff⟩ : ∃ off : Nat, zs.getD 12 0 / 16 * 4 = off := ⟨(zs.getD 12 0 / 16 * 4).toNat, by have := b12.1; omega⟩
        refine (tcp_yes b g 0 len len off hop (zs.getD 0 0) (zs.getD 1 0) (zs.getD 2 0) (zs.getD 3 0) (zs.getD 4 0) (zs.getD 5 0) (zs.getD 6 0) (zs.getD 7 0) (zs.getD 8 0) (zs.getD 9 0) (zs.getD 10 0) (zs.getD 11 0) (zs.getD 12 0) (zs.getD 13 0) w hp (by omega) (by omega)
          (byteAt hw 0) (byteAt hw 1) (byteAt hw 2) (byteAt hw 3) (byteAt hw 4) (byteAt hw 5) (byteAt hw 6) (byteAt hw 7) (byteAt hw 8) (byteAt hw 9) (byteAt hw 10) (byteAt hw 11) b12
          (hc 0 (by omega)) (hc 1 (by omega)) (hc 2 (by omega)) (hc 3 (by omega)) (hc 4 (by omega)) (hc 5 (by omega)) (hc 6 (by omega)) (hc 7 (by omega)) (hc 8 (by omega)) (hc 9 (by omega)) (hc 10 (by omega)) (hc 11 (by omega)) (hc 12 (by omega)) (hc 13 (by omega)) hoff (by omega) (by omega)).mono ?_
        rintro e w' ⟨he, hb⟩
        exact ⟨_, _, _, _, _, _, _, _, _, _, he, .inr ⟨off, rfl, rfl, by omega, by omega, by omega, hoff, rfl, rfl, rfl, rfl, rfl, rfl, rfl, rfl, rfl⟩, hb⟩
  · refine (tcp_no1 b hop pr ca len len w hp (by simpa using h6)).mono ?_
    rintro e w' ⟨he, hb⟩
    exact ⟨0, 0, 0, 0, 0, 0, none, 0, 0, false, he, .inl ⟨rfl, rfl, rfl, rfl, rfl, rfl, rfl, rfl, rfl, rfl, .inl h6⟩, hb⟩

end Go.Proofs.Ybulkcufi.Cap
