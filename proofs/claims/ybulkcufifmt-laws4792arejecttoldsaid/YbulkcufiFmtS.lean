/-
  What 'laid' gives the walk; a start that meets it; the law, whatever the input.
-/
import Derived.Test.YbulkcufiFmtR
import Derived.Stop.LaidErr
import Derived.Stop.LaidTwo
import Derived.LaidHandle
import Derived.LaidLaws
import Derived.Lib.LaidIn
import Derived.ProofKit
import Derived.Stop.JoinedTold
import Derived.Deep.DeepWitnessRef
import Derived.Deep.DeepWitnessRowRef
namespace Go.Proofs.YbulkcufiFmt
open Go.ChangeShapes Go.WideShapes Go.ChangeAt Go.RowKit Go.Extern.Stop Go.Stop Go.Extern Go.Lib

theorem lOwn : ownKnob Ybaf.prog.godebug = none := by kernel_rfl
theorem gET : Ybaf.prog.globalNamed "errors.errorType" = some 1 := by kernel_rfl
theorem gEOF : Ybaf.prog.globalNamed "io.EOF" = some 3 := by kernel_rfl
theorem gUnexp : Ybaf.prog.globalNamed "io.ErrUnexpectedEOF" = some 0 := by kernel_rfl
theorem gShort : Ybaf.prog.globalNamed "io.ErrShortBuffer" = some 6 := by kernel_rfl
theorem gRt : (Ybaf.prog.cutTypes.find? (·.1 == "internal/reflectlite.rtype")).map (·.2) = some 75 := by kernel_rfl
theorem gStar : "*" ++ "errors.errorString" = "*errors.errorString" := by decide
theorem gRow111 (u : TypeId) (h : Ybaf.prog.typeName? 3 u = some "*errors.errorString") : u = 111 :=
  typeName_ptr_named (nm := "errors.errorString") (by rw [gStar]; kernel_rfl) (by kernel_rfl) (by decide) u (by rw [gStar]; exact h)
theorem gSize : Ybaf.prog.types.size = 157 := by kernel_rfl
theorem gOne : ((List.range 157).filter fun t => Ybaf.prog.rowNamed t [101, 114, 114, 111, 114]) = [28] := by kernel_rfl
theorem gHandle : typeHandle Ybaf.prog 28 = .pointer (some ⟨7, 28, none⟩) := by kernel_rfl

/-- The listed variables that hold sentinels. -/
def laidS : List (String × DataW Unit) := [("io.ErrShortBuffer", Rows.laid_io_ErrShortBuffer), ("io.EOF", Rows.laid_io_EOF), ("io.ErrUnexpectedEOF", Rows.laid_io_ErrUnexpectedEOF), ("io.ErrNoProgress", Rows.laid_io_ErrNoProgress), ("bufio.errNegativeRead", Rows.laid_bufio_errNegativeRead)]
theorem laid_parts {W : World} (h : laidMetH Ybaf.prog Rows.lawS4792ARejectRow.laid W) : laidMet Ybaf.prog laidS W ∧ handlesMet Ybaf.prog [("errors.errorType", Rows.laid_errors_errorType)] W := h

theorem handle_of_laid {W : World} (h : laidMetH Ybaf.prog Rows.lawS4792ARejectRow.laid W) : W.cell? ⟨1, 0, none⟩ = some (.iface 75 (.agg #[.pointer (some ⟨7, 28, none⟩)])) := by
  obtain ⟨name, u, ty, e1, e2, e3, e4, e5⟩ := (laid_parts h).2 _ (List.mem_singleton.2 rfl)
  have en : name = [101, 114, 114, 111, 114] := (Option.some.inj e1).symm
  subst en
  obtain rfl := Option.some.inj (gRt.symm.trans e2)
  have hm : ty ∈ (List.range 157).filter fun t => Ybaf.prog.rowNamed t [101, 114, 114, 111, 114] := List.mem_filter.2 ⟨List.mem_range.2 (by rw [← gSize]; exact e3), e4⟩
  rw [gOne] at hm
  obtain rfl := List.mem_singleton.1 hm
  rw [gHandle] at e5
  simpa using World.var?_cell gET e5 0

theorem gl_of_laid {W : World} (h : laidMetH Ybaf.prog Rows.lawS4792ARejectRow.laid W) : ∃ ea ua, Gl W.heap.size ea ua W := by
  have hL := (laid_parts h).1
  obtain ⟨a6, s6, hv6, _, _, _⟩ := laid_sentinel (g := 6) hL gShort (by kernel_rfl) Ybaf.underlying28 gRow111 Ybaf.underlying111 Ybaf.underlying113 rfl rfl Ybaf.underlying9 (by kernel_rfl) (by kernel_rfl)
  have c6 : W.cell? ⟨6, 0, none⟩ = some (.iface 111 (.pointer (some a6))) := by simpa using World.var?_cell gShort hv6 0
  obtain ⟨ea, ua, s0, s1, k0, k1, t0, t1, hv0, hv1, hc0, hs0, hz0, hc1, hs1, hz1, hne, hb0, hb1⟩ := laid_sentinels2 hL.tail gEOF (by kernel_rfl) gUnexp (by kernel_rfl) Ybaf.underlying28 gRow111 Ybaf.underlying111 Ybaf.underlying113 rfl rfl Ybaf.underlying9 (by kernel_rfl) (by kernel_rfl)
  have c3 : W.cell? ⟨3, 0, none⟩ = some (.iface 111 (.pointer (some ea))) := by simpa using World.var?_cell gEOF hv0 0
  have c0 : W.cell? ⟨0, 0, none⟩ = some (.iface 111 (.pointer (some ua))) := by simpa using World.var?_cell gUnexp hv1 0
  have h6 : 6 < W.heap.size := block_lt_of_cell c6
  exact ⟨ea, ua, c3, c0, hne, lt_heap hb0, lt_heap hb1, ⟨k0, t0, hb0⟩, ⟨k1, t1, hb1⟩, by omega⟩

/-- THE LAW, whatever the input, whatever fmt's text. -/
theorem law_all (F : Interp) (a0 a1 a2 a3 a4 a5 a6 : Int) (W : World) (hF : F.answers W.tape) (h0 : (Lit.int .u64 a0).wf = true) (h1 : (Lit.int .u8 a1).wf = true) (h2 : (Lit.int .u8 a2).wf = true) (h3 : (Lit.int .u8 a3).wf = true) (h4 : (Lit.int .u8 a4).wf = true) (h5 : (Lit.int .u8 a5).wf = true) (h6 : (Lit.int .u64 a6).wf = true)
    (hL : laidMetH Ybaf.prog Rows.lawS4792ARejectRow.laid W) :
    Calls Ybaf.prog 3 #[.int .u64 a0, .int .u8 a1, .int .u8 a2, .int .u8 a3, .int .u8 a4, .int .u8 a5, .int .u64 a6] W fun e W' => e = .returned (.bool true) ∧ Below W.heap.size W W' := by
  have b0 := bounds_u64 h0
  have b1 := bounds_u8 h1
  have b2 := bounds_u8 h2
  have b3 := bounds_u8 h3
  have b4 := bounds_u8 h4
  have b5 := bounds_u8 h5
  have b6 := bounds_u64 h6
  obtain ⟨ea, ua, hG⟩ := gl_of_laid hL
  have hg := handle_of_laid hL
  have hp : a4 % 2 = 0 ∨ a4 % 2 = 1 := by omega
  rcases hp with hp | hp
  · refine (law_even a0 a1 a2 a3 a4 a5 a6 ea ua _ W (by omega) (by omega) (by omega) (by omega) (by omega) (by omega) (by omega) (by omega) (by omega) (by omega) hp rfl hG hg).mono ?_
    rintro e W' ⟨rfl, hf⟩
    exact ⟨rfl, hf.below (Nat.le_refl _) (fun _ _ => id)⟩
  · refine (law_odd F a0 a1 a2 a3 a4 a5 a6 ea ua _ W hF (by omega) (by omega) (by omega) (by omega) (by omega) (by omega) (by omega) (by omega) hp rfl hG hg).mono ?_
    rintro e W' ⟨rfl, hf⟩
    exact ⟨rfl, hf.below (Nat.le_refl _) (fun _ _ => id)⟩
end Go.Proofs.YbulkcufiFmt
