/- What the row's premises give: the bytes of an argument, the cells of the package's variables. -/
import Derived.Test.YtdjilplpbaackaaDoorCode
import Derived.Test.YtdjilplpbaackaaDoorRows
import Derived.Test.YtdjilplpbaackaaDoorTie
import Derived.ProofKit
import Derived.OpenShut
import Derived.Stop.LaidTwo
import Derived.LaidHandle
import Derived.ChangeSame
import Derived.ChangeVars
import Derived.JoinedOf
import Derived.LaidLaws
import Derived.Stop.Joined
set_option linter.unusedVariables false
set_option linter.unusedSimpArgs false
set_option maxRecDepth 100000
namespace Go.Proofs.YtdjilplpbaackaaDoor.Eng
open Go Go.ChangeShapes Go.WideShapes Go.RowKit

theorem et : Tryd.prog.globalNamed "errors.errorType" = some 0 := by kernel_rfl
theorem gU : Tryd.prog.globalNamed "io.ErrUnexpectedEOF" = some 1 := by kernel_rfl
theorem gE : Tryd.prog.globalNamed "io.EOF" = some 2 := by kernel_rfl
theorem gUt : (Tryd.prog.globals[1]?).map (·.type) = some 65 := by kernel_rfl
theorem gEt : (Tryd.prog.globals[2]?).map (·.type) = some 65 := by kernel_rfl
theorem rtF : (Tryd.prog.cutTypes.find? (·.1 == "internal/reflectlite.rtype")).map (·.2) = some 158 := by kernel_rfl
theorem oneRow : ((List.range Tryd.prog.types.size).filter fun t => Tryd.prog.rowNamed t [101, 114, 114, 111, 114]) = [65] := by kernel_rfl
theorem star : "*" ++ "errors.errorString" = "*errors.errorString" := by decide
theorem row175 (u : TypeId) (h : Tryd.prog.typeName? 3 u = some "*errors.errorString") : u = 175 :=
  typeName_ptr_named (nm := "errors.errorString") (by rw [star]; kernel_rfl) (by kernel_rfl) (by decide) u (by rw [star]; exact h)
theorem cellOf_of_cell' {w : World} {b p : Nat} {v : Value} (h : w.cell? ⟨b, p, none⟩ = some v) : cellOf w.heap b p = some v := by
  unfold cellOf
  rcases hg : w.heap[b]? with _ | ob
  · simp [World.cell?, hg] at h
  · cases ob <;> simp [World.cell?, hg] at h ⊢
    exact h
theorem cells5 : Tryd.prog.cellsOf 5 = 1 := by kernel_rfl
theorem cells212 : Tryd.prog.cellsOf 212 = 1 := by kernel_rfl
theorem cells9 : Tryd.prog.cellsOf 9 = 1 := by kernel_rfl
theorem blk_of_cell {w : World} {b p : Nat} {v : Value} (h : w.cell? ⟨b, p, none⟩ = some v) : ∃ c T fr, w.heap[b]? = some (.cells c T fr) ∧ c[p]? = some v := by
  rcases hg : w.heap[b]? with _ | ob
  · simp [World.cell?, hg] at h
  · cases ob <;> simp [World.cell?, hg] at h
    exact ⟨_, _, _, rfl, h⟩
/-- What the condition gives the walk. -/
theorem prem {W : World} (h : laidMetH Tryd.prog Rows.fnSymbolsRow.laid W) : ∃ a0 a1, GlobP W.heap a1 a0 ∧ 2 < W.heap.size ∧ W.cell? ⟨0, 0, none⟩ = some (rty 65) := by
  have h' : laidMet Tryd.prog [("io.EOF", Rows.laid_io_EOF), ("io.ErrUnexpectedEOF", Rows.laid_io_ErrUnexpectedEOF)] W ∧ handlesMet Tryd.prog [("errors.errorType", Rows.laid_errors_errorType)] W := h
  obtain ⟨hL, hH⟩ := h'
  obtain ⟨name, u, ty, e1, e2, e3, e4, e5⟩ := hH _ (List.mem_singleton.2 rfl)
  have en : name = [101, 114, 114, 111, 114] := (Option.some.inj e1).symm
  subst en
  obtain rfl := Option.some.inj (rtF.symm.trans e2)
  have hm : ty ∈ (List.range Tryd.prog.types.size).filter fun t => Tryd.prog.rowNamed t [101, 114, 114, 111, 114] := List.mem_filter.2 ⟨List.mem_range.2 e3, e4⟩
  rw [oneRow] at hm
  obtain rfl := List.mem_singleton.1 hm
  have hh : typeHandle Tryd.prog 65 = .pointer (some ⟨4, 65, none⟩) := by kernel_rfl
  rw [hh] at e5
  have hg : W.cell? ⟨0, 0, none⟩ = some (rty 65) := by simpa using World.var?_cell et e5 0
  obtain ⟨a0, a1, s0, s1, c0, c1, t0, t1, hv0, hv1, hc0, hs0, hz0, hc1, hs1, hz1, hne, hb0, hb1⟩ := laid_sentinels2 hL gE gEt gU gUt Tryd.underlying65 row175 Tryd.underlying175 Tryd.underlying212 rfl rfl Tryd.underlying9 cells212 cells9
  have c2 : W.cell? ⟨2, 0, none⟩ = some (.iface 175 (.pointer (some a0))) := by simpa using World.var?_cell gE hv0 0
  have c1' : W.cell? ⟨1, 0, none⟩ = some (.iface 175 (.pointer (some a1))) := by simpa using World.var?_cell gU hv1 0
  refine ⟨a0, a1, ⟨cellOf_of_cell' c1', cellOf_of_cell' c2⟩, ?_, hg⟩
  obtain ⟨c, T, fr, hb, _⟩ := blk_of_cell c2
  exact blk_lt hb
section
variable {H : Type} {enc : TypeId × Value → H}
theorem open_bytes {W : World} {base : Nat} {v1 : Value} {d1 : DataW H} {p1 : List MemPlace} (hval : Value.okWide Tryd.prog W .any base 22 v1) (h1 : DataW.Trod enc Tryd.prog W 0 (fun _ => true) true 22 v1 d1 p1) :
    ∃ (sa : Option Addr) (ca : Nat) (xs : List Nat), v1 = .slice sa xs.length ca ∧ xs.length ≤ ca ∧ SrcH W.heap sa xs ∧ ∀ x ∈ xs, x < 256 := by
  obtain ⟨a1, len, cap, rfl⟩ := okWide_slice Tryd.underlying22 hval
  obtain ⟨fuel, hf⟩ := h1
  rcases open_ints Tryd.underlying22 Tryd.underlying5 cells5 hf with ⟨hcs, hx⟩ | ⟨a, len', cap', zs, hcs, _, hl, hm, hz, hx, hcell, hwz⟩
  · simp [Value.cells] at hcs
    obtain ⟨rfl, rfl, rfl⟩ := hcs
    exact ⟨none, 0, [], rfl, Nat.le_refl _, .inl rfl, fun x hx => by cases hx⟩
  · simp [Value.cells] at hcs
    obtain ⟨rfl, rfl, rfl⟩ := hcs
    simp only [if_true] at hz
    have hlen : ((zs.take len).map Int.toNat).length = len := by rw [List.length_map, List.length_take]; omega
    have hrange : ∀ z ∈ zs, 0 ≤ z ∧ z < 256 := fun z hz => by
      have := bounds_u8 (hwz z hz)
      omega
    refine ⟨some a, cap, (zs.take len).map Int.toNat, by rw [hlen], by rw [hlen]; exact hl, ?_, fun x hx => ?_⟩
    · by_cases h0 : len = 0
      · left; subst h0; rfl
      · obtain ⟨ab, ao, spot⟩ := a
        have hspot : spot = none := by simpa [Addr.add] using World.cell?_spot (hcell 0 (by omega))
        subst hspot
        have hc0 := hcell 0 (by omega)
        rw [add_none] at hc0
        obtain ⟨c, T, fr, hb, _⟩ := blk_of_cell hc0
        refine .inr ⟨ab, ao, c, T, fr, rfl, hb, fun k x hk => ?_⟩
        rw [List.getElem?_map, Option.map_eq_some_iff] at hk
        obtain ⟨z, hz2, rfl⟩ := hk
        rw [List.getElem?_take] at hz2
        split at hz2
        · have hk2 : k < zs.length := by omega
          have := hcell k hk2
          rw [add_none, cell_of_blk hb, List.getD_eq_getElem?_getD, hz2] at this
          rw [this]
          show some (Value.int .u8 z) = some (.int .u8 (z.toNat : Nat))
          rw [Int.toNat_of_nonneg (hrange z (List.mem_of_getElem? hz2)).1]
        · cases hz2
    · rw [List.mem_map] at hx
      obtain ⟨z, hz2, rfl⟩ := hx
      have := hrange z (List.mem_of_mem_take hz2)
      omega
end
theorem Fr.below {w w' : World} (h : Fr NO w w') : Below w.heap.size w w' := ⟨h.os, h.tape, h.output, h.size, fun k hk => h.block k hk id⟩
end Go.Proofs.YtdjilplpbaackaaDoor.Eng
