/- The row of FnSymbolsBack. -/
import Derived.Test.YtdjilplpbaackaaDoorLaw4
import Derived.Test.YtdjilplpbaackaaDoorRowLem
set_option linter.unusedVariables false
set_option linter.unusedSimpArgs false
set_option maxRecDepth 100000
namespace Go.Proofs.YtdjilplpbaackaaDoor.Eng
open Go Go.ChangeShapes Go.WideShapes Go.RowKit

theorem own_ : ownKnob Tryd.prog.godebug = none := by kernel_rfl
theorem laidOut_ : laidOutB Tryd.prog = true := by kernel_rfl
abbrev eofS : ByteArray := { data := #[69, 79, 70] }
abbrev uneS : ByteArray := { data := #[117, 110, 101, 120, 112, 101, 99, 116, 101, 100, 32, 69, 79, 70] }
noncomputable def low : Nat := (World.holding Tryd.prog default ⟨#[], #[], []⟩).heap.size
noncomputable def laidW (os : Os) : World :=
  let w0 := World.holding Tryd.prog os ⟨#[.cells #[.string eofS] 212, .cells #[.string uneS] 212], #[], []⟩
  { w0 with heap := ((w0.heap.modify 0 fun
      | .cells _ t frozen => .cells #[rty 65] t frozen
      | o => o).modify 2 fun
      | .cells _ t frozen => .cells #[.iface 175 (.pointer (some ⟨low, 0, none⟩))] t frozen
      | o => o).modify 1 fun
      | .cells _ t frozen => .cells #[.iface 175 (.pointer (some ⟨low + 1, 0, none⟩))] t frozen
      | o => o }
theorem laidW_met (os : Os) (args : Array Value) : laidMetH Tryd.prog Rows.fnSymbolsBackRow.laid ((laidW os).forCall (fun _ _ => 0) ⟨#[], args, []⟩).memory :=
  laidMetH_of_parts (laidMet_of_run (ps := [.cell 2 0, .cell low 0, .cell 1 0, .cell (low + 1) 0]) 8 (by kernel_rfl) (by kernel_rfl) (by kernel_rfl)) (by kernel_rfl)

theorem cells3' : Tryd.prog.cellsOf 3 = 1 := by kernel_rfl
theorem open_i64s {H : Type} {enc : TypeId × Value → H} {W : World} {base : Nat} {v1 : Value} {d1 : DataW H} {p1 : List MemPlace} (hval : Value.okWide Tryd.prog W .any base 29 v1) (h1 : DataW.Trod enc Tryd.prog W 0 (fun _ => true) true 29 v1 d1 p1) :
    ∃ (sa : Option Addr) (ca : Nat) (xs : List Int), v1 = .slice sa xs.length ca ∧ SrcV W sa (xs.map fun p => .int .i64 p) := by
  obtain ⟨a1, len, cap, rfl⟩ := okWide_slice Tryd.underlying29 hval
  obtain ⟨fuel, hf⟩ := h1
  rcases open_ints Tryd.underlying29 Tryd.underlying3 cells3' hf with ⟨hcs, hx⟩ | ⟨a, len', cap', zs, hcs, _, hl, hm, hz, hx, hcell, hwz⟩
  · simp [Value.cells] at hcs
    obtain ⟨rfl, rfl, rfl⟩ := hcs
    exact ⟨none, 0, [], rfl, .inl rfl⟩
  · simp [Value.cells] at hcs
    obtain ⟨rfl, rfl, rfl⟩ := hcs
    simp only [if_true] at hz
    have hlen : (zs.take len).length = len := by rw [List.length_take]; omega
    by_cases h0 : zs.length = 0
    · obtain rfl : zs = [] := List.eq_nil_of_length_eq_zero h0
      obtain rfl : len = 0 := by simp at hz; omega
      exact ⟨_, cap, [], rfl, .inl rfl⟩
    · obtain ⟨ab, ao, spot⟩ := a
      have hspot : spot = none := by simpa [Addr.add] using World.cell?_spot (hcell 0 (by omega))
      subst hspot
      have hc0 := hcell 0 (by omega)
      rw [add_none] at hc0
      obtain ⟨c, T, fr, hb, _⟩ := blk_of_cell hc0
      refine ⟨_, cap, zs.take len, by rw [hlen], .inr ⟨ab, ao, rfl, blk_lt hb, fun k x hk => ?_⟩⟩
      rw [List.getElem?_map, Option.map_eq_some_iff] at hk
      obtain ⟨z, hz2, rfl⟩ := hk
      rw [List.getElem?_take] at hz2
      split at hz2
      · have hk2 : k < zs.length := by omega
        have := hcell k hk2
        rw [add_none, List.getD_eq_getElem?_getD, hz2] at this
        exact this
      · cases hz2

set_option maxHeartbeats 1000000 in
theorem lifted4 (os : Os) (started : os.Started) (H : Type) (enc : TypeId × Value → H) :
    ReturnsInHanded {} Tryd.checked os 4 .any (fun w args => (Rows.fnSymbolsBackSpec.pre enc Tryd.prog Tryd.f4 [] false w args ∧ laidMetH Tryd.prog Rows.fnSymbolsBackRow.laid w) ∧ sizedMet enc Tryd.prog Tryd.f4 (OpenSpec.ofChange Rows.fnSymbolsBackSpec) false w args)
      (Rows.fnSymbolsBackSpec.post enc Tryd.prog Tryd.f4 false true false false) := by
  refine returnsInHanded_of_change_and (C := Tryd.checked) (X := fun w _ => laidMetH Tryd.prog Rows.fnSymbolsBackRow.laid w) (fun _ _ _ hh h => h.of_heap hh) own_ started (by kernel_rfl) Tryd.func4
    (ChangeSpec.witness_at (enc := enc) (C := Tryd.checked) (os := os) (X := fun w _ => laidMetH Tryd.prog Rows.fnSymbolsBackRow.laid w) false (laidW os) #[.slice none 0 0, .slice none 0 0, .slice none 0 0] 8 rfl (by kernel_rfl) (by kernel_rfl) (by kernel_rfl) (by kernel_rfl) (by kernel_rfl) (laidW_met os _)) ?_
  intro W base args ds gs before hval0 hW _ _ hL _
  have hval : ∀ (j : Nat) t v, Tryd.f4.params[j]? = some t → args[j]? = some v → Value.okWide Tryd.prog W .any base t v := hval0
  have hW' := hW
  obtain ⟨p, q, hA0, hV, rfl, hfz, hnd⟩ := hW
  have hA : DataW.TrodAll enc Tryd.prog W 0 (fun _ => true) true Tryd.f4.params.toList args.toList ds p := hA0
  rw [Tryd.params4] at hA hval
  obtain ⟨v0, vs1, d0, ds1, p0, q1, e0, rfl, rfl, h0, hA1⟩ := trodAll_cons hA
  obtain ⟨v1, vs2, d1, ds2, p1, q2, rfl, rfl, rfl, h1, hA2⟩ := trodAll_cons hA1
  obtain ⟨v2, vs3, d2, ds3, p2, q3, rfl, rfl, rfl, h2, hA3⟩ := trodAll_cons hA2
  obtain ⟨rfl, rfl, rfl⟩ := trodAll_nil hA3
  obtain rfl : args = #[v0, v1, v2] := by apply Array.ext'; simpa using e0
  obtain ⟨rfl, rfl⟩ := trodVars_none hV
  obtain ⟨sc, cc, cs, rfl, hcc, hSc, hcs⟩ := open_bytes (hval 0 22 v0 rfl rfl) h0
  obtain ⟨sy, cy, ys, rfl, hcy, hSy, hys⟩ := open_bytes (hval 1 22 v1 rfl rfl) h1
  obtain ⟨sp, cp, ps, rfl, hSp⟩ := open_i64s (hval 2 29 v2 rfl rfl) h2
  obtain ⟨a0, a1, hG, hsz, hg⟩ := prem hL
  clear hA0 hval0
  have hlt : ∀ x ∈ p0 ++ (p1 ++ p2), x.block < W.heap.size := fun x hx => hW'.lt x (by simpa using hx)
  refine (law4 (cc := cc) (cy := cy) (cp := cp) hSc hSy hSp hcs hys hG hsz hg).mono fun e W' ⟨he, hF⟩ => ?_
  have hb := hF.below
  have hl0 : ∀ x ∈ p0, x.block < W.heap.size := fun x hx => hlt x (List.mem_append_left _ hx)
  have hl1 : ∀ x ∈ p1, x.block < W.heap.size := fun x hx => hlt x (List.mem_append_right _ (List.mem_append_left _ hx))
  have hl2 : ∀ x ∈ p2, x.block < W.heap.size := fun x hx => hlt x (List.mem_append_right _ (List.mem_append_right _ hx))
  refine ⟨_, he, _, _, _, [], p0 ++ (p1 ++ (p2 ++ [])), [], hW', ?_, ?_, rfl, hb.frame _, fun h => by cases h⟩
  · exact trodAll_mk1 (shut_bool Tryd.underlying4 true)
  · exact trodAll_cons_mk (Below.trod laidOut_ (by kernel_rfl) (of_decide_eq_true (by kernel_rfl)) h0 hb hl0)
      (trodAll_cons_mk (Below.trod laidOut_ (by kernel_rfl) (of_decide_eq_true (by kernel_rfl)) h1 hb hl1)
        (trodAll_cons_mk (Below.trod laidOut_ (by kernel_rfl) (of_decide_eq_true (by kernel_rfl)) h2 hb hl2) trodAll_mk0))
theorem row4 : Rows.FnSymbolsBackSaid :=
  OpenClaim.holds_of_wide 4 Tryd.f4 rfl rfl rfl rfl rfl rfl rfl ⟨rfl, rfl, rfl, rfl, rfl⟩ rfl rfl rfl rfl rfl (by kernel_rfl) Tryd.func4 (by kernel_rfl)
    (of_decide_eq_true (by kernel_rfl)) (by unfold Func.isWrapper; rw [if_neg (of_decide_eq_false (by kernel_rfl))]; exact ⟨rfl, rfl⟩)
    (fun os started H enc _ => lifted4 os started H enc)
end Go.Proofs.YtdjilplpbaackaaDoor.Eng
