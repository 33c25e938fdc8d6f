/- The row of FnSymbols. -/
import Derived.Test.YtdjilplpbaackaaDoorLaw3
import Derived.Test.YtdjilplpbaackaaDoorRowLem
set_option linter.unusedVariables false
set_option linter.unusedSimpArgs false
set_option maxRecDepth 100000
namespace Go.Proofs.YtdjilplpbaackaaDoor.Eng
open Go Go.ChangeShapes Go.WideShapes Go.RowKit

theorem own_ : ownKnob Tryd.prog.godebug = none := by kernel_rfl
theorem laidOut_ : laidOutB Tryd.prog = true := by kernel_rfl
abbrev eofS : ByteArray := { data := #[69, 79, 70] }
abbrev uneS : ByteArray := { data := #[117, 110, 101, 120, 112, 101, 99, 116, 101, 100, 32, 69, 79, 70] }
noncomputable def low : Nat := (World.holding Tryd.prog default ⟨#[], #[], []⟩).heap.size
noncomputable def laidW (os : Os) : World :=
  let w0 := World.holding Tryd.prog os ⟨#[.cells #[.string eofS] 212, .cells #[.string uneS] 212], #[], []⟩
  { w0 with heap := ((w0.heap.modify 0 fun
      | .cells _ t frozen => .cells #[rty 65] t frozen
      | o => o).modify 2 fun
      | .cells _ t frozen => .cells #[.iface 175 (.pointer (some ⟨low, 0, none⟩))] t frozen
      | o => o).modify 1 fun
      | .cells _ t frozen => .cells #[.iface 175 (.pointer (some ⟨low + 1, 0, none⟩))] t frozen
      | o => o }
theorem laidW_met (os : Os) (args : Array Value) : laidMetH Tryd.prog Rows.fnSymbolsRow.laid ((laidW os).forCall (fun _ _ => 0) ⟨#[], args, []⟩).memory :=
  laidMetH_of_parts (laidMet_of_run (ps := [.cell 2 0, .cell low 0, .cell 1 0, .cell (low + 1) 0]) 8 (by kernel_rfl) (by kernel_rfl) (by kernel_rfl)) (by kernel_rfl)

set_option maxHeartbeats 1000000 in
theorem lifted3 (os : Os) (started : os.Started) (H : Type) (enc : TypeId × Value → H) :
    ReturnsInHanded {} Tryd.checked os 3 .any (fun w args => (Rows.fnSymbolsSpec.pre enc Tryd.prog Tryd.f3 [] false w args ∧ laidMetH Tryd.prog Rows.fnSymbolsRow.laid w) ∧ sizedMet enc Tryd.prog Tryd.f3 (OpenSpec.ofChange Rows.fnSymbolsSpec) false w args)
      (Rows.fnSymbolsSpec.post enc Tryd.prog Tryd.f3 false true false false) := by
  refine returnsInHanded_of_change_and (C := Tryd.checked) (X := fun w _ => laidMetH Tryd.prog Rows.fnSymbolsRow.laid w) (fun _ _ _ hh h => h.of_heap hh) own_ started (by kernel_rfl) Tryd.func3
    (ChangeSpec.witness_at (enc := enc) (C := Tryd.checked) (os := os) (X := fun w _ => laidMetH Tryd.prog Rows.fnSymbolsRow.laid w) false (laidW os) #[.slice none 0 0, .int .i64 0, .int .i64 0, .slice none 0 0, .int .i64 0] 8 rfl (by kernel_rfl) (by kernel_rfl) (by kernel_rfl) (by kernel_rfl) (by kernel_rfl) (laidW_met os _)) ?_
  intro W base args ds gs before hval0 hW _ _ hL _
  have hval : ∀ (j : Nat) t v, Tryd.f3.params[j]? = some t → args[j]? = some v → Value.okWide Tryd.prog W .any base t v := hval0
  have hW' := hW
  obtain ⟨p, q, hA0, hV, rfl, hfz, hnd⟩ := hW
  have hA : DataW.TrodAll enc Tryd.prog W 0 (fun _ => true) true Tryd.f3.params.toList args.toList ds p := hA0
  rw [Tryd.params3] at hA hval
  obtain ⟨v0, vs1, d0, ds1, p0, q1, e0, rfl, rfl, h0, hA1⟩ := trodAll_cons hA
  obtain ⟨v1, vs2, d1, ds2, p1, q2, rfl, rfl, rfl, h1, hA2⟩ := trodAll_cons hA1
  obtain ⟨v2, vs3, d2, ds3, p2, q3, rfl, rfl, rfl, h2, hA3⟩ := trodAll_cons hA2
  obtain ⟨v3, vs4, d3, ds4, p3, q4, rfl, rfl, rfl, h3, hA4⟩ := trodAll_cons hA3
  obtain ⟨v4, vs5, d4, ds5, p4, q5, rfl, rfl, rfl, h4, hA5⟩ := trodAll_cons hA4
  obtain ⟨rfl, rfl, rfl⟩ := trodAll_nil hA5
  obtain rfl : args = #[v0, v1, v2, v3, v4] := by apply Array.ext'; simpa using e0
  obtain ⟨rfl, rfl⟩ := trodVars_none hV
  obtain ⟨sa, ca, xs, rfl, hca, hSa, hxs⟩ := open_bytes (hval 0 22 v0 rfl rfl) h0
  obtain ⟨a, rfl, rfl, rfl, wa⟩ := open_int Tryd.underlying3 (hval 1 3 v1 rfl rfl) h1
  obtain ⟨b, rfl, rfl, rfl, wb⟩ := open_int Tryd.underlying3 (hval 2 3 v2 rfl rfl) h2
  obtain ⟨sb, cb, ys, rfl, hcb, hSb, hys⟩ := open_bytes (hval 3 22 v3 rfl rfl) h3
  obtain ⟨n, rfl, rfl, rfl, wn⟩ := open_int Tryd.underlying3 (hval 4 3 v4 rfl rfl) h4
  obtain ⟨a0, a1, hG, hsz, hg⟩ := prem hL
  clear hA0 hval0
  have hlt : ∀ x ∈ p0 ++ p3, x.block < W.heap.size := fun x hx => hW'.lt x (by simpa using hx)
  refine (law3 hSa hSb hca hcb hxs hys hG hsz hg (a := a) (b := b) (nn := n)).mono fun e W' ⟨he, hF⟩ => ?_
  have hb := hF.below
  have hl0 : ∀ x ∈ p0, x.block < W.heap.size := fun x hx => hlt x (List.mem_append_left _ hx)
  have hl3 : ∀ x ∈ p3, x.block < W.heap.size := fun x hx => hlt x (List.mem_append_right _ hx)
  refine ⟨_, he, _, _, _, [], p0 ++ ([] ++ ([] ++ (p3 ++ ([] ++ [])))), [], hW', ?_, ?_, rfl, hb.frame _, fun h => by cases h⟩
  · exact trodAll_mk1 (shut_bool Tryd.underlying4 true)
  · exact trodAll_cons_mk (Below.trod laidOut_ (by kernel_rfl) (of_decide_eq_true (by kernel_rfl)) h0 hb hl0)
      (trodAll_cons_mk (shut_int Tryd.underlying3 wa) (trodAll_cons_mk (shut_int Tryd.underlying3 wb)
        (trodAll_cons_mk (Below.trod laidOut_ (by kernel_rfl) (of_decide_eq_true (by kernel_rfl)) h3 hb hl3) (trodAll_cons_mk (shut_int Tryd.underlying3 wn) trodAll_mk0))))
theorem row3 : Rows.FnSymbolsSaid :=
  OpenClaim.holds_of_wide 3 Tryd.f3 rfl rfl rfl rfl rfl rfl rfl ⟨rfl, rfl, rfl, rfl, rfl⟩ rfl rfl rfl rfl rfl (by kernel_rfl) Tryd.func3 (by kernel_rfl)
    (of_decide_eq_true (by kernel_rfl)) (by unfold Func.isWrapper; rw [if_neg (of_decide_eq_false (by kernel_rfl))]; exact ⟨rfl, rfl⟩)
    (fun os started H enc _ => lifted3 os started H enc)
end Go.Proofs.YtdjilplpbaackaaDoor.Eng
