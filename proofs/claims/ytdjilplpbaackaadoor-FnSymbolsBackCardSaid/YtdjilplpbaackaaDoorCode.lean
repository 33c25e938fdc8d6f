/- The code of an error; impl.Symbols. -/
import Derived.Test.YtdjilplpbaackaaDoorErrs
import Derived.Test.YtdjilplpbaackaaDoorZZSym
set_option linter.unusedVariables false
set_option linter.unusedSimpArgs false
set_option maxRecDepth 100000
namespace Go.Proofs.YtdjilplpbaackaaDoor.Eng
open Go

theorem cell_lt {w : World} {b p : Nat} {v : Value} (h : w.cell? ⟨b, p, none⟩ = some v) : b < w.heap.size := by
  rcases Nat.lt_or_ge b w.heap.size with h' | h'
  · exact h'
  · simp [World.cell?, Array.getElem?_eq_none h'] at h
theorem b109 : Tryd.prog.built 109 [] = some #[] := by kernel_rfl
theorem zr_105 : zeroT Tryd.prog 105 = some (.string ByteArray.empty) := by kernel_rfl
theorem zr_106 : zeroT Tryd.prog 106 = some (.string ByteArray.empty) := by kernel_rfl
theorem code_nil {w0 : World} : Calls Tryd.prog 15 #[.nilIface] w0 fun e w' => e = .returned (.int .i64 0) ∧ Fr NO w0 w' := by
  refine calls1 Tryd.func15 rfl rfl rfl rfl (Nat.le_of_ble_eq_true rfl) fun K hK => ?_
  refine CW_seq fun K1 hK1 => ?_
  refine CW_region rfl ?_
  refine RL_v rfl rfl (yd_assign rfl) ?_
  refine RL_nil ?_
  refine hK1 _ _ ?_
  refine CW_seq fun K2 hK2 => ?_
  refine CW_region rfl ?_
  obtain ⟨t, ht⟩ : ∃ q, q = w0.heap.size := ⟨_, rfl⟩
  refine RL_alloc (fun w' => w'.heap[t]? = some (.cells #[.string ByteArray.empty] 105 (0, 0)) ∧ Fr NO w0 w') rfl rfl rfl zr_105 ⟨by rw [ht]; exact alloc_get, (Fr.refl _ _).alloc _⟩ ?_
  rintro w1 ⟨hb, hF⟩
  rw [← ht]
  refine RL_nil ?_
  refine hK2 _ _ ?_
  refine CW_seq fun K3 hK3 => ?_
  refine CW_region rfl ?_
  obtain ⟨u, hu⟩ : ∃ q, q = w1.heap.size := ⟨_, rfl⟩
  refine RL_alloc (fun w' => w'.heap[t]? = some (.cells #[.string ByteArray.empty] 105 (0, 0)) ∧ Fr NO w0 w') rfl rfl rfl zr_106 ⟨(alloc_old (blk_lt hb)).trans hb, hF.alloc _⟩ ?_
  clear hb hF hu
  rintro w ⟨hb, hF⟩
  refine RL_nil ?_
  refine hK3 _ _ ?_
  refine CW_seq fun K4 hK4 => ?_
  refine CW_block ?_
  refine CW_seq fun K5 hK5 => ?_
  refine CW_region rfl ?_
  refine RL_v rfl rfl (yd_move rfl) ?_
  refine RL_v rfl rfl (yd_eq_nil' rfl if_65 rfl) ?_
  refine RL_v rfl rfl (yd_assign rfl) ?_
  refine RL_nil ?_
  refine hK5 _ _ ?_
  refine CW_t rfl ?_
  refine CW_seq fun K6 hK6 => ?_
  refine CW_region rfl ?_
  refine RL_v rfl rfl (yd_assign rfl) ?_
  refine RL_nil ?_
  refine hK6 _ _ ?_
  refine CW_ret ?_
  refine hK _ _ ?_
  exact ⟨rfl, hF⟩
theorem code_fmt {er : ByteArray} {w0 : World} (hg : w0.cell? ⟨0, 0, none⟩ = some (rty 65)) : Calls Tryd.prog 15 #[.iface 105 (.string er)] w0 fun e w' => e = .returned (.int .i64 1) ∧ Fr NO w0 w' := by
  refine calls1 Tryd.func15 rfl rfl rfl rfl (Nat.le_of_ble_eq_true rfl) fun K hK => ?_
  refine CW_seq fun K1 hK1 => ?_
  refine CW_region rfl ?_
  refine RL_v rfl rfl (yd_assign rfl) ?_
  refine RL_nil ?_
  refine hK1 _ _ ?_
  refine CW_seq fun K2 hK2 => ?_
  refine CW_region rfl ?_
  obtain ⟨t, ht⟩ : ∃ q, q = w0.heap.size := ⟨_, rfl⟩
  refine RL_alloc (fun w' => w'.heap[t]? = some (.cells #[.string ByteArray.empty] 105 (0, 0)) ∧ Fr NO w0 w') rfl rfl rfl zr_105 ⟨by rw [ht]; exact alloc_get, (Fr.refl _ _).alloc _⟩ ?_
  rintro w1 ⟨hb, hF⟩
  rw [← ht]
  refine RL_nil ?_
  refine hK2 _ _ ?_
  refine CW_seq fun K3 hK3 => ?_
  refine CW_region rfl ?_
  obtain ⟨u, hu⟩ : ∃ q, q = w1.heap.size := ⟨_, rfl⟩
  refine RL_alloc (fun w' => w'.heap[t]? = some (.cells #[.string ByteArray.empty] 105 (0, 0)) ∧ Fr NO w0 w') rfl rfl rfl zr_106 ⟨(alloc_old (blk_lt hb)).trans hb, hF.alloc _⟩ ?_
  clear hb hF hu
  rintro w ⟨hb, hF⟩
  refine RL_nil ?_
  refine hK3 _ _ ?_
  refine CW_seq fun K4 hK4 => ?_
  refine CW_block ?_
  refine CW_seq fun K5 hK5 => ?_
  refine CW_region rfl ?_
  refine RL_v rfl rfl (yd_move rfl) ?_
  refine RL_v rfl rfl (yd_eq_nil rfl if_65 rfl) ?_
  refine RL_v rfl rfl (yd_assign rfl) ?_
  refine RL_nil ?_
  refine hK5 _ _ ?_
  refine CW_f rfl ?_
  refine CW_seq fun K6 hK6 => ?_
  refine CW_region rfl ?_
  refine RL_v rfl rfl (yd_move rfl) ?_
  refine RL_v rfl rfl (yd_build rfl rfl b109) ?_
  refine RL_v rfl rfl (yd_mki rfl un_109 nf_109) ?_
  refine RL_call rfl rfl rfl en_22 rfl (errIs) ?_
  rintro _ w2 ⟨rfl, hF2⟩
  refine ⟨_, rfl, ?_⟩
  have hb2 := (hF2.block _ (blk_lt hb) id).trans hb
  have hF3 := hF2.trans' hF
  refine RL_v rfl rfl (yd_assign rfl) ?_
  refine RL_nil ?_
  refine hK6 _ _ ?_
  refine CW_f rfl ?_
  refine CW_seq fun K7 hK7 => ?_
  refine CW_region rfl ?_
  refine RL_v rfl rfl (yd_move rfl) ?_
  refine RL_v rfl rfl (yd_mki rfl un_111 nf_111) ?_
  refine RL_call rfl rfl rfl en_23 rfl (errAs ((cell_keep (hF3.block 0 (cell_lt hg) id)).trans hg) hb2) ?_
  rintro _ w3 ⟨rfl, hF4⟩
  refine ⟨_, rfl, ?_⟩
  have hF5 := hF3.up hF4 (fun k h => by subst h; omega)
  refine RL_v rfl rfl (yd_assign rfl) ?_
  refine RL_nil ?_
  refine hK7 _ _ ?_
  refine CW_t rfl ?_
  refine CW_seq fun K8 hK8 => ?_
  refine CW_region rfl ?_
  refine RL_v rfl rfl (yd_assign rfl) ?_
  refine RL_nil ?_
  refine hK8 _ _ ?_
  refine CW_ret ?_
  refine hK _ _ ?_
  exact ⟨rfl, hF5⟩

theorem code_of {b : Bool} {er : Value} {w0 : World} (hg : w0.cell? ⟨0, 0, none⟩ = some (rty 65)) (h : ErrOf b er) :
    Calls Tryd.prog 15 #[er] w0 fun e w' => (∃ c : Nat, e = .returned (.int .i64 (c : Nat)) ∧ (c = 0 ↔ b = true)) ∧ Fr NO w0 w' := by
  cases b with
  | true => obtain rfl : er = .nilIface := h; exact code_nil.mono fun e w' ⟨h1, h2⟩ => ⟨⟨0, h1, by simp⟩, h2⟩
  | false => obtain ⟨s, rfl⟩ := h; exact (code_fmt hg).mono fun e w' ⟨h1, h2⟩ => ⟨⟨1, h1, by simp⟩, h2⟩
theorem symbols_ok {sa sb : Option Addr} {ca cb n tc th : Nat} {xs ys : List Nat} {T : Tab} {M' : TabM} {e1 e2 : Addr} {w0 : World} (hd : Dht xs (fun _ _ => none) M') (hM : M' tc th = some T) (htc : tc ≤ 1) (hth : th ≤ 3)
    (hSa : SrcH w0.heap sa xs) (hSb : SrcH w0.heap sb ys) (hla : xs.length ≤ 2147483647) (hlb : ys.length ≤ 4611686018427387904) (hca : xs.length ≤ ca) (hcb : ys.length ≤ cb) (hy : ∀ y ∈ ys, y < 256) (hn : n ≤ 2147483648) (hG : GlobP w0.heap e1 e2) (h2 : 2 < w0.heap.size)
    (hg : w0.cell? ⟨0, 0, none⟩ = some (rty 65)) :
    Calls Tryd.prog 6 #[.slice sa xs.length ca, .int .i64 (tc : Nat), .int .i64 (th : Nat), .slice sb ys.length cb, .int .i64 (n : Nat)] w0 fun e w' => ∃ (v : Value) (c : Nat), e = .returned (.tuple #[v, .int .i64 (c : Nat)]) ∧
      Own w' w0.heap.size 5 v ((decN T n (bitsOf ys)).1.map u8v) ∧ (c = 0 ↔ (decN T n (bitsOf ys)).2 = true) ∧ Fr NO w0 w' := by
  refine calls2 Tryd.func6 rfl rfl rfl rfl (Nat.le_of_ble_eq_true rfl) fun K hK => ?_
  refine CW_seq fun K1 hK1 => ?_
  refine CW_region rfl ?_
  refine RL_v rfl rfl (yd_assign rfl) ?_
  refine RL_v rfl rfl (yd_assign rfl) ?_
  refine RL_nil ?_
  refine hK1 _ _ ?_
  refine CW_seq fun K2 hK2 => ?_
  refine CW_region rfl ?_
  refine RL_v rfl rfl (yd_move rfl) ?_
  refine RL_v rfl rfl (yd_move rfl) ?_
  refine RL_v rfl rfl (yd_move rfl) ?_
  refine RL_v rfl rfl (yd_move rfl) ?_
  refine RL_v rfl rfl (yd_move rfl) ?_
  refine RL_call rfl rfl rfl en_14 rfl (zzSymbols_ok hd hM htc hth hSa hSb hla hlb hca hcb hy hn hG h2) ?_
  rintro _ w ⟨v, er, rfl, hown, her, hF⟩
  refine ⟨_, rfl, ?_⟩
  replace hg : w.cell? ⟨0, 0, none⟩ = some (rty 65) := (cell_keep (hF.block 0 (cell_lt hg) id)).trans hg
  refine RL_v rfl rfl (yd_move rfl) ?_
  refine RL_v rfl rfl (yd_extract rfl rfl rfl) ?_
  refine RL_v rfl rfl (yd_extract rfl rfl rfl) ?_
  refine RL_v rfl rfl (yd_assign rfl) ?_
  refine RL_v rfl rfl (yd_assign rfl) ?_
  refine RL_nil ?_
  refine hK2 _ _ ?_
  refine CW_seq fun K3 hK3 => ?_
  refine CW_region rfl ?_
  refine RL_v rfl rfl (yd_move rfl) ?_
  refine RL_v rfl rfl (yd_move rfl) ?_
  refine RL_call rfl rfl rfl en_15 rfl (code_of hg her) ?_
  rintro _ w2 ⟨⟨c, rfl, hcd⟩, hF2⟩
  refine ⟨_, rfl, ?_⟩
  refine RL_v rfl rfl (yd_assign rfl) ?_
  refine RL_v rfl rfl (yd_assign rfl) ?_
  refine RL_nil ?_
  refine hK3 _ _ ?_
  refine CW_ret ?_
  refine hK _ _ ?_
  exact ⟨v, _, rfl, hown.fr hF2 (fun _ _ h => h), hcd, hF.trans hF2⟩

end Go.Proofs.YtdjilplpbaackaaDoor.Eng
