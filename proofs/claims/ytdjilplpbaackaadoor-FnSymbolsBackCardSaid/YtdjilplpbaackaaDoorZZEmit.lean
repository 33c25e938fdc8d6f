/- The package's ZZEmit and the thin Emit. -/
import Derived.Test.YtdjilplpbaackaaDoorEmit
import Derived.Test.YtdjilplpbaackaaDoorCode
set_option linter.unusedVariables false
set_option linter.unusedSimpArgs false
set_option maxRecDepth 100000
namespace Go.Proofs.YtdjilplpbaackaaDoor.Eng
open Go

def SrcV (w : World) (sa : Option Addr) (vs : List Value) : Prop := vs = [] ∨ ∃ b p, sa = some ⟨b, p, none⟩ ∧ b < w.heap.size ∧ ∀ k v, vs[k]? = some v → w.cell? ⟨b, p + k, none⟩ = some v
theorem SrcV.fr {w w' : World} {sa : Option Addr} {vs : List Value} (h : SrcV w sa vs) (hF : Fr NO w w') : SrcV w' sa vs := by
  rcases h with h | ⟨b, p, h1, h2, h3⟩
  · exact .inl h
  · exact .inr ⟨b, p, h1, Nat.lt_of_lt_of_le h2 hF.size, fun k v hk => (cell_keep (hF.block b h2 id)).trans (h3 k v hk)⟩
theorem SrcV.at {w : World} {sa : Option Addr} {vs : List Value} (h : SrcV w sa vs) {k : Nat} {v : Value} (hk : vs[k]? = some v) : ∃ b p, sa = some ⟨b, p, none⟩ ∧ w.cell? ⟨b, p + k, none⟩ = some v := by
  rcases h with rfl | ⟨b, p, h1, h2, h3⟩
  · simp at hk
  · exact ⟨b, p, h1, h3 k v hk⟩
theorem yd_ixs' {P : Program} {o : Oper} {σ : Env} {w : World} {T : TypeId} {x y : Operand} {b p n c : Nat} {k : IntKind} {q : Int} (ho : o.op = .indexAddr T x y) (ht : sliceT P T = some 1) (hx : ev σ x = .slice (some ⟨b, p, none⟩) n c)
    (hy : ev σ y = .int k q) (i : Nat) (hq : q = (i : Int)) (hlt : i < n) : Yd P o σ w (.pointer (some ⟨b, p + i, none⟩)) := yd_ixs ho ht hx hy i hq hlt
theorem z120 : zeroT Tryd.prog 120 = some (.agg #[.slice none 0 0, .int .i64 0, .int .i8 0]) := by kernel_rfl
theorem z130 : (zeroT Tryd.prog 130).map (fun z => z.cells.size) = some 152 := by kernel_rfl
theorem sz_130 : sizeT Tryd.prog 130 = some 152 := by kernel_rfl
theorem b123 {b : Nat} : Tryd.prog.built 123 [(0, .pointer (some ⟨b, 0, none⟩))] = some #[.pointer (some ⟨b, 0, none⟩)] := by kernel_rfl
theorem b130' {b : Nat} : (Tryd.prog.built 130 [(0, .iface 123 (.agg #[.pointer (some ⟨b, 0, none⟩)]))]).map (fun c => (c.size, c[0]?, c[1]?, c[18]?, c[19]?, c.toList.all (fun v => v.oneCell'))) =
    some (152, some (.iface 123 (.agg #[.pointer (some ⟨b, 0, none⟩)])), some .nilIface, some (.int .u32 0), some (.int .u32 0), true) := by kernel_rfl
theorem b130 (b : Nat) : ∃ c, Tryd.prog.built 130 [(0, .iface 123 (.agg #[.pointer (some ⟨b, 0, none⟩)]))] = some c ∧ c.size = 152 ∧ c[0]? = some (.iface 123 (.agg #[.pointer (some ⟨b, 0, none⟩)])) ∧ c[1]? = some .nilIface ∧ c[18]? = some (.int .u32 0) ∧ c[19]? = some (.int .u32 0) ∧ ∀ v ∈ c.toList, v.oneCell' = true := by
  have h := b130' (b := b)
  cases hb : Tryd.prog.built 130 [(0, .iface 123 (.agg #[.pointer (some ⟨b, 0, none⟩)]))] with
  | none => rw [hb] at h; cases h
  | some c =>
    rw [hb] at h
    simp only [Option.map_some, Option.some.injEq, Prod.mk.injEq] at h
    obtain ⟨h1, h2, h3, h4, h5, h6⟩ := h
    exact ⟨c, rfl, h1, h2, h3, h4, h5, fun v hv => List.all_eq_true.1 h6 v hv⟩
theorem z130' : ∃ z, zeroT Tryd.prog 130 = some z ∧ z.cells.size = 152 := by
  have h := z130
  cases hz : zeroT Tryd.prog 130 with
  | none => rw [hz] at h; cases h
  | some z => rw [hz] at h; exact ⟨z, rfl, Option.some.inj h⟩
theorem EncC.new {w : World} {D b : Nat} {cs c : Array Value} (hD : w.heap[D]? = some (.cells cs 130 (0, 0))) (hs : cs.size = 152) (h : c.size = 152) (h0 : c[0]? = some (.iface 123 (.agg #[.pointer (some ⟨b, 0, none⟩)]))) (h1 : c[1]? = some .nilIface) (h2 : c[18]? = some (.int .u32 0)) (h3 : c[19]? = some (.int .u32 0)) :
    EncC (setCells w D 0 c.toList).heap D b 0 0 := by
  obtain ⟨c', hc', _, hg⟩ := setCells_blk c.toList 0 w cs 130 (0, 0) hD (by rw [Array.length_toList]; omega)
  have hp : ∀ k, k < 152 → c'[k]? = c[k]? := fun k hk => by
    rw [hg]
    simp only [putRow]
    rw [if_pos ⟨Nat.zero_le _, by rw [Array.length_toList]; omega⟩, Nat.sub_zero, Array.getElem?_toList]
  exact ⟨c', hc', (hp 0 (by decide)).trans h0, (hp 1 (by decide)).trans h1, (hp 18 (by decide)).trans h2, (hp 19 (by decide)).trans h3⟩
theorem IsBuffer.cells {w : World} {B b D : Nat} {bs vs : List Value} {cs : Array Value} (h : Lib.IsBuffer 120 5 B b bs w) (hD : w.heap[D]? = some (.cells cs 130 (0, 0))) (hne : D ≠ b) : Lib.IsBuffer 120 5 B b bs (setCells w D 0 vs) := by
  obtain ⟨hB, u, lr, hb, ho, hn⟩ := h
  refine ⟨hB, u, lr, (setCells_ne (Ne.symm hne) _ _ _).trans hb, ⟨ho.1, ?_⟩, hn⟩
  rcases ho.2 with hn' | ⟨g, cap, cur, rfl, hb', hgg, rest⟩
  · exact .inl hn'
  · exact .inr ⟨g, cap, cur, rfl, hb', (setCells_ne (fun e => by rw [e, hD] at hgg; cases hgg) _ _ _).trans hgg, rest⟩
theorem bytes_ok {B b : Nat} {bs : List Value} {w0 : World} (h : Lib.IsBuffer 120 5 B b bs w0) :
    Calls Tryd.prog 26 #[.pointer (some ⟨b, 0, none⟩)] w0 fun e w' => ∃ v, e = .returned v ∧ Own w' B 5 v bs ∧ Fr NO w0 w' :=
  (Any.Buffer_Bytes lays183 B b bs w0 h).mono fun e w' ⟨v, h1, h2, n, h3⟩ => ⟨v, h1, h2, by subst h3; exact ⟨rfl, rfl, rfl, Nat.le_refl _, fun _ _ _ => rfl⟩⟩
theorem tbits_snoc (tl : List (Nat × Nat × Nat)) (k : Nat) (t : Nat × Nat × Nat) (h : tl[k]? = some t) : Tab.tbits (tl.take (k + 1)) = Tab.tbits (tl.take k) ++ bitsN t.2.1 t.2.2 := by
  rw [List.take_add_one, h]
  simp [Tab.tbits]

set_option maxHeartbeats 4000000 in
theorem zzEmit_ok {sc sl : Option Addr} {cc cl : Nat} {tl : List (Nat × Nat × Nat)} {w0 : World} (hsc : SrcV w0 sc (tl.map fun t => .int .u32 (t.2.1 : Nat))) (hsl : SrcV w0 sl (tl.map fun t => .int .u32 (t.2.2 : Nat)))
    (htl : ∀ t ∈ tl, t.2.1 < 2 ^ t.2.2 ∧ t.2.2 ≤ 16) (hlen : tl.length ≤ 4294967296) :
    Calls Tryd.prog 17 #[.slice sc tl.length cc, .slice sl tl.length cl] w0 fun e w' => ∃ (v : Value) (os : List Nat) (q : Nat), e = .returned v ∧ Own w' w0.heap.size 5 v (os.map u8v) ∧ (∀ o ∈ os, o < 256) ∧ bitsOf os = Tab.tbits tl ++ List.replicate q true ∧ os.length ≤ 4 * tl.length + 4 ∧ Fr NO w0 w' := by
  refine calls1 Tryd.func17 rfl rfl rfl rfl (Nat.le_of_ble_eq_true rfl) fun K hK => ?_
  refine CW_seq fun K1 hK1 => ?_
  refine CW_region rfl ?_
  refine RL_v rfl rfl (yd_assign rfl) ?_
  refine RL_nil ?_
  refine hK1 _ _ ?_
  refine CW_seq fun K2 hK2 => ?_
  refine CW_region rfl ?_
  obtain ⟨b, hb⟩ : ∃ b, b = w0.heap.size := ⟨_, rfl⟩
  refine RL_alloc (fun w' => Lib.IsBuffer 120 5 b b [] w' ∧ w'.heap.size = b + 1 ∧ Fr NO w0 w') rfl rfl rfl z120 ⟨by rw [hb]; exact Lib.fresh_isBuffer 120 5 w0, by rw [alloc_size, hb], (Fr.refl _ _).alloc _⟩ ?_
  rintro w ⟨hB, hsz, hF⟩
  rw [← hb]
  refine RL_nil ?_
  refine hK2 _ _ ?_
  refine CW_seq fun K3 hK3 => ?_
  refine CW_region rfl ?_
  obtain ⟨c, hcb, hc1, hc2, hc3, hc4, hc5, hc6⟩ := b130 b
  obtain ⟨z, hz, hzs⟩ := z130'
  refine RL_v rfl rfl (yd_build rfl rfl b123) ?_
  refine RL_v rfl rfl (yd_mki rfl un_123 nf_123) ?_
  refine RL_v rfl rfl (yd_build rfl rfl hcb) ?_
  obtain ⟨D, hD⟩ : ∃ D, D = w.heap.size := ⟨_, rfl⟩
  refine RL_alloc (fun w' => Lib.IsBuffer 120 5 b b [] w' ∧ w'.heap[D]? = some (.cells z.cells 130 (0, 0)) ∧ Fr NO w0 w') rfl rfl rfl hz ⟨hB.alloc _, by rw [hD]; exact alloc_get, hF.alloc _⟩ ?_
  clear hB hF
  rintro w1 ⟨hB, hDb, hF⟩
  rw [← hD]
  refine RL_storeAgg (fun w' => EmP w' b D b [] (0 * 2 ^ (32 - 0)) 0 ∧ Fr NO w0 w') (p := 0) (n := 152) (vs := c.toList) rfl rfl rfl sz_130 rfl rfl (by rw [Array.length_toList]; exact hc1) hDb (by omega) hc6 ⟨⟨EncC.new hDb hzs hc1 hc2 hc3 hc4 hc5, IsBuffer.cells hB hDb (by omega), by omega, by omega⟩, Fr.setCells (fun h => absurd h (by omega)) _ _ _ hF⟩ ?_
  clear hB hF
  rintro w2 ⟨hE, hF⟩
  refine RL_nil ?_
  refine hK3 _ _ ?_
  refine CW_seq fun K4 hK4 => ?_
  refine CW_seq fun K5 hK5 => ?_
  refine CW_region rfl ?_
  refine RL_v rfl rfl (yd_move rfl) ?_
  refine RL_v rfl rfl (yd_len rfl sl_38 rfl) ?_
  refine RL_v rfl rfl (yd_move rfl) ?_
  refine RL_nil ?_
  refine hK5 _ _ ?_
  refine CW_block ?_
  refine CW_loop (n := tl.length) (fun σ w N => ∃ (k : Nat) (os : List Nat) (v n : Nat) (B' : List Bool), AtS σ [(1, .slice sl tl.length cl), (5, .pointer (some ⟨b, 0, none⟩)), (6, .pointer (some ⟨D, 0, none⟩)), (12, .slice sc tl.length cc), (13, .int .i64 ((tl.length : Nat) : Int)), (14, .int .i64 ((k : Nat) : Int))] ∧ k ≤ tl.length ∧ EmP w b D b os (v * 2 ^ (32 - n)) n ∧ v < 2 ^ n ∧ n < 8 ∧ Out os B' ∧ B' ++ bitsN v n = Tab.tbits (tl.take k) ∧ os.length ≤ 4 * k ∧ Fr NO w0 w ∧ N = tl.length - k) ?_ ?_
  · exact ⟨0, [], 0, 0, [], ⟨rfl, rfl, rfl, rfl, rfl, rfl, trivial⟩, Nat.zero_le _, hE, by decide, by decide, Out.nil, rfl, Nat.le_refl _, hF, rfl⟩
  · intro σ w N hI K6 hK6
    obtain ⟨k, os, v, n, B', hσ, hk, hE, hv, hn, hO, hbits, hlen', hF, hN⟩ := hI
    subst hN
    refine CW_at hσ ?_
    clear hσ
    refine CW_seq fun K7 hK7 => ?_
    refine CW_region rfl ?_
    by_cases hkl : k < tl.length
    · refine RL_v rfl rfl (yd_lt true rfl rfl rfl (decide_eq_true (by omega))) ?_
      refine RL_nil ?_
      refine hK7 _ _ ?_
      refine CW_seq fun K8 hK8 => ?_
      refine CW_t rfl ?_
      refine CW_skip ?_
      refine hK8 _ _ ?_
      refine CW_seq fun K9 hK9 => ?_
      refine CW_block ?_
      refine CW_seq fun K10 hK10 => ?_
      refine CW_region rfl ?_
      obtain ⟨t, ht⟩ : ∃ t, tl[k]? = some t := ⟨_, List.getElem?_eq_getElem hkl⟩
      have htm := htl t (List.mem_of_getElem? ht)
      obtain ⟨gc, pc, hgc, hcc⟩ := (hsc.fr hF).at (k := k) (v := .int .u32 (t.2.1 : Nat)) (by rw [List.getElem?_map, ht]; rfl)
      obtain ⟨gl, pl, hgl, hcl⟩ := (hsl.fr hF).at (k := k) (v := .int .u32 (t.2.2 : Nat)) (by rw [List.getElem?_map, ht]; rfl)
      subst hgc hgl
      refine RL_v rfl rfl (yd_move rfl) ?_
      refine RL_v rfl rfl (yd_ixs rfl sl_38 rfl rfl (k) (rfl) (hkl)) ?_
      refine RL_v rfl rfl (yd_load rfl sc_40 rfl (hcc)) ?_
      refine RL_v rfl rfl (yd_assign rfl) ?_
      refine RL_v rfl rfl (yd_assign rfl) ?_
      refine RL_nil ?_
      refine hK10 _ _ ?_
      refine CW_region rfl ?_
      refine RL_v rfl rfl (yd_move rfl) ?_
      refine RL_v rfl rfl (yd_move rfl) ?_
      refine RL_v rfl rfl (yd_move rfl) ?_
      refine RL_v rfl rfl (yd_ixs rfl sl_38 rfl rfl (k) (rfl) (hkl)) ?_
      refine RL_v rfl rfl (yd_load rfl sc_40 rfl (hcl)) ?_
      refine RL_call rfl rfl rfl en_25 rfl (emit_ok (c := t.2.1) (l := t.2.2) hE hn hv htm.2 htm.1 hO (by omega)) ?_
      rintro _ w3 ⟨rfl, os', v', n', B2, hE1, hv1, hn1, hO1, hb1, hl1, hF1⟩
      refine ⟨_, rfl, ?_⟩
      refine RL_nil ?_
      refine hK9 _ _ ?_
      refine CW_region rfl ?_
      refine RL_v rfl rfl (yd_add64 rfl rfl rfl (by omega)) ?_
      refine RL_v rfl rfl (yd_move rfl) ?_
      refine RL_nil ?_
      refine hK6 _ _ ?_
      exact ⟨tl.length - (k + 1), by omega, k + 1, os', v', n', B2, ⟨rfl, rfl, rfl, rfl, rfl, rfl, trivial⟩, by omega, hE1, hv1, hn1, hO1, by rw [hb1, hbits, tbits_snoc tl k t ht], by omega, hF.up hF1 (fun k h => by omega), rfl⟩
    · refine RL_v rfl rfl (yd_lt false rfl rfl rfl (decide_eq_false (by omega))) ?_
      refine RL_nil ?_
      refine hK7 _ _ ?_
      refine CW_seq fun K11 hK11 => ?_
      refine CW_f rfl ?_
      refine CW_exit rfl ?_
      refine hK4 _ _ ?_
      refine CW_seq fun K12 hK12 => ?_
      refine CW_region rfl ?_
      refine RL_call rfl rfl rfl en_25 rfl (emit_ok (c := 127) (l := 7) hE hn hv (by decide) (by decide) hO (by omega)) ?_
      rintro _ w3 ⟨rfl, os', v', n', B2, hE1, hv1, hn1, hO1, hb1, hl1, hF1⟩
      refine ⟨_, rfl, ?_⟩
      replace hF := hF.up hF1 (fun k h => by omega)
      refine RL_nil ?_
      refine hK12 _ _ ?_
      refine CW_seq fun K13 hK13 => ?_
      refine CW_region rfl ?_
      refine RL_call rfl rfl rfl en_26 rfl (bytes_ok hE1.buf) ?_
      rintro _ w4 ⟨u, rfl, hown, hF2⟩
      refine ⟨_, rfl, ?_⟩
      refine RL_v rfl rfl (yd_assign rfl) ?_
      refine RL_nil ?_
      refine hK13 _ _ ?_
      refine CW_ret ?_
      refine hK _ _ ?_
      obtain rfl : k = tl.length := by omega
      rw [List.take_length] at hbits
      obtain ⟨q, hq⟩ := pad_ones (B' := B2) (p := bitsN v' n') (B := Tab.tbits tl) (by rw [hb1, hbits, bits_ones]) (by rw [bitsN_length]; exact hn1)
      exact ⟨_, os', q, rfl, hown.mono (by omega), hO1.2, by rw [hO1.bits, hq], by omega, hF.trans (hF2.mono (fun _ _ h => h))⟩

theorem iEmit_ok {sc sl : Option Addr} {cc cl : Nat} {tl : List (Nat × Nat × Nat)} {w0 : World} (hsc : SrcV w0 sc (tl.map fun t => .int .u32 (t.2.1 : Nat))) (hsl : SrcV w0 sl (tl.map fun t => .int .u32 (t.2.2 : Nat)))
    (htl : ∀ t ∈ tl, t.2.1 < 2 ^ t.2.2 ∧ t.2.2 ≤ 16) (hlen : tl.length ≤ 4294967296) :
    Calls Tryd.prog 11 #[.slice sc tl.length cc, .slice sl tl.length cl] w0 fun e w' => ∃ (v : Value) (os : List Nat) (q : Nat), e = .returned v ∧ Own w' w0.heap.size 5 v (os.map u8v) ∧ (∀ o ∈ os, o < 256) ∧ bitsOf os = Tab.tbits tl ++ List.replicate q true ∧ os.length ≤ 4 * tl.length + 4 ∧ Fr NO w0 w' := by
  refine calls1 Tryd.func11 rfl rfl rfl rfl (Nat.le_of_ble_eq_true rfl) fun K hK => ?_
  refine CW_seq fun K1 hK1 => ?_
  refine CW_region rfl ?_
  refine RL_v rfl rfl (yd_assign rfl) ?_
  refine RL_nil ?_
  refine hK1 _ _ ?_
  refine CW_seq fun K2 hK2 => ?_
  refine CW_region rfl ?_
  refine RL_v rfl rfl (yd_move rfl) ?_
  refine RL_v rfl rfl (yd_move rfl) ?_
  refine RL_call rfl rfl rfl en_17 rfl (zzEmit_ok hsc hsl htl hlen) ?_
  rintro _ w1 ⟨v, os, q, rfl, h1, h2, h3, h4, h5⟩
  refine ⟨_, rfl, ?_⟩
  refine RL_v rfl rfl (yd_assign rfl) ?_
  refine RL_nil ?_
  refine hK2 _ _ ?_
  refine CW_ret ?_
  refine hK _ _ ?_
  exact ⟨_, os, q, rfl, h1, h2, h3, h4, h5⟩

end Go.Proofs.YtdjilplpbaackaaDoor.Eng
