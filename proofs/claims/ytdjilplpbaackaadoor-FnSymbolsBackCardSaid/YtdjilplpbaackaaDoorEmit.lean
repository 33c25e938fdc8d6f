/- The encoder's bits. -/
import Derived.Test.YtdjilplpbaackaaDoorBackLem
import Derived.Test.YtdjilplpbaackaaDoorShelf
import Derived.Test.YtdjilplpbaackaaDoorStrm
import Derived.Test.YtdjilplpbaackaaDoorErrFacts
import Derived.Test.YtdjilplpbaackaaDoorDecode
set_option linter.unusedVariables false
set_option linter.unusedSimpArgs false
set_option maxRecDepth 100000
namespace Go.Proofs.YtdjilplpbaackaaDoor.Eng
open Go

/-- The encoder's block D: its writer is the buffer at b; x holds its n bits. -/
def EncC (H : Array Obj) (D b x n : Nat) : Prop := ∃ c, H[D]? = some (.cells c 130 (0, 0)) ∧ c[0]? = some (.iface 123 (.agg #[.pointer (some ⟨b, 0, none⟩)])) ∧ c[1]? = some .nilIface ∧ c[18]? = some (.int .u32 (x : Nat)) ∧ c[19]? = some (.int .u32 (n : Nat))
section
variable {w : World} {D b x n : Nat}
theorem EncC.ld0 (h : EncC w.heap D b x n) : w.cell? ⟨D, 0, none⟩ = some (.iface 123 (.agg #[.pointer (some ⟨b, 0, none⟩)])) := by obtain ⟨c, hc, h0, _⟩ := h; rw [cell_of_blk hc, h0]
theorem EncC.ld1 (h : EncC w.heap D b x n) : w.cell? ⟨D, 1, none⟩ = some .nilIface := by obtain ⟨c, hc, _, h0, _⟩ := h; rw [cell_of_blk hc, h0]
theorem EncC.ldx (h : EncC w.heap D b x n) : w.cell? ⟨D, 18, none⟩ = some (.int .u32 (x : Nat)) := by obtain ⟨c, hc, _, _, h0, _⟩ := h; rw [cell_of_blk hc, h0]
theorem EncC.ldn (h : EncC w.heap D b x n) : w.cell? ⟨D, 19, none⟩ = some (.int .u32 (n : Nat)) := by obtain ⟨c, hc, _, _, _, h0⟩ := h; rw [cell_of_blk hc, h0]
theorem EncC.fz (h : EncC w.heap D b x n) {i : Nat} : w.frozen? ⟨D, i, none⟩ = false := by obtain ⟨c, hc, _⟩ := h; exact frozen_of_blk hc
theorem EncC.set1 (h : EncC w.heap D b x n) : EncC (w.setCell ⟨D, 1, none⟩ .nilIface).heap D b x n := by
  obtain ⟨c, hc, h0, h1, h2, h3⟩ := h
  refine ⟨_, set_blk_same hc _, ?_, ?_, ?_, ?_⟩ <;> rw [Array.getElem?_setIfInBounds]
  · rw [if_neg (by decide), h0]
  · rw [if_pos rfl, if_pos (by have := (Array.getElem?_eq_some_iff.1 h1).1; omega)]
  · rw [if_neg (by decide), h2]
  · rw [if_neg (by decide), h3]
theorem EncC.setx (h : EncC w.heap D b x n) (y : Nat) : EncC (w.setCell ⟨D, 18, none⟩ (.int .u32 (y : Nat))).heap D b y n := by
  obtain ⟨c, hc, h0, h1, h2, h3⟩ := h
  refine ⟨_, set_blk_same hc _, ?_, ?_, ?_, ?_⟩ <;> rw [Array.getElem?_setIfInBounds]
  · rw [if_neg (by decide), h0]
  · rw [if_neg (by decide), h1]
  · rw [if_pos rfl, if_pos (by have := (Array.getElem?_eq_some_iff.1 h2).1; omega)]
  · rw [if_neg (by decide), h3]
theorem EncC.setn (h : EncC w.heap D b x n) (y : Nat) : EncC (w.setCell ⟨D, 19, none⟩ (.int .u32 (y : Nat))).heap D b x y := by
  obtain ⟨c, hc, h0, h1, h2, h3⟩ := h
  refine ⟨_, set_blk_same hc _, ?_, ?_, ?_, ?_⟩ <;> rw [Array.getElem?_setIfInBounds]
  · rw [if_neg (by decide), h0]
  · rw [if_neg (by decide), h1]
  · rw [if_neg (by decide), h2]
  · rw [if_pos rfl, if_pos (by have := (Array.getElem?_eq_some_iff.1 h3).1; omega)]
end
/-- The encoder at D over the buffer at b, which holds the bytes os. -/
structure EmP (w : World) (B D b : Nat) (os : List Nat) (x n : Nat) : Prop where
  enc : EncC w.heap D b x n
  buf : Lib.IsBuffer 120 5 B b (os.map u8v) w
  ne : D ≠ b
  lo : B ≤ D
theorem IsBuffer.set {w : World} {B b D i : Nat} {bs : List Value} {c : Array Value} {v : Value} (h : Lib.IsBuffer 120 5 B b bs w) (hD : w.heap[D]? = some (.cells c 130 (0, 0))) (hne : D ≠ b) : Lib.IsBuffer 120 5 B b bs (w.setCell ⟨D, i, none⟩ v) := by
  obtain ⟨hB, u, lr, hb, ho, hn⟩ := h
  refine ⟨hB, u, lr, (set_blk_ne (Ne.symm hne) v).trans hb, ⟨ho.1, ?_⟩, hn⟩
  rcases ho.2 with hn' | ⟨g, cap, cur, rfl, hb', hgg, rest⟩
  · exact .inl hn'
  · exact .inr ⟨g, cap, cur, rfl, hb', (set_blk_ne (fun e => by rw [e, hD] at hgg; cases hgg) v).trans hgg, rest⟩
section
variable {w : World} {B D b x n : Nat} {os : List Nat}
theorem EmP.bsz (h : EmP w B D b os x n) : B ≤ w.heap.size := by
  obtain ⟨c, hc, _⟩ := h.enc
  exact Nat.le_trans h.lo (Nat.le_of_lt (blk_lt hc))
theorem EmP.set1 (h : EmP w B D b os x n) : EmP (w.setCell ⟨D, 1, none⟩ .nilIface) B D b os x n := ⟨h.enc.set1, by obtain ⟨c, hc, _⟩ := h.enc; exact IsBuffer.set h.buf hc h.ne, h.ne, h.lo⟩
theorem EmP.setx (h : EmP w B D b os x n) (y : Nat) : EmP (w.setCell ⟨D, 18, none⟩ (.int .u32 (y : Nat))) B D b os y n := ⟨h.enc.setx y, by obtain ⟨c, hc, _⟩ := h.enc; exact IsBuffer.set h.buf hc h.ne, h.ne, h.lo⟩
theorem EmP.setn (h : EmP w B D b os x n) (y : Nat) : EmP (w.setCell ⟨D, 19, none⟩ (.int .u32 (y : Nat))) B D b os x y := ⟨h.enc.setn y, by obtain ⟨c, hc, _⟩ := h.enc; exact IsBuffer.set h.buf hc h.ne, h.ne, h.lo⟩
end
theorem Fr.ofBelow {B : Nat} {w w' : World} (h : RowKit.Below B w w') : Fr (fun k => B ≤ k) w w' := ⟨h.os, h.tape, h.output, h.size, fun k _ hk => h.block k (by omega)⟩
theorem meth_wb (a : Addr) (w : World) : (method (Tryd.prog.types.size + Made.depth) 123 (.agg #[.pointer (some a)]) "WriteByte").run Tryd.prog w = .ok (71, .pointer (some a)) w := by kernel_rfl
theorem wb_ok {B D b x n c : Nat} {os : List Nat} {w0 : World} (h : EmP w0 B D b os x n) (hlim : os.length + 1 ≤ 140737488355328) :
    Calls Tryd.prog 71 #[.pointer (some ⟨b, 0, none⟩), .int .u8 (c : Nat)] w0 fun e w' => e = .returned .nilIface ∧ EmP w' B D b (os ++ [c]) x n ∧ Fr (fun k => B ≤ k) w0 w' := by
  refine (Any.Buffer_WriteByte_kept lays179 B b (os.map u8v) (c : Nat) w0 h.buf h.bsz (fun v hv => by obtain ⟨o, _, rfl⟩ := List.mem_map.1 hv; rfl) (by rw [List.length_map]; exact hlim)).mono fun e w' ⟨h1, h2, h3, h4⟩ => ⟨h1, ⟨?_, ?_, h.ne, h.lo⟩, Fr.ofBelow h3⟩
  · obtain ⟨cs, hc, rest⟩ := h.enc
    exact ⟨cs, h4 D _ hc (fun e => h.ne (Option.some.inj e)) (fun c fz e => by cases e), rest⟩
  · rw [List.map_append]; exact h2

theorem wbyte_ok {B D b x n c : Nat} {os : List Nat} {w0 : World} (h : EmP w0 B D b os x n) (hlim : os.length + 1 ≤ 140737488355328) :
    Calls Tryd.prog 36 #[.pointer (some ⟨D, 0, none⟩), .int .u8 (c : Nat)] w0 fun e w' => e = .returned (.tuple #[]) ∧ EmP w' B D b (os ++ [c]) x n ∧ Fr (fun k => B ≤ k) w0 w' := by
  refine calls0 Tryd.func36 rfl rfl rfl rfl (Nat.le_of_ble_eq_true rfl) fun K hK => ?_
  refine CW_seq fun K1 hK1 => ?_
  refine CW_seq fun K2 hK2 => ?_
  refine CW_region rfl ?_
  refine RL_v rfl rfl (yd_move rfl) ?_
  refine RL_v rfl rfl (yd_nil rfl rfl) ?_
  refine RL_v rfl rfl (yd_field rfl ft_130_1 rfl) ?_
  refine RL_v rfl rfl (yd_load rfl sc_65 rfl (h.enc.ld1)) ?_
  refine RL_v rfl rfl (yd_ne_nil' rfl if_65 rfl) ?_
  refine RL_nil ?_
  refine hK2 _ _ ?_
  refine CW_f rfl ?_
  refine CW_skip ?_
  refine hK1 _ _ ?_
  refine CW_region rfl ?_
  refine RL_v rfl rfl (yd_move rfl) ?_
  refine RL_v rfl rfl (yd_move rfl) ?_
  refine RL_v rfl rfl (yd_nil rfl rfl) ?_
  refine RL_v rfl rfl (yd_field rfl ft_130_0 rfl) ?_
  refine RL_v rfl rfl (yd_load rfl sc_125 rfl (h.enc.ld0)) ?_
  refine RL_v rfl rfl (yd_move rfl) ?_
  refine RL_invoke rfl rfl rfl rfl (meth_wb _ _) en_71 rfl (wb_ok h hlim) ?_
  rintro _ w1 ⟨rfl, hE, hF⟩
  refine ⟨_, rfl, ?_⟩
  refine RL_v rfl rfl (yd_nil rfl rfl) ?_
  refine RL_v rfl rfl (yd_field rfl ft_130_1 rfl) ?_
  refine RL_storeW (fun w' => EmP w' B D b (os ++ [c]) x n ∧ Fr (fun k => B ≤ k) w0 w') rfl rfl rfl sz_65 rfl rfl rfl (hE.enc.ld1) (hE.enc.fz) (⟨hE.set1, hF.set (fun _ => hE.lo) _⟩) ?_
  rintro w2 ⟨hE2, hF2⟩
  refine RL_nil ?_
  refine hK _ _ ?_
  exact ⟨rfl, hE2, hF2⟩
theorem bits_lt {V N : Nat} (hV : V < 2 ^ N) (h : N ≤ 32) : V * 2 ^ (32 - N) < 4294967296 := by
  have e : (4294967296 : Nat) = 2 ^ N * 2 ^ (32 - N) := by rw [← Nat.pow_add, show N + (32 - N) = 32 by omega]
  rw [e]
  exact Nat.mul_lt_mul_of_pos_right hV (Nat.pow_pos (by decide))
theorem sub_u32 (l : Nat) (h : l ≤ 32) : IntKind.u32.wrap ((32 : Int) - (l : Int)) = ((32 - l : Nat) : Int) := by
  rw [show (32 : Int) - (l : Int) = ((32 - l : Nat) : Int) by omega, wrap_u32, Nat.mod_eq_of_lt (by omega)]
theorem sub8_u32 (l : Nat) (h : 8 ≤ l) (h2 : l ≤ 32) : IntKind.u32.wrap ((l : Int) - (8 : Int)) = ((l - 8 : Nat) : Int) := by
  rw [show (l : Int) - (8 : Int) = ((l - 8 : Nat) : Int) by omega, wrap_u32, Nat.mod_eq_of_lt (by omega)]
theorem add_u32 (l n : Nat) (h : l + n < 4294967296) : IntKind.u32.wrap ((l : Int) + (n : Int)) = ((n + l : Nat) : Int) := by
  rw [show (l : Int) + (n : Int) = ((n + l : Nat) : Int) by omega, wrap_u32, Nat.mod_eq_of_lt (by omega)]

set_option maxHeartbeats 2000000 in
theorem emit_ok {B D b v n c l : Nat} {os : List Nat} {Bt : List Bool} {w0 : World} (h : EmP w0 B D b os (v * 2 ^ (32 - n)) n) (hn : n < 8) (hv : v < 2 ^ n) (hl : l ≤ 16) (hc : c < 2 ^ l) (hO : Out os Bt) (hlim : os.length + 6 ≤ 140737488355328) :
    Calls Tryd.prog 25 #[.pointer (some ⟨D, 0, none⟩), .int .u32 (c : Nat), .int .u32 (l : Nat)] w0 fun e w' => e = .returned (.tuple #[]) ∧ ∃ (os' : List Nat) (v' n' : Nat) (B' : List Bool),
      EmP w' B D b os' (v' * 2 ^ (32 - n')) n' ∧ v' < 2 ^ n' ∧ n' < 8 ∧ Out os' B' ∧ B' ++ bitsN v' n' = Bt ++ bitsN v n ++ bitsN c l ∧ os'.length ≤ os.length + 4 ∧ Fr (fun k => B ≤ k) w0 w' := by
  refine calls0 Tryd.func25 rfl rfl rfl rfl (Nat.le_of_ble_eq_true rfl) fun K hK => ?_
  refine CW_seq fun K1 hK1 => ?_
  refine CW_region rfl ?_
  refine RL_v rfl rfl (yd_move rfl) ?_
  refine RL_v rfl rfl (yd_move rfl) ?_
  refine RL_v rfl rfl (yd_nil rfl rfl) ?_
  refine RL_v rfl rfl (yd_field rfl ft_130_4 rfl) ?_
  refine RL_v rfl rfl (yd_load rfl sc_40 rfl (h.enc.ldn)) ?_
  refine RL_v rfl rfl (yd_add rfl rfl rfl _ (add_u32 l n (by omega))) ?_
  refine RL_v rfl rfl (yd_assign rfl) ?_
  refine RL_nil ?_
  refine hK1 _ _ ?_
  refine CW_seq fun K2 hK2 => ?_
  refine CW_region rfl ?_
  refine RL_v rfl rfl (yd_move rfl) ?_
  refine RL_v rfl rfl (yd_move rfl) ?_
  have hcl : c * 2 ^ (32 - (n + l)) < 4294967296 := bits_lt (Nat.lt_of_lt_of_le hc (Nat.pow_le_pow_right (by decide) (Nat.le_add_left l n))) (by omega)
  refine RL_v rfl rfl (yd_sub rfl rfl rfl _ (sub_u32 (n + l) (by omega))) ?_
  refine RL_v rfl rfl (yd_shl rfl rfl rfl (by omega) ((c * 2 ^ (32 - (n + l)) : Nat) : Int) ((shl_u32 c (32 - (n + l)) (by omega)).trans (by rw [Nat.mod_eq_of_lt hcl]))) ?_
  refine RL_v rfl rfl (yd_assign rfl) ?_
  refine RL_nil ?_
  refine hK2 _ _ ?_
  refine CW_seq fun K3 hK3 => ?_
  refine CW_region rfl ?_
  refine RL_v rfl rfl (yd_move rfl) ?_
  refine RL_v rfl rfl (yd_move rfl) ?_
  refine RL_v rfl rfl (yd_nil rfl rfl) ?_
  refine RL_v rfl rfl (yd_field rfl ft_130_3 rfl) ?_
  refine RL_v rfl rfl (yd_load rfl sc_40 rfl (h.enc.ldx)) ?_
  refine RL_v rfl rfl (yd_or rfl rfl rfl _ ((or_u32 (c * 2 ^ (32 - (n + l))) (v * 2 ^ (32 - n)) hcl (bits_lt hv (by omega))).trans (by rw [or_addB hv hc (by omega)]))) ?_
  refine RL_v rfl rfl (yd_assign rfl) ?_
  refine RL_nil ?_
  refine hK3 _ _ ?_
  refine CW_seq fun K4 hK4 => ?_
  refine CW_block ?_
  refine CW_loop (n := n + l) (fun σ w N => ∃ (V M : Nat) (os' : List Nat) (B' : List Bool), AtS σ [(0, .pointer (some ⟨D, 0, none⟩)), (1, .int .u32 ((V * 2 ^ (32 - M) : Nat) : Int)), (2, .int .u32 ((M : Nat) : Int))] ∧ V < 2 ^ M ∧ M ≤ 23 ∧ EmP w B D b os' (v * 2 ^ (32 - n)) n ∧ Out os' B' ∧ B' ++ bitsN V M = Bt ++ bitsN v n ++ bitsN c l ∧ os'.length + 2 * (M / 8) ≤ os.length + 4 ∧ Fr (fun k => B ≤ k) w0 w ∧ N = M) ?_ ?_
  · exact ⟨v * 2 ^ l + c, n + l, os, Bt, ⟨rfl, rfl, rfl, trivial⟩, join_lt hv hc, by omega, h, hO, by rw [bits_join hc, List.append_assoc], by omega, Fr.refl _ _, rfl⟩
  · intro σ w N hI K5 hK5
    obtain ⟨V, M, os', B', hσ, hV, hM, hE, hO', hbits, hlen, hF, rfl⟩ := hI
    refine CW_at hσ ?_
    clear hσ
    refine CW_seq fun K6 hK6 => ?_
    refine CW_seq fun K7 hK7 => ?_
    refine CW_region rfl ?_
    refine RL_v rfl rfl (yd_move rfl) ?_
    by_cases h8 : 8 ≤ N
    · refine RL_v rfl rfl (yd_ge true rfl rfl rfl (decide_eq_true (by omega))) ?_
      refine RL_nil ?_
      refine hK7 _ _ ?_
      refine CW_t rfl ?_
      refine CW_skip ?_
      refine hK6 _ _ ?_
      refine CW_block ?_
      refine CW_seq fun K8 hK8 => ?_
      refine CW_region rfl ?_
      obtain ⟨hb1, hb2, hb3⟩ := bits_out h8 hV
      refine RL_v rfl rfl (yd_move rfl) ?_
      refine RL_v rfl rfl (yd_shr rfl rfl rfl (by omega) ((V / 2 ^ (N - 8) : Nat) : Int) ((shr_k .u32 (V * 2 ^ (32 - N)) 24 (by decide)).trans (by rw [shr24 h8 (by omega)]))) ?_
      refine RL_v rfl rfl (yd_conv rfl so_40 it_5 rfl ((V / 2 ^ (N - 8) : Nat) : Int) ((wrap_u8 _).trans (by rw [Nat.mod_eq_of_lt hb1]))) ?_
      refine RL_v rfl rfl (yd_assign rfl) ?_
      refine RL_nil ?_
      refine hK8 _ _ ?_
      refine CW_seq fun K9 hK9 => ?_
      refine CW_region rfl ?_
      refine RL_v rfl rfl (yd_move rfl) ?_
      refine RL_v rfl rfl (yd_move rfl) ?_
      refine RL_call rfl rfl rfl en_36 rfl (wbyte_ok (c := V / 2 ^ (N - 8)) hE (by omega)) ?_
      rintro _ w1 ⟨rfl, hE1, hF1⟩
      refine ⟨_, rfl, ?_⟩
      have hF2 := hF.trans hF1
      refine RL_nil ?_
      refine hK9 _ _ ?_
      refine CW_seq fun K10 hK10 => ?_
      refine CW_seq fun K11 hK11 => ?_
      refine CW_region rfl ?_
      refine RL_v rfl rfl (yd_move rfl) ?_
      by_cases h255 : V / 2 ^ (N - 8) = 255
      · refine RL_v rfl rfl (yd_eq true rfl rfl rfl (decide_eq_true (by omega))) ?_
        refine RL_nil ?_
        refine hK11 _ _ ?_
        refine CW_t rfl ?_
        refine CW_region rfl ?_
        refine RL_v rfl rfl (yd_move rfl) ?_
        refine RL_call rfl rfl rfl en_36 rfl (wbyte_ok (c := 0) hE1 (by rw [List.length_append]; show os'.length + 1 + 1 ≤ _; omega)) ?_
        rintro _ w2 ⟨rfl, hE3, hF3⟩
        refine ⟨_, rfl, ?_⟩
        have hF4 := hF2.trans hF3
        refine RL_nil ?_
        refine hK10 _ _ ?_
        refine CW_seq fun K12 hK12 => ?_
        refine CW_region rfl ?_
        refine RL_v rfl rfl (yd_move rfl) ?_
        refine RL_v rfl rfl (yd_shl rfl rfl rfl (by omega) _ ((shl_u32 (V * 2 ^ (32 - N)) 8 (by decide)).trans (congrArg (fun z : Nat => (z : Int)) (shl8 h8 (by omega))))) ?_
        refine RL_v rfl rfl (yd_assign rfl) ?_
        refine RL_nil ?_
        refine hK12 _ _ ?_
        refine CW_region rfl ?_
        refine RL_v rfl rfl (yd_move rfl) ?_
        refine RL_v rfl rfl (yd_sub rfl rfl rfl _ (sub8_u32 N h8 (by omega))) ?_
        refine RL_v rfl rfl (yd_assign rfl) ?_
        refine RL_nil ?_
        refine hK5 _ _ ?_
        exact ⟨N - 8, by omega, V % 2 ^ (N - 8), N - 8, _, _, ⟨rfl, rfl, rfl, trivial⟩, hb2, by omega, hE3, by rw [show V / 2 ^ (N - 8) = 255 from h255]; exact Out.ff hO', by rw [List.append_assoc, ← h255, ← hb3, hbits], by rw [List.length_append, List.length_append]; show os'.length + 1 + 1 + _ ≤ _; omega, hF4, rfl⟩
      · refine RL_v rfl rfl (yd_eq false rfl rfl rfl (decide_eq_false (by omega))) ?_
        refine RL_nil ?_
        refine hK11 _ _ ?_
        refine CW_f rfl ?_
        refine CW_skip ?_
        refine hK10 _ _ ?_
        refine CW_seq fun K13 hK13 => ?_
        refine CW_region rfl ?_
        refine RL_v rfl rfl (yd_move rfl) ?_
        refine RL_v rfl rfl (yd_shl rfl rfl rfl (by omega) _ ((shl_u32 (V * 2 ^ (32 - N)) 8 (by decide)).trans (congrArg (fun z : Nat => (z : Int)) (shl8 h8 (by omega))))) ?_
        refine RL_v rfl rfl (yd_assign rfl) ?_
        refine RL_nil ?_
        refine hK13 _ _ ?_
        refine CW_region rfl ?_
        refine RL_v rfl rfl (yd_move rfl) ?_
        refine RL_v rfl rfl (yd_sub rfl rfl rfl _ (sub8_u32 N h8 (by omega))) ?_
        refine RL_v rfl rfl (yd_assign rfl) ?_
        refine RL_nil ?_
        refine hK5 _ _ ?_
        exact ⟨N - 8, by omega, V % 2 ^ (N - 8), N - 8, _, _, ⟨rfl, rfl, rfl, trivial⟩, hb2, by omega, hE1, hO'.ne hb1 h255, by rw [List.append_assoc, ← hb3, hbits], by rw [List.length_append]; show os'.length + 1 + _ ≤ _; omega, hF2, rfl⟩
    · refine RL_v rfl rfl (yd_ge false rfl rfl rfl (decide_eq_false (by omega))) ?_
      refine RL_nil ?_
      refine hK7 _ _ ?_
      refine CW_f rfl ?_
      refine CW_exit rfl ?_
      refine hK4 _ _ ?_
      refine CW_region rfl ?_
      refine RL_v rfl rfl (yd_move rfl) ?_
      refine RL_v rfl rfl (yd_move rfl) ?_
      refine RL_v rfl rfl (yd_move rfl) ?_
      refine RL_v rfl rfl (yd_move rfl) ?_
      refine RL_v rfl rfl (yd_nil rfl rfl) ?_
      refine RL_v rfl rfl (yd_field rfl ft_130_3 rfl) ?_
      refine RL_storeW (fun w' => EmP w' B D b os' (V * 2 ^ (32 - N)) n ∧ Fr (fun k => B ≤ k) w0 w') rfl rfl rfl sz_40 rfl rfl rfl (hE.enc.ldx) (hE.enc.fz) (⟨hE.setx _, hF.set (fun _ => hE.lo) _⟩) ?_
      rintro w1 ⟨hE1, hF1⟩
      refine RL_v rfl rfl (yd_nil rfl rfl) ?_
      refine RL_v rfl rfl (yd_field rfl ft_130_4 rfl) ?_
      refine RL_storeW (fun w' => EmP w' B D b os' (V * 2 ^ (32 - N)) N ∧ Fr (fun k => B ≤ k) w0 w') rfl rfl rfl sz_40 rfl rfl rfl (hE1.enc.ldn) (hE1.enc.fz) (⟨hE1.setn _, hF1.set (fun _ => hE1.lo) _⟩) ?_
      rintro w2 ⟨hE2, hF2⟩
      refine RL_nil ?_
      refine hK _ _ ?_
      exact ⟨rfl, os', V, N, B', hE2, hV, by omega, hO', hbits, by omega, hF2⟩

end Go.Proofs.YtdjilplpbaackaaDoor.Eng
