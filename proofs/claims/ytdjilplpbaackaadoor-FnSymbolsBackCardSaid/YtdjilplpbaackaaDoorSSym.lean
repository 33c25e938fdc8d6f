/- The oracle's reader of symbols. -/
import Derived.Test.YtdjilplpbaackaaDoorSBit
set_option linter.unusedVariables false
set_option linter.unusedSimpArgs false
set_option maxRecDepth 100000
namespace Go.Proofs.YtdjilplpbaackaaDoor.Eng
open Go

theorem bits_at {x u : Nat} {r : List Bool} (hu : u < 8) : (bitsN x 8 ++ r).drop u = x.testBit (7 - u) :: (bitsN x (7 - u) ++ r) := by
  rw [List.drop_append_of_le_length (by rw [bitsN_length]; omega), bitsN_drop _ _ _ (by omega), show 8 - u = (7 - u) + 1 by omega]; rfl
theorem bits_next {x u : Nat} {r : List Bool} (hu : u < 8) : (bitsN x 8 ++ r).drop (u + 1) = bitsN x (7 - u) ++ r := by
  rw [List.drop_append_of_le_length (by rw [bitsN_length]; omega), bitsN_drop _ _ _ (by omega), show 8 - (u + 1) = 7 - u by omega]
theorem bit_val (x k : Nat) : x / 2 ^ k % 2 = (x.testBit k).toNat := (Nat.toNat_testBit x k).symm
def BitP (H : Array Obj) (B : Nat) (ys : List Nat) (bs : List Bool) : Prop :=
  ∃ sb cap at' u, BitB H B sb ys.length cap at' u false ∧ SrcH H sb ys ∧ (ys ≠ [] → ∀ b p, sb = some ⟨b, p, none⟩ → b < B) ∧ u < 8 ∧ bs = (bitsOf (ys.drop at')).drop u
def BitF (H : Array Obj) (B : Nat) (ys : List Nat) : Prop := ∃ sb cap at' u, BitB H B sb ys.length cap at' u true
def BitQ (H : Array Obj) (B : Nat) (ys : List Nat) : Option (List Bool) → Prop
  | some bs => BitP H B ys bs
  | none => BitF H B ys
def nextQ : Option (List Bool) → Nat × Option (List Bool)
  | some (b :: bs) => (b.toNat, some bs)
  | some [] => (0, none)
  | none => (0, none)
theorem nextQ_le (q : Option (List Bool)) : (nextQ q).1 ≤ 1 := by
  rcases q with _ | bs
  · simp [nextQ]
  · cases bs with
    | nil => simp [nextQ]
    | cons b bs => cases b <;> simp [nextQ]
theorem BitP.fr {w w' : World} {B : Nat} {ys : List Nat} {sb : Option Addr} (hS : SrcH w.heap sb ys) (hne : ys ≠ [] → ∀ b p, sb = some ⟨b, p, none⟩ → b < B) (hF : Fr (fun k => k = B) w w') : SrcH w'.heap sb ys :=
  hS.keep fun hx b p o e hb => hF.block b (blk_lt hb) (Nat.ne_of_lt (hne hx b p e))
theorem bit_any {B : Nat} {ys : List Nat} {q : Option (List Bool)} {w0 : World} (hl : ys.length ≤ 4611686018427387904) (hy : ∀ y ∈ ys, y < 256) (hq : BitQ w0.heap B ys q) :
    Calls Tryd.prog 18 #[.pointer (some ⟨B, 0, none⟩)] w0 fun e w' => e = .returned (.int .i64 ((nextQ q).1 : Nat)) ∧ BitQ w'.heap B ys (nextQ q).2 ∧ Fr (fun k => k = B) w0 w' := by
  rcases q with _ | bs
  · obtain ⟨sb, cap, at', u, hB⟩ := hq
    exact (bit_failed hB).mono fun e w' ⟨h1, h2, h3⟩ => ⟨h1, ⟨sb, cap, at', u, h2⟩, h3⟩
  obtain ⟨sb, cap, at', u, hB, hS, hne, hu, hbs⟩ := hq
  have hend : ∀ w' : World, bs = [] → BitB w'.heap B sb ys.length cap at' u true → BitQ w'.heap B ys (nextQ (some bs)).2 := by
    intro w' hb h; subst hb; exact ⟨sb, cap, at', u, h⟩
  by_cases hge : ys.length ≤ at'
  · have hb : bs = [] := by rw [hbs, List.drop_eq_nil_of_le hge, bitsOf_none rfl, List.drop_nil]
    refine (bit_end1 hB hge).mono fun e w' ⟨h1, h2, h3⟩ => ⟨by rw [h1, hb]; rfl, hend w' hb h2, h3⟩
  obtain ⟨x, hx⟩ : ∃ x, ys[at']? = some x := ⟨_, List.getElem?_eq_getElem (by omega)⟩
  have hx256 : x < 256 := hy x (List.mem_of_getElem? hx)
  have hd1 : ys.drop at' = x :: ys.drop (at' + 1) := by
    rw [List.drop_eq_getElem_cons (by omega)]
    rw [List.getElem?_eq_getElem (by omega)] at hx
    injection hx with hx; rw [hx]
  obtain ⟨b0, ps, cs, TS, fr, rfl, hb0, hcs⟩ : ∃ b p c T fr, sb = some ⟨b, p, none⟩ ∧ w0.heap[b]? = some (.cells c T fr) ∧ ∀ k x, ys[k]? = some x → c[p + k]? = some (u8v x) := by
    rcases hS with rfl | h
    · simp at hx
    · exact h
  have hyne : ys ≠ [] := by intro h; subst h; simp at hx
  have hneB : b0 ≠ B := Nat.ne_of_lt (hne hyne b0 ps rfl)
  have step : ∀ (w' : World) (d : Nat), bitsOf (ys.drop at') = bitsN x 8 ++ bitsOf (ys.drop (at' + d)) → Fr (fun k => k = B) w0 w' →
      ((u + 1 < 8 ∧ BitB w'.heap B (some ⟨b0, ps, none⟩) ys.length cap at' (u + 1) false) ∨ (u + 1 = 8 ∧ BitB w'.heap B (some ⟨b0, ps, none⟩) ys.length cap (at' + d) 0 false)) →
      (nextQ (some bs)).1 = x / 2 ^ (7 - u) % 2 ∧ BitQ w'.heap B ys (nextQ (some bs)).2 := by
    intro w' d hd hF h
    rw [hd, bits_at hu] at hbs
    subst hbs
    refine ⟨(bit_val x (7 - u)).symm, ?_⟩
    have hS' := BitP.fr hS hne hF
    rcases h with ⟨h1, h2⟩ | ⟨h1, h2⟩
    · exact ⟨_, _, _, _, h2, hS', hne, h1, by rw [hd, bits_next hu]⟩
    · refine ⟨_, _, _, _, h2, hS', hne, by decide, ?_⟩
      rw [show 7 - u = 0 by omega]; rfl
  by_cases h255 : x = 255
  · by_cases hge1 : ys.length ≤ at' + 1
    · have hb : bs = [] := by
        rw [hbs, hd1, h255, List.drop_eq_nil_of_le hge1, bitsOf_none (by rfl), List.drop_nil]
      refine (bit_end2a hB hx (by omega) hl h255 hge1 hb0 hcs hneB).mono fun e w' ⟨h1, h2, h3⟩ => ⟨by rw [h1, hb]; rfl, hend w' hb h2, h3⟩
    obtain ⟨y, hy1⟩ : ∃ y, ys[at' + 1]? = some y := ⟨_, List.getElem?_eq_getElem (by omega)⟩
    have hd2 : ys.drop (at' + 1) = y :: ys.drop (at' + 2) := by
      rw [List.drop_eq_getElem_cons (by omega)]
      rw [List.getElem?_eq_getElem (by omega)] at hy1
      injection hy1 with hy1; rw [hy1]
    by_cases hy0 : y = 0
    · refine (bit_ok255 hB hx (by omega) hl hu hx256 h255 (by omega) hy1 hy0 hb0 hcs hneB).mono fun e w' ⟨h1, h2, h3⟩ => ?_
      obtain ⟨h4, h5⟩ := step w' 2 (by rw [hd1, hd2, h255, hy0]; exact bitsOf_some rfl) h3 h2
      exact ⟨by rw [h1, h4], h5, h3⟩
    · have hb : bs = [] := by
        rw [hbs, hd1, hd2, h255, bitsOf_none (by simp [destuff, hy0]), List.drop_nil]
      refine (bit_end2b hB hx (by omega) hl h255 (by omega) hy1 hy0 hb0 hcs hneB).mono fun e w' ⟨h1, h2, h3⟩ => ⟨by rw [h1, hb]; rfl, hend w' hb h2, h3⟩
  · refine (bit_ok hB hx (by omega) hl hu hx256 h255 hb0 hcs hneB).mono fun e w' ⟨h1, h2, h3⟩ => ?_
    obtain ⟨h4, h5⟩ := step w' 1 (by rw [hd1]; exact bitsOf_some (destuff_ne h255)) h3 h2
    exact ⟨by rw [h1, h4], h5, h3⟩
/-- The oracle's table at E, off; all that it reads lies below block B. -/
structure TabP (H : Array Obj) (E off B : Nat) (T : Tab) : Prop where
  ok : T.OK
  lo : E < B
  cnt : ∀ i, i < 16 → cellOf H E (off + (i + 1)) = some (.int .i64 (T.counts i : Nat))
  syms : ∃ g cap, g < B ∧ cellOf H E (off + 17) = some (.slice (some ⟨g, 0, none⟩) T.syms.length cap) ∧ ∀ k s, T.syms[k]? = some s → cellOf H g (0 + k) = some (.int .i64 (s : Nat))
theorem cellOf_lt {H : Array Obj} {b p : Nat} {v : Value} (h : cellOf H b p = some v) : b < H.size := by
  unfold cellOf at h
  split at h
  · rename_i hb; exact blk_lt hb
  · cases h
theorem cellOf_fr {S : Nat → Prop} {w w' : World} {b p : Nat} {v : Value} (h : cellOf w.heap b p = some v) (hF : Fr S w w') (hS : ¬ S b) : cellOf w'.heap b p = some v := by
  have := hF.block b (cellOf_lt h) hS
  unfold cellOf at *; rw [this]; exact h
theorem TabP.fr {S : Nat → Prop} {w w' : World} {E off B : Nat} {T : Tab} (h : TabP w.heap E off B T) (hF : Fr S w w') (hS : ∀ k, k < B → ¬ S k) : TabP w'.heap E off B T := by
  obtain ⟨g, cap, hg, h1, h2⟩ := h.syms
  exact ⟨h.ok, h.lo, fun i hi => cellOf_fr (h.cnt i hi) hF (hS _ h.lo), g, cap, hg, cellOf_fr h1 hF (hS _ h.lo), fun k s hk => cellOf_fr (h2 k s hk) hF (hS _ hg)⟩
def symQ (T : Tab) (f i cp : Nat) : Option (List Bool) → Option (Nat × List Bool)
  | some bs => T.symGo f i cp bs
  | none => none
theorem symQ_take {T : Tab} {f i cp : Nat} {q : Option (List Bool)} (h : 2 * cp + (nextQ q).1 < T.first i + T.counts i) :
    symQ T (f + 1) i cp q = match (nextQ q).2 with | some r => some (T.syms.getD (T.idx i + (2 * cp + (nextQ q).1 - T.first i)) 0, r) | none => none := by
  rcases q with _ | bs
  · rfl
  · cases bs with
    | nil => rfl
    | cons b bs => exact Tab.symGo_take h
theorem symQ_pass {T : Tab} {f i cp : Nat} {q : Option (List Bool)} (h : ¬ 2 * cp + (nextQ q).1 < T.first i + T.counts i) : symQ T (f + 1) i cp q = symQ T f (i + 1) (2 * cp + (nextQ q).1) (nextQ q).2 := by
  rcases q with _ | bs
  · rfl
  · cases bs with
    | nil => rfl
    | cons b bs => exact Tab.symGo_pass h
def SymPost (T : Tab) (bs : List Bool) (B : Nat) (ys : List Nat) (e : Ending) (w' : World) : Prop :=
  match T.sym bs with
  | some (s, rest) => e = .returned (.int .i64 (s : Nat)) ∧ BitP w'.heap B ys rest
  | none => (∃ z, e = .returned (.int .i64 z)) ∧ BitF w'.heap B ys
theorem or1_i64 (x b : Nat) (hx : x < 1073741824) (hb : b ≤ 1) : IntKind.i64.wrap ((BitVec.ofInt IntKind.i64.bits ((2 * x : Nat) : Int) ||| BitVec.ofInt IntKind.i64.bits (b : Int)).toNat : Int) = ((2 * x + b : Nat) : Int) := by
  have h1 : ∀ v : Nat, v < 4294967296 → (BitVec.ofInt IntKind.i64.bits (v : Int)).toNat = v := by
    intro v hv
    show (BitVec.ofInt 64 (v : Int)).toNat = v
    rw [BitVec.ofInt_natCast, BitVec.toNat_ofNat]; omega
  rw [BitVec.toNat_or, h1 _ (by omega), h1 _ (by omega)]
  have h3 := Nat.shiftLeft_add_eq_or_of_lt (a := x) (b := b) (i := 1) (by omega)
  rw [Nat.shiftLeft_eq, Nat.mul_comm] at h3
  rw [show (2 ^ 1 : Nat) = 2 from rfl] at h3
  rw [← h3]
  exact IntWalk.i64_in _ (by omega)
theorem shl1_i64 (x : Nat) (hx : x < 1073741824) : IntKind.i64.wrap ((x : Int) * 2 ^ (min ((1 : Int)).toNat IntKind.i64.bits)) = ((2 * x : Nat) : Int) := by
  rw [show (2 : Int) ^ (min ((1 : Int)).toNat IntKind.i64.bits) = 2 from rfl, IntWalk.i64_in _ (by omega)]
  omega

set_option maxHeartbeats 2000000 in
theorem symbol_ok {B E off : Nat} {ys : List Nat} {T : Tab} {bs : List Bool} {w0 : World} (hl : ys.length ≤ 4611686018427387904) (hy : ∀ y ∈ ys, y < 256) (hT : TabP w0.heap E off B T) (hb : BitP w0.heap B ys bs) :
    Calls Tryd.prog 13 #[.pointer (some ⟨B, 0, none⟩), .pointer (some ⟨E, off, none⟩)] w0 fun e w' => SymPost T bs B ys e w' ∧ Fr (fun k => k = B) w0 w' := by
  refine calls1 Tryd.func13 rfl rfl rfl rfl (Nat.le_of_ble_eq_true rfl) fun K hK => ?_
  refine CW_seq fun K1 hK1 => ?_
  refine CW_region rfl ?_
  refine RL_v rfl rfl (yd_assign rfl) ?_
  refine RL_nil ?_
  refine hK1 _ _ ?_
  refine CW_seq fun K2 hK2 => ?_
  refine CW_region rfl ?_
  refine RL_v rfl rfl (yd_assign rfl) ?_
  refine RL_v rfl rfl (yd_assign rfl) ?_
  refine RL_v rfl rfl (yd_assign rfl) ?_
  refine RL_nil ?_
  refine hK2 _ _ ?_
  refine CW_seq fun K3 hK3 => ?_
  refine CW_seq fun K4 hK4 => ?_
  refine CW_region rfl ?_
  refine RL_v rfl rfl (yd_assign rfl) ?_
  refine RL_nil ?_
  refine hK4 _ _ ?_
  refine CW_block ?_
  refine CW_loop (n := 16) (fun σ w N => ∃ (i cp : Nat) (q : Option (List Bool)), AtS σ [(0, .pointer (some ⟨B, 0, none⟩)), (1, .pointer (some ⟨E, off, none⟩)), (5, .int .i64 ((cp : Nat) : Int)), (6, .int .i64 ((T.first i : Nat) : Int)), (7, .int .i64 ((T.idx i : Nat) : Int)), (8, .int .i64 ((i + 1 : Nat) : Int))] ∧ i ≤ 16 ∧ cp < 2 ^ i ∧ T.first i ≤ 2 * cp ∧ BitQ w.heap B ys q ∧ symQ T (16 - i) i cp q = T.sym bs ∧ TabP w.heap E off B T ∧ Fr (fun k => k = B) w0 w ∧ N = 16 - i) ?_ ?_
  · exact ⟨0, 0, some bs, ⟨rfl, rfl, rfl, rfl, rfl, rfl, trivial⟩, by omega, by decide, Nat.le_refl _, hb, rfl, hT, Fr.refl _ _, rfl⟩
  · intro σ w N hI K5 hK5
    clear hb hT
    obtain ⟨i, cp, q, hσ, hi, hcp, hfi, hq, hsy, hT, hF, hNN⟩ := hI
    subst hNN
    refine CW_at hσ ?_
    refine CW_seq fun K6 hK6 => ?_
    refine CW_seq fun K7 hK7 => ?_
    refine CW_region rfl ?_
    refine RL_v rfl rfl (yd_move rfl) ?_
    by_cases hi16 : i < 16
    · refine RL_v rfl rfl (yd_le true rfl rfl rfl (decide_eq_true (by omega))) ?_
      refine RL_nil ?_
      refine hK7 _ _ ?_
      refine CW_t rfl ?_
      refine CW_skip ?_
      refine hK6 _ _ ?_
      refine CW_seq fun K8 hK8 => ?_
      refine CW_block ?_
      refine CW_seq fun K9 hK9 => ?_
      refine CW_region rfl ?_
      have h16 : (2 : Nat) ^ i ≤ 2 ^ 15 := Nat.pow_le_pow_right (by decide) (by omega)
      have hcp16 : cp < 32768 := Nat.lt_of_lt_of_le hcp h16
      have hb1 := nextQ_le q
      have hmi := T.idx_mono (i := i + 1) (j := 16) (by omega)
      have hmi' : T.idx (i + 1) = T.idx i + T.counts i := rfl
      have hlen := hT.ok.len
      have hle := hT.ok.le
      obtain ⟨f, hsf⟩ : ∃ f, 16 - i = f + 1 := ⟨15 - i, by omega⟩
      refine RL_v rfl rfl (yd_move rfl) ?_
      refine RL_v rfl rfl (yd_shl rfl rfl rfl (by omega) ((2 * cp : Nat) : Int) (shl1_i64 cp (by omega))) ?_
      refine RL_v rfl rfl (yd_move rfl) ?_
      refine RL_call rfl rfl rfl en_18 rfl (bit_any hl hy hq) ?_
      rintro _ w1 ⟨rfl, hq1, hF1⟩
      refine ⟨_, rfl, ?_⟩
      replace hT := hT.fr hF1 (fun k hk h => by omega)
      replace hF := hF1.trans' hF
      clear hq hF1
      have hq := hq1
      clear hq1
      refine RL_v rfl rfl (yd_or rfl rfl rfl ((2 * cp + (nextQ q).1 : Nat) : Int) (or1_i64 cp _ (by omega) hb1)) ?_
      refine RL_v rfl rfl (yd_assign rfl) ?_
      refine RL_nil ?_
      refine hK9 _ _ ?_
      refine CW_seq fun K10 hK10 => ?_
      refine CW_region rfl ?_
      refine RL_v rfl rfl (yd_move rfl) ?_
      refine RL_v rfl rfl (yd_move rfl) ?_
      refine RL_v rfl rfl (yd_nil rfl rfl) ?_
      refine RL_v rfl rfl (yd_field rfl ft_52_0 rfl) ?_
      refine RL_v rfl rfl (yd_ix1 rfl at_50 rfl rfl (i + 1) (rfl) (by omega)) ?_
      refine RL_v rfl rfl (yd_load rfl sc_3 rfl (cellOf_cell (hT.cnt i hi16))) ?_
      refine RL_v rfl rfl (yd_assign rfl) ?_
      refine RL_nil ?_
      refine hK10 _ _ ?_
      refine CW_seq fun K11 hK11 => ?_
      refine CW_seq fun K12 hK12 => ?_
      refine CW_region rfl ?_
      refine RL_v rfl rfl (yd_move rfl) ?_
      refine RL_v rfl rfl (yd_move rfl) ?_
      refine RL_v rfl rfl (yd_sub rfl rfl rfl _ (IntWalk.i64_in _ (by omega))) ?_
      refine RL_v rfl rfl (yd_move rfl) ?_
      by_cases htk : 2 * cp + (nextQ q).1 < T.first i + T.counts i
      · refine RL_v rfl rfl (yd_lt true rfl rfl rfl (decide_eq_true (by omega))) ?_
        refine RL_nil ?_
        refine hK12 _ _ ?_
        refine CW_t rfl ?_
        refine CW_seq fun K13 hK13 => ?_
        refine CW_region rfl ?_
        obtain ⟨gg, cap, hgB, hs1, hs2⟩ := hT.syms
        have hsv : T.syms[T.idx i + (2 * cp + (nextQ q).1 - T.first i)]? = some (T.syms.getD (T.idx i + (2 * cp + (nextQ q).1 - T.first i)) 0) := by rw [List.getD_eq_getElem?_getD, List.getElem?_eq_getElem (by omega)]; rfl
        refine RL_v rfl rfl (yd_move rfl) ?_
        refine RL_v rfl rfl (yd_nil rfl rfl) ?_
        refine RL_v rfl rfl (yd_field rfl ft_52_1 rfl) ?_
        refine RL_v rfl rfl (yd_load rfl sc_29 rfl (cellOf_cell hs1)) ?_
        refine RL_v rfl rfl (yd_move rfl) ?_
        refine RL_v rfl rfl (yd_move rfl) ?_
        refine RL_v rfl rfl (yd_add rfl rfl rfl ((T.idx i + (2 * cp + (nextQ q).1) : Nat) : Int) ((IntWalk.i64_in _ (by omega)).trans (by omega))) ?_
        refine RL_v rfl rfl (yd_move rfl) ?_
        refine RL_v rfl rfl (yd_sub rfl rfl rfl ((T.idx i + (2 * cp + (nextQ q).1 - T.first i) : Nat) : Int) ((IntWalk.i64_in _ (by omega)).trans (by omega))) ?_
        refine RL_v rfl rfl (yd_ixs rfl sl_29 rfl rfl (T.idx i + (2 * cp + (nextQ q).1 - T.first i)) (rfl) (by omega)) ?_
        refine RL_v rfl rfl (yd_load rfl sc_3 rfl (cellOf_cell (hs2 _ _ hsv))) ?_
        refine RL_v rfl rfl (yd_assign rfl) ?_
        refine RL_nil ?_
        refine hK13 _ _ ?_
        refine CW_ret ?_
        refine hK _ _ ?_
        rw [hsf, symQ_take htk] at hsy
        unfold SymPost
        rcases hq2 : (nextQ q).2 with _ | r
        · rw [hq2] at hsy hq; simp only at hsy; rw [← hsy]; exact ⟨⟨⟨_, rfl⟩, hq⟩, hF⟩
        · rw [hq2] at hsy hq; simp only at hsy; rw [← hsy]; exact ⟨⟨rfl, hq⟩, hF⟩
      · refine RL_v rfl rfl (yd_lt false rfl rfl rfl (decide_eq_false (by omega))) ?_
        refine RL_nil ?_
        refine hK12 _ _ ?_
        refine CW_f rfl ?_
        refine CW_skip ?_
        refine hK11 _ _ ?_
        refine CW_seq fun K14 hK14 => ?_
        refine CW_region rfl ?_
        refine RL_v rfl rfl (yd_move rfl) ?_
        refine RL_v rfl rfl (yd_move rfl) ?_
        refine RL_v rfl rfl (yd_add rfl rfl rfl ((T.idx (i + 1) : Nat) : Int) ((IntWalk.i64_in _ (by omega)).trans (by show _ = ((T.idx i + T.counts i : Nat) : Int); omega))) ?_
        refine RL_v rfl rfl (yd_assign rfl) ?_
        refine RL_nil ?_
        refine hK14 _ _ ?_
        refine CW_region rfl ?_
        refine RL_v rfl rfl (yd_move rfl) ?_
        refine RL_v rfl rfl (yd_move rfl) ?_
        refine RL_v rfl rfl (yd_add rfl rfl rfl ((T.first i + T.counts i : Nat) : Int) ((IntWalk.i64_in _ (by omega)).trans (by omega))) ?_
        refine RL_v rfl rfl (yd_shl rfl rfl rfl (by omega) ((T.first (i + 1) : Nat) : Int) ((shl1_i64 (T.first i + T.counts i) (by omega)).trans (by show _ = (((T.first i + T.counts i) * 2 : Nat) : Int); omega))) ?_
        refine RL_v rfl rfl (yd_assign rfl) ?_
        refine RL_nil ?_
        refine hK8 _ _ ?_
        refine CW_region rfl ?_
        refine RL_v rfl rfl (yd_move rfl) ?_
        refine RL_v rfl rfl (yd_add64 rfl rfl rfl (by omega)) ?_
        refine RL_v rfl rfl (yd_assign rfl) ?_
        refine RL_nil ?_
        refine hK5 _ _ ?_
        rw [hsf, symQ_pass htk] at hsy
        exact ⟨16 - (i + 1), by omega, i + 1, 2 * cp + (nextQ q).1, (nextQ q).2, ⟨rfl, rfl, rfl, rfl, rfl, rfl, trivial⟩, by omega, by rw [Nat.pow_succ]; omega, by show (T.first i + T.counts i) * 2 ≤ _; omega, hq, by rw [← hsy, show 16 - (i + 1) = f by omega], hT, hF, rfl⟩
    · refine RL_v rfl rfl (yd_le false rfl rfl rfl (decide_eq_false (by omega))) ?_
      refine RL_nil ?_
      refine hK7 _ _ ?_
      refine CW_f rfl ?_
      refine CW_exit rfl ?_
      refine hK3 _ _ ?_
      refine CW_seq fun K15 hK15 => ?_
      refine CW_region rfl ?_
      obtain ⟨sb, cap, at', u, f, hBB⟩ : ∃ sb cap at' u f, BitB w.heap B sb ys.length cap at' u f := by
        rcases q with _ | r
        · obtain ⟨sb, cap, at', u, h⟩ := hq; exact ⟨_, _, _, _, _, h⟩
        · obtain ⟨sb, cap, at', u, h, _⟩ := hq; exact ⟨_, _, _, _, _, h⟩
      refine RL_v rfl rfl (yd_move rfl) ?_
      refine RL_v rfl rfl (yd_nil rfl rfl) ?_
      refine RL_v rfl rfl (yd_field rfl ft_61_3 rfl) ?_
      refine RL_storeW (fun w' => BitF w'.heap B ys ∧ Fr (fun k => k = B) w0 w') rfl rfl rfl sz_4 rfl rfl rfl (hBB.ld3) (hBB.fz) (⟨⟨sb, cap, at', u, hBB.set3 true⟩, hF.set (fun _ => rfl) _⟩) ?_
      clear hq hF
      rintro w ⟨hBF, hF⟩
      refine RL_nil ?_
      refine hK15 _ _ ?_
      refine CW_seq fun K16 hK16 => ?_
      refine CW_region rfl ?_
      refine RL_v rfl rfl (yd_assign rfl) ?_
      refine RL_nil ?_
      refine hK16 _ _ ?_
      refine CW_ret ?_
      refine hK _ _ ?_
      unfold SymPost
      rw [← hsy, show 16 - i = 0 by omega]
      have hn : symQ T 0 i cp q = none := by cases q <;> rfl
      rw [hn]
      exact ⟨⟨⟨0, rfl⟩, hBF⟩, hF⟩

end Go.Proofs.YtdjilplpbaackaaDoor.Eng
