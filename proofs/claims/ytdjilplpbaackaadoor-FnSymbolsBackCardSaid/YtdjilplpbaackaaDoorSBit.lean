/- The oracle's reader of bits: one bit. -/
import Derived.Test.YtdjilplpbaackaaDoorReads
set_option linter.unusedVariables false
set_option linter.unusedSimpArgs false
set_option maxRecDepth 100000
namespace Go.Proofs.YtdjilplpbaackaaDoor.Eng
open Go

/-- The oracle's reader of bits. -/
def BitB (H : Array Obj) (B : Nat) (sb : Option Addr) (n cap at' u : Nat) (f : Bool) : Prop := H[B]? = some (.cells #[.slice sb n cap, .int .i64 at', .int .i64 u, .bool f] 61 (0, 0))
section
variable {w : World} {B n cap at' u : Nat} {sb : Option Addr} {f : Bool}
theorem BitB.ld0 (h : BitB w.heap B sb n cap at' u f) : w.cell? ⟨B, 0, none⟩ = some (.slice sb n cap) := cell_of_blk h
theorem BitB.ld1 (h : BitB w.heap B sb n cap at' u f) : w.cell? ⟨B, 1, none⟩ = some (.int .i64 at') := cell_of_blk h
theorem BitB.ld2 (h : BitB w.heap B sb n cap at' u f) : w.cell? ⟨B, 2, none⟩ = some (.int .i64 u) := cell_of_blk h
theorem BitB.ld3 (h : BitB w.heap B sb n cap at' u f) : w.cell? ⟨B, 3, none⟩ = some (.bool f) := cell_of_blk h
theorem BitB.fz (h : BitB w.heap B sb n cap at' u f) {k : Nat} : w.frozen? ⟨B, k, none⟩ = false := frozen_of_blk h
theorem BitB.set1 (h : BitB w.heap B sb n cap at' u f) {z : Int} {q : Nat} (hz : z = (q : Int)) : BitB (w.setCell ⟨B, 1, none⟩ (.int .i64 z)).heap B sb n cap q u f := by subst hz; exact set_blk_same h _
theorem BitB.set2 (h : BitB w.heap B sb n cap at' u f) {z : Int} {q : Nat} (hz : z = (q : Int)) : BitB (w.setCell ⟨B, 2, none⟩ (.int .i64 z)).heap B sb n cap at' q f := by subst hz; exact set_blk_same h _
theorem BitB.set3 (h : BitB w.heap B sb n cap at' u f) (b : Bool) : BitB (w.setCell ⟨B, 3, none⟩ (.bool b)).heap B sb n cap at' u b := set_blk_same h _
end
theorem i64_div (x p : Nat) (hx : x < 256) : IntKind.i64.wrap ((x / p : Nat) : Int) = ((x / p : Nat) : Int) := by
  have h := Nat.div_le_self x p
  generalize x / p = q at *
  exact IntWalk.i64_in _ (by omega)
theorem and1_i64 (v : Nat) (hv : v < 9223372036854775808) : IntKind.i64.wrap ((BitVec.ofInt IntKind.i64.bits (v : Int) &&& BitVec.ofInt IntKind.i64.bits (1 : Int)).toNat : Int) = ((v % 2 : Nat) : Int) := by
  have h1 : (BitVec.ofInt IntKind.i64.bits (v : Int)).toNat = v := by
    show (BitVec.ofInt 64 (v : Int)).toNat = v
    rw [BitVec.ofInt_natCast, BitVec.toNat_ofNat]; omega
  have h2 : (BitVec.ofInt IntKind.i64.bits (1 : Int)).toNat = 1 := rfl
  rw [BitVec.toNat_and, h1, h2, show (1 : Nat) = 2 ^ 1 - 1 from rfl, Nat.and_two_pow_sub_one_eq_mod]
  exact IntWalk.i64_in _ (by omega)
set_option maxHeartbeats 1000000 in
theorem bit_failed {B cap at' u : Nat} {sb : Option Addr} {ys : List Nat} {w0 : World} (hB : BitB w0.heap B sb ys.length cap at' u true) :
    Calls Tryd.prog 18 #[.pointer (some ⟨B, 0, none⟩)] w0 fun e w' => e = .returned (.int .i64 0) ∧ BitB w'.heap B sb ys.length cap at' u true ∧ Fr (fun k => k = B) w0 w' := by
  have hF := Fr.refl (fun k => k = B) w0
  refine calls1 Tryd.func18 rfl rfl rfl rfl (Nat.le_of_ble_eq_true rfl) fun K hK => ?_
  refine CW_seq fun K1 hK1 => ?_
  refine CW_region rfl ?_
  refine RL_v rfl rfl (yd_assign rfl) ?_
  refine RL_nil ?_
  refine hK1 _ _ ?_
  refine CW_seq fun K2 hK2 => ?_
  refine CW_seq fun K3 hK3 => ?_
  refine CW_draw 50 mixed (by kernel_rfl) rfl ?_
  refine RD_v rfl rfl (yd_move rfl) ?_
  refine RD_v rfl rfl (yd_nil rfl rfl) ?_
  refine RD_v rfl rfl (yd_field rfl ft_61_3 rfl) ?_
  refine RD_v rfl rfl (yd_load rfl sc_4 rfl (hB.ld3)) ?_
  refine RD_v rfl rfl (yd_move rfl) ?_
  refine RD_skip rfl rfl ?_
  refine RD_skip rfl rfl ?_
  refine RD_skip rfl rfl ?_
  refine RD_skip rfl rfl ?_
  refine RD_skip rfl rfl ?_
  refine RD_skip rfl rfl ?_
  refine RD_skip rfl rfl ?_
  refine RD_skip rfl rfl ?_
  refine RD_skip rfl rfl ?_
  refine RD_skip rfl rfl ?_
  refine RD_v rfl rfl (yd_pick rfl rfl) ?_
  refine RD_v rfl rfl (yd_move rfl) ?_
  refine RD_skip rfl rfl ?_
  refine RD_skip rfl rfl ?_
  refine RD_skip rfl rfl ?_
  refine RD_skip rfl rfl ?_
  refine RD_skip rfl rfl ?_
  refine RD_skip rfl rfl ?_
  refine RD_skip rfl rfl ?_
  refine RD_skip rfl rfl ?_
  refine RD_skip rfl rfl ?_
  refine RD_skip rfl rfl ?_
  refine RD_skip rfl rfl ?_
  refine RD_skip rfl rfl ?_
  refine RD_skip rfl rfl ?_
  refine RD_skip rfl rfl ?_
  refine RD_skip rfl rfl ?_
  refine RD_skip rfl rfl ?_
  refine RD_skip rfl rfl ?_
  refine RD_skip rfl rfl ?_
  refine RD_skip rfl rfl ?_
  refine RD_skip rfl rfl ?_
  refine RD_skip rfl rfl ?_
  refine RD_skip rfl rfl ?_
  refine RD_skip rfl rfl ?_
  refine RD_skip rfl rfl ?_
  refine RD_skip rfl rfl ?_
  refine RD_skip rfl rfl ?_
  refine RD_skip rfl rfl ?_
  refine RD_skip rfl rfl ?_
  refine RD_skip rfl rfl ?_
  refine RD_skip rfl rfl ?_
  refine RD_skip rfl rfl ?_
  refine RD_skip rfl rfl ?_
  refine RD_skip rfl rfl ?_
  refine RD_nil ?_
  refine RL_skip rfl rfl ?_
  refine RL_skip rfl rfl ?_
  refine RL_skip rfl rfl ?_
  refine RL_skip rfl rfl ?_
  refine RL_skip rfl rfl ?_
  refine RL_v rfl rfl (yd_pick rfl rfl) ?_
  refine RL_nil ?_
  refine hK3 _ _ ?_
  refine CW_t rfl ?_
  refine CW_seq fun K4 hK4 => ?_
  refine CW_region rfl ?_
  refine RL_v rfl rfl (yd_move rfl) ?_
  refine RL_v rfl rfl (yd_nil rfl rfl) ?_
  refine RL_v rfl rfl (yd_field rfl ft_61_3 rfl) ?_
  refine RL_storeW (fun w' => BitB w'.heap B (sb) ys.length cap at' u true ∧ Fr (fun k => k = B) w0 w') rfl rfl rfl sz_4 rfl rfl rfl (hB.ld3) (hB.fz) (⟨hB.set3 true, hF.set (fun _ => rfl) _⟩) ?_
  clear hB hF
  rintro w ⟨hB, hF⟩
  refine RL_nil ?_
  refine hK4 _ _ ?_
  refine CW_seq fun K5 hK5 => ?_
  refine CW_region rfl ?_
  refine RL_v rfl rfl (yd_assign rfl) ?_
  refine RL_nil ?_
  refine hK5 _ _ ?_
  refine CW_ret ?_
  refine hK _ _ ?_
  exact ⟨rfl, hB, hF⟩
set_option maxHeartbeats 1000000 in
theorem bit_end1 {B cap at' u : Nat} {sb : Option Addr} {ys : List Nat} {w0 : World} (hB : BitB w0.heap B sb ys.length cap at' u false) (hge : ys.length ≤ at') :
    Calls Tryd.prog 18 #[.pointer (some ⟨B, 0, none⟩)] w0 fun e w' => e = .returned (.int .i64 0) ∧ BitB w'.heap B sb ys.length cap at' u true ∧ Fr (fun k => k = B) w0 w' := by
  have hF := Fr.refl (fun k => k = B) w0
  refine calls1 Tryd.func18 rfl rfl rfl rfl (Nat.le_of_ble_eq_true rfl) fun K hK => ?_
  refine CW_seq fun K1 hK1 => ?_
  refine CW_region rfl ?_
  refine RL_v rfl rfl (yd_assign rfl) ?_
  refine RL_nil ?_
  refine hK1 _ _ ?_
  refine CW_seq fun K2 hK2 => ?_
  refine CW_seq fun K3 hK3 => ?_
  refine CW_draw 50 mixed (by kernel_rfl) rfl ?_
  refine RD_v rfl rfl (yd_move rfl) ?_
  refine RD_v rfl rfl (yd_nil rfl rfl) ?_
  refine RD_v rfl rfl (yd_field rfl ft_61_3 rfl) ?_
  refine RD_v rfl rfl (yd_load rfl sc_4 rfl (hB.ld3)) ?_
  refine RD_v rfl rfl (yd_move rfl) ?_
  refine RD_gv rfl rfl (yd_move rfl) ?_
  refine RD_gv rfl rfl (yd_nil rfl rfl) ?_
  refine RD_gv rfl rfl (yd_field rfl ft_61_1 rfl) ?_
  refine RD_gv rfl rfl (yd_load rfl sc_3 rfl (hB.ld1)) ?_
  refine RD_gv rfl rfl (yd_move rfl) ?_
  refine RD_gv rfl rfl (yd_nil rfl rfl) ?_
  refine RD_gv rfl rfl (yd_field rfl ft_61_0 rfl) ?_
  refine RD_gv rfl rfl (yd_load rfl sc_22 rfl (hB.ld0)) ?_
  refine RD_gv rfl rfl (yd_len rfl sl_22 rfl) ?_
  refine RD_gv rfl rfl (yd_ge true rfl rfl rfl (decide_eq_true (by omega))) ?_
  refine RD_v rfl rfl (yd_pick rfl rfl) ?_
  refine RD_v rfl rfl (yd_move rfl) ?_
  refine RD_skip rfl rfl ?_
  refine RD_skip rfl rfl ?_
  refine RD_skip rfl rfl ?_
  refine RD_skip rfl rfl ?_
  refine RD_skip rfl rfl ?_
  refine RD_skip rfl rfl ?_
  refine RD_skip rfl rfl ?_
  refine RD_skip rfl rfl ?_
  refine RD_skip rfl rfl ?_
  refine RD_skip rfl rfl ?_
  refine RD_skip rfl rfl ?_
  refine RD_skip rfl rfl ?_
  refine RD_skip rfl rfl ?_
  refine RD_skip rfl rfl ?_
  refine RD_skip rfl rfl ?_
  refine RD_skip rfl rfl ?_
  refine RD_skip rfl rfl ?_
  refine RD_skip rfl rfl ?_
  refine RD_skip rfl rfl ?_
  refine RD_skip rfl rfl ?_
  refine RD_skip rfl rfl ?_
  refine RD_skip rfl rfl ?_
  refine RD_skip rfl rfl ?_
  refine RD_skip rfl rfl ?_
  refine RD_skip rfl rfl ?_
  refine RD_skip rfl rfl ?_
  refine RD_skip rfl rfl ?_
  refine RD_skip rfl rfl ?_
  refine RD_skip rfl rfl ?_
  refine RD_skip rfl rfl ?_
  refine RD_skip rfl rfl ?_
  refine RD_skip rfl rfl ?_
  refine RD_skip rfl rfl ?_
  refine RD_nil ?_
  refine RL_skip rfl rfl ?_
  refine RL_skip rfl rfl ?_
  refine RL_skip rfl rfl ?_
  refine RL_skip rfl rfl ?_
  refine RL_skip rfl rfl ?_
  refine RL_v rfl rfl (yd_pick rfl rfl) ?_
  refine RL_nil ?_
  refine hK3 _ _ ?_
  refine CW_t rfl ?_
  refine CW_seq fun K4 hK4 => ?_
  refine CW_region rfl ?_
  refine RL_v rfl rfl (yd_move rfl) ?_
  refine RL_v rfl rfl (yd_nil rfl rfl) ?_
  refine RL_v rfl rfl (yd_field rfl ft_61_3 rfl) ?_
  refine RL_storeW (fun w' => BitB w'.heap B (sb) ys.length cap at' u true ∧ Fr (fun k => k = B) w0 w') rfl rfl rfl sz_4 rfl rfl rfl (hB.ld3) (hB.fz) (⟨hB.set3 true, hF.set (fun _ => rfl) _⟩) ?_
  clear hB hF
  rintro w ⟨hB, hF⟩
  refine RL_nil ?_
  refine hK4 _ _ ?_
  refine CW_seq fun K5 hK5 => ?_
  refine CW_region rfl ?_
  refine RL_v rfl rfl (yd_assign rfl) ?_
  refine RL_nil ?_
  refine hK5 _ _ ?_
  refine CW_ret ?_
  refine hK _ _ ?_
  exact ⟨rfl, hB, hF⟩
set_option maxHeartbeats 1000000 in
theorem bit_end2a {B cap at' u x bs ps : Nat} {ys : List Nat} {cs : Array Value} {TS : TypeId} {fr : Nat × Nat} {w0 : World} (hB : BitB w0.heap B (some ⟨bs, ps, none⟩) ys.length cap at' u false) (hx : ys[at']? = some x) (hlt : at' < ys.length) (hl : ys.length ≤ 4611686018427387904) (h255 : x = 255) (hge : ys.length ≤ at' + 1) (hbs : w0.heap[bs]? = some (.cells cs TS fr)) (hcs : ∀ k x, ys[k]? = some x → cs[ps + k]? = some (u8v x)) (hne : bs ≠ B) :
    Calls Tryd.prog 18 #[.pointer (some ⟨B, 0, none⟩)] w0 fun e w' => e = .returned (.int .i64 0) ∧ BitB w'.heap B (some ⟨bs, ps, none⟩) ys.length cap at' u true ∧ Fr (fun k => k = B) w0 w' := by
  have hF := Fr.refl (fun k => k = B) w0
  refine calls1 Tryd.func18 rfl rfl rfl rfl (Nat.le_of_ble_eq_true rfl) fun K hK => ?_
  refine CW_seq fun K1 hK1 => ?_
  refine CW_region rfl ?_
  refine RL_v rfl rfl (yd_assign rfl) ?_
  refine RL_nil ?_
  refine hK1 _ _ ?_
  refine CW_seq fun K2 hK2 => ?_
  refine CW_seq fun K3 hK3 => ?_
  refine CW_draw 50 mixed (by kernel_rfl) rfl ?_
  refine RD_v rfl rfl (yd_move rfl) ?_
  refine RD_v rfl rfl (yd_nil rfl rfl) ?_
  refine RD_v rfl rfl (yd_field rfl ft_61_3 rfl) ?_
  refine RD_v rfl rfl (yd_load rfl sc_4 rfl (hB.ld3)) ?_
  refine RD_v rfl rfl (yd_move rfl) ?_
  refine RD_gv rfl rfl (yd_move rfl) ?_
  refine RD_gv rfl rfl (yd_nil rfl rfl) ?_
  refine RD_gv rfl rfl (yd_field rfl ft_61_1 rfl) ?_
  refine RD_gv rfl rfl (yd_load rfl sc_3 rfl (hB.ld1)) ?_
  refine RD_gv rfl rfl (yd_move rfl) ?_
  refine RD_gv rfl rfl (yd_nil rfl rfl) ?_
  refine RD_gv rfl rfl (yd_field rfl ft_61_0 rfl) ?_
  refine RD_gv rfl rfl (yd_load rfl sc_22 rfl (hB.ld0)) ?_
  refine RD_gv rfl rfl (yd_len rfl sl_22 rfl) ?_
  refine RD_gv rfl rfl (yd_ge false rfl rfl rfl (decide_eq_false (by omega))) ?_
  refine RD_v rfl rfl (yd_pick rfl rfl) ?_
  refine RD_v rfl rfl (yd_move rfl) ?_
  refine RD_gv rfl rfl (yd_move rfl) ?_
  refine RD_gv rfl rfl (yd_nil rfl rfl) ?_
  refine RD_gv rfl rfl (yd_field rfl ft_61_0 rfl) ?_
  refine RD_gv rfl rfl (yd_load rfl sc_22 rfl (hB.ld0)) ?_
  refine RD_gv rfl rfl (yd_move rfl) ?_
  refine RD_gv rfl rfl (yd_nil rfl rfl) ?_
  refine RD_gv rfl rfl (yd_field rfl ft_61_1 rfl) ?_
  refine RD_gv rfl rfl (yd_load rfl sc_3 rfl (hB.ld1)) ?_
  refine RD_gv rfl rfl (yd_ixs rfl sl_22 rfl rfl (at') (rfl) (by omega)) ?_
  refine RD_gv rfl rfl (yd_load rfl sc_5 rfl (cell_of_blk hbs |>.trans (hcs at' _ hx))) ?_
  refine RD_gv rfl rfl (yd_eq true rfl rfl rfl (decide_eq_true (by omega))) ?_
  refine RD_gv rfl rfl (yd_move rfl) ?_
  refine RD_gv rfl rfl (yd_move rfl) ?_
  refine RD_gv rfl rfl (yd_nil rfl rfl) ?_
  refine RD_gv rfl rfl (yd_field rfl ft_61_1 rfl) ?_
  refine RD_gv rfl rfl (yd_load rfl sc_3 rfl (hB.ld1)) ?_
  refine RD_gv rfl rfl (yd_add64 rfl rfl rfl (by omega)) ?_
  refine RD_gv rfl rfl (yd_move rfl) ?_
  refine RD_gv rfl rfl (yd_nil rfl rfl) ?_
  refine RD_gv rfl rfl (yd_field rfl ft_61_0 rfl) ?_
  refine RD_gv rfl rfl (yd_load rfl sc_22 rfl (hB.ld0)) ?_
  refine RD_gv rfl rfl (yd_len rfl sl_22 rfl) ?_
  refine RD_gv rfl rfl (yd_ge true rfl rfl rfl (decide_eq_true (by omega))) ?_
  refine RD_gv rfl rfl (yd_move rfl) ?_
  refine RD_skip rfl rfl ?_
  refine RD_skip rfl rfl ?_
  refine RD_skip rfl rfl ?_
  refine RD_skip rfl rfl ?_
  refine RD_skip rfl rfl ?_
  refine RD_skip rfl rfl ?_
  refine RD_skip rfl rfl ?_
  refine RD_skip rfl rfl ?_
  refine RD_skip rfl rfl ?_
  refine RD_nil ?_
  refine RL_skip rfl rfl ?_
  refine RL_skip rfl rfl ?_
  refine RL_skip rfl rfl ?_
  refine RL_gv rfl rfl (yd_pick rfl rfl) ?_
  refine RL_gv rfl rfl (yd_pick rfl rfl) ?_
  refine RL_v rfl rfl (yd_pick rfl rfl) ?_
  refine RL_nil ?_
  refine hK3 _ _ ?_
  refine CW_t rfl ?_
  refine CW_seq fun K4 hK4 => ?_
  refine CW_region rfl ?_
  refine RL_v rfl rfl (yd_move rfl) ?_
  refine RL_v rfl rfl (yd_nil rfl rfl) ?_
  refine RL_v rfl rfl (yd_field rfl ft_61_3 rfl) ?_
  refine RL_storeW (fun w' => BitB w'.heap B (some ⟨bs, ps, none⟩) ys.length cap at' u true ∧ Fr (fun k => k = B) w0 w') rfl rfl rfl sz_4 rfl rfl rfl (hB.ld3) (hB.fz) (⟨hB.set3 true, hF.set (fun _ => rfl) _⟩) ?_
  clear hB hF
  rintro w ⟨hB, hF⟩
  refine RL_nil ?_
  refine hK4 _ _ ?_
  refine CW_seq fun K5 hK5 => ?_
  refine CW_region rfl ?_
  refine RL_v rfl rfl (yd_assign rfl) ?_
  refine RL_nil ?_
  refine hK5 _ _ ?_
  refine CW_ret ?_
  refine hK _ _ ?_
  exact ⟨rfl, hB, hF⟩
set_option maxHeartbeats 1000000 in
theorem bit_end2b {B cap at' u x y bs ps : Nat} {ys : List Nat} {cs : Array Value} {TS : TypeId} {fr : Nat × Nat} {w0 : World} (hB : BitB w0.heap B (some ⟨bs, ps, none⟩) ys.length cap at' u false) (hx : ys[at']? = some x) (hlt : at' < ys.length) (hl : ys.length ≤ 4611686018427387904) (h255 : x = 255) (hlt1 : at' + 1 < ys.length) (hy : ys[at' + 1]? = some y) (hy0 : y ≠ 0) (hbs : w0.heap[bs]? = some (.cells cs TS fr)) (hcs : ∀ k x, ys[k]? = some x → cs[ps + k]? = some (u8v x)) (hne : bs ≠ B) :
    Calls Tryd.prog 18 #[.pointer (some ⟨B, 0, none⟩)] w0 fun e w' => e = .returned (.int .i64 0) ∧ BitB w'.heap B (some ⟨bs, ps, none⟩) ys.length cap at' u true ∧ Fr (fun k => k = B) w0 w' := by
  have hF := Fr.refl (fun k => k = B) w0
  refine calls1 Tryd.func18 rfl rfl rfl rfl (Nat.le_of_ble_eq_true rfl) fun K hK => ?_
  refine CW_seq fun K1 hK1 => ?_
  refine CW_region rfl ?_
  refine RL_v rfl rfl (yd_assign rfl) ?_
  refine RL_nil ?_
  refine hK1 _ _ ?_
  refine CW_seq fun K2 hK2 => ?_
  refine CW_seq fun K3 hK3 => ?_
  refine CW_draw 50 mixed (by kernel_rfl) rfl ?_
  refine RD_v rfl rfl (yd_move rfl) ?_
  refine RD_v rfl rfl (yd_nil rfl rfl) ?_
  refine RD_v rfl rfl (yd_field rfl ft_61_3 rfl) ?_
  refine RD_v rfl rfl (yd_load rfl sc_4 rfl (hB.ld3)) ?_
  refine RD_v rfl rfl (yd_move rfl) ?_
  refine RD_gv rfl rfl (yd_move rfl) ?_
  refine RD_gv rfl rfl (yd_nil rfl rfl) ?_
  refine RD_gv rfl rfl (yd_field rfl ft_61_1 rfl) ?_
  refine RD_gv rfl rfl (yd_load rfl sc_3 rfl (hB.ld1)) ?_
  refine RD_gv rfl rfl (yd_move rfl) ?_
  refine RD_gv rfl rfl (yd_nil rfl rfl) ?_
  refine RD_gv rfl rfl (yd_field rfl ft_61_0 rfl) ?_
  refine RD_gv rfl rfl (yd_load rfl sc_22 rfl (hB.ld0)) ?_
  refine RD_gv rfl rfl (yd_len rfl sl_22 rfl) ?_
  refine RD_gv rfl rfl (yd_ge false rfl rfl rfl (decide_eq_false (by omega))) ?_
  refine RD_v rfl rfl (yd_pick rfl rfl) ?_
  refine RD_v rfl rfl (yd_move rfl) ?_
  refine RD_gv rfl rfl (yd_move rfl) ?_
  refine RD_gv rfl rfl (yd_nil rfl rfl) ?_
  refine RD_gv rfl rfl (yd_field rfl ft_61_0 rfl) ?_
  refine RD_gv rfl rfl (yd_load rfl sc_22 rfl (hB.ld0)) ?_
  refine RD_gv rfl rfl (yd_move rfl) ?_
  refine RD_gv rfl rfl (yd_nil rfl rfl) ?_
  refine RD_gv rfl rfl (yd_field rfl ft_61_1 rfl) ?_
  refine RD_gv rfl rfl (yd_load rfl sc_3 rfl (hB.ld1)) ?_
  refine RD_gv rfl rfl (yd_ixs rfl sl_22 rfl rfl (at') (rfl) (by omega)) ?_
  refine RD_gv rfl rfl (yd_load rfl sc_5 rfl (cell_of_blk hbs |>.trans (hcs at' _ hx))) ?_
  refine RD_gv rfl rfl (yd_eq true rfl rfl rfl (decide_eq_true (by omega))) ?_
  refine RD_gv rfl rfl (yd_move rfl) ?_
  refine RD_gv rfl rfl (yd_move rfl) ?_
  refine RD_gv rfl rfl (yd_nil rfl rfl) ?_
  refine RD_gv rfl rfl (yd_field rfl ft_61_1 rfl) ?_
  refine RD_gv rfl rfl (yd_load rfl sc_3 rfl (hB.ld1)) ?_
  refine RD_gv rfl rfl (yd_add64 rfl rfl rfl (by omega)) ?_
  refine RD_gv rfl rfl (yd_move rfl) ?_
  refine RD_gv rfl rfl (yd_nil rfl rfl) ?_
  refine RD_gv rfl rfl (yd_field rfl ft_61_0 rfl) ?_
  refine RD_gv rfl rfl (yd_load rfl sc_22 rfl (hB.ld0)) ?_
  refine RD_gv rfl rfl (yd_len rfl sl_22 rfl) ?_
  refine RD_gv rfl rfl (yd_ge false rfl rfl rfl (decide_eq_false (by omega))) ?_
  refine RD_gv rfl rfl (yd_move rfl) ?_
  refine RD_gv rfl rfl (yd_move rfl) ?_
  refine RD_gv rfl rfl (yd_nil rfl rfl) ?_
  refine RD_gv rfl rfl (yd_field rfl ft_61_0 rfl) ?_
  refine RD_gv rfl rfl (yd_load rfl sc_22 rfl (hB.ld0)) ?_
  refine RD_gv rfl rfl (yd_move rfl) ?_
  refine RD_gv rfl rfl (yd_nil rfl rfl) ?_
  refine RD_gv rfl rfl (yd_field rfl ft_61_1 rfl) ?_
  refine RD_gv rfl rfl (yd_load rfl sc_3 rfl (hB.ld1)) ?_
  refine RD_gv rfl rfl (yd_add64 rfl rfl rfl (by omega)) ?_
  refine RD_nil ?_
  refine RL_gv rfl rfl (yd_ixs rfl sl_22 rfl rfl (at' + 1) (by omega) (by omega)) ?_
  refine RL_gv rfl rfl (yd_load rfl sc_5 rfl (cell_of_blk hbs |>.trans (hcs (at' + 1) _ hy))) ?_
  refine RL_gv rfl rfl (yd_ne true rfl rfl rfl (decide_eq_false (by omega))) ?_
  refine RL_gv rfl rfl (yd_pick rfl rfl) ?_
  refine RL_gv rfl rfl (yd_pick rfl rfl) ?_
  refine RL_v rfl rfl (yd_pick rfl rfl) ?_
  refine RL_nil ?_
  refine hK3 _ _ ?_
  refine CW_t rfl ?_
  refine CW_seq fun K4 hK4 => ?_
  refine CW_region rfl ?_
  refine RL_v rfl rfl (yd_move rfl) ?_
  refine RL_v rfl rfl (yd_nil rfl rfl) ?_
  refine RL_v rfl rfl (yd_field rfl ft_61_3 rfl) ?_
  refine RL_storeW (fun w' => BitB w'.heap B (some ⟨bs, ps, none⟩) ys.length cap at' u true ∧ Fr (fun k => k = B) w0 w') rfl rfl rfl sz_4 rfl rfl rfl (hB.ld3) (hB.fz) (⟨hB.set3 true, hF.set (fun _ => rfl) _⟩) ?_
  clear hB hF
  rintro w ⟨hB, hF⟩
  refine RL_nil ?_
  refine hK4 _ _ ?_
  refine CW_seq fun K5 hK5 => ?_
  refine CW_region rfl ?_
  refine RL_v rfl rfl (yd_assign rfl) ?_
  refine RL_nil ?_
  refine hK5 _ _ ?_
  refine CW_ret ?_
  refine hK _ _ ?_
  exact ⟨rfl, hB, hF⟩
set_option maxHeartbeats 1000000 in
theorem bit_ok {B cap at' u x bs ps : Nat} {ys : List Nat} {cs : Array Value} {TS : TypeId} {fr : Nat × Nat} {w0 : World} (hB : BitB w0.heap B (some ⟨bs, ps, none⟩) ys.length cap at' u false) (hx : ys[at']? = some x) (hlt : at' < ys.length) (hl : ys.length ≤ 4611686018427387904) (hu : u < 8) (hx256 : x < 256) (h255 : x ≠ 255) (hbs : w0.heap[bs]? = some (.cells cs TS fr)) (hcs : ∀ k x, ys[k]? = some x → cs[ps + k]? = some (u8v x)) (hne : bs ≠ B) :
    Calls Tryd.prog 18 #[.pointer (some ⟨B, 0, none⟩)] w0 fun e w' => e = .returned (.int .i64 (x / 2 ^ (7 - u) % 2 : Nat)) ∧ ((u + 1 < 8 ∧ BitB w'.heap B (some ⟨bs, ps, none⟩) ys.length cap at' (u + 1) false) ∨ (u + 1 = 8 ∧ BitB w'.heap B (some ⟨bs, ps, none⟩) ys.length cap (at' + 1) 0 false)) ∧ Fr (fun k => k = B) w0 w' := by
  have hF := Fr.refl (fun k => k = B) w0
  refine calls1 Tryd.func18 rfl rfl rfl rfl (Nat.le_of_ble_eq_true rfl) fun K hK => ?_
  refine CW_seq fun K1 hK1 => ?_
  refine CW_region rfl ?_
  refine RL_v rfl rfl (yd_assign rfl) ?_
  refine RL_nil ?_
  refine hK1 _ _ ?_
  refine CW_seq fun K2 hK2 => ?_
  refine CW_seq fun K3 hK3 => ?_
  refine CW_draw 50 mixed (by kernel_rfl) rfl ?_
  refine RD_v rfl rfl (yd_move rfl) ?_
  refine RD_v rfl rfl (yd_nil rfl rfl) ?_
  refine RD_v rfl rfl (yd_field rfl ft_61_3 rfl) ?_
  refine RD_v rfl rfl (yd_load rfl sc_4 rfl (hB.ld3)) ?_
  refine RD_v rfl rfl (yd_move rfl) ?_
  refine RD_gv rfl rfl (yd_move rfl) ?_
  refine RD_gv rfl rfl (yd_nil rfl rfl) ?_
  refine RD_gv rfl rfl (yd_field rfl ft_61_1 rfl) ?_
  refine RD_gv rfl rfl (yd_load rfl sc_3 rfl (hB.ld1)) ?_
  refine RD_gv rfl rfl (yd_move rfl) ?_
  refine RD_gv rfl rfl (yd_nil rfl rfl) ?_
  refine RD_gv rfl rfl (yd_field rfl ft_61_0 rfl) ?_
  refine RD_gv rfl rfl (yd_load rfl sc_22 rfl (hB.ld0)) ?_
  refine RD_gv rfl rfl (yd_len rfl sl_22 rfl) ?_
  refine RD_gv rfl rfl (yd_ge false rfl rfl rfl (decide_eq_false (by omega))) ?_
  refine RD_v rfl rfl (yd_pick rfl rfl) ?_
  refine RD_v rfl rfl (yd_move rfl) ?_
  refine RD_gv rfl rfl (yd_move rfl) ?_
  refine RD_gv rfl rfl (yd_nil rfl rfl) ?_
  refine RD_gv rfl rfl (yd_field rfl ft_61_0 rfl) ?_
  refine RD_gv rfl rfl (yd_load rfl sc_22 rfl (hB.ld0)) ?_
  refine RD_gv rfl rfl (yd_move rfl) ?_
  refine RD_gv rfl rfl (yd_nil rfl rfl) ?_
  refine RD_gv rfl rfl (yd_field rfl ft_61_1 rfl) ?_
  refine RD_gv rfl rfl (yd_load rfl sc_3 rfl (hB.ld1)) ?_
  refine RD_gv rfl rfl (yd_ixs rfl sl_22 rfl rfl (at') (rfl) (by omega)) ?_
  refine RD_gv rfl rfl (yd_load rfl sc_5 rfl (cell_of_blk hbs |>.trans (hcs at' _ hx))) ?_
  refine RD_gv rfl rfl (yd_eq false rfl rfl rfl (decide_eq_false (by omega))) ?_
  refine RD_gv rfl rfl (yd_move rfl) ?_
  refine RD_skip rfl rfl ?_
  refine RD_skip rfl rfl ?_
  refine RD_skip rfl rfl ?_
  refine RD_skip rfl rfl ?_
  refine RD_skip rfl rfl ?_
  refine RD_skip rfl rfl ?_
  refine RD_skip rfl rfl ?_
  refine RD_skip rfl rfl ?_
  refine RD_skip rfl rfl ?_
  refine RD_skip rfl rfl ?_
  refine RD_skip rfl rfl ?_
  refine RD_skip rfl rfl ?_
  refine RD_skip rfl rfl ?_
  refine RD_skip rfl rfl ?_
  refine RD_skip rfl rfl ?_
  refine RD_skip rfl rfl ?_
  refine RD_skip rfl rfl ?_
  refine RD_skip rfl rfl ?_
  refine RD_skip rfl rfl ?_
  refine RD_skip rfl rfl ?_
  refine RD_skip rfl rfl ?_
  refine RD_nil ?_
  refine RL_skip rfl rfl ?_
  refine RL_skip rfl rfl ?_
  refine RL_skip rfl rfl ?_
  refine RL_skip rfl rfl ?_
  refine RL_gv rfl rfl (yd_pick rfl rfl) ?_
  refine RL_v rfl rfl (yd_pick rfl rfl) ?_
  refine RL_nil ?_
  refine hK3 _ _ ?_
  refine CW_f rfl ?_
  refine CW_skip ?_
  refine hK2 _ _ ?_
  refine CW_seq fun K4 hK4 => ?_
  refine CW_draw 15 mixed (by kernel_rfl) rfl ?_
  refine RD_v rfl rfl (yd_move rfl) ?_
  refine RD_v rfl rfl (yd_nil rfl rfl) ?_
  refine RD_v rfl rfl (yd_field rfl ft_61_0 rfl) ?_
  refine RD_v rfl rfl (yd_load rfl sc_22 rfl (hB.ld0)) ?_
  refine RD_v rfl rfl (yd_move rfl) ?_
  refine RD_v rfl rfl (yd_nil rfl rfl) ?_
  refine RD_v rfl rfl (yd_field rfl ft_61_1 rfl) ?_
  refine RD_v rfl rfl (yd_load rfl sc_3 rfl (hB.ld1)) ?_
  refine RD_v rfl rfl (yd_ixs rfl sl_22 rfl rfl (at') (rfl) (by omega)) ?_
  refine RD_v rfl rfl (yd_load rfl sc_5 rfl (cell_of_blk hbs |>.trans (hcs at' _ hx))) ?_
  refine RD_v rfl rfl (yd_move rfl) ?_
  refine RD_v rfl rfl (yd_nil rfl rfl) ?_
  refine RD_v rfl rfl (yd_field rfl ft_61_2 rfl) ?_
  refine RD_v rfl rfl (yd_load rfl sc_3 rfl (hB.ld2)) ?_
  refine RD_v rfl rfl (yd_sub rfl rfl rfl ((7 - u : Nat) : Int) ((IntWalk.i64_in _ (by omega)).trans (by omega))) ?_
  refine RD_nil ?_
  refine RL_v rfl rfl (yd_shr rfl rfl rfl (by omega) _ (shr_k .u8 x (7 - u) (by show 7 - u ≤ 8; omega))) ?_
  refine RL_v rfl rfl (yd_conv rfl so_5 it_3 rfl ((x / 2 ^ (7 - u) : Nat) : Int) (i64_div x _ hx256)) ?_
  refine RL_v rfl rfl (yd_and rfl rfl rfl ((x / 2 ^ (7 - u) % 2 : Nat) : Int) (and1_i64 _ (by have := Nat.div_le_self x (2 ^ (7 - u)); omega))) ?_
  refine RL_v rfl rfl (yd_assign rfl) ?_
  refine RL_nil ?_
  refine hK4 _ _ ?_
  refine CW_seq fun K5 hK5 => ?_
  refine CW_seq fun K6 hK6 => ?_
  refine CW_region rfl ?_
  refine RL_v rfl rfl (yd_move rfl) ?_
  refine RL_v rfl rfl (yd_nil rfl rfl) ?_
  refine RL_v rfl rfl (yd_field rfl ft_61_2 rfl) ?_
  refine RL_v rfl rfl (yd_load rfl sc_3 rfl (hB.ld2)) ?_
  refine RL_v rfl rfl (yd_add64 rfl rfl rfl (by omega)) ?_
  refine RL_v rfl rfl (yd_nil rfl rfl) ?_
  refine RL_v rfl rfl (yd_field rfl ft_61_2 rfl) ?_
  refine RL_storeW (fun w' => BitB w'.heap B (some ⟨bs, ps, none⟩) ys.length cap at' (u + 1) false ∧ Fr (fun k => k = B) w0 w') rfl rfl rfl sz_3 rfl rfl rfl (hB.ld2) (hB.fz) (⟨hB.set2 (by omega), hF.set (fun _ => rfl) _⟩) ?_
  clear hB hF
  rintro w ⟨hB, hF⟩
  refine RL_nil ?_
  refine hK6 _ _ ?_
  refine CW_seq fun K7 hK7 => ?_
  refine CW_region rfl ?_
  refine RL_v rfl rfl (yd_move rfl) ?_
  refine RL_v rfl rfl (yd_nil rfl rfl) ?_
  refine RL_v rfl rfl (yd_field rfl ft_61_2 rfl) ?_
  refine RL_v rfl rfl (yd_load rfl sc_3 rfl (hB.ld2)) ?_
  by_cases h8 : u + 1 = 8
  · refine RL_v rfl rfl (yd_eq true rfl rfl rfl (decide_eq_true (by omega))) ?_
    refine RL_nil ?_
    refine hK7 _ _ ?_
    refine CW_t rfl ?_
    refine CW_seq fun K8 hK8 => ?_
    refine CW_region rfl ?_
    refine RL_v rfl rfl (yd_move rfl) ?_
    refine RL_v rfl rfl (yd_nil rfl rfl) ?_
    refine RL_v rfl rfl (yd_field rfl ft_61_2 rfl) ?_
    refine RL_storeW (fun w' => BitB w'.heap B (some ⟨bs, ps, none⟩) ys.length cap at' 0 false ∧ Fr (fun k => k = B) w0 w') rfl rfl rfl sz_3 rfl rfl rfl (hB.ld2) (hB.fz) (⟨hB.set2 rfl, hF.set (fun _ => rfl) _⟩) ?_
    clear hB hF
    rintro w ⟨hB, hF⟩
    refine RL_nil ?_
    refine hK8 _ _ ?_
    refine CW_seq fun K9 hK9 => ?_
    refine CW_seq fun K10 hK10 => ?_
    refine CW_draw 8 mixed (by kernel_rfl) rfl ?_
    refine RD_v rfl rfl (yd_move rfl) ?_
    refine RD_v rfl rfl (yd_nil rfl rfl) ?_
    refine RD_v rfl rfl (yd_field rfl ft_61_0 rfl) ?_
    refine RD_v rfl rfl (yd_load rfl sc_22 rfl (hB.ld0)) ?_
    refine RD_v rfl rfl (yd_move rfl) ?_
    refine RD_v rfl rfl (yd_nil rfl rfl) ?_
    refine RD_v rfl rfl (yd_field rfl ft_61_1 rfl) ?_
    refine RD_v rfl rfl (yd_load rfl sc_3 rfl (hB.ld1)) ?_
    refine RD_nil ?_
    refine RL_v rfl rfl (yd_ixs rfl sl_22 rfl rfl (at') (rfl) (by omega)) ?_
    refine RL_v rfl rfl (yd_load rfl sc_5 rfl ((cell_keep (hF.block bs (blk_lt hbs) hne)).trans (cell_of_blk hbs |>.trans (hcs at' _ hx)))) ?_
    refine RL_v rfl rfl (yd_eq false rfl rfl rfl (decide_eq_false (by omega))) ?_
    refine RL_nil ?_
    refine hK10 _ _ ?_
    refine CW_f rfl ?_
    refine CW_skip ?_
    refine hK9 _ _ ?_
    refine CW_region rfl ?_
    refine RL_v rfl rfl (yd_move rfl) ?_
    refine RL_v rfl rfl (yd_nil rfl rfl) ?_
    refine RL_v rfl rfl (yd_field rfl ft_61_1 rfl) ?_
    refine RL_v rfl rfl (yd_load rfl sc_3 rfl (hB.ld1)) ?_
    refine RL_v rfl rfl (yd_add64 rfl rfl rfl (by omega)) ?_
    refine RL_v rfl rfl (yd_nil rfl rfl) ?_
    refine RL_v rfl rfl (yd_field rfl ft_61_1 rfl) ?_
    refine RL_storeW (fun w' => BitB w'.heap B (some ⟨bs, ps, none⟩) ys.length cap (at' + 1) 0 false ∧ Fr (fun k => k = B) w0 w') rfl rfl rfl sz_3 rfl rfl rfl (hB.ld1) (hB.fz) (⟨hB.set1 (by omega), hF.set (fun _ => rfl) _⟩) ?_
    clear hB hF
    rintro w ⟨hB, hF⟩
    refine RL_nil ?_
    refine hK5 _ _ ?_
    refine CW_seq fun K11 hK11 => ?_
    refine CW_region rfl ?_
    refine RL_v rfl rfl (yd_move rfl) ?_
    refine RL_v rfl rfl (yd_assign rfl) ?_
    refine RL_nil ?_
    refine hK11 _ _ ?_
    refine CW_ret ?_
    refine hK _ _ ?_
    exact ⟨rfl, .inr ⟨h8, hB⟩, hF⟩
  · refine RL_v rfl rfl (yd_eq false rfl rfl rfl (decide_eq_false (by omega))) ?_
    refine RL_nil ?_
    refine hK7 _ _ ?_
    refine CW_f rfl ?_
    refine CW_skip ?_
    refine hK5 _ _ ?_
    refine CW_seq fun K12 hK12 => ?_
    refine CW_region rfl ?_
    refine RL_v rfl rfl (yd_move rfl) ?_
    refine RL_v rfl rfl (yd_assign rfl) ?_
    refine RL_nil ?_
    refine hK12 _ _ ?_
    refine CW_ret ?_
    refine hK _ _ ?_
    exact ⟨rfl, .inl ⟨by omega, hB⟩, hF⟩
set_option maxHeartbeats 1000000 in
theorem bit_ok255 {B cap at' u x y bs ps : Nat} {ys : List Nat} {cs : Array Value} {TS : TypeId} {fr : Nat × Nat} {w0 : World} (hB : BitB w0.heap B (some ⟨bs, ps, none⟩) ys.length cap at' u false) (hx : ys[at']? = some x) (hlt : at' < ys.length) (hl : ys.length ≤ 4611686018427387904) (hu : u < 8) (hx256 : x < 256) (h255 : x = 255) (hlt1 : at' + 1 < ys.length) (hy : ys[at' + 1]? = some y) (hy0 : y = 0) (hbs : w0.heap[bs]? = some (.cells cs TS fr)) (hcs : ∀ k x, ys[k]? = some x → cs[ps + k]? = some (u8v x)) (hne : bs ≠ B) :
    Calls Tryd.prog 18 #[.pointer (some ⟨B, 0, none⟩)] w0 fun e w' => e = .returned (.int .i64 (x / 2 ^ (7 - u) % 2 : Nat)) ∧ ((u + 1 < 8 ∧ BitB w'.heap B (some ⟨bs, ps, none⟩) ys.length cap at' (u + 1) false) ∨ (u + 1 = 8 ∧ BitB w'.heap B (some ⟨bs, ps, none⟩) ys.length cap (at' + 2) 0 false)) ∧ Fr (fun k => k = B) w0 w' := by
  have hF := Fr.refl (fun k => k = B) w0
  refine calls1 Tryd.func18 rfl rfl rfl rfl (Nat.le_of_ble_eq_true rfl) fun K hK => ?_
  refine CW_seq fun K1 hK1 => ?_
  refine CW_region rfl ?_
  refine RL_v rfl rfl (yd_assign rfl) ?_
  refine RL_nil ?_
  refine hK1 _ _ ?_
  refine CW_seq fun K2 hK2 => ?_
  refine CW_seq fun K3 hK3 => ?_
  refine CW_draw 50 mixed (by kernel_rfl) rfl ?_
  refine RD_v rfl rfl (yd_move rfl) ?_
  refine RD_v rfl rfl (yd_nil rfl rfl) ?_
  refine RD_v rfl rfl (yd_field rfl ft_61_3 rfl) ?_
  refine RD_v rfl rfl (yd_load rfl sc_4 rfl (hB.ld3)) ?_
  refine RD_v rfl rfl (yd_move rfl) ?_
  refine RD_gv rfl rfl (yd_move rfl) ?_
  refine RD_gv rfl rfl (yd_nil rfl rfl) ?_
  refine RD_gv rfl rfl (yd_field rfl ft_61_1 rfl) ?_
  refine RD_gv rfl rfl (yd_load rfl sc_3 rfl (hB.ld1)) ?_
  refine RD_gv rfl rfl (yd_move rfl) ?_
  refine RD_gv rfl rfl (yd_nil rfl rfl) ?_
  refine RD_gv rfl rfl (yd_field rfl ft_61_0 rfl) ?_
  refine RD_gv rfl rfl (yd_load rfl sc_22 rfl (hB.ld0)) ?_
  refine RD_gv rfl rfl (yd_len rfl sl_22 rfl) ?_
  refine RD_gv rfl rfl (yd_ge false rfl rfl rfl (decide_eq_false (by omega))) ?_
  refine RD_v rfl rfl (yd_pick rfl rfl) ?_
  refine RD_v rfl rfl (yd_move rfl) ?_
  refine RD_gv rfl rfl (yd_move rfl) ?_
  refine RD_gv rfl rfl (yd_nil rfl rfl) ?_
  refine RD_gv rfl rfl (yd_field rfl ft_61_0 rfl) ?_
  refine RD_gv rfl rfl (yd_load rfl sc_22 rfl (hB.ld0)) ?_
  refine RD_gv rfl rfl (yd_move rfl) ?_
  refine RD_gv rfl rfl (yd_nil rfl rfl) ?_
  refine RD_gv rfl rfl (yd_field rfl ft_61_1 rfl) ?_
  refine RD_gv rfl rfl (yd_load rfl sc_3 rfl (hB.ld1)) ?_
  refine RD_gv rfl rfl (yd_ixs rfl sl_22 rfl rfl (at') (rfl) (by omega)) ?_
  refine RD_gv rfl rfl (yd_load rfl sc_5 rfl (cell_of_blk hbs |>.trans (hcs at' _ hx))) ?_
  refine RD_gv rfl rfl (yd_eq true rfl rfl rfl (decide_eq_true (by omega))) ?_
  refine RD_gv rfl rfl (yd_move rfl) ?_
  refine RD_gv rfl rfl (yd_move rfl) ?_
  refine RD_gv rfl rfl (yd_nil rfl rfl) ?_
  refine RD_gv rfl rfl (yd_field rfl ft_61_1 rfl) ?_
  refine RD_gv rfl rfl (yd_load rfl sc_3 rfl (hB.ld1)) ?_
  refine RD_gv rfl rfl (yd_add64 rfl rfl rfl (by omega)) ?_
  refine RD_gv rfl rfl (yd_move rfl) ?_
  refine RD_gv rfl rfl (yd_nil rfl rfl) ?_
  refine RD_gv rfl rfl (yd_field rfl ft_61_0 rfl) ?_
  refine RD_gv rfl rfl (yd_load rfl sc_22 rfl (hB.ld0)) ?_
  refine RD_gv rfl rfl (yd_len rfl sl_22 rfl) ?_
  refine RD_gv rfl rfl (yd_ge false rfl rfl rfl (decide_eq_false (by omega))) ?_
  refine RD_gv rfl rfl (yd_move rfl) ?_
  refine RD_gv rfl rfl (yd_move rfl) ?_
  refine RD_gv rfl rfl (yd_nil rfl rfl) ?_
  refine RD_gv rfl rfl (yd_field rfl ft_61_0 rfl) ?_
  refine RD_gv rfl rfl (yd_load rfl sc_22 rfl (hB.ld0)) ?_
  refine RD_gv rfl rfl (yd_move rfl) ?_
  refine RD_gv rfl rfl (yd_nil rfl rfl) ?_
  refine RD_gv rfl rfl (yd_field rfl ft_61_1 rfl) ?_
  refine RD_gv rfl rfl (yd_load rfl sc_3 rfl (hB.ld1)) ?_
  refine RD_gv rfl rfl (yd_add64 rfl rfl rfl (by omega)) ?_
  refine RD_nil ?_
  refine RL_gv rfl rfl (yd_ixs rfl sl_22 rfl rfl (at' + 1) (by omega) (by omega)) ?_
  refine RL_gv rfl rfl (yd_load rfl sc_5 rfl (cell_of_blk hbs |>.trans (hcs (at' + 1) _ hy))) ?_
  refine RL_gv rfl rfl (yd_ne false rfl rfl rfl (decide_eq_true (by omega))) ?_
  refine RL_gv rfl rfl (yd_pick rfl rfl) ?_
  refine RL_gv rfl rfl (yd_pick rfl rfl) ?_
  refine RL_v rfl rfl (yd_pick rfl rfl) ?_
  refine RL_nil ?_
  refine hK3 _ _ ?_
  refine CW_f rfl ?_
  refine CW_skip ?_
  refine hK2 _ _ ?_
  refine CW_seq fun K4 hK4 => ?_
  refine CW_draw 15 mixed (by kernel_rfl) rfl ?_
  refine RD_v rfl rfl (yd_move rfl) ?_
  refine RD_v rfl rfl (yd_nil rfl rfl) ?_
  refine RD_v rfl rfl (yd_field rfl ft_61_0 rfl) ?_
  refine RD_v rfl rfl (yd_load rfl sc_22 rfl (hB.ld0)) ?_
  refine RD_v rfl rfl (yd_move rfl) ?_
  refine RD_v rfl rfl (yd_nil rfl rfl) ?_
  refine RD_v rfl rfl (yd_field rfl ft_61_1 rfl) ?_
  refine RD_v rfl rfl (yd_load rfl sc_3 rfl (hB.ld1)) ?_
  refine RD_v rfl rfl (yd_ixs rfl sl_22 rfl rfl (at') (rfl) (by omega)) ?_
  refine RD_v rfl rfl (yd_load rfl sc_5 rfl (cell_of_blk hbs |>.trans (hcs at' _ hx))) ?_
  refine RD_v rfl rfl (yd_move rfl) ?_
  refine RD_v rfl rfl (yd_nil rfl rfl) ?_
  refine RD_v rfl rfl (yd_field rfl ft_61_2 rfl) ?_
  refine RD_v rfl rfl (yd_load rfl sc_3 rfl (hB.ld2)) ?_
  refine RD_v rfl rfl (yd_sub rfl rfl rfl ((7 - u : Nat) : Int) ((IntWalk.i64_in _ (by omega)).trans (by omega))) ?_
  refine RD_nil ?_
  refine RL_v rfl rfl (yd_shr rfl rfl rfl (by omega) _ (shr_k .u8 x (7 - u) (by show 7 - u ≤ 8; omega))) ?_
  refine RL_v rfl rfl (yd_conv rfl so_5 it_3 rfl ((x / 2 ^ (7 - u) : Nat) : Int) (i64_div x _ hx256)) ?_
  refine RL_v rfl rfl (yd_and rfl rfl rfl ((x / 2 ^ (7 - u) % 2 : Nat) : Int) (and1_i64 _ (by have := Nat.div_le_self x (2 ^ (7 - u)); omega))) ?_
  refine RL_v rfl rfl (yd_assign rfl) ?_
  refine RL_nil ?_
  refine hK4 _ _ ?_
  refine CW_seq fun K5 hK5 => ?_
  refine CW_seq fun K6 hK6 => ?_
  refine CW_region rfl ?_
  refine RL_v rfl rfl (yd_move rfl) ?_
  refine RL_v rfl rfl (yd_nil rfl rfl) ?_
  refine RL_v rfl rfl (yd_field rfl ft_61_2 rfl) ?_
  refine RL_v rfl rfl (yd_load rfl sc_3 rfl (hB.ld2)) ?_
  refine RL_v rfl rfl (yd_add64 rfl rfl rfl (by omega)) ?_
  refine RL_v rfl rfl (yd_nil rfl rfl) ?_
  refine RL_v rfl rfl (yd_field rfl ft_61_2 rfl) ?_
  refine RL_storeW (fun w' => BitB w'.heap B (some ⟨bs, ps, none⟩) ys.length cap at' (u + 1) false ∧ Fr (fun k => k = B) w0 w') rfl rfl rfl sz_3 rfl rfl rfl (hB.ld2) (hB.fz) (⟨hB.set2 (by omega), hF.set (fun _ => rfl) _⟩) ?_
  clear hB hF
  rintro w ⟨hB, hF⟩
  refine RL_nil ?_
  refine hK6 _ _ ?_
  refine CW_seq fun K7 hK7 => ?_
  refine CW_region rfl ?_
  refine RL_v rfl rfl (yd_move rfl) ?_
  refine RL_v rfl rfl (yd_nil rfl rfl) ?_
  refine RL_v rfl rfl (yd_field rfl ft_61_2 rfl) ?_
  refine RL_v rfl rfl (yd_load rfl sc_3 rfl (hB.ld2)) ?_
  by_cases h8 : u + 1 = 8
  · refine RL_v rfl rfl (yd_eq true rfl rfl rfl (decide_eq_true (by omega))) ?_
    refine RL_nil ?_
    refine hK7 _ _ ?_
    refine CW_t rfl ?_
    refine CW_seq fun K8 hK8 => ?_
    refine CW_region rfl ?_
    refine RL_v rfl rfl (yd_move rfl) ?_
    refine RL_v rfl rfl (yd_nil rfl rfl) ?_
    refine RL_v rfl rfl (yd_field rfl ft_61_2 rfl) ?_
    refine RL_storeW (fun w' => BitB w'.heap B (some ⟨bs, ps, none⟩) ys.length cap at' 0 false ∧ Fr (fun k => k = B) w0 w') rfl rfl rfl sz_3 rfl rfl rfl (hB.ld2) (hB.fz) (⟨hB.set2 rfl, hF.set (fun _ => rfl) _⟩) ?_
    clear hB hF
    rintro w ⟨hB, hF⟩
    refine RL_nil ?_
    refine hK8 _ _ ?_
    refine CW_seq fun K9 hK9 => ?_
    refine CW_seq fun K10 hK10 => ?_
    refine CW_draw 8 mixed (by kernel_rfl) rfl ?_
    refine RD_v rfl rfl (yd_move rfl) ?_
    refine RD_v rfl rfl (yd_nil rfl rfl) ?_
    refine RD_v rfl rfl (yd_field rfl ft_61_0 rfl) ?_
    refine RD_v rfl rfl (yd_load rfl sc_22 rfl (hB.ld0)) ?_
    refine RD_v rfl rfl (yd_move rfl) ?_
    refine RD_v rfl rfl (yd_nil rfl rfl) ?_
    refine RD_v rfl rfl (yd_field rfl ft_61_1 rfl) ?_
    refine RD_v rfl rfl (yd_load rfl sc_3 rfl (hB.ld1)) ?_
    refine RD_nil ?_
    refine RL_v rfl rfl (yd_ixs rfl sl_22 rfl rfl (at') (rfl) (by omega)) ?_
    refine RL_v rfl rfl (yd_load rfl sc_5 rfl ((cell_keep (hF.block bs (blk_lt hbs) hne)).trans (cell_of_blk hbs |>.trans (hcs at' _ hx)))) ?_
    refine RL_v rfl rfl (yd_eq true rfl rfl rfl (decide_eq_true (by omega))) ?_
    refine RL_nil ?_
    refine hK10 _ _ ?_
    refine CW_t rfl ?_
    refine CW_region rfl ?_
    refine RL_v rfl rfl (yd_move rfl) ?_
    refine RL_v rfl rfl (yd_nil rfl rfl) ?_
    refine RL_v rfl rfl (yd_field rfl ft_61_1 rfl) ?_
    refine RL_v rfl rfl (yd_load rfl sc_3 rfl (hB.ld1)) ?_
    refine RL_v rfl rfl (yd_add64 rfl rfl rfl (by omega)) ?_
    refine RL_v rfl rfl (yd_nil rfl rfl) ?_
    refine RL_v rfl rfl (yd_field rfl ft_61_1 rfl) ?_
    refine RL_storeW (fun w' => BitB w'.heap B (some ⟨bs, ps, none⟩) ys.length cap (at' + 1) 0 false ∧ Fr (fun k => k = B) w0 w') rfl rfl rfl sz_3 rfl rfl rfl (hB.ld1) (hB.fz) (⟨hB.set1 (by omega), hF.set (fun _ => rfl) _⟩) ?_
    clear hB hF
    rintro w ⟨hB, hF⟩
    refine RL_nil ?_
    refine hK9 _ _ ?_
    refine CW_region rfl ?_
    refine RL_v rfl rfl (yd_move rfl) ?_
    refine RL_v rfl rfl (yd_nil rfl rfl) ?_
    refine RL_v rfl rfl (yd_field rfl ft_61_1 rfl) ?_
    refine RL_v rfl rfl (yd_load rfl sc_3 rfl (hB.ld1)) ?_
    refine RL_v rfl rfl (yd_add64 rfl rfl rfl (by omega)) ?_
    refine RL_v rfl rfl (yd_nil rfl rfl) ?_
    refine RL_v rfl rfl (yd_field rfl ft_61_1 rfl) ?_
    refine RL_storeW (fun w' => BitB w'.heap B (some ⟨bs, ps, none⟩) ys.length cap (at' + 2) 0 false ∧ Fr (fun k => k = B) w0 w') rfl rfl rfl sz_3 rfl rfl rfl (hB.ld1) (hB.fz) (⟨hB.set1 (by omega), hF.set (fun _ => rfl) _⟩) ?_
    clear hB hF
    rintro w ⟨hB, hF⟩
    refine RL_nil ?_
    refine hK5 _ _ ?_
    refine CW_seq fun K11 hK11 => ?_
    refine CW_region rfl ?_
    refine RL_v rfl rfl (yd_move rfl) ?_
    refine RL_v rfl rfl (yd_assign rfl) ?_
    refine RL_nil ?_
    refine hK11 _ _ ?_
    refine CW_ret ?_
    refine hK _ _ ?_
    exact ⟨rfl, .inr ⟨h8, hB⟩, hF⟩
  · refine RL_v rfl rfl (yd_eq false rfl rfl rfl (decide_eq_false (by omega))) ?_
    refine RL_nil ?_
    refine hK7 _ _ ?_
    refine CW_f rfl ?_
    refine CW_skip ?_
    refine hK5 _ _ ?_
    refine CW_seq fun K12 hK12 => ?_
    refine CW_region rfl ?_
    refine RL_v rfl rfl (yd_move rfl) ?_
    refine RL_v rfl rfl (yd_assign rfl) ?_
    refine RL_nil ?_
    refine hK12 _ _ ?_
    refine CW_ret ?_
    refine hK _ _ ?_
    exact ⟨rfl, .inl ⟨by omega, hB⟩, hF⟩

end Go.Proofs.YtdjilplpbaackaaDoor.Eng
