/-
  FnUciWritten: in every right position each legal move is written by the rules of the universal chess interface as the definition writes it, and what is written is read as the move (a part of the proof).
  Conditions: those of each theorem.
-/
import Derived.Test.YtgnhellfhjoaaaaGreatDoorM01
import Derived.Laws.AppendOwn
import Derived.Laws.OwnMore
set_option linter.unusedVariables false
set_option linter.unusedSimpArgs false
namespace Go.Proofs.YtgnhellfhjoaaaaGreatDoor
open Go Go.RowKit
set_option maxRecDepth 100000
def Bd.kings (B : Bd) (a b : Int) : Bd := { B with wk := a, bk := b }
theorem lastK_succ {f : Int → Bool} {j : Int} (h : 0 ≤ j) : lastK f (j + 1).toNat = if f j then j else lastK f j.toNat := by
 have e : (j + 1).toNat = j.toNat + 1 := by omega
 rw [e]; simp only [lastK]; rw [show ((j.toNat : Nat) : Int) = j from by omega]
theorem bd_kings {B : Bd} {a b a' b' : Int} (h : a = a') (h' : b = b') : Obj.cells (bdCells (B.kings a b)) 135 (0, 0) = .cells (bdCells (B.kings a' b')) 135 (0, 0) := by rw [h, h']
theorem bd_eq {B B' : Bd} (h : B = B') : Obj.cells (bdCells B) 135 (0, 0) = .cells (bdCells B') 135 (0, 0) := by rw [h]
theorem c103n {b : Nat} {B : Bd} {w : World} (hb : At w b (.cells (bdCells B) 135 (0, 0))) :
  Calls Tryz.prog 103 [.pointer (some ⟨b, 0, none⟩), .pointer none].toArray w (fun e w' => e = .returned (.tuple #[]) ∧ Mod [b] w w' ∧ At w' b (.cells (bdCells (kingsB (calcB B))) 135 (0, 0))) := by
 have v0 : Mod [b] w w := Mod.refl _ _
 refine enter (n := 152) Tryz.func103 rfl Tryz.ntmps103 rfl ?_
 refine w_seq ?_
 refine w_quiet (by kernel_rfl) (by kernel_rfl) ?_
 refine zqo 30 [rz 0 b, (1, .pointer none), (4, .int .u64 (bwhite B))] [.cell ⟨b, 0, none⟩ (.int .u64 (B.bb 1)), .cell ⟨b, 1, none⟩ (.int .u64 (B.bb 2)), .cell ⟨b, 2, none⟩ (.int .u64 (B.bb 3)), .cell ⟨b, 3, none⟩ (.int .u64 (B.bb 4)), .cell ⟨b, 4, none⟩ (.int .u64 (B.bb 5)), .cell ⟨b, 5, none⟩ (.int .u64 (B.bb 6))] (fun _ hC => ⟨At.cell (At.on hb hC) rfl, At.cell (At.on hb hC) rfl, At.cell (At.on hb hC) rfl, At.cell (At.on hb hC) rfl, At.cell (At.on hb hC) rfl, At.cell (At.on hb hC) rfl⟩) ?_
 refine q_out (by kernel_rfl) ?_
 intro w1 v2
 have hf3 := At.on hb v2
 have v4 := Mod.trans v0 (Mod.of_nil v2)
 refine n_then ?_
 refine w_seq ?_
 refine w_quiet (by kernel_rfl) (by kernel_rfl) ?_
 refine zqo 30 [rz 0 b, (1, .pointer none), (4, .int .u64 (bwhite B)), (5, .int .u64 (bblack B))] [.cell ⟨b, 6, none⟩ (.int .u64 (B.bb 7)), .cell ⟨b, 7, none⟩ (.int .u64 (B.bb 8)), .cell ⟨b, 8, none⟩ (.int .u64 (B.bb 9)), .cell ⟨b, 9, none⟩ (.int .u64 (B.bb 10)), .cell ⟨b, 10, none⟩ (.int .u64 (B.bb 11)), .cell ⟨b, 11, none⟩ (.int .u64 (B.bb 12))] (fun _ hC => ⟨At.cell (At.on hf3 hC) rfl, At.cell (At.on hf3 hC) rfl, At.cell (At.on hf3 hC) rfl, At.cell (At.on hf3 hC) rfl, At.cell (At.on hf3 hC) rfl, At.cell (At.on hf3 hC) rfl⟩) ?_
 refine q_out (by kernel_rfl) ?_
 intro w5 v6
 have hf7 := At.on hf3 v6
 have v8 := Mod.trans v4 (Mod.of_nil v6)
 refine zn ?_
 refine zs 5 [rz 0 b, (1, .pointer none), (4, .int .u64 (bwhite B)), (5, .int .u64 (bblack B)), (6, .int .u64 (bnot (bor (bwhite B) (bblack B))))] ?_
 refine zx ?_
 refine zs 4 [rz 0 b, (1, .pointer none), (5, .int .u64 (bblack B)), (6, .int .u64 (bnot (bor (bwhite B) (bblack B)))), (72, .int .u64 (bwhite B)), (74, .pointer (some ⟨b, 12, none⟩))] ?_
 refine reg_store b 12 (.int .u64 (bwhite B)) none (by kernel_rfl) hf7 (Nat.le_of_ble_eq_true rfl) rfl ?_
 intro w9 hu10
 have hf11 : At w9 b (.cells (bdCells { B with white := (bwhite B) }) 135 (0, 0)) := hu10.at_
 have v12 := Mod.fresh' v8 hu10.mod (by simp <;> omega)
 refine zx ?_
 refine zs 4 [rz 0 b, (1, .pointer none), (6, .int .u64 (bnot (bor (bwhite B) (bblack B)))), (76, .int .u64 (bblack B)), (78, .pointer (some ⟨b, 13, none⟩))] ?_
 refine reg_store b 13 (.int .u64 (bblack B)) none (by kernel_rfl) hf11 (Nat.le_of_ble_eq_true rfl) rfl ?_
 intro w13 hu14
 have hf15 : At w13 b (.cells (bdCells { { B with white := (bwhite B) } with black := (bblack B) }) 135 (0, 0)) := hu14.at_
 have v16 := Mod.fresh' v12 hu14.mod (by simp <;> omega)
 refine zx ?_
 refine zs 4 [rz 0 b, (1, .pointer none), (80, .int .u64 (bnot (bor (bwhite B) (bblack B)))), (82, .pointer (some ⟨b, 14, none⟩))] ?_
 refine reg_store b 14 (.int .u64 (bnot (bor (bwhite B) (bblack B)))) none (by kernel_rfl) hf15 (Nat.le_of_ble_eq_true rfl) rfl ?_
 intro w17 hu18
 have hf19 : At w17 b (.cells (bdCells { { { B with white := (bwhite B) } with black := (bblack B) } with empty := (bnot (bor (bwhite B) (bblack B))) }) 135 (0, 0)) := hu18.at_
 have v20 := Mod.fresh' v16 hu18.mod (by simp <;> omega)
 refine zz ?_
 refine w_block ?_
 refine zw ?_
 refine zs 3 [rz 0 b, (1, .pointer none), (83, .bool true)] ?_
 refine zz ?_
 refine w_true rfl ?_
 refine zw ?_
 refine zs 3 [rz 0 b, (88, .pointer (some ⟨b, 15, none⟩))] ?_
 refine reg_store b 15 (.int .i8 (-1 : Int)) none (by kernel_rfl) hf19 (Nat.le_of_ble_eq_true rfl) rfl ?_
 intro w21 hu22
 have hf23 : At w21 b (.cells (bdCells { { { { B with white := (bwhite B) } with black := (bblack B) } with empty := (bnot (bor (bwhite B) (bblack B))) } with wk := (-1 : Int) }) 135 (0, 0)) := hu22.at_
 have v24 := Mod.fresh' v20 hu22.mod (by simp <;> omega)
 refine zx ?_
 refine zs 3 [rz 0 b, (91, .pointer (some ⟨b, 16, none⟩))] ?_
 refine reg_store b 16 (.int .i8 (-1 : Int)) none (by kernel_rfl) hf23 (Nat.le_of_ble_eq_true rfl) rfl ?_
 intro w25 hu26
 have hf27 : At w25 b (.cells (bdCells { { { { { B with white := (bwhite B) } with black := (bblack B) } with empty := (bnot (bor (bwhite B) (bblack B))) } with wk := (-1 : Int) } with bk := (-1 : Int) }) 135 (0, 0)) := hu26.at_
 have v28 := Mod.fresh' v24 hu26.mod (by simp <;> omega)
 refine ze ?_
 have hf29 : At w25 b (.cells (bdCells ((calcB B).kings (-1 : Int) (-1 : Int))) 135 (0, 0)) := at_cast hf27 rfl
 refine zn ?_
 refine zs 1 [rz 0 b, iz 92 0] ?_
 refine zz ?_
 refine w_block ?_
 refine w_loop (γ := Int) (fun g30 => (64 - g30).toNat) (fun (g30 : Int) => [(0, pz b), (92, .int .i64 g30)]) (fun (g30 : Int) w_ => (0 ≤ g30 ∧ g30 ≤ 64) ∧ Mod [b] w25 w_ ∧ At w_ b (.cells (bdCells ((calcB B).kings (lastK (fun i => occB (B.bb 1) i) g30.toNat) (lastK (fun i => !occB (B.bb 1) i && occB (B.bb 7) i) g30.toNat))) 135 (0, 0)) ∧ (True)) 0 (hold_keep [0, 92] (by kernel_rfl)) ⟨by constructor <;> (try simp only []) <;> omega, Mod.refl _ _, hf29, trivial⟩ ?_
 rintro g30 w31 ⟨⟨h33, h34⟩, v32, hf36, hx35⟩
 have v37 := Mod.fresh' v28 v32 (by simp <;> omega)
 refine zw ?_
 refine zs 1 [rz 0 b, iz 92 g30, (93, .bool (decide (g30 < 64)))] ?_
 refine zz ?_
 refine w_seq ?_
 refine zc (fun hc38 => ?_) fun hc38 => ?_
 ·have y38 := of_decide_eq_true hc38
  refine w_skip ?_
  refine n_then ?_
  refine w_seq ?_
  refine w_block ?_
  refine zw ?_
  refine zs 2 [rz 0 b, iz 7 g30, iz 92 g30] ?_
  refine zx ?_
  refine zs 3 [rz 0 b, (8, .int .i8 (IntKind.i8.wrap g30)), iz 92 g30] ?_
  refine ze ?_
  rw [(show ((IntKind.i8.wrap g30) : Int) = g30 from i8_in' (by omega) (by omega))]
  refine zn ?_
  refine zo 5 [rz 0 b, (8, .int .i8 g30), iz 92 g30, (100, .int .u64 (B.bb 1)), (101, .int .i8 g30)] [.cell ⟨b, 0, none⟩ (.int .u64 (B.bb 1))] (At.cell hf36 rfl) ?_
  refine zk (some 102) (c98 (B.bb 1) g30 w31) ?_
  intro w39 v40
  have hf41 := At.on hf36 v40
  have v43 := Mod.trans v32 (Mod.of_nil v40)
  refine zz ?_
  refine zc (fun hc44 => ?_) fun hc44 => ?_
  ·refine w_region ?_
   refine zs 4 [rz 0 b, iz 92 g30, (104, .int .i8 g30), (106, .pointer (some ⟨b, 15, none⟩))] ?_
   refine reg_store b 15 (.int .i8 g30) none (by kernel_rfl) hf41 (Nat.le_of_ble_eq_true rfl) rfl ?_
   intro w45 hu46
   have hf47 : At w45 b (.cells (bdCells ((calcB B).kings g30 (lastK (fun i => !occB (B.bb 1) i && occB (B.bb 7) i) g30.toNat))) 135 (0, 0)) := hu46.at_
   have v49 := Mod.fresh' v43 hu46.mod (by simp <;> omega)
   refine ze ?_
   refine n_block ?_
   refine n_then ?_
   refine w_region ?_
   refine zs 2 [rz 0 b, iz 92 (IntKind.i64.wrap (g30 + 1))] ?_
   refine ze ?_
   rw [zi (g30 + 1) (by omega) (by omega)]
   have hf50 : At w45 b (.cells (bdCells ((calcB B).kings (lastK (fun i => occB (B.bb 1) i) ((g30 + 1)).toNat) (lastK (fun i => !occB (B.bb 1) i && occB (B.bb 7) i) ((g30 + 1)).toNat))) 135 (0, 0)) := at_cast hf47 (bd_kings (by rw [lastK_succ (by omega)]; simp only [hc44]; simp) (by rw [lastK_succ (by omega)]; simp only [hc44]; simp))
   exact l_back (g30 + 1) [0, 92] (by kernel_rfl) (by omega) ⟨by constructor <;> (try simp only []) <;> omega, v49, hf50, trivial⟩
  refine zw ?_
  refine zo 5 [rz 0 b, (8, .int .i8 g30), iz 92 g30, (110, .int .u64 (B.bb 7)), (111, .int .i8 g30)] [.cell ⟨b, 6, none⟩ (.int .u64 (B.bb 7))] (At.cell hf41 rfl) ?_
  refine zk (some 112) (c98 (B.bb 7) g30 w39) ?_
  intro w51 v52
  have hf53 := At.on hf41 v52
  have v55 := Mod.trans v43 (Mod.of_nil v52)
  refine zz ?_
  refine zc (fun hc56 => ?_) fun hc56 => ?_
  ·refine w_region ?_
   refine zs 4 [rz 0 b, iz 92 g30, (114, .int .i8 g30), (116, .pointer (some ⟨b, 16, none⟩))] ?_
   refine reg_store b 16 (.int .i8 g30) none (by kernel_rfl) hf53 (Nat.le_of_ble_eq_true rfl) rfl ?_
   intro w57 hu58
   have hf59 : At w57 b (.cells (bdCells ((calcB B).kings (lastK (fun i => occB (B.bb 1) i) g30.toNat) g30)) 135 (0, 0)) := hu58.at_
   have v61 := Mod.fresh' v55 hu58.mod (by simp <;> omega)
   refine ze ?_
   refine n_block ?_
   refine n_then ?_
   refine w_region ?_
   refine zs 2 [rz 0 b, iz 92 (IntKind.i64.wrap (g30 + 1))] ?_
   refine ze ?_
   rw [zi (g30 + 1) (by omega) (by omega)]
   have hf62 : At w57 b (.cells (bdCells ((calcB B).kings (lastK (fun i => occB (B.bb 1) i) ((g30 + 1)).toNat) (lastK (fun i => !occB (B.bb 1) i && occB (B.bb 7) i) ((g30 + 1)).toNat))) 135 (0, 0)) := at_cast hf59 (bd_kings (by rw [lastK_succ (by omega)]; simp only [hc44, hc56]; simp) (by rw [lastK_succ (by omega)]; simp only [hc44, hc56]; simp))
   exact l_back (g30 + 1) [0, 92] (by kernel_rfl) (by omega) ⟨by constructor <;> (try simp only []) <;> omega, v61, hf62, trivial⟩
  refine w_skip ?_
  refine n_block ?_
  refine n_then ?_
  refine w_region ?_
  refine zs 2 [rz 0 b, iz 92 (IntKind.i64.wrap (g30 + 1))] ?_
  refine ze ?_
  rw [zi (g30 + 1) (by omega) (by omega)]
  have hf63 : At w51 b (.cells (bdCells ((calcB B).kings (lastK (fun i => occB (B.bb 1) i) ((g30 + 1)).toNat) (lastK (fun i => !occB (B.bb 1) i && occB (B.bb 7) i) ((g30 + 1)).toNat))) 135 (0, 0)) := at_cast hf53 (bd_kings (by rw [lastK_succ (by omega)]; simp only [hc44, hc56]; simp) (by rw [lastK_succ (by omega)]; simp only [hc44, hc56]; simp))
  exact l_back (g30 + 1) [0, 92] (by kernel_rfl) (by omega) ⟨by constructor <;> (try simp only []) <;> omega, v55, hf63, trivial⟩
 have y38 := of_decide_eq_false hc38
 refine w_exit ?_
 refine x_then ?_
 refine x_then ?_
 refine x_hit ?_
 refine n_block ?_
 exact end0 Tryz.results103 (⟨rfl, v37, at_cast hf36 (by rw [show g30 = 64 from by omega]; rfl)⟩)
theorem c103m {b : Nat} {B : Bd} {w : World} (hb : At w b (.cells (bdCells B) 135 (0, 0))) {m : Nat} {pos : Value} {M : Mv} (hm : At w m (.cells (mvCells pos M) 98 (0, 0))) :
  Calls Tryz.prog 103 [.pointer (some ⟨b, 0, none⟩), .pointer (some ⟨m, 0, none⟩)].toArray w (fun e w' => e = .returned (.tuple #[]) ∧ Mod [b] w w' ∧ At w' b (.cells (bdCells (moveK (calcB B) M)) 135 (0, 0))) := by
 have v0 : Mod [b] w w := Mod.refl _ _
 refine enter (n := 152) Tryz.func103 rfl Tryz.ntmps103 rfl ?_
 refine w_seq ?_
 refine w_quiet (by kernel_rfl) (by kernel_rfl) ?_
 refine zqo 30 [rz 0 b, rz 1 m, (4, .int .u64 (bwhite B))] [.cell ⟨b, 0, none⟩ (.int .u64 (B.bb 1)), .cell ⟨b, 1, none⟩ (.int .u64 (B.bb 2)), .cell ⟨b, 2, none⟩ (.int .u64 (B.bb 3)), .cell ⟨b, 3, none⟩ (.int .u64 (B.bb 4)), .cell ⟨b, 4, none⟩ (.int .u64 (B.bb 5)), .cell ⟨b, 5, none⟩ (.int .u64 (B.bb 6))] (fun _ hC => ⟨At.cell (At.on hb hC) rfl, At.cell (At.on hb hC) rfl, At.cell (At.on hb hC) rfl, At.cell (At.on hb hC) rfl, At.cell (At.on hb hC) rfl, At.cell (At.on hb hC) rfl⟩) ?_
 refine q_out (by kernel_rfl) ?_
 intro w1 v2
 have hf3 := At.on hb v2
 have hf4 := At.on hm v2
 have v5 := Mod.trans v0 (Mod.of_nil v2)
 refine n_then ?_
 refine w_seq ?_
 refine w_quiet (by kernel_rfl) (by kernel_rfl) ?_
 refine zqo 30 [rz 0 b, rz 1 m, (4, .int .u64 (bwhite B)), (5, .int .u64 (bblack B))] [.cell ⟨b, 6, none⟩ (.int .u64 (B.bb 7)), .cell ⟨b, 7, none⟩ (.int .u64 (B.bb 8)), .cell ⟨b, 8, none⟩ (.int .u64 (B.bb 9)), .cell ⟨b, 9, none⟩ (.int .u64 (B.bb 10)), .cell ⟨b, 10, none⟩ (.int .u64 (B.bb 11)), .cell ⟨b, 11, none⟩ (.int .u64 (B.bb 12))] (fun _ hC => ⟨At.cell (At.on hf3 hC) rfl, At.cell (At.on hf3 hC) rfl, At.cell (At.on hf3 hC) rfl, At.cell (At.on hf3 hC) rfl, At.cell (At.on hf3 hC) rfl, At.cell (At.on hf3 hC) rfl⟩) ?_
 refine q_out (by kernel_rfl) ?_
 intro w6 v7
 have hf8 := At.on hf3 v7
 have hf9 := At.on hf4 v7
 have v10 := Mod.trans v5 (Mod.of_nil v7)
 refine zn ?_
 refine zs 5 [rz 0 b, rz 1 m, (4, .int .u64 (bwhite B)), (5, .int .u64 (bblack B)), (6, .int .u64 (bnot (bor (bwhite B) (bblack B))))] ?_
 refine zx ?_
 refine zs 4 [rz 0 b, rz 1 m, (5, .int .u64 (bblack B)), (6, .int .u64 (bnot (bor (bwhite B) (bblack B)))), (72, .int .u64 (bwhite B)), (74, .pointer (some ⟨b, 12, none⟩))] ?_
 refine reg_store b 12 (.int .u64 (bwhite B)) none (by kernel_rfl) hf8 (Nat.le_of_ble_eq_true rfl) rfl ?_
 intro w11 hu12
 have hf13 : At w11 b (.cells (bdCells { B with white := (bwhite B) }) 135 (0, 0)) := hu12.at_
 have hf14 := At.keep hf9 hu12.mod (not_mem1 (At.ne hf9 hf8 rfl))
 have v15 := Mod.fresh' v10 hu12.mod (by simp <;> omega)
 refine zx ?_
 refine zs 4 [rz 0 b, rz 1 m, (6, .int .u64 (bnot (bor (bwhite B) (bblack B)))), (76, .int .u64 (bblack B)), (78, .pointer (some ⟨b, 13, none⟩))] ?_
 refine reg_store b 13 (.int .u64 (bblack B)) none (by kernel_rfl) hf13 (Nat.le_of_ble_eq_true rfl) rfl ?_
 intro w16 hu17
 have hf18 : At w16 b (.cells (bdCells { { B with white := (bwhite B) } with black := (bblack B) }) 135 (0, 0)) := hu17.at_
 have hf19 := At.keep hf14 hu17.mod (not_mem1 (At.ne hf14 hf13 rfl))
 have v20 := Mod.fresh' v15 hu17.mod (by simp <;> omega)
 refine zx ?_
 refine zs 4 [rz 0 b, rz 1 m, (80, .int .u64 (bnot (bor (bwhite B) (bblack B)))), (82, .pointer (some ⟨b, 14, none⟩))] ?_
 refine reg_store b 14 (.int .u64 (bnot (bor (bwhite B) (bblack B)))) none (by kernel_rfl) hf18 (Nat.le_of_ble_eq_true rfl) rfl ?_
 intro w21 hu22
 have hf23 : At w21 b (.cells (bdCells { { { B with white := (bwhite B) } with black := (bblack B) } with empty := (bnot (bor (bwhite B) (bblack B))) }) 135 (0, 0)) := hu22.at_
 have hf24 := At.keep hf19 hu22.mod (not_mem1 (At.ne hf19 hf18 rfl))
 have v25 := Mod.fresh' v20 hu22.mod (by simp <;> omega)
 refine ze ?_
 have hf26 : At w21 b (.cells (bdCells ((calcB B).kings B.wk B.bk)) 135 (0, 0)) := at_cast hf23 rfl
 refine n_then ?_
 refine w_block ?_
 refine zw ?_
 refine zs 3 [rz 0 b, rz 1 m, (83, .bool false)] ?_
 refine zz ?_
 refine w_false rfl ?_
 refine w_seq ?_
 refine w_quiet (by kernel_rfl) (by kernel_rfl) ?_
 refine zqo 10 [rz 0 b, rz 1 m, (118, .bool (M.s1 == B.wk))] [.cell ⟨m, 8, none⟩ (.int .i8 M.s1), .cell ⟨b, 15, none⟩ (.int .i8 B.wk)] (fun _ hC => ⟨At.cell (At.on hf24 hC) rfl, At.cell (At.on hf26 hC) rfl⟩) ?_
 refine q_out (by kernel_rfl) ?_
 intro w27 v28
 have hf29 := At.on hf24 v28
 have hf30 := At.on hf26 v28
 have v31 := Mod.trans v25 (Mod.of_nil v28)
 refine n_then ?_
 refine zc (fun hc32 => ?_) fun hc32 => ?_
 ·have y32 := eq_of_beq hc32
  refine w_region ?_
  refine zo 7 [(132, .int .i8 M.s2), (134, .pointer (some ⟨b, 15, none⟩))] [.cell ⟨m, 9, none⟩ (.int .i8 M.s2)] (At.cell hf29 rfl) ?_
  refine reg_store b 15 (.int .i8 M.s2) none (by kernel_rfl) hf30 (Nat.le_of_ble_eq_true rfl) rfl ?_
  intro w33 hu34
  have hf35 : At w33 b (.cells (bdCells ((calcB B).kings M.s2 B.bk)) 135 (0, 0)) := hu34.at_
  have v37 := Mod.fresh' v31 hu34.mod (by simp <;> omega)
  refine ze ?_
  refine n_block ?_
  exact end0 Tryz.results103 (⟨rfl, v37, at_cast hf35 (bd_eq (by rw [moveK, if_pos (show M.s1 = (calcB B).wk from y32)]; try rfl))⟩)
 have y32 := ne_of_beq_false hc32
 refine w_seq ?_
 refine w_quiet (by kernel_rfl) (by kernel_rfl) ?_
 refine zqo 10 [rz 0 b, rz 1 m, (135, .bool (M.s1 == B.bk))] [.cell ⟨m, 8, none⟩ (.int .i8 M.s1), .cell ⟨b, 16, none⟩ (.int .i8 B.bk)] (fun _ hC => ⟨At.cell (At.on hf29 hC) rfl, At.cell (At.on hf30 hC) rfl⟩) ?_
 refine q_out (by kernel_rfl) ?_
 intro w38 v39
 have hf40 := At.on hf29 v39
 have hf41 := At.on hf30 v39
 have v42 := Mod.trans v31 (Mod.of_nil v39)
 refine n_then ?_
 refine zc (fun hc43 => ?_) fun hc43 => ?_
 ·have y43 := eq_of_beq hc43
  refine w_region ?_
  refine zo 7 [(149, .int .i8 M.s2), (151, .pointer (some ⟨b, 16, none⟩))] [.cell ⟨m, 9, none⟩ (.int .i8 M.s2)] (At.cell hf40 rfl) ?_
  refine reg_store b 16 (.int .i8 M.s2) none (by kernel_rfl) hf41 (Nat.le_of_ble_eq_true rfl) rfl ?_
  intro w44 hu45
  have hf46 : At w44 b (.cells (bdCells ((calcB B).kings B.wk M.s2)) 135 (0, 0)) := hu45.at_
  have v48 := Mod.fresh' v42 hu45.mod (by simp <;> omega)
  refine ze ?_
  refine n_block ?_
  exact end0 Tryz.results103 (⟨rfl, v48, at_cast hf46 (bd_eq (by rw [moveK, if_neg (show ¬ M.s1 = (calcB B).wk from y32), if_pos (show M.s1 = (calcB B).bk from y43)]; try rfl))⟩)
 have y43 := ne_of_beq_false hc43
 refine w_skip ?_
 refine n_block ?_
 exact end0 Tryz.results103 (⟨rfl, v42, at_cast hf41 (bd_eq (by rw [moveK, if_neg (show ¬ M.s1 = (calcB B).wk from y32), if_neg (show ¬ M.s1 = (calcB B).bk from y43)]; try rfl))⟩)
theorem c69 {b : Nat} {B : Bd} {w : World} (hb : At w b (.cells (bdCells B) 135 (0, 0))) :
  Calls Tryz.prog 69 [pz b].toArray w (fun e w' => ∃ b', e = .returned (.pointer (some ⟨b', 0, none⟩)) ∧ Mod [] w w' ∧ At w' b' (.cells (bdCells B) 135 (0, 0)) ∧ w.heap.size ≤ b') := by
 have v0 : Mod [] w w := Mod.refl _ _
 refine enter (n := 73) Tryz.func69 rfl Tryz.ntmps69 rfl ?_
 refine zw ?_
 refine zs 1 [rz 0 b] ?_
 refine zz ?_
 refine w_seq ?_
 refine w_tail 69 (by kernel_rfl) (by kernel_rfl) ?_
 refine zqo 69 [(71, .agg #[.int .u64 (B.bb 1), .int .u64 (B.bb 2), .int .u64 (B.bb 3), .int .u64 (B.bb 4), .int .u64 (B.bb 5), .int .u64 (B.bb 6), .int .u64 (B.bb 7), .int .u64 (B.bb 8), .int .u64 (B.bb 9), .int .u64 (B.bb 10), .int .u64 (B.bb 11), .int .u64 (B.bb 12), .int .u64 B.white, .int .u64 B.black, .int .u64 B.empty, .int .i8 B.wk, .int .i8 B.bk])] [.cell ⟨b, 12, none⟩ (.int .u64 B.white), .cell ⟨b, 13, none⟩ (.int .u64 B.black), .cell ⟨b, 14, none⟩ (.int .u64 B.empty), .cell ⟨b, 15, none⟩ (.int .i8 B.wk), .cell ⟨b, 16, none⟩ (.int .i8 B.bk), .cell ⟨b, 0, none⟩ (.int .u64 (B.bb 1)), .cell ⟨b, 1, none⟩ (.int .u64 (B.bb 2)), .cell ⟨b, 2, none⟩ (.int .u64 (B.bb 3)), .cell ⟨b, 3, none⟩ (.int .u64 (B.bb 4)), .cell ⟨b, 4, none⟩ (.int .u64 (B.bb 5)), .cell ⟨b, 5, none⟩ (.int .u64 (B.bb 6)), .cell ⟨b, 6, none⟩ (.int .u64 (B.bb 7)), .cell ⟨b, 7, none⟩ (.int .u64 (B.bb 8)), .cell ⟨b, 8, none⟩ (.int .u64 (B.bb 9)), .cell ⟨b, 9, none⟩ (.int .u64 (B.bb 10)), .cell ⟨b, 10, none⟩ (.int .u64 (B.bb 11)), .cell ⟨b, 11, none⟩ (.int .u64 (B.bb 12))] (fun _ hC => ⟨At.cell (At.on hb hC) rfl, At.cell (At.on hb hC) rfl, At.cell (At.on hb hC) rfl, At.cell (At.on hb hC) rfl, At.cell (At.on hb hC) rfl, At.cell (At.on hb hC) rfl, At.cell (At.on hb hC) rfl, At.cell (At.on hb hC) rfl, At.cell (At.on hb hC) rfl, At.cell (At.on hb hC) rfl, At.cell (At.on hb hC) rfl, At.cell (At.on hb hC) rfl, At.cell (At.on hb hC) rfl, At.cell (At.on hb hC) rfl, At.cell (At.on hb hC) rfl, At.cell (At.on hb hC) rfl, At.cell (At.on hb hC) rfl⟩) ?_
 refine q_end (by kernel_rfl) (fun a ha w1 v2 => (?_ : Reg _ _ _ _ _ 69 _ w1) a ha)
 have hf3 := At.on hb v2
 have v4 := zt v0 v2
 refine reg_alloc (bdCells B) 135 (some 72) (by kernel_rfl) ?_
 intro b5 w6 hn7
 have ne8 : b ≠ b5 := hn7.ne hf3
 have hb9 := Nat.le_trans v4.size hn7.base
 have v10 := hn7.mod
 have v12 := zt v4 v10
 have hf13 := hn7.at_
 refine zs 1 [rz 2 b5] ?_
 refine zz ?_
 refine w_ret ?_
 exact ret1 rfl rfl (⟨_, rfl, v12, hf13, by omega⟩)
theorem c145 {p b : Nat} {vm : Value} {S : Ps} {w : World} (hp : At w p (.cells (psCells b vm S) 110 (0, 0))) {B : Bd} (hb : At w b (.cells (bdCells B) 135 (0, 0))) :
  Calls Tryz.prog 145 [pz p].toArray w (fun e w' => ∃ p' b', e = .returned (.pointer (some ⟨p', 0, none⟩)) ∧ Mod [] w w' ∧ At w' p' (.cells (psCells b' (.slice none 0 0) S) 110 (0, 0)) ∧ At w' b' (.cells (bdCells B) 135 (0, 0)) ∧ w.heap.size ≤ p' ∧ w.heap.size ≤ b') := by
 have v0 : Mod [] w w := Mod.refl _ _
 refine enter (n := 34) Tryz.func145 rfl Tryz.ntmps145 rfl ?_
 refine zw ?_
 refine zs 1 [rz 0 p] ?_
 refine zz ?_
 refine w_seq ?_
 refine w_tail1 29 4 [0, 1, 2, 3, 5, 6, 7, 8, 9, 10, 11, 12, 13, 14, 15, 16, 17, 18, 19, 20, 21, 22, 23, 24, 25, 26, 27, 28] (by kernel_rfl) (by kernel_rfl) ?_
 refine zro 28 [rz 6 b, (11, .int .i8 S.turn), (15, .string S.castle), (19, .int .i8 S.ep), iz 23 S.half, iz 27 S.full, (31, .bool S.chk)] [.cell ⟨p, 0, none⟩ (pz b), .cell ⟨p, 5, none⟩ (.int .i8 S.turn), .cell ⟨p, 1, none⟩ (.string S.castle), .cell ⟨p, 6, none⟩ (.int .i8 S.ep), .cell ⟨p, 3, none⟩ (.int .i64 S.half), .cell ⟨p, 4, none⟩ (.int .i64 S.full), .cell ⟨p, 7, none⟩ (.bool S.chk)] (fun _ hC => ⟨At.cell (At.on hp hC) rfl, At.cell (At.on hp hC) rfl, At.cell (At.on hp hC) rfl, At.cell (At.on hp hC) rfl, At.cell (At.on hp hC) rfl, At.cell (At.on hp hC) rfl, At.cell (At.on hp hC) rfl⟩) ?_
 refine re_end (by kernel_rfl) (fun a ha w1 v2 => (?_ : EReg _ _ _ _ _ _ 29 4 _ w1) a ha)
 have hf3 := At.on hp v2
 have hf4 := At.on hb v2
 have v5 := zt v0 v2
 refine e_call 69 [pz b] (some 7) (by kernel_rfl) v2 (c69 hf4) ?_
 rintro _ w6 ⟨b8, rfl, v7, hf9, hb10⟩; refine ⟨_, rfl, v7, ?_⟩
 have hb11 := Nat.le_trans v5.size hb10
 have hf12 := At.on hf3 v7
 have v14 := zt v5 v7
 intro w15 v16
 have hf17 := At.on hf12 v16
 have hf19 := At.on hf9 v16
 have v20 := zt v14 v16
 refine zs 1 [(32, .agg #[pz b8, .string S.castle, .slice none 0 0, .int .i64 S.half, .int .i64 S.full, .int .i8 S.turn, .int .i8 S.ep, .bool S.chk])] ?_
 refine reg_alloc (psCells b8 (.slice none 0 0) S) 110 (some 33) (by kernel_rfl) ?_
 intro b21 w22 hn23
 have ne24 : p ≠ b21 := hn23.ne hf17
 have hb25 := Nat.le_trans v20.size hn23.base
 have v26 := hn23.mod
 have hf29 := At.on hf19 v26
 have v30 := zt v20 v26
 have hf31 := hn23.at_
 refine zs 1 [rz 2 b21] ?_
 refine ze ?_
 refine only_n ?_
 refine n_then ?_
 refine w_ret ?_
 exact ret1 rfl rfl (⟨_, _, rfl, v30, hf31, hf29, by omega, by omega⟩)
def mvBB (M : Mv) (x : Int) : Int :=
 bif occB x M.s1 then bor (band (band x (bnot (bbSq M.s2))) (bnot (bbSq M.s1))) (bbSq M.s2) else band x (bnot (bbSq M.s2))
def updTo (B : Bd) (M : Mv) (j : Int) : Bd := { B with bb := fun k => if 1 ≤ k ∧ (k : Int) ≤ j then mvBB M (B.bb k) else B.bb k }
theorem Bd.of_nat {B : Bd} {j : Int} (h : 0 ≤ j) (h' : j < 12) : B.of (j + 1) = B.bb (j + 1).toNat := by
 unfold Bd.of; rw [if_pos (by omega)]
theorem of_updTo {B : Bd} {M : Mv} {j : Int} (h : 0 ≤ j) (h' : j < ((12 : Nat) : Int)) : Bd.of (updTo B M j) (j + 1) = Bd.of B (j + 1) := by
 have h' : j < 12 := h'
 rw [Bd.of_nat h h', Bd.of_nat h h']; show (if _ then _ else _) = _; rw [if_neg (by omega)]
theorem of_set {B : Bd} {j v : Int} (h : 0 ≤ j) (h' : j < ((12 : Nat) : Int)) : Bd.of (Bd.set B (j + 1).toNat v) (j + 1) = v := by
 have h' : j < 12 := h'
 rw [Bd.of_nat h h']; simp [Bd.set]
theorem updTo_set {B : Bd} {M : Mv} {j : Int} (h : 0 ≤ j) (h' : j < ((12 : Nat) : Int)) : Bd.set (updTo B M j) (j + 1).toNat (mvBB M (Bd.of B (j + 1))) = updTo B M (j + 1) := by
 have h' : j < 12 := h'
 rw [Bd.of_nat h h']
 simp only [Bd.set, updTo]
 congr 1; funext k
 by_cases e : k = (j + 1).toNat
 ·subst e; rw [if_pos rfl, if_pos (by omega)]
 rw [if_neg e]
 by_cases e2 : 1 ≤ k ∧ (k : Int) ≤ j
 ·rw [if_pos e2, if_pos (by omega)]
 rw [if_neg e2, if_neg (by omega)]
theorem set_set {B : Bd} {k : Nat} {u v : Int} : Bd.set (Bd.set B k u) k v = Bd.set B k v := by
 simp only [Bd.set]; congr 1; funext j; by_cases e : j = k <;> simp [e]
def shl8 (x : Int) : Int := IntKind.u64.wrap (x * 2 ^ (min (8 : Int).toNat IntKind.u64.bits))
def shr8 (x : Int) : Int := x.fdiv (2 ^ (min (8 : Int).toNat IntKind.u64.bits))
def updPromo (M : Mv) (p1 : Int) (B : Bd) : Bd :=
 bif M.promo != (0 : Int) then
  Bd.set (Bd.set B p1.toNat (band (Bd.of B p1) (bnot (bbSq M.s2)))) (newP M.promo (pColor p1)).toNat
   (bor (Bd.of (Bd.set B p1.toNat (band (Bd.of B p1) (bnot (bbSq M.s2)))) (newP M.promo (pColor p1))) (bbSq M.s2))
 else B
def updEP (M : Mv) (p1 : Int) (B : Bd) : Bd :=
 bif hasTag M (8 : Int) then (bif pColor p1 == (1 : Int) then Bd.set B 12 (band (bnot (shl8 (bbSq M.s2))) (B.bb 12)) else Bd.set B 6 (band (bnot (shr8 (bbSq M.s2))) (B.bb 6))) else B
def rook (B : Bd) (k : Nat) (a b : Int) : Bd := Bd.set B k (bor (band (B.bb k) (bnot (bbSq a))) (bbSq b))
def updCastle (M : Mv) (p1 : Int) (B : Bd) : Bd :=
 bif (pColor p1 == (1 : Int)) && (hasTag M (1 : Int)) then rook B 3 (7 : Int) (5 : Int) else
 bif (pColor p1 == (1 : Int)) && (hasTag M (2 : Int)) then rook B 3 (0 : Int) (3 : Int) else
 bif (pColor p1 == (2 : Int)) && (hasTag M (1 : Int)) then rook B 9 (63 : Int) (61 : Int) else
 bif (pColor p1 == (2 : Int)) && (hasTag M (2 : Int)) then rook B 9 (56 : Int) (59 : Int) else B
def updB (B : Bd) (M : Mv) : Bd := moveK (calcB (updCastle M (pieceAt B M.s1) (updEP M (pieceAt B M.s1) (updPromo M (pieceAt B M.s1) (updTo B M 12))))) M
theorem c75 {c : GC} {b : Nat} {B : Bd} {w : World} (hb : At w b (.cells (bdCells B) 135 (0, 0))) {m : Nat} {pos : Value} {M : Mv} (hm : At w m (.cells (mvCells pos M) 98 (0, 0))) (hG : Glob c w) (hs : 0 ≤ M.s1 ∧ M.s1 ≤ 63) (hs2 : 0 ≤ M.s2 ∧ M.s2 ≤ 63) (hp1 : 1 ≤ pieceAt B M.s1 ∧ pieceAt B M.s1 ≤ 12) (hcol : pColor (pieceAt B M.s1) = 1 ∨ pColor (pieceAt B M.s1) = 2) (hpro : M.promo ≠ 0 → 1 ≤ M.promo ∧ M.promo ≤ 6) (hnew : M.promo ≠ 0 → 1 ≤ newP M.promo (pColor (pieceAt B M.s1)) ∧ newP M.promo (pColor (pieceAt B M.s1)) ≤ 12) (hbase : c.base ≤ b) :
  Calls Tryz.prog 75 [.pointer (some ⟨b, 0, none⟩), .pointer (some ⟨m, 0, none⟩)].toArray w (fun e w' => e = .returned (.tuple #[]) ∧ Mod [b] w w' ∧ At w' b (.cells (bdCells (updB B M)) 135 (0, 0))) := by
 have v0 : Mod [b] w w := Mod.refl _ _
 refine enter (n := 213) Tryz.func75 rfl Tryz.ntmps75 rfl ?_
 refine zw ?_
 refine zo 5 [rz 0 b, rz 1 m, rz 13 b, (17, .int .i8 M.s1)] [.cell ⟨m, 8, none⟩ (.int .i8 M.s1)] (At.cell hm rfl) ?_
 refine zk (some 18) (c72 hb hG M.s1) ?_
 intro w1 v2
 have hf3 := At.on hb v2
 have hf4 := At.on hm v2
 have z5 := Glob.on hG v2
 have v6 := Mod.trans v0 (Mod.of_nil v2)
 refine zs 1 [rz 0 b, rz 1 m, (4, .int .i8 (pieceAt B M.s1))] ?_
 refine zx ?_
 refine zo 4 [rz 0 b, rz 1 m, (4, .int .i8 (pieceAt B M.s1)), (22, .int .i8 M.s1)] [.cell ⟨m, 8, none⟩ (.int .i8 M.s1)] (At.cell hf4 rfl) ?_
 refine zk (some 23) (c99 M.s1 w1 (by omega) (by omega)) ?_
 intro w7 v8
 have hf9 := At.on hf3 v8
 have hf10 := At.on hf4 v8
 have z11 := Glob.on z5 v8
 have v12 := Mod.trans v6 (Mod.of_nil v8)
 refine zs 1 [rz 0 b, rz 1 m, (4, .int .i8 (pieceAt B M.s1)), (5, .int .u64 (bbSq M.s1))] ?_
 refine zx ?_
 refine zo 4 [rz 0 b, rz 1 m, (4, .int .i8 (pieceAt B M.s1)), (5, .int .u64 (bbSq M.s1)), (27, .int .i8 M.s2)] [.cell ⟨m, 9, none⟩ (.int .i8 M.s2)] (At.cell hf10 rfl) ?_
 refine zk (some 28) (c99 M.s2 w7 (by omega) (by omega)) ?_
 intro w13 v14
 have hf15 := At.on hf9 v14
 have hf16 := At.on hf10 v14
 have z17 := Glob.on z11 v14
 have v18 := Mod.trans v12 (Mod.of_nil v14)
 refine zs 1 [rz 0 b, rz 1 m, (4, .int .i8 (pieceAt B M.s1)), (5, .int .u64 (bbSq M.s1)), (6, .int .u64 (bbSq M.s2))] ?_
 refine zz ?_
 refine w_seq ?_
 refine zw ?_
 refine zo 3 [rz 0 b, rz 1 m, (4, .int .i8 (pieceAt B M.s1)), (5, .int .u64 (bbSq M.s1)), (6, .int .u64 (bbSq M.s2)), (29, .slice (some ⟨c.ap, c.apo, none⟩) 12 12), iz 30 ((12 : Nat) : Int), iz 31 0] [.cell ⟨0, 0, none⟩ (.slice (some ⟨c.ap, c.apo, none⟩) 12 12)] (Glob.g0 z17) ?_
 refine zz ?_
 refine w_block ?_
 refine w_loop (γ := Int) (fun g19 => (12 - g19).toNat) (fun (g19 : Int) => [(0, pz b), (1, pz m), (4, .int .i8 (pieceAt B M.s1)), (5, .int .u64 (bbSq M.s1)), (6, .int .u64 (bbSq M.s2)), (29, .slice (some ⟨c.ap, c.apo, none⟩) 12 12), (30, .int .i64 ((12 : Nat) : Int)), (31, .int .i64 g19)]) (fun (g19 : Int) w_ => (0 ≤ g19 ∧ g19 ≤ 12) ∧ Mod [b] w13 w_ ∧ At w_ b (.cells (bdCells (updTo B M g19)) 135 (0, 0)) ∧ (True)) 0 (hold_keep [0, 1, 4, 5, 6, 29, 30, 31] (by kernel_rfl)) ⟨by constructor <;> (try simp only []) <;> omega, Mod.refl _ _, hf15, trivial⟩ ?_
 rintro g19 w20 ⟨⟨h22, h23⟩, v21, hf25, hx24⟩
 have hf26 := At.keep hf16 v21 (not_mem1 (At.ne hf16 hf15 rfl))
 have z27 := Glob.keep z17 v21 (by simp <;> omega)
 have v28 := Mod.fresh' v18 v21 (by simp <;> omega)
 refine zw ?_
 refine zs 1 [rz 0 b, rz 1 m, (4, .int .i8 (pieceAt B M.s1)), (5, .int .u64 (bbSq M.s1)), (6, .int .u64 (bbSq M.s2)), (29, .slice (some ⟨c.ap, c.apo, none⟩) 12 12), iz 30 ((12 : Nat) : Int), iz 31 g19, (32, .bool (decide (g19 < ((12 : Nat) : Int))))] ?_
 refine zz ?_
 refine w_seq ?_
 refine zc (fun hc29 => ?_) fun hc29 => ?_
 ·have y29 := of_decide_eq_true hc29
  refine w_skip ?_
  refine n_then ?_
  refine w_seq ?_
  refine w_block ?_
  refine zw ?_
  refine zo 3 [rz 0 b, rz 1 m, (4, .int .i8 (pieceAt B M.s1)), (5, .int .u64 (bbSq M.s1)), (6, .int .u64 (bbSq M.s2)), (8, .int .i8 (((g19.toNat * 1 : Nat) : Int) + 1)), (29, .slice (some ⟨c.ap, c.apo, none⟩) 12 12), iz 30 ((12 : Nat) : Int), iz 31 g19] [.prop (0 ≤ g19 ∧ g19 < ((12 : Nat) : Int)), .cell ⟨c.ap, (c.apo + g19.toNat * 1), none⟩ (.int .i8 (((g19.toNat * 1 : Nat) : Int) + 1))] (⟨(zh (by omega)), (Glob.pieces z27 (g19.toNat * 1) (by omega))⟩) ?_
  refine ze ?_
  rw [(show ((((g19.toNat * 1 : Nat) : Int) + 1) : Int) = (g19 + 1) from (by omega))]
  refine zn ?_
  refine zs 2 [rz 0 b, rz 1 m, (4, .int .i8 (pieceAt B M.s1)), (5, .int .u64 (bbSq M.s1)), (6, .int .u64 (bbSq M.s2)), (8, .int .i8 (g19 + 1)), (29, .slice (some ⟨c.ap, c.apo, none⟩) 12 12), iz 30 ((12 : Nat) : Int), iz 31 g19, rz 35 b, (36, .int .i8 (g19 + 1))] ?_
  refine zk (some 37) (c97 hf25 (g19 + 1)) ?_
  intro w30 v31
  have hf32 := At.on hf26 v31
  have hf33 := At.on hf25 v31
  have v36 := Mod.trans v21 (Mod.of_nil v31)
  refine zs 1 [rz 0 b, rz 1 m, (4, .int .i8 (pieceAt B M.s1)), (5, .int .u64 (bbSq M.s1)), (6, .int .u64 (bbSq M.s2)), (8, .int .i8 (g19 + 1)), (9, .int .u64 (Bd.of (updTo B M g19) (g19 + 1))), (29, .slice (some ⟨c.ap, c.apo, none⟩) 12 12), iz 30 ((12 : Nat) : Int), iz 31 g19] ?_
  refine ze ?_
  rw [(show ((Bd.of (updTo B M g19) (g19 + 1)) : Int) = (Bd.of B (g19 + 1)) from (of_updTo (by omega) (by omega)))]
  refine zn ?_
  refine zs 6 [rz 0 b, rz 1 m, (4, .int .i8 (pieceAt B M.s1)), (5, .int .u64 (bbSq M.s1)), (6, .int .u64 (bbSq M.s2)), (8, .int .i8 (g19 + 1)), (9, .int .u64 (Bd.of B (g19 + 1))), (29, .slice (some ⟨c.ap, c.apo, none⟩) 12 12), iz 30 ((12 : Nat) : Int), iz 31 g19, rz 38 b, (39, .int .i8 (g19 + 1)), (43, .int .u64 (band (Bd.of B (g19 + 1)) (bnot (bbSq M.s2))))] ?_
  refine reg_call 100 [pz b, .int .i8 (g19 + 1), .int .u64 (band (Bd.of B (g19 + 1)) (bnot (bbSq M.s2)))] (some 44) (by kernel_rfl) (c100 hf33 (g19 + 1) (band (Bd.of B (g19 + 1)) (bnot (bbSq M.s2))) (by omega)) ?_
  rintro _ w37 ⟨rfl, v38, hf39⟩; refine ⟨_, rfl, ?_⟩
  have hf40 := At.keep hf32 v38 (not_mem1 (At.ne hf32 hf33 rfl))
  have v43 := Mod.fresh' v36 v38 (by simp <;> omega)
  refine zx ?_
  refine zo 5 [rz 0 b, rz 1 m, (4, .int .i8 (pieceAt B M.s1)), (5, .int .u64 (bbSq M.s1)), (6, .int .u64 (bbSq M.s2)), (8, .int .i8 (g19 + 1)), (29, .slice (some ⟨c.ap, c.apo, none⟩) 12 12), iz 30 ((12 : Nat) : Int), iz 31 g19, (45, .int .u64 (Bd.of B (g19 + 1))), (49, .int .i8 M.s1)] [.cell ⟨m, 8, none⟩ (.int .i8 M.s1)] (At.cell hf40 rfl) ?_
  refine zk (some 50) (c98 (Bd.of B (g19 + 1)) M.s1 w37) ?_
  intro w44 v45
  have hf47 := At.on hf39 v45
  have v50 := Mod.trans v43 (Mod.of_nil v45)
  refine zz ?_
  refine zc (fun hc51 => ?_) fun hc51 => ?_
  ·refine zw ?_
   refine zs 2 [rz 0 b, rz 1 m, (4, .int .i8 (pieceAt B M.s1)), (5, .int .u64 (bbSq M.s1)), (6, .int .u64 (bbSq M.s2)), (8, .int .i8 (g19 + 1)), (29, .slice (some ⟨c.ap, c.apo, none⟩) 12 12), iz 30 ((12 : Nat) : Int), iz 31 g19, rz 51 b, (52, .int .i8 (g19 + 1))] ?_
   refine zk (some 53) (c97 hf47 (g19 + 1)) ?_
   intro w52 v53
   have hf55 := At.on hf47 v53
   have v58 := Mod.trans v50 (Mod.of_nil v53)
   refine zs 1 [rz 0 b, rz 1 m, (4, .int .i8 (pieceAt B M.s1)), (5, .int .u64 (bbSq M.s1)), (6, .int .u64 (bbSq M.s2)), (8, .int .i8 (g19 + 1)), (9, .int .u64 (Bd.of (Bd.set (updTo B M g19) (g19 + 1).toNat (band (Bd.of B (g19 + 1)) (bnot (bbSq M.s2)))) (g19 + 1))), (29, .slice (some ⟨c.ap, c.apo, none⟩) 12 12), iz 30 ((12 : Nat) : Int), iz 31 g19] ?_
   refine ze ?_
   rw [(show ((Bd.of (Bd.set (updTo B M g19) (g19 + 1).toNat (band (Bd.of B (g19 + 1)) (bnot (bbSq M.s2)))) (g19 + 1)) : Int) = (band (Bd.of B (g19 + 1)) (bnot (bbSq M.s2))) from (of_set (by omega) (by omega)))]
   refine n_then ?_
   refine w_region ?_
   refine zs 8 [rz 0 b, rz 1 m, (4, .int .i8 (pieceAt B M.s1)), (5, .int .u64 (bbSq M.s1)), (6, .int .u64 (bbSq M.s2)), (29, .slice (some ⟨c.ap, c.apo, none⟩) 12 12), iz 30 ((12 : Nat) : Int), iz 31 g19, rz 54 b, (55, .int .i8 (g19 + 1)), (61, .int .u64 (bor (band (band (Bd.of B (g19 + 1)) (bnot (bbSq M.s2))) (bnot (bbSq M.s1))) (bbSq M.s2)))] ?_
   refine reg_call 100 [pz b, .int .i8 (g19 + 1), .int .u64 (bor (band (band (Bd.of B (g19 + 1)) (bnot (bbSq M.s2))) (bnot (bbSq M.s1))) (bbSq M.s2))] (some 62) (by kernel_rfl) (c100 hf55 (g19 + 1) (bor (band (band (Bd.of B (g19 + 1)) (bnot (bbSq M.s2))) (bnot (bbSq M.s1))) (bbSq M.s2)) (by omega)) ?_
   rintro _ w59 ⟨rfl, v60, hf61⟩; refine ⟨_, rfl, ?_⟩
   have v65 := Mod.fresh' v58 v60 (by simp <;> omega)
   refine ze ?_
   refine n_block ?_
   refine n_then ?_
   refine w_region ?_
   refine zs 2 [rz 0 b, rz 1 m, (4, .int .i8 (pieceAt B M.s1)), (5, .int .u64 (bbSq M.s1)), (6, .int .u64 (bbSq M.s2)), (29, .slice (some ⟨c.ap, c.apo, none⟩) 12 12), iz 30 ((12 : Nat) : Int), iz 31 (IntKind.i64.wrap (g19 + 1))] ?_
   refine ze ?_
   rw [zi (g19 + 1) (by omega) (by omega)]
   have hf66 : At w59 b (.cells (bdCells (updTo B M (g19 + 1))) 135 (0, 0)) := at_cast hf61 (bd_eq (by rw [← updTo_set (by omega) (by omega), mvBB, hc51, set_set]; rfl))
   exact l_back (g19 + 1) [0, 1, 4, 5, 6, 29, 30, 31] (by kernel_rfl) (by omega) ⟨by constructor <;> (try simp only []) <;> omega, v65, hf66, trivial⟩
  refine w_skip ?_
  refine n_block ?_
  refine n_then ?_
  refine w_region ?_
  refine zs 2 [rz 0 b, rz 1 m, (4, .int .i8 (pieceAt B M.s1)), (5, .int .u64 (bbSq M.s1)), (6, .int .u64 (bbSq M.s2)), (29, .slice (some ⟨c.ap, c.apo, none⟩) 12 12), iz 30 ((12 : Nat) : Int), iz 31 (IntKind.i64.wrap (g19 + 1))] ?_
  refine ze ?_
  rw [zi (g19 + 1) (by omega) (by omega)]
  have hf67 : At w44 b (.cells (bdCells (updTo B M (g19 + 1))) 135 (0, 0)) := at_cast hf47 (bd_eq (by rw [← updTo_set (by omega) (by omega), mvBB, hc51]; rfl))
  exact l_back (g19 + 1) [0, 1, 4, 5, 6, 29, 30, 31] (by kernel_rfl) (by omega) ⟨by constructor <;> (try simp only []) <;> omega, v50, hf67, trivial⟩
 have y29 := of_decide_eq_false hc29
 obtain rfl : g19 = (12 : Int) := by omega
 refine w_exit ?_
 refine x_then ?_
 refine x_then ?_
 refine x_hit ?_
 refine n_then ?_
 refine w_cut (γ := Unit) (fun _ => [(0, pz b), (1, pz m), (4, .int .i8 (pieceAt B M.s1))]) (fun _ w_ => Mod [b] w20 w_ ∧ At w_ b (.cells (bdCells (updPromo M (pieceAt B M.s1) (updTo B M 12))) 135 (0, 0))) ?_ ?_
 ·have v71 : Mod [b] w20 w20 := Mod.refl _ _
  refine zw ?_
  refine zo 5 [rz 0 b, rz 1 m, (4, .int .i8 (pieceAt B M.s1)), (6, .int .u64 (bbSq M.s2)), (68, .bool (M.promo != 0))] [.cell ⟨m, 10, none⟩ (.int .i8 M.promo)] (At.cell hf26 rfl) ?_
  refine zz ?_
  refine zc (fun hc72 => ?_) fun hc72 => ?_
  ·refine w_seq ?_
   have hpa := hpro (bne_iff_ne.1 hc72)
   have hpb := hnew (bne_iff_ne.1 hc72)
   refine w_quiet (by kernel_rfl) (by kernel_rfl) ?_
   refine zqo 5 [rz 0 b, rz 1 m, (4, .int .i8 (pieceAt B M.s1)), (6, .int .u64 (bbSq M.s2)), (72, .int .i8 M.promo), (73, .int .i8 (pieceAt B M.s1))] [.cell ⟨m, 10, none⟩ (.int .i8 M.promo)] (fun _ hC => At.cell (At.on hf26 hC) rfl) ?_
   refine zqk (some 74) (fun w_ hC => c102 (pieceAt B M.s1) w_) ?_
   refine zqk (some 75) (fun w_ hC => c101 (Glob.on z27 hC) M.promo (pColor (pieceAt B M.s1)) (by omega) (by assumption)) ?_
   refine zq 1 [rz 0 b, rz 1 m, (4, .int .i8 (pieceAt B M.s1)), (6, .int .u64 (bbSq M.s2)), (10, .int .i8 (newP M.promo (pColor (pieceAt B M.s1))))] ?_
   refine q_out (by kernel_rfl) ?_
   intro w73 v74
   have hf76 := At.on hf25 v74
   have v80 := Mod.trans v71 (Mod.of_nil v74)
   refine zn ?_
   refine zs 2 [rz 0 b, rz 1 m, (4, .int .i8 (pieceAt B M.s1)), (6, .int .u64 (bbSq M.s2)), (10, .int .i8 (newP M.promo (pColor (pieceAt B M.s1)))), rz 76 b, (77, .int .i8 (pieceAt B M.s1))] ?_
   refine zk (some 78) (c97 hf76 (pieceAt B M.s1)) ?_
   intro w81 v82
   have hf84 := At.on hf76 v82
   have v88 := Mod.trans v80 (Mod.of_nil v82)
   refine zs 1 [rz 0 b, rz 1 m, (4, .int .i8 (pieceAt B M.s1)), (6, .int .u64 (bbSq M.s2)), (10, .int .i8 (newP M.promo (pColor (pieceAt B M.s1)))), (11, .int .u64 (Bd.of (updTo B M 12) (pieceAt B M.s1)))] ?_
   refine zx ?_
   refine zs 6 [rz 0 b, rz 1 m, (4, .int .i8 (pieceAt B M.s1)), (6, .int .u64 (bbSq M.s2)), (10, .int .i8 (newP M.promo (pColor (pieceAt B M.s1)))), rz 79 b, (80, .int .i8 (pieceAt B M.s1)), (84, .int .u64 (band (Bd.of (updTo B M 12) (pieceAt B M.s1)) (bnot (bbSq M.s2))))] ?_
   refine reg_call 100 [pz b, .int .i8 (pieceAt B M.s1), .int .u64 (band (Bd.of (updTo B M 12) (pieceAt B M.s1)) (bnot (bbSq M.s2)))] (some 85) (by kernel_rfl) (c100 hf84 (pieceAt B M.s1) (band (Bd.of (updTo B M 12) (pieceAt B M.s1)) (bnot (bbSq M.s2))) (by omega)) ?_
   rintro _ w89 ⟨rfl, v90, hf91⟩; refine ⟨_, rfl, ?_⟩
   have v96 := Mod.fresh' v88 v90 (by simp <;> omega)
   refine zx ?_
   refine zs 2 [rz 0 b, rz 1 m, (4, .int .i8 (pieceAt B M.s1)), (6, .int .u64 (bbSq M.s2)), (10, .int .i8 (newP M.promo (pColor (pieceAt B M.s1)))), rz 86 b, (87, .int .i8 (newP M.promo (pColor (pieceAt B M.s1))))] ?_
   refine zk (some 88) (c97 hf91 (newP M.promo (pColor (pieceAt B M.s1)))) ?_
   intro w97 v98
   have hf100 := At.on hf91 v98
   have v104 := Mod.trans v96 (Mod.of_nil v98)
   refine zs 1 [rz 0 b, rz 1 m, (4, .int .i8 (pieceAt B M.s1)), (6, .int .u64 (bbSq M.s2)), (10, .int .i8 (newP M.promo (pColor (pieceAt B M.s1)))), (12, .int .u64 (Bd.of (Bd.set (updTo B M 12) (pieceAt B M.s1).toNat (band (Bd.of (updTo B M 12) (pieceAt B M.s1)) (bnot (bbSq M.s2)))) (newP M.promo (pColor (pieceAt B M.s1)))))] ?_
   refine zz ?_
   refine w_region ?_
   refine zs 5 [rz 0 b, rz 1 m, (4, .int .i8 (pieceAt B M.s1)), rz 89 b, (90, .int .i8 (newP M.promo (pColor (pieceAt B M.s1)))), (93, .int .u64 (bor (Bd.of (Bd.set (updTo B M 12) (pieceAt B M.s1).toNat (band (Bd.of (updTo B M 12) (pieceAt B M.s1)) (bnot (bbSq M.s2)))) (newP M.promo (pColor (pieceAt B M.s1)))) (bbSq M.s2)))] ?_
   refine reg_call 100 [pz b, .int .i8 (newP M.promo (pColor (pieceAt B M.s1))), .int .u64 (bor (Bd.of (Bd.set (updTo B M 12) (pieceAt B M.s1).toNat (band (Bd.of (updTo B M 12) (pieceAt B M.s1)) (bnot (bbSq M.s2)))) (newP M.promo (pColor (pieceAt B M.s1)))) (bbSq M.s2))] (some 94) (by kernel_rfl) (c100 hf100 (newP M.promo (pColor (pieceAt B M.s1))) (bor (Bd.of (Bd.set (updTo B M 12) (pieceAt B M.s1).toNat (band (Bd.of (updTo B M 12) (pieceAt B M.s1)) (bnot (bbSq M.s2)))) (newP M.promo (pColor (pieceAt B M.s1)))) (bbSq M.s2)) (by omega)) ?_
   rintro _ w105 ⟨rfl, v106, hf107⟩; refine ⟨_, rfl, ?_⟩
   have v112 := Mod.fresh' v104 v106 (by simp <;> omega)
   refine ze ?_
   exact zb () ⟨v112, at_cast hf107 (bd_eq (by simp only [updPromo, hc72, cond_true, cond_false]; try rfl))⟩
  refine w_skip ?_
  exact zb () ⟨v71, at_cast hf25 (bd_eq (by simp only [updPromo, hc72, cond_true, cond_false]; try rfl))⟩
 rintro _ w68 ⟨v69, hf70⟩
 have hf113 := At.keep hf26 v69 (not_mem1 (At.ne hf26 hf25 rfl))
 have v115 := Mod.fresh' v28 v69 (by simp <;> omega)
 refine w_cut (γ := Unit) (fun _ => [(0, pz b), (1, pz m), (4, .int .i8 (pieceAt B M.s1))]) (fun _ w_ => Mod [b] w68 w_ ∧ At w_ b (.cells (bdCells (updEP M (pieceAt B M.s1) (updPromo M (pieceAt B M.s1) (updTo B M 12)))) 135 (0, 0))) ?_ ?_
 ·have v120 : Mod [b] w68 w68 := Mod.refl _ _
  refine zw ?_
  refine zs 1 [rz 0 b, rz 1 m, (4, .int .i8 (pieceAt B M.s1)), rz 95 m] ?_
  refine zk (some 96) (c74 hf113 8) ?_
  intro w121 v122
  have hf123 := At.on hf113 v122
  have hf124 := At.on hf70 v122
  have v128 := Mod.trans v120 (Mod.of_nil v122)
  refine zz ?_
  refine zc (fun hc129 => ?_) fun hc129 => ?_
  ·refine zw ?_
   refine zs 1 [rz 0 b, rz 1 m, (4, .int .i8 (pieceAt B M.s1)), (97, .int .i8 (pieceAt B M.s1))] ?_
   refine zk (some 98) (c102 (pieceAt B M.s1) w121) ?_
   intro w130 v131
   have hf132 := At.on hf123 v131
   have hf133 := At.on hf124 v131
   have v137 := Mod.trans v128 (Mod.of_nil v131)
   refine zs 1 [rz 0 b, rz 1 m, (4, .int .i8 (pieceAt B M.s1)), (99, .bool ((pColor (pieceAt B M.s1)) == 1))] ?_
   refine zz ?_
   refine zc (fun hc138 => ?_) fun hc138 => ?_
   ·have y138 := eq_of_beq hc138
    refine w_tail 15 (by kernel_rfl) (by kernel_rfl) ?_
    refine zqo 5 [rz 0 b, rz 1 m, (4, .int .i8 (pieceAt B M.s1)), rz 100 b, (104, .int .i8 M.s2)] [.cell ⟨m, 9, none⟩ (.int .i8 M.s2)] (fun _ hC => At.cell (At.on hf132 hC) rfl) ?_
    refine zqk (some 105) (fun w_ hC => c99 M.s2 w_ (by omega) (by omega)) ?_
    refine zqo 9 [rz 0 b, rz 1 m, (4, .int .i8 (pieceAt B M.s1)), (112, .int .u64 (band (bnot (shl8 (bbSq M.s2))) ((updPromo M (pieceAt B M.s1) (updTo B M 12)).bb 12))), (114, .pointer (some ⟨b, 11, none⟩))] [.prop (0 ≤ (8 : Int)), .cell ⟨b, 11, none⟩ (.int .u64 ((updPromo M (pieceAt B M.s1) (updTo B M 12)).bb 12))] (fun _ hC => ⟨(zh (by omega)), At.cell (At.on hf133 hC) rfl⟩) ?_
    refine q_end (by kernel_rfl) (fun a ha w139 v140 => (?_ : Reg _ _ _ _ _ 15 _ w139) a ha)
    have hf142 := At.on hf133 v140
    have v146 := Mod.trans v137 (Mod.of_nil v140)
    refine reg_store b 11 (.int .u64 (band (bnot (shl8 (bbSq M.s2))) ((updPromo M (pieceAt B M.s1) (updTo B M 12)).bb 12))) none (by kernel_rfl) hf142 (Nat.le_of_ble_eq_true rfl) rfl ?_
    intro w147 hu148
    have hf149 : At w147 b (.cells (bdCells ((updPromo M (pieceAt B M.s1) (updTo B M 12)).set 12 (band (bnot (shl8 (bbSq M.s2))) ((updPromo M (pieceAt B M.s1) (updTo B M 12)).bb 12)))) 135 (0, 0)) := hu148.at_
    have v154 := Mod.fresh' v146 hu148.mod (by simp <;> omega)
    refine ze ?_
    exact zb () ⟨v154, at_cast hf149 (bd_eq (by simp only [updEP, hc129, hc138, cond_true, cond_false]; try rfl))⟩
   have y138 := ne_of_beq_false hc138
   refine w_tail 15 (by kernel_rfl) (by kernel_rfl) ?_
   refine zqo 5 [rz 0 b, rz 1 m, (4, .int .i8 (pieceAt B M.s1)), rz 115 b, (119, .int .i8 M.s2)] [.cell ⟨m, 9, none⟩ (.int .i8 M.s2)] (fun _ hC => At.cell (At.on hf132 hC) rfl) ?_
   refine zqk (some 120) (fun w_ hC => c99 M.s2 w_ (by omega) (by omega)) ?_
   refine zqo 9 [rz 0 b, rz 1 m, (4, .int .i8 (pieceAt B M.s1)), (127, .int .u64 (band (bnot (shr8 (bbSq M.s2))) ((updPromo M (pieceAt B M.s1) (updTo B M 12)).bb 6))), (129, .pointer (some ⟨b, 5, none⟩))] [.prop (0 ≤ (8 : Int)), .cell ⟨b, 5, none⟩ (.int .u64 ((updPromo M (pieceAt B M.s1) (updTo B M 12)).bb 6))] (fun _ hC => ⟨(zh (by omega)), At.cell (At.on hf133 hC) rfl⟩) ?_
   refine q_end (by kernel_rfl) (fun a ha w155 v156 => (?_ : Reg _ _ _ _ _ 15 _ w155) a ha)
   have hf158 := At.on hf133 v156
   have v162 := Mod.trans v137 (Mod.of_nil v156)
   refine reg_store b 5 (.int .u64 (band (bnot (shr8 (bbSq M.s2))) ((updPromo M (pieceAt B M.s1) (updTo B M 12)).bb 6))) none (by kernel_rfl) hf158 (Nat.le_of_ble_eq_true rfl) rfl ?_
   intro w163 hu164
   have hf165 : At w163 b (.cells (bdCells ((updPromo M (pieceAt B M.s1) (updTo B M 12)).set 6 (band (bnot (shr8 (bbSq M.s2))) ((updPromo M (pieceAt B M.s1) (updTo B M 12)).bb 6)))) 135 (0, 0)) := hu164.at_
   have v170 := Mod.fresh' v162 hu164.mod (by simp <;> omega)
   refine ze ?_
   exact zb () ⟨v170, at_cast hf165 (bd_eq (by simp only [updEP, hc129, hc138, cond_true, cond_false]; try rfl))⟩
  refine w_skip ?_
  exact zb () ⟨v128, at_cast hf124 (bd_eq (by simp only [updEP, hc129, cond_true, cond_false]; try rfl))⟩
 rintro _ w117 ⟨v118, hf119⟩
 have hf171 := At.keep hf113 v118 (not_mem1 (At.ne hf113 hf70 rfl))
 have v173 := Mod.fresh' v115 v118 (by simp <;> omega)
 refine w_cut (γ := Unit) (fun _ => [(0, pz b), (1, pz m)]) (fun _ w_ => Mod [b] w117 w_ ∧ At w_ b (.cells (bdCells (updCastle M (pieceAt B M.s1) (updEP M (pieceAt B M.s1) (updPromo M (pieceAt B M.s1) (updTo B M 12))))) 135 (0, 0))) ?_ ?_
 ·have v178 : Mod [b] w117 w117 := Mod.refl _ _
  refine w_block ?_
  refine w_cut (γ := Unit) (fun _ => [(0, pz b), (1, pz m), (4, .int .i8 (pieceAt B M.s1)), (130, .bool (((pColor (pieceAt B M.s1)) == 1) && (hasTag M 1)))]) (fun _ w_ => Mod [] w117 w_) ?_ ?_
  ·have v181 : Mod [] w117 w117 := Mod.refl _ _
   refine w_region ?_
   refine zs 1 [rz 0 b, rz 1 m, (4, .int .i8 (pieceAt B M.s1)), (131, .int .i8 (pieceAt B M.s1))] ?_
   refine zk (some 132) (c102 (pieceAt B M.s1) w117) ?_
   intro w182 v183
   have hf184 := At.on hf171 v183
   have v187 := zt v181 v183
   refine zs 2 [rz 0 b, rz 1 m, (4, .int .i8 (pieceAt B M.s1)), (134, .bool ((pColor (pieceAt B M.s1)) == 1))] ?_
   cases hc190 : ((pColor (pieceAt B M.s1)) == (1 : Int))
   ·refine zs 4 [rz 0 b, rz 1 m, (4, .int .i8 (pieceAt B M.s1)), (130, .bool false)] ?_
    refine ze ?_
    exact zb () v187
   refine zs 1 [rz 0 b, rz 1 m, (4, .int .i8 (pieceAt B M.s1)), (134, .bool true), rz 135 m] ?_
   refine zk (some 136) (c74 hf184 1) ?_
   intro w191 v192
   have v196 := zt v187 v192
   refine zs 2 [rz 0 b, rz 1 m, (4, .int .i8 (pieceAt B M.s1)), (130, .bool (hasTag M 1))] ?_
   refine ze ?_
   exact zb () v196
  intro _ w179 v180
  have hf199 := At.on hf171 v180
  have hf200 := At.on hf119 v180
  have v204 := Mod.trans v178 (Mod.of_nil v180)
  refine zc (fun hc205 => ?_) fun hc205 => ?_
  ·refine w_tail 12 (by kernel_rfl) (by kernel_rfl) ?_
   refine zqo 5 [rz 0 b, rz 1 m, rz 138 b, (142, .int .u64 ((updEP M (pieceAt B M.s1) (updPromo M (pieceAt B M.s1) (updTo B M 12))).bb 3))] [.cell ⟨b, 2, none⟩ (.int .u64 ((updEP M (pieceAt B M.s1) (updPromo M (pieceAt B M.s1) (updTo B M 12))).bb 3))] (fun _ hC => At.cell (At.on hf200 hC) rfl) ?_
   refine zqk (some 143) (fun w_ hC => c99 7 w_ (by omega) (by omega)) ?_
   refine zq 2 [rz 0 b, rz 1 m, rz 138 b, (145, .int .u64 (band ((updEP M (pieceAt B M.s1) (updPromo M (pieceAt B M.s1) (updTo B M 12))).bb 3) (bnot (bbSq 7))))] ?_
   refine zqk (some 146) (fun w_ hC => c99 5 w_ (by omega) (by omega)) ?_
   refine zq 3 [rz 0 b, rz 1 m, (147, .int .u64 (bor (band ((updEP M (pieceAt B M.s1) (updPromo M (pieceAt B M.s1) (updTo B M 12))).bb 3) (bnot (bbSq 7))) (bbSq 5))), (149, .pointer (some ⟨b, 2, none⟩))] ?_
   refine q_end (by kernel_rfl) (fun a ha w206 v207 => (?_ : Reg _ _ _ _ _ 12 _ w206) a ha)
   have hf209 := At.on hf200 v207
   have v213 := Mod.trans v204 (Mod.of_nil v207)
   refine reg_store b 2 (.int .u64 (bor (band ((updEP M (pieceAt B M.s1) (updPromo M (pieceAt B M.s1) (updTo B M 12))).bb 3) (bnot (bbSq 7))) (bbSq 5))) none (by kernel_rfl) hf209 (Nat.le_of_ble_eq_true rfl) rfl ?_
   intro w214 hu215
   have hf216 : At w214 b (.cells (bdCells ((updEP M (pieceAt B M.s1) (updPromo M (pieceAt B M.s1) (updTo B M 12))).set 3 (bor (band ((updEP M (pieceAt B M.s1) (updPromo M (pieceAt B M.s1) (updTo B M 12))).bb 3) (bnot (bbSq 7))) (bbSq 5)))) 135 (0, 0)) := hu215.at_
   have v221 := Mod.fresh' v213 hu215.mod (by simp <;> omega)
   refine ze ?_
   refine n_block ?_
   exact zb () ⟨v221, at_cast hf216 (bd_eq (by simp only [updCastle, rook, hc205, cond_true, cond_false]; try rfl))⟩
  refine w_cut (γ := Unit) (fun _ => [(0, pz b), (1, pz m), (4, .int .i8 (pieceAt B M.s1)), (150, .bool (((pColor (pieceAt B M.s1)) == 1) && (hasTag M 2)))]) (fun _ w_ => Mod [] w179 w_) ?_ ?_
  ·have v224 : Mod [] w179 w179 := Mod.refl _ _
   refine w_region ?_
   refine zs 1 [rz 0 b, rz 1 m, (4, .int .i8 (pieceAt B M.s1)), (151, .int .i8 (pieceAt B M.s1))] ?_
   refine zk (some 152) (c102 (pieceAt B M.s1) w179) ?_
   intro w225 v226
   have hf227 := At.on hf199 v226
   have v230 := zt v224 v226
   refine zs 2 [rz 0 b, rz 1 m, (4, .int .i8 (pieceAt B M.s1)), (154, .bool ((pColor (pieceAt B M.s1)) == 1))] ?_
   cases hc233 : ((pColor (pieceAt B M.s1)) == (1 : Int))
   ·refine zs 4 [rz 0 b, rz 1 m, (4, .int .i8 (pieceAt B M.s1)), (150, .bool false)] ?_
    refine ze ?_
    exact zb () v230
   refine zs 1 [rz 0 b, rz 1 m, (4, .int .i8 (pieceAt B M.s1)), (154, .bool true), rz 155 m] ?_
   refine zk (some 156) (c74 hf227 2) ?_
   intro w234 v235
   have v239 := zt v230 v235
   refine zs 2 [rz 0 b, rz 1 m, (4, .int .i8 (pieceAt B M.s1)), (150, .bool (hasTag M 2))] ?_
   refine ze ?_
   exact zb () v239
  intro _ w222 v223
  have hf242 := At.on hf199 v223
  have hf243 := At.on hf200 v223
  have v247 := Mod.trans v204 (Mod.of_nil v223)
  refine zc (fun hc248 => ?_) fun hc248 => ?_
  ·refine w_tail 12 (by kernel_rfl) (by kernel_rfl) ?_
   refine zqo 5 [rz 0 b, rz 1 m, rz 158 b, (162, .int .u64 ((updEP M (pieceAt B M.s1) (updPromo M (pieceAt B M.s1) (updTo B M 12))).bb 3))] [.cell ⟨b, 2, none⟩ (.int .u64 ((updEP M (pieceAt B M.s1) (updPromo M (pieceAt B M.s1) (updTo B M 12))).bb 3))] (fun _ hC => At.cell (At.on hf243 hC) rfl) ?_
   refine zqk (some 163) (fun w_ hC => c99 0 w_ (by omega) (by omega)) ?_
   refine zq 2 [rz 0 b, rz 1 m, rz 158 b, (165, .int .u64 (band ((updEP M (pieceAt B M.s1) (updPromo M (pieceAt B M.s1) (updTo B M 12))).bb 3) (bnot (bbSq 0))))] ?_
   refine zqk (some 166) (fun w_ hC => c99 3 w_ (by omega) (by omega)) ?_
   refine zq 3 [rz 0 b, rz 1 m, (167, .int .u64 (bor (band ((updEP M (pieceAt B M.s1) (updPromo M (pieceAt B M.s1) (updTo B M 12))).bb 3) (bnot (bbSq 0))) (bbSq 3))), (169, .pointer (some ⟨b, 2, none⟩))] ?_
   refine q_end (by kernel_rfl) (fun a ha w249 v250 => (?_ : Reg _ _ _ _ _ 12 _ w249) a ha)
   have hf252 := At.on hf243 v250
   have v256 := Mod.trans v247 (Mod.of_nil v250)
   refine reg_store b 2 (.int .u64 (bor (band ((updEP M (pieceAt B M.s1) (updPromo M (pieceAt B M.s1) (updTo B M 12))).bb 3) (bnot (bbSq 0))) (bbSq 3))) none (by kernel_rfl) hf252 (Nat.le_of_ble_eq_true rfl) rfl ?_
   intro w257 hu258
   have hf259 : At w257 b (.cells (bdCells ((updEP M (pieceAt B M.s1) (updPromo M (pieceAt B M.s1) (updTo B M 12))).set 3 (bor (band ((updEP M (pieceAt B M.s1) (updPromo M (pieceAt B M.s1) (updTo B M 12))).bb 3) (bnot (bbSq 0))) (bbSq 3)))) 135 (0, 0)) := hu258.at_
   have v264 := Mod.fresh' v256 hu258.mod (by simp <;> omega)
   refine ze ?_
   refine n_block ?_
   exact zb () ⟨v264, at_cast hf259 (bd_eq (by simp only [updCastle, rook, hc205, hc248, cond_true, cond_false]; try rfl))⟩
  refine w_cut (γ := Unit) (fun _ => [(0, pz b), (1, pz m), (4, .int .i8 (pieceAt B M.s1)), (170, .bool (((pColor (pieceAt B M.s1)) == 2) && (hasTag M 1)))]) (fun _ w_ => Mod [] w222 w_) ?_ ?_
  ·have v267 : Mod [] w222 w222 := Mod.refl _ _
   refine w_region ?_
   refine zs 1 [rz 0 b, rz 1 m, (4, .int .i8 (pieceAt B M.s1)), (171, .int .i8 (pieceAt B M.s1))] ?_
   refine zk (some 172) (c102 (pieceAt B M.s1) w222) ?_
   intro w268 v269
   have hf270 := At.on hf242 v269
   have v273 := zt v267 v269
   refine zs 2 [rz 0 b, rz 1 m, (4, .int .i8 (pieceAt B M.s1)), (174, .bool ((pColor (pieceAt B M.s1)) == 2))] ?_
   cases hc276 : ((pColor (pieceAt B M.s1)) == (2 : Int))
   ·refine zs 4 [rz 0 b, rz 1 m, (4, .int .i8 (pieceAt B M.s1)), (170, .bool false)] ?_
    refine ze ?_
    exact zb () v273
   refine zs 1 [rz 0 b, rz 1 m, (4, .int .i8 (pieceAt B M.s1)), (174, .bool true), rz 175 m] ?_
   refine zk (some 176) (c74 hf270 1) ?_
   intro w277 v278
   have v282 := zt v273 v278
   refine zs 2 [rz 0 b, rz 1 m, (4, .int .i8 (pieceAt B M.s1)), (170, .bool (hasTag M 1))] ?_
   refine ze ?_
   exact zb () v282
  intro _ w265 v266
  have hf285 := At.on hf242 v266
  have hf286 := At.on hf243 v266
  have v290 := Mod.trans v247 (Mod.of_nil v266)
  refine zc (fun hc291 => ?_) fun hc291 => ?_
  ·refine w_tail 12 (by kernel_rfl) (by kernel_rfl) ?_
   refine zqo 5 [rz 0 b, rz 1 m, rz 178 b, (182, .int .u64 ((updEP M (pieceAt B M.s1) (updPromo M (pieceAt B M.s1) (updTo B M 12))).bb 9))] [.cell ⟨b, 8, none⟩ (.int .u64 ((updEP M (pieceAt B M.s1) (updPromo M (pieceAt B M.s1) (updTo B M 12))).bb 9))] (fun _ hC => At.cell (At.on hf286 hC) rfl) ?_
   refine zqk (some 183) (fun w_ hC => c99 63 w_ (by omega) (by omega)) ?_
   refine zq 2 [rz 0 b, rz 1 m, rz 178 b, (185, .int .u64 (band ((updEP M (pieceAt B M.s1) (updPromo M (pieceAt B M.s1) (updTo B M 12))).bb 9) (bnot (bbSq 63))))] ?_
   refine zqk (some 186) (fun w_ hC => c99 61 w_ (by omega) (by omega)) ?_
   refine zq 3 [rz 0 b, rz 1 m, (187, .int .u64 (bor (band ((updEP M (pieceAt B M.s1) (updPromo M (pieceAt B M.s1) (updTo B M 12))).bb 9) (bnot (bbSq 63))) (bbSq 61))), (189, .pointer (some ⟨b, 8, none⟩))] ?_
   refine q_end (by kernel_rfl) (fun a ha w292 v293 => (?_ : Reg _ _ _ _ _ 12 _ w292) a ha)
   have hf295 := At.on hf286 v293
   have v299 := Mod.trans v290 (Mod.of_nil v293)
   refine reg_store b 8 (.int .u64 (bor (band ((updEP M (pieceAt B M.s1) (updPromo M (pieceAt B M.s1) (updTo B M 12))).bb 9) (bnot (bbSq 63))) (bbSq 61))) none (by kernel_rfl) hf295 (Nat.le_of_ble_eq_true rfl) rfl ?_
   intro w300 hu301
   have hf302 : At w300 b (.cells (bdCells ((updEP M (pieceAt B M.s1) (updPromo M (pieceAt B M.s1) (updTo B M 12))).set 9 (bor (band ((updEP M (pieceAt B M.s1) (updPromo M (pieceAt B M.s1) (updTo B M 12))).bb 9) (bnot (bbSq 63))) (bbSq 61)))) 135 (0, 0)) := hu301.at_
   have v307 := Mod.fresh' v299 hu301.mod (by simp <;> omega)
   refine ze ?_
   refine n_block ?_
   exact zb () ⟨v307, at_cast hf302 (bd_eq (by simp only [updCastle, rook, hc205, hc248, hc291, cond_true, cond_false]; try rfl))⟩
  refine w_cut (γ := Unit) (fun _ => [(0, pz b), (1, pz m), (190, .bool (((pColor (pieceAt B M.s1)) == 2) && (hasTag M 2)))]) (fun _ w_ => Mod [] w265 w_) ?_ ?_
  ·have v310 : Mod [] w265 w265 := Mod.refl _ _
   refine w_region ?_
   refine zs 1 [rz 0 b, rz 1 m, (191, .int .i8 (pieceAt B M.s1))] ?_
   refine zk (some 192) (c102 (pieceAt B M.s1) w265) ?_
   intro w311 v312
   have hf313 := At.on hf285 v312
   have v316 := zt v310 v312
   refine zs 2 [rz 0 b, rz 1 m, (194, .bool ((pColor (pieceAt B M.s1)) == 2))] ?_
   cases hc319 : ((pColor (pieceAt B M.s1)) == (2 : Int))
   ·refine zs 4 [rz 0 b, rz 1 m, (190, .bool false)] ?_
    refine ze ?_
    exact zb () v316
   refine zs 1 [rz 0 b, rz 1 m, (194, .bool true), rz 195 m] ?_
   refine zk (some 196) (c74 hf313 2) ?_
   intro w320 v321
   have v325 := zt v316 v321
   refine zs 2 [rz 0 b, rz 1 m, (190, .bool (hasTag M 2))] ?_
   refine ze ?_
   exact zb () v325
  intro _ w308 v309
  have hf329 := At.on hf286 v309
  have v333 := Mod.trans v290 (Mod.of_nil v309)
  refine zc (fun hc334 => ?_) fun hc334 => ?_
  ·refine w_tail 12 (by kernel_rfl) (by kernel_rfl) ?_
   refine zqo 5 [rz 0 b, rz 1 m, rz 198 b, (202, .int .u64 ((updEP M (pieceAt B M.s1) (updPromo M (pieceAt B M.s1) (updTo B M 12))).bb 9))] [.cell ⟨b, 8, none⟩ (.int .u64 ((updEP M (pieceAt B M.s1) (updPromo M (pieceAt B M.s1) (updTo B M 12))).bb 9))] (fun _ hC => At.cell (At.on hf329 hC) rfl) ?_
   refine zqk (some 203) (fun w_ hC => c99 56 w_ (by omega) (by omega)) ?_
   refine zq 2 [rz 0 b, rz 1 m, rz 198 b, (205, .int .u64 (band ((updEP M (pieceAt B M.s1) (updPromo M (pieceAt B M.s1) (updTo B M 12))).bb 9) (bnot (bbSq 56))))] ?_
   refine zqk (some 206) (fun w_ hC => c99 59 w_ (by omega) (by omega)) ?_
   refine zq 3 [rz 0 b, rz 1 m, (207, .int .u64 (bor (band ((updEP M (pieceAt B M.s1) (updPromo M (pieceAt B M.s1) (updTo B M 12))).bb 9) (bnot (bbSq 56))) (bbSq 59))), (209, .pointer (some ⟨b, 8, none⟩))] ?_
   refine q_end (by kernel_rfl) (fun a ha w335 v336 => (?_ : Reg _ _ _ _ _ 12 _ w335) a ha)
   have hf338 := At.on hf329 v336
   have v342 := Mod.trans v333 (Mod.of_nil v336)
   refine reg_store b 8 (.int .u64 (bor (band ((updEP M (pieceAt B M.s1) (updPromo M (pieceAt B M.s1) (updTo B M 12))).bb 9) (bnot (bbSq 56))) (bbSq 59))) none (by kernel_rfl) hf338 (Nat.le_of_ble_eq_true rfl) rfl ?_
   intro w343 hu344
   have hf345 : At w343 b (.cells (bdCells ((updEP M (pieceAt B M.s1) (updPromo M (pieceAt B M.s1) (updTo B M 12))).set 9 (bor (band ((updEP M (pieceAt B M.s1) (updPromo M (pieceAt B M.s1) (updTo B M 12))).bb 9) (bnot (bbSq 56))) (bbSq 59)))) 135 (0, 0)) := hu344.at_
   have v350 := Mod.fresh' v342 hu344.mod (by simp <;> omega)
   refine ze ?_
   refine n_block ?_
   exact zb () ⟨v350, at_cast hf345 (bd_eq (by simp only [updCastle, rook, hc205, hc248, hc291, hc334, cond_true, cond_false]; try rfl))⟩
  refine w_skip ?_
  refine n_block ?_
  exact zb () ⟨v333, at_cast hf329 (bd_eq (by simp only [updCastle, rook, hc205, hc248, hc291, hc334, cond_true, cond_false]; try rfl))⟩
 rintro _ w175 ⟨v176, hf177⟩
 have hf351 := At.keep hf171 v176 (not_mem1 (At.ne hf171 hf119 rfl))
 have v353 := Mod.fresh' v173 v176 (by simp <;> omega)
 refine w_region ?_
 refine zs 2 [rz 210 b, rz 211 m] ?_
 refine reg_call 103 [pz b, pz m] (some 212) (by kernel_rfl) (c103m hf177 hf351) ?_
 rintro _ w355 ⟨rfl, v356, hf357⟩; refine ⟨_, rfl, ?_⟩
 have v360 := Mod.fresh' v353 v356 (by simp <;> omega)
 refine ze ?_
 exact end0 Tryz.results75 (⟨rfl, v360, hf357⟩)
def shlU (x k : Int) : Int := IntKind.u64.wrap (x * 2 ^ (min k.toNat IntKind.u64.bits))
def shrU (x k : Int) : Int := x.fdiv (2 ^ (min k.toNat IntKind.u64.bits))
theorem rank_ok {sq : Int} (h : 0 ≤ sq ∧ sq ≤ 63) : 0 ≤ sqRank sq ∧ sqRank sq ≤ 7 := by
 unfold sqRank
 have e : sq.tdiv 8 = sq / 8 := Int.tdiv_eq_ediv_of_nonneg h.1
 rw [e, i8_in' (by omega) (by omega)]; omega
theorem file_ok {sq : Int} (h : 0 ≤ sq ∧ sq ≤ 63) : 0 ≤ sqFile sq ∧ sqFile sq ≤ 7 := by
 unfold sqFile
 have e : sq.tmod 8 = sq % 8 := Int.tmod_eq_emod_of_nonneg h.1
 rw [e]; omega
theorem otherC_or {c : Int} (h : c = 1 ∨ c = 2) : otherC c = 1 ∨ otherC c = 2 := by unfold otherC; rcases h with rfl | rfl <;> simp
def att1 (B : Bd) (turn sq : Int) : Bool :=
 bif bor (band (bor (diaA (bnot B.empty) sq) (hvA (bnot B.empty) sq)) (bif turn == (2 : Int) then B.white else B.black)) (band (knightAt sq) (bif turn == (2 : Int) then B.white else B.black)) == (0 : Int) then false else
 bif band (bor (diaA (bnot B.empty) sq) (hvA (bnot B.empty) sq)) (Bd.of B (newP (2 : Int) (otherC turn))) != (0 : Int) then true else
 bif band (hvA (bnot B.empty) sq) (Bd.of B (newP (3 : Int) (otherC turn))) != (0 : Int) then true else
 bif band (diaA (bnot B.empty) sq) (Bd.of B (newP (4 : Int) (otherC turn))) != (0 : Int) then true else
 bif band (knightAt sq) (Bd.of B (newP (5 : Int) (otherC turn))) != (0 : Int) then true else
 bif turn == (1 : Int) then
  (bif band (bor (shlU (band (band (B.bb 12) (18374403900871474942 : Int)) (72057594037927935 : Int)) (7 : Int)) (shlU (band (band (B.bb 12) (9187201950435737471 : Int)) (72057594037927935 : Int)) (9 : Int))) (bbSq sq) != (0 : Int) then true
   else band (kingAt sq) (Bd.of B (newP (1 : Int) (otherC turn))) != (0 : Int))
 else
  (bif band (bor (shrU (band (band (B.bb 6) (18374403900871474942 : Int)) (18446744073709551360 : Int)) (9 : Int)) (shrU (band (band (B.bb 6) (9187201950435737471 : Int)) (18446744073709551360 : Int)) (7 : Int))) (bbSq sq) != (0 : Int) then true
   else band (kingAt sq) (Bd.of B (newP (1 : Int) (otherC turn))) != (0 : Int))
def attAny (B : Bd) (turn : Int) (n : Nat) (f : Nat → Int) : Bool := (List.range n).any fun i => att1 B turn (f i)
theorem attAny_one {B : Bd} {turn k : Int} : attAny B turn 1 (fun _ => k) = att1 B turn k := by simp [attAny, List.range_succ]
theorem attAny_hit {B : Bd} {turn j : Int} {n : Nat} {f : Nat → Int} (h0 : 0 ≤ j) (h1 : j < (n : Int)) (hy : att1 B turn (f j.toNat) = true) : true = attAny B turn n f := by
 unfold attAny; symm; rw [List.any_eq_true]; exact ⟨j.toNat, by simp; omega, hy⟩
theorem attAny_miss {B : Bd} {turn j : Int} {n : Nat} {f : Nat → Int} (h1 : ¬ j < (n : Int)) (hn : ∀ i : Int, 0 ≤ i → i < j → att1 B turn (f i.toNat) = false) : false = attAny B turn n f := by
 unfold attAny; symm; rw [List.any_eq_false]; intro i hi; have := hn (i : Int) (by omega) (by simp at hi; omega); simpa using this
theorem c110 {c : GC} {p b : Nat} {vm : Value} {S : Ps} {w : World} (hp : At w p (.cells (psCells b vm S) 110 (0, 0))) {B : Bd} (hb : At w b (.cells (bdCells B) 135 (0, 0))) {q n cap : Nat} {cs : Array Value} (hq : At w q (.cells cs 87 (0, 0))) (hG : Glob c w) (f : Nat → Int) (hcs : ∀ i, i < n → cs[i]? = some (.int .i8 (f i))) (hf : ∀ i, i < n → 0 ≤ f i ∧ f i ≤ 63) (hT : S.turn = 1 ∨ S.turn = 2) (hn : n ≤ 2) :
  Calls Tryz.prog 110 [pz p, .slice (some ⟨q, 0, none⟩) n cap].toArray w (fun e w' => e = .returned (.bool (attAny B S.turn n f)) ∧ Mod [] w w') := by
 have v0 : Mod [] w w := Mod.refl _ _
 have hoc := otherC_or hT
 refine enter (n := 204) Tryz.func110 rfl Tryz.ntmps110 rfl ?_
 refine zw ?_
 refine zs 1 [rz 0 p, (1, .slice (some ⟨q, 0, none⟩) n cap)] ?_
 refine zx ?_
 refine zs 1 [rz 0 p, (1, .slice (some ⟨q, 0, none⟩) n cap), rz 20 p] ?_
 refine zk (some 21) (c66 hp ) ?_
 intro w1 v2
 have hf3 := At.on hp v2
 have hf4 := At.on hb v2
 have hf5 := At.on hq v2
 have z6 := Glob.on hG v2
 have v7 := zt v0 v2
 refine zk (some 22) (c70 S.turn w1) ?_
 intro w8 v9
 have hf10 := At.on hf3 v9
 have hf11 := At.on hf4 v9
 have hf12 := At.on hf5 v9
 have z13 := Glob.on z6 v9
 have v14 := zt v7 v9
 refine zs 1 [rz 0 p, (1, .slice (some ⟨q, 0, none⟩) n cap), (5, .int .i8 (otherC S.turn))] ?_
 refine zx ?_
 refine zo 9 [rz 0 p, (1, .slice (some ⟨q, 0, none⟩) n cap), (5, .int .i8 (otherC S.turn)), (6, .int .u64 (bnot B.empty))] [.cell ⟨p, 0, none⟩ (pz b), .cell ⟨b, 14, none⟩ (.int .u64 B.empty)] (⟨At.cell hf10 rfl, At.cell hf11 rfl⟩) ?_
 refine zz ?_
 refine w_seq ?_
 refine zw ?_
 refine zs 3 [rz 0 p, (5, .int .i8 (otherC S.turn)), (6, .int .u64 (bnot B.empty)), (31, .slice (some ⟨q, 0, none⟩) n cap), iz 32 ((n : Nat) : Int), iz 33 0] ?_
 refine zz ?_
 refine w_block ?_
 refine w_loop (γ := Int) (fun g15 => ((n : Int) - g15).toNat) (fun (g15 : Int) => [(0, pz p), (5, .int .i8 (otherC S.turn)), (6, .int .u64 (bnot B.empty)), (31, .slice (some ⟨q, 0, none⟩) n cap), (32, .int .i64 ((n : Nat) : Int)), (33, .int .i64 g15)]) (fun (g15 : Int) w_ => (0 ≤ g15 ∧ g15 ≤ (n : Int)) ∧ Mod [] w8 w_ ∧ (∀ i : Int, 0 ≤ i → i < g15 → att1 B S.turn (f i.toNat) = false)) 0 (hold_keep [0, 5, 6, 31, 32, 33] (by kernel_rfl)) ⟨by constructor <;> (try simp only []) <;> omega, Mod.refl _ _, (fun i h0 h1 => absurd h1 (by omega))⟩ ?_
 rintro g15 w16 ⟨⟨h18, h19⟩, v17, hx20⟩
 have hf21 := At.on hf10 v17
 have hf22 := At.on hf11 v17
 have hf23 := At.on hf12 v17
 have z24 := Glob.on z13 v17
 have v25 := zt v14 v17
 refine zw ?_
 refine zs 1 [rz 0 p, (5, .int .i8 (otherC S.turn)), (6, .int .u64 (bnot B.empty)), (31, .slice (some ⟨q, 0, none⟩) n cap), iz 32 ((n : Nat) : Int), iz 33 g15, (34, .bool (decide (g15 < ((n : Nat) : Int))))] ?_
 refine zz ?_
 refine w_seq ?_
 refine zc (fun hc26 => ?_) fun hc26 => ?_
 ·have y26 := of_decide_eq_true hc26
  refine w_skip ?_
  refine n_then ?_
  refine w_seq ?_
  refine w_block ?_
  refine zw ?_
  refine zo 3 [rz 0 p, (5, .int .i8 (otherC S.turn)), (6, .int .u64 (bnot B.empty)), (8, .int .i8 (f (0 + g15.toNat * 1))), (31, .slice (some ⟨q, 0, none⟩) n cap), iz 32 ((n : Nat) : Int), iz 33 g15] [.prop (0 ≤ g15 ∧ g15 < ((n : Nat) : Int)), .cell ⟨q, (0 + g15.toNat * 1), none⟩ (.int .i8 (f (0 + g15.toNat * 1)))] (⟨(zh (by omega)), At.cell hf23 (hcs (0 + g15.toNat * 1) (by omega))⟩) ?_
  refine ze ?_
  rw [(show ((f (0 + g15.toNat * 1)) : Int) = (f g15.toNat) from (by rw [show 0 + g15.toNat * 1 = g15.toNat from by omega]))]
  have hsq := hf g15.toNat (by omega)
  refine zn ?_
  refine zo 8 [rz 0 p, (5, .int .i8 (otherC S.turn)), (6, .int .u64 (bnot B.empty)), (8, .int .i8 (f g15.toNat)), (9, .int .u64 B.black), (31, .slice (some ⟨q, 0, none⟩) n cap), iz 32 ((n : Nat) : Int), iz 33 g15] [.cell ⟨p, 0, none⟩ (pz b), .cell ⟨b, 13, none⟩ (.int .u64 B.black)] (⟨At.cell hf21 rfl, At.cell hf22 rfl⟩) ?_
  refine zz ?_
  refine w_cut (γ := Int) (fun g27 => [(0, pz p), (5, .int .i8 (otherC S.turn)), (6, .int .u64 (bnot B.empty)), (8, .int .i8 (f g15.toNat)), (9, .int .u64 g27), (31, .slice (some ⟨q, 0, none⟩) n cap), (32, .int .i64 ((n : Nat) : Int)), (33, .int .i64 g15)]) (fun g27 w_ => Mod [] w16 w_ ∧ g27 = (bif S.turn == 2 then B.white else B.black)) ?_ ?_
  ·have v30 : Mod [] w16 w16 := Mod.refl _ _
   refine zw ?_
   refine zs 1 [rz 0 p, (5, .int .i8 (otherC S.turn)), (6, .int .u64 (bnot B.empty)), (8, .int .i8 (f g15.toNat)), (9, .int .u64 B.black), (31, .slice (some ⟨q, 0, none⟩) n cap), iz 32 ((n : Nat) : Int), iz 33 g15, rz 44 p] ?_
   refine zk (some 45) (c66 hf21 ) ?_
   intro w31 v32
   have hf33 := At.on hf21 v32
   have hf34 := At.on hf22 v32
   have v39 := zt v30 v32
   refine zs 1 [rz 0 p, (5, .int .i8 (otherC S.turn)), (6, .int .u64 (bnot B.empty)), (8, .int .i8 (f g15.toNat)), (9, .int .u64 B.black), (31, .slice (some ⟨q, 0, none⟩) n cap), iz 32 ((n : Nat) : Int), iz 33 g15, (46, .bool (S.turn == 2))] ?_
   refine zz ?_
   refine zc (fun hc40 => ?_) fun hc40 => ?_
   ·have y40 := eq_of_beq hc40
    refine w_region ?_
    refine zo 8 [rz 0 p, (5, .int .i8 (otherC S.turn)), (6, .int .u64 (bnot B.empty)), (8, .int .i8 (f g15.toNat)), (9, .int .u64 B.white), (31, .slice (some ⟨q, 0, none⟩) n cap), iz 32 ((n : Nat) : Int), iz 33 g15] [.cell ⟨p, 0, none⟩ (pz b), .cell ⟨b, 12, none⟩ (.int .u64 B.white)] (⟨At.cell hf33 rfl, At.cell hf34 rfl⟩) ?_
    refine ze ?_
    exact zb B.white ⟨v39, (by simp only [hc40, cond_true, cond_false])⟩
   have y40 := ne_of_beq_false hc40
   refine w_skip ?_
   exact zb B.black ⟨v39, (by simp only [hc40, cond_true, cond_false])⟩
  rintro _ w28 ⟨v29, rfl⟩
  have hf41 := At.on hf21 v29
  have hf42 := At.on hf22 v29
  have z44 := Glob.on z24 v29
  have v45 := zt v25 v29
  have v46 := zt v17 v29
  refine w_seq ?_
  refine w_seq ?_
  refine w_quiet (by kernel_rfl) (by kernel_rfl) ?_
  refine zq 2 [rz 0 p, (5, .int .i8 (otherC S.turn)), (6, .int .u64 (bnot B.empty)), (8, .int .i8 (f g15.toNat)), (9, .int .u64 (bif S.turn == 2 then B.white else B.black)), (31, .slice (some ⟨q, 0, none⟩) n cap), iz 32 ((n : Nat) : Int), iz 33 g15, (54, .int .u64 (bnot B.empty)), (55, .int .i8 (f g15.toNat))] ?_
  refine zqk (some 56) (fun w_ hC => c120 (bnot B.empty) (f g15.toNat) w_ (Glob.on z44 hC) (by omega) (by omega)) ?_
  refine zq 2 [rz 0 p, (5, .int .i8 (otherC S.turn)), (6, .int .u64 (bnot B.empty)), (8, .int .i8 (f g15.toNat)), (9, .int .u64 (bif S.turn == 2 then B.white else B.black)), (31, .slice (some ⟨q, 0, none⟩) n cap), iz 32 ((n : Nat) : Int), iz 33 g15, (56, .int .u64 (diaA (bnot B.empty) (f g15.toNat))), (57, .int .u64 (bnot B.empty)), (58, .int .i8 (f g15.toNat))] ?_
  refine zqk (some 59) (fun w_ hC => c121 (bnot B.empty) (f g15.toNat) w_ (Glob.on z44 hC) (by omega) (by omega) (rank_ok (by omega)) (file_ok (by omega))) ?_
  refine zqo 10 [rz 0 p, (5, .int .i8 (otherC S.turn)), (6, .int .u64 (bnot B.empty)), (8, .int .i8 (f g15.toNat)), (31, .slice (some ⟨q, 0, none⟩) n cap), iz 32 ((n : Nat) : Int), iz 33 g15, (69, .bool ((bor (band (bor (diaA (bnot B.empty) (f g15.toNat)) (hvA (bnot B.empty) (f g15.toNat))) (bif S.turn == 2 then B.white else B.black)) (band (knightAt (f g15.toNat)) (bif S.turn == 2 then B.white else B.black))) == 0))] [.prop (0 ≤ (f g15.toNat) ∧ (f g15.toNat) < ((64 : Nat) : Int)), .cell ⟨1, (0 + (f g15.toNat).toNat * 1), none⟩ (.int .u64 (knightAt (f g15.toNat)))] (fun _ hC => ⟨(zh (by omega)), (Glob.knight (Glob.on z44 hC) (0 + (f g15.toNat).toNat * 1) (by omega))⟩) ?_
  refine q_out (by kernel_rfl) ?_
  intro w47 v48
  have hf49 := At.on hf41 v48
  have hf50 := At.on hf42 v48
  have z52 := Glob.on z44 v48
  have v53 := zt v45 v48
  have v54 := zt v46 v48
  refine n_then ?_
  refine zc (fun hc55 => ?_) fun hc55 => ?_
  ·have y55 := eq_of_beq hc55
   refine w_exit ?_
   refine x_then ?_
   refine x_hit ?_
   refine n_then ?_
   refine w_region ?_
   refine zs 2 [rz 0 p, (5, .int .i8 (otherC S.turn)), (6, .int .u64 (bnot B.empty)), (31, .slice (some ⟨q, 0, none⟩) n cap), iz 32 ((n : Nat) : Int), iz 33 (IntKind.i64.wrap (g15 + 1))] ?_
   refine ze ?_
   rw [zi (g15 + 1) (by omega) (by omega)]
   exact l_back (g15 + 1) [0, 5, 6, 31, 32, 33] (by kernel_rfl) (by omega) ⟨by constructor <;> (try simp only []) <;> omega, v54, (forall_step hx20 (by simp only [att1, hc55, cond_true, cond_false]))⟩
  have y55 := ne_of_beq_false hc55
  refine w_skip ?_
  refine n_then ?_
  refine w_seq ?_
  refine w_quiet (by kernel_rfl) (by kernel_rfl) ?_
  refine zqo 5 [rz 0 p, (5, .int .i8 (otherC S.turn)), (6, .int .u64 (bnot B.empty)), (8, .int .i8 (f g15.toNat)), (31, .slice (some ⟨q, 0, none⟩) n cap), iz 32 ((n : Nat) : Int), iz 33 g15, rz 73 b, (74, .int .i8 (otherC S.turn))] [.cell ⟨p, 0, none⟩ (pz b)] (fun _ hC => At.cell (At.on hf49 hC) rfl) ?_
  refine zqk (some 75) (fun w_ hC => c101 (Glob.on z52 hC) 2 (otherC S.turn) (by omega) (by assumption)) ?_
  refine zqk (some 76) (fun w_ hC => c97 (At.on hf50 hC) (newP 2 (otherC S.turn))) ?_
  refine zq 1 [rz 0 p, (5, .int .i8 (otherC S.turn)), (6, .int .u64 (bnot B.empty)), (8, .int .i8 (f g15.toNat)), (10, .int .u64 (Bd.of B (newP 2 (otherC S.turn)))), (31, .slice (some ⟨q, 0, none⟩) n cap), iz 32 ((n : Nat) : Int), iz 33 g15] ?_
  refine q_out (by kernel_rfl) ?_
  intro w56 v57
  have hf58 := At.on hf49 v57
  have hf59 := At.on hf50 v57
  have z61 := Glob.on z52 v57
  have v62 := zt v53 v57
  have v63 := zt v54 v57
  refine zn ?_
  refine zs 2 [rz 0 p, (5, .int .i8 (otherC S.turn)), (6, .int .u64 (bnot B.empty)), (8, .int .i8 (f g15.toNat)), (10, .int .u64 (Bd.of B (newP 2 (otherC S.turn)))), (31, .slice (some ⟨q, 0, none⟩) n cap), iz 32 ((n : Nat) : Int), iz 33 g15, (77, .int .u64 (bnot B.empty)), (78, .int .i8 (f g15.toNat))] ?_
  refine zk (some 79) (c120 (bnot B.empty) (f g15.toNat) w56 z61 (by omega) (by omega)) ?_
  intro w64 v65
  have hf66 := At.on hf58 v65
  have hf67 := At.on hf59 v65
  have z69 := Glob.on z61 v65
  have v70 := zt v62 v65
  have v71 := zt v63 v65
  refine zs 2 [rz 0 p, (5, .int .i8 (otherC S.turn)), (6, .int .u64 (bnot B.empty)), (8, .int .i8 (f g15.toNat)), (10, .int .u64 (Bd.of B (newP 2 (otherC S.turn)))), (31, .slice (some ⟨q, 0, none⟩) n cap), iz 32 ((n : Nat) : Int), iz 33 g15, (79, .int .u64 (diaA (bnot B.empty) (f g15.toNat))), (80, .int .u64 (bnot B.empty)), (81, .int .i8 (f g15.toNat))] ?_
  refine zk (some 82) (c121 (bnot B.empty) (f g15.toNat) w64 z69 (by omega) (by omega) (rank_ok (by omega)) (file_ok (by omega))) ?_
  intro w72 v73
  have hf74 := At.on hf66 v73
  have hf75 := At.on hf67 v73
  have z77 := Glob.on z69 v73
  have v78 := zt v70 v73
  have v79 := zt v71 v73
  refine zs 4 [rz 0 p, (5, .int .i8 (otherC S.turn)), (6, .int .u64 (bnot B.empty)), (8, .int .i8 (f g15.toNat)), (11, .int .u64 (band (bor (diaA (bnot B.empty) (f g15.toNat)) (hvA (bnot B.empty) (f g15.toNat))) (Bd.of B (newP 2 (otherC S.turn))))), (31, .slice (some ⟨q, 0, none⟩) n cap), iz 32 ((n : Nat) : Int), iz 33 g15] ?_
  refine zz ?_
  refine w_seq ?_
  refine zw ?_
  refine zs 2 [rz 0 p, (5, .int .i8 (otherC S.turn)), (6, .int .u64 (bnot B.empty)), (8, .int .i8 (f g15.toNat)), (31, .slice (some ⟨q, 0, none⟩) n cap), iz 32 ((n : Nat) : Int), iz 33 g15, (87, .bool ((band (bor (diaA (bnot B.empty) (f g15.toNat)) (hvA (bnot B.empty) (f g15.toNat))) (Bd.of B (newP 2 (otherC S.turn)))) != 0))] ?_
  refine zz ?_
  refine zc (fun hc80 => ?_) fun hc80 => ?_
  ·refine zw ?_
   refine zs 1 [(4, .bool true)] ?_
   refine zz ?_
   refine w_ret ?_
   refine r_then ?_
   refine r_block ?_
   refine r_then ?_
   refine r_then ?_
   refine r_block ?_
   refine r_then ?_
   exact ret1 rfl rfl (⟨ret_bool (attAny_hit (by omega) (by assumption) (by simp only [att1, hc55, hc80, cond_true, cond_false])), v78⟩)
  refine w_skip ?_
  refine n_then ?_
  refine w_seq ?_
  refine w_quiet (by kernel_rfl) (by kernel_rfl) ?_
  refine zqo 5 [rz 0 p, (5, .int .i8 (otherC S.turn)), (6, .int .u64 (bnot B.empty)), (8, .int .i8 (f g15.toNat)), (31, .slice (some ⟨q, 0, none⟩) n cap), iz 32 ((n : Nat) : Int), iz 33 g15, rz 91 b, (92, .int .i8 (otherC S.turn))] [.cell ⟨p, 0, none⟩ (pz b)] (fun _ hC => At.cell (At.on hf74 hC) rfl) ?_
  refine zqk (some 93) (fun w_ hC => c101 (Glob.on z77 hC) 3 (otherC S.turn) (by omega) (by assumption)) ?_
  refine zqk (some 94) (fun w_ hC => c97 (At.on hf75 hC) (newP 3 (otherC S.turn))) ?_
  refine zq 1 [rz 0 p, (5, .int .i8 (otherC S.turn)), (6, .int .u64 (bnot B.empty)), (8, .int .i8 (f g15.toNat)), (12, .int .u64 (Bd.of B (newP 3 (otherC S.turn)))), (31, .slice (some ⟨q, 0, none⟩) n cap), iz 32 ((n : Nat) : Int), iz 33 g15] ?_
  refine q_out (by kernel_rfl) ?_
  intro w81 v82
  have hf83 := At.on hf74 v82
  have hf84 := At.on hf75 v82
  have z86 := Glob.on z77 v82
  have v87 := zt v78 v82
  have v88 := zt v79 v82
  refine zn ?_
  refine zs 2 [rz 0 p, (5, .int .i8 (otherC S.turn)), (6, .int .u64 (bnot B.empty)), (8, .int .i8 (f g15.toNat)), (12, .int .u64 (Bd.of B (newP 3 (otherC S.turn)))), (31, .slice (some ⟨q, 0, none⟩) n cap), iz 32 ((n : Nat) : Int), iz 33 g15, (95, .int .u64 (bnot B.empty)), (96, .int .i8 (f g15.toNat))] ?_
  refine zk (some 97) (c121 (bnot B.empty) (f g15.toNat) w81 z86 (by omega) (by omega) (rank_ok (by omega)) (file_ok (by omega))) ?_
  intro w89 v90
  have hf91 := At.on hf83 v90
  have hf92 := At.on hf84 v90
  have z94 := Glob.on z86 v90
  have v95 := zt v87 v90
  have v96 := zt v88 v90
  refine zs 3 [rz 0 p, (5, .int .i8 (otherC S.turn)), (6, .int .u64 (bnot B.empty)), (8, .int .i8 (f g15.toNat)), (11, .int .u64 (band (hvA (bnot B.empty) (f g15.toNat)) (Bd.of B (newP 3 (otherC S.turn))))), (31, .slice (some ⟨q, 0, none⟩) n cap), iz 32 ((n : Nat) : Int), iz 33 g15] ?_
  refine zz ?_
  refine w_seq ?_
  refine zw ?_
  refine zs 2 [rz 0 p, (5, .int .i8 (otherC S.turn)), (6, .int .u64 (bnot B.empty)), (8, .int .i8 (f g15.toNat)), (31, .slice (some ⟨q, 0, none⟩) n cap), iz 32 ((n : Nat) : Int), iz 33 g15, (101, .bool ((band (hvA (bnot B.empty) (f g15.toNat)) (Bd.of B (newP 3 (otherC S.turn)))) != 0))] ?_
  refine zz ?_
  refine zc (fun hc97 => ?_) fun hc97 => ?_
  ·refine zw ?_
   refine zs 1 [(4, .bool true)] ?_
   refine zz ?_
   refine w_ret ?_
   refine r_then ?_
   refine r_block ?_
   refine r_then ?_
   refine r_then ?_
   refine r_block ?_
   refine r_then ?_
   exact ret1 rfl rfl (⟨ret_bool (attAny_hit (by omega) (by assumption) (by simp only [att1, hc55, hc80, hc97, cond_true, cond_false])), v95⟩)
  refine w_skip ?_
  refine n_then ?_
  refine w_seq ?_
  refine w_quiet (by kernel_rfl) (by kernel_rfl) ?_
  refine zqo 5 [rz 0 p, (5, .int .i8 (otherC S.turn)), (6, .int .u64 (bnot B.empty)), (8, .int .i8 (f g15.toNat)), (31, .slice (some ⟨q, 0, none⟩) n cap), iz 32 ((n : Nat) : Int), iz 33 g15, rz 105 b, (106, .int .i8 (otherC S.turn))] [.cell ⟨p, 0, none⟩ (pz b)] (fun _ hC => At.cell (At.on hf91 hC) rfl) ?_
  refine zqk (some 107) (fun w_ hC => c101 (Glob.on z94 hC) 4 (otherC S.turn) (by omega) (by assumption)) ?_
  refine zqk (some 108) (fun w_ hC => c97 (At.on hf92 hC) (newP 4 (otherC S.turn))) ?_
  refine zq 1 [rz 0 p, (5, .int .i8 (otherC S.turn)), (6, .int .u64 (bnot B.empty)), (8, .int .i8 (f g15.toNat)), (13, .int .u64 (Bd.of B (newP 4 (otherC S.turn)))), (31, .slice (some ⟨q, 0, none⟩) n cap), iz 32 ((n : Nat) : Int), iz 33 g15] ?_
  refine q_out (by kernel_rfl) ?_
  intro w98 v99
  have hf100 := At.on hf91 v99
  have hf101 := At.on hf92 v99
  have z103 := Glob.on z94 v99
  have v104 := zt v95 v99
  have v105 := zt v96 v99
  refine zn ?_
  refine zs 2 [rz 0 p, (5, .int .i8 (otherC S.turn)), (6, .int .u64 (bnot B.empty)), (8, .int .i8 (f g15.toNat)), (13, .int .u64 (Bd.of B (newP 4 (otherC S.turn)))), (31, .slice (some ⟨q, 0, none⟩) n cap), iz 32 ((n : Nat) : Int), iz 33 g15, (109, .int .u64 (bnot B.empty)), (110, .int .i8 (f g15.toNat))] ?_
  refine zk (some 111) (c120 (bnot B.empty) (f g15.toNat) w98 z103 (by omega) (by omega)) ?_
  intro w106 v107
  have hf108 := At.on hf100 v107
  have hf109 := At.on hf101 v107
  have z111 := Glob.on z103 v107
  have v112 := zt v104 v107
  have v113 := zt v105 v107
  refine zs 3 [rz 0 p, (5, .int .i8 (otherC S.turn)), (6, .int .u64 (bnot B.empty)), (8, .int .i8 (f g15.toNat)), (11, .int .u64 (band (diaA (bnot B.empty) (f g15.toNat)) (Bd.of B (newP 4 (otherC S.turn))))), (31, .slice (some ⟨q, 0, none⟩) n cap), iz 32 ((n : Nat) : Int), iz 33 g15] ?_
  refine zz ?_
  refine w_seq ?_
  refine zw ?_
  refine zs 2 [rz 0 p, (5, .int .i8 (otherC S.turn)), (6, .int .u64 (bnot B.empty)), (8, .int .i8 (f g15.toNat)), (31, .slice (some ⟨q, 0, none⟩) n cap), iz 32 ((n : Nat) : Int), iz 33 g15, (115, .bool ((band (diaA (bnot B.empty) (f g15.toNat)) (Bd.of B (newP 4 (otherC S.turn)))) != 0))] ?_
  refine zz ?_
  refine zc (fun hc114 => ?_) fun hc114 => ?_
  ·refine zw ?_
   refine zs 1 [(4, .bool true)] ?_
   refine zz ?_
   refine w_ret ?_
   refine r_then ?_
   refine r_block ?_
   refine r_then ?_
   refine r_then ?_
   refine r_block ?_
   refine r_then ?_
   exact ret1 rfl rfl (⟨ret_bool (attAny_hit (by omega) (by assumption) (by simp only [att1, hc55, hc80, hc97, hc114, cond_true, cond_false])), v112⟩)
  refine w_skip ?_
  refine n_then ?_
  refine w_seq ?_
  refine w_quiet (by kernel_rfl) (by kernel_rfl) ?_
  refine zqo 5 [rz 0 p, (5, .int .i8 (otherC S.turn)), (6, .int .u64 (bnot B.empty)), (8, .int .i8 (f g15.toNat)), (31, .slice (some ⟨q, 0, none⟩) n cap), iz 32 ((n : Nat) : Int), iz 33 g15, rz 119 b, (120, .int .i8 (otherC S.turn))] [.cell ⟨p, 0, none⟩ (pz b)] (fun _ hC => At.cell (At.on hf108 hC) rfl) ?_
  refine zqk (some 121) (fun w_ hC => c101 (Glob.on z111 hC) 5 (otherC S.turn) (by omega) (by assumption)) ?_
  refine zqk (some 122) (fun w_ hC => c97 (At.on hf109 hC) (newP 5 (otherC S.turn))) ?_
  refine zq 1 [rz 0 p, (5, .int .i8 (otherC S.turn)), (6, .int .u64 (bnot B.empty)), (8, .int .i8 (f g15.toNat)), (14, .int .u64 (Bd.of B (newP 5 (otherC S.turn)))), (31, .slice (some ⟨q, 0, none⟩) n cap), iz 32 ((n : Nat) : Int), iz 33 g15] ?_
  refine q_out (by kernel_rfl) ?_
  intro w115 v116
  have hf117 := At.on hf108 v116
  have hf118 := At.on hf109 v116
  have z120 := Glob.on z111 v116
  have v121 := zt v112 v116
  have v122 := zt v113 v116
  refine zn ?_
  refine zo 6 [rz 0 p, (5, .int .i8 (otherC S.turn)), (6, .int .u64 (bnot B.empty)), (8, .int .i8 (f g15.toNat)), (11, .int .u64 (band (knightAt (f g15.toNat)) (Bd.of B (newP 5 (otherC S.turn))))), (31, .slice (some ⟨q, 0, none⟩) n cap), iz 32 ((n : Nat) : Int), iz 33 g15] [.prop (0 ≤ (f g15.toNat) ∧ (f g15.toNat) < ((64 : Nat) : Int)), .cell ⟨1, (0 + (f g15.toNat).toNat * 1), none⟩ (.int .u64 (knightAt (f g15.toNat)))] (⟨(zh (by omega)), (Glob.knight z120 (0 + (f g15.toNat).toNat * 1) (by omega))⟩) ?_
  refine zz ?_
  refine w_seq ?_
  refine zw ?_
  refine zs 2 [rz 0 p, (5, .int .i8 (otherC S.turn)), (6, .int .u64 (bnot B.empty)), (8, .int .i8 (f g15.toNat)), (31, .slice (some ⟨q, 0, none⟩) n cap), iz 32 ((n : Nat) : Int), iz 33 g15, (129, .bool ((band (knightAt (f g15.toNat)) (Bd.of B (newP 5 (otherC S.turn)))) != 0))] ?_
  refine zz ?_
  refine zc (fun hc123 => ?_) fun hc123 => ?_
  ·refine zw ?_
   refine zs 1 [(4, .bool true)] ?_
   refine zz ?_
   refine w_ret ?_
   refine r_then ?_
   refine r_block ?_
   refine r_then ?_
   refine r_then ?_
   refine r_block ?_
   refine r_then ?_
   exact ret1 rfl rfl (⟨ret_bool (attAny_hit (by omega) (by assumption) (by simp only [att1, hc55, hc80, hc97, hc114, hc123, cond_true, cond_false])), v121⟩)
  refine w_skip ?_
  refine n_then ?_
  refine w_seq ?_
  refine zw ?_
  refine zs 1 [rz 0 p, (5, .int .i8 (otherC S.turn)), (6, .int .u64 (bnot B.empty)), (8, .int .i8 (f g15.toNat)), (31, .slice (some ⟨q, 0, none⟩) n cap), iz 32 ((n : Nat) : Int), iz 33 g15, rz 130 p] ?_
  refine zk (some 131) (c66 hf117 ) ?_
  intro w124 v125
  have hf126 := At.on hf117 v125
  have hf127 := At.on hf118 v125
  have z129 := Glob.on z120 v125
  have v130 := zt v121 v125
  have v131 := zt v122 v125
  refine zs 1 [rz 0 p, (5, .int .i8 (otherC S.turn)), (6, .int .u64 (bnot B.empty)), (8, .int .i8 (f g15.toNat)), (31, .slice (some ⟨q, 0, none⟩) n cap), iz 32 ((n : Nat) : Int), iz 33 g15, (132, .bool (S.turn == 1))] ?_
  refine zz ?_
  refine zc (fun hc132 => ?_) fun hc132 => ?_
  ·have y132 := eq_of_beq hc132
   refine zw ?_
   refine zo 11 [rz 0 p, (5, .int .i8 (otherC S.turn)), (6, .int .u64 (bnot B.empty)), (8, .int .i8 (f g15.toNat)), (15, .int .u64 (shlU (band (band (B.bb 12) 18374403900871474942) 72057594037927935) 7)), (31, .slice (some ⟨q, 0, none⟩) n cap), iz 32 ((n : Nat) : Int), iz 33 g15] [.cell ⟨p, 0, none⟩ (pz b), .cell ⟨b, 11, none⟩ (.int .u64 (B.bb 12)), .prop (0 ≤ (7 : Int))] (⟨At.cell hf126 rfl, At.cell hf127 rfl, (zh (by omega))⟩) ?_
   refine zx ?_
   refine zo 11 [rz 0 p, (5, .int .i8 (otherC S.turn)), (6, .int .u64 (bnot B.empty)), (8, .int .i8 (f g15.toNat)), (15, .int .u64 (shlU (band (band (B.bb 12) 18374403900871474942) 72057594037927935) 7)), (16, .int .u64 (shlU (band (band (B.bb 12) 9187201950435737471) 72057594037927935) 9)), (31, .slice (some ⟨q, 0, none⟩) n cap), iz 32 ((n : Nat) : Int), iz 33 g15] [.cell ⟨p, 0, none⟩ (pz b), .cell ⟨b, 11, none⟩ (.int .u64 (B.bb 12)), .prop (0 ≤ (9 : Int))] (⟨At.cell hf126 rfl, At.cell hf127 rfl, (zh (by omega))⟩) ?_
   refine zx ?_
   refine zs 4 [rz 0 p, (5, .int .i8 (otherC S.turn)), (6, .int .u64 (bnot B.empty)), (8, .int .i8 (f g15.toNat)), (31, .slice (some ⟨q, 0, none⟩) n cap), iz 32 ((n : Nat) : Int), iz 33 g15, (155, .int .u64 (bor (shlU (band (band (B.bb 12) 18374403900871474942) 72057594037927935) 7) (shlU (band (band (B.bb 12) 9187201950435737471) 72057594037927935) 9))), (156, .int .i8 (f g15.toNat))] ?_
   refine zk (some 157) (c99 (f g15.toNat) w124 (by omega) (by omega)) ?_
   intro w133 v134
   have hf135 := At.on hf126 v134
   have hf136 := At.on hf127 v134
   have z138 := Glob.on z129 v134
   have v139 := zt v130 v134
   have v140 := zt v131 v134
   refine zs 2 [rz 0 p, (5, .int .i8 (otherC S.turn)), (6, .int .u64 (bnot B.empty)), (8, .int .i8 (f g15.toNat)), (11, .int .u64 (band (bor (shlU (band (band (B.bb 12) 18374403900871474942) 72057594037927935) 7) (shlU (band (band (B.bb 12) 9187201950435737471) 72057594037927935) 9)) (bbSq (f g15.toNat)))), (31, .slice (some ⟨q, 0, none⟩) n cap), iz 32 ((n : Nat) : Int), iz 33 g15] ?_
   refine zx ?_
   refine zs 2 [rz 0 p, (5, .int .i8 (otherC S.turn)), (6, .int .u64 (bnot B.empty)), (8, .int .i8 (f g15.toNat)), (31, .slice (some ⟨q, 0, none⟩) n cap), iz 32 ((n : Nat) : Int), iz 33 g15, (160, .bool ((band (bor (shlU (band (band (B.bb 12) 18374403900871474942) 72057594037927935) 7) (shlU (band (band (B.bb 12) 9187201950435737471) 72057594037927935) 9)) (bbSq (f g15.toNat))) != 0))] ?_
   refine zz ?_
   refine zc (fun hc141 => ?_) fun hc141 => ?_
   ·refine zw ?_
    refine zs 1 [(4, .bool true)] ?_
    refine zz ?_
    refine w_ret ?_
    refine r_then ?_
    refine r_block ?_
    refine r_then ?_
    refine r_then ?_
    refine r_block ?_
    refine r_then ?_
    exact ret1 rfl rfl (⟨ret_bool (attAny_hit (by omega) (by assumption) (by simp only [att1, hc55, hc80, hc97, hc114, hc123, hc132, hc141, cond_true, cond_false])), v139⟩)
   refine w_skip ?_
   refine n_then ?_
   refine w_seq ?_
   refine w_quiet (by kernel_rfl) (by kernel_rfl) ?_
   refine zqo 5 [rz 0 p, (5, .int .i8 (otherC S.turn)), (6, .int .u64 (bnot B.empty)), (8, .int .i8 (f g15.toNat)), (31, .slice (some ⟨q, 0, none⟩) n cap), iz 32 ((n : Nat) : Int), iz 33 g15, rz 192 b, (193, .int .i8 (otherC S.turn))] [.cell ⟨p, 0, none⟩ (pz b)] (fun _ hC => At.cell (At.on hf135 hC) rfl) ?_
   refine zqk (some 194) (fun w_ hC => c101 (Glob.on z138 hC) 1 (otherC S.turn) (by omega) (by assumption)) ?_
   refine zqk (some 195) (fun w_ hC => c97 (At.on hf136 hC) (newP 1 (otherC S.turn))) ?_
   refine zq 1 [rz 0 p, (5, .int .i8 (otherC S.turn)), (6, .int .u64 (bnot B.empty)), (8, .int .i8 (f g15.toNat)), (19, .int .u64 (Bd.of B (newP 1 (otherC S.turn)))), (31, .slice (some ⟨q, 0, none⟩) n cap), iz 32 ((n : Nat) : Int), iz 33 g15] ?_
   refine q_out (by kernel_rfl) ?_
   intro w142 v143
   have z147 := Glob.on z138 v143
   have v148 := zt v139 v143
   have v149 := zt v140 v143
   refine zn ?_
   refine zo 6 [rz 0 p, (5, .int .i8 (otherC S.turn)), (6, .int .u64 (bnot B.empty)), (11, .int .u64 (band (kingAt (f g15.toNat)) (Bd.of B (newP 1 (otherC S.turn))))), (31, .slice (some ⟨q, 0, none⟩) n cap), iz 32 ((n : Nat) : Int), iz 33 g15] [.prop (0 ≤ (f g15.toNat) ∧ (f g15.toNat) < ((64 : Nat) : Int)), .cell ⟨2, (0 + (f g15.toNat).toNat * 1), none⟩ (.int .u64 (kingAt (f g15.toNat)))] (⟨(zh (by omega)), (Glob.king z147 (0 + (f g15.toNat).toNat * 1) (by omega))⟩) ?_
   refine zx ?_
   refine zs 2 [rz 0 p, (5, .int .i8 (otherC S.turn)), (6, .int .u64 (bnot B.empty)), (31, .slice (some ⟨q, 0, none⟩) n cap), iz 32 ((n : Nat) : Int), iz 33 g15, (202, .bool ((band (kingAt (f g15.toNat)) (Bd.of B (newP 1 (otherC S.turn)))) != 0))] ?_
   refine zz ?_
   refine zc (fun hc150 => ?_) fun hc150 => ?_
   ·refine zw ?_
    refine zs 1 [(4, .bool true)] ?_
    refine zz ?_
    refine w_ret ?_
    refine r_block ?_
    refine r_then ?_
    refine r_then ?_
    refine r_block ?_
    refine r_then ?_
    exact ret1 rfl rfl (⟨ret_bool (attAny_hit (by omega) (by assumption) (by simp only [att1, hc55, hc80, hc97, hc114, hc123, hc132, hc141, hc150, cond_true, cond_false])), v148⟩)
   refine w_skip ?_
   refine n_block ?_
   refine n_then ?_
   refine w_region ?_
   refine zs 2 [rz 0 p, (5, .int .i8 (otherC S.turn)), (6, .int .u64 (bnot B.empty)), (31, .slice (some ⟨q, 0, none⟩) n cap), iz 32 ((n : Nat) : Int), iz 33 (IntKind.i64.wrap (g15 + 1))] ?_
   refine ze ?_
   rw [zi (g15 + 1) (by omega) (by omega)]
   exact l_back (g15 + 1) [0, 5, 6, 31, 32, 33] (by kernel_rfl) (by omega) ⟨by constructor <;> (try simp only []) <;> omega, v149, (forall_step hx20 (by simp only [att1, hc55, hc80, hc97, hc114, hc123, hc132, hc141, hc150, cond_true, cond_false]))⟩
  have y132 := ne_of_beq_false hc132
  refine zw ?_
  refine zo 11 [rz 0 p, (5, .int .i8 (otherC S.turn)), (6, .int .u64 (bnot B.empty)), (8, .int .i8 (f g15.toNat)), (17, .int .u64 (shrU (band (band (B.bb 6) 18374403900871474942) 18446744073709551360) 9)), (31, .slice (some ⟨q, 0, none⟩) n cap), iz 32 ((n : Nat) : Int), iz 33 g15] [.cell ⟨p, 0, none⟩ (pz b), .cell ⟨b, 5, none⟩ (.int .u64 (B.bb 6)), .prop (0 ≤ (9 : Int))] (⟨At.cell hf126 rfl, At.cell hf127 rfl, (zh (by omega))⟩) ?_
  refine zx ?_
  refine zo 11 [rz 0 p, (5, .int .i8 (otherC S.turn)), (6, .int .u64 (bnot B.empty)), (8, .int .i8 (f g15.toNat)), (17, .int .u64 (shrU (band (band (B.bb 6) 18374403900871474942) 18446744073709551360) 9)), (18, .int .u64 (shrU (band (band (B.bb 6) 9187201950435737471) 18446744073709551360) 7)), (31, .slice (some ⟨q, 0, none⟩) n cap), iz 32 ((n : Nat) : Int), iz 33 g15] [.cell ⟨p, 0, none⟩ (pz b), .cell ⟨b, 5, none⟩ (.int .u64 (B.bb 6)), .prop (0 ≤ (7 : Int))] (⟨At.cell hf126 rfl, At.cell hf127 rfl, (zh (by omega))⟩) ?_
  refine zx ?_
  refine zs 4 [rz 0 p, (5, .int .i8 (otherC S.turn)), (6, .int .u64 (bnot B.empty)), (8, .int .i8 (f g15.toNat)), (31, .slice (some ⟨q, 0, none⟩) n cap), iz 32 ((n : Nat) : Int), iz 33 g15, (183, .int .u64 (bor (shrU (band (band (B.bb 6) 18374403900871474942) 18446744073709551360) 9) (shrU (band (band (B.bb 6) 9187201950435737471) 18446744073709551360) 7))), (184, .int .i8 (f g15.toNat))] ?_
  refine zk (some 185) (c99 (f g15.toNat) w124 (by omega) (by omega)) ?_
  intro w151 v152
  have hf153 := At.on hf126 v152
  have hf154 := At.on hf127 v152
  have z156 := Glob.on z129 v152
  have v157 := zt v130 v152
  have v158 := zt v131 v152
  refine zs 2 [rz 0 p, (5, .int .i8 (otherC S.turn)), (6, .int .u64 (bnot B.empty)), (8, .int .i8 (f g15.toNat)), (11, .int .u64 (band (bor (shrU (band (band (B.bb 6) 18374403900871474942) 18446744073709551360) 9) (shrU (band (band (B.bb 6) 9187201950435737471) 18446744073709551360) 7)) (bbSq (f g15.toNat)))), (31, .slice (some ⟨q, 0, none⟩) n cap), iz 32 ((n : Nat) : Int), iz 33 g15] ?_
  refine zx ?_
  refine zs 2 [rz 0 p, (5, .int .i8 (otherC S.turn)), (6, .int .u64 (bnot B.empty)), (8, .int .i8 (f g15.toNat)), (31, .slice (some ⟨q, 0, none⟩) n cap), iz 32 ((n : Nat) : Int), iz 33 g15, (188, .bool ((band (bor (shrU (band (band (B.bb 6) 18374403900871474942) 18446744073709551360) 9) (shrU (band (band (B.bb 6) 9187201950435737471) 18446744073709551360) 7)) (bbSq (f g15.toNat))) != 0))] ?_
  refine zz ?_
  refine zc (fun hc159 => ?_) fun hc159 => ?_
  ·refine zw ?_
   refine zs 1 [(4, .bool true)] ?_
   refine zz ?_
   refine w_ret ?_
   refine r_then ?_
   refine r_block ?_
   refine r_then ?_
   refine r_then ?_
   refine r_block ?_
   refine r_then ?_
   exact ret1 rfl rfl (⟨ret_bool (attAny_hit (by omega) (by assumption) (by simp only [att1, hc55, hc80, hc97, hc114, hc123, hc132, hc159, cond_true, cond_false])), v157⟩)
  refine w_skip ?_
  refine n_then ?_
  refine w_seq ?_
  refine w_quiet (by kernel_rfl) (by kernel_rfl) ?_
  refine zqo 5 [rz 0 p, (5, .int .i8 (otherC S.turn)), (6, .int .u64 (bnot B.empty)), (8, .int .i8 (f g15.toNat)), (31, .slice (some ⟨q, 0, none⟩) n cap), iz 32 ((n : Nat) : Int), iz 33 g15, rz 192 b, (193, .int .i8 (otherC S.turn))] [.cell ⟨p, 0, none⟩ (pz b)] (fun _ hC => At.cell (At.on hf153 hC) rfl) ?_
  refine zqk (some 194) (fun w_ hC => c101 (Glob.on z156 hC) 1 (otherC S.turn) (by omega) (by assumption)) ?_
  refine zqk (some 195) (fun w_ hC => c97 (At.on hf154 hC) (newP 1 (otherC S.turn))) ?_
  refine zq 1 [rz 0 p, (5, .int .i8 (otherC S.turn)), (6, .int .u64 (bnot B.empty)), (8, .int .i8 (f g15.toNat)), (19, .int .u64 (Bd.of B (newP 1 (otherC S.turn)))), (31, .slice (some ⟨q, 0, none⟩) n cap), iz 32 ((n : Nat) : Int), iz 33 g15] ?_
  refine q_out (by kernel_rfl) ?_
  intro w160 v161
  have z165 := Glob.on z156 v161
  have v166 := zt v157 v161
  have v167 := zt v158 v161
  refine zn ?_
  refine zo 6 [rz 0 p, (5, .int .i8 (otherC S.turn)), (6, .int .u64 (bnot B.empty)), (11, .int .u64 (band (kingAt (f g15.toNat)) (Bd.of B (newP 1 (otherC S.turn))))), (31, .slice (some ⟨q, 0, none⟩) n cap), iz 32 ((n : Nat) : Int), iz 33 g15] [.prop (0 ≤ (f g15.toNat) ∧ (f g15.toNat) < ((64 : Nat) : Int)), .cell ⟨2, (0 + (f g15.toNat).toNat * 1), none⟩ (.int .u64 (kingAt (f g15.toNat)))] (⟨(zh (by omega)), (Glob.king z165 (0 + (f g15.toNat).toNat * 1) (by omega))⟩) ?_
  refine zx ?_
  refine zs 2 [rz 0 p, (5, .int .i8 (otherC S.turn)), (6, .int .u64 (bnot B.empty)), (31, .slice (some ⟨q, 0, none⟩) n cap), iz 32 ((n : Nat) : Int), iz 33 g15, (202, .bool ((band (kingAt (f g15.toNat)) (Bd.of B (newP 1 (otherC S.turn)))) != 0))] ?_
  refine zz ?_
  refine zc (fun hc168 => ?_) fun hc168 => ?_
  ·refine zw ?_
   refine zs 1 [(4, .bool true)] ?_
   refine zz ?_
   refine w_ret ?_
   refine r_block ?_
   refine r_then ?_
   refine r_then ?_
   refine r_block ?_
   refine r_then ?_
   exact ret1 rfl rfl (⟨ret_bool (attAny_hit (by omega) (by assumption) (by simp only [att1, hc55, hc80, hc97, hc114, hc123, hc132, hc159, hc168, cond_true, cond_false])), v166⟩)
  refine w_skip ?_
  refine n_block ?_
  refine n_then ?_
  refine w_region ?_
  refine zs 2 [rz 0 p, (5, .int .i8 (otherC S.turn)), (6, .int .u64 (bnot B.empty)), (31, .slice (some ⟨q, 0, none⟩) n cap), iz 32 ((n : Nat) : Int), iz 33 (IntKind.i64.wrap (g15 + 1))] ?_
  refine ze ?_
  rw [zi (g15 + 1) (by omega) (by omega)]
  exact l_back (g15 + 1) [0, 5, 6, 31, 32, 33] (by kernel_rfl) (by omega) ⟨by constructor <;> (try simp only []) <;> omega, v167, (forall_step hx20 (by simp only [att1, hc55, hc80, hc97, hc114, hc123, hc132, hc159, hc168, cond_true, cond_false]))⟩
 have y26 := of_decide_eq_false hc26
 refine w_exit ?_
 refine x_then ?_
 refine x_then ?_
 refine x_hit ?_
 refine zn ?_
 refine zs 1 [(4, .bool false)] ?_
 refine zz ?_
 refine w_ret ?_
 exact ret1 rfl rfl (⟨ret_bool (attAny_miss (by assumption) hx20), v25⟩)
theorem cells1 {a : Int} : ∀ i, i < 1 → (#[.int .i8 a] : Array Value)[i]? = some (.int .i8 ((fun (_ : Nat) => a) i)) := by
 intro i h; obtain rfl : i = 0 := by omega
 rfl
theorem cells2 {a b : Int} : ∀ i, i < 2 → (#[.int .i8 a, .int .i8 b] : Array Value)[i]? = some (.int .i8 ((fun i => if i = 0 then a else b) i)) := by
 intro i h; rcases (by omega : i = 0 ∨ i = 1) with rfl | rfl <;> rfl
def epBB (ep : Int) : Int := bif ep != (-1 : Int) then bbSq ep else (0 : Int)
def pawnMv (B : Bd) (S : Ps) (sq : Int) : Int :=
 bif S.turn == (1 : Int) then
  bor (bor (bor (band (shrU (band (band (bbSq sq) (18374403900871474942 : Int)) (18446744073709551360 : Int)) (9 : Int)) (bor B.black (epBB S.ep)))
   (band (shrU (band (band (bbSq sq) (9187201950435737471 : Int)) (18446744073709551360 : Int)) (7 : Int)) (bor B.black (epBB S.ep))))
   (band (shr8 (band (bbSq sq) (18446744073709551360 : Int))) B.empty))
   (band (shr8 (band (band (shr8 (band (bbSq sq) (18446744073709551360 : Int))) B.empty) (280375465082880 : Int))) B.empty)
 else
  bor (bor (bor (band (shlU (band (band (bbSq sq) (18374403900871474942 : Int)) (72057594037927935 : Int)) (7 : Int)) (bor B.white (epBB S.ep)))
   (band (shlU (band (band (bbSq sq) (9187201950435737471 : Int)) (72057594037927935 : Int)) (9 : Int)) (bor B.white (epBB S.ep))))
   (band (shl8 (band (bbSq sq) (72057594037927935 : Int))) B.empty))
   (band (shl8 (band (band (shl8 (band (bbSq sq) (72057594037927935 : Int))) B.empty) (16711680 : Int))) B.empty)
def possMv (B : Bd) (S : Ps) (pt sq : Int) : Int :=
 bif pt == (1 : Int) then kingAt sq else bif pt == (2 : Int) then bor (diaA (bnot B.empty) sq) (hvA (bnot B.empty) sq) else
 bif pt == (3 : Int) then hvA (bnot B.empty) sq else bif pt == (4 : Int) then diaA (bnot B.empty) sq else
 bif pt == (5 : Int) then knightAt sq else bif pt == (6 : Int) then pawnMv B S sq else (0 : Int)
def kingSq (B : Bd) (turn : Int) : Int := bif turn == (2 : Int) then B.bk else B.wk
def inChk (B : Bd) (turn : Int) : Bool := bif kingSq B turn == (-1 : Int) then false else att1 B turn (kingSq B turn)
def tg1 (B : Bd) (S : Ps) (M : Mv) : Int :=
 bif occd B M.s2 then orTag M.tags (4 : Int) else bif (M.s2 == S.ep) && (pType (pieceAt B M.s1) == (6 : Int)) then orTag M.tags (8 : Int) else M.tags
def kingHome (p s1 : Int) : Bool := ((p == (1 : Int)) && (s1 == (4 : Int))) || ((p == (7 : Int)) && (s1 == (60 : Int)))
def tg2 (B : Bd) (S : Ps) (M : Mv) : Int :=
 bif kingHome (pieceAt B M.s1) M.s1 then
  (bif M.s2 == (2 : Int) then orTag (tg1 B S M) (2 : Int) else bif M.s2 == (58 : Int) then orTag (tg1 B S M) (2 : Int) else
   bif M.s2 == (6 : Int) then orTag (tg1 B S M) (1 : Int) else bif M.s2 == (62 : Int) then orTag (tg1 B S M) (1 : Int) else tg1 B S M)
 else tg1 B S M
def nextB (B : Bd) (S : Ps) (M : Mv) : Bd := updB B ⟨tg2 B S M, M.s1, M.s2, M.promo⟩
def tg3 (B : Bd) (S : Ps) (M : Mv) : Int := bif inChk (nextB B S M) S.turn then orTag (tg2 B S M) (32 : Int) else tg2 B S M
def tg4 (B : Bd) (S : Ps) (M : Mv) : Int := bif inChk (nextB B S M) (otherC S.turn) then orTag (tg3 B S M) (16 : Int) else tg3 B S M
def KingsOk (B : Bd) : Prop := (-1 ≤ B.wk ∧ B.wk ≤ 63) ∧ (-1 ≤ B.bk ∧ B.bk ≤ 63)
theorem updB_kings {B : Bd} {M : Mv} (h : KingsOk B) (h2 : 0 ≤ M.s2 ∧ M.s2 ≤ 63) : KingsOk (updB B M) := by
 have key : ∀ X : Bd, (X.wk = B.wk ∧ X.bk = B.bk) → KingsOk (moveK (calcB X) M) := by
  intro X ⟨h1, h3⟩
  obtain ⟨ha, hb⟩ := h
  unfold moveK KingsOk calcB
  simp only [h1, h3]
  split
  ·exact ⟨by constructor <;> (dsimp only; omega), hb⟩
  split
  ·exact ⟨by simpa [h1] using ha, by constructor <;> (dsimp only; omega)⟩
  exact ⟨by simpa [h1] using ha, by simpa [h3] using hb⟩
 refine key _ ?_
 have c1 : ∀ (p1 : Int) (X : Bd), (updPromo M p1 X).wk = X.wk ∧ (updPromo M p1 X).bk = X.bk := by intro p1 X; unfold updPromo; cases (M.promo != 0) <;> exact ⟨rfl, rfl⟩
 have c2 : ∀ (p1 : Int) (X : Bd), (updEP M p1 X).wk = X.wk ∧ (updEP M p1 X).bk = X.bk := by intro p1 X; unfold updEP; cases (hasTag M 8) <;> cases (pColor p1 == 1) <;> exact ⟨rfl, rfl⟩
 have c3 : ∀ (p1 : Int) (X : Bd), (updCastle M p1 X).wk = X.wk ∧ (updCastle M p1 X).bk = X.bk := by
  intro p1 X; unfold updCastle; cases (pColor p1 == 1) <;> cases (pColor p1 == 2) <;> cases (hasTag M 1) <;> cases (hasTag M 2) <;> exact ⟨rfl, rfl⟩
 exact ⟨(c3 _ _).1.trans ((c2 _ _).1.trans (c1 _ _).1), (c3 _ _).2.trans ((c2 _ _).2.trans (c1 _ _).2)⟩
theorem mv_eq {pos : Value} {M M' : Mv} (h : M = M') : Obj.cells (mvCells pos M) 98 (0, 0) = .cells (mvCells pos M') 98 (0, 0) := by rw [h]
theorem tags_eq {a a' b c d : Int} (h : a = a') : (⟨a, b, c, d⟩ : Mv) = ⟨a', b, c, d⟩ := by rw [h]
theorem king_bounds {B : Bd} {turn : Int} (h : KingsOk B) (hk : (kingSq B turn == -1) = false) : 0 ≤ kingSq B turn ∧ kingSq B turn ≤ 63 := by
 have := ne_of_beq_false hk
 unfold kingSq at *; unfold KingsOk at h
 cases e : (turn == 2) <;> simp only [e, cond_true, cond_false] at * <;> omega
theorem c143 {p b : Nat} {vm : Value} {S : Ps} {w : World} (hp : At w p (.cells (psCells b vm S) 110 (0, 0))) {B : Bd} (hb : At w b (.cells (bdCells B) 135 (0, 0))) (sq : Int) (h : 0 ≤ sq ∧ sq ≤ 63) (he : -1 ≤ S.ep ∧ S.ep ≤ 63) :
  Calls Tryz.prog 143 [pz p, .int .i8 sq].toArray w (fun e w' => e = .returned (.int .u64 (pawnMv B S sq)) ∧ Mod [] w w') := by
 have v0 : Mod [] w w := Mod.refl _ _
 refine enter (n := 144) Tryz.func143 rfl Tryz.ntmps143 rfl ?_
 refine zw ?_
 refine zs 1 [rz 0 p, (1, .int .i8 sq)] ?_
 refine zx ?_
 refine zs 1 [rz 0 p, (15, .int .i8 sq)] ?_
 refine zk (some 16) (c99 sq w (by omega) (by omega)) ?_
 intro w1 v2
 have hf3 := At.on hp v2
 have hf4 := At.on hb v2
 have v5 := zt v0 v2
 refine zs 1 [rz 0 p, (5, .int .u64 (bbSq sq))] ?_
 refine zx ?_
 refine zs 1 [rz 0 p, (5, .int .u64 (bbSq sq)), (6, .int .u64 0)] ?_
 refine zz ?_
 refine w_cut (γ := Int) (fun g6 => [(0, pz p), (5, .int .u64 (bbSq sq)), (6, .int .u64 g6)]) (fun g6 w_ => Mod [] w1 w_ ∧ g6 = (epBB S.ep)) ?_ ?_
 ·have v9 : Mod [] w1 w1 := Mod.refl _ _
  refine zw ?_
  refine zo 5 [rz 0 p, (5, .int .u64 (bbSq sq)), (6, .int .u64 0), (21, .bool (S.ep != (-1 : Int)))] [.cell ⟨p, 6, none⟩ (.int .i8 S.ep)] (At.cell hf3 rfl) ?_
  refine zz ?_
  refine zc (fun hc10 => ?_) fun hc10 => ?_
  ·have hne := bne_iff_ne.1 hc10
   refine w_region ?_
   refine zo 4 [rz 0 p, (5, .int .u64 (bbSq sq)), (25, .int .i8 S.ep)] [.cell ⟨p, 6, none⟩ (.int .i8 S.ep)] (At.cell hf3 rfl) ?_
   refine zk (some 26) (c99 S.ep w1 (by omega) (by omega)) ?_
   intro w11 v12
   have v16 := zt v9 v12
   refine zs 1 [rz 0 p, (5, .int .u64 (bbSq sq)), (6, .int .u64 (bbSq S.ep))] ?_
   refine ze ?_
   exact c_back (bbSq S.ep) [0, 5, 6] (by kernel_rfl) ⟨v16, (by simp only [epBB, hc10, cond_true, cond_false])⟩
  refine w_skip ?_
  exact c_back 0 [0, 5, 6] (by kernel_rfl) ⟨v9, (by simp only [epBB, hc10, cond_true, cond_false])⟩
 rintro _ w7 ⟨v8, rfl⟩
 have hf17 := At.on hf3 v8
 have hf18 := At.on hf4 v8
 have v19 := zt v5 v8
 refine w_seq ?_
 refine zw ?_
 refine zs 1 [rz 0 p, (5, .int .u64 (bbSq sq)), (6, .int .u64 (epBB S.ep)), rz 27 p] ?_
 refine zk (some 28) (c66 hf17 ) ?_
 intro w20 v21
 have hf22 := At.on hf17 v21
 have hf23 := At.on hf18 v21
 have v24 := zt v19 v21
 refine zs 1 [rz 0 p, (5, .int .u64 (bbSq sq)), (6, .int .u64 (epBB S.ep)), (29, .bool (S.turn == 1))] ?_
 refine zz ?_
 refine zc (fun hc25 => ?_) fun hc25 => ?_
 ·have y25 := eq_of_beq hc25
  refine zw ?_
  refine zo 15 [rz 0 p, (5, .int .u64 (bbSq sq)), (6, .int .u64 (epBB S.ep)), (7, .int .u64 (band (shrU (band (band (bbSq sq) 18374403900871474942) 18446744073709551360) 9) (bor B.black (epBB S.ep))))] [.prop (0 ≤ (9 : Int)), .cell ⟨p, 0, none⟩ (pz b), .cell ⟨b, 13, none⟩ (.int .u64 B.black)] (⟨(zh (by omega)), At.cell hf22 rfl, At.cell hf23 rfl⟩) ?_
  refine zx ?_
  refine zo 15 [rz 0 p, (5, .int .u64 (bbSq sq)), (7, .int .u64 (band (shrU (band (band (bbSq sq) 18374403900871474942) 18446744073709551360) 9) (bor B.black (epBB S.ep)))), (8, .int .u64 (band (shrU (band (band (bbSq sq) 9187201950435737471) 18446744073709551360) 7) (bor B.black (epBB S.ep))))] [.prop (0 ≤ (7 : Int)), .cell ⟨p, 0, none⟩ (pz b), .cell ⟨b, 13, none⟩ (.int .u64 B.black)] (⟨(zh (by omega)), At.cell hf22 rfl, At.cell hf23 rfl⟩) ?_
  refine zx ?_
  refine zo 12 [rz 0 p, (7, .int .u64 (band (shrU (band (band (bbSq sq) 18374403900871474942) 18446744073709551360) 9) (bor B.black (epBB S.ep)))), (8, .int .u64 (band (shrU (band (band (bbSq sq) 9187201950435737471) 18446744073709551360) 7) (bor B.black (epBB S.ep)))), (9, .int .u64 (band (shr8 (band (bbSq sq) 18446744073709551360)) B.empty))] [.prop (0 ≤ (8 : Int)), .cell ⟨p, 0, none⟩ (pz b), .cell ⟨b, 14, none⟩ (.int .u64 B.empty)] (⟨(zh (by omega)), At.cell hf22 rfl, At.cell hf23 rfl⟩) ?_
  refine zx ?_
  refine zo 12 [(7, .int .u64 (band (shrU (band (band (bbSq sq) 18374403900871474942) 18446744073709551360) 9) (bor B.black (epBB S.ep)))), (8, .int .u64 (band (shrU (band (band (bbSq sq) 9187201950435737471) 18446744073709551360) 7) (bor B.black (epBB S.ep)))), (9, .int .u64 (band (shr8 (band (bbSq sq) 18446744073709551360)) B.empty)), (10, .int .u64 (band (shr8 (band (band (shr8 (band (bbSq sq) 18446744073709551360)) B.empty) 280375465082880)) B.empty))] [.prop (0 ≤ (8 : Int)), .cell ⟨p, 0, none⟩ (pz b), .cell ⟨b, 14, none⟩ (.int .u64 B.empty)] (⟨(zh (by omega)), At.cell hf22 rfl, At.cell hf23 rfl⟩) ?_
  refine zx ?_
  refine zs 8 [(4, .int .u64 (bor (bor (bor (band (shrU (band (band (bbSq sq) 18374403900871474942) 18446744073709551360) 9) (bor B.black (epBB S.ep))) (band (shrU (band (band (bbSq sq) 9187201950435737471) 18446744073709551360) 7) (bor B.black (epBB S.ep)))) (band (shr8 (band (bbSq sq) 18446744073709551360)) B.empty)) (band (shr8 (band (band (shr8 (band (bbSq sq) 18446744073709551360)) B.empty) 280375465082880)) B.empty)))] ?_
  refine zz ?_
  refine w_ret ?_
  refine r_then ?_
  exact ret1 rfl rfl (⟨ret_int (by simp only [pawnMv, hc25, cond_true, cond_false]), v24⟩)
 have y25 := ne_of_beq_false hc25
 refine w_skip ?_
 refine zn ?_
 refine zo 15 [rz 0 p, (5, .int .u64 (bbSq sq)), (6, .int .u64 (epBB S.ep)), (11, .int .u64 (band (shlU (band (band (bbSq sq) 18374403900871474942) 72057594037927935) 7) (bor B.white (epBB S.ep))))] [.prop (0 ≤ (7 : Int)), .cell ⟨p, 0, none⟩ (pz b), .cell ⟨b, 12, none⟩ (.int .u64 B.white)] (⟨(zh (by omega)), At.cell hf22 rfl, At.cell hf23 rfl⟩) ?_
 refine zx ?_
 refine zo 15 [rz 0 p, (5, .int .u64 (bbSq sq)), (11, .int .u64 (band (shlU (band (band (bbSq sq) 18374403900871474942) 72057594037927935) 7) (bor B.white (epBB S.ep)))), (12, .int .u64 (band (shlU (band (band (bbSq sq) 9187201950435737471) 72057594037927935) 9) (bor B.white (epBB S.ep))))] [.prop (0 ≤ (9 : Int)), .cell ⟨p, 0, none⟩ (pz b), .cell ⟨b, 12, none⟩ (.int .u64 B.white)] (⟨(zh (by omega)), At.cell hf22 rfl, At.cell hf23 rfl⟩) ?_
 refine zx ?_
 refine zo 12 [rz 0 p, (11, .int .u64 (band (shlU (band (band (bbSq sq) 18374403900871474942) 72057594037927935) 7) (bor B.white (epBB S.ep)))), (12, .int .u64 (band (shlU (band (band (bbSq sq) 9187201950435737471) 72057594037927935) 9) (bor B.white (epBB S.ep)))), (13, .int .u64 (band (shl8 (band (bbSq sq) 72057594037927935)) B.empty))] [.prop (0 ≤ (8 : Int)), .cell ⟨p, 0, none⟩ (pz b), .cell ⟨b, 14, none⟩ (.int .u64 B.empty)] (⟨(zh (by omega)), At.cell hf22 rfl, At.cell hf23 rfl⟩) ?_
 refine zx ?_
 refine zo 12 [(11, .int .u64 (band (shlU (band (band (bbSq sq) 18374403900871474942) 72057594037927935) 7) (bor B.white (epBB S.ep)))), (12, .int .u64 (band (shlU (band (band (bbSq sq) 9187201950435737471) 72057594037927935) 9) (bor B.white (epBB S.ep)))), (13, .int .u64 (band (shl8 (band (bbSq sq) 72057594037927935)) B.empty)), (14, .int .u64 (band (shl8 (band (band (shl8 (band (bbSq sq) 72057594037927935)) B.empty) 16711680)) B.empty))] [.prop (0 ≤ (8 : Int)), .cell ⟨p, 0, none⟩ (pz b), .cell ⟨b, 14, none⟩ (.int .u64 B.empty)] (⟨(zh (by omega)), At.cell hf22 rfl, At.cell hf23 rfl⟩) ?_
 refine zx ?_
 refine zs 8 [(4, .int .u64 (bor (bor (bor (band (shlU (band (band (bbSq sq) 18374403900871474942) 72057594037927935) 7) (bor B.white (epBB S.ep))) (band (shlU (band (band (bbSq sq) 9187201950435737471) 72057594037927935) 9) (bor B.white (epBB S.ep)))) (band (shl8 (band (bbSq sq) 72057594037927935)) B.empty)) (band (shl8 (band (band (shl8 (band (bbSq sq) 72057594037927935)) B.empty) 16711680)) B.empty)))] ?_
 refine zz ?_
 refine w_ret ?_
 exact ret1 rfl rfl (⟨ret_int (by simp only [pawnMv, hc25, cond_true, cond_false]), v24⟩)
theorem c134 {c : GC} {p b : Nat} {vm : Value} {S : Ps} {w : World} (hp : At w p (.cells (psCells b vm S) 110 (0, 0))) {B : Bd} (hb : At w b (.cells (bdCells B) 135 (0, 0))) (hG : Glob c w) (pt sq : Int) (h : 0 ≤ sq ∧ sq ≤ 63) (he : -1 ≤ S.ep ∧ S.ep ≤ 63) :
  Calls Tryz.prog 134 [pz p, .int .i8 pt, .int .i8 sq].toArray w (fun e w' => e = .returned (.int .u64 (possMv B S pt sq)) ∧ Mod [] w w') := by
 have v0 : Mod [] w w := Mod.refl _ _
 refine enter (n := 70) Tryz.func134 rfl Tryz.ntmps134 rfl ?_
 refine zw ?_
 refine zs 1 [rz 0 p, (1, .int .i8 pt), (2, .int .i8 sq)] ?_
 refine zz ?_
 refine w_seq ?_
 refine zw ?_
 refine zs 1 [rz 0 p, (2, .int .i8 sq), (7, .int .i8 pt)] ?_
 refine zz ?_
 refine w_block ?_
 refine zw ?_
 refine zs 2 [rz 0 p, (2, .int .i8 sq), (7, .int .i8 pt), (8, .bool (pt == 1))] ?_
 refine zz ?_
 refine zc (fun hc1 => ?_) fun hc1 => ?_
 ·have y1 := eq_of_beq hc1
  refine zw ?_
  refine zo 4 [(6, .int .u64 (kingAt sq))] [.prop (0 ≤ sq ∧ sq < ((64 : Nat) : Int)), .cell ⟨2, (0 + sq.toNat * 1), none⟩ (.int .u64 (kingAt sq))] (⟨(zh (by omega)), (Glob.king hG (0 + sq.toNat * 1) (by omega))⟩) ?_
  refine zz ?_
  refine w_ret ?_
  refine r_block ?_
  refine r_then ?_
  exact ret1 rfl rfl (⟨ret_int (by simp only [possMv, hc1, cond_true, cond_false]), v0⟩)
 have y1 := ne_of_beq_false hc1
 refine zw ?_
 refine zs 2 [rz 0 p, (2, .int .i8 sq), (7, .int .i8 pt), (13, .bool (pt == 2))] ?_
 refine zz ?_
 refine zc (fun hc2 => ?_) fun hc2 => ?_
 ·have y2 := eq_of_beq hc2
  refine w_seq ?_
  refine w_quiet (by kernel_rfl) (by kernel_rfl) ?_
  refine zqo 9 [rz 0 p, (2, .int .i8 sq), (22, .int .u64 (bnot B.empty)), (23, .int .i8 sq)] [.cell ⟨p, 0, none⟩ (pz b), .cell ⟨b, 14, none⟩ (.int .u64 B.empty)] (fun _ hC => ⟨At.cell (At.on hp hC) rfl, At.cell (At.on hb hC) rfl⟩) ?_
  refine zqk (some 24) (fun w_ hC => c120 (bnot B.empty) sq w_ (Glob.on hG hC) (by omega) (by omega)) ?_
  refine zqo 9 [(24, .int .u64 (diaA (bnot B.empty) sq)), (32, .int .u64 (bnot B.empty)), (33, .int .i8 sq)] [.cell ⟨p, 0, none⟩ (pz b), .cell ⟨b, 14, none⟩ (.int .u64 B.empty)] (fun _ hC => ⟨At.cell (At.on hp hC) rfl, At.cell (At.on hb hC) rfl⟩) ?_
  refine zqk (some 34) (fun w_ hC => c121 (bnot B.empty) sq w_ (Glob.on hG hC) (by omega) (by omega) (rank_ok (by omega)) (file_ok (by omega))) ?_
  refine zq 2 [(6, .int .u64 (bor (diaA (bnot B.empty) sq) (hvA (bnot B.empty) sq)))] ?_
  refine q_out (by kernel_rfl) ?_
  intro w3 v4
  have v8 := zt v0 v4
  refine n_then ?_
  refine w_ret ?_
  refine r_block ?_
  refine r_then ?_
  exact ret1 rfl rfl (⟨ret_int (by simp only [possMv, hc1, hc2, cond_true, cond_false]), v8⟩)
 have y2 := ne_of_beq_false hc2
 refine zw ?_
 refine zs 2 [rz 0 p, (2, .int .i8 sq), (7, .int .i8 pt), (36, .bool (pt == 3))] ?_
 refine zz ?_
 refine zc (fun hc9 => ?_) fun hc9 => ?_
 ·have y9 := eq_of_beq hc9
  refine zw ?_
  refine zo 9 [(45, .int .u64 (bnot B.empty)), (46, .int .i8 sq)] [.cell ⟨p, 0, none⟩ (pz b), .cell ⟨b, 14, none⟩ (.int .u64 B.empty)] (⟨At.cell hp rfl, At.cell hb rfl⟩) ?_
  refine zk (some 47) (c121 (bnot B.empty) sq w hG (by omega) (by omega) (rank_ok (by omega)) (file_ok (by omega))) ?_
  intro w10 v11
  have v15 := zt v0 v11
  refine zs 1 [(6, .int .u64 (hvA (bnot B.empty) sq))] ?_
  refine zz ?_
  refine w_ret ?_
  refine r_block ?_
  refine r_then ?_
  exact ret1 rfl rfl (⟨ret_int (by simp only [possMv, hc1, hc2, hc9, cond_true, cond_false]), v15⟩)
 have y9 := ne_of_beq_false hc9
 refine zw ?_
 refine zs 2 [rz 0 p, (2, .int .i8 sq), (7, .int .i8 pt), (48, .bool (pt == 4))] ?_
 refine zz ?_
 refine zc (fun hc16 => ?_) fun hc16 => ?_
 ·have y16 := eq_of_beq hc16
  refine zw ?_
  refine zo 9 [(57, .int .u64 (bnot B.empty)), (58, .int .i8 sq)] [.cell ⟨p, 0, none⟩ (pz b), .cell ⟨b, 14, none⟩ (.int .u64 B.empty)] (⟨At.cell hp rfl, At.cell hb rfl⟩) ?_
  refine zk (some 59) (c120 (bnot B.empty) sq w hG (by omega) (by omega)) ?_
  intro w17 v18
  have v22 := zt v0 v18
  refine zs 1 [(6, .int .u64 (diaA (bnot B.empty) sq))] ?_
  refine zz ?_
  refine w_ret ?_
  refine r_block ?_
  refine r_then ?_
  exact ret1 rfl rfl (⟨ret_int (by simp only [possMv, hc1, hc2, hc9, hc16, cond_true, cond_false]), v22⟩)
 have y16 := ne_of_beq_false hc16
 refine zw ?_
 refine zs 2 [rz 0 p, (2, .int .i8 sq), (7, .int .i8 pt), (60, .bool (pt == 5))] ?_
 refine zz ?_
 refine zc (fun hc23 => ?_) fun hc23 => ?_
 ·have y23 := eq_of_beq hc23
  refine zw ?_
  refine zo 4 [(6, .int .u64 (knightAt sq))] [.prop (0 ≤ sq ∧ sq < ((64 : Nat) : Int)), .cell ⟨1, (0 + sq.toNat * 1), none⟩ (.int .u64 (knightAt sq))] (⟨(zh (by omega)), (Glob.knight hG (0 + sq.toNat * 1) (by omega))⟩) ?_
  refine zz ?_
  refine w_ret ?_
  refine r_block ?_
  refine r_then ?_
  exact ret1 rfl rfl (⟨ret_int (by simp only [possMv, hc1, hc2, hc9, hc16, hc23, cond_true, cond_false]), v0⟩)
 have y23 := ne_of_beq_false hc23
 refine zw ?_
 refine zs 2 [rz 0 p, (2, .int .i8 sq), (65, .bool (pt == 6))] ?_
 refine zz ?_
 refine zc (fun hc24 => ?_) fun hc24 => ?_
 ·have y24 := eq_of_beq hc24
  refine zw ?_
  refine zs 2 [rz 67 p, (68, .int .i8 sq)] ?_
  refine reg_call 143 [pz p, .int .i8 sq] (some 69) (by kernel_rfl) (c143 hp hb sq (by omega) (by omega)) ?_
  rintro _ w25 ⟨rfl, v26⟩; refine ⟨_, rfl, ?_⟩
  have v30 := zt v0 v26
  refine zs 1 [(6, .int .u64 (pawnMv B S sq))] ?_
  refine zz ?_
  refine w_ret ?_
  refine r_block ?_
  refine r_then ?_
  exact ret1 rfl rfl (⟨ret_int (by simp only [possMv, hc1, hc2, hc9, hc16, hc23, hc24, cond_true, cond_false]), v30⟩)
 have y24 := ne_of_beq_false hc24
 refine w_skip ?_
 refine n_block ?_
 refine zn ?_
 refine zs 1 [(6, .int .u64 0)] ?_
 refine zz ?_
 refine w_ret ?_
 exact ret1 rfl rfl (⟨ret_int (by simp only [possMv, hc1, hc2, hc9, hc16, hc23, hc24, cond_true, cond_false]), v0⟩)
theorem c91 {c : GC} {p b : Nat} {vm : Value} {S : Ps} {w : World} (hp : At w p (.cells (psCells b vm S) 110 (0, 0))) {B : Bd} (hb : At w b (.cells (bdCells B) 135 (0, 0))) (hG : Glob c w) (hk : KingsOk B) (hT : S.turn = 1 ∨ S.turn = 2) :
  Calls Tryz.prog 91 [pz p].toArray w (fun e w' => e = .returned (.bool (inChk B S.turn)) ∧ Mod [] w w') := by
 have v0 : Mod [] w w := Mod.refl _ _
 refine enter (n := 27) Tryz.func91 rfl Tryz.ntmps91 rfl ?_
 refine zw ?_
 refine zs 1 [rz 0 p] ?_
 refine zx ?_
 refine zo 8 [rz 0 p, (3, .int .i8 B.wk)] [.cell ⟨p, 0, none⟩ (pz b), .cell ⟨b, 15, none⟩ (.int .i8 B.wk)] (⟨At.cell hp rfl, At.cell hb rfl⟩) ?_
 refine zz ?_
 refine w_cut (γ := Int) (fun g1 => [(0, pz p), (3, .int .i8 g1)]) (fun g1 w_ => Mod [] w w_ ∧ g1 = (kingSq B S.turn)) ?_ ?_
 ·have v4 : Mod [] w w := Mod.refl _ _
  refine zw ?_
  refine zs 1 [rz 0 p, (3, .int .i8 B.wk), rz 11 p] ?_
  refine zk (some 12) (c66 hp ) ?_
  intro w5 v6
  have hf7 := At.on hp v6
  have hf8 := At.on hb v6
  have v11 := zt v4 v6
  refine zs 1 [rz 0 p, (3, .int .i8 B.wk), (13, .bool (S.turn == 2))] ?_
  refine zz ?_
  refine zc (fun hc12 => ?_) fun hc12 => ?_
  ·have y12 := eq_of_beq hc12
   refine w_region ?_
   refine zo 8 [rz 0 p, (3, .int .i8 B.bk)] [.cell ⟨p, 0, none⟩ (pz b), .cell ⟨b, 16, none⟩ (.int .i8 B.bk)] (⟨At.cell hf7 rfl, At.cell hf8 rfl⟩) ?_
   refine ze ?_
   exact zb B.bk ⟨v11, (by simp only [kingSq, hc12, cond_true, cond_false])⟩
  have y12 := ne_of_beq_false hc12
  refine w_skip ?_
  exact zb B.wk ⟨v11, (by simp only [kingSq, hc12, cond_true, cond_false])⟩
 rintro _ w2 ⟨v3, rfl⟩
 have hf13 := At.on hp v3
 have hf14 := At.on hb v3
 have z15 := Glob.on hG v3
 have v16 := zt v0 v3
 refine w_seq ?_
 refine zw ?_
 refine zs 2 [rz 0 p, (3, .int .i8 (kingSq B S.turn)), (22, .bool ((kingSq B S.turn) == (-1 : Int)))] ?_
 refine zz ?_
 refine zc (fun hc17 => ?_) fun hc17 => ?_
 ·have y17 := eq_of_beq hc17
  refine zw ?_
  refine zs 1 [(2, .bool false)] ?_
  refine zz ?_
  refine w_ret ?_
  refine r_then ?_
  exact ret1 rfl rfl (⟨ret_bool (by simp only [inChk, hc17, attAny_one, cond_true, cond_false]), v16⟩)
 have y17 := ne_of_beq_false hc17
 refine w_skip ?_
 refine n_then ?_
 refine w_seq ?_
 have hkb := king_bounds hk hc17
 refine w_region ?_
 refine zs 2 [rz 23 p, (24, .int .i8 (kingSq B S.turn))] ?_
 refine reg_bslice (#[.int .i8 (kingSq B S.turn)]) 87 1 (some 25) (by kernel_rfl) ?_
 intro b18 w19 hn20
 have hb21 : c.base ≤ b18 := Glob.lt z15 hn20
 have hb22 := Nat.le_trans v16.size hn20.base
 have v23 := hn20.mod
 have hf24 := At.on hf13 v23
 have hf25 := At.on hf14 v23
 have z26 := Glob.on z15 v23
 have v27 := zt v16 v23
 have hf28 := hn20.at_
 refine reg_call 110 [pz p, .slice (some ⟨b18, 0, none⟩) 1 1] (some 26) (by kernel_rfl) (c110 (n := 1) (S := S) hf24 hf25 hf28 z26 (fun _ => (kingSq B S.turn)) cells1 (fun i h => (by omega)) (by assumption) (by omega)) ?_
 rintro _ w29 ⟨rfl, v30⟩; refine ⟨_, rfl, ?_⟩
 have v35 := zt v27 v30
 refine zs 1 [(2, .bool (attAny B S.turn 1 (fun _ => (kingSq B S.turn))))] ?_
 refine zz ?_
 refine w_ret ?_
 exact ret1 rfl rfl (⟨ret_bool (by simp only [inChk, hc17, attAny_one, cond_true, cond_false]), v35⟩)
theorem c135 {c : GC} {p b : Nat} {vm : Value} {S : Ps} {w : World} (hp : At w p (.cells (psCells b vm S) 110 (0, 0))) {B : Bd} (hb : At w b (.cells (bdCells B) 135 (0, 0))) {m : Nat} {pos : Value} {M : Mv} (hm : At w m (.cells (mvCells pos M) 98 (0, 0))) (hG : Glob c w) (hs : 0 ≤ M.s1 ∧ M.s1 ≤ 63) (hs2 : 0 ≤ M.s2 ∧ M.s2 ≤ 63) (hp1 : 1 ≤ pieceAt B M.s1 ∧ pieceAt B M.s1 ≤ 12) (hcol : pColor (pieceAt B M.s1) = 1 ∨ pColor (pieceAt B M.s1) = 2) (hpro : M.promo ≠ 0 → 1 ≤ M.promo ∧ M.promo ≤ 6) (hnew : M.promo ≠ 0 → 1 ≤ newP M.promo (pColor (pieceAt B M.s1)) ∧ newP M.promo (pColor (pieceAt B M.s1)) ≤ 12) (hbase : c.base ≤ m) (hk : KingsOk B) (hT : S.turn = 1 ∨ S.turn = 2) :
  Calls Tryz.prog 135 [.pointer (some ⟨m, 0, none⟩), .pointer (some ⟨p, 0, none⟩)].toArray w (fun e w' => e = .returned (.tuple #[]) ∧ Mod [m] w w' ∧ At w' m (.cells (mvCells pos ⟨tg4 B S M, M.s1, M.s2, M.promo⟩) 98 (0, 0))) := by
 have v0 : Mod [m] w w := Mod.refl _ _
 have hoc := otherC_or hT
 have hkn : KingsOk (nextB B S M) := updB_kings hk hs2
 refine enter (n := 100) Tryz.func135 rfl Tryz.ntmps135 rfl ?_
 refine w_seq ?_
 refine w_quiet (by kernel_rfl) (by kernel_rfl) ?_
 refine zqo 8 [rz 0 m, rz 1 p, rz 9 b, (13, .int .i8 M.s1)] [.cell ⟨p, 0, none⟩ (pz b), .cell ⟨m, 8, none⟩ (.int .i8 M.s1)] (fun _ hC => ⟨At.cell (At.on hp hC) rfl, At.cell (At.on hm hC) rfl⟩) ?_
 refine zqk (some 14) (fun w_ hC => c72 (At.on hb hC) (Glob.on hG hC) M.s1) ?_
 refine zq 1 [rz 0 m, rz 1 p, (4, .int .i8 (pieceAt B M.s1))] ?_
 refine q_out (by kernel_rfl) ?_
 intro w1 v2
 have hf3 := At.on hp v2
 have hf4 := At.on hb v2
 have hf5 := At.on hm v2
 have z6 := Glob.on hG v2
 have v7 := Mod.trans v0 (Mod.of_nil v2)
 refine n_then ?_
 refine w_cut (γ := Unit) (fun _ => [(0, pz m), (1, pz p), (4, .int .i8 (pieceAt B M.s1))]) (fun _ w_ => Mod [m] w1 w_ ∧ At w_ m (.cells (mvCells pos ⟨(tg1 B S M), M.s1, M.s2, M.promo⟩) 98 (0, 0))) ?_ ?_
 ·have v11 : Mod [m] w1 w1 := Mod.refl _ _
  refine w_seq ?_
  refine w_quiet (by kernel_rfl) (by kernel_rfl) ?_
  refine zqo 8 [rz 0 m, rz 1 p, (4, .int .i8 (pieceAt B M.s1)), rz 18 b, (22, .int .i8 M.s2)] [.cell ⟨p, 0, none⟩ (pz b), .cell ⟨m, 9, none⟩ (.int .i8 M.s2)] (fun _ hC => ⟨At.cell (At.on hf3 hC) rfl, At.cell (At.on hf5 hC) rfl⟩) ?_
  refine zqk (some 23) (fun w_ hC => c144 (At.on hf4 hC) M.s2) ?_
  refine q_out (by kernel_rfl) ?_
  intro w12 v13
  have hf14 := At.on hf3 v13
  have hf16 := At.on hf5 v13
  have v19 := Mod.trans v11 (Mod.of_nil v13)
  refine n_then ?_
  refine zc (fun hc20 => ?_) fun hc20 => ?_
  ·refine w_region ?_
   refine zs 1 [rz 0 m, rz 1 p, (4, .int .i8 (pieceAt B M.s1)), rz 24 m] ?_
   refine reg_call 136 [pz m, .int .u16 4] (some 25) (by kernel_rfl) (c136 hf16 4) ?_
   rintro _ w21 ⟨rfl, v22, hf23⟩; refine ⟨_, rfl, ?_⟩
   have v28 := Mod.fresh' v19 v22 (by simp <;> omega)
   refine ze ?_
   exact zb () ⟨v28, at_cast hf23 (mv_eq (tags_eq (by simp only [tg1, hc20, cond_true, cond_false])))⟩
  refine w_cut (γ := Unit) (fun _ => [(0, pz m), (1, pz p), (4, .int .i8 (pieceAt B M.s1)), (39, .bool ((M.s2 == S.ep) && ((pType (pieceAt B M.s1)) == 6)))]) (fun _ w_ => Mod [] w12 w_) ?_ ?_
  ·have v31 : Mod [] w12 w12 := Mod.refl _ _
   refine w_quiet (by kernel_rfl) (by kernel_rfl) ?_
   refine zqo 10 [rz 0 m, rz 1 p, (4, .int .i8 (pieceAt B M.s1)), (35, .bool (M.s2 == S.ep))] [.cell ⟨m, 9, none⟩ (.int .i8 M.s2), .cell ⟨p, 6, none⟩ (.int .i8 S.ep)] (fun _ hC => ⟨At.cell (At.on hf16 hC) rfl, At.cell (At.on hf14 hC) rfl⟩) ?_
   cases hc32 : (M.s2 == S.ep)
   ·refine zq 4 [rz 0 m, rz 1 p, (4, .int .i8 (pieceAt B M.s1)), (39, .bool false)] ?_
    refine q_out (by kernel_rfl) ?_
    intro w33 v34
    have v39 := zt v31 v34
    exact zb () v39
   refine zq 1 [rz 0 m, rz 1 p, (4, .int .i8 (pieceAt B M.s1)), (35, .bool true), (36, .int .i8 (pieceAt B M.s1))] ?_
   refine zqk (some 37) (fun w_ hC => c73 (pieceAt B M.s1) w_) ?_
   refine zq 2 [rz 0 m, rz 1 p, (4, .int .i8 (pieceAt B M.s1)), (39, .bool ((pType (pieceAt B M.s1)) == 6))] ?_
   refine q_out (by kernel_rfl) ?_
   intro w41 v42
   have v47 := zt v31 v42
   exact zb () v47
  intro _ w29 v30
  have hf51 := At.on hf16 v30
  have v54 := Mod.trans v19 (Mod.of_nil v30)
  refine zc (fun hc55 => ?_) fun hc55 => ?_
  ·refine w_region ?_
   refine zs 1 [rz 0 m, rz 1 p, (4, .int .i8 (pieceAt B M.s1)), rz 40 m] ?_
   refine reg_call 136 [pz m, .int .u16 8] (some 41) (by kernel_rfl) (c136 hf51 8) ?_
   rintro _ w56 ⟨rfl, v57, hf58⟩; refine ⟨_, rfl, ?_⟩
   have v63 := Mod.fresh' v54 v57 (by simp <;> omega)
   refine ze ?_
   exact zb () ⟨v63, at_cast hf58 (mv_eq (tags_eq (by simp only [tg1, hc20, hc55, cond_true, cond_false])))⟩
  refine w_skip ?_
  exact zb () ⟨v54, at_cast hf51 (mv_eq (tags_eq (by simp only [tg1, hc20, hc55, cond_true, cond_false])))⟩
 rintro _ w8 ⟨v9, hf10⟩
 have hf64 := At.keep hf3 v9 (not_mem1 (At.ne hf3 hf5 rfl))
 have hf65 := At.keep hf4 v9 (not_mem1 (At.ne hf4 hf5 rfl))
 have z66 := Glob.keep z6 v9 (by simp <;> omega)
 have v67 := Mod.fresh' v7 v9 (by simp <;> omega)
 refine w_cut (γ := Unit) (fun _ => [(0, pz m), (1, pz p)]) (fun _ w_ => Mod [m] w8 w_ ∧ At w_ m (.cells (mvCells pos ⟨(tg2 B S M), M.s1, M.s2, M.promo⟩) 98 (0, 0))) ?_ ?_
 ·have v71 : Mod [m] w8 w8 := Mod.refl _ _
  refine w_cut (γ := Unit) (fun _ => [(0, pz m), (1, pz p), (61, .bool ((((pieceAt B M.s1) == 1) && (M.s1 == 4)) || (((pieceAt B M.s1) == 7) && (M.s1 == 60))))]) (fun _ w_ => Mod [] w8 w_) ?_ ?_
  ·have v74 : Mod [] w8 w8 := Mod.refl _ _
   refine w_region ?_
   refine zs 3 [rz 0 m, rz 1 p, (4, .int .i8 (pieceAt B M.s1)), (44, .bool ((pieceAt B M.s1) == 1))] ?_
   cases hc75 : ((pieceAt B M.s1) == (1 : Int))
   ·refine zs 10 [rz 0 m, rz 1 p, (51, .bool false), (54, .bool ((pieceAt B M.s1) == 7))] ?_
    cases hc76 : ((pieceAt B M.s1) == (7 : Int))
    ·refine zs 7 [rz 0 m, rz 1 p, (61, .bool false)] ?_
     refine ze ?_
     exact zb () v74
    refine zo 7 [rz 0 m, rz 1 p, (61, .bool (M.s1 == 60))] [.cell ⟨m, 8, none⟩ (.int .i8 M.s1)] (At.cell hf10 rfl) ?_
    refine ze ?_
    exact zb () v74
   refine zo 7 [rz 0 m, rz 1 p, (4, .int .i8 (pieceAt B M.s1)), (51, .bool (M.s1 == 4))] [.cell ⟨m, 8, none⟩ (.int .i8 M.s1)] (At.cell hf10 rfl) ?_
   cases hc77 : (M.s1 == (4 : Int))
   ·refine zs 3 [rz 0 m, rz 1 p, (51, .bool false), (54, .bool ((pieceAt B M.s1) == 7))] ?_
    cases hc78 : ((pieceAt B M.s1) == (7 : Int))
    ·refine zs 7 [rz 0 m, rz 1 p, (61, .bool false)] ?_
     refine ze ?_
     exact zb () v74
    refine zo 7 [rz 0 m, rz 1 p, (61, .bool (M.s1 == 60))] [.cell ⟨m, 8, none⟩ (.int .i8 M.s1)] (At.cell hf10 rfl) ?_
    refine ze ?_
    exact zb () v74
   refine zs 10 [rz 0 m, rz 1 p, (61, .bool true)] ?_
   refine ze ?_
   exact zb () v74
  intro _ w72 v73
  have hf81 := At.on hf10 v73
  have v84 := Mod.trans v71 (Mod.of_nil v73)
  refine zc (fun hc85 => ?_) fun hc85 => ?_
  ·refine zw ?_
   refine zo 4 [rz 0 m, rz 1 p, (65, .int .i8 M.s2)] [.cell ⟨m, 9, none⟩ (.int .i8 M.s2)] (At.cell hf81 rfl) ?_
   refine zz ?_
   refine w_block ?_
   refine w_seq ?_
   refine zw ?_
   refine zs 2 [rz 0 m, rz 1 p, (65, .int .i8 M.s2), (66, .bool (M.s2 == 2))] ?_
   refine zz ?_
   refine zc (fun hc86 => ?_) fun hc86 => ?_
   ·have y86 := eq_of_beq hc86
    refine w_skip ?_
    refine n_then ?_
    refine w_cond (b := (M.s2 == 2)) rfl (fun _ => ?_) (fun hx => absurd (hc86.symm.trans hx) (by decide))
    refine w_region ?_
    refine zs 1 [rz 0 m, rz 1 p, rz 69 m] ?_
    refine reg_call 136 [pz m, .int .u16 2] (some 70) (by kernel_rfl) (c136 hf81 2) ?_
    rintro _ w87 ⟨rfl, v88, hf89⟩; refine ⟨_, rfl, ?_⟩
    have v94 := Mod.fresh' v84 v88 (by simp <;> omega)
    refine ze ?_
    refine n_block ?_
    exact zb () ⟨v94, at_cast hf89 (mv_eq (tags_eq (by simp only [tg2, kingHome, hc85, hc86, cond_true, cond_false])))⟩
   have y86 := ne_of_beq_false hc86
   refine w_region ?_
   refine zs 2 [rz 0 m, rz 1 p, (65, .int .i8 M.s2), (66, .bool (M.s2 == 58))] ?_
   refine zz ?_
   refine zc (fun hc95 => ?_) fun hc95 => ?_
   ·have y95 := eq_of_beq hc95
    refine w_region ?_
    refine zs 1 [rz 0 m, rz 1 p, rz 69 m] ?_
    refine reg_call 136 [pz m, .int .u16 2] (some 70) (by kernel_rfl) (c136 hf81 2) ?_
    rintro _ w96 ⟨rfl, v97, hf98⟩; refine ⟨_, rfl, ?_⟩
    have v103 := Mod.fresh' v84 v97 (by simp <;> omega)
    refine ze ?_
    refine n_block ?_
    exact zb () ⟨v103, at_cast hf98 (mv_eq (tags_eq (by simp only [tg2, kingHome, hc85, hc86, hc95, cond_true, cond_false])))⟩
   have y95 := ne_of_beq_false hc95
   refine w_seq ?_
   refine zw ?_
   refine zs 2 [rz 0 m, rz 1 p, (65, .int .i8 M.s2), (71, .bool (M.s2 == 6))] ?_
   refine zz ?_
   refine zc (fun hc104 => ?_) fun hc104 => ?_
   ·have y104 := eq_of_beq hc104
    refine w_skip ?_
    refine n_then ?_
    refine w_cond (b := (M.s2 == 6)) rfl (fun _ => ?_) (fun hx => absurd (hc104.symm.trans hx) (by decide))
    refine w_region ?_
    refine zs 1 [rz 0 m, rz 1 p, rz 74 m] ?_
    refine reg_call 136 [pz m, .int .u16 1] (some 75) (by kernel_rfl) (c136 hf81 1) ?_
    rintro _ w105 ⟨rfl, v106, hf107⟩; refine ⟨_, rfl, ?_⟩
    have v112 := Mod.fresh' v84 v106 (by simp <;> omega)
    refine ze ?_
    refine n_block ?_
    exact zb () ⟨v112, at_cast hf107 (mv_eq (tags_eq (by simp only [tg2, kingHome, hc85, hc86, hc95, hc104, cond_true, cond_false])))⟩
   have y104 := ne_of_beq_false hc104
   refine w_region ?_
   refine zs 2 [rz 0 m, rz 1 p, (71, .bool (M.s2 == 62))] ?_
   refine zz ?_
   refine zc (fun hc113 => ?_) fun hc113 => ?_
   ·have y113 := eq_of_beq hc113
    refine w_region ?_
    refine zs 1 [rz 0 m, rz 1 p, rz 74 m] ?_
    refine reg_call 136 [pz m, .int .u16 1] (some 75) (by kernel_rfl) (c136 hf81 1) ?_
    rintro _ w114 ⟨rfl, v115, hf116⟩; refine ⟨_, rfl, ?_⟩
    have v121 := Mod.fresh' v84 v115 (by simp <;> omega)
    refine ze ?_
    refine n_block ?_
    exact zb () ⟨v121, at_cast hf116 (mv_eq (tags_eq (by simp only [tg2, kingHome, hc85, hc86, hc95, hc104, hc113, cond_true, cond_false])))⟩
   have y113 := ne_of_beq_false hc113
   refine w_skip ?_
   refine n_block ?_
   exact zb () ⟨v84, at_cast hf81 (mv_eq (tags_eq (by simp only [tg2, kingHome, hc85, hc86, hc95, hc104, hc113, cond_true, cond_false])))⟩
  refine w_skip ?_
  exact zb () ⟨v84, at_cast hf81 (mv_eq (tags_eq (by simp only [tg2, kingHome, hc85, cond_true, cond_false])))⟩
 rintro _ w68 ⟨v69, hf70⟩
 have hf122 := At.keep hf64 v69 (not_mem1 (At.ne hf64 hf10 rfl))
 have hf123 := At.keep hf65 v69 (not_mem1 (At.ne hf65 hf10 rfl))
 have z124 := Glob.keep z66 v69 (by simp <;> omega)
 have v125 := Mod.fresh' v67 v69 (by simp <;> omega)
 refine zw ?_
 refine zs 1 [rz 0 m, rz 76 p] ?_
 refine reg_call 145 [pz p] (some 77) (by kernel_rfl) (c145 hf122 hf123) ?_
 rintro _ w126 ⟨b128, b129, rfl, v127, hf130, hf131, hb132, hb133⟩; refine ⟨_, rfl, ?_⟩
 have hb134 := Nat.le_trans v125.size hb132
 have hb135 := Nat.le_trans v125.size hb133
 have hb136 := Nat.le_trans (Glob.size z124) hb132
 have hb137 := Nat.le_trans (Glob.size z124) hb133
 have ne138 : p ≠ b128 := (by have := At.lt hf122; omega)
 have ne139 : b ≠ b129 := (by have := At.lt hf123; omega)
 have hf142 := At.on hf70 v127
 have z143 := Glob.on z124 v127
 have v144 := Mod.trans v125 (Mod.of_nil v127)
 refine zs 1 [rz 0 m, rz 5 b128] ?_
 refine zx ?_
 refine zo 5 [rz 0 m, rz 5 b128, rz 81 b129, rz 82 m] [.cell ⟨b128, 0, none⟩ (pz b129)] (At.cell hf130 rfl) ?_
 refine reg_call 75 [pz b129, pz m] (some 83) (by kernel_rfl) (c75 (M := (⟨(tg2 B S M), M.s1, M.s2, M.promo⟩ : Mv)) hf131 hf142 z143 (by assumption) (by assumption) (by assumption) (by assumption) (by assumption) (by assumption) (by omega)) ?_
 rintro _ w145 ⟨rfl, v146, hf147⟩; refine ⟨_, rfl, ?_⟩
 have hf150 := At.keep hf142 v146 (not_mem1 (At.ne hf142 hf131 rfl))
 have hf151 := At.keep hf130 v146 (not_mem1 (At.ne hf130 hf131 rfl))
 have z152 := Glob.keep z143 v146 (by simp <;> omega)
 have v153 := Mod.fresh' v144 v146 (by simp <;> omega)
 refine zz ?_
 refine w_cut (γ := Unit) (fun _ => [(0, pz m), (5, pz b128)]) (fun _ w_ => Mod [m] w145 w_ ∧ At w_ m (.cells (mvCells pos ⟨(tg3 B S M), M.s1, M.s2, M.promo⟩) 98 (0, 0))) ?_ ?_
 ·have v157 : Mod [m] w145 w145 := Mod.refl _ _
  refine zw ?_
  refine zs 1 [rz 0 m, rz 5 b128, rz 84 b128] ?_
  refine zk (some 85) (c91 (S := S) hf151 hf147 z152 (by assumption) (by assumption)) ?_
  intro w158 v159
  have hf162 := At.on hf150 v159
  have v167 := Mod.trans v157 (Mod.of_nil v159)
  refine zz ?_
  refine zc (fun hc168 => ?_) fun hc168 => ?_
  ·refine w_region ?_
   refine zs 1 [rz 0 m, rz 5 b128, rz 86 m] ?_
   refine reg_call 136 [pz m, .int .u16 32] (some 87) (by kernel_rfl) (c136 hf162 32) ?_
   rintro _ w169 ⟨rfl, v170, hf171⟩; refine ⟨_, rfl, ?_⟩
   have v178 := Mod.fresh' v167 v170 (by simp <;> omega)
   refine ze ?_
   exact zb () ⟨v178, at_cast hf171 (mv_eq (tags_eq (by simp only [tg3, nextB, hc168, cond_true, cond_false])))⟩
  refine w_skip ?_
  exact zb () ⟨v167, at_cast hf162 (mv_eq (tags_eq (by simp only [tg3, nextB, hc168, cond_true, cond_false])))⟩
 rintro _ w154 ⟨v155, hf156⟩
 have hf181 := At.keep hf151 v155 (not_mem1 (At.ne hf151 hf150 rfl))
 have hf182 := At.keep hf147 v155 (not_mem1 (At.ne hf147 hf150 rfl))
 have z183 := Glob.keep z152 v155 (by simp <;> omega)
 have v184 := Mod.fresh' v153 v155 (by simp <;> omega)
 refine zw ?_
 refine zo 5 [rz 0 m, rz 5 b128, rz 88 b128, (92, .int .i8 S.turn)] [.cell ⟨b128, 5, none⟩ (.int .i8 S.turn)] (At.cell hf181 rfl) ?_
 refine zk (some 93) (c70 S.turn w154) ?_
 intro w185 v186
 have hf189 := At.on hf181 v186
 have hf190 := At.on hf182 v186
 have hf191 := At.on hf156 v186
 have z192 := Glob.on z183 v186
 have v193 := Mod.trans v184 (Mod.of_nil v186)
 refine zs 2 [rz 0 m, rz 5 b128, (93, .int .i8 (otherC S.turn)), (95, .pointer (some ⟨b128, 5, none⟩))] ?_
 refine reg_store b128 5 (.int .i8 (otherC S.turn)) none (by kernel_rfl) hf189 (Nat.le_of_ble_eq_true rfl) rfl ?_
 intro w194 hu195
 have hf196 : At w194 b128 (.cells (psCells b129 (.slice none 0 0) ({ S with turn := (otherC S.turn) })) 110 (0, 0)) := hu195.at_
 have hf199 := At.keep hf190 hu195.mod (not_mem1 (At.ne hf190 hf189 rfl))
 have hf200 := At.keep hf191 hu195.mod (not_mem1 (At.ne hf191 hf189 rfl))
 have z201 := Glob.keep z192 hu195.mod (by simp <;> omega)
 have v202 := Mod.fresh' v193 hu195.mod (by simp <;> omega)
 refine zx ?_
 refine zs 1 [rz 0 m, rz 96 b128] ?_
 refine zk (some 97) (c91 (S := { S with turn := (otherC S.turn) }) hf196 hf199 z201 (by assumption) (by assumption)) ?_
 intro w203 v204
 have hf208 := At.on hf200 v204
 have v211 := Mod.trans v202 (Mod.of_nil v204)
 refine zz ?_
 refine zc (fun hc212 => ?_) fun hc212 => ?_
 ·refine w_region ?_
  refine zs 1 [rz 98 m] ?_
  refine reg_call 136 [pz m, .int .u16 16] (some 99) (by kernel_rfl) (c136 hf208 16) ?_
  rintro _ w213 ⟨rfl, v214, hf215⟩; refine ⟨_, rfl, ?_⟩
  have v221 := Mod.fresh' v211 v214 (by simp <;> omega)
  refine ze ?_
  exact end0 Tryz.results135 (⟨rfl, v221, at_cast hf215 (mv_eq (tags_eq (by simp only [tg4, (show inChk (nextB B S M) (otherC S.turn) = true from hc212), cond_true, cond_false])))⟩)
 refine w_skip ?_
 exact end0 Tryz.results135 (⟨rfl, v211, at_cast hf208 (mv_eq (tags_eq (by simp only [tg4, (show inChk (nextB B S M) (otherC S.turn) = false from hc212), cond_true, cond_false])))⟩)
def Own (w : World) (b0 : Nat) (e : TypeId) (size : Nat) (ao : Option Addr) (n cap : Nat) (xs : List Value) : Prop := w.ownsRow b0 e size (.slice ao n cap) n xs
def blk (ao : Option Addr) : List Nat := match ao with | some a => [a.block] | none => []
theorem Own.nil (w : World) (b0 : Nat) (e : TypeId) (size : Nat) : Own w b0 e size none 0 0 [] := World.ownsRow_nil w b0 e size
theorem Own.keep {w w' : World} {S : List Nat} {b0 size n cap : Nat} {e : TypeId} {ao : Option Addr} {xs : List Value} (h : Own w b0 e size ao n cap xs) (m : Mod S w w') (hS : ∀ x ∈ blk ao, x ∉ S) : Own w' b0 e size ao n cap xs := by
 refine ⟨h.1, ?_⟩
 rcases h.2 with hn | ⟨g, cap', cur, hv, hb, hg, rest⟩
 ·exact .inl hn
 ·refine .inr ⟨g, cap', cur, hv, hb, ?_, rest⟩
  simp only [Value.slice.injEq] at hv
  rw [m.block g (Array.getElem?_eq_some_iff.1 hg).1 (hS g (by rw [hv.1]; simp [blk]))]
  exact hg
theorem Own.on {w w' : World} {b0 size n cap : Nat} {e : TypeId} {ao : Option Addr} {xs : List Value} (h : Own w b0 e size ao n cap xs) (m : Mod [] w w') : Own w' b0 e size ao n cap xs := h.keep m (by simp)
theorem Own.lt {w : World} {b0 size n cap : Nat} {e : TypeId} {ao : Option Addr} {xs : List Value} (h : Own w b0 e size ao n cap xs) : ∀ x ∈ blk ao, b0 ≤ x ∧ x < w.heap.size := by
 intro x hx
 cases ao with
 | none => simp [blk] at hx
 | some a => simp [blk] at hx; subst hx; exact World.ownsRow.lt h _ rfl
theorem Own.len {w : World} {b0 size n cap : Nat} {e : TypeId} {ao : Option Addr} {xs : List Value} (h : Own w b0 e size ao n cap xs) : xs.length = n * size := h.1
theorem Own.some {w : World} {b0 size n cap : Nat} {e : TypeId} {ao : Option Addr} {xs : List Value} (h : Own w b0 e size ao n cap xs) (hn : 0 < n) : ∃ g cur, ao = some ⟨g, 0, none⟩ ∧ b0 ≤ g ∧ At w g (.cells cur e (0, 0)) ∧ cur.toList.take (n * size) = xs ∧ n ≤ cap ∧ cur.size = cap * size := by
 rcases h.2 with ⟨hv, h0⟩ | ⟨g, cap', cur, hv, hb, hg, hc, hm, hs, ht⟩
 ·omega
 ·simp only [Value.slice.injEq, true_and] at hv
  obtain ⟨rfl, rfl⟩ := hv
  exact ⟨g, cur, rfl, hb, hg, ht, hc, hs⟩
theorem Own.cell {w : World} {b0 size n cap : Nat} {e : TypeId} {g j : Nat} {xs : List Value} {u : Value} (h : Own w b0 e size (Option.some ⟨g, 0, none⟩) n cap xs) (hu : xs[j]? = Option.some u) : w.cell? ⟨g, j, none⟩ = Option.some u := by
 have := World.ownsRow.cells h (g := g) rfl j u hu
 have e : (Addr.add ⟨g, 0, none⟩ j) = ⟨g, j, none⟩ := by unfold Addr.add; split <;> simp_all
 rwa [e] at this
theorem Own.get {w : World} {b0 size n cap : Nat} {e : TypeId} {ao : Option Addr} {xs : List Value} (h : Own w b0 e size ao n cap xs) (hne : ao ≠ none) : ∃ g, ao = Option.some ⟨g, 0, none⟩ ∧ b0 ≤ g := by
 rcases h.2 with ⟨hv, h0⟩ | ⟨g, cap', cur, hv, hb, _⟩
 ·simp only [Value.slice.injEq] at hv; exact absurd hv.1 hne
 ·simp only [Value.slice.injEq, true_and] at hv; exact ⟨g, hv.1, hb⟩
theorem Own.sep {w : World} {b0 size n cap p : Nat} {e t : TypeId} {ao : Option Addr} {xs : List Value} {cs : Array Value} (h : Own w b0 e size ao n cap xs) (hp : At w p (.cells cs t (0, 0))) (ht : (t == e) = false) : ∀ x ∈ blk ao, x ∉ [p] := by
 intro x hx hxp
 obtain rfl : x = p := by simpa using hxp
 rcases h.2 with ⟨hv, h0⟩ | ⟨g, cap', cur, hv, hb, hg, _⟩
 ·simp only [Value.slice.injEq] at hv; rw [hv.1] at hx; simp [blk] at hx
 ·simp only [Value.slice.injEq] at hv
  rw [hv.1] at hx
  simp only [blk, List.mem_singleton] at hx
  subst hx
  have := At.inj hp hg
  simp only [Obj.cells.injEq] at this
  rw [this.2.1] at ht; simp at ht
theorem Own.cells' {w : World} {b0 size n cap g : Nat} {e : TypeId} {xs : List Value} (h : Own w b0 e size (Option.some ⟨g, 0, none⟩) n cap xs) : ∀ j u, xs[j]? = Option.some u → w.cell? (Addr.add ⟨g, 0, none⟩ j) = Option.some u := World.ownsRow.cells h rfl
theorem Own.cast {w : World} {b0 size n n' cap : Nat} {e : TypeId} {ao : Option Addr} {xs xs' : List Value} (h : Own w b0 e size ao n cap xs) (hn : n = n') (hx : xs = xs') : Own w b0 e size ao n' cap xs' := by subst hn; subst hx; exact h
theorem Own.fresh {w : World} {b0 b1 size n cap g : Nat} {e : TypeId} {xs : List Value} (h : Own w b0 e size (Option.some ⟨g, 0, none⟩) n cap xs) (hb : b1 ≤ g) : Own w b1 e size (Option.some ⟨g, 0, none⟩) n cap xs := by
 refine ⟨h.1, ?_⟩
 rcases h.2 with hn | ⟨g', cap', cur, hv, _, rest⟩
 ·exact .inl hn
 ·refine .inr ⟨g', cap', cur, hv, ?_, rest⟩
  simp only [Value.slice.injEq, Option.some.injEq, Addr.mk.injEq] at hv
  omega
theorem oneCells_mem : ∀ {l : List Value}, oneCells l = true → ∀ u ∈ l, u.oneCell' = true
 | [], _, u, hu => by cases hu
 | v :: r, h, u, hu => by
  simp only [oneCells, Bool.and_eq_true] at h
  rcases List.mem_cons.1 hu with rfl | hu
  ·exact h.1
  ·exact oneCells_mem h.2 u hu
theorem Mod.of_grown {w w' : World} {ao : Option Addr} {n cap : Nat} (h : w.grownBy w' (Value.ownBlock (.slice ao n cap))) : Mod (blk ao) w w' := by
 refine ⟨h.os, h.tape, h.output, h.size, fun k hk hS => h.block k hk fun e => ?_⟩
 cases ao with
 | none => cases e
 | some a => simp [Value.ownBlock] at e; subst e; simp [blk] at hS
section
variable {P : Program} {n : Nat} {D : List Deferred} {ops : Array Oper} {Q : Exit → Act → World → Prop} {w : World} {L : List (Nat × Value)}
def appendAt (P : Program) (n : Nat) (ops : List Oper) (k : Nat) (L : List (Nat × Value)) : Option (Value × Value × TypeId × Option Nat × Nat × Nat × Nat) :=
 match ops[k]? with
 | some o => match wantedL ops L o, dstOk o.dst n with
  | some true, true => match o.op with
   | .call c => match c.callee, c.args.toList, c.argTypes.toList with
    | .builtin .append, [s, x], [t, t'] => if t = t' then match evL L s, evL L x, P.underlying t with
     | some u, some v, some (.slice e) => match P.info? e with
      | some i => match i.zero with
       | some z => some (u, v, e, o.dst, i.size, i.bytes, z.cells.size)
       | none => none
      | none => none
     | _, _, _ => none else none
    | _, _, _ => none
   | _ => none
  | _, _ => none
 | none => none
theorem reg_append {k : Nat} (ao : Option Addr) (l cap : Nat) (a : Addr) (m c : Nat) (e : TypeId) (dst : Option Nat) (size bytes : Nat) (h : appendAt P n ops.toList k L = some (.slice ao l cap, .slice (some a) m c, e, dst, size, bytes, size))
  {b0 : Nat} {xs news : List Value} (hown : Own w b0 e size ao l cap xs) (hs : 0 < size) (hl : news.length = m * size) (hnews : ∀ j u, news[j]? = some u → w.cell? (a.add j) = some u) (h1 : ∀ u ∈ news, u.oneCell' = true)
  (hb : (l + m) * (bytes + 1) ≤ 140737488355328) (hbase : b0 ≤ w.heap.size)
  (hk : ∀ ao' cap' w', Own w' b0 e size ao' (l + m) cap' (xs ++ news) → Mod (blk ao) w w' → (ao ≠ none → ao' ≠ none) → Reg P n D ops Q (k + 1) (setD dst (.slice ao' (l + m) cap') L) w') : Reg P n D ops Q k L w := by
 intro act ha
 unfold appendAt at h
 split at h
 case h_2 => cases h
 rename_i o ho
 split at h
 case h_2 => cases h
 rename_i hw hd
 split at h
 case h_2 => cases h
 rename_i cc hop
 split at h
 case h_2 => cases h
 rename_i s x t t' hc hargs hts
 split at h
 case isFalse => cases h
 rename_i ht
 subst ht
 split at h
 case h_2 => cases h
 rename_i u v e' hs' hx hu
 split at h
 case h_2 => cases h
 rename_i i hi
 split at h
 case h_2 => cases h
 rename_i z hz
 simp only [Option.some.injEq, Prod.mk.injEq] at h
 obtain ⟨rfl, rfl, rfl, rfl, hsz, hby, hzs⟩ := h
 rw [drop_cons ho]
 simp only [wpList, wantedL_spec ha hw, if_true]
 refine .inl ?_
 have hm : (l + m) * bytes ≤ 140737488355328 := Nat.le_trans (Nat.mul_le_mul_left _ (by omega)) hb
 have hlm : l + m ≤ maxLen := by
  have : l + m ≤ (l + m) * (bytes + 1) := Nat.le_mul_of_pos_right _ (by omega)
  simp only [maxLen]; omega
 obtain ⟨v', w', hrun, h2, h3, hnil⟩ := run_append_own (P := P) w b0 t o.type e' i z size bytes hu hi hz hsz hby hzs hs _ l xs hown a m c news hl hnews h1 hlm hm hbase
 have hr : (execOp act.eval o).run P w = .ok (.value v') w' := by
  obtain ⟨dst, op, ty, pos, af, g'⟩ := o
  simp only at hop
  subst hop
  obtain ⟨callee, args, ts⟩ := cc
  simp only at hc hargs hts
  subst hc
  obtain rfl : args = #[s, x] := by apply Array.ext'; simpa using hargs
  obtain rfl : ts = #[t, t] := by apply Array.ext'; simpa using hts
  simp only [execOp, resolve, invoke, builtin, Sem.run_bind, Sem.run_pure, Result.andThen_ok, List.map_toArray, List.map_cons, List.map_nil, ha.agrees _ _ hs', ha.agrees _ _ hx, hrun]
 simp only [Oper.wp, hr, Oper.upon]
 have hform : ∃ ao' cap', v' = .slice ao' (l + m) cap' ∧ (ao ≠ none → ao' ≠ none) := by
  rcases h2.2 with ⟨hv, h0⟩ | ⟨g, cap', cur, hv, _⟩
  ·refine ⟨none, 0, by rw [hv, h0], fun hne => ?_⟩
   have := (hnil.1 hv).1
   simp only [Value.slice.injEq] at this
   exact absurd this.1 hne
  ·exact ⟨_, _, hv, fun _ h => by cases h⟩
 obtain ⟨ao', cap', rfl, hne⟩ := hform
 exact hk ao' cap' w' h2 (Mod.of_grown h3) hne _ (ha.setD hd _)
theorem reg_append_nil {k : Nat} (ao : Option Addr) (l cap : Nat) (e : TypeId) (dst : Option Nat) (size bytes zs : Nat) (h : appendAt P n ops.toList k L = some (.slice ao l cap, .slice none 0 0, e, dst, size, bytes, zs)) (hle : l ≤ cap)
  (hk : Reg P n D ops Q (k + 1) (setD dst (.slice ao l cap) L) w) : Reg P n D ops Q k L w := by
 intro act ha
 unfold appendAt at h
 split at h
 case h_2 => cases h
 rename_i o ho
 split at h
 case h_2 => cases h
 rename_i hw hd
 split at h
 case h_2 => cases h
 rename_i cc hop
 split at h
 case h_2 => cases h
 rename_i s x t t' hc hargs hts
 split at h
 case isFalse => cases h
 rename_i ht
 subst ht
 split at h
 case h_2 => cases h
 rename_i u v e' hs' hx hu
 split at h
 case h_2 => cases h
 rename_i i hi
 split at h
 case h_2 => cases h
 rename_i z hz
 simp only [Option.some.injEq, Prod.mk.injEq] at h
 obtain ⟨rfl, rfl, rfl, rfl, hsz, hby, hzs⟩ := h
 rw [drop_cons ho]
 simp only [wpList, wantedL_spec ha hw, if_true]
 refine .inl ?_
 have hr : (execOp act.eval o).run P w = .ok (.value (.slice ao l cap)) w := by
  obtain ⟨dst, op, ty, pos, af, g'⟩ := o
  simp only at hop
  subst hop
  obtain ⟨callee, args, ts⟩ := cc
  simp only at hc hargs hts
  subst hc
  obtain rfl : args = #[s, x] := by apply Array.ext'; simpa using hargs
  obtain rfl : ts = #[t, t] := by apply Array.ext'; simpa using hts
  have hsize : (sizeOf e').run P w = .ok i.size w := by simp [sizeOf, typeInfo, hi]
  have hap : (Builtin.append_ #[t, t] ty #[.slice ao l cap, .slice none 0 0]).run P w = .ok (.slice ao l cap) w := by
   cases ao <;> simp [Builtin.append_, runU hu, hsize, Builtin.lenOf, Builtin.firstCells, hle, storeCells]
  simp only [execOp, resolve, invoke, builtin, Sem.run_bind, Sem.run_pure, Result.andThen_ok, List.map_toArray, List.map_cons, List.map_nil, ha.agrees _ _ hs', ha.agrees _ _ hx, hap]
 simp only [Oper.wp, hr, Oper.upon]
 exact hk _ (ha.setD hd _)
theorem storeRow_full : ∀ (vs : List Value) (cs : Array Value) (off : Nat), off + vs.length = cs.size → (storeRow cs off vs).toList = cs.toList.take off ++ vs
 | [], cs, off, h => by
  simp only [storeRow, List.append_nil]
  rw [List.take_of_length_le (by simp at h ⊢; omega)]
 | v :: r, cs, off, h => by
  simp only [List.length_cons] at h
  have hlt : off < cs.toList.length := by simp; omega
  rw [storeRow, storeRow_full r _ (off + 1) (by simp; omega)]
  rw [Array.toList_setIfInBounds, List.take_succ_eq_append_getElem (by simpa using hlt), List.take_set_of_le (by omega)]
  simp
def copyAt (P : Program) (n : Nat) (ops : List Oper) (k : Nat) (L : List (Nat × Value)) : Option (Value × Value × TypeId × Option Nat × Nat) :=
 match ops[k]? with
 | some o => match wantedL ops L o, dstOk o.dst n with
  | some true, true => match o.op with
   | .call c => match c.callee, c.args.toList, c.argTypes.toList with
    | .builtin .copy, [s, x], [t, _] => match evL L s, evL L x, P.underlying t with
     | some u, some v, some (.slice e) => match sizeT P e with
      | some sz => some (u, v, e, o.dst, sz)
      | none => none
     | _, _, _ => none
    | _, _, _ => none
   | _ => none
  | _, _ => none
 | none => none
theorem reg_copy {k : Nat} (b : Nat) (l : Nat) (a : Addr) (c c' : Nat) (e : TypeId) (dst : Option Nat) (size : Nat) (h : copyAt P n ops.toList k L = some (.slice (some ⟨b, 0, none⟩) l c, .slice (some a) l c', e, dst, size))
  {cs src : Array Value} {t : TypeId} (hb : At w b (.cells cs t (0, 0))) (hcs : cs.size = l * size) (hsrc : (Ob.row a (l * size) src).holds w) (hone : oneCells src.toList = true)
  (hk : ∀ w', Upd w w' b (.cells src t (0, 0)) → Reg P n D ops Q (k + 1) (setD dst (.int .i64 l) L) w') : Reg P n D ops Q k L w := by
 intro act ha
 unfold copyAt at h
 split at h
 case h_2 => cases h
 rename_i o ho
 split at h
 case h_2 => cases h
 rename_i hw hd
 split at h
 case h_2 => cases h
 rename_i cc hop
 split at h
 case h_2 => cases h
 rename_i s x t' t'' hc hargs hts
 split at h
 case h_2 => cases h
 rename_i u v e' hs' hx hu
 split at h
 case h_2 => cases h
 rename_i sz hsz
 simp only [Option.some.injEq, Prod.mk.injEq] at h
 obtain ⟨rfl, rfl, rfl, rfl, rfl⟩ := h
 rw [drop_cons ho]
 simp only [wpList, wantedL_spec ha hw, if_true]
 refine .inl ?_
 have hlen : src.size = l * sz := hsrc.1
 obtain ⟨w', hst, hU⟩ := run_storeCells (P := P) (off := 0) src.toList 0 w cs hb (by simp; omega) hone
 have hfull : storeRow cs (0 + 0) src.toList = src := by
  apply Array.ext'
  rw [storeRow_full _ _ _ (by simp; omega)]; simp
 rw [hfull] at hU
 have hr : (execOp act.eval o).run P w = .ok (.value (.int .i64 l)) w' := by
  obtain ⟨dst, op, ty, pos, af, g'⟩ := o
  simp only at hop
  subst hop
  obtain ⟨callee, args, ts⟩ := cc
  simp only at hc hargs hts
  subst hc
  obtain rfl : args = #[s, x] := by apply Array.ext'; simpa using hargs
  obtain rfl : ts = #[t', t''] := by apply Array.ext'; simpa using hts
  have hcp : (Builtin.copy_ #[t', t''] ty #[.slice (some ⟨b, 0, none⟩) l c, .slice (some a) l c']).run P w = .ok (.int .i64 l) w' := by
   have hmin : Nat.min l l = l := Nat.min_self l
   simp [Builtin.copy_, runU hu, runSize hsz, Builtin.lenOf, hmin, Builtin.firstCells, run_loadCells hsrc, hst, goInt]
  simp only [execOp, resolve, invoke, builtin, Sem.run_bind, Sem.run_pure, Result.andThen_ok, List.map_toArray, List.map_cons, List.map_nil, ha.agrees _ _ hs', ha.agrees _ _ hx, hcp]
 simp only [Oper.wp, hr, Oper.upon]
 exact hk w' hU _ (ha.setD hd _)
def msliceAt (P : Program) (n : Nat) (ops : List Oper) (k : Nat) (L : List (Nat × Value)) : Option (Value × Value × TypeId × Option Nat × Nat × Nat) :=
 match ops[k]? with
 | some o => match wantedL ops L o, dstOk o.dst n with
  | some true, true => match o.op with
   | .makeSlice t x y => match evL L x, evL L y, P.underlying t with
    | some u, some v, some (.slice e) => match P.info? e with
     | some i => match i.zero with
      | some _ => some (u, v, e, o.dst, i.size, i.bytes)
      | none => none
     | none => none
    | _, _, _ => none
   | _ => none
  | _, _ => none
 | none => none
theorem reg_mslice {k : Nat} (l : Int) (e : TypeId) (dst : Option Nat) (size bytes : Nat) (h : msliceAt P n ops.toList k L = some (.int .i64 l, .int .i64 l, e, dst, size, bytes)) (h0 : 0 ≤ l) (h1 : l * (bytes + 1) ≤ 140737488355328)
  (hk : ∀ b w' cs, cs.size = l.toNat * size → New w w' b (.cells cs e (0, 0)) → Reg P n D ops Q (k + 1) (setD dst (.slice (some ⟨b, 0, none⟩) l.toNat l.toNat) L) w') : Reg P n D ops Q k L w := by
 intro act ha
 unfold msliceAt at h
 split at h
 case h_2 => cases h
 rename_i o ho
 split at h
 case h_2 => cases h
 rename_i hw hd
 split at h
 case h_2 => cases h
 rename_i t x y hop
 split at h
 case h_2 => cases h
 rename_i u v e' hx hy hu
 split at h
 case h_2 => cases h
 rename_i i hi
 split at h
 case h_2 => cases h
 rename_i z hz
 simp only [Option.some.injEq, Prod.mk.injEq] at h
 obtain ⟨rfl, rfl, rfl, rfl, rfl, rfl⟩ := h
 rw [drop_cons ho]
 simp only [wpList, wantedL_spec ha hw, if_true]
 refine .inl ?_
 have hlb : l ≤ l * (i.bytes + 1) := by
  have := Int.mul_le_mul_of_nonneg_left (show (1 : Int) ≤ (i.bytes : Int) + 1 by omega) h0
  simpa using this
 have hb2 : (i.bytes : Int) * l ≤ 140737488355328 := by
  have e : l * ((i.bytes : Int) + 1) = (i.bytes : Int) * l + l := by rw [Int.mul_add, Int.mul_comm]; simp
  omega
 have hwr : IntKind.i64.wrap l = l := by rw [IntKind.wrap_i64]; omega
 have hroom : ¬ (l.toNat * i.bytes > roomBytes) := by
  have : ((l.toNat * i.bytes : Nat) : Int) = (i.bytes : Int) * l := by
   rw [Int.natCast_mul, Int.toNat_of_nonneg h0, Int.mul_comm]
  simp only [roomBytes]; omega
 have hbig : ¬ ((i.bytes : Int) * l > 281474976710656) := by omega
 have hr : ∃ cs, cs.size = l.toNat * i.size ∧ (execOp act.eval o).run P w = .ok (.value (.slice (some ⟨w.heap.size, 0, none⟩) l.toNat l.toNat)) (w.alloc (.cells cs e' (0, 0))) := by
  obtain ⟨dst, op, ty, pos, af, g'⟩ := o
  simp only at hop
  subst hop
  have hsize : (sizeOf e').run P w = .ok i.size w := by simp [sizeOf, typeInfo, hi]
  by_cases hn : l.toNat * i.size = 0
  ·refine ⟨(Array.range 0).map fun _ => default, by simp [hn], ?_⟩
   simp [execOp, Instr.makeSlice, runU hu, ha.agrees _ _ hx, ha.agrees _ _ hy, asInt, asIntOf, typeInfo, hi, hwr, Int.not_lt.2 h0, hbig, askRoom, hroom, hsize, hn, newRow]
  ·refine ⟨(Array.range (l.toNat * i.size)).map (z.cells[· % z.cells.size]!), by simp, ?_⟩
   simp [execOp, Instr.makeSlice, runU hu, ha.agrees _ _ hx, ha.agrees _ _ hy, asInt, asIntOf, typeInfo, hi, hwr, Int.not_lt.2 h0, hbig, askRoom, hroom, hsize, hn, zeroValue, hz, newRow]
 obtain ⟨cs, hcs, hr⟩ := hr
 simp only [Oper.wp, hr, Oper.upon]
 exact hk _ _ cs hcs (New.alloc w _) _ (ha.setD hd _)
end
end Go.Proofs.YtgnhellfhjoaaaaGreatDoor
