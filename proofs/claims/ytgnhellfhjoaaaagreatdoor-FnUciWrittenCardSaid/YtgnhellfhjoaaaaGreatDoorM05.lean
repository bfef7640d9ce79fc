/-
  FnUciWritten: in every right position each legal move is written by the rules of the universal chess interface as the definition writes it, and what is written is read as the move (a part of the proof).
  Conditions: those of each theorem.
-/
import Derived.Test.YtgnhellfhjoaaaaGreatDoorM01
import Derived.Test.YtgnhellfhjoaaaaGreatDoorM03
import Derived.Test.YtgnhellfhjoaaaaGreatDoorM04
set_option linter.unusedVariables false
set_option linter.unusedSimpArgs false
namespace Go.Proofs.YtgnhellfhjoaaaaGreatDoor
open Go Go.RowKit
set_option maxRecDepth 100000
def homeK (g : Int) : Int := 56 * (g / 2) + 4
def homeR (g : Int) : Int := if g % 2 = 0 then 56 * (g / 2) + 7 else 56 * (g / 2)
theorem home_rng {g : Int} (h : 0 ≤ g ∧ g ≤ 3) : (0 ≤ homeK g ∧ homeK g ≤ 63) ∧ (0 ≤ homeR g ∧ homeR g ≤ 63) := by
 unfold homeK homeR; split <;> omega
def pw2 (g : Int) : Int := if g = 0 then 1 else if g = 1 then 2 else if g = 2 then 4 else 8
theorem pw2_eq {g : Int} (h : 0 ≤ g ∧ g ≤ 3) : IntKind.i64.wrap ((1 : Int) * 2 ^ (min g.toNat IntKind.i64.bits)) = pw2 g := by
 rcases (by omega : g = 0 ∨ g = 1 ∨ g = 2 ∨ g = 3) with rfl | rfl | rfl | rfl <;> rfl
theorem pw2_rng (g : Int) : 1 ≤ pw2 g ∧ pw2 g ≤ 8 := by unfold pw2; split <;> (try split) <;> (try split) <;> omega
def rightB (P : SP) (g : Int) : Bool := (castBit P.castle g.toNat && (P.bd (homeK g).toNat == 1 + 6 * (g / 2))) && (P.bd (homeR g).toNat == 3 + 6 * (g / 2))
def rightsTo (P : SP) : Nat → Int
 | 0 => 0
 | n + 1 => bif rightB P (n : Int) then rightsTo P n + pw2 (n : Int) else rightsTo P n
def rightsS (P : SP) : Int := rightsTo P 4
theorem rightsTo_rng (P : SP) : ∀ n : Nat, 0 ≤ rightsTo P n ∧ rightsTo P n ≤ 8 * n
 | 0 => by simp [rightsTo]
 | n + 1 => by have := rightsTo_rng P n; have := pw2_rng n; unfold rightsTo; cases rightB P n <;> simp <;> omega
theorem rightsTo_succ {P : SP} {j : Int} (h : 0 ≤ j) : rightsTo P (j + 1).toNat = bif rightB P j then rightsTo P j.toNat + pw2 j else rightsTo P j.toNat := by
 have e : rightsTo P (j.toNat + 1) = bif rightB P (j.toNat : Int) then rightsTo P j.toNat + pw2 (j.toNat : Int) else rightsTo P j.toNat := rfl
 rw [show (j + 1).toNat = j.toNat + 1 by omega, e, show ((j.toNat : Nat) : Int) = j by omega]
def passedS (P : SP) : Bool :=
 if P.ep < 0 ∨ 63 < P.ep then P.ep == (-1 : Int) else if P.ep / 8 ≠ 5 - 3 * P.turn ∨ P.bd P.ep.toNat ≠ 0 then false else
 (P.bd (8 * (P.ep / 8 - (1 - 2 * P.turn)) + P.ep % 8).toNat == 6 + 6 * (1 - P.turn)) && (P.bd (8 * (P.ep / 8 + (1 - 2 * P.turn)) + P.ep % 8).toNat == 0)
structure ValidS (P : SP) : Prop where
 bd : SPb P
 pawns : ∀ i, i < 64 → kindOf (P.bd i) = 6 → P.bd i ≠ 0 → i / 8 ≠ 0 ∧ i / 8 ≠ 7
 turn : 0 ≤ P.turn ∧ P.turn ≤ 1
 castle : 0 ≤ P.castle ∧ P.castle ≤ 15
 half : 0 ≤ P.half
 full : 1 ≤ P.full
 kw : countS P.bd 1 = 1
 kb : countS P.bd 7 = 1
 rights : rightsS P = P.castle
 passed : passedS P = true
 safe : attS P.bd (kingAtS P.bd (1 - P.turn)).toNat P.turn = false
theorem countTo_zero {bd : Nat → Int} {p : Int} : ∀ {n : Nat}, kingTo bd p n = -1 → countTo bd p n = 0
 | 0, _ => rfl
 | n + 1, h => by
  unfold kingTo at h
  by_cases hk : kingTo bd p n = -1
  ·rw [if_pos hk] at h
   by_cases hb : bd n = p
   ·rw [if_pos hb] at h; omega
   ·unfold countTo; rw [if_neg hb]; exact countTo_zero hk
  ·rw [if_neg hk] at h; exact absurd h hk
theorem kingAt_one {bd : Nat → Int} {sd : Int} (h : countS bd (1 + 6 * sd) = 1) : 0 ≤ kingAtS bd sd ∧ kingAtS bd sd ≤ 63 := by
 have h1 := kingTo_range bd (1 + 6 * sd) 64
 have h2 : kingTo bd (1 + 6 * sd) 64 ≠ -1 := fun hh => by have := countTo_zero hh; unfold countS at h; omega
 unfold kingAtS; omega
theorem ret_two {a b a' b' : Int} (h : a = a') (h' : b = b') : Ending.returned (.tuple #[.int .i64 a, .int .i64 b]) = .returned (.tuple #[.int .i64 a', .int .i64 b']) := by rw [h, h']
theorem c78 {w : World} (r : Int) (h : 0 ≤ r ∧ r ≤ 3) :
  Calls Tryz.prog 78 [.int .i64 r].toArray w (fun e w' => e = .returned (.tuple #[.int .i64 (homeK r), .int .i64 (homeR r)]) ∧ Mod [] w w') := by
 have v0 : Mod [] w w := Mod.refl _ _
 refine enter (n := 19) Tryz.func78 rfl Tryz.ntmps78 rfl ?_
 refine zw ?_
 refine reg_seg 2 [(0, .int .i64 r)] [] [] [0] (by kernel_rfl) trivial ?_
 refine reg_end (by kernel_rfl) ?_
 refine zn ?_
 refine zo 2 [iz 0 r, iz 6 (IntKind.i64.wrap (r.tdiv (2 : Int)))] [.prop ((2 : Int) ≠ 0)] (show (2 : Int) ≠ 0 from (by first | omega | assumption | decide)) ?_
 rw [(show ((r.tdiv (2 : Int)) : Int) = (r / (2 : Int)) from (Int.tdiv_eq_ediv_of_nonneg (by omega)))]
 rw [(show ((IntKind.i64.wrap (r / (2 : Int))) : Int) = (r / (2 : Int)) from (i64_in' (by omega) (by omega)))]
 refine reg_seg 1 [(0, .int .i64 r), (7, .int .i64 (IntKind.i64.wrap ((7 : Int) * (r / (2 : Int)))))] [] [] [0, 7] (by kernel_rfl) trivial ?_
 rw [(show ((IntKind.i64.wrap ((7 : Int) * (r / (2 : Int)))) : Int) = ((7 : Int) * (r / (2 : Int))) from (i64_in' (by omega) (by omega)))]
 refine reg_seg 1 [(0, .int .i64 r), (4, .int .i64 ((7 : Int) * (r / (2 : Int))))] [] [] [0, 4] (by kernel_rfl) trivial ?_
 refine reg_end (by kernel_rfl) ?_
 refine n_then ?_
 refine w_seq ?_
 refine zw ?_
 refine zo 2 [iz 4 ((7 : Int) * (r / (2 : Int))), iz 9 (r.tmod (2 : Int))] [.prop ((2 : Int) ≠ 0)] (show (2 : Int) ≠ 0 from (by first | omega | assumption | decide)) ?_
 rw [(show ((r.tmod (2 : Int)) : Int) = (r % (2 : Int)) from (Int.tmod_eq_emod_of_nonneg (by omega)))]
 refine reg_seg 1 [(4, .int .i64 ((7 : Int) * (r / (2 : Int)))), (10, .bool ((r % (2 : Int)) == (0 : Int)))] [] [] [4, 10] (by kernel_rfl) trivial ?_
 refine reg_end (by kernel_rfl) ?_
 refine n_then ?_
 refine w_cond (b := ((r % (2 : Int)) == (0 : Int))) rfl (fun hc1 => ?_) (fun hc1 => ?_)
 ·have y1 := eq_of_beq hc1
  refine zw ?_
  refine reg_seg 1 [(4, .int .i64 ((7 : Int) * (r / (2 : Int)))), (11, .int .i64 ((7 : Int) * (r / (2 : Int))))] [] [] [4, 11] (by kernel_rfl) trivial ?_
  refine zk (some 12) (c39 (4 : Int) ((7 : Int) * (r / (2 : Int))) w (by omega) (by omega)) ?_
  intro w2 v3
  have v4 := Mod.trans v0 (Mod.of_nil v3)
  refine reg_seg 1 [(12, .int .i64 (8 * ((7 : Int) * (r / (2 : Int))) + (4 : Int))), (13, .int .i64 ((7 : Int) * (r / (2 : Int))))] [] [] [12, 13] (by kernel_rfl) trivial ?_
  refine zk (some 14) (c39 (7 : Int) ((7 : Int) * (r / (2 : Int))) w2 (by omega) (by omega)) ?_
  intro w5 v6
  have v7 := Mod.trans v4 (Mod.of_nil v6)
  refine reg_seg 2 [(2, .int .i64 (8 * ((7 : Int) * (r / (2 : Int))) + (4 : Int))), (3, .int .i64 (8 * ((7 : Int) * (r / (2 : Int))) + (7 : Int)))] [] [] [2, 3] (by kernel_rfl) trivial ?_
  refine reg_end (by kernel_rfl) ?_
  refine n_then ?_
  refine w_ret ?_
  refine r_then ?_
  exact ret2 Tryz.results78 rfl rfl (⟨ret_two (by unfold homeK; omega) (by unfold homeR; split <;> omega), v7⟩)
 have y1 := ne_of_beq_false hc1
 refine w_skip ?_
 refine zn ?_
 refine reg_seg 1 [(4, .int .i64 ((7 : Int) * (r / (2 : Int)))), (15, .int .i64 ((7 : Int) * (r / (2 : Int))))] [] [] [4, 15] (by kernel_rfl) trivial ?_
 refine zk (some 16) (c39 (4 : Int) ((7 : Int) * (r / (2 : Int))) w (by omega) (by omega)) ?_
 intro w8 v9
 have v10 := Mod.trans v0 (Mod.of_nil v9)
 refine reg_seg 1 [(16, .int .i64 (8 * ((7 : Int) * (r / (2 : Int))) + (4 : Int))), (17, .int .i64 ((7 : Int) * (r / (2 : Int))))] [] [] [16, 17] (by kernel_rfl) trivial ?_
 refine zk (some 18) (c39 (0 : Int) ((7 : Int) * (r / (2 : Int))) w8 (by omega) (by omega)) ?_
 intro w11 v12
 have v13 := Mod.trans v10 (Mod.of_nil v12)
 refine reg_seg 2 [(2, .int .i64 (8 * ((7 : Int) * (r / (2 : Int))) + (4 : Int))), (3, .int .i64 (8 * ((7 : Int) * (r / (2 : Int))) + (0 : Int)))] [] [] [2, 3] (by kernel_rfl) trivial ?_
 refine reg_end (by kernel_rfl) ?_
 refine n_then ?_
 refine w_ret ?_
 exact ret2 Tryz.results78 rfl rfl (⟨ret_two (by unfold homeK; omega) (by unfold homeR; split <;> omega), v13⟩)
theorem c43 {w : World} (P : SP) :
  Calls Tryz.prog 43 [.agg (spCells P)].toArray w (fun e w' => e = .returned (.int .i64 (rightsS P)) ∧ Mod [] w w') := by
 have v0 : Mod [] w w := Mod.refl _ _
 refine enter (n := 47) Tryz.func43 rfl Tryz.ntmps43 rfl ?_
 refine zw ?_
 refine reg_alloc (spCells P) 24 (some 1) (by kernel_rfl) ?_
 intro b1 w2 hn3
 have hb4 := Nat.le_trans v0.size hn3.base
 have v5 := hn3.mod
 have v6 := Mod.trans v0 (Mod.of_nil v5)
 have u7 := hn3.at_
 refine reg_seg 1 [(1, .pointer (some ⟨b1, 0, none⟩))] [] [] [1] (by kernel_rfl) trivial ?_
 refine reg_end (by kernel_rfl) ?_
 refine zn ?_
 refine reg_seg 1 [(1, .pointer (some ⟨b1, 0, none⟩)), (3, .int .i64 (0 : Int))] [] [] [1, 3] (by kernel_rfl) trivial ?_
 refine reg_end (by kernel_rfl) ?_
 refine n_then ?_
 refine w_seq ?_
 refine zw ?_
 refine reg_seg 1 [(1, .pointer (some ⟨b1, 0, none⟩)), (3, .int .i64 (0 : Int)), (4, .int .i64 (0 : Int))] [] [] [1, 3, 4] (by kernel_rfl) trivial ?_
 refine reg_end (by kernel_rfl) ?_
 refine n_then ?_
 refine w_block ?_
 refine w_loop (γ := Int) (fun g8 => (4 - g8).toNat) (fun (g8 : Int) => [(1, .pointer (some ⟨b1, 0, none⟩)), (3, .int .i64 (rightsTo P g8.toNat)), (4, .int .i64 g8)]) (fun (g8 : Int) w_ => (0 ≤ g8 ∧ g8 ≤ 4) ∧ Mod [] w2 w_ ∧ (True)) (0 : Int) (hold_keep [1, 3, 4] (by kernel_rfl)) ⟨(by constructor <;> (try simp only []) <;> omega), Mod.refl _ _, trivial⟩ ?_
 rintro g8 w9 ⟨⟨h11, h12⟩, v10, hx13⟩
 have u14 := At.on u7 v10
 have v15 := Mod.trans v6 (Mod.of_nil v10)
 refine w_seq ?_
 refine zw ?_
 refine reg_seg 2 [(1, .pointer (some ⟨b1, 0, none⟩)), (3, .int .i64 (rightsTo P g8.toNat)), (4, .int .i64 g8), (8, .bool (decide (g8 < (4 : Int))))] [] [] [1, 3, 4, 8] (by kernel_rfl) trivial ?_
 refine reg_end (by kernel_rfl) ?_
 refine n_then ?_
 refine w_cond (b := (decide (g8 < (4 : Int)))) rfl (fun hc16 => ?_) (fun hc16 => ?_)
 ·have y16 := of_decide_eq_true hc16
  refine w_skip ?_
  refine n_then ?_
  refine w_cut (γ := Int) (fun g17 => [(1, .pointer (some ⟨b1, 0, none⟩)), (3, .int .i64 g17), (4, .int .i64 g8)]) (fun g17 w_ => Mod [] w9 w_ ∧ g17 = (rightsTo P (g8 + 1).toNat)) ?_ ?_
  ·have v20 : Mod [] w9 w9 := Mod.refl _ _
   refine w_block ?_
   refine zw ?_
   refine reg_seg 1 [(1, .pointer (some ⟨b1, 0, none⟩)), (3, .int .i64 (rightsTo P g8.toNat)), (4, .int .i64 g8), (12, .int .i64 g8)] [] [] [1, 3, 4, 12] (by kernel_rfl) trivial ?_
   refine zk (some 13) (c78 g8 (by omega)) ?_
   intro w21 v22
   have u23 := At.on u14 v22
   have v26 := Mod.trans v20 (Mod.of_nil v22)
   have hhm := home_rng (g := g8) (by omega)
   have hrr := rightsTo_rng P g8.toNat
   have hpw := pw2_rng g8
   refine reg_seg 5 [(1, .pointer (some ⟨b1, 0, none⟩)), (3, .int .i64 (rightsTo P g8.toNat)), (4, .int .i64 g8), (5, .int .i64 (homeK g8)), (6, .int .i64 (homeR g8))] [] [] [1, 3, 4, 5, 6] (by kernel_rfl) trivial ?_
   refine reg_end (by kernel_rfl) ?_
   refine n_then ?_
   refine w_cut (γ := Unit) (fun _ => [(1, .pointer (some ⟨b1, 0, none⟩)), (3, .int .i64 (rightsTo P g8.toNat)), (4, .int .i64 g8), (41, .bool (((castBit P.castle g8.toNat) && ((P.bd ((homeK g8).toNat)) == ((1 : Int) + 6 * (g8 / (2 : Int))))) && ((P.bd ((homeR g8).toNat)) == ((3 : Int) + 6 * (g8 / (2 : Int))))))]) (fun _ w_ => Mod [] w21 w_) ?_ ?_
   ·have v29 : Mod [] w21 w21 := Mod.refl _ _
    refine w_quiet (by kernel_rfl) (by kernel_rfl) ?_
    refine zqv 7 [rz 1 b1, iz 3 (rightsTo P g8.toNat), iz 4 g8, iz 5 (homeK g8), iz 6 (homeR g8), (22, .bool (castBit P.castle g8.toNat))] [.cell ⟨b1, 65, none⟩ (.int .i64 P.castle), .prop (0 ≤ g8)] [.int .i64 P.castle] (fun _ hC => ⟨At.cell (At.on u23 hC) (spCells_65 P), (zh (by omega))⟩) ?_
    cases hc30 : (castBit P.castle g8.toNat)
    ·have y30 := hc30; try simp only [Bool.or_eq_true, Bool.and_eq_true, Bool.or_eq_false_iff, Bool.and_eq_false_iff, Bool.not_eq_true', Bool.not_eq_false', decide_eq_true_eq, decide_eq_false_iff_not, beq_iff_eq, beq_eq_false_iff_ne, bne_iff_ne, bne_eq_false_iff_eq] at y30
     refine q_seg 19 [(1, .pointer (some ⟨b1, 0, none⟩)), (3, .int .i64 (rightsTo P g8.toNat)), (4, .int .i64 g8), (41, .bool false)] [] [] [1, 3, 4, 41] (by kernel_rfl) (fun _ hC => trivial) ?_
     refine q_out (by kernel_rfl) ?_
     intro w31 v32
     have v34 := Mod.trans v29 (Mod.of_nil v32)
     exact c_back () [1, 3, 4, 41] (by kernel_rfl) v34
    have y30 := hc30; try simp only [Bool.or_eq_true, Bool.and_eq_true, Bool.or_eq_false_iff, Bool.and_eq_false_iff, Bool.not_eq_true', Bool.not_eq_false', decide_eq_true_eq, decide_eq_false_iff_not, beq_iff_eq, beq_eq_false_iff_ne, bne_iff_ne, bne_eq_false_iff_eq] at y30
    refine zqv 4 [rz 1 b1, iz 3 (rightsTo P g8.toNat), iz 4 g8, iz 6 (homeR g8), (22, .bool true), iz 26 (P.bd (0 + (homeK g8).toNat * 1))] [.prop (0 ≤ (homeK g8) ∧ (homeK g8) < ((64 : Nat) : Int)), .cell ⟨b1, (0 + (homeK g8).toNat * 1), none⟩ (.int .i64 (P.bd (0 + (homeK g8).toNat * 1)))] [.int .i64 (P.bd (0 + (homeK g8).toNat * 1))] (fun _ hC => ⟨(zh (by omega)), At.cell (At.on u23 hC) (spCells_bd P (by omega))⟩) ?_
    rw [(show ((0 + (homeK g8).toNat * 1) : Nat) = ((homeK g8).toNat) from (by omega))]
    refine zqo 2 [rz 1 b1, iz 3 (rightsTo P g8.toNat), iz 4 g8, iz 6 (homeR g8), (22, .bool true), iz 26 (P.bd ((homeK g8).toNat)), iz 28 (IntKind.i64.wrap (g8.tdiv (2 : Int)))] [.prop ((2 : Int) ≠ 0)] (fun _ hC => (show (2 : Int) ≠ 0 from (by first | omega | assumption | decide))) ?_
    rw [(show ((g8.tdiv (2 : Int)) : Int) = (g8 / (2 : Int)) from (Int.tdiv_eq_ediv_of_nonneg (by omega)))]
    rw [(show ((IntKind.i64.wrap (g8 / (2 : Int))) : Int) = (g8 / (2 : Int)) from (i64_in' (by omega) (by omega)))]
    refine zqk (some 29) (fun w_ hC => c37 (1 : Int) (g8 / (2 : Int)) w_ (by omega) (by omega)) ?_
    refine q_seg 3 [(1, .pointer (some ⟨b1, 0, none⟩)), (3, .int .i64 (rightsTo P g8.toNat)), (4, .int .i64 g8), (6, .int .i64 (homeR g8)), (32, .bool ((P.bd ((homeK g8).toNat)) == ((1 : Int) + 6 * (g8 / (2 : Int)))))] [] [] [1, 3, 4, 6, 32] (by kernel_rfl) (fun _ hC => trivial) ?_
    cases hc37 : ((P.bd ((homeK g8).toNat)) == ((1 : Int) + 6 * (g8 / (2 : Int))))
    ·have y37 := hc37; try simp only [Bool.or_eq_true, Bool.and_eq_true, Bool.or_eq_false_iff, Bool.and_eq_false_iff, Bool.not_eq_true', Bool.not_eq_false', decide_eq_true_eq, decide_eq_false_iff_not, beq_iff_eq, beq_eq_false_iff_ne, bne_iff_ne, bne_eq_false_iff_eq] at y37
     refine q_seg 9 [(1, .pointer (some ⟨b1, 0, none⟩)), (3, .int .i64 (rightsTo P g8.toNat)), (4, .int .i64 g8), (41, .bool false)] [] [] [1, 3, 4, 41] (by kernel_rfl) (fun _ hC => trivial) ?_
     refine q_out (by kernel_rfl) ?_
     intro w38 v39
     have v41 := Mod.trans v29 (Mod.of_nil v39)
     exact c_back () [1, 3, 4, 41] (by kernel_rfl) v41
    have y37 := hc37; try simp only [Bool.or_eq_true, Bool.and_eq_true, Bool.or_eq_false_iff, Bool.and_eq_false_iff, Bool.not_eq_true', Bool.not_eq_false', decide_eq_true_eq, decide_eq_false_iff_not, beq_iff_eq, beq_eq_false_iff_ne, bne_iff_ne, bne_eq_false_iff_eq] at y37
    refine zqv 4 [rz 1 b1, iz 3 (rightsTo P g8.toNat), iz 4 g8, (32, .bool true), iz 36 (P.bd (0 + (homeR g8).toNat * 1))] [.prop (0 ≤ (homeR g8) ∧ (homeR g8) < ((64 : Nat) : Int)), .cell ⟨b1, (0 + (homeR g8).toNat * 1), none⟩ (.int .i64 (P.bd (0 + (homeR g8).toNat * 1)))] [.int .i64 (P.bd (0 + (homeR g8).toNat * 1))] (fun _ hC => ⟨(zh (by omega)), At.cell (At.on u23 hC) (spCells_bd P (by omega))⟩) ?_
    rw [(show ((0 + (homeR g8).toNat * 1) : Nat) = ((homeR g8).toNat) from (by omega))]
    refine zqo 2 [rz 1 b1, iz 3 (rightsTo P g8.toNat), iz 4 g8, (32, .bool true), iz 36 (P.bd ((homeR g8).toNat)), iz 38 (IntKind.i64.wrap (g8.tdiv (2 : Int)))] [.prop ((2 : Int) ≠ 0)] (fun _ hC => (show (2 : Int) ≠ 0 from (by first | omega | assumption | decide))) ?_
    rw [(show ((g8.tdiv (2 : Int)) : Int) = (g8 / (2 : Int)) from (Int.tdiv_eq_ediv_of_nonneg (by omega)))]
    rw [(show ((IntKind.i64.wrap (g8 / (2 : Int))) : Int) = (g8 / (2 : Int)) from (i64_in' (by omega) (by omega)))]
    refine zqk (some 39) (fun w_ hC => c37 (3 : Int) (g8 / (2 : Int)) w_ (by omega) (by omega)) ?_
    refine q_seg 2 [(1, .pointer (some ⟨b1, 0, none⟩)), (3, .int .i64 (rightsTo P g8.toNat)), (4, .int .i64 g8), (41, .bool ((P.bd ((homeR g8).toNat)) == ((3 : Int) + 6 * (g8 / (2 : Int)))))] [] [] [1, 3, 4, 41] (by kernel_rfl) (fun _ hC => trivial) ?_
    refine q_out (by kernel_rfl) ?_
    intro w44 v45
    have v47 := Mod.trans v29 (Mod.of_nil v45)
    exact c_back () [1, 3, 4, 41] (by kernel_rfl) v47
   intro _ w27 v28
   have v53 := Mod.trans v26 (Mod.of_nil v28)
   refine w_cond (b := (((castBit P.castle g8.toNat) && ((P.bd ((homeK g8).toNat)) == ((1 : Int) + 6 * (g8 / (2 : Int))))) && ((P.bd ((homeR g8).toNat)) == ((3 : Int) + 6 * (g8 / (2 : Int)))))) rfl (fun hc54 => ?_) (fun hc54 => ?_)
   ·have y54 := hc54; try simp only [Bool.or_eq_true, Bool.and_eq_true, Bool.or_eq_false_iff, Bool.and_eq_false_iff, Bool.not_eq_true', Bool.not_eq_false', decide_eq_true_eq, decide_eq_false_iff_not, beq_iff_eq, beq_eq_false_iff_ne, bne_iff_ne, bne_eq_false_iff_eq] at y54
    refine w_region ?_
    refine zv 3 [rz 1 b1, iz 4 g8, iz 42 (rightsTo P g8.toNat), iz 44 (IntKind.i64.wrap ((1 : Int) * 2 ^ (min g8.toNat IntKind.i64.bits)))] [.prop (0 ≤ g8)] [] (zh (by omega)) ?_
    rw [(show ((IntKind.i64.wrap ((1 : Int) * 2 ^ (min g8.toNat IntKind.i64.bits))) : Int) = (pw2 g8) from (pw2_eq (by omega)))]
    refine reg_seg 1 [(1, .pointer (some ⟨b1, 0, none⟩)), (4, .int .i64 g8), (45, .int .i64 (IntKind.i64.wrap ((rightsTo P g8.toNat) + (pw2 g8))))] [] [] [1, 4, 45] (by kernel_rfl) trivial ?_
    rw [(show ((IntKind.i64.wrap ((rightsTo P g8.toNat) + (pw2 g8))) : Int) = ((rightsTo P g8.toNat) + (pw2 g8)) from (i64_in' (by omega) (by omega)))]
    refine reg_seg 1 [(1, .pointer (some ⟨b1, 0, none⟩)), (3, .int .i64 ((rightsTo P g8.toNat) + (pw2 g8))), (4, .int .i64 g8)] [] [] [1, 3, 4] (by kernel_rfl) trivial ?_
    refine reg_end (by kernel_rfl) ?_
    refine n_block ?_
    exact c_back ((rightsTo P g8.toNat) + (pw2 g8)) [1, 3, 4] (by kernel_rfl) ⟨v53, (by rw [rightsTo_succ (by omega)]; unfold rightB; simp only [hc54, cond_true, cond_false])⟩
   have y54 := hc54; try simp only [Bool.or_eq_true, Bool.and_eq_true, Bool.or_eq_false_iff, Bool.and_eq_false_iff, Bool.not_eq_true', Bool.not_eq_false', decide_eq_true_eq, decide_eq_false_iff_not, beq_iff_eq, beq_eq_false_iff_ne, bne_iff_ne, bne_eq_false_iff_eq] at y54
   refine w_skip ?_
   refine n_block ?_
   exact c_back (rightsTo P g8.toNat) [1, 3, 4] (by kernel_rfl) ⟨v53, (by rw [rightsTo_succ (by omega)]; unfold rightB; simp only [hc54, cond_true, cond_false])⟩
  rintro _ w18 ⟨v19, rfl⟩
  have v57 := Mod.trans v10 (Mod.of_nil v19)
  refine w_region ?_
  refine reg_seg 2 [(1, .pointer (some ⟨b1, 0, none⟩)), (3, .int .i64 (rightsTo P (g8 + 1).toNat)), (10, .int .i64 (IntKind.i64.wrap (g8 + (1 : Int))))] [] [] [1, 3, 10] (by kernel_rfl) trivial ?_
  rw [(show ((IntKind.i64.wrap (g8 + (1 : Int))) : Int) = (g8 + (1 : Int)) from (i64_in' (by omega) (by omega)))]
  refine reg_seg 1 [(1, .pointer (some ⟨b1, 0, none⟩)), (3, .int .i64 (rightsTo P (g8 + 1).toNat)), (4, .int .i64 (g8 + (1 : Int)))] [] [] [1, 3, 4] (by kernel_rfl) trivial ?_
  refine reg_end (by kernel_rfl) ?_
  exact l_back (g8 + 1) [1, 3, 4] (by kernel_rfl) (by omega) ⟨(by constructor <;> (try simp only []) <;> omega), v57, trivial⟩
 have y16 := of_decide_eq_false hc16
 refine w_exit ?_
 refine x_then ?_
 refine x_then ?_
 refine x_hit ?_
 refine zn ?_
 refine reg_seg 2 [(2, .int .i64 (rightsTo P g8.toNat))] [] [] [2] (by kernel_rfl) trivial ?_
 refine reg_end (by kernel_rfl) ?_
 refine n_then ?_
 refine w_ret ?_
 exact ret1 rfl rfl (⟨ret_int (by rw [show g8 = 4 by omega]; rfl), v15⟩)
theorem c44 {w : World} (P : SP) (ht : 0 ≤ P.turn ∧ P.turn ≤ 1) :
  Calls Tryz.prog 44 [.agg (spCells P)].toArray w (fun e w' => e = .returned (.bool (passedS P)) ∧ Mod [] w w') := by
 have v0 : Mod [] w w := Mod.refl _ _
 refine enter (n := 65) Tryz.func44 rfl Tryz.ntmps44 rfl ?_
 refine zw ?_
 refine reg_alloc (spCells P) 24 (some 1) (by kernel_rfl) ?_
 intro b1 w2 hn3
 have hb4 := Nat.le_trans v0.size hn3.base
 have v5 := hn3.mod
 have v6 := zt v0 v5
 have u7 := hn3.at_
 refine zs 1 [rz 1 b1] ?_
 refine zz ?_
 refine w_seq ?_
 refine w_cut (γ := Unit) (fun _ => [(1, pz b1), (13, .bool ((decide (P.ep < 0)) || (decide (P.ep > 63))))]) (fun _ w_ => Mod [] w2 w_) ?_ ?_
 ·have v10 : Mod [] w2 w2 := Mod.refl _ _
  refine w_region ?_
  refine zo 4 [rz 1 b1, (9, .bool (decide (P.ep < 0)))] [.cell ⟨b1, 66, none⟩ (.int .i64 P.ep)] (At.cell u7 (spCells_66 P)) ?_
  cases hc11 : (decide (P.ep < (0 : Int)))
  ·have y11 := hc11; try simp only [zbq] at y11
   refine zo 4 [rz 1 b1, (13, .bool (decide (P.ep > 63)))] [.cell ⟨b1, 66, none⟩ (.int .i64 P.ep)] (At.cell u7 (spCells_66 P)) ?_
   refine ze ?_
   exact zb () v10
  have y11 := hc11; try simp only [zbq] at y11
  refine zs 4 [rz 1 b1, (13, .bool true)] ?_
  refine ze ?_
  exact zb () v10
 intro _ w8 v9
 have u12 := At.on u7 v9
 have v13 := zt v6 v9
 refine zc (fun hc14 => ?_) fun hc14 => ?_
 ·have y14 := hc14; try simp only [zbq] at y14
  refine zw ?_
  refine zo 4 [(2, .bool (P.ep == (-1 : Int)))] [.cell ⟨b1, 66, none⟩ (.int .i64 P.ep)] (At.cell u12 (spCells_66 P)) ?_
  refine zz ?_
  refine w_ret ?_
  refine r_then ?_
  exact ret1 rfl rfl (⟨ret_bool (by unfold passedS; rw [if_pos (by omega)]), v13⟩)
 have y14 := hc14; try simp only [zbq] at y14
 refine w_skip ?_
 refine zn ?_
 refine zo 3 [rz 1 b1, iz 19 (IntKind.i64.wrap (2 * P.turn))] [.cell ⟨b1, 64, none⟩ (.int .i64 P.turn)] (At.cell u12 (spCells_64 P)) ?_
 rw [zi ((2 : Int) * P.turn) (by omega) (by omega)]
 refine zs 1 [rz 1 b1, iz 20 (IntKind.i64.wrap (1 - (2 * P.turn)))] ?_
 rw [zi ((1 : Int) - ((2 : Int) * P.turn)) (by omega) (by omega)]
 refine zs 1 [rz 1 b1, iz 3 (1 - (2 * P.turn))] ?_
 refine zz ?_
 refine w_seq ?_
 refine w_quiet (by kernel_rfl) (by kernel_rfl) ?_
 refine zqo 2 [rz 1 b1, iz 3 (1 - (2 * P.turn)), iz 22 P.ep] [.cell ⟨b1, 66, none⟩ (.int .i64 P.ep)] (fun _ hC => At.cell (At.on u12 hC) (spCells_66 P)) ?_
 refine zqk (some 23) (fun w_ hC => c77 P.ep w_ (by omega)) ?_
 refine zqo 2 [rz 1 b1, iz 3 (1 - (2 * P.turn)), iz 23 (P.ep % 8), iz 25 P.ep] [.cell ⟨b1, 66, none⟩ (.int .i64 P.ep)] (fun _ hC => At.cell (At.on u12 hC) (spCells_66 P)) ?_
 refine zqk (some 26) (fun w_ hC => c40 P.ep w_ (by omega)) ?_
 refine zq 2 [rz 1 b1, iz 3 (1 - (2 * P.turn)), iz 4 (P.ep % 8), iz 5 (P.ep / 8)] ?_
 refine q_out (by kernel_rfl) ?_
 intro w15 v16
 have u17 := At.on u12 v16
 have v18 := zt v13 v16
 refine n_then ?_
 refine w_seq ?_
 refine w_cut (γ := Unit) (fun _ => [(1, pz b1), (3, .int .i64 (1 - (2 * P.turn))), (4, .int .i64 (P.ep % 8)), (5, .int .i64 (P.ep / 8)), (40, .bool (((P.ep / 8) != (5 - (3 * P.turn))) || ((P.bd P.ep.toNat) != 0)))]) (fun _ w_ => Mod [] w15 w_) ?_ ?_
 ·have v21 : Mod [] w15 w15 := Mod.refl _ _
  refine w_region ?_
  refine zo 4 [rz 1 b1, iz 3 (1 - (2 * P.turn)), iz 4 (P.ep % 8), iz 5 (P.ep / 8), iz 27 (P.ep / 8), iz 30 (IntKind.i64.wrap (3 * P.turn))] [.cell ⟨b1, 64, none⟩ (.int .i64 P.turn)] (At.cell u17 (spCells_64 P)) ?_
  rw [zi ((3 : Int) * P.turn) (by omega) (by omega)]
  refine zs 1 [rz 1 b1, iz 3 (1 - (2 * P.turn)), iz 4 (P.ep % 8), iz 5 (P.ep / 8), iz 27 (P.ep / 8), iz 31 (IntKind.i64.wrap (5 - (3 * P.turn)))] ?_
  rw [zi ((5 : Int) - ((3 : Int) * P.turn)) (by omega) (by omega)]
  refine zs 2 [rz 1 b1, iz 3 (1 - (2 * P.turn)), iz 4 (P.ep % 8), iz 5 (P.ep / 8), (33, .bool ((P.ep / 8) != (5 - (3 * P.turn))))] ?_
  cases hc22 : ((P.ep / 8) != ((5 : Int) - ((3 : Int) * P.turn)))
  ·have y22 := hc22; try simp only [zbq] at y22
   refine zo 5 [rz 1 b1, iz 3 (1 - (2 * P.turn)), iz 4 (P.ep % 8), iz 5 (P.ep / 8), (33, .bool false), iz 38 (P.bd (0 + P.ep.toNat * 1))] [.cell ⟨b1, 66, none⟩ (.int .i64 P.ep), .prop (0 ≤ P.ep ∧ P.ep < ((64 : Nat) : Int)), .cell ⟨b1, (0 + P.ep.toNat * 1), none⟩ (.int .i64 (P.bd (0 + P.ep.toNat * 1)))] (⟨At.cell u17 (spCells_66 P), (zh (by omega)), At.cell u17 (spCells_bd P (by omega))⟩) ?_
   rw [(show ((0 + P.ep.toNat * 1) : Nat) = P.ep.toNat from (by omega))]
   refine zs 2 [rz 1 b1, iz 3 (1 - (2 * P.turn)), iz 4 (P.ep % 8), iz 5 (P.ep / 8), (40, .bool ((P.bd P.ep.toNat) != 0))] ?_
   refine ze ?_
   exact zb () v21
  have y22 := hc22; try simp only [zbq] at y22
  refine zs 7 [rz 1 b1, iz 3 (1 - (2 * P.turn)), iz 4 (P.ep % 8), iz 5 (P.ep / 8), (40, .bool true)] ?_
  refine ze ?_
  exact zb () v21
 intro _ w19 v20
 have u23 := At.on u17 v20
 have v24 := zt v18 v20
 refine zc (fun hc25 => ?_) fun hc25 => ?_
 ·have y25 := hc25; try simp only [zbq] at y25
  refine zw ?_
  refine zs 1 [(2, .bool false)] ?_
  refine zz ?_
  refine w_ret ?_
  refine r_then ?_
  exact ret1 rfl rfl (⟨ret_bool (by unfold passedS; rw [if_neg (by omega), if_pos (by omega)]), v24⟩)
 have y25 := hc25; try simp only [zbq] at y25
 refine w_skip ?_
 refine n_then ?_
 refine w_cut (γ := Unit) (fun _ => [(2, .bool (((P.bd ((8 * ((P.ep / 8) - (1 - (2 * P.turn))) + (P.ep % 8)).toNat)) == ((6 : Int) + 6 * (1 - P.turn))) && ((P.bd ((8 * ((P.ep / 8) + (1 - (2 * P.turn))) + (P.ep % 8)).toNat)) == 0)))]) (fun _ w_ => Mod [] w19 w_) ?_ ?_
 ·have v28 : Mod [] w19 w19 := Mod.refl _ _
  refine w_quiet (by kernel_rfl) (by kernel_rfl) ?_
  refine zq 4 [rz 1 b1, iz 3 (1 - (2 * P.turn)), iz 4 (P.ep % 8), iz 5 (P.ep / 8), iz 41 (P.ep % 8), iz 44 (IntKind.i64.wrap ((P.ep / 8) - (1 - (2 * P.turn))))] ?_
  rw [zi ((P.ep / 8) - ((1 : Int) - ((2 : Int) * P.turn))) (by omega) (by omega)]
  refine zqk (some 45) (fun w_ hC => c39 (P.ep % 8) ((P.ep / 8) - (1 - (2 * P.turn))) w_ (by omega) (by omega)) ?_
  refine zqo 3 [rz 1 b1, iz 3 (1 - (2 * P.turn)), iz 4 (P.ep % 8), iz 5 (P.ep / 8), iz 48 (P.bd (0 + (8 * ((P.ep / 8) - (1 - (2 * P.turn))) + (P.ep % 8)).toNat * 1))] [.prop (0 ≤ (8 * ((P.ep / 8) - (1 - (2 * P.turn))) + (P.ep % 8)) ∧ (8 * ((P.ep / 8) - (1 - (2 * P.turn))) + (P.ep % 8)) < ((64 : Nat) : Int)), .cell ⟨b1, (0 + (8 * ((P.ep / 8) - (1 - (2 * P.turn))) + (P.ep % 8)).toNat * 1), none⟩ (.int .i64 (P.bd (0 + (8 * ((P.ep / 8) - (1 - (2 * P.turn))) + (P.ep % 8)).toNat * 1)))] (fun _ hC => ⟨(zh (by omega)), At.cell (At.on u23 hC) (spCells_bd P (by omega))⟩) ?_
  rw [(show ((0 + (8 * ((P.ep / 8) - ((1 : Int) - ((2 : Int) * P.turn))) + (P.ep % 8)).toNat * 1) : Nat) = ((8 * ((P.ep / 8) - ((1 : Int) - ((2 : Int) * P.turn))) + (P.ep % 8)).toNat) from (by omega))]
  refine zqo 3 [rz 1 b1, iz 3 (1 - (2 * P.turn)), iz 4 (P.ep % 8), iz 5 (P.ep / 8), iz 48 (P.bd ((8 * ((P.ep / 8) - (1 - (2 * P.turn))) + (P.ep % 8)).toNat)), iz 51 (IntKind.i64.wrap (1 - P.turn))] [.cell ⟨b1, 64, none⟩ (.int .i64 P.turn)] (fun _ hC => At.cell (At.on u23 hC) (spCells_64 P)) ?_
  rw [zi ((1 : Int) - P.turn) (by omega) (by omega)]
  refine zqk (some 52) (fun w_ hC => c37 6 (1 - P.turn) w_ (by omega) (by omega)) ?_
  refine zq 2 [rz 1 b1, iz 3 (1 - (2 * P.turn)), iz 4 (P.ep % 8), iz 5 (P.ep / 8), (54, .bool ((P.bd ((8 * ((P.ep / 8) - (1 - (2 * P.turn))) + (P.ep % 8)).toNat)) == ((6 : Int) + 6 * (1 - P.turn))))] ?_
  cases hc29 : ((P.bd ((8 * ((P.ep / 8) - ((1 : Int) - ((2 : Int) * P.turn))) + (P.ep % 8)).toNat)) == ((6 : Int) + 6 * ((1 : Int) - P.turn)))
  ·have y29 := hc29; try simp only [zbq] at y29
   refine zq 11 [(2, .bool false)] ?_
   refine q_out (by kernel_rfl) ?_
   intro w30 v31
   have v33 := zt v28 v31
   exact zb () v33
  have y29 := hc29; try simp only [zbq] at y29
  refine zq 4 [rz 1 b1, (54, .bool true), iz 55 (P.ep % 8), iz 58 (IntKind.i64.wrap ((P.ep / 8) + (1 - (2 * P.turn))))] ?_
  rw [zi ((P.ep / 8) + ((1 : Int) - ((2 : Int) * P.turn))) (by omega) (by omega)]
  refine zqk (some 59) (fun w_ hC => c39 (P.ep % 8) ((P.ep / 8) + (1 - (2 * P.turn))) w_ (by omega) (by omega)) ?_
  refine zqo 3 [(54, .bool true), iz 62 (P.bd (0 + (8 * ((P.ep / 8) + (1 - (2 * P.turn))) + (P.ep % 8)).toNat * 1))] [.prop (0 ≤ (8 * ((P.ep / 8) + (1 - (2 * P.turn))) + (P.ep % 8)) ∧ (8 * ((P.ep / 8) + (1 - (2 * P.turn))) + (P.ep % 8)) < ((64 : Nat) : Int)), .cell ⟨b1, (0 + (8 * ((P.ep / 8) + (1 - (2 * P.turn))) + (P.ep % 8)).toNat * 1), none⟩ (.int .i64 (P.bd (0 + (8 * ((P.ep / 8) + (1 - (2 * P.turn))) + (P.ep % 8)).toNat * 1)))] (fun _ hC => ⟨(zh (by omega)), At.cell (At.on u23 hC) (spCells_bd P (by omega))⟩) ?_
  rw [(show ((0 + (8 * ((P.ep / 8) + ((1 : Int) - ((2 : Int) * P.turn))) + (P.ep % 8)).toNat * 1) : Nat) = ((8 * ((P.ep / 8) + ((1 : Int) - ((2 : Int) * P.turn))) + (P.ep % 8)).toNat) from (by omega))]
  refine zq 3 [(2, .bool ((P.bd ((8 * ((P.ep / 8) + (1 - (2 * P.turn))) + (P.ep % 8)).toNat)) == 0))] ?_
  refine q_out (by kernel_rfl) ?_
  intro w34 v35
  have v37 := zt v28 v35
  exact zb () v37
 intro _ w26 v27
 have v39 := zt v24 v27
 refine w_ret ?_
 exact ret1 rfl rfl (⟨ret_bool (by unfold passedS; rw [if_neg (by omega), if_neg (by omega)]), v39⟩)
theorem c20 {w : World} (P : SP) :
  Calls Tryz.prog 20 [.agg (spCells P)].toArray w (fun e w' => ∃ v : Bool, e = .returned (.bool v) ∧ Mod [] w w' ∧ (v = true → ValidS P)) := by
 have v0 : Mod [] w w := Mod.refl _ _
 refine enter (n := 96) Tryz.func20 rfl Tryz.ntmps20 rfl ?_
 refine zw ?_
 refine reg_alloc (spCells P) 24 (some 1) (by kernel_rfl) ?_
 intro b1 w2 hn3
 have hb4 := Nat.le_trans v0.size hn3.base
 have v5 := hn3.mod
 have v6 := zt v0 v5
 have u7 := hn3.at_
 refine zs 1 [rz 1 b1] ?_
 refine zz ?_
 refine w_seq ?_
 refine zw ?_
 refine zs 1 [rz 1 b1, iz 3 0] ?_
 refine zz ?_
 refine w_block ?_
 refine w_loop (γ := Int) (fun g8 => (64 - g8).toNat) (fun (g8 : Int) => [(1, pz b1), (3, .int .i64 g8)]) (fun (g8 : Int) w_ => (0 ≤ g8 ∧ g8 ≤ 64) ∧ Mod [] w2 w_ ∧ (∀ i : Int, 0 ≤ i → i < g8 → (0 ≤ P.bd i.toNat ∧ P.bd i.toNat ≤ 12) ∧ (kindOf (P.bd i.toNat) = 6 → P.bd i.toNat ≠ 0 → i / 8 ≠ 0 ∧ i / 8 ≠ 7))) 0 (hold_keep [1, 3] (by kernel_rfl)) ⟨(by constructor <;> (try simp only []) <;> omega), Mod.refl _ _, (fun i h0 h1 => absurd h1 (by omega))⟩ ?_
 rintro g8 w9 ⟨⟨h11, h12⟩, v10, hx13⟩
 have u14 := At.on u7 v10
 have v15 := zt v6 v10
 refine w_seq ?_
 refine zw ?_
 refine zs 2 [rz 1 b1, iz 3 g8, (6, .bool (decide (g8 < 64)))] ?_
 refine zz ?_
 refine zc (fun hc16 => ?_) fun hc16 => ?_
 ·have y16 := of_decide_eq_true hc16
  refine w_skip ?_
  refine n_then ?_
  refine w_seq ?_
  refine w_block ?_
  refine zw ?_
  refine zo 4 [rz 1 b1, iz 3 g8, iz 12 (P.bd (0 + g8.toNat * 1))] [.prop (0 ≤ g8 ∧ g8 < ((64 : Nat) : Int)), .cell ⟨b1, (0 + g8.toNat * 1), none⟩ (.int .i64 (P.bd (0 + g8.toNat * 1)))] (⟨(zh (by omega)), At.cell u14 (spCells_bd P (by omega))⟩) ?_
  rw [(show ((0 + g8.toNat * 1) : Nat) = g8.toNat from (by omega))]
  refine zs 1 [rz 1 b1, iz 3 g8, iz 4 (P.bd g8.toNat)] ?_
  refine zz ?_
  refine w_cut (γ := Unit) (fun _ => [(1, pz b1), (3, .int .i64 g8), (37, .bool (((decide ((P.bd g8.toNat) < 0)) || (decide ((P.bd g8.toNat) > 12))) || ((((kindOf (P.bd g8.toNat)) == 6) && ((P.bd g8.toNat) != 0)) && (((g8 / 8) == 0) || ((g8 / 8) == 7)))))]) (fun _ w_ => Mod [] w9 w_) ?_ ?_
  ·have v19 : Mod [] w9 w9 := Mod.refl _ _
   refine w_region ?_
   refine zs 3 [rz 1 b1, iz 3 g8, iz 4 (P.bd g8.toNat), (15, .bool (decide ((P.bd g8.toNat) < 0)))] ?_
   cases hc20 : (decide ((P.bd g8.toNat) < (0 : Int)))
   ·have y20 := hc20; try simp only [zbq] at y20
    refine zs 4 [rz 1 b1, iz 3 g8, iz 4 (P.bd g8.toNat), (19, .bool (decide ((P.bd g8.toNat) > 12)))] ?_
    cases hc21 : (decide ((P.bd g8.toNat) > (12 : Int)))
    ·have y21 := hc21; try simp only [zbq] at y21
     refine zs 1 [rz 1 b1, iz 3 g8, iz 4 (P.bd g8.toNat), (19, .bool false), iz 20 (P.bd g8.toNat)] ?_
     refine zk (some 21) (c38 (P.bd g8.toNat) w9 (by omega)) ?_
     intro w22 v23
     have v25 := zt v19 v23
     refine zs 2 [rz 1 b1, iz 3 g8, iz 4 (P.bd g8.toNat), (19, .bool false), (23, .bool ((kindOf (P.bd g8.toNat)) == 6))] ?_
     cases hc27 : ((kindOf (P.bd g8.toNat)) == (6 : Int))
     ·have y27 := hc27; try simp only [zbq] at y27
      refine zs 14 [rz 1 b1, iz 3 g8, (37, .bool false)] ?_
      refine ze ?_
      exact zb () v25
     have y27 := hc27; try simp only [zbq] at y27
     refine zs 4 [rz 1 b1, iz 3 g8, (19, .bool false), (27, .bool ((P.bd g8.toNat) != 0))] ?_
     cases hc28 : ((P.bd g8.toNat) != (0 : Int))
     ·have y28 := hc28; try simp only [zbq] at y28
      refine zs 10 [rz 1 b1, iz 3 g8, (37, .bool false)] ?_
      refine ze ?_
      exact zb () v25
     have y28 := hc28; try simp only [zbq] at y28
     refine zs 1 [rz 1 b1, iz 3 g8, (19, .bool false), (27, .bool true), iz 28 g8] ?_
     refine zk (some 29) (c40 g8 w22 (by omega)) ?_
     intro w29 v30
     have v32 := zt v25 v30
     refine zs 2 [rz 1 b1, iz 3 g8, (19, .bool false), (27, .bool true), (31, .bool ((g8 / 8) == 0))] ?_
     cases hc34 : ((g8 / 8) == (0 : Int))
     ·have y34 := hc34; try simp only [zbq] at y34
      refine zs 1 [rz 1 b1, iz 3 g8, (19, .bool false), (27, .bool true), (31, .bool false), iz 32 g8] ?_
      refine zk (some 33) (c40 g8 w29 (by omega)) ?_
      intro w35 v36
      have v38 := zt v32 v36
      refine zs 4 [rz 1 b1, iz 3 g8, (37, .bool ((g8 / 8) == 7))] ?_
      refine ze ?_
      exact zb () v38
     have y34 := hc34; try simp only [zbq] at y34
     refine zs 6 [rz 1 b1, iz 3 g8, (37, .bool true)] ?_
     refine ze ?_
     exact zb () v32
    have y21 := hc21; try simp only [zbq] at y21
    refine zs 18 [rz 1 b1, iz 3 g8, (37, .bool true)] ?_
    refine ze ?_
    exact zb () v19
   have y20 := hc20; try simp only [zbq] at y20
   refine zs 22 [rz 1 b1, iz 3 g8, (37, .bool true)] ?_
   refine ze ?_
   exact zb () v19
  intro _ w17 v18
  have v41 := zt v15 v18
  have v42 := zt v10 v18
  refine zc (fun hc43 => ?_) fun hc43 => ?_
  ·have y43 := hc43; try simp only [zbq] at y43
   refine zw ?_
   refine zs 1 [(2, .bool false)] ?_
   refine zz ?_
   refine w_ret ?_
   refine r_block ?_
   refine r_then ?_
   refine r_then ?_
   refine r_block ?_
   refine r_then ?_
   exact ret1 rfl rfl (⟨false, rfl, v41, fun h => absurd h (by decide)⟩)
  have y43 := hc43; try simp only [zbq] at y43
  refine w_skip ?_
  refine n_block ?_
  refine n_then ?_
  refine w_region ?_
  refine zs 2 [rz 1 b1, iz 8 (IntKind.i64.wrap (g8 + 1))] ?_
  rw [zi (g8 + (1 : Int)) (by omega) (by omega)]
  refine zs 1 [rz 1 b1, iz 3 (g8 + 1)] ?_
  refine ze ?_
  exact l_back (g8 + 1) [1, 3] (by kernel_rfl) (by omega) ⟨(by constructor <;> (try simp only []) <;> omega), v42, (forall_step hx13 (by refine ⟨by omega, fun a b => ?_⟩; have h1 := y43.2; simp only [a] at h1; simp at h1; omega))⟩
 have y16 := of_decide_eq_false hc16
 have hsq : ∀ i : Nat, i < 64 → (0 ≤ P.bd i ∧ P.bd i ≤ 12) ∧ (kindOf (P.bd i) = 6 → P.bd i ≠ 0 → i / 8 ≠ 0 ∧ i / 8 ≠ 7) := fun i hi => (by have := hx13 (i : Int) (by omega) (by omega); rw [Int.toNat_natCast] at this; exact ⟨this.1, fun a b => (by have := this.2 a b; omega)⟩)
 have hB : SPb P := fun i hi => (hsq i hi).1
 refine w_exit ?_
 refine x_then ?_
 refine x_then ?_
 refine x_hit ?_
 refine n_then ?_
 refine w_seq ?_
 refine w_cut (γ := Unit) (fun _ => [(1, pz b1), (65, .bool ((((((P.turn != 0) && (P.turn != 1)) || (decide (P.castle < 0))) || (decide (P.castle > 15))) || (decide (P.half < 0))) || (decide (P.full < 1))))]) (fun _ w_ => Mod [] w9 w_) ?_ ?_
 ·have v46 : Mod [] w9 w9 := Mod.refl _ _
  refine w_region ?_
  refine zo 4 [rz 1 b1, (41, .bool (P.turn != 0))] [.cell ⟨b1, 64, none⟩ (.int .i64 P.turn)] (At.cell u14 (spCells_64 P)) ?_
  cases hc47 : (P.turn != (0 : Int))
  ·have y47 := hc47; try simp only [zbq] at y47
   refine zo 10 [rz 1 b1, (51, .bool (decide (P.castle < 0)))] [.cell ⟨b1, 65, none⟩ (.int .i64 P.castle)] (At.cell u14 (spCells_65 P)) ?_
   cases hc48 : (decide (P.castle < (0 : Int)))
   ·have y48 := hc48; try simp only [zbq] at y48
    refine zo 5 [rz 1 b1, (56, .bool (decide (P.castle > 15)))] [.cell ⟨b1, 65, none⟩ (.int .i64 P.castle)] (At.cell u14 (spCells_65 P)) ?_
    cases hc49 : (decide (P.castle > (15 : Int)))
    ·have y49 := hc49; try simp only [zbq] at y49
     refine zo 5 [rz 1 b1, (61, .bool (decide (P.half < 0)))] [.cell ⟨b1, 67, none⟩ (.int .i64 P.half)] (At.cell u14 (spCells_67 P)) ?_
     cases hc50 : (decide (P.half < (0 : Int)))
     ·have y50 := hc50; try simp only [zbq] at y50
      refine zo 4 [rz 1 b1, (65, .bool (decide (P.full < 1)))] [.cell ⟨b1, 68, none⟩ (.int .i64 P.full)] (At.cell u14 (spCells_68 P)) ?_
      refine ze ?_
      exact zb () v46
     have y50 := hc50; try simp only [zbq] at y50
     refine zs 4 [rz 1 b1, (65, .bool true)] ?_
     refine ze ?_
     exact zb () v46
    have y49 := hc49; try simp only [zbq] at y49
    refine zs 9 [rz 1 b1, (65, .bool true)] ?_
    refine ze ?_
    exact zb () v46
   have y48 := hc48; try simp only [zbq] at y48
   refine zs 14 [rz 1 b1, (65, .bool true)] ?_
   refine ze ?_
   exact zb () v46
  have y47 := hc47; try simp only [zbq] at y47
  refine zo 5 [rz 1 b1, (46, .bool (P.turn != 1))] [.cell ⟨b1, 64, none⟩ (.int .i64 P.turn)] (At.cell u14 (spCells_64 P)) ?_
  cases hc51 : (P.turn != (1 : Int))
  ·have y51 := hc51; try simp only [zbq] at y51
   refine zo 5 [rz 1 b1, (51, .bool (decide (P.castle < 0)))] [.cell ⟨b1, 65, none⟩ (.int .i64 P.castle)] (At.cell u14 (spCells_65 P)) ?_
   cases hc52 : (decide (P.castle < (0 : Int)))
   ·have y52 := hc52; try simp only [zbq] at y52
    refine zo 5 [rz 1 b1, (56, .bool (decide (P.castle > 15)))] [.cell ⟨b1, 65, none⟩ (.int .i64 P.castle)] (At.cell u14 (spCells_65 P)) ?_
    cases hc53 : (decide (P.castle > (15 : Int)))
    ·have y53 := hc53; try simp only [zbq] at y53
     refine zo 5 [rz 1 b1, (61, .bool (decide (P.half < 0)))] [.cell ⟨b1, 67, none⟩ (.int .i64 P.half)] (At.cell u14 (spCells_67 P)) ?_
     cases hc54 : (decide (P.half < (0 : Int)))
     ·have y54 := hc54; try simp only [zbq] at y54
      refine zo 4 [rz 1 b1, (65, .bool (decide (P.full < 1)))] [.cell ⟨b1, 68, none⟩ (.int .i64 P.full)] (At.cell u14 (spCells_68 P)) ?_
      refine ze ?_
      exact zb () v46
     have y54 := hc54; try simp only [zbq] at y54
     refine zs 4 [rz 1 b1, (65, .bool true)] ?_
     refine ze ?_
     exact zb () v46
    have y53 := hc53; try simp only [zbq] at y53
    refine zs 9 [rz 1 b1, (65, .bool true)] ?_
    refine ze ?_
    exact zb () v46
   have y52 := hc52; try simp only [zbq] at y52
   refine zs 14 [rz 1 b1, (65, .bool true)] ?_
   refine ze ?_
   exact zb () v46
  have y51 := hc51; try simp only [zbq] at y51
  refine zs 19 [rz 1 b1, (65, .bool true)] ?_
  refine ze ?_
  exact zb () v46
 intro _ w44 v45
 have u55 := At.on u14 v45
 have v56 := zt v15 v45
 refine zc (fun hc57 => ?_) fun hc57 => ?_
 ·have y57 := hc57; try simp only [zbq] at y57
  refine zw ?_
  refine zs 1 [(2, .bool false)] ?_
  refine zz ?_
  refine w_ret ?_
  refine r_then ?_
  exact ret1 rfl rfl (⟨false, rfl, v56, fun h => absurd h (by decide)⟩)
 have y57 := hc57; try simp only [zbq] at y57
 refine w_skip ?_
 refine n_then ?_
 refine w_seq ?_
 refine w_cut (γ := Unit) (fun _ => [(1, pz b1), (85, .bool (((((countS P.bd ((1 : Int) + 6 * 0)) != 1) || ((countS P.bd ((1 : Int) + 6 * 1)) != 1)) || ((rightsS P) != P.castle)) || (!(passedS P))))]) (fun _ w_ => Mod [] w44 w_) ?_ ?_
 ·have v60 : Mod [] w44 w44 := Mod.refl _ _
  refine w_quiet (by kernel_rfl) (by kernel_rfl) ?_
  refine zqv 1 [rz 1 b1, (66, .agg (spCells P))] [.row ⟨b1, 0, none⟩ 69 (spCells P)] [.agg (spCells P)] (fun _ hC => (At.row (At.on u55 hC) (spCells_size P))) ?_
  refine zqk (some 67) (fun w_ hC => c42 P 1 0 (by omega) (by omega)) ?_
  refine zq 2 [rz 1 b1, (69, .bool ((countS P.bd ((1 : Int) + 6 * 0)) != 1))] ?_
  cases hc61 : ((countS P.bd ((1 : Int) + 6 * (0 : Int))) != (1 : Int))
  ·have y61 := hc61; try simp only [zbq] at y61
   refine zqv 1 [rz 1 b1, (69, .bool false), (70, .agg (spCells P))] [.row ⟨b1, 0, none⟩ 69 (spCells P)] [.agg (spCells P)] (fun _ hC => (At.row (At.on u55 hC) (spCells_size P))) ?_
   refine zqk (some 71) (fun w_ hC => c42 P 1 1 (by omega) (by omega)) ?_
   refine zq 3 [rz 1 b1, (74, .bool ((countS P.bd ((1 : Int) + 6 * 1)) != 1))] ?_
   cases hc62 : ((countS P.bd ((1 : Int) + 6 * (1 : Int))) != (1 : Int))
   ·have y62 := hc62; try simp only [zbq] at y62
    refine zqv 1 [rz 1 b1, (74, .bool false), (75, .agg (spCells P))] [.row ⟨b1, 0, none⟩ 69 (spCells P)] [.agg (spCells P)] (fun _ hC => (At.row (At.on u55 hC) (spCells_size P))) ?_
    refine zqk (some 76) (fun w_ hC => c43 P) ?_
    refine zqo 5 [rz 1 b1, (81, .bool ((rightsS P) != P.castle))] [.cell ⟨b1, 65, none⟩ (.int .i64 P.castle)] (fun _ hC => At.cell (At.on u55 hC) (spCells_65 P)) ?_
    cases hc63 : ((rightsS P) != P.castle)
    ·have y63 := hc63; try simp only [zbq] at y63
     refine zqv 1 [rz 1 b1, (81, .bool false), (82, .agg (spCells P))] [.row ⟨b1, 0, none⟩ 69 (spCells P)] [.agg (spCells P)] (fun _ hC => (At.row (At.on u55 hC) (spCells_size P))) ?_
     refine zqk (some 83) (fun w_ hC => c44 P (by omega)) ?_
     refine zq 2 [rz 1 b1, (85, .bool (!(passedS P)))] ?_
     refine q_out (by kernel_rfl) ?_
     intro w64 v65
     have v67 := zt v60 v65
     exact zb () v67
    have y63 := hc63; try simp only [zbq] at y63
    refine zq 4 [rz 1 b1, (85, .bool true)] ?_
    refine q_out (by kernel_rfl) ?_
    intro w68 v69
    have v71 := zt v60 v69
    exact zb () v71
   have y62 := hc62; try simp only [zbq] at y62
   refine zq 11 [rz 1 b1, (85, .bool true)] ?_
   refine q_out (by kernel_rfl) ?_
   intro w72 v73
   have v75 := zt v60 v73
   exact zb () v75
  have y61 := hc61; try simp only [zbq] at y61
  refine zq 16 [rz 1 b1, (85, .bool true)] ?_
  refine q_out (by kernel_rfl) ?_
  intro w76 v77
  have v79 := zt v60 v77
  exact zb () v79
 intro _ w58 v59
 have u80 := At.on u55 v59
 have v81 := zt v56 v59
 refine zc (fun hc82 => ?_) fun hc82 => ?_
 ·have y82 := hc82; try simp only [zbq] at y82
  refine zw ?_
  refine zs 1 [(2, .bool false)] ?_
  refine zz ?_
  refine w_ret ?_
  refine r_then ?_
  exact ret1 rfl rfl (⟨false, rfl, v81, fun h => absurd h (by decide)⟩)
 have y82 := hc82; try simp only [zbq] at y82
 have hpa : passedS P = true := y82.2
 have hkw : countS P.bd 1 = 1 := (show countS P.bd (1 + 6 * 0) = 1 from by omega)
 have hkb : countS P.bd 7 = 1 := (show countS P.bd (1 + 6 * 1) = 1 from by omega)
 have hkt : 0 ≤ kingAtS P.bd (1 - P.turn) ∧ kingAtS P.bd (1 - P.turn) ≤ 63 := kingAt_one (by rcases (by omega : P.turn = 0 ∨ P.turn = 1) with h | h <;> rw [h] <;> first | exact (show countS P.bd (1 + 6 * 1) = 1 from by omega) | exact (show countS P.bd (1 + 6 * 0) = 1 from by omega))
 refine w_skip ?_
 refine n_then ?_
 refine w_seq ?_
 refine w_quiet (by kernel_rfl) (by kernel_rfl) ?_
 refine zqv 5 [rz 1 b1, (86, .agg (spCells P)), (87, .agg (spCells P)), iz 90 (IntKind.i64.wrap (1 - P.turn))] [.row ⟨b1, 0, none⟩ 69 (spCells P), .row ⟨b1, 0, none⟩ 69 (spCells P), .cell ⟨b1, 64, none⟩ (.int .i64 P.turn)] [.agg (spCells P), .agg (spCells P), .int .i64 P.turn] (fun _ hC => ⟨(At.row (At.on u80 hC) (spCells_size P)), (At.row (At.on u80 hC) (spCells_size P)), At.cell (At.on u80 hC) (spCells_64 P)⟩) ?_
 rw [zi ((1 : Int) - P.turn) (by omega) (by omega)]
 refine zqk (some 91) (fun w_ hC => c22 P (1 - P.turn) (by omega)) ?_
 refine zqo 2 [(86, .agg (spCells P)), iz 91 (kingAtS P.bd (1 - P.turn)), iz 93 P.turn] [.cell ⟨b1, 64, none⟩ (.int .i64 P.turn)] (fun _ hC => At.cell (At.on u80 hC) (spCells_64 P)) ?_
 refine zqk (some 94) (fun w_ hC => c23 P hB (kingAtS P.bd (1 - P.turn)) P.turn (by omega)) ?_
 refine zq 2 [(2, .bool (!(attS P.bd (kingAtS P.bd (1 - P.turn)).toNat P.turn)))] ?_
 refine q_out (by kernel_rfl) ?_
 intro w83 v84
 have v86 := zt v81 v84
 refine n_then ?_
 refine w_ret ?_
 exact ret1 rfl rfl (⟨_, rfl, v86, fun hv => ⟨fun i hi => (hsq i hi).1, fun i hi => (hsq i hi).2, by omega, by omega, by omega, by omega, hkw, hkb, by omega, hpa, by simpa only [Bool.not_eq_true'] using hv⟩⟩)
def upd (f : Nat → Int) (i : Nat) (v : Int) : Nat → Int := fun j => if j = i then v else f j
def zeroSP : SP := ⟨fun _ => 0, 0, 0, 0, 0, 0⟩
theorem sp_get (P : SP) (i : Nat) : (spCells P)[i]? = if i < 64 then some (.int .i64 (P.bd i)) else (spTail P)[i - 64]? := by
 split
 ·rename_i h; exact spCells_bd P h
 rename_i h; have := spCells_tail P (i - 64); rwa [show 64 + (i - 64) = i by omega] at this
theorem sp_ext {A : Array Value} {Q : SP} (h : ∀ i : Nat, A[i]? = (spCells Q)[i]?) : A = spCells Q := Array.ext_getElem? h
theorem spStore_bd (P : SP) {i : Nat} (h : i < 64) (v : Int) : storeRow (spCells P) i [.int .i64 v] = spCells ⟨upd P.bd i v, P.turn, P.castle, P.ep, P.half, P.full⟩ := by
 show (spCells P).setIfInBounds i _ = _
 refine sp_ext fun j => ?_
 rw [Array.getElem?_setIfInBounds, sp_get, sp_get, spCells_size]
 by_cases e : i = j
 ·subst e; simp [h, upd, show i < 69 by omega]
 rw [if_neg e]
 split
 ·simp [upd, show ¬ j = i by omega]
 rfl
theorem spStore_f (P Q : SP) {k : Nat} (hk : k < 5) (v : Int) (hb : Q.bd = P.bd) (hq : ∀ j, j ≠ k → (spTail Q)[j]? = (spTail P)[j]?) (hv : (spTail Q)[k]? = some (.int .i64 v)) : storeRow (spCells P) (64 + k) [.int .i64 v] = spCells Q := by
 show (spCells P).setIfInBounds (64 + k) _ = _
 refine sp_ext fun j => ?_
 rw [Array.getElem?_setIfInBounds, sp_get, sp_get, spCells_size, hb]
 by_cases e : 64 + k = j
 ·subst e; simp only [if_true, show 64 + k < 69 by omega, show ¬ 64 + k < 64 by omega, if_false, show 64 + k - 64 = k by omega, hv]
 rw [if_neg e]
 split
 ·rfl
 rename_i h; rw [hq (j - 64) (by omega)]
theorem tail_other {a b c d e a' b' c' d' e' : Value} (k : Nat) (h : ∀ j, j < 5 → j ≠ k → (#[a, b, c, d, e] : Array Value)[j]? = (#[a', b', c', d', e'] : Array Value)[j]?) : ∀ j, j ≠ k → (#[a, b, c, d, e] : Array Value)[j]? = (#[a', b', c', d', e'] : Array Value)[j]? := by
 intro j hj
 by_cases h5 : j < 5
 ·exact h j h5 hj
 rw [Array.getElem?_eq_none (by simp; omega), Array.getElem?_eq_none (by simp; omega)]
theorem spStore_64 (P : SP) (v : Int) : storeRow (spCells P) 64 [.int .i64 v] = spCells ⟨P.bd, v, P.castle, P.ep, P.half, P.full⟩ :=
 spStore_f P ⟨P.bd, v, P.castle, P.ep, P.half, P.full⟩ (k := 0) (by decide) v rfl (tail_other 0 fun j h hj => by rcases (by omega : j = 1 ∨ j = 2 ∨ j = 3 ∨ j = 4) with rfl | rfl | rfl | rfl <;> rfl) rfl
theorem spStore_65 (P : SP) (v : Int) : storeRow (spCells P) 65 [.int .i64 v] = spCells ⟨P.bd, P.turn, v, P.ep, P.half, P.full⟩ :=
 spStore_f P ⟨P.bd, P.turn, v, P.ep, P.half, P.full⟩ (k := 1) (by decide) v rfl (tail_other 1 fun j h hj => by rcases (by omega : j = 0 ∨ j = 2 ∨ j = 3 ∨ j = 4) with rfl | rfl | rfl | rfl <;> rfl) rfl
theorem spStore_66 (P : SP) (v : Int) : storeRow (spCells P) 66 [.int .i64 v] = spCells ⟨P.bd, P.turn, P.castle, v, P.half, P.full⟩ :=
 spStore_f P ⟨P.bd, P.turn, P.castle, v, P.half, P.full⟩ (k := 2) (by decide) v rfl (tail_other 2 fun j h hj => by rcases (by omega : j = 0 ∨ j = 1 ∨ j = 3 ∨ j = 4) with rfl | rfl | rfl | rfl <;> rfl) rfl
theorem spStore_67 (P : SP) (v : Int) : storeRow (spCells P) 67 [.int .i64 v] = spCells ⟨P.bd, P.turn, P.castle, P.ep, v, P.full⟩ :=
 spStore_f P ⟨P.bd, P.turn, P.castle, P.ep, v, P.full⟩ (k := 3) (by decide) v rfl (tail_other 3 fun j h hj => by rcases (by omega : j = 0 ∨ j = 1 ∨ j = 2 ∨ j = 4) with rfl | rfl | rfl | rfl <;> rfl) rfl
theorem spStore_68 (P : SP) (v : Int) : storeRow (spCells P) 68 [.int .i64 v] = spCells ⟨P.bd, P.turn, P.castle, P.ep, P.half, v⟩ :=
 spStore_f P ⟨P.bd, P.turn, P.castle, P.ep, P.half, v⟩ (k := 4) (by decide) v rfl (tail_other 4 fun j h hj => by rcases (by omega : j = 0 ∨ j = 1 ∨ j = 2 ∨ j = 3) with rfl | rfl | rfl | rfl <;> rfl) rfl
theorem sp_bound (P : SP) (v : Int) {i : Nat} (h : i < 69) : i + (Value.int .i64 v).cells.size ≤ (spCells P).size := by
 rw [spCells_size]; show i + 1 ≤ 69; omega
theorem storeRow_whole : ∀ (vs : List Value) (cs : Array Value) (off : Nat), off + vs.length = cs.size → (storeRow cs off vs).toList = cs.toList.take off ++ vs := by
 intro vs cs off h
 have h1 := storeRow_take vs cs off (by omega)
 rw [List.take_of_length_le] at h1
 ·exact h1
 rw [Array.length_toList, storeRow_size]; omega
theorem spStore_all (P Q : SP) : storeRow (spCells P) 0 (spCells Q).toList = spCells Q := by
 have h := storeRow_whole (spCells Q).toList (spCells P) 0 (by rw [Array.length_toList, spCells_size, spCells_size])
 exact Array.ext' (by rw [h]; simp)
theorem sp_bound_all (P Q : SP) : 0 + (Value.agg (spCells Q)).cells.size ≤ (spCells P).size := by
 show 0 + (spCells Q).size ≤ _; rw [spCells_size, spCells_size]; exact Nat.le_refl _
theorem oneCells_ints : ∀ (l : List Value), (∀ v ∈ l, v.oneCell' = true) → oneCells l = true
 | [], _ => rfl
 | v :: r, h => by unfold oneCells; rw [h v (by simp), oneCells_ints r fun u hu => h u (by simp [hu])]; rfl
theorem sp_one (P : SP) : oneCells (Value.agg (spCells P)).cells.toList = true := by
 refine oneCells_ints _ fun v hv => ?_
 have hv : v ∈ (spCells P).toList := hv
 obtain ⟨i, hi⟩ := List.mem_iff_getElem?.1 hv
 rw [Array.getElem?_toList, sp_get] at hi
 split at hi
 ·cases hi; rfl
 rename_i h
 have h5 : i - 64 < 5 := by
  refine Classical.byContradiction fun hh => ?_
  rw [Array.getElem?_eq_none (by show 5 ≤ i - 64; omega)] at hi; cases hi
 generalize i - 64 = j at hi h5
 rcases (by omega : j = 0 ∨ j = 1 ∨ j = 2 ∨ j = 3 ∨ j = 4) with rfl | rfl | rfl | rfl | rfl <;> cases hi <;> rfl
def takesI (bd : Nat → Int) (f t : Int) : Bool := (bd t.toNat != (0 : Int)) || ((kindOf (bd f.toNat) == (6 : Int)) && ((f % 8) != (t % 8)))
def takesQ (bd : Nat → Int) (f t : Int) : Int := bif (bd t.toNat != (0 : Int)) then t else bif ((kindOf (bd f.toNat) == (6 : Int)) && ((f % 8) != (t % 8))) then 8 * (f / 8) + (t % 8) else -1
theorem takes_rng {bd : Nat → Int} {f t : Int} (hf : 0 ≤ f ∧ f ≤ 63) (ht : 0 ≤ t ∧ t ≤ 63) (h : takesI bd f t = true) : 0 ≤ takesQ bd f t ∧ takesQ bd f t ≤ 63 := by
 unfold takesI at h; unfold takesQ
 cases h1 : (bd t.toNat != (0 : Int))
 ·rw [h1, Bool.false_or] at h; rw [h]; simp only [cond_true, cond_false]; omega
 simp only [cond_true]; exact ht
def leftTo (castle f t : Int) : Nat → Int
 | 0 => castle
 | n + 1 => bif (castBit (leftTo castle f t n) n && (((f == homeK (n : Int)) || (f == homeR (n : Int))) || (t == homeK (n : Int)) || (t == homeR (n : Int)))) then leftTo castle f t n - pw2 (n : Int) else leftTo castle f t n
def leftS (castle f t : Int) : Int := leftTo castle f t 4
theorem leftTo_rng (castle f t : Int) : ∀ n : Nat, castle - 8 * n ≤ leftTo castle f t n ∧ leftTo castle f t n ≤ castle
 | 0 => by simp [leftTo]
 | n + 1 => by
  have := leftTo_rng castle f t n; have := pw2_rng n; unfold leftTo
  cases (castBit (leftTo castle f t n) n && (((f == homeK (n : Int)) || (f == homeR (n : Int))) || (t == homeK (n : Int)) || (t == homeR (n : Int)))) <;> simp <;> omega
theorem leftTo_succ {castle f t j : Int} (h : 0 ≤ j) : leftTo castle f t (j + 1).toNat = bif (castBit (leftTo castle f t j.toNat) j.toNat && (((f == homeK j) || (f == homeR j)) || (t == homeK j) || (t == homeR j))) then leftTo castle f t j.toNat - pw2 j else leftTo castle f t j.toNat := by
 have e : leftTo castle f t (j.toNat + 1) = bif (castBit (leftTo castle f t j.toNat) j.toNat && (((f == homeK (j.toNat : Int)) || (f == homeR (j.toNat : Int))) || (t == homeK (j.toNat : Int)) || (t == homeR (j.toNat : Int)))) then leftTo castle f t j.toNat - pw2 (j.toNat : Int) else leftTo castle f t j.toNat := rfl
 rw [show (j + 1).toNat = j.toNat + 1 by omega, e, show ((j.toNat : Nat) : Int) = j by omega]
def mk1 (bd : Nat → Int) (f t : Int) : Nat → Int := bif takesI bd f t then upd bd (takesQ bd f t).toNat 0 else bd
def mk2 (bd : Nat → Int) (f t : Int) : Nat → Int := upd (upd (mk1 bd f t) f.toNat 0) t.toNat (bd f.toNat)
def mk3 (bd : Nat → Int) (turn f t p : Int) : Nat → Int := bif p != (0 : Int) then upd (mk2 bd f t) t.toNat (p + 6 * turn) else mk2 bd f t
def castlesB (bd : Nat → Int) (f t : Int) : Bool := (kindOf (bd f.toNat) == (1 : Int)) && ((t == f + (2 : Int)) || (t == f - (2 : Int)))
def cornerS (f t : Int) : Int := bif decide (t < f) then 8 * (f / 8) + 0 else 8 * (f / 8) + 7
def mk4 (bd : Nat → Int) (turn f t p : Int) : Nat → Int := bif castlesB bd f t then upd (upd (mk3 bd turn f t p) (cornerS f t).toNat 0) ((f + t) / 2).toNat (3 + 6 * turn) else mk3 bd turn f t p
def epS (bd : Nat → Int) (f t : Int) : Int := bif (kindOf (bd f.toNat) == (6 : Int)) && ((t == f + (16 : Int)) || (t == f - (16 : Int))) then (f + t) / 2 else -1
def halfS (bd : Nat → Int) (half f t : Int) : Int := bif (takesI bd f t || (kindOf (bd f.toNat) == (6 : Int))) then 0 else IntKind.i64.wrap (half + 1)
def madeS (P : SP) (f t p : Int) : SP := ⟨mk4 P.bd P.turn f t p, 1 - P.turn, leftS P.castle f t, epS P.bd f t, halfS P.bd P.half f t, IntKind.i64.wrap (P.full + P.turn)⟩
theorem corner_rng {f t : Int} (hf : 0 ≤ f ∧ f ≤ 63) : 0 ≤ cornerS f t ∧ cornerS f t ≤ 63 := by
 unfold cornerS; cases decide (t < f) <;> simp only [cond_true, cond_false] <;> omega
theorem ret_ib {a a' : Int} {b b' : Bool} (h : a = a') (h' : b = b') : Ending.returned (.tuple #[.int .i64 a, .bool b]) = .returned (.tuple #[.int .i64 a', .bool b']) := by rw [h, h']
theorem sp_cast {P Q : SP} (h : P = Q) : Obj.cells (spCells P) 24 (0, 0) = .cells (spCells Q) 24 (0, 0) := by rw [h]
theorem c36 {w : World} (P : SP) (hB : SPb P) (f t p : Int) (hf : 0 ≤ f ∧ f ≤ 63) (ht : 0 ≤ t ∧ t ≤ 63) :
  Calls Tryz.prog 36 [.agg (spCells P), .agg #[.int .i64 f, .int .i64 t, .int .i64 p]].toArray w (fun e w' => e = .returned (.tuple #[.int .i64 (takesQ P.bd f t), .bool (takesI P.bd f t)]) ∧ Mod [] w w') := by
 have v0 : Mod [] w w := Mod.refl _ _
 have hB1 := hB f.toNat (by omega)
 refine enter (n := 37) Tryz.func36 rfl Tryz.ntmps36 rfl ?_
 refine zw ?_
 refine reg_alloc (spCells P) 24 (some 2) (by kernel_rfl) ?_
 intro b1 w2 hn3
 have hb4 := Nat.le_trans v0.size hn3.base
 have v5 := hn3.mod
 have v6 := zt v0 v5
 have u7 := hn3.at_
 refine reg_alloc (#[.int .i64 f, .int .i64 t, .int .i64 p]) 30 (some 3) (by kernel_rfl) ?_
 intro b8 w9 hn10
 have hb11 := Nat.le_trans v6.size hn10.base
 have v12 := hn10.mod
 have u13 := At.on u7 v12
 have v14 := zt v6 v12
 have u15 := hn10.at_
 refine zs 2 [rz 2 b1, rz 3 b8] ?_
 refine zz ?_
 refine w_seq ?_
 refine zw ?_
 refine zo 5 [rz 2 b1, rz 3 b8, iz 10 (P.bd (0 + t.toNat * 1))] [.cell ⟨b8, 1, none⟩ (.int .i64 t), .prop (0 ≤ t ∧ t < ((64 : Nat) : Int)), .cell ⟨b1, (0 + t.toNat * 1), none⟩ (.int .i64 (P.bd (0 + t.toNat * 1)))] (⟨At.cell u15 rfl, (zh (by omega)), At.cell u13 (spCells_bd P (by omega))⟩) ?_
 rw [(show ((0 + t.toNat * 1) : Nat) = t.toNat from (by omega))]
 refine zs 1 [rz 2 b1, rz 3 b8, (11, .bool ((P.bd t.toNat) != 0))] ?_
 refine zz ?_
 refine zc (fun hc16 => ?_) fun hc16 => ?_
 ·have y16 := hc16; try simp only [zbq] at y16
  refine zw ?_
  refine zo 4 [iz 4 t, (5, .bool true)] [.cell ⟨b8, 1, none⟩ (.int .i64 t)] (At.cell u15 rfl) ?_
  refine zz ?_
  refine w_ret ?_
  refine r_then ?_
  exact ret2 Tryz.results36 rfl rfl (⟨ret_ib (by unfold takesQ; simp only [hc16, cond_true, cond_false]) (by unfold takesI; simp only [hc16, Bool.true_or, Bool.false_or]), v14⟩)
 have y16 := hc16; try simp only [zbq] at y16
 refine w_skip ?_
 refine n_then ?_
 refine w_seq ?_
 refine w_cut (γ := Unit) (fun _ => [(3, pz b8), (29, .bool (((kindOf (P.bd f.toNat)) == 6) && ((f % 8) != (t % 8))))]) (fun _ w_ => Mod [] w9 w_) ?_ ?_
 ·have v19 : Mod [] w9 w9 := Mod.refl _ _
  refine w_quiet (by kernel_rfl) (by kernel_rfl) ?_
  refine zqo 5 [rz 3 b8, iz 18 (P.bd (0 + f.toNat * 1))] [.cell ⟨b8, 0, none⟩ (.int .i64 f), .prop (0 ≤ f ∧ f < ((64 : Nat) : Int)), .cell ⟨b1, (0 + f.toNat * 1), none⟩ (.int .i64 (P.bd (0 + f.toNat * 1)))] (fun _ hC => ⟨At.cell (At.on u15 hC) rfl, (zh (by omega)), At.cell (At.on u13 hC) (spCells_bd P (by omega))⟩) ?_
  rw [(show ((0 + f.toNat * 1) : Nat) = f.toNat from (by omega))]
  refine zqk (some 19) (fun w_ hC => c38 (P.bd f.toNat) w_ (by first | omega | exact ⟨(hB _ (by omega)).1, (hB _ (by omega)).2⟩)) ?_
  refine zq 2 [rz 3 b8, (21, .bool ((kindOf (P.bd f.toNat)) == 6))] ?_
  cases hc20 : ((kindOf (P.bd f.toNat)) == (6 : Int))
  ·have y20 := hc20; try simp only [zbq] at y20
   refine zq 8 [rz 3 b8, (29, .bool false)] ?_
   refine q_out (by kernel_rfl) ?_
   intro w21 v22
   have v25 := zt v19 v22
   exact zb () v25
  have y20 := hc20; try simp only [zbq] at y20
  refine zqo 2 [rz 3 b8, (21, .bool true), iz 23 f] [.cell ⟨b8, 0, none⟩ (.int .i64 f)] (fun _ hC => At.cell (At.on u15 hC) rfl) ?_
  refine zqk (some 24) (fun w_ hC => c77 f w_ (by omega)) ?_
  refine zqo 2 [rz 3 b8, (21, .bool true), iz 24 (f % 8), iz 26 t] [.cell ⟨b8, 1, none⟩ (.int .i64 t)] (fun _ hC => At.cell (At.on u15 hC) rfl) ?_
  refine zqk (some 27) (fun w_ hC => c77 t w_ (by omega)) ?_
  refine zq 2 [rz 3 b8, (29, .bool ((f % 8) != (t % 8)))] ?_
  refine q_out (by kernel_rfl) ?_
  intro w26 v27
  have v30 := zt v19 v27
  exact zb () v30
 intro _ w17 v18
 have u32 := At.on u15 v18
 have v33 := zt v14 v18
 refine zc (fun hc34 => ?_) fun hc34 => ?_
 ·have y34 := hc34; try simp only [zbq] at y34
  refine w_seq ?_
  refine w_quiet (by kernel_rfl) (by kernel_rfl) ?_
  refine zqo 2 [rz 3 b8, iz 31 t] [.cell ⟨b8, 1, none⟩ (.int .i64 t)] (fun _ hC => At.cell (At.on u32 hC) rfl) ?_
  refine zqk (some 32) (fun w_ hC => c77 t w_ (by omega)) ?_
  refine zqo 2 [iz 32 (t % 8), iz 34 f] [.cell ⟨b8, 0, none⟩ (.int .i64 f)] (fun _ hC => At.cell (At.on u32 hC) rfl) ?_
  refine zqk (some 35) (fun w_ hC => c40 f w_ (by omega)) ?_
  refine zqk (some 36) (fun w_ hC => c39 (t % 8) (f / 8) w_ (by omega) (by omega)) ?_
  refine zq 2 [iz 4 (8 * (f / 8) + (t % 8)), (5, .bool true)] ?_
  refine q_out (by kernel_rfl) ?_
  intro w35 v36
  have v39 := zt v33 v36
  refine n_then ?_
  refine w_ret ?_
  refine r_then ?_
  exact ret2 Tryz.results36 rfl rfl (⟨ret_ib (by unfold takesQ; simp only [hc16, hc34, cond_true, cond_false]) (by unfold takesI; simp only [hc16, hc34, Bool.true_or, Bool.false_or]), v39⟩)
 have y34 := hc34; try simp only [zbq] at y34
 refine w_skip ?_
 refine zn ?_
 refine zs 2 [iz 4 (-1 : Int), (5, .bool false)] ?_
 refine zz ?_
 refine w_ret ?_
 exact ret2 Tryz.results36 rfl rfl (⟨ret_ib (by unfold takesQ; simp only [hc16, hc34, cond_true, cond_false]) (by unfold takesI; simp only [hc16, hc34, Bool.true_or, Bool.false_or]), v33⟩)
theorem c41 {w : World} (castle f t p : Int) (hc : 0 ≤ castle ∧ castle ≤ 15) :
  Calls Tryz.prog 41 [.int .i64 castle, .agg #[.int .i64 f, .int .i64 t, .int .i64 p]].toArray w (fun e w' => e = .returned (.int .i64 (leftS castle f t)) ∧ Mod [] w w') := by
 have v0 : Mod [] w w := Mod.refl _ _
 refine enter (n := 51) Tryz.func41 rfl Tryz.ntmps41 rfl ?_
 refine zw ?_
 refine reg_alloc (#[.int .i64 f, .int .i64 t, .int .i64 p]) 30 (some 3) (by kernel_rfl) ?_
 intro b1 w2 hn3
 have hb4 := Nat.le_trans v0.size hn3.base
 have v5 := hn3.mod
 have v6 := zt v0 v5
 have u7 := hn3.at_
 refine zs 1 [iz 0 castle, rz 3 b1] ?_
 refine zz ?_
 refine w_seq ?_
 refine zw ?_
 refine zs 1 [iz 0 castle, rz 3 b1, iz 5 0] ?_
 refine zz ?_
 refine w_block ?_
 refine w_loop (γ := Int) (fun g8 => (4 - g8).toNat) (fun (g8 : Int) => [(0, .int .i64 (leftTo castle f t g8.toNat)), (3, pz b1), (5, .int .i64 g8)]) (fun (g8 : Int) w_ => (0 ≤ g8 ∧ g8 ≤ 4) ∧ Mod [] w2 w_ ∧ (True)) 0 (hold_keep [0, 3, 5] (by kernel_rfl)) ⟨(by constructor <;> (try simp only []) <;> omega), Mod.refl _ _, trivial⟩ ?_
 rintro g8 w9 ⟨⟨h11, h12⟩, v10, hx13⟩
 have u14 := At.on u7 v10
 have v15 := zt v6 v10
 refine w_seq ?_
 refine zw ?_
 refine zs 2 [iz 0 (leftTo castle f t g8.toNat), rz 3 b1, iz 5 g8, (9, .bool (decide (g8 < 4)))] ?_
 refine zz ?_
 refine zc (fun hc16 => ?_) fun hc16 => ?_
 ·have y16 := of_decide_eq_true hc16
  refine w_skip ?_
  refine n_then ?_
  refine w_cut (γ := Int) (fun g17 => [(0, .int .i64 g17), (3, pz b1), (5, .int .i64 g8)]) (fun g17 w_ => Mod [] w9 w_ ∧ g17 = (leftTo castle f t (g8 + 1).toNat)) ?_ ?_
  ·have v20 : Mod [] w9 w9 := Mod.refl _ _
   refine w_block ?_
   refine zw ?_
   refine zs 1 [iz 0 (leftTo castle f t g8.toNat), rz 3 b1, iz 5 g8, iz 13 g8] ?_
   refine zk (some 14) (c78 g8 (by omega)) ?_
   intro w21 v22
   have u23 := At.on u14 v22
   have v26 := zt v20 v22
   have hhm := home_rng (g := g8) (by omega)
   have hrr := leftTo_rng castle f t g8.toNat
   have hpw := pw2_rng g8
   refine zs 5 [iz 0 (leftTo castle f t g8.toNat), rz 3 b1, iz 5 g8, iz 6 (homeK g8), iz 7 (homeR g8)] ?_
   refine zz ?_
   refine w_cut (γ := Unit) (fun _ => [(0, .int .i64 (leftTo castle f t g8.toNat)), (3, pz b1), (5, .int .i64 g8), (45, .bool ((castBit (leftTo castle f t g8.toNat) g8.toNat) && ((((f == (homeK g8)) || (f == (homeR g8))) || (t == (homeK g8))) || (t == (homeR g8)))))]) (fun _ w_ => Mod [] w21 w_) ?_ ?_
   ·have v29 : Mod [] w21 w21 := Mod.refl _ _
    refine w_region ?_
    refine zo 6 [iz 0 (leftTo castle f t g8.toNat), rz 3 b1, iz 5 g8, iz 6 (homeK g8), iz 7 (homeR g8), (22, .bool (castBit (leftTo castle f t g8.toNat) g8.toNat))] [.prop (0 ≤ g8)] (zh (by omega)) ?_
    cases hc30 : (castBit (leftTo castle f t g8.toNat) g8.toNat)
    ·have y30 := hc30; try simp only [zbq] at y30
     refine zs 23 [iz 0 (leftTo castle f t g8.toNat), rz 3 b1, iz 5 g8, (45, .bool false)] ?_
     refine ze ?_
     exact zb () v29
    have y30 := hc30; try simp only [zbq] at y30
    refine zo 5 [iz 0 (leftTo castle f t g8.toNat), rz 3 b1, iz 5 g8, iz 6 (homeK g8), iz 7 (homeR g8), (22, .bool true), (27, .bool (f == (homeK g8)))] [.cell ⟨b1, 0, none⟩ (.int .i64 f)] (At.cell u23 rfl) ?_
    cases hc31 : (f == (homeK g8))
    ·have y31 := hc31; try simp only [zbq] at y31
     refine zo 6 [iz 0 (leftTo castle f t g8.toNat), rz 3 b1, iz 5 g8, iz 6 (homeK g8), iz 7 (homeR g8), (22, .bool true), (33, .bool (f == (homeR g8)))] [.cell ⟨b1, 0, none⟩ (.int .i64 f)] (At.cell u23 rfl) ?_
     cases hc32 : (f == (homeR g8))
     ·have y32 := hc32; try simp only [zbq] at y32
      refine zo 6 [iz 0 (leftTo castle f t g8.toNat), rz 3 b1, iz 5 g8, iz 7 (homeR g8), (22, .bool true), (39, .bool (t == (homeK g8)))] [.cell ⟨b1, 1, none⟩ (.int .i64 t)] (At.cell u23 rfl) ?_
      cases hc33 : (t == (homeK g8))
      ·have y33 := hc33; try simp only [zbq] at y33
       refine zo 6 [iz 0 (leftTo castle f t g8.toNat), rz 3 b1, iz 5 g8, (45, .bool (t == (homeR g8)))] [.cell ⟨b1, 1, none⟩ (.int .i64 t)] (At.cell u23 rfl) ?_
       refine ze ?_
       exact zb () v29
      have y33 := hc33; try simp only [zbq] at y33
      refine zs 6 [iz 0 (leftTo castle f t g8.toNat), rz 3 b1, iz 5 g8, (45, .bool true)] ?_
      refine ze ?_
      exact zb () v29
     have y32 := hc32; try simp only [zbq] at y32
     refine zs 12 [iz 0 (leftTo castle f t g8.toNat), rz 3 b1, iz 5 g8, (45, .bool true)] ?_
     refine ze ?_
     exact zb () v29
    have y31 := hc31; try simp only [zbq] at y31
    refine zs 18 [iz 0 (leftTo castle f t g8.toNat), rz 3 b1, iz 5 g8, (45, .bool true)] ?_
    refine ze ?_
    exact zb () v29
   intro _ w27 v28
   have v37 := zt v26 v28
   refine zc (fun hc38 => ?_) fun hc38 => ?_
   ·have y38 := hc38; try simp only [zbq] at y38
    refine w_region ?_
    refine zo 3 [rz 3 b1, iz 5 g8, iz 46 (leftTo castle f t g8.toNat), iz 48 (IntKind.i64.wrap ((1 : Int) * 2 ^ (min g8.toNat IntKind.i64.bits)))] [.prop (0 ≤ g8)] (zh (by omega)) ?_
    rw [(show ((IntKind.i64.wrap ((1 : Int) * 2 ^ (min g8.toNat IntKind.i64.bits))) : Int) = (pw2 g8) from (pw2_eq (by omega)))]
    refine zs 1 [rz 3 b1, iz 5 g8, iz 49 (IntKind.i64.wrap ((leftTo castle f t g8.toNat) - (pw2 g8)))] ?_
    rw [zi ((leftTo castle f t g8.toNat) - (pw2 g8)) (by omega) (by omega)]
    refine zs 1 [iz 0 ((leftTo castle f t g8.toNat) - (pw2 g8)), rz 3 b1, iz 5 g8] ?_
    refine ze ?_
    refine n_block ?_
    exact c_back ((leftTo castle f t g8.toNat) - (pw2 g8)) [0, 3, 5] (by kernel_rfl) ⟨v37, (by rw [leftTo_succ (by omega)]; simp only [hc38, cond_true, cond_false])⟩
   have y38 := hc38; try simp only [zbq] at y38
   refine w_skip ?_
   refine n_block ?_
   exact c_back (leftTo castle f t g8.toNat) [0, 3, 5] (by kernel_rfl) ⟨v37, (by rw [leftTo_succ (by omega)]; simp only [hc38, cond_true, cond_false])⟩
  rintro _ w18 ⟨v19, rfl⟩
  have v41 := zt v10 v19
  refine w_region ?_
  refine zs 2 [iz 0 (leftTo castle f t (g8 + 1).toNat), rz 3 b1, iz 11 (IntKind.i64.wrap (g8 + 1))] ?_
  rw [zi (g8 + (1 : Int)) (by omega) (by omega)]
  refine zs 1 [iz 0 (leftTo castle f t (g8 + 1).toNat), rz 3 b1, iz 5 (g8 + 1)] ?_
  refine ze ?_
  exact l_back (g8 + 1) [0, 3, 5] (by kernel_rfl) (by omega) ⟨(by constructor <;> (try simp only []) <;> omega), v41, trivial⟩
 have y16 := of_decide_eq_false hc16
 refine w_exit ?_
 refine x_then ?_
 refine x_then ?_
 refine x_hit ?_
 refine zn ?_
 refine zs 2 [iz 4 (leftTo castle f t g8.toNat)] ?_
 refine zz ?_
 refine w_ret ?_
 exact ret1 rfl rfl (⟨ret_int (by rw [show g8 = 4 by omega]; rfl), v15⟩)
theorem c19 {w : World} (P : SP) (hB : SPb P) (f t p : Int) (hf : 0 ≤ f ∧ f ≤ 63) (ht : 0 ≤ t ∧ t ≤ 63) (hp : 0 ≤ p ∧ p ≤ 6) (hT : 0 ≤ P.turn ∧ P.turn ≤ 1) (hc : 0 ≤ P.castle ∧ P.castle ≤ 15) :
  Calls Tryz.prog 19 [.agg (spCells P), .agg #[.int .i64 f, .int .i64 t, .int .i64 p]].toArray w (fun e w' => e = .returned (.agg (spCells (madeS P f t p))) ∧ Mod [] w w') := by
 have v0 : Mod [] w w := Mod.refl _ _
 have hB1 := hB f.toNat (by omega)
 refine enter (n := 147) Tryz.func19 rfl Tryz.ntmps19 rfl ?_
 refine zw ?_
 refine reg_alloc (spCells P) 24 (some 2) (by kernel_rfl) ?_
 intro b1 w2 hn3
 have hb4 := Nat.le_trans v0.size hn3.base
 have v5 := hn3.mod
 have v6 := Mod.trans v0 (Mod.of_nil v5)
 have u7 := hn3.at_
 refine reg_alloc (#[.int .i64 f, .int .i64 t, .int .i64 p]) 30 (some 3) (by kernel_rfl) ?_
 intro b8 w9 hn10
 have hb11 := Nat.le_trans v6.size hn10.base
 have v12 := hn10.mod
 have u13 := At.on u7 v12
 have v14 := Mod.trans v6 (Mod.of_nil v12)
 have u15 := hn10.at_
 refine reg_alloc (spCells zeroSP) 24 (some 4) (by kernel_rfl) ?_
 intro b16 w17 hn18
 have ne19 : b1 ≠ b16 := hn18.ne u13
 have hb20 := Nat.le_trans v14.size hn18.base
 have v21 := hn18.mod
 have u22 := At.on u13 v21
 have u23 := At.on u15 v21
 have v24 := Mod.trans v14 (Mod.of_nil v21)
 have u25 := hn18.at_
 refine reg_end (by kernel_rfl) ?_
 refine zn ?_
 refine zv 5 [rz 2 b1, rz 3 b8, rz 4 b16, iz 14 (P.bd (0 + f.toNat * 1))] [.cell ⟨b8, 0, none⟩ (.int .i64 f), .prop (0 ≤ f ∧ f < ((64 : Nat) : Int)), .cell ⟨b1, (0 + f.toNat * 1), none⟩ (.int .i64 (P.bd (0 + f.toNat * 1)))] [.int .i64 f, .int .i64 (P.bd (0 + f.toNat * 1))] (⟨At.cell u23 rfl, (zh (by omega)), At.cell u22 (spCells_bd P (by omega))⟩) ?_
 rw [(show ((0 + f.toNat * 1) : Nat) = f.toNat from (by omega))]
 refine reg_seg 1 [(2, .pointer (some ⟨b1, 0, none⟩)), (3, .pointer (some ⟨b8, 0, none⟩)), (4, .pointer (some ⟨b16, 0, none⟩)), (5, .int .i64 (P.bd f.toNat))] [] [] [2, 3, 4, 5] (by kernel_rfl) trivial ?_
 refine reg_end (by kernel_rfl) ?_
 refine zn ?_
 refine reg_seg 2 [(2, .pointer (some ⟨b1, 0, none⟩)), (3, .pointer (some ⟨b8, 0, none⟩)), (4, .pointer (some ⟨b16, 0, none⟩)), (5, .int .i64 (P.bd f.toNat)), (16, .agg (spCells P)), (17, .agg (#[.int .i64 f, .int .i64 t, .int .i64 p]))] [.row ⟨b1, 0, none⟩ 69 (spCells P), .row ⟨b8, 0, none⟩ 3 (#[.int .i64 f, .int .i64 t, .int .i64 p])] [.agg (spCells P), .agg (#[.int .i64 f, .int .i64 t, .int .i64 p])] [2, 3, 4, 5, 16, 17] (by kernel_rfl) (⟨(At.row u22 (spCells_size P)), At.row u23 rfl⟩) ?_
 refine zk (some 18) (c36 P hB f t p (by omega) (by omega)) ?_
 intro w26 v27
 have u28 := At.on u22 v27
 have u29 := At.on u23 v27
 have u30 := At.on u25 v27
 have v31 := Mod.trans v24 (Mod.of_nil v27)
 refine reg_seg 5 [(2, .pointer (some ⟨b1, 0, none⟩)), (3, .pointer (some ⟨b8, 0, none⟩)), (4, .pointer (some ⟨b16, 0, none⟩)), (5, .int .i64 (P.bd f.toNat)), (6, .int .i64 (takesQ P.bd f t)), (7, .bool (takesI P.bd f t))] [] [] [2, 3, 4, 5, 6, 7] (by kernel_rfl) trivial ?_
 refine reg_end (by kernel_rfl) ?_
 refine zn ?_
 refine reg_seg 1 [(2, .pointer (some ⟨b1, 0, none⟩)), (3, .pointer (some ⟨b8, 0, none⟩)), (4, .pointer (some ⟨b16, 0, none⟩)), (5, .int .i64 (P.bd f.toNat)), (6, .int .i64 (takesQ P.bd f t)), (7, .bool (takesI P.bd f t)), (21, .agg (spCells P))] [.row ⟨b1, 0, none⟩ 69 (spCells P)] [.agg (spCells P)] [2, 3, 4, 5, 6, 7, 21] (by kernel_rfl) (At.row u28 (spCells_size P)) ?_
 refine reg_alloc (spCells zeroSP) 24 (some 8) (by kernel_rfl) ?_
 intro b32 w33 hn34
 have ne35 : b1 ≠ b32 := hn34.ne u28
 have ne36 : b16 ≠ b32 := hn34.ne u30
 have hb37 := Nat.le_trans v31.size hn34.base
 have v38 := hn34.mod
 have u39 := At.on u28 v38
 have u40 := At.on u29 v38
 have u41 := At.on u30 v38
 have v42 := Mod.trans v31 (Mod.of_nil v38)
 have u43 := hn34.at_
 refine reg_store b32 0 (.agg (spCells P)) none (by kernel_rfl) u43 (sp_bound_all zeroSP _) (sp_one P) ?_
 intro w44 hu45
 have u46 : At w44 b32 (.cells (spCells P) 24 (0, 0)) := at_cast hu45.at_ (congrArg (fun A => Obj.cells A 24 (0, 0)) (spStore_all zeroSP P))
 have u47 := At.keep u39 hu45.mod (not_mem1 ne35)
 have u48 := At.keep u40 hu45.mod (not_mem1 (At.ne u40 u43 rfl))
 have u49 := At.keep u41 hu45.mod (not_mem1 ne36)
 have v50 := Mod.fresh' v42 hu45.mod (by simp <;> omega)
 refine reg_end (by kernel_rfl) ?_
 refine n_then ?_
 refine w_cut (γ := Unit) (fun _ => [(2, .pointer (some ⟨b1, 0, none⟩)), (3, .pointer (some ⟨b8, 0, none⟩)), (4, .pointer (some ⟨b16, 0, none⟩)), (5, .int .i64 (P.bd f.toNat)), (7, .bool (takesI P.bd f t)), (8, .pointer (some ⟨b32, 0, none⟩))]) (fun _ w_ => Mod [b32] w44 w_ ∧ At w_ b32 (.cells (spCells (⟨(mk1 P.bd f t), P.turn, P.castle, P.ep, P.half, P.full⟩ : SP)) 24 (0, 0))) ?_ ?_
 ·have v54 : Mod [b32] w44 w44 := Mod.refl _ _
  refine zw ?_
  refine reg_seg 1 [(2, .pointer (some ⟨b1, 0, none⟩)), (3, .pointer (some ⟨b8, 0, none⟩)), (4, .pointer (some ⟨b16, 0, none⟩)), (5, .int .i64 (P.bd f.toNat)), (6, .int .i64 (takesQ P.bd f t)), (7, .bool (takesI P.bd f t)), (8, .pointer (some ⟨b32, 0, none⟩)), (22, .bool (takesI P.bd f t))] [] [] [2, 3, 4, 5, 6, 7, 8, 22] (by kernel_rfl) trivial ?_
  refine reg_end (by kernel_rfl) ?_
  refine n_then ?_
  refine w_cond (b := (takesI P.bd f t)) rfl (fun hc55 => ?_) (fun hc55 => ?_)
  ·have y55 := hc55; try simp only [Bool.or_eq_true, Bool.and_eq_true, Bool.or_eq_false_iff, Bool.and_eq_false_iff, Bool.not_eq_true', Bool.not_eq_false', decide_eq_true_eq, decide_eq_false_iff_not, beq_iff_eq, beq_eq_false_iff_ne, bne_iff_ne, bne_eq_false_iff_eq] at y55
   have htq := takes_rng hf ht hc55
   refine w_region ?_
   refine zv 3 [rz 2 b1, rz 3 b8, rz 4 b16, iz 5 (P.bd f.toNat), (7, .bool (takesI P.bd f t)), rz 8 b32, (25, .pointer (some ⟨b32, (0 + (takesQ P.bd f t).toNat * 1), none⟩))] [.prop (0 ≤ (takesQ P.bd f t) ∧ (takesQ P.bd f t) < ((64 : Nat) : Int))] [] (zh (by omega)) ?_
   refine reg_store b32 (0 + (takesQ P.bd f t).toNat * 1) (.int .i64 (0 : Int)) none (by kernel_rfl) u46 (sp_bound P (0 : Int) (by omega)) rfl ?_
   intro w56 hu57
   have u58 : At w56 b32 (.cells (spCells (⟨(upd P.bd (0 + (takesQ P.bd f t).toNat * 1) (0 : Int)), P.turn, P.castle, P.ep, P.half, P.full⟩ : SP)) 24 (0, 0)) := at_cast hu57.at_ (congrArg (fun A => Obj.cells A 24 (0, 0)) (spStore_bd P (by omega) (0 : Int)))
   have v63 := Mod.fresh' v54 hu57.mod (by simp <;> omega)
   refine reg_end (by kernel_rfl) ?_
   exact c_back () [2, 3, 4, 5, 7, 8] (by kernel_rfl) ⟨v63, at_cast u58 (sp_cast (by unfold mk1; simp only [hc55, cond_true, cond_false, Nat.zero_add, Nat.mul_one]))⟩
  have y55 := hc55; try simp only [Bool.or_eq_true, Bool.and_eq_true, Bool.or_eq_false_iff, Bool.and_eq_false_iff, Bool.not_eq_true', Bool.not_eq_false', decide_eq_true_eq, decide_eq_false_iff_not, beq_iff_eq, beq_eq_false_iff_ne, bne_iff_ne, bne_eq_false_iff_eq] at y55
  refine w_skip ?_
  exact c_back () [2, 3, 4, 5, 7, 8] (by kernel_rfl) ⟨v54, at_cast u46 (sp_cast (by unfold mk1; simp only [hc55, cond_true, cond_false, Nat.zero_add, Nat.mul_one]))⟩
 rintro _ w51 ⟨v52, u53⟩
 have u64 := At.keep u47 v52 (not_mem1 ne35)
 have u65 := At.keep u48 v52 (not_mem1 (At.ne u48 u46 rfl))
 have u66 := At.keep u49 v52 (not_mem1 ne36)
 have v67 := Mod.fresh' v50 v52 (by simp <;> omega)
 refine zw ?_
 refine zv 4 [rz 2 b1, rz 3 b8, rz 4 b16, iz 5 (P.bd f.toNat), (7, .bool (takesI P.bd f t)), rz 8 b32, (29, .pointer (some ⟨b32, (0 + f.toNat * 1), none⟩))] [.cell ⟨b8, 0, none⟩ (.int .i64 f), .prop (0 ≤ f ∧ f < ((64 : Nat) : Int))] [.int .i64 f] (⟨At.cell u65 rfl, (zh (by omega))⟩) ?_
 refine reg_store b32 (0 + f.toNat * 1) (.int .i64 (0 : Int)) none (by kernel_rfl) u53 (sp_bound (⟨(mk1 P.bd f t), P.turn, P.castle, P.ep, P.half, P.full⟩ : SP) (0 : Int) (by omega)) rfl ?_
 intro w68 hu69
 have u70 : At w68 b32 (.cells (spCells (⟨(upd (mk1 P.bd f t) (0 + f.toNat * 1) (0 : Int)), P.turn, P.castle, P.ep, P.half, P.full⟩ : SP)) 24 (0, 0)) := at_cast hu69.at_ (congrArg (fun A => Obj.cells A 24 (0, 0)) (spStore_bd (⟨(mk1 P.bd f t), P.turn, P.castle, P.ep, P.half, P.full⟩ : SP) (by omega) (0 : Int)))
 have u71 := At.keep u64 hu69.mod (not_mem1 ne35)
 have u72 := At.keep u65 hu69.mod (not_mem1 (At.ne u65 u53 rfl))
 have u73 := At.keep u66 hu69.mod (not_mem1 ne36)
 have v74 := Mod.fresh' v67 hu69.mod (by simp <;> omega)
 refine reg_end (by kernel_rfl) ?_
 refine zn ?_
 refine zv 5 [rz 2 b1, rz 3 b8, rz 4 b16, iz 5 (P.bd f.toNat), (7, .bool (takesI P.bd f t)), rz 8 b32, iz 32 (P.bd f.toNat), (34, .pointer (some ⟨b32, (0 + t.toNat * 1), none⟩))] [.cell ⟨b8, 1, none⟩ (.int .i64 t), .prop (0 ≤ t ∧ t < ((64 : Nat) : Int))] [.int .i64 t] (⟨At.cell u72 rfl, (zh (by omega))⟩) ?_
 refine reg_store b32 (0 + t.toNat * 1) (.int .i64 (P.bd f.toNat)) none (by kernel_rfl) u70 (sp_bound (⟨(upd (mk1 P.bd f t) (0 + f.toNat * 1) (0 : Int)), P.turn, P.castle, P.ep, P.half, P.full⟩ : SP) (P.bd f.toNat) (by omega)) rfl ?_
 intro w75 hu76
 have u77 : At w75 b32 (.cells (spCells (⟨(upd (upd (mk1 P.bd f t) (0 + f.toNat * 1) (0 : Int)) (0 + t.toNat * 1) (P.bd f.toNat)), P.turn, P.castle, P.ep, P.half, P.full⟩ : SP)) 24 (0, 0)) := at_cast hu76.at_ (congrArg (fun A => Obj.cells A 24 (0, 0)) (spStore_bd (⟨(upd (mk1 P.bd f t) (0 + f.toNat * 1) (0 : Int)), P.turn, P.castle, P.ep, P.half, P.full⟩ : SP) (by omega) (P.bd f.toNat)))
 have u78 := At.keep u71 hu76.mod (not_mem1 ne35)
 have u79 := At.keep u72 hu76.mod (not_mem1 (At.ne u72 u70 rfl))
 have u80 := At.keep u73 hu76.mod (not_mem1 ne36)
 have v81 := Mod.fresh' v74 hu76.mod (by simp <;> omega)
 refine reg_end (by kernel_rfl) ?_
 refine n_then ?_
 refine w_cut (γ := Unit) (fun _ => [(2, .pointer (some ⟨b1, 0, none⟩)), (3, .pointer (some ⟨b8, 0, none⟩)), (4, .pointer (some ⟨b16, 0, none⟩)), (5, .int .i64 (P.bd f.toNat)), (7, .bool (takesI P.bd f t)), (8, .pointer (some ⟨b32, 0, none⟩))]) (fun _ w_ => Mod [b32] w75 w_ ∧ At w_ b32 (.cells (spCells (⟨(mk3 P.bd P.turn f t p), P.turn, P.castle, P.ep, P.half, P.full⟩ : SP)) 24 (0, 0))) ?_ ?_
 ·have v85 : Mod [b32] w75 w75 := Mod.refl _ _
  refine zw ?_
  refine zv 3 [(2, pz b1), (3, pz b8), (4, pz b16), (5, .int .i64 (P.bd f.toNat)), (7, .bool (takesI P.bd f t)), (8, pz b32), (37, .bool (p != (0 : Int)))] [.cell ⟨b8, 2, none⟩ (.int .i64 p)] [.int .i64 p] (At.cell u79 rfl) ?_
  refine reg_end (by kernel_rfl) ?_
  refine n_then ?_
  refine w_cond (b := (p != (0 : Int))) rfl (fun hc86 => ?_) (fun hc86 => ?_)
  ·have y86 := hc86; try simp only [Bool.or_eq_true, Bool.and_eq_true, Bool.or_eq_false_iff, Bool.and_eq_false_iff, Bool.not_eq_true', Bool.not_eq_false', decide_eq_true_eq, decide_eq_false_iff_not, beq_iff_eq, beq_eq_false_iff_ne, bne_iff_ne, bne_eq_false_iff_eq] at y86
   refine w_tail 8 (by kernel_rfl) (by kernel_rfl) ?_
   refine q_seg 6 [(2, .pointer (some ⟨b1, 0, none⟩)), (3, .pointer (some ⟨b8, 0, none⟩)), (4, .pointer (some ⟨b16, 0, none⟩)), (5, .int .i64 (P.bd f.toNat)), (7, .bool (takesI P.bd f t)), (8, .pointer (some ⟨b32, 0, none⟩)), (39, .int .i64 t), (41, .int .i64 p), (43, .int .i64 P.turn)] [.cell ⟨b8, 1, none⟩ (.int .i64 t), .cell ⟨b8, 2, none⟩ (.int .i64 p), .cell ⟨b1, 64, none⟩ (.int .i64 P.turn)] [.int .i64 t, .int .i64 p, .int .i64 P.turn] [2, 3, 4, 5, 7, 8, 39, 41, 43] (by kernel_rfl) (fun _ hC => ⟨At.cell (At.on u79 hC) rfl, At.cell (At.on u79 hC) rfl, At.cell (At.on u78 hC) (spCells_64 P)⟩) ?_
   refine zqk (some 44) (fun w_ hC => c37 p P.turn w_ (by omega) (by omega)) ?_
   refine q_seg 1 [(2, .pointer (some ⟨b1, 0, none⟩)), (3, .pointer (some ⟨b8, 0, none⟩)), (4, .pointer (some ⟨b16, 0, none⟩)), (5, .int .i64 (P.bd f.toNat)), (7, .bool (takesI P.bd f t)), (8, .pointer (some ⟨b32, 0, none⟩)), (39, .int .i64 t), (44, .int .i64 (p + 6 * P.turn)), (45, .pointer (some ⟨b32, 0, none⟩))] [] [] [2, 3, 4, 5, 7, 8, 39, 44, 45] (by kernel_rfl) (fun _ hC => trivial) ?_
   refine q_end (by kernel_rfl) (fun a ha w87 v88 => (?_ : Reg _ _ _ _ _ 8 _ w87) a ha)
   have u92 := At.on u77 v88
   have v94 := Mod.trans v85 (Mod.of_nil v88)
   refine zv 1 [rz 2 b1, rz 3 b8, rz 4 b16, iz 5 (P.bd f.toNat), (7, .bool (takesI P.bd f t)), rz 8 b32, iz 44 (p + 6 * P.turn), (46, .pointer (some ⟨b32, (0 + t.toNat * 1), none⟩))] [.prop (0 ≤ t ∧ t < ((64 : Nat) : Int))] [] (zh (by omega)) ?_
   refine reg_store b32 (0 + t.toNat * 1) (.int .i64 (p + 6 * P.turn)) none (by kernel_rfl) u92 (sp_bound (⟨(upd (upd (mk1 P.bd f t) (0 + f.toNat * 1) (0 : Int)) (0 + t.toNat * 1) (P.bd f.toNat)), P.turn, P.castle, P.ep, P.half, P.full⟩ : SP) (p + 6 * P.turn) (by omega)) rfl ?_
   intro w95 hu96
   have u97 : At w95 b32 (.cells (spCells (⟨(upd (upd (upd (mk1 P.bd f t) (0 + f.toNat * 1) (0 : Int)) (0 + t.toNat * 1) (P.bd f.toNat)) (0 + t.toNat * 1) (p + 6 * P.turn)), P.turn, P.castle, P.ep, P.half, P.full⟩ : SP)) 24 (0, 0)) := at_cast hu96.at_ (congrArg (fun A => Obj.cells A 24 (0, 0)) (spStore_bd (⟨(upd (upd (mk1 P.bd f t) (0 + f.toNat * 1) (0 : Int)) (0 + t.toNat * 1) (P.bd f.toNat)), P.turn, P.castle, P.ep, P.half, P.full⟩ : SP) (by omega) (p + 6 * P.turn)))
   have v102 := Mod.fresh' v94 hu96.mod (by simp <;> omega)
   refine reg_end (by kernel_rfl) ?_
   exact c_back () [2, 3, 4, 5, 7, 8] (by kernel_rfl) ⟨v102, at_cast u97 (sp_cast (by unfold mk3 mk2; simp only [hc86, cond_true, cond_false, Nat.zero_add, Nat.mul_one]))⟩
  have y86 := hc86; try simp only [Bool.or_eq_true, Bool.and_eq_true, Bool.or_eq_false_iff, Bool.and_eq_false_iff, Bool.not_eq_true', Bool.not_eq_false', decide_eq_true_eq, decide_eq_false_iff_not, beq_iff_eq, beq_eq_false_iff_ne, bne_iff_ne, bne_eq_false_iff_eq] at y86
  refine w_skip ?_
  exact c_back () [2, 3, 4, 5, 7, 8] (by kernel_rfl) ⟨v85, at_cast u77 (sp_cast (by unfold mk3 mk2; simp only [hc86, cond_true, cond_false, Nat.zero_add, Nat.mul_one]))⟩
 rintro _ w82 ⟨v83, u84⟩
 have u103 := At.keep u78 v83 (not_mem1 ne35)
 have u104 := At.keep u79 v83 (not_mem1 (At.ne u79 u77 rfl))
 have u105 := At.keep u80 v83 (not_mem1 ne36)
 have v106 := Mod.fresh' v81 v83 (by simp <;> omega)
 refine w_cut (γ := Unit) (fun _ => [(2, .pointer (some ⟨b1, 0, none⟩)), (3, .pointer (some ⟨b8, 0, none⟩)), (4, .pointer (some ⟨b16, 0, none⟩)), (5, .int .i64 (P.bd f.toNat)), (7, .bool (takesI P.bd f t)), (8, .pointer (some ⟨b32, 0, none⟩))]) (fun _ w_ => Mod [b32] w82 w_ ∧ At w_ b32 (.cells (spCells (⟨(mk4 P.bd P.turn f t p), P.turn, P.castle, P.ep, P.half, P.full⟩ : SP)) 24 (0, 0))) ?_ ?_
 ·have v110 : Mod [b32] w82 w82 := Mod.refl _ _
  refine w_cut (γ := Unit) (fun _ => [(2, .pointer (some ⟨b1, 0, none⟩)), (3, .pointer (some ⟨b8, 0, none⟩)), (4, .pointer (some ⟨b16, 0, none⟩)), (5, .int .i64 (P.bd f.toNat)), (7, .bool (takesI P.bd f t)), (8, .pointer (some ⟨b32, 0, none⟩)), (65, .bool (((kindOf (P.bd f.toNat)) == (1 : Int)) && ((t == (f + (2 : Int))) || (t == (f - (2 : Int))))))]) (fun _ w_ => Mod [] w82 w_) ?_ ?_
  ·have v113 : Mod [] w82 w82 := Mod.refl _ _
   refine w_region ?_
   refine reg_seg 1 [(2, .pointer (some ⟨b1, 0, none⟩)), (3, .pointer (some ⟨b8, 0, none⟩)), (4, .pointer (some ⟨b16, 0, none⟩)), (5, .int .i64 (P.bd f.toNat)), (7, .bool (takesI P.bd f t)), (8, .pointer (some ⟨b32, 0, none⟩)), (47, .int .i64 (P.bd f.toNat))] [] [] [2, 3, 4, 5, 7, 8, 47] (by kernel_rfl) trivial ?_
   refine zk (some 48) (c38 (P.bd f.toNat) w82 (by first | omega | exact ⟨(hB _ (by omega)).1, (hB _ (by omega)).2⟩)) ?_
   intro w114 v115
   have u117 := At.on u104 v115
   have v120 := Mod.trans v113 (Mod.of_nil v115)
   refine reg_seg 2 [(2, .pointer (some ⟨b1, 0, none⟩)), (3, .pointer (some ⟨b8, 0, none⟩)), (4, .pointer (some ⟨b16, 0, none⟩)), (5, .int .i64 (P.bd f.toNat)), (7, .bool (takesI P.bd f t)), (8, .pointer (some ⟨b32, 0, none⟩)), (50, .bool ((kindOf (P.bd f.toNat)) == (1 : Int)))] [] [] [2, 3, 4, 5, 7, 8, 50] (by kernel_rfl) trivial ?_
   cases hc122 : ((kindOf (P.bd f.toNat)) == (1 : Int))
   ·have y122 := hc122; try simp only [Bool.or_eq_true, Bool.and_eq_true, Bool.or_eq_false_iff, Bool.and_eq_false_iff, Bool.not_eq_true', Bool.not_eq_false', decide_eq_true_eq, decide_eq_false_iff_not, beq_iff_eq, beq_eq_false_iff_ne, bne_iff_ne, bne_eq_false_iff_eq] at y122
    refine reg_seg 15 [(2, .pointer (some ⟨b1, 0, none⟩)), (3, .pointer (some ⟨b8, 0, none⟩)), (4, .pointer (some ⟨b16, 0, none⟩)), (5, .int .i64 (P.bd f.toNat)), (7, .bool (takesI P.bd f t)), (8, .pointer (some ⟨b32, 0, none⟩)), (65, .bool false)] [] [] [2, 3, 4, 5, 7, 8, 65] (by kernel_rfl) trivial ?_
    refine reg_end (by kernel_rfl) ?_
    exact c_back () [2, 3, 4, 5, 7, 8, 65] (by kernel_rfl) v120
   have y122 := hc122; try simp only [Bool.or_eq_true, Bool.and_eq_true, Bool.or_eq_false_iff, Bool.and_eq_false_iff, Bool.not_eq_true', Bool.not_eq_false', decide_eq_true_eq, decide_eq_false_iff_not, beq_iff_eq, beq_eq_false_iff_ne, bne_iff_ne, bne_eq_false_iff_eq] at y122
   refine zv 5 [(2, pz b1), (3, pz b8), (4, pz b16), (5, .int .i64 (P.bd f.toNat)), (7, .bool (takesI P.bd f t)), (8, pz b32), (50, .bool true), (52, .int .i64 t), (55, .int .i64 (IntKind.i64.wrap (f + (2 : Int))))] [.cell ⟨b8, 1, none⟩ (.int .i64 t), .cell ⟨b8, 0, none⟩ (.int .i64 f)] [.int .i64 t, .int .i64 f] (⟨At.cell u117 rfl, At.cell u117 rfl⟩) ?_
   rw [(show ((IntKind.i64.wrap (f + (2 : Int))) : Int) = (f + (2 : Int)) from (i64_in' (by omega) (by omega)))]
   refine reg_seg 2 [(2, .pointer (some ⟨b1, 0, none⟩)), (3, .pointer (some ⟨b8, 0, none⟩)), (4, .pointer (some ⟨b16, 0, none⟩)), (5, .int .i64 (P.bd f.toNat)), (7, .bool (takesI P.bd f t)), (8, .pointer (some ⟨b32, 0, none⟩)), (50, .bool true), (57, .bool (t == (f + (2 : Int))))] [] [] [2, 3, 4, 5, 7, 8, 50, 57] (by kernel_rfl) trivial ?_
   cases hc123 : (t == (f + (2 : Int)))
   ·have y123 := hc123; try simp only [Bool.or_eq_true, Bool.and_eq_true, Bool.or_eq_false_iff, Bool.and_eq_false_iff, Bool.not_eq_true', Bool.not_eq_false', decide_eq_true_eq, decide_eq_false_iff_not, beq_iff_eq, beq_eq_false_iff_ne, bne_iff_ne, bne_eq_false_iff_eq] at y123
    refine zv 5 [(2, pz b1), (3, pz b8), (4, pz b16), (5, .int .i64 (P.bd f.toNat)), (7, .bool (takesI P.bd f t)), (8, pz b32), (50, .bool true), (57, .bool false), (59, .int .i64 t), (62, .int .i64 (IntKind.i64.wrap (f - (2 : Int))))] [.cell ⟨b8, 1, none⟩ (.int .i64 t), .cell ⟨b8, 0, none⟩ (.int .i64 f)] [.int .i64 t, .int .i64 f] (⟨At.cell u117 rfl, At.cell u117 rfl⟩) ?_
    rw [(show ((IntKind.i64.wrap (f - (2 : Int))) : Int) = (f - (2 : Int)) from (i64_in' (by omega) (by omega)))]
    refine reg_seg 3 [(2, .pointer (some ⟨b1, 0, none⟩)), (3, .pointer (some ⟨b8, 0, none⟩)), (4, .pointer (some ⟨b16, 0, none⟩)), (5, .int .i64 (P.bd f.toNat)), (7, .bool (takesI P.bd f t)), (8, .pointer (some ⟨b32, 0, none⟩)), (65, .bool (t == (f - (2 : Int))))] [] [] [2, 3, 4, 5, 7, 8, 65] (by kernel_rfl) trivial ?_
    refine reg_end (by kernel_rfl) ?_
    exact c_back () [2, 3, 4, 5, 7, 8, 65] (by kernel_rfl) v120
   have y123 := hc123; try simp only [Bool.or_eq_true, Bool.and_eq_true, Bool.or_eq_false_iff, Bool.and_eq_false_iff, Bool.not_eq_true', Bool.not_eq_false', decide_eq_true_eq, decide_eq_false_iff_not, beq_iff_eq, beq_eq_false_iff_ne, bne_iff_ne, bne_eq_false_iff_eq] at y123
   refine reg_seg 8 [(2, .pointer (some ⟨b1, 0, none⟩)), (3, .pointer (some ⟨b8, 0, none⟩)), (4, .pointer (some ⟨b16, 0, none⟩)), (5, .int .i64 (P.bd f.toNat)), (7, .bool (takesI P.bd f t)), (8, .pointer (some ⟨b32, 0, none⟩)), (65, .bool true)] [] [] [2, 3, 4, 5, 7, 8, 65] (by kernel_rfl) trivial ?_
   refine reg_end (by kernel_rfl) ?_
   exact c_back () [2, 3, 4, 5, 7, 8, 65] (by kernel_rfl) v120
  intro _ w111 v112
  have u124 := At.on u103 v112
  have u125 := At.on u104 v112
  have u127 := At.on u84 v112
  have v129 := Mod.trans v110 (Mod.of_nil v112)
  refine w_cond (b := (((kindOf (P.bd f.toNat)) == (1 : Int)) && ((t == (f + (2 : Int))) || (t == (f - (2 : Int)))))) rfl (fun hc130 => ?_) (fun hc130 => ?_)
  ·have y130 := hc130; try simp only [Bool.or_eq_true, Bool.and_eq_true, Bool.or_eq_false_iff, Bool.and_eq_false_iff, Bool.not_eq_true', Bool.not_eq_false', decide_eq_true_eq, decide_eq_false_iff_not, beq_iff_eq, beq_eq_false_iff_ne, bne_iff_ne, bne_eq_false_iff_eq] at y130
   have hcr := corner_rng (t := t) hf
   refine zw ?_
   refine reg_seg 2 [(2, .pointer (some ⟨b1, 0, none⟩)), (3, .pointer (some ⟨b8, 0, none⟩)), (4, .pointer (some ⟨b16, 0, none⟩)), (5, .int .i64 (P.bd f.toNat)), (7, .bool (takesI P.bd f t)), (8, .pointer (some ⟨b32, 0, none⟩)), (67, .int .i64 f)] [.cell ⟨b8, 0, none⟩ (.int .i64 f)] [.int .i64 f] [2, 3, 4, 5, 7, 8, 67] (by kernel_rfl) (At.cell u125 rfl) ?_
   refine zk (some 68) (c40 f w111 (by omega)) ?_
   intro w131 v132
   have u133 := At.on u124 v132
   have u134 := At.on u125 v132
   have u136 := At.on u127 v132
   have v138 := Mod.trans v129 (Mod.of_nil v132)
   refine zk (some 69) (c39 (7 : Int) (f / 8) w131 (by omega) (by omega)) ?_
   intro w139 v140
   have u141 := At.on u133 v140
   have u142 := At.on u134 v140
   have u144 := At.on u136 v140
   have v146 := Mod.trans v138 (Mod.of_nil v140)
   refine reg_seg 1 [(2, .pointer (some ⟨b1, 0, none⟩)), (3, .pointer (some ⟨b8, 0, none⟩)), (4, .pointer (some ⟨b16, 0, none⟩)), (5, .int .i64 (P.bd f.toNat)), (7, .bool (takesI P.bd f t)), (8, .pointer (some ⟨b32, 0, none⟩)), (9, .int .i64 (8 * (f / 8) + (7 : Int)))] [] [] [2, 3, 4, 5, 7, 8, 9] (by kernel_rfl) trivial ?_
   refine reg_end (by kernel_rfl) ?_
   refine n_then ?_
   refine w_cut (γ := Int) (fun g147 => [(2, .pointer (some ⟨b1, 0, none⟩)), (3, .pointer (some ⟨b8, 0, none⟩)), (4, .pointer (some ⟨b16, 0, none⟩)), (5, .int .i64 (P.bd f.toNat)), (7, .bool (takesI P.bd f t)), (8, .pointer (some ⟨b32, 0, none⟩)), (9, .int .i64 g147)]) (fun g147 w_ => Mod [] w139 w_ ∧ g147 = (cornerS f t)) ?_ ?_
   ·have v150 : Mod [] w139 w139 := Mod.refl _ _
    refine zw ?_
    refine zv 5 [(2, pz b1), (3, pz b8), (4, pz b16), (5, .int .i64 (P.bd f.toNat)), (7, .bool (takesI P.bd f t)), (8, pz b32), (9, .int .i64 (8 * (f / 8) + (7 : Int))), (74, .bool (decide (t < f)))] [.cell ⟨b8, 1, none⟩ (.int .i64 t), .cell ⟨b8, 0, none⟩ (.int .i64 f)] [.int .i64 t, .int .i64 f] (⟨At.cell u142 rfl, At.cell u142 rfl⟩) ?_
    refine reg_end (by kernel_rfl) ?_
    refine n_then ?_
    refine w_cond (b := (decide (t < f))) rfl (fun hc151 => ?_) (fun hc151 => ?_)
    ·have y151 := of_decide_eq_true hc151
     refine w_region ?_
     refine reg_seg 2 [(2, .pointer (some ⟨b1, 0, none⟩)), (3, .pointer (some ⟨b8, 0, none⟩)), (4, .pointer (some ⟨b16, 0, none⟩)), (5, .int .i64 (P.bd f.toNat)), (7, .bool (takesI P.bd f t)), (8, .pointer (some ⟨b32, 0, none⟩)), (76, .int .i64 f)] [.cell ⟨b8, 0, none⟩ (.int .i64 f)] [.int .i64 f] [2, 3, 4, 5, 7, 8, 76] (by kernel_rfl) (At.cell u142 rfl) ?_
     refine zk (some 77) (c40 f w139 (by omega)) ?_
     intro w152 v153
     have v160 := Mod.trans v150 (Mod.of_nil v153)
     refine zk (some 78) (c39 (0 : Int) (f / 8) w152 (by omega) (by omega)) ?_
     intro w161 v162
     have v169 := Mod.trans v160 (Mod.of_nil v162)
     refine reg_seg 1 [(2, .pointer (some ⟨b1, 0, none⟩)), (3, .pointer (some ⟨b8, 0, none⟩)), (4, .pointer (some ⟨b16, 0, none⟩)), (5, .int .i64 (P.bd f.toNat)), (7, .bool (takesI P.bd f t)), (8, .pointer (some ⟨b32, 0, none⟩)), (9, .int .i64 (8 * (f / 8) + (0 : Int)))] [] [] [2, 3, 4, 5, 7, 8, 9] (by kernel_rfl) trivial ?_
     refine reg_end (by kernel_rfl) ?_
     exact c_back (8 * (f / 8) + (0 : Int)) [2, 3, 4, 5, 7, 8, 9] (by kernel_rfl) ⟨v169, (by unfold cornerS; simp only [hc151, cond_true, cond_false])⟩
    have y151 := of_decide_eq_false hc151
    refine w_skip ?_
    exact c_back (8 * (f / 8) + (7 : Int)) [2, 3, 4, 5, 7, 8, 9] (by kernel_rfl) ⟨v150, (by unfold cornerS; simp only [hc151, cond_true, cond_false])⟩
   rintro _ w148 ⟨v149, rfl⟩
   have u170 := At.on u141 v149
   have u171 := At.on u142 v149
   have u173 := At.on u144 v149
   have v175 := Mod.trans v146 (Mod.of_nil v149)
   refine zw ?_
   refine zv 3 [rz 2 b1, rz 3 b8, rz 4 b16, iz 5 (P.bd f.toNat), (7, .bool (takesI P.bd f t)), rz 8 b32, (81, .pointer (some ⟨b32, (0 + (cornerS f t).toNat * 1), none⟩))] [.prop (0 ≤ (cornerS f t) ∧ (cornerS f t) < ((64 : Nat) : Int))] [] (zh (by omega)) ?_
   refine reg_store b32 (0 + (cornerS f t).toNat * 1) (.int .i64 (0 : Int)) none (by kernel_rfl) u173 (sp_bound (⟨(mk3 P.bd P.turn f t p), P.turn, P.castle, P.ep, P.half, P.full⟩ : SP) (0 : Int) (by omega)) rfl ?_
   intro w176 hu177
   have u178 : At w176 b32 (.cells (spCells (⟨(upd (mk3 P.bd P.turn f t p) (0 + (cornerS f t).toNat * 1) (0 : Int)), P.turn, P.castle, P.ep, P.half, P.full⟩ : SP)) 24 (0, 0)) := at_cast hu177.at_ (congrArg (fun A => Obj.cells A 24 (0, 0)) (spStore_bd (⟨(mk3 P.bd P.turn f t p), P.turn, P.castle, P.ep, P.half, P.full⟩ : SP) (by omega) (0 : Int)))
   have u179 := At.keep u170 hu177.mod (not_mem1 ne35)
   have u180 := At.keep u171 hu177.mod (not_mem1 (At.ne u171 u173 rfl))
   have v183 := Mod.fresh' v175 hu177.mod (by simp <;> omega)
   refine reg_end (by kernel_rfl) ?_
   refine n_then ?_
   refine w_tail 10 (by kernel_rfl) (by kernel_rfl) ?_
   refine q_seg 5 [(2, .pointer (some ⟨b1, 0, none⟩)), (3, .pointer (some ⟨b8, 0, none⟩)), (4, .pointer (some ⟨b16, 0, none⟩)), (5, .int .i64 (P.bd f.toNat)), (7, .bool (takesI P.bd f t)), (8, .pointer (some ⟨b32, 0, none⟩)), (86, .int .i64 (IntKind.i64.wrap (f + t)))] [.cell ⟨b8, 0, none⟩ (.int .i64 f), .cell ⟨b8, 1, none⟩ (.int .i64 t)] [.int .i64 f, .int .i64 t] [2, 3, 4, 5, 7, 8, 86] (by kernel_rfl) (fun _ hC => ⟨At.cell (At.on u180 hC) rfl, At.cell (At.on u180 hC) rfl⟩) ?_
   rw [(show ((IntKind.i64.wrap (f + t)) : Int) = (f + t) from (i64_in' (by omega) (by omega)))]
   refine zqo 1 [rz 2 b1, rz 3 b8, rz 4 b16, iz 5 (P.bd f.toNat), (7, .bool (takesI P.bd f t)), rz 8 b32, iz 87 (IntKind.i64.wrap ((f + t).tdiv (2 : Int)))] [.prop ((2 : Int) ≠ 0)] (fun _ hC => (show (2 : Int) ≠ 0 from (by first | omega | assumption | decide))) ?_
   rw [(show (((f + t).tdiv (2 : Int)) : Int) = ((f + t) / (2 : Int)) from (Int.tdiv_eq_ediv_of_nonneg (by omega)))]
   rw [(show ((IntKind.i64.wrap ((f + t) / (2 : Int))) : Int) = ((f + t) / (2 : Int)) from (i64_in' (by omega) (by omega)))]
   refine zqv 2 [(2, pz b1), (3, pz b8), (4, pz b16), (5, .int .i64 (P.bd f.toNat)), (7, .bool (takesI P.bd f t)), (8, pz b32), (87, .int .i64 ((f + t) / (2 : Int))), (89, .int .i64 P.turn)] [.cell ⟨b1, 64, none⟩ (.int .i64 P.turn)] [.int .i64 P.turn] (fun _ hC => At.cell (At.on u179 hC) (spCells_64 P)) ?_
   refine zqk (some 90) (fun w_ hC => c37 (3 : Int) P.turn w_ (by omega) (by omega)) ?_
   refine q_seg 1 [(2, .pointer (some ⟨b1, 0, none⟩)), (3, .pointer (some ⟨b8, 0, none⟩)), (4, .pointer (some ⟨b16, 0, none⟩)), (5, .int .i64 (P.bd f.toNat)), (7, .bool (takesI P.bd f t)), (8, .pointer (some ⟨b32, 0, none⟩)), (87, .int .i64 ((f + t) / (2 : Int))), (90, .int .i64 ((3 : Int) + 6 * P.turn)), (91, .pointer (some ⟨b32, 0, none⟩))] [] [] [2, 3, 4, 5, 7, 8, 87, 90, 91] (by kernel_rfl) (fun _ hC => trivial) ?_
   refine q_end (by kernel_rfl) (fun a ha w184 v185 => (?_ : Reg _ _ _ _ _ 10 _ w184) a ha)
   have u189 := At.on u178 v185
   have v191 := Mod.trans v183 (Mod.of_nil v185)
   refine zo 1 [rz 2 b1, rz 3 b8, rz 4 b16, iz 5 (P.bd f.toNat), (7, .bool (takesI P.bd f t)), rz 8 b32, iz 90 ((3 : Int) + 6 * P.turn), (92, .pointer (some ⟨b32, (0 + ((f + t) / (2 : Int)).toNat * 1), none⟩))] [.prop (0 ≤ ((f + t) / (2 : Int)) ∧ ((f + t) / (2 : Int)) < ((64 : Nat) : Int))] (show 0 ≤ ((f + t) / (2 : Int)) ∧ ((f + t) / (2 : Int)) < ((64 : Nat) : Int) from (by first | omega | assumption | decide)) ?_
   refine reg_store b32 (0 + ((f + t) / (2 : Int)).toNat * 1) (.int .i64 ((3 : Int) + 6 * P.turn)) none (by kernel_rfl) u189 (sp_bound (⟨(upd (mk3 P.bd P.turn f t p) (0 + (cornerS f t).toNat * 1) (0 : Int)), P.turn, P.castle, P.ep, P.half, P.full⟩ : SP) ((3 : Int) + 6 * P.turn) (by omega)) rfl ?_
   intro w192 hu193
   have u194 : At w192 b32 (.cells (spCells (⟨(upd (upd (mk3 P.bd P.turn f t p) (0 + (cornerS f t).toNat * 1) (0 : Int)) (0 + ((f + t) / (2 : Int)).toNat * 1) ((3 : Int) + 6 * P.turn)), P.turn, P.castle, P.ep, P.half, P.full⟩ : SP)) 24 (0, 0)) := at_cast hu193.at_ (congrArg (fun A => Obj.cells A 24 (0, 0)) (spStore_bd (⟨(upd (mk3 P.bd P.turn f t p) (0 + (cornerS f t).toNat * 1) (0 : Int)), P.turn, P.castle, P.ep, P.half, P.full⟩ : SP) (by omega) ((3 : Int) + 6 * P.turn)))
   have v199 := Mod.fresh' v191 hu193.mod (by simp <;> omega)
   refine reg_end (by kernel_rfl) ?_
   exact c_back () [2, 3, 4, 5, 7, 8] (by kernel_rfl) ⟨v199, at_cast u194 (sp_cast (by unfold mk4 castlesB; simp only [hc130, cond_true, cond_false, Nat.zero_add, Nat.mul_one]))⟩
  have y130 := hc130; try simp only [Bool.or_eq_true, Bool.and_eq_true, Bool.or_eq_false_iff, Bool.and_eq_false_iff, Bool.not_eq_true', Bool.not_eq_false', decide_eq_true_eq, decide_eq_false_iff_not, beq_iff_eq, beq_eq_false_iff_ne, bne_iff_ne, bne_eq_false_iff_eq] at y130
  have hcr := corner_rng (t := t) hf
  refine w_skip ?_
  exact c_back () [2, 3, 4, 5, 7, 8] (by kernel_rfl) ⟨v129, at_cast u127 (sp_cast (by unfold mk4 castlesB; simp only [hc130, cond_true, cond_false, Nat.zero_add, Nat.mul_one]))⟩
 rintro _ w107 ⟨v108, u109⟩
 have u200 := At.keep u103 v108 (not_mem1 ne35)
 have u201 := At.keep u104 v108 (not_mem1 (At.ne u104 u84 rfl))
 have u202 := At.keep u105 v108 (not_mem1 ne36)
 have v203 := Mod.fresh' v106 v108 (by simp <;> omega)
 refine zw ?_
 refine reg_seg 3 [(2, .pointer (some ⟨b1, 0, none⟩)), (3, .pointer (some ⟨b8, 0, none⟩)), (4, .pointer (some ⟨b16, 0, none⟩)), (5, .int .i64 (P.bd f.toNat)), (7, .bool (takesI P.bd f t)), (8, .pointer (some ⟨b32, 0, none⟩)), (94, .int .i64 P.castle), (95, .agg (#[.int .i64 f, .int .i64 t, .int .i64 p]))] [.cell ⟨b1, 65, none⟩ (.int .i64 P.castle), .row ⟨b8, 0, none⟩ 3 (#[.int .i64 f, .int .i64 t, .int .i64 p])] [.int .i64 P.castle, .agg (#[.int .i64 f, .int .i64 t, .int .i64 p])] [2, 3, 4, 5, 7, 8, 94, 95] (by kernel_rfl) (⟨At.cell u200 (spCells_65 P), At.row u201 rfl⟩) ?_
 refine zk (some 96) (c41 P.castle f t p (by omega)) ?_
 intro w204 v205
 have u206 := At.on u200 v205
 have u207 := At.on u201 v205
 have u208 := At.on u202 v205
 have u209 := At.on u109 v205
 have v210 := Mod.trans v203 (Mod.of_nil v205)
 refine reg_seg 1 [(2, .pointer (some ⟨b1, 0, none⟩)), (3, .pointer (some ⟨b8, 0, none⟩)), (4, .pointer (some ⟨b16, 0, none⟩)), (5, .int .i64 (P.bd f.toNat)), (7, .bool (takesI P.bd f t)), (8, .pointer (some ⟨b32, 0, none⟩)), (96, .int .i64 (leftS P.castle f t)), (97, .pointer (some ⟨b32, 65, none⟩))] [] [] [2, 3, 4, 5, 7, 8, 96, 97] (by kernel_rfl) trivial ?_
 refine reg_store b32 65 (.int .i64 (leftS P.castle f t)) none (by kernel_rfl) u209 (sp_bound (⟨(mk4 P.bd P.turn f t p), P.turn, P.castle, P.ep, P.half, P.full⟩ : SP) (leftS P.castle f t) (by omega)) rfl ?_
 intro w211 hu212
 have u213 : At w211 b32 (.cells (spCells (⟨(mk4 P.bd P.turn f t p), P.turn, (leftS P.castle f t), P.ep, P.half, P.full⟩ : SP)) 24 (0, 0)) := at_cast hu212.at_ (congrArg (fun A => Obj.cells A 24 (0, 0)) (spStore_65 (⟨(mk4 P.bd P.turn f t p), P.turn, P.castle, P.ep, P.half, P.full⟩ : SP) (leftS P.castle f t)))
 have u214 := At.keep u206 hu212.mod (not_mem1 ne35)
 have u215 := At.keep u207 hu212.mod (not_mem1 (At.ne u207 u209 rfl))
 have u216 := At.keep u208 hu212.mod (not_mem1 ne36)
 have v217 := Mod.fresh' v210 hu212.mod (by simp <;> omega)
 refine reg_end (by kernel_rfl) ?_
 refine zn ?_
 refine reg_seg 1 [(2, .pointer (some ⟨b1, 0, none⟩)), (3, .pointer (some ⟨b8, 0, none⟩)), (4, .pointer (some ⟨b16, 0, none⟩)), (5, .int .i64 (P.bd f.toNat)), (7, .bool (takesI P.bd f t)), (8, .pointer (some ⟨b32, 0, none⟩)), (98, .pointer (some ⟨b32, 66, none⟩))] [] [] [2, 3, 4, 5, 7, 8, 98] (by kernel_rfl) trivial ?_
 refine reg_store b32 66 (.int .i64 (-1 : Int)) none (by kernel_rfl) u213 (sp_bound (⟨(mk4 P.bd P.turn f t p), P.turn, (leftS P.castle f t), P.ep, P.half, P.full⟩ : SP) (-1 : Int) (by omega)) rfl ?_
 intro w218 hu219
 have u220 : At w218 b32 (.cells (spCells (⟨(mk4 P.bd P.turn f t p), P.turn, (leftS P.castle f t), (-1 : Int), P.half, P.full⟩ : SP)) 24 (0, 0)) := at_cast hu219.at_ (congrArg (fun A => Obj.cells A 24 (0, 0)) (spStore_66 (⟨(mk4 P.bd P.turn f t p), P.turn, (leftS P.castle f t), P.ep, P.half, P.full⟩ : SP) (-1 : Int)))
 have u221 := At.keep u214 hu219.mod (not_mem1 ne35)
 have u222 := At.keep u215 hu219.mod (not_mem1 (At.ne u215 u213 rfl))
 have u223 := At.keep u216 hu219.mod (not_mem1 ne36)
 have v224 := Mod.fresh' v217 hu219.mod (by simp <;> omega)
 refine reg_end (by kernel_rfl) ?_
 refine n_then ?_
 refine w_cut (γ := Unit) (fun _ => [(2, .pointer (some ⟨b1, 0, none⟩)), (4, .pointer (some ⟨b16, 0, none⟩)), (5, .int .i64 (P.bd f.toNat)), (7, .bool (takesI P.bd f t)), (8, .pointer (some ⟨b32, 0, none⟩))]) (fun _ w_ => Mod [b32] w218 w_ ∧ At w_ b32 (.cells (spCells (⟨(mk4 P.bd P.turn f t p), P.turn, (leftS P.castle f t), (epS P.bd f t), P.half, P.full⟩ : SP)) 24 (0, 0))) ?_ ?_
 ·have v228 : Mod [b32] w218 w218 := Mod.refl _ _
  refine w_cut (γ := Unit) (fun _ => [(2, .pointer (some ⟨b1, 0, none⟩)), (3, .pointer (some ⟨b8, 0, none⟩)), (4, .pointer (some ⟨b16, 0, none⟩)), (5, .int .i64 (P.bd f.toNat)), (7, .bool (takesI P.bd f t)), (8, .pointer (some ⟨b32, 0, none⟩)), (117, .bool (((kindOf (P.bd f.toNat)) == (6 : Int)) && ((t == (f + (16 : Int))) || (t == (f - (16 : Int))))))]) (fun _ w_ => Mod [] w218 w_) ?_ ?_
  ·have v231 : Mod [] w218 w218 := Mod.refl _ _
   refine w_region ?_
   refine reg_seg 1 [(2, .pointer (some ⟨b1, 0, none⟩)), (3, .pointer (some ⟨b8, 0, none⟩)), (4, .pointer (some ⟨b16, 0, none⟩)), (5, .int .i64 (P.bd f.toNat)), (7, .bool (takesI P.bd f t)), (8, .pointer (some ⟨b32, 0, none⟩)), (99, .int .i64 (P.bd f.toNat))] [] [] [2, 3, 4, 5, 7, 8, 99] (by kernel_rfl) trivial ?_
   refine zk (some 100) (c38 (P.bd f.toNat) w218 (by first | omega | exact ⟨(hB _ (by omega)).1, (hB _ (by omega)).2⟩)) ?_
   intro w232 v233
   have u235 := At.on u222 v233
   have v238 := Mod.trans v231 (Mod.of_nil v233)
   refine reg_seg 2 [(2, .pointer (some ⟨b1, 0, none⟩)), (3, .pointer (some ⟨b8, 0, none⟩)), (4, .pointer (some ⟨b16, 0, none⟩)), (5, .int .i64 (P.bd f.toNat)), (7, .bool (takesI P.bd f t)), (8, .pointer (some ⟨b32, 0, none⟩)), (102, .bool ((kindOf (P.bd f.toNat)) == (6 : Int)))] [] [] [2, 3, 4, 5, 7, 8, 102] (by kernel_rfl) trivial ?_
   cases hc240 : ((kindOf (P.bd f.toNat)) == (6 : Int))
   ·have y240 := hc240; try simp only [Bool.or_eq_true, Bool.and_eq_true, Bool.or_eq_false_iff, Bool.and_eq_false_iff, Bool.not_eq_true', Bool.not_eq_false', decide_eq_true_eq, decide_eq_false_iff_not, beq_iff_eq, beq_eq_false_iff_ne, bne_iff_ne, bne_eq_false_iff_eq] at y240
    refine reg_seg 15 [(2, .pointer (some ⟨b1, 0, none⟩)), (3, .pointer (some ⟨b8, 0, none⟩)), (4, .pointer (some ⟨b16, 0, none⟩)), (5, .int .i64 (P.bd f.toNat)), (7, .bool (takesI P.bd f t)), (8, .pointer (some ⟨b32, 0, none⟩)), (117, .bool false)] [] [] [2, 3, 4, 5, 7, 8, 117] (by kernel_rfl) trivial ?_
    refine reg_end (by kernel_rfl) ?_
    exact c_back () [2, 3, 4, 5, 7, 8, 117] (by kernel_rfl) v238
   have y240 := hc240; try simp only [Bool.or_eq_true, Bool.and_eq_true, Bool.or_eq_false_iff, Bool.and_eq_false_iff, Bool.not_eq_true', Bool.not_eq_false', decide_eq_true_eq, decide_eq_false_iff_not, beq_iff_eq, beq_eq_false_iff_ne, bne_iff_ne, bne_eq_false_iff_eq] at y240
   refine zv 5 [(2, pz b1), (3, pz b8), (4, pz b16), (5, .int .i64 (P.bd f.toNat)), (7, .bool (takesI P.bd f t)), (8, pz b32), (102, .bool true), (104, .int .i64 t), (107, .int .i64 (IntKind.i64.wrap (f + (16 : Int))))] [.cell ⟨b8, 1, none⟩ (.int .i64 t), .cell ⟨b8, 0, none⟩ (.int .i64 f)] [.int .i64 t, .int .i64 f] (⟨At.cell u235 rfl, At.cell u235 rfl⟩) ?_
   rw [(show ((IntKind.i64.wrap (f + (16 : Int))) : Int) = (f + (16 : Int)) from (i64_in' (by omega) (by omega)))]
   refine reg_seg 2 [(2, .pointer (some ⟨b1, 0, none⟩)), (3, .pointer (some ⟨b8, 0, none⟩)), (4, .pointer (some ⟨b16, 0, none⟩)), (5, .int .i64 (P.bd f.toNat)), (7, .bool (takesI P.bd f t)), (8, .pointer (some ⟨b32, 0, none⟩)), (102, .bool true), (109, .bool (t == (f + (16 : Int))))] [] [] [2, 3, 4, 5, 7, 8, 102, 109] (by kernel_rfl) trivial ?_
   cases hc241 : (t == (f + (16 : Int)))
   ·have y241 := hc241; try simp only [Bool.or_eq_true, Bool.and_eq_true, Bool.or_eq_false_iff, Bool.and_eq_false_iff, Bool.not_eq_true', Bool.not_eq_false', decide_eq_true_eq, decide_eq_false_iff_not, beq_iff_eq, beq_eq_false_iff_ne, bne_iff_ne, bne_eq_false_iff_eq] at y241
    refine zv 5 [(2, pz b1), (3, pz b8), (4, pz b16), (5, .int .i64 (P.bd f.toNat)), (7, .bool (takesI P.bd f t)), (8, pz b32), (102, .bool true), (109, .bool false), (111, .int .i64 t), (114, .int .i64 (IntKind.i64.wrap (f - (16 : Int))))] [.cell ⟨b8, 1, none⟩ (.int .i64 t), .cell ⟨b8, 0, none⟩ (.int .i64 f)] [.int .i64 t, .int .i64 f] (⟨At.cell u235 rfl, At.cell u235 rfl⟩) ?_
    rw [(show ((IntKind.i64.wrap (f - (16 : Int))) : Int) = (f - (16 : Int)) from (i64_in' (by omega) (by omega)))]
    refine reg_seg 3 [(2, .pointer (some ⟨b1, 0, none⟩)), (3, .pointer (some ⟨b8, 0, none⟩)), (4, .pointer (some ⟨b16, 0, none⟩)), (5, .int .i64 (P.bd f.toNat)), (7, .bool (takesI P.bd f t)), (8, .pointer (some ⟨b32, 0, none⟩)), (117, .bool (t == (f - (16 : Int))))] [] [] [2, 3, 4, 5, 7, 8, 117] (by kernel_rfl) trivial ?_
    refine reg_end (by kernel_rfl) ?_
    exact c_back () [2, 3, 4, 5, 7, 8, 117] (by kernel_rfl) v238
   have y241 := hc241; try simp only [Bool.or_eq_true, Bool.and_eq_true, Bool.or_eq_false_iff, Bool.and_eq_false_iff, Bool.not_eq_true', Bool.not_eq_false', decide_eq_true_eq, decide_eq_false_iff_not, beq_iff_eq, beq_eq_false_iff_ne, bne_iff_ne, bne_eq_false_iff_eq] at y241
   refine reg_seg 8 [(2, .pointer (some ⟨b1, 0, none⟩)), (3, .pointer (some ⟨b8, 0, none⟩)), (4, .pointer (some ⟨b16, 0, none⟩)), (5, .int .i64 (P.bd f.toNat)), (7, .bool (takesI P.bd f t)), (8, .pointer (some ⟨b32, 0, none⟩)), (117, .bool true)] [] [] [2, 3, 4, 5, 7, 8, 117] (by kernel_rfl) trivial ?_
   refine reg_end (by kernel_rfl) ?_
   exact c_back () [2, 3, 4, 5, 7, 8, 117] (by kernel_rfl) v238
  intro _ w229 v230
  have u243 := At.on u222 v230
  have u245 := At.on u220 v230
  have v247 := Mod.trans v228 (Mod.of_nil v230)
  refine w_cond (b := (((kindOf (P.bd f.toNat)) == (6 : Int)) && ((t == (f + (16 : Int))) || (t == (f - (16 : Int)))))) rfl (fun hc248 => ?_) (fun hc248 => ?_)
  ·have y248 := hc248; try simp only [Bool.or_eq_true, Bool.and_eq_true, Bool.or_eq_false_iff, Bool.and_eq_false_iff, Bool.not_eq_true', Bool.not_eq_false', decide_eq_true_eq, decide_eq_false_iff_not, beq_iff_eq, beq_eq_false_iff_ne, bne_iff_ne, bne_eq_false_iff_eq] at y248
   refine w_region ?_
   refine reg_seg 5 [(2, .pointer (some ⟨b1, 0, none⟩)), (4, .pointer (some ⟨b16, 0, none⟩)), (5, .int .i64 (P.bd f.toNat)), (7, .bool (takesI P.bd f t)), (8, .pointer (some ⟨b32, 0, none⟩)), (122, .int .i64 (IntKind.i64.wrap (f + t)))] [.cell ⟨b8, 0, none⟩ (.int .i64 f), .cell ⟨b8, 1, none⟩ (.int .i64 t)] [.int .i64 f, .int .i64 t] [2, 4, 5, 7, 8, 122] (by kernel_rfl) (⟨At.cell u243 rfl, At.cell u243 rfl⟩) ?_
   rw [(show ((IntKind.i64.wrap (f + t)) : Int) = (f + t) from (i64_in' (by omega) (by omega)))]
   refine zo 1 [rz 2 b1, rz 4 b16, iz 5 (P.bd f.toNat), (7, .bool (takesI P.bd f t)), rz 8 b32, iz 123 (IntKind.i64.wrap ((f + t).tdiv (2 : Int)))] [.prop ((2 : Int) ≠ 0)] (show (2 : Int) ≠ 0 from (by first | omega | assumption | decide)) ?_
   rw [(show (((f + t).tdiv (2 : Int)) : Int) = ((f + t) / (2 : Int)) from (Int.tdiv_eq_ediv_of_nonneg (by omega)))]
   rw [(show ((IntKind.i64.wrap ((f + t) / (2 : Int))) : Int) = ((f + t) / (2 : Int)) from (i64_in' (by omega) (by omega)))]
   refine reg_seg 1 [(2, .pointer (some ⟨b1, 0, none⟩)), (4, .pointer (some ⟨b16, 0, none⟩)), (5, .int .i64 (P.bd f.toNat)), (7, .bool (takesI P.bd f t)), (8, .pointer (some ⟨b32, 0, none⟩)), (123, .int .i64 ((f + t) / (2 : Int))), (124, .pointer (some ⟨b32, 66, none⟩))] [] [] [2, 4, 5, 7, 8, 123, 124] (by kernel_rfl) trivial ?_
   refine reg_store b32 66 (.int .i64 ((f + t) / (2 : Int))) none (by kernel_rfl) u245 (sp_bound (⟨(mk4 P.bd P.turn f t p), P.turn, (leftS P.castle f t), (-1 : Int), P.half, P.full⟩ : SP) ((f + t) / (2 : Int)) (by omega)) rfl ?_
   intro w249 hu250
   have u251 : At w249 b32 (.cells (spCells (⟨(mk4 P.bd P.turn f t p), P.turn, (leftS P.castle f t), ((f + t) / (2 : Int)), P.half, P.full⟩ : SP)) 24 (0, 0)) := at_cast hu250.at_ (congrArg (fun A => Obj.cells A 24 (0, 0)) (spStore_66 (⟨(mk4 P.bd P.turn f t p), P.turn, (leftS P.castle f t), (-1 : Int), P.half, P.full⟩ : SP) ((f + t) / (2 : Int))))
   have v256 := Mod.fresh' v247 hu250.mod (by simp <;> omega)
   refine reg_end (by kernel_rfl) ?_
   exact c_back () [2, 4, 5, 7, 8] (by kernel_rfl) ⟨v256, at_cast u251 (sp_cast (by unfold epS; simp only [hc248, cond_true, cond_false, Nat.zero_add, Nat.mul_one]))⟩
  have y248 := hc248; try simp only [Bool.or_eq_true, Bool.and_eq_true, Bool.or_eq_false_iff, Bool.and_eq_false_iff, Bool.not_eq_true', Bool.not_eq_false', decide_eq_true_eq, decide_eq_false_iff_not, beq_iff_eq, beq_eq_false_iff_ne, bne_iff_ne, bne_eq_false_iff_eq] at y248
  refine w_skip ?_
  exact c_back () [2, 4, 5, 7, 8] (by kernel_rfl) ⟨v247, at_cast u245 (sp_cast (by unfold epS; simp only [hc248, cond_true, cond_false, Nat.zero_add, Nat.mul_one]))⟩
 rintro _ w225 ⟨v226, u227⟩
 have u257 := At.keep u221 v226 (not_mem1 ne35)
 have u259 := At.keep u223 v226 (not_mem1 ne36)
 have v260 := Mod.fresh' v224 v226 (by simp <;> omega)
 refine zw ?_
 refine zv 3 [(2, pz b1), (4, pz b16), (5, .int .i64 (P.bd f.toNat)), (7, .bool (takesI P.bd f t)), (8, pz b32), (127, .int .i64 (IntKind.i64.wrap (P.half + (1 : Int))))] [.cell ⟨b32, 67, none⟩ (.int .i64 P.half)] [.int .i64 P.half] (At.cell u227 (spCells_67 (⟨(mk4 P.bd P.turn f t p), P.turn, (leftS P.castle f t), (epS P.bd f t), P.half, P.full⟩ : SP))) ?_
 refine reg_seg 1 [(2, .pointer (some ⟨b1, 0, none⟩)), (4, .pointer (some ⟨b16, 0, none⟩)), (5, .int .i64 (P.bd f.toNat)), (7, .bool (takesI P.bd f t)), (8, .pointer (some ⟨b32, 0, none⟩)), (127, .int .i64 (IntKind.i64.wrap (P.half + (1 : Int)))), (128, .pointer (some ⟨b32, 67, none⟩))] [] [] [2, 4, 5, 7, 8, 127, 128] (by kernel_rfl) trivial ?_
 refine reg_store b32 67 (.int .i64 (IntKind.i64.wrap (P.half + (1 : Int)))) none (by kernel_rfl) u227 (sp_bound (⟨(mk4 P.bd P.turn f t p), P.turn, (leftS P.castle f t), (epS P.bd f t), P.half, P.full⟩ : SP) (IntKind.i64.wrap (P.half + (1 : Int))) (by omega)) rfl ?_
 intro w261 hu262
 have u263 : At w261 b32 (.cells (spCells (⟨(mk4 P.bd P.turn f t p), P.turn, (leftS P.castle f t), (epS P.bd f t), (IntKind.i64.wrap (P.half + (1 : Int))), P.full⟩ : SP)) 24 (0, 0)) := at_cast hu262.at_ (congrArg (fun A => Obj.cells A 24 (0, 0)) (spStore_67 (⟨(mk4 P.bd P.turn f t p), P.turn, (leftS P.castle f t), (epS P.bd f t), P.half, P.full⟩ : SP) (IntKind.i64.wrap (P.half + (1 : Int)))))
 have u264 := At.keep u257 hu262.mod (not_mem1 ne35)
 have u266 := At.keep u259 hu262.mod (not_mem1 ne36)
 have v267 := Mod.fresh' v260 hu262.mod (by simp <;> omega)
 refine reg_end (by kernel_rfl) ?_
 refine n_then ?_
 refine w_cut (γ := Unit) (fun _ => [(2, .pointer (some ⟨b1, 0, none⟩)), (4, .pointer (some ⟨b16, 0, none⟩)), (8, .pointer (some ⟨b32, 0, none⟩))]) (fun _ w_ => Mod [b32] w261 w_ ∧ At w_ b32 (.cells (spCells (⟨(mk4 P.bd P.turn f t p), P.turn, (leftS P.castle f t), (epS P.bd f t), (halfS P.bd P.half f t), P.full⟩ : SP)) 24 (0, 0))) ?_ ?_
 ·have v271 : Mod [b32] w261 w261 := Mod.refl _ _
  refine w_cut (γ := Unit) (fun _ => [(2, .pointer (some ⟨b1, 0, none⟩)), (4, .pointer (some ⟨b16, 0, none⟩)), (8, .pointer (some ⟨b32, 0, none⟩)), (134, .bool ((takesI P.bd f t) || ((kindOf (P.bd f.toNat)) == (6 : Int))))]) (fun _ w_ => Mod [] w261 w_) ?_ ?_
  ·have v274 : Mod [] w261 w261 := Mod.refl _ _
   refine w_region ?_
   refine reg_seg 2 [(2, .pointer (some ⟨b1, 0, none⟩)), (4, .pointer (some ⟨b16, 0, none⟩)), (5, .int .i64 (P.bd f.toNat)), (8, .pointer (some ⟨b32, 0, none⟩)), (130, .bool (takesI P.bd f t))] [] [] [2, 4, 5, 8, 130] (by kernel_rfl) trivial ?_
   cases hc275 : (takesI P.bd f t)
   ·have y275 := hc275; try simp only [Bool.or_eq_true, Bool.and_eq_true, Bool.or_eq_false_iff, Bool.and_eq_false_iff, Bool.not_eq_true', Bool.not_eq_false', decide_eq_true_eq, decide_eq_false_iff_not, beq_iff_eq, beq_eq_false_iff_ne, bne_iff_ne, bne_eq_false_iff_eq] at y275
    refine reg_seg 1 [(2, .pointer (some ⟨b1, 0, none⟩)), (4, .pointer (some ⟨b16, 0, none⟩)), (8, .pointer (some ⟨b32, 0, none⟩)), (130, .bool false), (131, .int .i64 (P.bd f.toNat))] [] [] [2, 4, 8, 130, 131] (by kernel_rfl) trivial ?_
    refine zk (some 132) (c38 (P.bd f.toNat) w261 (by first | omega | exact ⟨(hB _ (by omega)).1, (hB _ (by omega)).2⟩)) ?_
    intro w276 v277
    have v282 := Mod.trans v274 (Mod.of_nil v277)
    refine reg_seg 2 [(2, .pointer (some ⟨b1, 0, none⟩)), (4, .pointer (some ⟨b16, 0, none⟩)), (8, .pointer (some ⟨b32, 0, none⟩)), (134, .bool ((kindOf (P.bd f.toNat)) == (6 : Int)))] [] [] [2, 4, 8, 134] (by kernel_rfl) trivial ?_
    refine reg_end (by kernel_rfl) ?_
    exact c_back () [2, 4, 8, 134] (by kernel_rfl) v282
   have y275 := hc275; try simp only [Bool.or_eq_true, Bool.and_eq_true, Bool.or_eq_false_iff, Bool.and_eq_false_iff, Bool.not_eq_true', Bool.not_eq_false', decide_eq_true_eq, decide_eq_false_iff_not, beq_iff_eq, beq_eq_false_iff_ne, bne_iff_ne, bne_eq_false_iff_eq] at y275
   refine reg_seg 4 [(2, .pointer (some ⟨b1, 0, none⟩)), (4, .pointer (some ⟨b16, 0, none⟩)), (8, .pointer (some ⟨b32, 0, none⟩)), (134, .bool true)] [] [] [2, 4, 8, 134] (by kernel_rfl) trivial ?_
   refine reg_end (by kernel_rfl) ?_
   exact c_back () [2, 4, 8, 134] (by kernel_rfl) v274
  intro _ w272 v273
  have u287 := At.on u263 v273
  have v289 := Mod.trans v271 (Mod.of_nil v273)
  refine w_cond (b := ((takesI P.bd f t) || ((kindOf (P.bd f.toNat)) == (6 : Int)))) rfl (fun hc290 => ?_) (fun hc290 => ?_)
  ·have y290 := hc290; try simp only [Bool.or_eq_true, Bool.and_eq_true, Bool.or_eq_false_iff, Bool.and_eq_false_iff, Bool.not_eq_true', Bool.not_eq_false', decide_eq_true_eq, decide_eq_false_iff_not, beq_iff_eq, beq_eq_false_iff_ne, bne_iff_ne, bne_eq_false_iff_eq] at y290
   refine w_region ?_
   refine reg_seg 1 [(2, .pointer (some ⟨b1, 0, none⟩)), (4, .pointer (some ⟨b16, 0, none⟩)), (8, .pointer (some ⟨b32, 0, none⟩)), (135, .pointer (some ⟨b32, 67, none⟩))] [] [] [2, 4, 8, 135] (by kernel_rfl) trivial ?_
   refine reg_store b32 67 (.int .i64 (0 : Int)) none (by kernel_rfl) u287 (sp_bound (⟨(mk4 P.bd P.turn f t p), P.turn, (leftS P.castle f t), (epS P.bd f t), (IntKind.i64.wrap (P.half + (1 : Int))), P.full⟩ : SP) (0 : Int) (by omega)) rfl ?_
   intro w291 hu292
   have u293 : At w291 b32 (.cells (spCells (⟨(mk4 P.bd P.turn f t p), P.turn, (leftS P.castle f t), (epS P.bd f t), (0 : Int), P.full⟩ : SP)) 24 (0, 0)) := at_cast hu292.at_ (congrArg (fun A => Obj.cells A 24 (0, 0)) (spStore_67 (⟨(mk4 P.bd P.turn f t p), P.turn, (leftS P.castle f t), (epS P.bd f t), (IntKind.i64.wrap (P.half + (1 : Int))), P.full⟩ : SP) (0 : Int)))
   have v298 := Mod.fresh' v289 hu292.mod (by simp <;> omega)
   refine reg_end (by kernel_rfl) ?_
   exact c_back () [2, 4, 8] (by kernel_rfl) ⟨v298, at_cast u293 (sp_cast (by unfold halfS; simp only [hc290, cond_true, cond_false, Nat.zero_add, Nat.mul_one]))⟩
  have y290 := hc290; try simp only [Bool.or_eq_true, Bool.and_eq_true, Bool.or_eq_false_iff, Bool.and_eq_false_iff, Bool.not_eq_true', Bool.not_eq_false', decide_eq_true_eq, decide_eq_false_iff_not, beq_iff_eq, beq_eq_false_iff_ne, bne_iff_ne, bne_eq_false_iff_eq] at y290
  refine w_skip ?_
  exact c_back () [2, 4, 8] (by kernel_rfl) ⟨v289, at_cast u287 (sp_cast (by unfold halfS; simp only [hc290, cond_true, cond_false, Nat.zero_add, Nat.mul_one]))⟩
 rintro _ w268 ⟨v269, u270⟩
 have u299 := At.keep u264 v269 (not_mem1 ne35)
 have u301 := At.keep u266 v269 (not_mem1 ne36)
 have v302 := Mod.fresh' v267 v269 (by simp <;> omega)
 refine zw ?_
 refine reg_seg 5 [(2, .pointer (some ⟨b1, 0, none⟩)), (4, .pointer (some ⟨b16, 0, none⟩)), (8, .pointer (some ⟨b32, 0, none⟩)), (140, .int .i64 (IntKind.i64.wrap (P.full + P.turn)))] [.cell ⟨b32, 68, none⟩ (.int .i64 P.full), .cell ⟨b1, 64, none⟩ (.int .i64 P.turn)] [.int .i64 P.full, .int .i64 P.turn] [2, 4, 8, 140] (by kernel_rfl) (⟨At.cell u270 (spCells_68 (⟨(mk4 P.bd P.turn f t p), P.turn, (leftS P.castle f t), (epS P.bd f t), (halfS P.bd P.half f t), P.full⟩ : SP)), At.cell u299 (spCells_64 P)⟩) ?_
 refine reg_seg 1 [(2, .pointer (some ⟨b1, 0, none⟩)), (4, .pointer (some ⟨b16, 0, none⟩)), (8, .pointer (some ⟨b32, 0, none⟩)), (140, .int .i64 (IntKind.i64.wrap (P.full + P.turn))), (141, .pointer (some ⟨b32, 68, none⟩))] [] [] [2, 4, 8, 140, 141] (by kernel_rfl) trivial ?_
 refine reg_store b32 68 (.int .i64 (IntKind.i64.wrap (P.full + P.turn))) none (by kernel_rfl) u270 (sp_bound (⟨(mk4 P.bd P.turn f t p), P.turn, (leftS P.castle f t), (epS P.bd f t), (halfS P.bd P.half f t), P.full⟩ : SP) (IntKind.i64.wrap (P.full + P.turn)) (by omega)) rfl ?_
 intro w303 hu304
 have u305 : At w303 b32 (.cells (spCells (⟨(mk4 P.bd P.turn f t p), P.turn, (leftS P.castle f t), (epS P.bd f t), (halfS P.bd P.half f t), (IntKind.i64.wrap (P.full + P.turn))⟩ : SP)) 24 (0, 0)) := at_cast hu304.at_ (congrArg (fun A => Obj.cells A 24 (0, 0)) (spStore_68 (⟨(mk4 P.bd P.turn f t p), P.turn, (leftS P.castle f t), (epS P.bd f t), (halfS P.bd P.half f t), P.full⟩ : SP) (IntKind.i64.wrap (P.full + P.turn))))
 have u306 := At.keep u299 hu304.mod (not_mem1 ne35)
 have u308 := At.keep u301 hu304.mod (not_mem1 ne36)
 have v309 := Mod.fresh' v302 hu304.mod (by simp <;> omega)
 refine reg_end (by kernel_rfl) ?_
 refine zn ?_
 refine zv 3 [(4, pz b16), (8, pz b32), (144, .int .i64 (IntKind.i64.wrap ((1 : Int) - P.turn)))] [.cell ⟨b1, 64, none⟩ (.int .i64 P.turn)] [.int .i64 P.turn] (At.cell u306 (spCells_64 P)) ?_
 rw [(show ((IntKind.i64.wrap ((1 : Int) - P.turn)) : Int) = ((1 : Int) - P.turn) from (i64_in' (by omega) (by omega)))]
 refine reg_seg 1 [(4, .pointer (some ⟨b16, 0, none⟩)), (8, .pointer (some ⟨b32, 0, none⟩)), (144, .int .i64 ((1 : Int) - P.turn)), (145, .pointer (some ⟨b32, 64, none⟩))] [] [] [4, 8, 144, 145] (by kernel_rfl) trivial ?_
 refine reg_store b32 64 (.int .i64 ((1 : Int) - P.turn)) none (by kernel_rfl) u305 (sp_bound (⟨(mk4 P.bd P.turn f t p), P.turn, (leftS P.castle f t), (epS P.bd f t), (halfS P.bd P.half f t), (IntKind.i64.wrap (P.full + P.turn))⟩ : SP) ((1 : Int) - P.turn) (by omega)) rfl ?_
 intro w310 hu311
 have u312 : At w310 b32 (.cells (spCells (⟨(mk4 P.bd P.turn f t p), ((1 : Int) - P.turn), (leftS P.castle f t), (epS P.bd f t), (halfS P.bd P.half f t), (IntKind.i64.wrap (P.full + P.turn))⟩ : SP)) 24 (0, 0)) := at_cast hu311.at_ (congrArg (fun A => Obj.cells A 24 (0, 0)) (spStore_64 (⟨(mk4 P.bd P.turn f t p), P.turn, (leftS P.castle f t), (epS P.bd f t), (halfS P.bd P.half f t), (IntKind.i64.wrap (P.full + P.turn))⟩ : SP) ((1 : Int) - P.turn)))
 have u315 := At.keep u308 hu311.mod (not_mem1 ne36)
 have v316 := Mod.fresh' v309 hu311.mod (by simp <;> omega)
 refine reg_end (by kernel_rfl) ?_
 refine zn ?_
 refine reg_seg 1 [(4, .pointer (some ⟨b16, 0, none⟩)), (146, .agg (spCells (⟨(mk4 P.bd P.turn f t p), ((1 : Int) - P.turn), (leftS P.castle f t), (epS P.bd f t), (halfS P.bd P.half f t), (IntKind.i64.wrap (P.full + P.turn))⟩ : SP)))] [.row ⟨b32, 0, none⟩ 69 (spCells (⟨(mk4 P.bd P.turn f t p), ((1 : Int) - P.turn), (leftS P.castle f t), (epS P.bd f t), (halfS P.bd P.half f t), (IntKind.i64.wrap (P.full + P.turn))⟩ : SP))] [.agg (spCells (⟨(mk4 P.bd P.turn f t p), ((1 : Int) - P.turn), (leftS P.castle f t), (epS P.bd f t), (halfS P.bd P.half f t), (IntKind.i64.wrap (P.full + P.turn))⟩ : SP))] [4, 146] (by kernel_rfl) (At.row u312 (spCells_size (⟨(mk4 P.bd P.turn f t p), ((1 : Int) - P.turn), (leftS P.castle f t), (epS P.bd f t), (halfS P.bd P.half f t), (IntKind.i64.wrap (P.full + P.turn))⟩ : SP))) ?_
 refine reg_store b16 0 (.agg (spCells (⟨(mk4 P.bd P.turn f t p), ((1 : Int) - P.turn), (leftS P.castle f t), (epS P.bd f t), (halfS P.bd P.half f t), (IntKind.i64.wrap (P.full + P.turn))⟩ : SP))) none (by kernel_rfl) u315 (sp_bound_all zeroSP _) (sp_one (⟨(mk4 P.bd P.turn f t p), ((1 : Int) - P.turn), (leftS P.castle f t), (epS P.bd f t), (halfS P.bd P.half f t), (IntKind.i64.wrap (P.full + P.turn))⟩ : SP)) ?_
 intro w317 hu318
 have u319 : At w317 b16 (.cells (spCells (⟨(mk4 P.bd P.turn f t p), ((1 : Int) - P.turn), (leftS P.castle f t), (epS P.bd f t), (halfS P.bd P.half f t), (IntKind.i64.wrap (P.full + P.turn))⟩ : SP)) 24 (0, 0)) := at_cast hu318.at_ (congrArg (fun A => Obj.cells A 24 (0, 0)) (spStore_all zeroSP (⟨(mk4 P.bd P.turn f t p), ((1 : Int) - P.turn), (leftS P.castle f t), (epS P.bd f t), (halfS P.bd P.half f t), (IntKind.i64.wrap (P.full + P.turn))⟩ : SP)))
 have v323 := Mod.fresh' v316 hu318.mod (by simp <;> omega)
 refine reg_end (by kernel_rfl) ?_
 refine n_then ?_
 refine w_ret ?_
 exact retc Tryz.results19 rfl (by kernel_rfl) (by kernel_rfl) ((At.row u319 (spCells_size (⟨(mk4 P.bd P.turn f t p), ((1 : Int) - P.turn), (leftS P.castle f t), (epS P.bd f t), (halfS P.bd P.half f t), (IntKind.i64.wrap (P.full + P.turn))⟩ : SP)))) (⟨rfl, v323⟩)
theorem append_where {P : Program} {w w' : World} {t ty e : TypeId} {i : TypeInfo} {z : Value} {size bytes : Nat} (ht : P.underlying t = some (.slice e)) (hi : P.info? e = some i) (hz : i.zero = some z)
  (hsize : i.size = size) (hby : i.bytes = bytes) {b0 l cap : Nat} {ao : Option Addr} {xs : List Value} (hown : Own w b0 e size ao l cap xs)
  {a : Addr} {m c : Nat} {news : List Value} (hl : news.length = m * size) (hnews : ∀ j u, news[j]? = some u → w.cell? (a.add j) = some u) (h1 : ∀ u ∈ news, u.oneCell' = true)
  (h63 : l + m ≤ maxLen) (hbytes : (l + m) * bytes ≤ 140737488355328) {ao' : Option Addr} {n' cap' : Nat}
  (hrun : (Builtin.append_ #[t, t] ty #[.slice ao l cap, .slice (some a) m c]).run P w = .ok (.slice ao' n' cap') w') (hnil : Value.slice ao' n' cap' = .slice none 0 0 ↔ Value.slice ao l cap = .slice none 0 0 ∧ m = 0) :
  ao' = ao ∨ ∀ x ∈ blk ao', w.heap.size ≤ x := by
 subst hsize
 subst hby
 have hsmall : l + m ≤ 9223372036854775807 := by simp only [maxLen] at h63; omega
 rcases hown.2 with ⟨hv, h0⟩ | ⟨g, cap2, cur, hv, hbg, hg, hnc, hcm, hcs, htake⟩
 ·simp only [Value.slice.injEq] at hv
  obtain ⟨rfl, rfl, rfl⟩ := hv
  by_cases hm : m = 0
  ·have := hnil.2 ⟨rfl, hm⟩
   simp only [Value.slice.injEq] at this
   exact Or.inl this.1
  have hr := run_append_nil (P := P) w t ty e i z ht hi hz a m c news hl hnews (by omega) (by omega) (by simp only [Nat.zero_add] at hbytes; omega)
  rw [hr] at hrun
  cases hrun
  exact Or.inr fun x hx => by simp [blk] at hx; omega
 simp only [Value.slice.injEq, true_and] at hv
 obtain ⟨rfl, rfl⟩ := hv
 by_cases hroom : l + m ≤ cap
 ·have hfit : l * i.size + news.length ≤ cur.size := by rw [hl, hcs, ← Nat.add_mul]; exact Nat.mul_le_mul_right _ hroom
  have hr := run_append_room (P := P) w t ty e i ht hi g l cap cur hg a m c news hl hnews h1 hroom hfit
  rw [hr] at hrun
  cases hrun
  exact Or.inl rfl
 have hr := run_append_grow (P := P) w t ty e i z ht hi hz ⟨g, 0, none⟩ l cap xs hown.1 (Own.cells' hown) a m c news hl hnews (by omega) (by omega) (growslice_fits (by omega) hbytes)
 rw [hr] at hrun
 cases hrun
 exact Or.inr fun x hx => by simp [blk] at hx; omega
section
variable {P : Program} {n : Nat} {D : List Deferred} {ops : Array Oper} {Q : Exit → Act → World → Prop} {w : World} {L : List (Nat × Value)}
theorem reg_append2 {k : Nat} (ao : Option Addr) (l cap : Nat) (a : Addr) (m c : Nat) (e : TypeId) (dst : Option Nat) (size bytes : Nat) (h : appendAt P n ops.toList k L = some (.slice ao l cap, .slice (some a) m c, e, dst, size, bytes, size))
  {b0 : Nat} {xs news : List Value} (hown : Own w b0 e size ao l cap xs) (hs : 0 < size) (hl : news.length = m * size) (hnews : ∀ j u, news[j]? = some u → w.cell? (a.add j) = some u) (h1 : ∀ u ∈ news, u.oneCell' = true)
  (hb : (l + m) * (bytes + 1) ≤ 140737488355328) (hbase : b0 ≤ w.heap.size)
  (hk : ∀ ao' cap' w', Own w' b0 e size ao' (l + m) cap' (xs ++ news) → Mod (blk ao) w w' → (ao' = ao ∨ ∀ x ∈ blk ao', w.heap.size ≤ x) → Reg P n D ops Q (k + 1) (setD dst (.slice ao' (l + m) cap') L) w') : Reg P n D ops Q k L w := by
 intro act ha
 unfold appendAt at h
 split at h
 case h_2 => cases h
 rename_i o ho
 split at h
 case h_2 => cases h
 rename_i hw hd
 split at h
 case h_2 => cases h
 rename_i cc hop
 split at h
 case h_2 => cases h
 rename_i s x t t' hc hargs hts
 split at h
 case isFalse => cases h
 rename_i ht
 subst ht
 split at h
 case h_2 => cases h
 rename_i u v e' hs' hx hu
 split at h
 case h_2 => cases h
 rename_i i hi
 split at h
 case h_2 => cases h
 rename_i z hz
 simp only [Option.some.injEq, Prod.mk.injEq] at h
 obtain ⟨rfl, rfl, rfl, rfl, hsz, hby, hzs⟩ := h
 rw [drop_cons ho]
 simp only [wpList, wantedL_spec ha hw, if_true]
 refine .inl ?_
 have hm : (l + m) * bytes ≤ 140737488355328 := Nat.le_trans (Nat.mul_le_mul_left _ (by omega)) hb
 have hlm : l + m ≤ maxLen := by
  have : l + m ≤ (l + m) * (bytes + 1) := Nat.le_mul_of_pos_right _ (by omega)
  simp only [maxLen]; omega
 obtain ⟨v', w', hrun, h2, h3, hnil⟩ := run_append_own (P := P) w b0 t o.type e' i z size bytes hu hi hz hsz hby hzs hs _ l xs hown a m c news hl hnews h1 hlm hm hbase
 have hr : (execOp act.eval o).run P w = .ok (.value v') w' := by
  obtain ⟨dst, op, ty, pos, af, g'⟩ := o
  simp only at hop
  subst hop
  obtain ⟨callee, args, ts⟩ := cc
  simp only at hc hargs hts
  subst hc
  obtain rfl : args = #[s, x] := by apply Array.ext'; simpa using hargs
  obtain rfl : ts = #[t, t] := by apply Array.ext'; simpa using hts
  simp only [execOp, resolve, invoke, builtin, Sem.run_bind, Sem.run_pure, Result.andThen_ok, List.map_toArray, List.map_cons, List.map_nil, ha.agrees _ _ hs', ha.agrees _ _ hx, hrun]
 simp only [Oper.wp, hr, Oper.upon]
 have hform : ∃ ao' cap', v' = .slice ao' (l + m) cap' := by
  rcases h2.2 with ⟨hv, h0⟩ | ⟨g, cap', cur, hv, _⟩
  ·exact ⟨none, 0, by rw [hv, h0]⟩
  exact ⟨_, _, hv⟩
 obtain ⟨ao', cap', rfl⟩ := hform
 exact hk ao' cap' w' h2 (Mod.of_grown h3) (append_where hu hi hz hsz hby hown hl hnews h1 hlm hm hrun hnil) _ (ha.setD hd _)
end
structure Sm where
 f : Int
 t : Int
 p : Int
structure GI where
 i : Int
 l : List Int
 ao : Option Addr
 cap : Nat
structure GS where
 i : Int
 l : List Sm
 ao : Option Addr
 cap : Nat
def ints (l : List Int) : List Value := l.flatMap fun x => [.int .i64 x]
def pairs (l : List (Int × Int)) : List Value := l.flatMap fun d => [.int .i64 d.1, .int .i64 d.2]
def smV (m : Sm) : List Value := [.int .i64 m.f, .int .i64 m.t, .int .i64 m.p]
def sms (l : List Sm) : List Value := l.flatMap smV
theorem flat_len {α : Type} {f : α → List Value} {k : Nat} (h : ∀ x, (f x).length = k) : ∀ l : List α, (l.flatMap f).length = l.length * k
 | [] => by simp
 | x :: r => by simp [List.flatMap_cons, h, flat_len h r, Nat.add_mul]; omega
theorem flat_get {α : Type} {f : α → List Value} {k : Nat} (h : ∀ x, (f x).length = k) : ∀ (l : List α) (i j : Nat) (d : α), i < l.length → j < k → (l.flatMap f)[i * k + j]? = (f (l.getD i d))[j]?
 | [], _, _, _, h0, _ => by simp at h0
 | x :: r, 0, j, d, _, hj => by
  rw [List.flatMap_cons, Nat.zero_mul, Nat.zero_add, List.getElem?_append_left (by rw [h]; exact hj)]; rfl
 | x :: r, i + 1, j, d, h0, hj => by
  rw [List.flatMap_cons, List.getElem?_append_right (by rw [h, Nat.add_mul]; omega), h, show (i + 1) * k + j - k = i * k + j by rw [Nat.add_mul]; omega]
  rw [flat_get h r i j d (by simpa using h0) hj]; rfl
theorem flat_one {α : Type} {f : α → List Value} (h : ∀ x, ∀ u ∈ f x, u.oneCell' = true) (l : List α) : ∀ u ∈ l.flatMap f, u.oneCell' = true := by
 intro u hu
 obtain ⟨x, _, hx⟩ := List.mem_flatMap.1 hu
 exact h x u hx
theorem ints_len (l : List Int) : (ints l).length = l.length * 1 := flat_len (f := fun x => [Value.int .i64 x]) (k := 1) (fun _ => rfl) l
theorem pairs_len (l : List (Int × Int)) : (pairs l).length = l.length * 2 := flat_len (f := fun d : Int × Int => [Value.int .i64 d.1, .int .i64 d.2]) (k := 2) (fun _ => rfl) l
theorem sms_len (l : List Sm) : (sms l).length = l.length * 3 := flat_len (f := smV) (k := 3) (fun _ => rfl) l
theorem ints_one (l : List Int) : ∀ u ∈ ints l, u.oneCell' = true := flat_one (fun x u hu => by rw [List.mem_singleton.1 hu]; rfl) l
theorem pairs_one (l : List (Int × Int)) : ∀ u ∈ pairs l, u.oneCell' = true := flat_one (fun x u hu => by simp at hu; rcases hu with rfl | rfl <;> rfl) l
theorem sms_one (l : List Sm) : ∀ u ∈ sms l, u.oneCell' = true := flat_one (fun x u hu => by simp [smV] at hu; rcases hu with rfl | rfl | rfl <;> rfl) l
theorem ints_append (a b : List Int) : ints (a ++ b) = ints a ++ ints b := List.flatMap_append ..
theorem sms_append (a b : List Sm) : sms (a ++ b) = sms a ++ sms b := List.flatMap_append ..
theorem pairs_append (a b : List (Int × Int)) : pairs (a ++ b) = pairs a ++ pairs b := List.flatMap_append ..
theorem ints_at {l : List Int} {i : Int} (h0 : 0 ≤ i) (h : i < (l.length : Int)) : (ints l)[0 + i.toNat * 1]? = some (.int .i64 (l.getD i.toNat 0)) := by
 have := flat_get (f := fun x => [Value.int .i64 x]) (k := 1) (fun _ => rfl) l i.toNat 0 0 (by omega) (by omega)
 rw [Nat.zero_add]; exact this
theorem pairs_at {l : List (Int × Int)} {i : Int} (h0 : 0 ≤ i) (h : i < (l.length : Int)) : (pairs l)[0 + i.toNat * 2]? = some (.int .i64 (l.getD i.toNat (0, 0)).1) ∧ (pairs l)[0 + i.toNat * 2 + 1]? = some (.int .i64 (l.getD i.toNat (0, 0)).2) := by
 have h1 := flat_get (f := fun d : Int × Int => [Value.int .i64 d.1, .int .i64 d.2]) (k := 2) (fun _ => rfl) l i.toNat 0 (0, 0) (by omega) (by omega)
 have h2 := flat_get (f := fun d : Int × Int => [Value.int .i64 d.1, .int .i64 d.2]) (k := 2) (fun _ => rfl) l i.toNat 1 (0, 0) (by omega) (by omega)
 rw [Nat.zero_add]; exact ⟨h1, h2⟩
def smAt (l : List Sm) (i : Int) : Sm := l.getD i.toNat ⟨0, 0, 0⟩
theorem smAt_mem {l : List Sm} {i : Int} (h0 : 0 ≤ i) (h : i < (l.length : Int)) : smAt l i ∈ l := by
 unfold smAt; rw [List.getD_eq_getElem?_getD, List.getElem?_eq_getElem (by omega)]; exact List.getElem_mem _
theorem sms_at {l : List Sm} {i : Int} (h0 : 0 ≤ i) (h : i < (l.length : Int)) : (sms l)[0 + i.toNat * 3]? = some (.int .i64 (smAt l i).f) ∧ (sms l)[0 + i.toNat * 3 + 1]? = some (.int .i64 (smAt l i).t) ∧ (sms l)[0 + i.toNat * 3 + 2]? = some (.int .i64 (smAt l i).p) := by
 have h1 := flat_get (f := smV) (k := 3) (fun _ => rfl) l i.toNat 0 ⟨0, 0, 0⟩ (by omega) (by omega)
 have h2 := flat_get (f := smV) (k := 3) (fun _ => rfl) l i.toNat 1 ⟨0, 0, 0⟩ (by omega) (by omega)
 have h3 := flat_get (f := smV) (k := 3) (fun _ => rfl) l i.toNat 2 ⟨0, 0, 0⟩ (by omega) (by omega)
 rw [Nat.zero_add]; exact ⟨h1, h2, h3⟩
theorem own_sm {w : World} {b0 n cap g : Nat} {l : List Sm} {i : Int} (h : Own w b0 30 3 (some ⟨g, 0, none⟩) n cap (sms l)) (h0 : 0 ≤ i) (hi : i < (l.length : Int)) : (Ob.row ⟨g, 0 + i.toNat * 3, none⟩ 3 #[.int .i64 (smAt l i).f, .int .i64 (smAt l i).t, .int .i64 (smAt l i).p]).holds w := by
 obtain ⟨h1, h2, h3⟩ := sms_at h0 hi
 refine ⟨rfl, fun j hj => ?_⟩
 rw [add_none]
 rcases (by omega : j = 0 ∨ j = 1 ∨ j = 2) with rfl | rfl | rfl
 ·rw [Nat.add_zero, Own.cell h h1]; rfl
 ·rw [Own.cell h h2]; rfl
 rw [Own.cell h h3]; rfl
theorem at_cells {w : World} {q : Nat} {t : TypeId} {l : List Value} (h : At w q (.cells l.toArray t (0, 0))) : ∀ j u, l[j]? = some u → w.cell? (Addr.add ⟨q, 0, none⟩ j) = some u := by
 intro j u hu
 rw [add_none, Nat.zero_add]; exact h.cell (by simpa using hu)
theorem Own.base {w : World} {b0 b1 size n cap : Nat} {e : TypeId} {ao : Option Addr} {xs : List Value} (h : Own w b0 e size ao n cap xs) (hb : b1 ≤ b0) : Own w b1 e size ao n cap xs := by
 refine ⟨h.1, ?_⟩
 rcases h.2 with hn | ⟨g', cap', cur, hv, hg, rest⟩
 ·exact .inl hn
 exact .inr ⟨g', cap', cur, hv, Nat.le_trans hb hg, rest⟩
theorem blk_none : ∀ x ∈ blk none, False := fun x hx => by simp [blk] at hx
theorem acc_where {S : List Nat} {wb w : World} {ao ao' : Option Addr} (hx : ∀ x ∈ blk ao, x ∈ S ∨ wb.heap.size ≤ x) (m : Mod S wb w) (hd : ao' = ao ∨ ∀ x ∈ blk ao', w.heap.size ≤ x) : ∀ x ∈ blk ao', x ∈ S ∨ wb.heap.size ≤ x := by
 intro x hx'
 rcases hd with rfl | hd
 ·exact hx x hx'
 exact Or.inr (Nat.le_trans m.size (hd x hx'))
theorem own_type {w : World} {b0 b1 size size' n n' cap cap' : Nat} {e t : TypeId} {ao ao' : Option Addr} {xs ys : List Value} (h : Own w b0 e size ao n cap xs) (k : Own w b1 t size' ao' n' cap' ys) (ht : (t == e) = false) : ∀ x ∈ blk ao, x ∉ blk ao' := by
 intro x hx hx'
 rcases h.2 with ⟨hv, _⟩ | ⟨g, _, cur, hv, _, hg, _⟩
 ·simp only [Value.slice.injEq] at hv; rw [hv.1] at hx; exact blk_none x hx
 rcases k.2 with ⟨kv, _⟩ | ⟨g', _, cur', kv, _, hg', _⟩
 ·simp only [Value.slice.injEq] at kv; rw [kv.1] at hx'; exact blk_none x hx'
 simp only [Value.slice.injEq] at hv kv
 rw [hv.1] at hx; rw [kv.1] at hx'
 simp [blk] at hx hx'
 subst hx; subst hx'
 rw [hg] at hg'
 cases hg'
 simp at ht
section
variable {P : Program} {n : Nat} {D : List Deferred} {ops : Array Oper} {Q : Exit → Act → World → Prop} {w : World} {L : List (Nat × Value)}
def bslice0At (P : Program) (n : Nat) (ops : List Oper) (k : Nat) (L : List (Nat × Value)) : Option (TypeId × Option Nat) :=
 match ops[k]? with
 | some o => match wantedL ops L o, dstOk o.dst n with
  | some true, true => match o.op with
   | .buildSlice t 0 ps => match ps.toList, P.underlying t with
    | [], some (.slice e) => match P.info? e with
     | some _ => some (e, o.dst)
     | none => none
    | _, _ => none
   | _ => none
  | _, _ => none
 | none => none
theorem reg_bslice0 {k : Nat} (e : TypeId) (dst : Option Nat) (h : bslice0At P n ops.toList k L = some (e, dst))
  (hk : ∀ b w', New w w' b (.cells #[] e (0, 0)) → Reg P n D ops Q (k + 1) (setD dst (.slice (some ⟨b, 0, none⟩) 0 0) L) w') : Reg P n D ops Q k L w := by
 intro a ha
 unfold bslice0At at h
 split at h
 case h_2 => cases h
 rename_i o ho
 split at h
 case h_2 => cases h
 rename_i hw hd
 split at h
 case h_2 => cases h
 rename_i t ps hop
 split at h
 case h_2 => cases h
 rename_i e' hps hu
 split at h
 case h_2 => cases h
 rename_i i hi
 simp only [Option.some.injEq, Prod.mk.injEq] at h
 obtain ⟨rfl, rfl⟩ := h
 have hr : (execOp a.eval o).run P w = .ok (.value (.slice (some ⟨w.heap.size, 0, none⟩) 0 0)) (w.alloc (.cells #[] e' (0, 0))) := by
  obtain ⟨dst, op, ty, pos, af, g'⟩ := o
  simp only at hop
  subst hop
  obtain rfl : ps = #[] := by apply Array.ext'; simpa using hps
  have hsz : (sizeOf e').run P w = .ok i.size w := by simp [sizeOf, typeInfo, hi]
  simp [execOp, Instr.buildSlice, runU hu, hsz, Instr.fill, newRow, show (Array.range 0 : Array Nat) = #[] from rfl]
 rw [drop_cons ho]
 simp only [wpList, wantedL_spec ha hw, if_true]
 refine .inl ?_
 simp only [Oper.wp, hr, Oper.upon]
 exact hk _ _ (New.alloc w _) _ (ha.setD hd _)
theorem reg_append_own {k : Nat} (ao : Option Addr) (l cap : Nat) (ao2 : Option Addr) (m cap2 : Nat) (e : TypeId) (dst : Option Nat) (size bytes : Nat) (h : appendAt P n ops.toList k L = some (.slice ao l cap, .slice ao2 m cap2, e, dst, size, bytes, size))
  {b0 b1 : Nat} {xs news : List Value} (hown : Own w b0 e size ao l cap xs) (hown2 : Own w b1 e size ao2 m cap2 news) (hs : 0 < size) (h1 : ∀ u ∈ news, u.oneCell' = true)
  (hb : (l + m) * (bytes + 1) ≤ 140737488355328) (hbase : b0 ≤ w.heap.size)
  (hk : ∀ ao' cap' w', Own w' b0 e size ao' (l + m) cap' (xs ++ news) → Mod (blk ao) w w' → (ao' = ao ∨ ∀ x ∈ blk ao', w.heap.size ≤ x) → Reg P n D ops Q (k + 1) (setD dst (.slice ao' (l + m) cap') L) w') : Reg P n D ops Q k L w := by
 rcases hown2.2 with ⟨hv, h0⟩ | ⟨g, cap3, cur, hv, _⟩
 ·simp only [Value.slice.injEq] at hv
  obtain ⟨rfl, rfl, rfl⟩ := hv
  have hn : news = [] := List.eq_nil_of_length_eq_zero (by have := hown2.1; simpa using this)
  subst hn
  have hle : l ≤ cap := by
   rcases hown.2 with ⟨hv, h0⟩ | ⟨g, cap', cur, hv, _, _, hc, _⟩
   ·simp only [Value.slice.injEq] at hv; omega
   simp only [Value.slice.injEq] at hv; omega
  refine reg_append_nil ao l cap e dst size bytes size h hle ?_
  exact hk ao cap w (Own.cast hown (Nat.add_zero _).symm (List.append_nil _).symm) (Mod.refl _ _) (Or.inl rfl)
 simp only [Value.slice.injEq, true_and] at hv
 obtain ⟨rfl, rfl⟩ := hv
 exact reg_append2 ao l cap ⟨g, 0, none⟩ m cap2 e dst size bytes h hown hs hown2.1 (Own.cells' hown2) h1 hb hbase hk
end
def FlatI {α : Type} (base : List Sm) (M : List α) (f : α → List Sm) (i : Int) (l : List Sm) : Prop := l = base ++ (M.take i.toNat).flatMap f
theorem FlatI.zero {α : Type} {base : List Sm} {M : List α} {f : α → List Sm} : FlatI base M f 0 base := by unfold FlatI; simp
theorem FlatI.step {α : Type} {base : List Sm} {M : List α} {f : α → List Sm} {i : Int} {l l' : List Sm} (h : FlatI base M f i l) (h0 : 0 ≤ i) (h1 : i < (M.length : Int)) (d : α) (hl : l' = l ++ f (M.getD i.toNat d)) : FlatI base M f (i + 1) l' := by
 unfold FlatI at *
 rw [hl, h, show (i + 1).toNat = i.toNat + 1 by omega, List.take_succ_eq_append_getElem (by omega), List.flatMap_append, List.getD_eq_getElem?_getD, List.getElem?_eq_getElem (by omega), List.append_assoc]
 simp
theorem FlatI.fin {α : Type} {base : List Sm} {M : List α} {f : α → List Sm} {i : Int} {l : List Sm} (h : FlatI base M f i l) (h0 : 0 ≤ i) (h1 : ¬ i < (M.length : Int)) : l = base ++ M.flatMap f := by
 unfold FlatI at h; rw [h, List.take_of_length_le (by omega)]
theorem flat_le {α β : Type} {f : α → List β} {c : Nat} (hc : ∀ x, (f x).length ≤ c) : ∀ M : List α, (M.flatMap f).length ≤ c * M.length
 | [] => by simp
 | x :: r => by have := flat_le hc r; have := hc x; simp only [List.flatMap_cons, List.length_append, List.length_cons, Nat.mul_add, Nat.mul_one]; omega
theorem FlatI.len {α : Type} {base : List Sm} {M : List α} {f : α → List Sm} {i : Int} {l : List Sm} {c : Nat} (h : FlatI base M f i l) (hc : ∀ x, (f x).length ≤ c) : l.length ≤ base.length + c * M.length := by
 unfold FlatI at h; rw [h, List.length_append]
 have h1 := flat_le hc (M.take i.toNat)
 have h2 : (M.take i.toNat).length ≤ M.length := by rw [List.length_take]; omega
 have h3 := Nat.mul_le_mul_left c h2
 omega
def hitD (s sd d : Int) : List Int := if atS ((s % 8) + d) ((s / 8) + (1 - 2 * sd)) ≥ 0 then [atS ((s % 8) + d) ((s / 8) + (1 - 2 * sd))] else []
def hitsL (s sd : Int) : List Int := hitD s sd (-1) ++ hitD s sd 1
def HitsI (s sd : Int) (q : GI) : Prop := (q.i = -1 ∧ q.l = []) ∨ (q.i = 1 ∧ q.l = hitD s sd (-1)) ∨ (q.i = 3 ∧ q.l = hitsL s sd)
theorem hitD_len (s sd d : Int) : (hitD s sd d).length ≤ 1 := by unfold hitD; split <;> simp
theorem hits_len (s sd : Int) : (hitsL s sd).length ≤ 2 := by
 unfold hitsL; have := hitD_len s sd (-1); have := hitD_len s sd 1; rw [List.length_append]; omega
theorem HitsI.len {s sd : Int} {q : GI} (h : HitsI s sd q) : q.l.length ≤ 2 := by
 rcases h with ⟨_, h⟩ | ⟨_, h⟩ | ⟨_, h⟩ <;> rw [h]
 ·simp
 ·have := hitD_len s sd (-1); omega
 exact hits_len s sd
theorem HitsI.step {s sd : Int} {q : GI} {l : List Int} {ao : Option Addr} {cap : Nat} (h : HitsI s sd q) (h1 : q.i ≤ 1) (hl : l = q.l ++ hitD s sd q.i) : HitsI s sd ⟨q.i + 2, l, ao, cap⟩ := by
 subst hl
 rcases h with ⟨hi, h⟩ | ⟨hi, h⟩ | ⟨hi, h⟩
 ·exact Or.inr (Or.inl ⟨by dsimp only; omega, by dsimp only; rw [h, hi]; rfl⟩)
 ·exact Or.inr (Or.inr ⟨by dsimp only; omega, by dsimp only; rw [h, hi]; rfl⟩)
 omega
theorem HitsI.fin {s sd : Int} {q : GI} (h : HitsI s sd q) (h1 : ¬ q.i ≤ 1) : q.l = hitsL s sd := by
 rcases h with ⟨hi, h⟩ | ⟨hi, h⟩ | ⟨hi, h⟩
 ·omega
 ·omega
 exact h
def straightL : List (Int × Int) := [(0, 1), (1, 0), (0, -1), (-1, 0)]
def slantL : List (Int × Int) := [(1, 1), (1, -1), (-1, -1), (-1, 1)]
def jumpL : List (Int × Int) := [(1, 2), (2, 1), (2, -1), (1, -2), (-1, -2), (-2, -1), (-2, 1), (-1, 2)]
def wayL (k : Int) : List (Int × Int) := if k = 1 ∨ k = 2 then straightL ++ slantL else if k = 3 then straightL else if k = 4 then slantL else jumpL
def farB (k : Int) : Bool := decide (k = 2 ∨ k = 3 ∨ k = 4)
theorem wayL_len (k : Int) : (wayL k).length ≤ 8 := by unfold wayL; split <;> (try split) <;> (try split) <;> decide
theorem ret_lb {v v' : Value} {b b' : Bool} (h : v = v') (h' : b = b') : Ending.returned (.tuple #[v, .bool b]) = .returned (.tuple #[v', .bool b']) := by rw [h, h']
theorem c80 {w : World} (s sd : Int) (hs : 0 ≤ s ∧ s ≤ 63) (hd : 0 ≤ sd ∧ sd ≤ 1) :
  Calls Tryz.prog 80 [.int .i64 s, .int .i64 sd].toArray w (fun e w' => ∃ ao cap, e = .returned (.slice ao (hitsL s sd).length cap) ∧ Mod [] w w' ∧ Own w' w.heap.size 3 1 ao (hitsL s sd).length cap (ints (hitsL s sd))) := by
 have v0 : Mod [] w w := Mod.refl _ _
 refine enter (n := 29) Tryz.func80 rfl Tryz.ntmps80 rfl ?_
 refine zw ?_
 refine zs 1 [iz 0 s, iz 1 sd] ?_
 refine zx ?_
 refine zs 1 [iz 0 s, iz 1 sd, (5, .slice none 0 0)] ?_
 refine zz ?_
 refine w_seq ?_
 refine zw ?_
 refine zs 1 [iz 0 s, iz 1 sd, (5, .slice none 0 0), iz 6 (-1 : Int)] ?_
 refine zz ?_
 refine w_block ?_
 refine w_loop (γ := GI) (fun g1 => (3 - g1.i).toNat) (fun (g1 : GI) => [(0, .int .i64 s), (1, .int .i64 sd), (5, .slice g1.ao g1.l.length g1.cap), (6, .int .i64 g1.i)]) (fun (g1 : GI) w_ => (-1 ≤ g1.i ∧ g1.i ≤ 3) ∧ Mod [] w w_ ∧ (∀ x ∈ blk g1.ao, x ∈ ([] : List Nat) ∨ w.heap.size ≤ x) ∧ Own w_ w.heap.size 3 1 g1.ao g1.l.length g1.cap (ints g1.l) ∧ (HitsI s sd g1)) ⟨(-1), [], none, 0⟩ (hold_keep [0, 1, 5, 6] (by kernel_rfl)) ⟨(by constructor <;> (try dsimp only) <;> omega), Mod.refl _ _, (fun x hx => (blk_none x hx).elim), (Own.nil _ _ _ _), (Or.inl ⟨rfl, rfl⟩)⟩ ?_
 rintro g1 w2 ⟨⟨h7, h8⟩, v3, hw4, ho5, hx6⟩
 have v9 := zt v0 v3
 have hz10 := Mod.size v3
 refine w_seq ?_
 refine zw ?_
 refine zs 2 [iz 0 s, iz 1 sd, (5, .slice g1.ao g1.l.length g1.cap), iz 6 g1.i, (9, .bool (decide (g1.i ≤ 1)))] ?_
 refine zz ?_
 refine zc (fun hc11 => ?_) fun hc11 => ?_
 ·have y11 := of_decide_eq_true hc11
  refine w_skip ?_
  refine n_then ?_
  refine w_seq ?_
  refine w_block ?_
  refine zw ?_
  refine zs 1 [iz 0 s, iz 1 sd, (5, .slice g1.ao g1.l.length g1.cap), iz 6 g1.i, iz 12 s] ?_
  refine zk (some 13) (c77 s w2 (by omega)) ?_
  intro w12 v13
  have ho14 := Own.on ho5 v13
  have v15 := zt v9 v13
  have v16 := zt v3 v13
  have hz17 := Mod.size v13
  refine zs 2 [iz 0 s, iz 1 sd, (5, .slice g1.ao g1.l.length g1.cap), iz 6 g1.i, iz 15 (IntKind.i64.wrap ((s % 8) + g1.i))] ?_
  rw [zi ((s % 8) + g1.i) (by omega) (by omega)]
  refine zs 1 [iz 0 s, iz 1 sd, (5, .slice g1.ao g1.l.length g1.cap), iz 6 g1.i, iz 15 ((s % 8) + g1.i), iz 16 s] ?_
  refine zk (some 17) (c40 s w12 (by omega)) ?_
  intro w18 v19
  have ho20 := Own.on ho14 v19
  have v21 := zt v15 v19
  have v22 := zt v16 v19
  have hz23 := Mod.size v19
  refine zs 1 [iz 0 s, iz 1 sd, (5, .slice g1.ao g1.l.length g1.cap), iz 6 g1.i, iz 15 ((s % 8) + g1.i), iz 17 (s / 8), iz 18 sd] ?_
  refine zk (some 19) (c79 sd w18 (by first | omega | exact sideOf_or _)) ?_
  intro w24 v25
  have ho26 := Own.on ho20 v25
  have v27 := zt v21 v25
  have v28 := zt v22 v25
  have hz29 := Mod.size v25
  refine zs 1 [iz 0 s, iz 1 sd, (5, .slice g1.ao g1.l.length g1.cap), iz 6 g1.i, iz 15 ((s % 8) + g1.i), iz 20 (IntKind.i64.wrap ((s / 8) + (1 - 2 * sd)))] ?_
  rw [zi ((s / 8) + (1 - 2 * sd)) (by omega) (by omega)]
  refine zk (some 21) (c39g ((s % 8) + g1.i) ((s / 8) + (1 - 2 * sd)) w24 (by omega) (by omega)) ?_
  intro w30 v31
  have ho32 := Own.on ho26 v31
  have v33 := zt v27 v31
  have v34 := zt v28 v31
  have hz35 := Mod.size v31
  refine zs 1 [iz 0 s, iz 1 sd, (5, .slice g1.ao g1.l.length g1.cap), iz 6 g1.i, iz 7 (atS ((s % 8) + g1.i) ((s / 8) + (1 - 2 * sd)))] ?_
  refine zx ?_
  refine zs 2 [iz 0 s, iz 1 sd, (5, .slice g1.ao g1.l.length g1.cap), iz 6 g1.i, iz 7 (atS ((s % 8) + g1.i) ((s / 8) + (1 - 2 * sd))), (23, .bool (decide ((atS ((s % 8) + g1.i) ((s / 8) + (1 - 2 * sd))) ≥ 0)))] ?_
  refine zz ?_
  refine zc (fun hc36 => ?_) fun hc36 => ?_
  ·have y36 := of_decide_eq_true hc36
   refine w_region ?_
   refine zs 2 [iz 0 s, iz 1 sd, iz 6 g1.i, (24, .slice g1.ao g1.l.length g1.cap), iz 25 (atS ((s % 8) + g1.i) ((s / 8) + (1 - 2 * sd)))] ?_
   refine reg_bslice (#[.int .i64 (atS ((s % 8) + g1.i) ((s / 8) + (1 - 2 * sd)))]) 3 1 (some 26) (by kernel_rfl) ?_
   intro b37 w38 hn39
   have hb40 := Nat.le_trans v33.size hn39.base
   have hb41 := Nat.le_trans v34.size hn39.base
   have v42 := hn39.mod
   have ho43 := Own.on ho32 v42
   have v45 := zt v34 v42
   have hz46 := Mod.size v42
   have u47 := hn39.at_
   refine reg_append2 g1.ao g1.l.length g1.cap ⟨b37, 0, none⟩ 1 1 3 (some 27) 1 8 (b0 := w.heap.size) (xs := ints g1.l) (news := ints ([(atS ((s % 8) + g1.i) ((s / 8) + (1 - 2 * sd)))])) (by kernel_rfl) ho43 (by decide) (ints_len _) (at_cells (l := ints ([(atS ((s % 8) + g1.i) ((s / 8) + (1 - 2 * sd)))])) (by exact u47)) (ints_one _) (by have := hx6.len; omega) (by omega) ?_
   intro ao48 cap49 w50 ho51 v52 hd53
   have v55 := Mod.fresh' v45 v52 hw4
   have hz56 := Mod.size v52
   rw [show (g1.l.length + 1 : Nat) = (g1.l ++ [(atS ((s % 8) + g1.i) ((s / 8) + (1 - 2 * sd)))]).length from (by first | rfl | simp)]
   have ho57 : Own w50 w.heap.size 3 1 ao48 (g1.l ++ [(atS ((s % 8) + g1.i) ((s / 8) + (1 - 2 * sd)))]).length cap49 (ints (g1.l ++ [(atS ((s % 8) + g1.i) ((s / 8) + (1 - 2 * sd)))])) := Own.cast ho51 (by first | rfl | simp) (by first | rfl | rw [ints_append])
   have hw58 := acc_where hw4 v45 hd53
   refine zs 1 [iz 0 s, iz 1 sd, (5, .slice ao48 ((g1.l ++ [(atS ((s % 8) + g1.i) ((s / 8) + (1 - 2 * sd)))]).length) cap49), iz 6 g1.i] ?_
   refine ze ?_
   refine n_block ?_
   refine n_then ?_
   refine w_region ?_
   refine zs 2 [iz 0 s, iz 1 sd, (5, .slice ao48 ((g1.l ++ [(atS ((s % 8) + g1.i) ((s / 8) + (1 - 2 * sd)))]).length) cap49), iz 11 (IntKind.i64.wrap (g1.i + 2))] ?_
   rw [zi (g1.i + (2 : Int)) (by omega) (by omega)]
   refine zs 1 [iz 0 s, iz 1 sd, (5, .slice ao48 ((g1.l ++ [(atS ((s % 8) + g1.i) ((s / 8) + (1 - 2 * sd)))]).length) cap49), iz 6 (g1.i + 2)] ?_
   refine ze ?_
   exact l_back (⟨g1.i + 2, (g1.l ++ [(atS ((s % 8) + g1.i) ((s / 8) + (1 - 2 * sd)))]), ao48, cap49⟩ : GI) [0, 1, 5, 6] (by kernel_rfl) (by dsimp only; omega) ⟨(by constructor <;> (try dsimp only) <;> omega), v55, hw58, ho57, (hx6.step (by omega) (by unfold hitD; rw [if_pos (by omega)]))⟩
  have y36 := of_decide_eq_false hc36
  refine w_skip ?_
  refine n_block ?_
  refine n_then ?_
  refine w_region ?_
  refine zs 2 [iz 0 s, iz 1 sd, (5, .slice g1.ao g1.l.length g1.cap), iz 11 (IntKind.i64.wrap (g1.i + 2))] ?_
  rw [zi (g1.i + (2 : Int)) (by omega) (by omega)]
  refine zs 1 [iz 0 s, iz 1 sd, (5, .slice g1.ao g1.l.length g1.cap), iz 6 (g1.i + 2)] ?_
  refine ze ?_
  exact l_back (⟨g1.i + 2, g1.l, g1.ao, g1.cap⟩ : GI) [0, 1, 5, 6] (by kernel_rfl) (by dsimp only; omega) ⟨(by constructor <;> (try dsimp only) <;> omega), v34, hw4, ho32, (hx6.step (by omega) (by unfold hitD; rw [if_neg (by omega), List.append_nil]))⟩
 have y11 := of_decide_eq_false hc11
 refine w_exit ?_
 refine x_then ?_
 refine x_then ?_
 refine x_hit ?_
 refine zn ?_
 refine zs 2 [(4, .slice g1.ao g1.l.length g1.cap)] ?_
 refine zz ?_
 refine w_ret ?_
 exact ret1 rfl rfl (by have hl := (hx6.fin (by omega)); exact ⟨g1.ao, g1.cap, (by rw [hl]), v9, Own.cast (Own.base ho5 (by omega)) (by rw [hl]) (by rw [hl])⟩)
theorem c104 {w : World} :
  Calls Tryz.prog 104 [].toArray w (fun e w' => ∃ q, e = .returned (.slice (some ⟨q, 0, none⟩) straightL.length straightL.length) ∧ Mod [] w w' ∧ At w' q (.cells (pairs straightL).toArray 123 (0, 0)) ∧ w.heap.size ≤ q) := by
 have v0 : Mod [] w w := Mod.refl _ _
 refine enter (n := 6) Tryz.func104 rfl Tryz.ntmps104 rfl ?_
 refine zw ?_
 refine zs 1 [] ?_
 refine zx ?_
 refine zs 4 [(1, .agg #[.int .i64 0, .int .i64 1]), (2, .agg #[.int .i64 1, .int .i64 0]), (3, .agg #[.int .i64 0, .int .i64 (-1 : Int)]), (4, .agg #[.int .i64 (-1 : Int), .int .i64 0])] ?_
 refine reg_bslice (#[.int .i64 0, .int .i64 1, .int .i64 1, .int .i64 0, .int .i64 0, .int .i64 (-1 : Int), .int .i64 (-1 : Int), .int .i64 0]) 123 4 (some 5) (by kernel_rfl) ?_
 intro b1 w2 hn3
 have hb4 := Nat.le_trans v0.size hn3.base
 have v5 := hn3.mod
 have v6 := zt v0 v5
 have hz7 := Mod.size v5
 have u8 := hn3.at_
 refine zs 1 [(0, .slice (some ⟨b1, 0, none⟩) 4 4)] ?_
 refine zz ?_
 refine w_ret ?_
 exact ret1 rfl rfl (⟨_, rfl, v6, u8, by omega⟩)
theorem c105 {w : World} :
  Calls Tryz.prog 105 [].toArray w (fun e w' => ∃ q, e = .returned (.slice (some ⟨q, 0, none⟩) slantL.length slantL.length) ∧ Mod [] w w' ∧ At w' q (.cells (pairs slantL).toArray 123 (0, 0)) ∧ w.heap.size ≤ q) := by
 have v0 : Mod [] w w := Mod.refl _ _
 refine enter (n := 6) Tryz.func105 rfl Tryz.ntmps105 rfl ?_
 refine zw ?_
 refine zs 1 [] ?_
 refine zx ?_
 refine zs 4 [(1, .agg #[.int .i64 1, .int .i64 1]), (2, .agg #[.int .i64 1, .int .i64 (-1 : Int)]), (3, .agg #[.int .i64 (-1 : Int), .int .i64 (-1 : Int)]), (4, .agg #[.int .i64 (-1 : Int), .int .i64 1])] ?_
 refine reg_bslice (#[.int .i64 1, .int .i64 1, .int .i64 1, .int .i64 (-1 : Int), .int .i64 (-1 : Int), .int .i64 (-1 : Int), .int .i64 (-1 : Int), .int .i64 1]) 123 4 (some 5) (by kernel_rfl) ?_
 intro b1 w2 hn3
 have hb4 := Nat.le_trans v0.size hn3.base
 have v5 := hn3.mod
 have v6 := zt v0 v5
 have hz7 := Mod.size v5
 have u8 := hn3.at_
 refine zs 1 [(0, .slice (some ⟨b1, 0, none⟩) 4 4)] ?_
 refine zz ?_
 refine w_ret ?_
 exact ret1 rfl rfl (⟨_, rfl, v6, u8, by omega⟩)
theorem c106 {w : World} :
  Calls Tryz.prog 106 [].toArray w (fun e w' => ∃ q, e = .returned (.slice (some ⟨q, 0, none⟩) jumpL.length jumpL.length) ∧ Mod [] w w' ∧ At w' q (.cells (pairs jumpL).toArray 123 (0, 0)) ∧ w.heap.size ≤ q) := by
 have v0 : Mod [] w w := Mod.refl _ _
 refine enter (n := 10) Tryz.func106 rfl Tryz.ntmps106 rfl ?_
 refine zw ?_
 refine zs 1 [] ?_
 refine zx ?_
 refine zs 8 [(1, .agg #[.int .i64 1, .int .i64 2]), (2, .agg #[.int .i64 2, .int .i64 1]), (3, .agg #[.int .i64 2, .int .i64 (-1 : Int)]), (4, .agg #[.int .i64 1, .int .i64 (-2 : Int)]), (5, .agg #[.int .i64 (-1 : Int), .int .i64 (-2 : Int)]), (6, .agg #[.int .i64 (-2 : Int), .int .i64 (-1 : Int)]), (7, .agg #[.int .i64 (-2 : Int), .int .i64 1]), (8, .agg #[.int .i64 (-1 : Int), .int .i64 2])] ?_
 refine reg_bslice (#[.int .i64 1, .int .i64 2, .int .i64 2, .int .i64 1, .int .i64 2, .int .i64 (-1 : Int), .int .i64 1, .int .i64 (-2 : Int), .int .i64 (-1 : Int), .int .i64 (-2 : Int), .int .i64 (-2 : Int), .int .i64 (-1 : Int), .int .i64 (-2 : Int), .int .i64 1, .int .i64 (-1 : Int), .int .i64 2]) 123 8 (some 9) (by kernel_rfl) ?_
 intro b1 w2 hn3
 have hb4 := Nat.le_trans v0.size hn3.base
 have v5 := hn3.mod
 have v6 := zt v0 v5
 have hz7 := Mod.size v5
 have u8 := hn3.at_
 refine zs 1 [(0, .slice (some ⟨b1, 0, none⟩) 8 8)] ?_
 refine zz ?_
 refine w_ret ?_
 exact ret1 rfl rfl (⟨_, rfl, v6, u8, by omega⟩)
theorem c81 {w : World} (k : Int) :
  Calls Tryz.prog 81 [.int .i64 k].toArray w (fun e w' => ∃ ao cap, e = .returned (.tuple #[.slice ao (wayL k).length cap, .bool (farB k)]) ∧ Mod [] w w' ∧ Own w' w.heap.size 123 2 ao (wayL k).length cap (pairs (wayL k))) := by
 have v0 : Mod [] w w := Mod.refl _ _
 refine enter (n := 22) Tryz.func81 rfl Tryz.ntmps81 rfl ?_
 refine zw ?_
 refine zs 2 [iz 0 k] ?_
 refine zz ?_
 refine w_seq ?_
 refine zw ?_
 refine zs 1 [iz 4 k] ?_
 refine zz ?_
 refine w_block ?_
 refine zw ?_
 refine zs 2 [iz 4 k, (5, .bool (k == 1))] ?_
 refine zz ?_
 refine zc (fun hc1 => ?_) fun hc1 => ?_
 ·have y1 := eq_of_beq hc1
  refine zw ?_
  refine reg_call 104 [] (some 7) (by kernel_rfl) (c104) ?_
  rintro _ w2 ⟨b4, rfl, v3, u5, hb6⟩; refine ⟨_, rfl, ?_⟩
  have v7 := zt v0 v3
  have hz8 := Mod.size v3
  refine reg_call 105 [] (some 8) (by kernel_rfl) (c105) ?_
  rintro _ w9 ⟨b11, rfl, v10, u12, hb13⟩; refine ⟨_, rfl, ?_⟩
  have ne14 : b4 ≠ b11 := (by have := At.lt u5; omega)
  have u15 := At.on u5 v10
  have v16 := zt v7 v10
  have hz17 := Mod.size v10
  have ho18 : Own w9 b4 123 2 (some ⟨b4, 0, none⟩) straightL.length straightL.length (pairs straightL) := own_of_at (by exact u15) (Nat.le_refl _) (pairs_len _) (by decide)
  refine reg_append2 (some ⟨b4, 0, none⟩) straightL.length straightL.length ⟨b11, 0, none⟩ slantL.length slantL.length 123 (some 9) 2 16 (b0 := b4) (xs := pairs straightL) (news := pairs slantL) (by kernel_rfl) ho18 (by decide) (pairs_len _) (at_cells (l := pairs slantL) (by exact u12)) (pairs_one _) (by decide) (by have := Own.lt ho18 _ (List.mem_singleton.2 rfl); omega) ?_
  intro ao19 cap20 w21 ho22 v23 hd24
  have v25 := Mod.fresh' v16 v23 (fun x hx => Or.inr (by have := Own.lt ho18 x hx; omega))
  have hz26 := Mod.size v23
  rw [show (straightL.length + slantL.length : Nat) = (straightL ++ slantL).length from (by first | rfl | simp)]
  have ho27 : Own w21 b4 123 2 ao19 (straightL ++ slantL).length cap20 (pairs (straightL ++ slantL)) := Own.cast ho22 (by first | rfl | simp) (by first | rfl | rw [pairs_append])
  refine zs 2 [(2, .slice ao19 ((straightL ++ slantL).length) cap20), (3, .bool false)] ?_
  refine zz ?_
  refine w_ret ?_
  refine r_block ?_
  refine r_then ?_
  exact ret2 Tryz.results81 rfl rfl (by have hl : (straightL ++ slantL) = wayL k := (by rw [eq_of_beq hc1]; rfl); have hfr : false = farB k := (by rw [eq_of_beq hc1]; rfl); exact ⟨ao19, cap20, ret_lb (by rw [hl]) hfr, v25, Own.cast (Own.base ho27 (by omega)) (by rw [hl]) (by rw [hl])⟩)
 have y1 := ne_of_beq_false hc1
 refine zw ?_
 refine zs 2 [iz 4 k, (10, .bool (k == 2))] ?_
 refine zz ?_
 refine zc (fun hc28 => ?_) fun hc28 => ?_
 ·have y28 := eq_of_beq hc28
  refine zw ?_
  refine reg_call 104 [] (some 12) (by kernel_rfl) (c104) ?_
  rintro _ w29 ⟨b31, rfl, v30, u32, hb33⟩; refine ⟨_, rfl, ?_⟩
  have v34 := zt v0 v30
  have hz35 := Mod.size v30
  refine reg_call 105 [] (some 13) (by kernel_rfl) (c105) ?_
  rintro _ w36 ⟨b38, rfl, v37, u39, hb40⟩; refine ⟨_, rfl, ?_⟩
  have ne41 : b31 ≠ b38 := (by have := At.lt u32; omega)
  have u42 := At.on u32 v37
  have v43 := zt v34 v37
  have hz44 := Mod.size v37
  have ho45 : Own w36 b31 123 2 (some ⟨b31, 0, none⟩) straightL.length straightL.length (pairs straightL) := own_of_at (by exact u42) (Nat.le_refl _) (pairs_len _) (by decide)
  refine reg_append2 (some ⟨b31, 0, none⟩) straightL.length straightL.length ⟨b38, 0, none⟩ slantL.length slantL.length 123 (some 14) 2 16 (b0 := b31) (xs := pairs straightL) (news := pairs slantL) (by kernel_rfl) ho45 (by decide) (pairs_len _) (at_cells (l := pairs slantL) (by exact u39)) (pairs_one _) (by decide) (by have := Own.lt ho45 _ (List.mem_singleton.2 rfl); omega) ?_
  intro ao46 cap47 w48 ho49 v50 hd51
  have v52 := Mod.fresh' v43 v50 (fun x hx => Or.inr (by have := Own.lt ho45 x hx; omega))
  have hz53 := Mod.size v50
  rw [show (straightL.length + slantL.length : Nat) = (straightL ++ slantL).length from (by first | rfl | simp)]
  have ho54 : Own w48 b31 123 2 ao46 (straightL ++ slantL).length cap47 (pairs (straightL ++ slantL)) := Own.cast ho49 (by first | rfl | simp) (by first | rfl | rw [pairs_append])
  refine zs 2 [(2, .slice ao46 ((straightL ++ slantL).length) cap47), (3, .bool true)] ?_
  refine zz ?_
  refine w_ret ?_
  refine r_block ?_
  refine r_then ?_
  exact ret2 Tryz.results81 rfl rfl (by have hl : (straightL ++ slantL) = wayL k := (by rw [eq_of_beq hc28]; rfl); have hfr : true = farB k := (by rw [eq_of_beq hc28]; rfl); exact ⟨ao46, cap47, ret_lb (by rw [hl]) hfr, v52, Own.cast (Own.base ho54 (by omega)) (by rw [hl]) (by rw [hl])⟩)
 have y28 := ne_of_beq_false hc28
 refine zw ?_
 refine zs 2 [iz 4 k, (15, .bool (k == 3))] ?_
 refine zz ?_
 refine zc (fun hc55 => ?_) fun hc55 => ?_
 ·have y55 := eq_of_beq hc55
  refine zw ?_
  refine reg_call 104 [] (some 17) (by kernel_rfl) (c104) ?_
  rintro _ w56 ⟨b58, rfl, v57, u59, hb60⟩; refine ⟨_, rfl, ?_⟩
  have v61 := zt v0 v57
  have hz62 := Mod.size v57
  refine zs 2 [(2, .slice (some ⟨b58, 0, none⟩) straightL.length straightL.length), (3, .bool true)] ?_
  refine zz ?_
  refine w_ret ?_
  refine r_block ?_
  refine r_then ?_
  exact ret2 Tryz.results81 rfl rfl (by have hl : straightL = wayL k := (by rw [eq_of_beq hc55]; rfl); have hfr : true = farB k := (by rw [eq_of_beq hc55]; rfl); exact ⟨(some ⟨b58, 0, none⟩), straightL.length, ret_lb (by rw [hl]) hfr, v61, Own.cast (Own.base (own_of_at (by exact u59) (Nat.le_refl _) (pairs_len _) (by decide)) (by omega)) (by rw [hl]) (by rw [hl])⟩)
 have y55 := ne_of_beq_false hc55
 refine zw ?_
 refine zs 2 [(18, .bool (k == 4))] ?_
 refine zz ?_
 refine zc (fun hc63 => ?_) fun hc63 => ?_
 ·have y63 := eq_of_beq hc63
  refine zw ?_
  refine reg_call 105 [] (some 20) (by kernel_rfl) (c105) ?_
  rintro _ w64 ⟨b66, rfl, v65, u67, hb68⟩; refine ⟨_, rfl, ?_⟩
  have v69 := zt v0 v65
  have hz70 := Mod.size v65
  refine zs 2 [(2, .slice (some ⟨b66, 0, none⟩) slantL.length slantL.length), (3, .bool true)] ?_
  refine zz ?_
  refine w_ret ?_
  refine r_block ?_
  refine r_then ?_
  exact ret2 Tryz.results81 rfl rfl (by have hl : slantL = wayL k := (by rw [eq_of_beq hc63]; rfl); have hfr : true = farB k := (by rw [eq_of_beq hc63]; rfl); exact ⟨(some ⟨b66, 0, none⟩), slantL.length, ret_lb (by rw [hl]) hfr, v69, Own.cast (Own.base (own_of_at (by exact u67) (Nat.le_refl _) (pairs_len _) (by decide)) (by omega)) (by rw [hl]) (by rw [hl])⟩)
 have y63 := ne_of_beq_false hc63
 refine w_skip ?_
 refine n_block ?_
 refine zn ?_
 refine reg_call 106 [] (some 21) (by kernel_rfl) (c106) ?_
 rintro _ w71 ⟨b73, rfl, v72, u74, hb75⟩; refine ⟨_, rfl, ?_⟩
 have v76 := zt v0 v72
 have hz77 := Mod.size v72
 refine zs 2 [(2, .slice (some ⟨b73, 0, none⟩) jumpL.length jumpL.length), (3, .bool false)] ?_
 refine zz ?_
 refine w_ret ?_
 exact ret2 Tryz.results81 rfl rfl (by have hl : jumpL = wayL k := (by unfold wayL; rw [if_neg (by omega), if_neg (by omega), if_neg (by omega)]); have hfr : false = farB k := (by unfold farB; rw [eq_comm, decide_eq_false_iff_not]; omega); exact ⟨(some ⟨b73, 0, none⟩), jumpL.length, ret_lb (by rw [hl]) hfr, v76, Own.cast (Own.base (own_of_at (by exact u74) (Nat.le_refl _) (pairs_len _) (by decide)) (by omega)) (by rw [hl]) (by rw [hl])⟩)
def raySq (s : Int) (d : Int × Int) (n : Int) : Int := atS ((s % 8) + (n * d.1)) ((s / 8) + (n * d.2))
def rayF (bd : Nat → Int) (s : Int) (far : Bool) (d : Int × Int) : Nat → Int → List Int
 | 0, _ => []
 | m + 1, n => if raySq s d n < 0 then [] else raySq s d n :: (if ((!far) || (bd (raySq s d n).toNat != (0 : Int))) = true then [] else rayF bd s far d m (n + 1))
theorem rayF_len (bd : Nat → Int) (s : Int) (far : Bool) (d : Int × Int) : ∀ (m : Nat) (n : Int), (rayF bd s far d m n).length ≤ m
 | 0, _ => by simp [rayF]
 | m + 1, n => by
  unfold rayF; split
  ·simp
  ·split
   ·simp
   ·have := rayF_len bd s far d m (n + 1); simp; omega
def reachTo (bd : Nat → Int) (s k : Int) (i : Nat) : List Int := ((wayL k).take i).flatMap fun d => rayF bd s (farB k) d 7 1
def reachL (bd : Nat → Int) (s : Int) : List Int := reachTo bd s (kindOf (bd s.toNat)) 8
theorem reachTo_len (bd : Nat → Int) (s k : Int) : ∀ i : Nat, (reachTo bd s k i).length ≤ 7 * i := by
 intro i
 unfold reachTo
 have h1 : ∀ l : List (Int × Int), (l.flatMap fun d => rayF bd s (farB k) d 7 1).length ≤ 7 * l.length := by
  intro l
  induction l with
  | nil => simp
  | cons x r ih => have := rayF_len bd s (farB k) x 7 1; simp only [List.flatMap_cons, List.length_append, List.length_cons]; omega
 have h2 := h1 ((wayL k).take i)
 rw [List.length_take] at h2
 omega
def wayAt (k i : Int) : Int × Int := (wayL k).getD i.toNat (0, 0)
theorem wayAt_rng {k i : Int} (h0 : 0 ≤ i) (h : i < ((wayL k).length : Int)) : (-2 ≤ (wayAt k i).1 ∧ (wayAt k i).1 ≤ 2) ∧ (-2 ≤ (wayAt k i).2 ∧ (wayAt k i).2 ≤ 2) := by
 have hm : wayAt k i ∈ wayL k := by
  unfold wayAt; rw [List.getD_eq_getElem?_getD, List.getElem?_eq_getElem (by omega)]; exact List.getElem_mem _
 have hall : ∀ l ∈ [straightL ++ slantL, straightL, slantL, jumpL], ∀ d ∈ l, (-2 ≤ d.1 ∧ d.1 ≤ 2) ∧ (-2 ≤ d.2 ∧ d.2 ≤ 2) := by decide
 refine hall (wayL k) ?_ _ hm
 unfold wayL; split
 ·simp
 split
 ·simp
 split <;> simp
theorem mul_rng {n d : Int} (hn : 0 ≤ n ∧ n ≤ 8) (hd : -2 ≤ d ∧ d ≤ 2) : -16 ≤ n * d ∧ n * d ≤ 16 := by
 rcases (by omega : d = -2 ∨ d = -1 ∨ d = 0 ∨ d = 1 ∨ d = 2) with rfl | rfl | rfl | rfl | rfl <;> omega
theorem atS_rng (f r : Int) : -1 ≤ atS f r ∧ atS f r ≤ 63 := by unfold atS; split <;> omega
theorem reachTo_succ {bd : Nat → Int} {s k i : Int} (h0 : 0 ≤ i) (h : i < ((wayL k).length : Int)) : reachTo bd s k (i + 1).toNat = reachTo bd s k i.toNat ++ rayF bd s (farB k) (wayAt k i) 7 1 := by
 unfold reachTo wayAt
 rw [show (i + 1).toNat = i.toNat + 1 by omega, List.take_succ_eq_append_getElem (by omega), List.flatMap_append, List.getD_eq_getElem?_getD, List.getElem?_eq_getElem (by omega)]
 simp
theorem reachTo_all {bd : Nat → Int} {s k i : Int} (h0 : 0 ≤ i) (h : ¬ i < ((wayL k).length : Int)) : reachTo bd s k i.toNat = reachTo bd s k 8 := by
 unfold reachTo
 rw [List.take_of_length_le (by omega), List.take_of_length_le (wayL_len k)]
def RayI (base : List Int) (bd : Nat → Int) (s : Int) (far : Bool) (d : Int × Int) (q : GI) : Prop := q.l ++ rayF bd s far d (8 - q.i).toNat q.i = base ++ rayF bd s far d 7 1
theorem RayI.len {base : List Int} {bd : Nat → Int} {s : Int} {far : Bool} {d : Int × Int} {q : GI} (h : RayI base bd s far d q) : q.l.length ≤ base.length + 7 := by
 have h1 := congrArg List.length h
 have := rayF_len bd s far d 7 1
 simp only [List.length_append] at h1; omega
theorem ray_unfold {bd : Nat → Int} {s : Int} {far : Bool} {d : Int × Int} {n : Int} (h : 1 ≤ n ∧ n < 8) : rayF bd s far d (8 - n).toNat n = if raySq s d n < 0 then [] else raySq s d n :: (if ((!far) || (bd (raySq s d n).toNat != (0 : Int))) = true then [] else rayF bd s far d (8 - (n + 1)).toNat (n + 1)) := by
 rw [show (8 - n).toNat = (8 - (n + 1)).toNat + 1 by omega]; rfl
theorem RayI.done {base : List Int} {bd : Nat → Int} {s : Int} {far : Bool} {d : Int × Int} {q : GI} (h : RayI base bd s far d q) (h1 : q.i = 8) : q.l = base ++ rayF bd s far d 7 1 := by
 unfold RayI at h; rw [h1] at h; simpa [rayF] using h
theorem RayI.off {base : List Int} {bd : Nat → Int} {s : Int} {far : Bool} {d : Int × Int} {q : GI} (h : RayI base bd s far d q) (h1 : 1 ≤ q.i ∧ q.i < 8) (ho : raySq s d q.i < 0) : q.l = base ++ rayF bd s far d 7 1 := by
 unfold RayI at h; rw [ray_unfold h1, if_pos ho, List.append_nil] at h; exact h
theorem RayI.stop {base : List Int} {bd : Nat → Int} {s : Int} {far : Bool} {d : Int × Int} {q : GI} (h : RayI base bd s far d q) (h1 : 1 ≤ q.i ∧ q.i < 8) (ho : ¬ raySq s d q.i < 0) (hs : ((!far) || (bd (raySq s d q.i).toNat != (0 : Int))) = true) : q.l ++ [raySq s d q.i] = base ++ rayF bd s far d 7 1 := by
 unfold RayI at h; rw [ray_unfold h1, if_neg ho, if_pos hs] at h; exact h
theorem RayI.step {base : List Int} {bd : Nat → Int} {s : Int} {far : Bool} {d : Int × Int} {q : GI} {ao : Option Addr} {cap : Nat} (h : RayI base bd s far d q) (h1 : 1 ≤ q.i ∧ q.i < 8) (ho : ¬ raySq s d q.i < 0) (hs : ((!far) || (bd (raySq s d q.i).toNat != (0 : Int))) = false) :
  RayI base bd s far d ⟨q.i + 1, q.l ++ [raySq s d q.i], ao, cap⟩ := by
 unfold RayI at *
 rw [ray_unfold h1, if_neg ho, if_neg (by rw [hs]; decide)] at h
 dsimp only
 rw [← h, List.append_assoc]; rfl
def ReachI (bd : Nat → Int) (s k : Int) (q : GI) : Prop := q.l = reachTo bd s k q.i.toNat
theorem ReachI.len {bd : Nat → Int} {s k : Int} {q : GI} (h : ReachI bd s k q) (h1 : q.i ≤ 8) : q.l.length ≤ 56 := by
 unfold ReachI at h; rw [h]; have := reachTo_len bd s k q.i.toNat; omega
theorem c47 {w : World} (P : SP) (hB : SPb P) (s : Int) (hs : 0 ≤ s ∧ s ≤ 63) :
  Calls Tryz.prog 47 [.agg (spCells P), .int .i64 s].toArray w (fun e w' => ∃ ao cap, e = .returned (.slice ao (reachL P.bd s).length cap) ∧ Mod [] w w' ∧ Own w' w.heap.size 3 1 ao (reachL P.bd s).length cap (ints (reachL P.bd s))) := by
 have v0 : Mod [] w w := Mod.refl _ _
 have hB1 := hB s.toNat (by omega)
 refine enter (n := 67) Tryz.func47 rfl Tryz.ntmps47 rfl ?_
 refine zw ?_
 refine reg_alloc (spCells P) 24 (some 2) (by kernel_rfl) ?_
 intro b1 w2 hn3
 have hb4 := Nat.le_trans v0.size hn3.base
 have v5 := hn3.mod
 have v6 := zt v0 v5
 have hz7 := Mod.size v5
 have u8 := hn3.at_
 refine zs 1 [iz 1 s, rz 2 b1] ?_
 refine zx ?_
 refine zo 4 [iz 1 s, rz 2 b1, iz 15 (P.bd (0 + s.toNat * 1))] [.prop (0 ≤ s ∧ s < ((64 : Nat) : Int)), .cell ⟨b1, (0 + s.toNat * 1), none⟩ (.int .i64 (P.bd (0 + s.toNat * 1)))] (⟨(zh (by omega)), At.cell u8 (spCells_bd P (by omega))⟩) ?_
 rw [(show ((0 + s.toNat * 1) : Nat) = s.toNat from (by omega))]
 refine zk (some 16) (c38 (P.bd s.toNat) w2 (by first | omega | exact ⟨(hB _ (by omega)).1, (hB _ (by omega)).2⟩)) ?_
 intro w9 v10
 have u11 := At.on u8 v10
 have v12 := zt v6 v10
 have hz13 := Mod.size v10
 refine reg_call 81 [.int .i64 (kindOf (P.bd s.toNat))] (some 17) (by kernel_rfl) (c81 (kindOf (P.bd s.toNat))) ?_
 rintro _ w14 ⟨ao16, cap17, rfl, v15, ho18⟩; refine ⟨_, rfl, ?_⟩
 have u19 := At.on u11 v15
 have v20 := zt v12 v15
 have hz21 := Mod.size v15
 refine zs 5 [iz 1 s, rz 2 b1, (5, .slice ao16 ((wayL (kindOf (P.bd s.toNat))).length) cap17), (6, .bool (farB (kindOf (P.bd s.toNat))))] ?_
 refine zx ?_
 refine zs 1 [iz 1 s, rz 2 b1, (5, .slice ao16 ((wayL (kindOf (P.bd s.toNat))).length) cap17), (6, .bool (farB (kindOf (P.bd s.toNat)))), (7, .slice none 0 0)] ?_
 refine zz ?_
 refine w_seq ?_
 refine zw ?_
 refine zs 1 [iz 1 s, rz 2 b1, (5, .slice ao16 ((wayL (kindOf (P.bd s.toNat))).length) cap17), (6, .bool (farB (kindOf (P.bd s.toNat)))), (7, .slice none 0 0), iz 8 0] ?_
 refine zz ?_
 refine w_block ?_
 refine w_loop (γ := GI) (fun g22 => (((wayL (kindOf (P.bd s.toNat))).length : Int) - g22.i).toNat) (fun (g22 : GI) => [(1, .int .i64 s), (2, pz b1), (5, .slice ao16 ((wayL (kindOf (P.bd s.toNat))).length) cap17), (6, .bool (farB (kindOf (P.bd s.toNat)))), (7, .slice g22.ao g22.l.length g22.cap), (8, .int .i64 g22.i)]) (fun (g22 : GI) w_ => (0 ≤ g22.i ∧ g22.i ≤ ((wayL (kindOf (P.bd s.toNat))).length : Int)) ∧ Mod [] w14 w_ ∧ (∀ x ∈ blk g22.ao, x ∈ ([] : List Nat) ∨ w14.heap.size ≤ x) ∧ Own w_ w14.heap.size 3 1 g22.ao g22.l.length g22.cap (ints g22.l) ∧ (ReachI P.bd s (kindOf (P.bd s.toNat)) g22)) ⟨0, [], none, 0⟩ (hold_keep [1, 2, 5, 6, 7, 8] (by kernel_rfl)) ⟨(by constructor <;> (try dsimp only) <;> omega), Mod.refl _ _, (fun x hx => (blk_none x hx).elim), (Own.nil _ _ _ _), rfl⟩ ?_
 rintro g22 w23 ⟨⟨h28, h29⟩, v24, hw25, ho26, hx27⟩
 have u30 := At.on u19 v24
 have ho31 := Own.on ho18 v24
 have v32 := zt v20 v24
 have hz33 := Mod.size v24
 have hwl := wayL_len (kindOf (P.bd s.toNat))
 refine w_seq ?_
 refine zw ?_
 refine zs 4 [iz 1 s, rz 2 b1, (5, .slice ao16 ((wayL (kindOf (P.bd s.toNat))).length) cap17), (6, .bool (farB (kindOf (P.bd s.toNat)))), (7, .slice g22.ao g22.l.length g22.cap), iz 8 g22.i, (23, .bool (decide (g22.i < (((wayL (kindOf (P.bd s.toNat))).length : Nat) : Int))))] ?_
 refine zz ?_
 refine zc (fun hc34 => ?_) fun hc34 => ?_
 ·have y34 := of_decide_eq_true hc34
  obtain ⟨g35, cur36, rfl, hb37, u38, ht39, hn40, hs41⟩ := Own.some ho31 (by omega)
  have hwr := wayAt_rng (k := (kindOf (P.bd s.toNat))) (i := g22.i) (by omega) (by omega)
  unfold wayAt at hwr
  refine w_skip ?_
  refine n_then ?_
  refine w_seq ?_
  refine w_block ?_
  refine zw ?_
  refine zs 1 [iz 1 s, rz 2 b1, (5, .slice (some ⟨g35, 0, none⟩) ((wayL (kindOf (P.bd s.toNat))).length) cap17), (6, .bool (farB (kindOf (P.bd s.toNat)))), (7, .slice g22.ao g22.l.length g22.cap), iz 8 g22.i, iz 9 1] ?_
  refine zz ?_
  refine w_block ?_
  refine w_loop (γ := GI) (fun g42 => (8 - g42.i).toNat) (fun (g42 : GI) => [(1, .int .i64 s), (2, pz b1), (5, .slice (some ⟨g35, 0, none⟩) ((wayL (kindOf (P.bd s.toNat))).length) cap17), (6, .bool (farB (kindOf (P.bd s.toNat)))), (7, .slice g42.ao g42.l.length g42.cap), (8, .int .i64 g22.i), (9, .int .i64 g42.i)]) (fun (g42 : GI) w_ => (1 ≤ g42.i ∧ g42.i ≤ 8) ∧ Mod (blk g22.ao) w23 w_ ∧ (∀ x ∈ blk g42.ao, x ∈ ((blk g22.ao) : List Nat) ∨ w23.heap.size ≤ x) ∧ Own w_ w14.heap.size 3 1 g42.ao g42.l.length g42.cap (ints g42.l) ∧ (RayI g22.l P.bd s (farB (kindOf (P.bd s.toNat))) (wayAt (kindOf (P.bd s.toNat)) g22.i) g42)) ⟨1, g22.l, g22.ao, g22.cap⟩ (hold_keep [1, 2, 5, 6, 7, 8, 9] (by kernel_rfl)) ⟨(by constructor <;> (try dsimp only) <;> omega), Mod.refl _ _, (fun x hx => Or.inl hx), ho26, rfl⟩ ?_
  rintro g42 w43 ⟨⟨h48, h49⟩, v44, hw45, ho46, hx47⟩
  have u50 := At.keep u30 v44 (own_off ho26 u30 rfl)
  have ho51 := Own.keep ho31 v44 (own_type ho31 ho26 rfl)
  have v52 := Mod.fresh' v32 v44 (fun x hx => Or.inr (by have := Own.lt ho26 x hx; omega))
  have v53 := Mod.fresh' v24 v44 hw25
  have hz54 := Mod.size v44
  have hw55 : ∀ x ∈ blk g42.ao, x ∈ ([] : List Nat) ∨ w14.heap.size ≤ x := fun x hx => (hw45 x hx).elim (hw25 x) (fun h => Or.inr (Nat.le_trans (Mod.size v24) h))
  have hmr1 := mul_rng (n := g42.i) (by omega) hwr.1
  have hmr2 := mul_rng (n := g42.i) (by omega) hwr.2
  refine w_seq ?_
  refine zw ?_
  refine zs 2 [iz 1 s, rz 2 b1, (5, .slice (some ⟨g35, 0, none⟩) ((wayL (kindOf (P.bd s.toNat))).length) cap17), (6, .bool (farB (kindOf (P.bd s.toNat)))), (7, .slice g42.ao g42.l.length g42.cap), iz 8 g22.i, iz 9 g42.i, (27, .bool (decide (g42.i < 8)))] ?_
  refine zz ?_
  refine zc (fun hc56 => ?_) fun hc56 => ?_
  ·have y56 := of_decide_eq_true hc56
   refine w_skip ?_
   refine n_then ?_
   refine w_seq ?_
   refine w_block ?_
   refine w_seq ?_
   refine w_quiet (by kernel_rfl) (by kernel_rfl) ?_
   refine zq 1 [iz 1 s, rz 2 b1, (5, .slice (some ⟨g35, 0, none⟩) ((wayL (kindOf (P.bd s.toNat))).length) cap17), (6, .bool (farB (kindOf (P.bd s.toNat)))), (7, .slice g42.ao g42.l.length g42.cap), iz 8 g22.i, iz 9 g42.i, iz 30 s] ?_
   refine zqk (some 31) (fun w_ hC => c77 s w_ (by omega)) ?_
   refine zqo 7 [iz 1 s, rz 2 b1, (5, .slice (some ⟨g35, 0, none⟩) ((wayL (kindOf (P.bd s.toNat))).length) cap17), (6, .bool (farB (kindOf (P.bd s.toNat)))), (7, .slice g42.ao g42.l.length g42.cap), iz 8 g22.i, iz 9 g42.i, iz 31 (s % 8), iz 38 (IntKind.i64.wrap (g42.i * (((wayL (kindOf (P.bd s.toNat))).getD g22.i.toNat (0, 0)).1)))] [.prop (0 ≤ g22.i ∧ g22.i < (((wayL (kindOf (P.bd s.toNat))).length : Nat) : Int)), .prop (0 ≤ (0 : Int) ∧ 0 < ((2 : Nat) : Int)), .cell ⟨g35, (0 + g22.i.toNat * 2), none⟩ (.int .i64 (((wayL (kindOf (P.bd s.toNat))).getD g22.i.toNat (0, 0)).1))] (fun _ hC => ⟨(zh (by omega)), (zh (by omega)), Own.cell (Own.on ho51 hC) (pairs_at (l := (wayL (kindOf (P.bd s.toNat)))) (i := g22.i) (by omega) (by omega)).1⟩) ?_
   rw [zi (g42.i * (((wayL (kindOf (P.bd s.toNat))).getD g22.i.toNat (0, 0)).1)) (by omega) (by omega)]
   refine zq 1 [iz 1 s, rz 2 b1, (5, .slice (some ⟨g35, 0, none⟩) ((wayL (kindOf (P.bd s.toNat))).length) cap17), (6, .bool (farB (kindOf (P.bd s.toNat)))), (7, .slice g42.ao g42.l.length g42.cap), iz 8 g22.i, iz 9 g42.i, iz 39 (IntKind.i64.wrap ((s % 8) + (g42.i * (((wayL (kindOf (P.bd s.toNat))).getD g22.i.toNat (0, 0)).1))))] ?_
   rw [zi ((s % 8) + (g42.i * (((wayL (kindOf (P.bd s.toNat))).getD g22.i.toNat (0, 0)).1))) (by omega) (by omega)]
   refine zq 1 [iz 1 s, rz 2 b1, (5, .slice (some ⟨g35, 0, none⟩) ((wayL (kindOf (P.bd s.toNat))).length) cap17), (6, .bool (farB (kindOf (P.bd s.toNat)))), (7, .slice g42.ao g42.l.length g42.cap), iz 8 g22.i, iz 9 g42.i, iz 39 ((s % 8) + (g42.i * (((wayL (kindOf (P.bd s.toNat))).getD g22.i.toNat (0, 0)).1))), iz 40 s] ?_
   refine zqk (some 41) (fun w_ hC => c40 s w_ (by omega)) ?_
   refine zqo 7 [iz 1 s, rz 2 b1, (5, .slice (some ⟨g35, 0, none⟩) ((wayL (kindOf (P.bd s.toNat))).length) cap17), (6, .bool (farB (kindOf (P.bd s.toNat)))), (7, .slice g42.ao g42.l.length g42.cap), iz 8 g22.i, iz 9 g42.i, iz 39 ((s % 8) + (g42.i * (((wayL (kindOf (P.bd s.toNat))).getD g22.i.toNat (0, 0)).1))), iz 41 (s / 8), iz 48 (IntKind.i64.wrap (g42.i * (((wayL (kindOf (P.bd s.toNat))).getD g22.i.toNat (0, 0)).2)))] [.prop (0 ≤ g22.i ∧ g22.i < (((wayL (kindOf (P.bd s.toNat))).length : Nat) : Int)), .prop (0 ≤ (1 : Int) ∧ 1 < ((2 : Nat) : Int)), .cell ⟨g35, ((0 + g22.i.toNat * 2) + 1), none⟩ (.int .i64 (((wayL (kindOf (P.bd s.toNat))).getD g22.i.toNat (0, 0)).2))] (fun _ hC => ⟨(zh (by omega)), (zh (by omega)), Own.cell (Own.on ho51 hC) (pairs_at (l := (wayL (kindOf (P.bd s.toNat)))) (i := g22.i) (by omega) (by omega)).2⟩) ?_
   rw [zi (g42.i * (((wayL (kindOf (P.bd s.toNat))).getD g22.i.toNat (0, 0)).2)) (by omega) (by omega)]
   refine zq 1 [iz 1 s, rz 2 b1, (5, .slice (some ⟨g35, 0, none⟩) ((wayL (kindOf (P.bd s.toNat))).length) cap17), (6, .bool (farB (kindOf (P.bd s.toNat)))), (7, .slice g42.ao g42.l.length g42.cap), iz 8 g22.i, iz 9 g42.i, iz 39 ((s % 8) + (g42.i * (((wayL (kindOf (P.bd s.toNat))).getD g22.i.toNat (0, 0)).1))), iz 49 (IntKind.i64.wrap ((s / 8) + (g42.i * (((wayL (kindOf (P.bd s.toNat))).getD g22.i.toNat (0, 0)).2))))] ?_
   rw [zi ((s / 8) + (g42.i * (((wayL (kindOf (P.bd s.toNat))).getD g22.i.toNat (0, 0)).2))) (by omega) (by omega)]
   refine zqk (some 50) (fun w_ hC => c39g ((s % 8) + (g42.i * (((wayL (kindOf (P.bd s.toNat))).getD g22.i.toNat (0, 0)).1))) ((s / 8) + (g42.i * (((wayL (kindOf (P.bd s.toNat))).getD g22.i.toNat (0, 0)).2))) w_ (by omega) (by omega)) ?_
   refine zq 1 [iz 1 s, rz 2 b1, (5, .slice (some ⟨g35, 0, none⟩) ((wayL (kindOf (P.bd s.toNat))).length) cap17), (6, .bool (farB (kindOf (P.bd s.toNat)))), (7, .slice g42.ao g42.l.length g42.cap), iz 8 g22.i, iz 9 g42.i, iz 10 (atS ((s % 8) + (g42.i * (((wayL (kindOf (P.bd s.toNat))).getD g22.i.toNat (0, 0)).1))) ((s / 8) + (g42.i * (((wayL (kindOf (P.bd s.toNat))).getD g22.i.toNat (0, 0)).2))))] ?_
   refine q_out (by kernel_rfl) ?_
   intro w57 v58
   have u59 := At.on u50 v58
   have ho61 := Own.on ho46 v58
   have v62 := zt v52 v58
   have v63 := zt v53 v58
   have v64 := Mod.trans v44 (Mod.of_nil v58)
   have hz65 := Mod.size v58
   rw [show (atS ((s % 8) + (g42.i * (((wayL (kindOf (P.bd s.toNat))).getD g22.i.toNat (0, 0)).1))) ((s / 8) + (g42.i * (((wayL (kindOf (P.bd s.toNat))).getD g22.i.toNat (0, 0)).2)))) = (raySq s (wayAt (kindOf (P.bd s.toNat)) g22.i) g42.i) from rfl]
   have hrs : -1 ≤ (raySq s (wayAt (kindOf (P.bd s.toNat)) g22.i) g42.i) ∧ (raySq s (wayAt (kindOf (P.bd s.toNat)) g22.i) g42.i) ≤ 63 := atS_rng _ _
   refine n_then ?_
   refine w_seq ?_
   refine zw ?_
   refine zs 2 [iz 1 s, rz 2 b1, (5, .slice (some ⟨g35, 0, none⟩) ((wayL (kindOf (P.bd s.toNat))).length) cap17), (6, .bool (farB (kindOf (P.bd s.toNat)))), (7, .slice g42.ao g42.l.length g42.cap), iz 8 g22.i, iz 9 g42.i, iz 10 (raySq s (wayAt (kindOf (P.bd s.toNat)) g22.i) g42.i), (52, .bool (decide ((raySq s (wayAt (kindOf (P.bd s.toNat)) g22.i) g42.i) < 0)))] ?_
   refine zz ?_
   refine zc (fun hc66 => ?_) fun hc66 => ?_
   ·have y66 := of_decide_eq_true hc66
    have hfin := hx47.off (by omega) y66
    refine w_exit ?_
    refine x_then ?_
    refine x_miss rfl ?_
    refine x_then ?_
    refine x_then ?_
    refine x_hit ?_
    refine n_block ?_
    refine n_then ?_
    refine w_region ?_
    refine zs 2 [iz 1 s, rz 2 b1, (5, .slice (some ⟨g35, 0, none⟩) ((wayL (kindOf (P.bd s.toNat))).length) cap17), (6, .bool (farB (kindOf (P.bd s.toNat)))), (7, .slice g42.ao g42.l.length g42.cap), iz 25 (IntKind.i64.wrap (g22.i + 1))] ?_
    rw [zi (g22.i + (1 : Int)) (by omega) (by omega)]
    refine zs 1 [iz 1 s, rz 2 b1, (5, .slice (some ⟨g35, 0, none⟩) ((wayL (kindOf (P.bd s.toNat))).length) cap17), (6, .bool (farB (kindOf (P.bd s.toNat)))), (7, .slice g42.ao g42.l.length g42.cap), iz 8 (g22.i + 1)] ?_
    refine ze ?_
    exact l_back (⟨g22.i + 1, g42.l, g42.ao, g42.cap⟩ : GI) [1, 2, 5, 6, 7, 8] (by kernel_rfl) (by dsimp only; omega) ⟨(by constructor <;> (try dsimp only) <;> omega), v63, hw55, ho61, (by unfold ReachI; dsimp only; rw [reachTo_succ (by omega) (by omega), ← show g22.l = _ from hx27]; exact hfin)⟩
   have y66 := of_decide_eq_false hc66
   refine w_skip ?_
   refine zn ?_
   refine zs 2 [iz 1 s, rz 2 b1, (5, .slice (some ⟨g35, 0, none⟩) ((wayL (kindOf (P.bd s.toNat))).length) cap17), (6, .bool (farB (kindOf (P.bd s.toNat)))), iz 8 g22.i, iz 9 g42.i, iz 10 (raySq s (wayAt (kindOf (P.bd s.toNat)) g22.i) g42.i), (53, .slice g42.ao g42.l.length g42.cap), iz 54 (raySq s (wayAt (kindOf (P.bd s.toNat)) g22.i) g42.i)] ?_
   refine reg_bslice (#[.int .i64 (raySq s (wayAt (kindOf (P.bd s.toNat)) g22.i) g42.i)]) 3 1 (some 55) (by kernel_rfl) ?_
   intro b67 w68 hn69
   have hb70 := Nat.le_trans v62.size hn69.base
   have hb71 := Nat.le_trans v63.size hn69.base
   have hb72 := Nat.le_trans v64.size hn69.base
   have v73 := hn69.mod
   have u74 := At.on u59 v73
   have ho76 := Own.on ho61 v73
   have v78 := zt v63 v73
   have v79 := Mod.trans v64 (Mod.of_nil v73)
   have hz80 := Mod.size v73
   have u81 := hn69.at_
   refine reg_append2 g42.ao g42.l.length g42.cap ⟨b67, 0, none⟩ 1 1 3 (some 56) 1 8 (b0 := w14.heap.size) (xs := ints g42.l) (news := ints ([(raySq s (wayAt (kindOf (P.bd s.toNat)) g22.i) g42.i)])) (by kernel_rfl) ho76 (by decide) (ints_len _) (at_cells (l := ints ([(raySq s (wayAt (kindOf (P.bd s.toNat)) g22.i) g42.i)])) (by exact u81)) (ints_one _) (by have h1 := hx47.len; have h2 := hx27.len (by omega); omega) (by omega) ?_
   intro ao82 cap83 w84 ho85 v86 hd87
   have u88 := At.keep u74 v86 (own_off ho76 u74 rfl)
   have v91 := Mod.fresh' v78 v86 hw55
   have v92 := Mod.fresh' v79 v86 hw45
   have hz93 := Mod.size v86
   rw [show (g42.l.length + 1 : Nat) = (g42.l ++ [(raySq s (wayAt (kindOf (P.bd s.toNat)) g22.i) g42.i)]).length from (by first | rfl | simp)]
   have ho94 : Own w84 w14.heap.size 3 1 ao82 (g42.l ++ [(raySq s (wayAt (kindOf (P.bd s.toNat)) g22.i) g42.i)]).length cap83 (ints (g42.l ++ [(raySq s (wayAt (kindOf (P.bd s.toNat)) g22.i) g42.i)])) := Own.cast ho85 (by first | rfl | simp) (by first | rfl | rw [ints_append])
   have hw95 := acc_where hw45 v79 hd87
   have hw96 := acc_where hw55 v78 hd87
   refine zs 1 [iz 1 s, rz 2 b1, (5, .slice (some ⟨g35, 0, none⟩) ((wayL (kindOf (P.bd s.toNat))).length) cap17), (6, .bool (farB (kindOf (P.bd s.toNat)))), (7, .slice ao82 ((g42.l ++ [(raySq s (wayAt (kindOf (P.bd s.toNat)) g22.i) g42.i)]).length) cap83), iz 8 g22.i, iz 9 g42.i, iz 10 (raySq s (wayAt (kindOf (P.bd s.toNat)) g22.i) g42.i)] ?_
   refine zz ?_
   refine w_cut (γ := Unit) (fun _ => [(1, .int .i64 s), (2, pz b1), (5, .slice (some ⟨g35, 0, none⟩) ((wayL (kindOf (P.bd s.toNat))).length) cap17), (6, .bool (farB (kindOf (P.bd s.toNat)))), (7, .slice ao82 ((g42.l ++ [(raySq s (wayAt (kindOf (P.bd s.toNat)) g22.i) g42.i)]).length) cap83), (8, .int .i64 g22.i), (9, .int .i64 g42.i), (65, .bool ((!(farB (kindOf (P.bd s.toNat)))) || ((P.bd ((raySq s (wayAt (kindOf (P.bd s.toNat)) g22.i) g42.i).toNat)) != 0)))]) (fun _ w_ => Mod [] w84 w_) ?_ ?_
   ·have v99 : Mod [] w84 w84 := Mod.refl _ _
    refine w_region ?_
    refine zs 3 [iz 1 s, rz 2 b1, (5, .slice (some ⟨g35, 0, none⟩) ((wayL (kindOf (P.bd s.toNat))).length) cap17), (6, .bool (farB (kindOf (P.bd s.toNat)))), (7, .slice ao82 ((g42.l ++ [(raySq s (wayAt (kindOf (P.bd s.toNat)) g22.i) g42.i)]).length) cap83), iz 8 g22.i, iz 9 g42.i, iz 10 (raySq s (wayAt (kindOf (P.bd s.toNat)) g22.i) g42.i), (59, .bool (!(farB (kindOf (P.bd s.toNat)))))] ?_
    cases hc100 : (!(farB (kindOf (P.bd s.toNat))))
    ·have y100 := hc100; try simp only [zbq] at y100
     refine zo 4 [iz 1 s, rz 2 b1, (5, .slice (some ⟨g35, 0, none⟩) ((wayL (kindOf (P.bd s.toNat))).length) cap17), (6, .bool (farB (kindOf (P.bd s.toNat)))), (7, .slice ao82 ((g42.l ++ [(raySq s (wayAt (kindOf (P.bd s.toNat)) g22.i) g42.i)]).length) cap83), iz 8 g22.i, iz 9 g42.i, (59, .bool false), iz 63 (P.bd (0 + (raySq s (wayAt (kindOf (P.bd s.toNat)) g22.i) g42.i).toNat * 1))] [.prop (0 ≤ (raySq s (wayAt (kindOf (P.bd s.toNat)) g22.i) g42.i) ∧ (raySq s (wayAt (kindOf (P.bd s.toNat)) g22.i) g42.i) < ((64 : Nat) : Int)), .cell ⟨b1, (0 + (raySq s (wayAt (kindOf (P.bd s.toNat)) g22.i) g42.i).toNat * 1), none⟩ (.int .i64 (P.bd (0 + (raySq s (wayAt (kindOf (P.bd s.toNat)) g22.i) g42.i).toNat * 1)))] (⟨(zh (by omega)), At.cell u88 (spCells_bd P (by omega))⟩) ?_
     rw [(show ((0 + (raySq s (wayAt (kindOf (P.bd s.toNat)) g22.i) g42.i).toNat * 1) : Nat) = ((raySq s (wayAt (kindOf (P.bd s.toNat)) g22.i) g42.i).toNat) from (by omega))]
     refine zs 2 [iz 1 s, rz 2 b1, (5, .slice (some ⟨g35, 0, none⟩) ((wayL (kindOf (P.bd s.toNat))).length) cap17), (6, .bool (farB (kindOf (P.bd s.toNat)))), (7, .slice ao82 ((g42.l ++ [(raySq s (wayAt (kindOf (P.bd s.toNat)) g22.i) g42.i)]).length) cap83), iz 8 g22.i, iz 9 g42.i, (65, .bool ((P.bd ((raySq s (wayAt (kindOf (P.bd s.toNat)) g22.i) g42.i).toNat)) != 0))] ?_
     refine ze ?_
     exact zb () v99
    have y100 := hc100; try simp only [zbq] at y100
    refine zs 6 [iz 1 s, rz 2 b1, (5, .slice (some ⟨g35, 0, none⟩) ((wayL (kindOf (P.bd s.toNat))).length) cap17), (6, .bool (farB (kindOf (P.bd s.toNat)))), (7, .slice ao82 ((g42.l ++ [(raySq s (wayAt (kindOf (P.bd s.toNat)) g22.i) g42.i)]).length) cap83), iz 8 g22.i, iz 9 g42.i, (65, .bool true)] ?_
    refine ze ?_
    exact zb () v99
   intro _ w97 v98
   have ho103 := Own.on ho94 v98
   have v105 := zt v91 v98
   have v106 := Mod.trans v92 (Mod.of_nil v98)
   have hz107 := Mod.size v98
   refine zc (fun hc108 => ?_) fun hc108 => ?_
   ·have y108 := hc108; try simp only [zbq] at y108
    have hfin := hx47.stop (by omega) y66 hc108
    refine w_exit ?_
    refine x_miss rfl ?_
    refine x_then ?_
    refine x_then ?_
    refine x_hit ?_
    refine n_block ?_
    refine n_then ?_
    refine w_region ?_
    refine zs 2 [iz 1 s, rz 2 b1, (5, .slice (some ⟨g35, 0, none⟩) ((wayL (kindOf (P.bd s.toNat))).length) cap17), (6, .bool (farB (kindOf (P.bd s.toNat)))), (7, .slice ao82 ((g42.l ++ [(raySq s (wayAt (kindOf (P.bd s.toNat)) g22.i) g42.i)]).length) cap83), iz 25 (IntKind.i64.wrap (g22.i + 1))] ?_
    rw [zi (g22.i + (1 : Int)) (by omega) (by omega)]
    refine zs 1 [iz 1 s, rz 2 b1, (5, .slice (some ⟨g35, 0, none⟩) ((wayL (kindOf (P.bd s.toNat))).length) cap17), (6, .bool (farB (kindOf (P.bd s.toNat)))), (7, .slice ao82 ((g42.l ++ [(raySq s (wayAt (kindOf (P.bd s.toNat)) g22.i) g42.i)]).length) cap83), iz 8 (g22.i + 1)] ?_
    refine ze ?_
    exact l_back (⟨g22.i + 1, (g42.l ++ [(raySq s (wayAt (kindOf (P.bd s.toNat)) g22.i) g42.i)]), ao82, cap83⟩ : GI) [1, 2, 5, 6, 7, 8] (by kernel_rfl) (by dsimp only; omega) ⟨(by constructor <;> (try dsimp only) <;> omega), v105, hw96, ho103, (by unfold ReachI; dsimp only; rw [reachTo_succ (by omega) (by omega), ← show g22.l = _ from hx27]; exact hfin)⟩
   have y108 := hc108; try simp only [zbq] at y108
   refine w_skip ?_
   refine n_block ?_
   refine n_then ?_
   refine w_region ?_
   refine zs 2 [iz 1 s, rz 2 b1, (5, .slice (some ⟨g35, 0, none⟩) ((wayL (kindOf (P.bd s.toNat))).length) cap17), (6, .bool (farB (kindOf (P.bd s.toNat)))), (7, .slice ao82 ((g42.l ++ [(raySq s (wayAt (kindOf (P.bd s.toNat)) g22.i) g42.i)]).length) cap83), iz 8 g22.i, iz 29 (IntKind.i64.wrap (g42.i + 1))] ?_
   rw [zi (g42.i + (1 : Int)) (by omega) (by omega)]
   refine zs 1 [iz 1 s, rz 2 b1, (5, .slice (some ⟨g35, 0, none⟩) ((wayL (kindOf (P.bd s.toNat))).length) cap17), (6, .bool (farB (kindOf (P.bd s.toNat)))), (7, .slice ao82 ((g42.l ++ [(raySq s (wayAt (kindOf (P.bd s.toNat)) g22.i) g42.i)]).length) cap83), iz 8 g22.i, iz 9 (g42.i + 1)] ?_
   refine ze ?_
   exact l_back (⟨g42.i + 1, (g42.l ++ [(raySq s (wayAt (kindOf (P.bd s.toNat)) g22.i) g42.i)]), ao82, cap83⟩ : GI) [1, 2, 5, 6, 7, 8, 9] (by kernel_rfl) (by dsimp only; omega) ⟨(by constructor <;> (try dsimp only) <;> omega), v106, hw95, ho103, (hx47.step (by omega) y66 hc108)⟩
  have y56 := of_decide_eq_false hc56
  have hfin := hx47.done (by omega)
  refine w_exit ?_
  refine x_then ?_
  refine x_then ?_
  refine x_hit ?_
  refine n_block ?_
  refine n_then ?_
  refine w_region ?_
  refine zs 2 [iz 1 s, rz 2 b1, (5, .slice (some ⟨g35, 0, none⟩) ((wayL (kindOf (P.bd s.toNat))).length) cap17), (6, .bool (farB (kindOf (P.bd s.toNat)))), (7, .slice g42.ao g42.l.length g42.cap), iz 25 (IntKind.i64.wrap (g22.i + 1))] ?_
  rw [zi (g22.i + (1 : Int)) (by omega) (by omega)]
  refine zs 1 [iz 1 s, rz 2 b1, (5, .slice (some ⟨g35, 0, none⟩) ((wayL (kindOf (P.bd s.toNat))).length) cap17), (6, .bool (farB (kindOf (P.bd s.toNat)))), (7, .slice g42.ao g42.l.length g42.cap), iz 8 (g22.i + 1)] ?_
  refine ze ?_
  exact l_back (⟨g22.i + 1, g42.l, g42.ao, g42.cap⟩ : GI) [1, 2, 5, 6, 7, 8] (by kernel_rfl) (by dsimp only; omega) ⟨(by constructor <;> (try dsimp only) <;> omega), v53, hw55, ho46, (by unfold ReachI; dsimp only; rw [reachTo_succ (by omega) (by omega), ← show g22.l = _ from hx27]; exact hfin)⟩
 have y34 := of_decide_eq_false hc34
 refine w_exit ?_
 refine x_then ?_
 refine x_then ?_
 refine x_hit ?_
 refine zn ?_
 refine zs 2 [(4, .slice g22.ao g22.l.length g22.cap)] ?_
 refine zz ?_
 refine w_ret ?_
 exact ret1 rfl rfl (by have hl := (show g22.l = reachL P.bd s from by rw [show g22.l = _ from hx27, reachTo_all (by omega) (by omega)]; rfl); exact ⟨g22.ao, g22.cap, (by rw [hl]), v32, Own.cast (Own.base ho26 (by omega)) (by rw [hl]) (by rw [hl])⟩)
end Go.Proofs.YtgnhellfhjoaaaaGreatDoor
