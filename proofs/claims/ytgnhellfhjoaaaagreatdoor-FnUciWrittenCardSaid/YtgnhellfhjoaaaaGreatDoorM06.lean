/-
  FnUciWritten: in every right position each legal move is written by the rules of the universal chess interface as the definition writes it, and what is written is read as the move (a part of the proof).
  Conditions: those of each theorem.
-/
import Derived.Test.YtgnhellfhjoaaaaGreatDoorM01
import Derived.Test.YtgnhellfhjoaaaaGreatDoorM05
import Derived.Orders
set_option linter.unusedVariables false
set_option linter.unusedSimpArgs false
namespace Go.Proofs.YtgnhellfhjoaaaaGreatDoor
open Go Go.RowKit
set_option maxRecDepth 100000
def stepB (bd : Nat → Int) (ep sd v : Int) : Bool := ((bd v.toNat != (0 : Int)) && (sideOf (bd v.toNat) != sd)) || (((bd v.toNat == (0 : Int)) && (v == ep)) && ((v / 8) == ((5 : Int) - ((3 : Int) * sd))))
def oneS (s sd : Int) : Int := atS (s % 8) ((s / 8) + (1 - 2 * sd))
def twoS (s sd : Int) : Int := atS (s % 8) ((s / 8) + ((2 : Int) * (1 - 2 * sd)))
def oneB (bd : Nat → Int) (s sd : Int) : Bool := (decide (oneS s sd ≥ (0 : Int))) && (bd (oneS s sd).toNat == (0 : Int))
def twoB (bd : Nat → Int) (s sd : Int) : Bool := ((s / 8) == ((1 : Int) + ((5 : Int) * sd))) && (bd (twoS s sd).toNat == (0 : Int))
def onL (bd : Nat → Int) (s sd : Int) : List Int := bif oneB bd s sd then (bif twoB bd s sd then [oneS s sd, twoS s sd] else [oneS s sd]) else []
def stepsL (bd : Nat → Int) (ep s : Int) : List Int := onL bd s (sideOf (bd s.toNat)) ++ (hitsL s (sideOf (bd s.toNat))).filter (stepB bd ep (sideOf (bd s.toNat)))
def StepI (base : List Int) (bd : Nat → Int) (ep sd s : Int) (q : GI) : Prop := q.l = base ++ ((hitsL s sd).take q.i.toNat).filter (stepB bd ep sd)
theorem onL_len (bd : Nat → Int) (s sd : Int) : (onL bd s sd).length ≤ 2 := by unfold onL; cases oneB bd s sd <;> cases twoB bd s sd <;> simp
theorem StepI.len {base : List Int} {bd : Nat → Int} {ep sd s : Int} {q : GI} (h : StepI base bd ep sd s q) : q.l.length ≤ base.length + 2 := by
 unfold StepI at h; rw [h, List.length_append]
 have h1 := List.length_filter_le (stepB bd ep sd) ((hitsL s sd).take q.i.toNat)
 have h2 := List.length_take_le q.i.toNat (hitsL s sd)
 have h3 := hits_len s sd
 have h4 : ((hitsL s sd).take q.i.toNat).length ≤ (hitsL s sd).length := by rw [List.length_take]; omega
 omega
theorem StepI.step {base : List Int} {bd : Nat → Int} {ep sd s : Int} {q : GI} {l : List Int} {ao : Option Addr} {cap : Nat} (h : StepI base bd ep sd s q) (h0 : 0 ≤ q.i) (h1 : q.i < ((hitsL s sd).length : Int))
  (hl : l = q.l ++ (bif stepB bd ep sd ((hitsL s sd).getD q.i.toNat 0) then [(hitsL s sd).getD q.i.toNat 0] else [])) : StepI base bd ep sd s ⟨q.i + 1, l, ao, cap⟩ := by
 unfold StepI at *
 dsimp only
 rw [hl, h, show (q.i + 1).toNat = q.i.toNat + 1 by omega, List.take_succ_eq_append_getElem (by omega), List.filter_append, List.append_assoc]
 congr 2
 rw [List.getD_eq_getElem?_getD, List.getElem?_eq_getElem (by omega)]
 simp only [Option.getD_some, List.filter_cons, List.filter_nil]
 cases stepB bd ep sd (hitsL s sd)[q.i.toNat] <;> simp
theorem StepI.fin {base : List Int} {bd : Nat → Int} {ep sd s : Int} {q : GI} (h : StepI base bd ep sd s q) (h1 : ¬ q.i < ((hitsL s sd).length : Int)) (h0 : 0 ≤ q.i) : q.l = base ++ (hitsL s sd).filter (stepB bd ep sd) := by
 unfold StepI at h; rw [h, List.take_of_length_le (by omega)]
theorem hitsL_rng {s sd x : Int} (h : x ∈ hitsL s sd) : 0 ≤ x ∧ x ≤ 63 := by
 unfold hitsL hitD at h
 rw [List.mem_append] at h
 rcases h with h | h <;> split at h
 ·rename_i hh; have := atS_rng ((s % 8) + -1) ((s / 8) + (1 - 2 * sd)); simp only [List.mem_singleton] at h; subst h; omega
 ·cases h
 ·rename_i hh; have := atS_rng ((s % 8) + 1) ((s / 8) + (1 - 2 * sd)); simp only [List.mem_singleton] at h; subst h; omega
 cases h
theorem hitsAt_rng {s sd i : Int} (h0 : 0 ≤ i) (h : i < ((hitsL s sd).length : Int)) : 0 ≤ (hitsL s sd).getD i.toNat 0 ∧ (hitsL s sd).getD i.toNat 0 ≤ 63 := by
 refine hitsL_rng (s := s) (sd := sd) ?_
 rw [List.getD_eq_getElem?_getD, List.getElem?_eq_getElem (by omega)]; exact List.getElem_mem _
theorem c46 {w : World} (P : SP) (hB : SPb P) (s : Int) (hs : 0 ≤ s ∧ s ≤ 63) :
  Calls Tryz.prog 46 [.agg (spCells P), .int .i64 s].toArray w (fun e w' => ∃ ao cap, e = .returned (.slice ao (stepsL P.bd P.ep s).length cap) ∧ Mod [] w w' ∧ Own w' w.heap.size 3 1 ao (stepsL P.bd P.ep s).length cap (ints (stepsL P.bd P.ep s))) := by
 have v0 : Mod [] w w := Mod.refl _ _
 have hB1 := hB s.toNat (by omega)
 have hsd := sideOf_or (P.bd s.toNat)
 have hhl := hits_len s (sideOf (P.bd s.toNat))
 refine enter (n := 120) Tryz.func46 rfl Tryz.ntmps46 rfl ?_
 refine zw ?_
 refine reg_alloc (spCells P) 24 (some 2) (by kernel_rfl) ?_
 intro b1 w2 hn3
 have hb4 := Nat.le_trans v0.size hn3.base
 have v5 := hn3.mod
 have v6 := zt v0 v5
 have hz7 := Mod.size v5
 have u8 := hn3.at_
 refine zs 1 [iz 1 s, rz 2 b1] ?_
 refine zx ?_
 refine zo 4 [iz 1 s, rz 2 b1, iz 15 (P.bd (0 + s.toNat * 1))] [.prop (0 ≤ s ∧ s < ((64 : Nat) : Int)), .cell ⟨b1, (0 + s.toNat * 1), none⟩ (.int .i64 (P.bd (0 + s.toNat * 1)))] (⟨(zh (by first | omega | assumption | decide | (constructor <;> unfold twoS atS <;> split <;> omega))), At.cell u8 (spCells_bd P (by omega))⟩) ?_
 rw [(show ((0 + s.toNat * 1) : Nat) = s.toNat from (by omega))]
 refine zk (some 16) (c45 (P.bd s.toNat) w2) ?_
 intro w9 v10
 have u11 := At.on u8 v10
 have v12 := zt v6 v10
 have hz13 := Mod.size v10
 refine zs 1 [iz 1 s, rz 2 b1, iz 5 (sideOf (P.bd s.toNat))] ?_
 refine zx ?_
 refine zs 1 [iz 1 s, rz 2 b1, iz 5 (sideOf (P.bd s.toNat)), (6, .slice none 0 0)] ?_
 refine zx ?_
 refine zs 1 [iz 1 s, rz 2 b1, iz 5 (sideOf (P.bd s.toNat)), (6, .slice none 0 0), iz 17 s] ?_
 refine zk (some 18) (c77 s w9 (by omega)) ?_
 intro w14 v15
 have u16 := At.on u11 v15
 have v17 := zt v12 v15
 have hz18 := Mod.size v15
 refine zs 1 [iz 1 s, rz 2 b1, iz 5 (sideOf (P.bd s.toNat)), (6, .slice none 0 0), iz 18 (s % 8), iz 19 s] ?_
 refine zk (some 20) (c40 s w14 (by omega)) ?_
 intro w19 v20
 have u21 := At.on u16 v20
 have v22 := zt v17 v20
 have hz23 := Mod.size v20
 refine zs 1 [iz 1 s, rz 2 b1, iz 5 (sideOf (P.bd s.toNat)), (6, .slice none 0 0), iz 18 (s % 8), iz 20 (s / 8), iz 21 (sideOf (P.bd s.toNat))] ?_
 refine zk (some 22) (c79 (sideOf (P.bd s.toNat)) w19 (by first | omega | exact sideOf_or _)) ?_
 intro w24 v25
 have u26 := At.on u21 v25
 have v27 := zt v22 v25
 have hz28 := Mod.size v25
 refine zs 1 [iz 1 s, rz 2 b1, iz 5 (sideOf (P.bd s.toNat)), (6, .slice none 0 0), iz 18 (s % 8), iz 23 (IntKind.i64.wrap ((s / 8) + (1 - 2 * (sideOf (P.bd s.toNat)))))] ?_
 rw [zi ((s / 8) + (1 - 2 * (sideOf (P.bd s.toNat)))) (by omega) (by omega)]
 refine zk (some 24) (c39g (s % 8) ((s / 8) + (1 - 2 * (sideOf (P.bd s.toNat)))) w24 (by omega) (by omega)) ?_
 intro w29 v30
 have u31 := At.on u26 v30
 have v32 := zt v27 v30
 have hz33 := Mod.size v30
 refine zs 1 [iz 1 s, rz 2 b1, iz 5 (sideOf (P.bd s.toNat)), (6, .slice none 0 0), iz 7 (atS (s % 8) ((s / 8) + (1 - 2 * (sideOf (P.bd s.toNat)))))] ?_
 refine ze ?_
 rw [show (atS (s % 8) ((s / 8) + (1 - 2 * (sideOf (P.bd s.toNat))))) = oneS s (sideOf (P.bd s.toNat)) from rfl]
 have hon : -1 ≤ oneS s (sideOf (P.bd s.toNat)) ∧ oneS s (sideOf (P.bd s.toNat)) ≤ 63 := atS_rng _ _
 refine n_then ?_
 refine w_seq ?_
 refine w_cut (γ := Unit) (fun _ => [(1, .int .i64 s), (2, pz b1), (5, .int .i64 (sideOf (P.bd s.toNat))), (6, .slice none 0 0), (7, .int .i64 (oneS s (sideOf (P.bd s.toNat)))), (33, .bool ((decide ((oneS s (sideOf (P.bd s.toNat))) ≥ 0)) && ((P.bd ((oneS s (sideOf (P.bd s.toNat))).toNat)) == 0)))]) (fun _ w_ => Mod [] w29 w_) ?_ ?_
 ·have v36 : Mod [] w29 w29 := Mod.refl _ _
  refine w_region ?_
  refine zs 3 [iz 1 s, rz 2 b1, iz 5 (sideOf (P.bd s.toNat)), (6, .slice none 0 0), iz 7 (oneS s (sideOf (P.bd s.toNat))), (27, .bool (decide ((oneS s (sideOf (P.bd s.toNat))) ≥ 0)))] ?_
  cases hc37 : (decide ((oneS s (sideOf (P.bd s.toNat))) ≥ (0 : Int)))
  ·have y37 := hc37; try simp only [zbq] at y37
   refine zs 6 [iz 1 s, rz 2 b1, iz 5 (sideOf (P.bd s.toNat)), (6, .slice none 0 0), iz 7 (oneS s (sideOf (P.bd s.toNat))), (33, .bool false)] ?_
   refine ze ?_
   exact zb () v36
  have y37 := hc37; try simp only [zbq] at y37
  refine zo 4 [iz 1 s, rz 2 b1, iz 5 (sideOf (P.bd s.toNat)), (6, .slice none 0 0), iz 7 (oneS s (sideOf (P.bd s.toNat))), (27, .bool true), iz 31 (P.bd (0 + (oneS s (sideOf (P.bd s.toNat))).toNat * 1))] [.prop (0 ≤ (oneS s (sideOf (P.bd s.toNat))) ∧ (oneS s (sideOf (P.bd s.toNat))) < ((64 : Nat) : Int)), .cell ⟨b1, (0 + (oneS s (sideOf (P.bd s.toNat))).toNat * 1), none⟩ (.int .i64 (P.bd (0 + (oneS s (sideOf (P.bd s.toNat))).toNat * 1)))] (⟨(zh (by first | omega | assumption | decide | (constructor <;> unfold twoS atS <;> split <;> omega))), At.cell u31 (spCells_bd P (by omega))⟩) ?_
  rw [(show ((0 + (oneS s (sideOf (P.bd s.toNat))).toNat * 1) : Nat) = ((oneS s (sideOf (P.bd s.toNat))).toNat) from (by omega))]
  refine zs 2 [iz 1 s, rz 2 b1, iz 5 (sideOf (P.bd s.toNat)), (6, .slice none 0 0), iz 7 (oneS s (sideOf (P.bd s.toNat))), (33, .bool ((P.bd ((oneS s (sideOf (P.bd s.toNat))).toNat)) == 0))] ?_
  refine ze ?_
  exact zb () v36
 intro _ w34 v35
 have u38 := At.on u31 v35
 have v39 := zt v32 v35
 have hz40 := Mod.size v35
 refine zc (fun hc41 => ?_) fun hc41 => ?_
 ·have y41 := hc41; try simp only [zbq] at y41
  refine zw ?_
  refine zs 2 [iz 1 s, rz 2 b1, iz 5 (sideOf (P.bd s.toNat)), (34, .slice none 0 0), iz 35 (oneS s (sideOf (P.bd s.toNat)))] ?_
  refine reg_bslice (#[.int .i64 (oneS s (sideOf (P.bd s.toNat)))]) 3 1 (some 36) (by kernel_rfl) ?_
  intro b42 w43 hn44
  have hb45 := Nat.le_trans v39.size hn44.base
  have v46 := hn44.mod
  have u47 := At.on u38 v46
  have v48 := zt v39 v46
  have hz49 := Mod.size v46
  have u50 := hn44.at_
  refine reg_append2 none 0 0 ⟨b42, 0, none⟩ 1 1 3 (some 37) 1 8 (b0 := w43.heap.size) (xs := ints ([])) (news := ints ([(oneS s (sideOf (P.bd s.toNat)))])) (by kernel_rfl) (Own.nil _ _ _ _) (by decide) (ints_len _) (at_cells (l := ints ([(oneS s (sideOf (P.bd s.toNat)))])) (by exact u50)) (ints_one _) (by (try simp only [List.length_cons, List.length_nil]); omega) (Nat.le_refl _) ?_
  intro ao51 cap52 w53 ho54 v55 hd56
  replace v55 : Mod [] w43 w53 := Mod.mono v55 (fun x hx => absurd hx (by simp [blk]))
  have u57 := At.on u47 v55
  have v58 := zt v48 v55
  have hz59 := Mod.size v55
  rw [show (0 + 1 : Nat) = ([(oneS s (sideOf (P.bd s.toNat)))]).length from (by first | rfl | simp)]
  have ho60 : Own w53 w43.heap.size 3 1 ao51 ([(oneS s (sideOf (P.bd s.toNat)))]).length cap52 (ints ([(oneS s (sideOf (P.bd s.toNat)))])) := Own.cast ho54 (by first | rfl | simp) (by first | rfl | rw [ints_append])
  refine zs 1 [iz 1 s, rz 2 b1, iz 5 (sideOf (P.bd s.toNat)), (6, .slice ao51 (([(oneS s (sideOf (P.bd s.toNat)))]).length) cap52)] ?_
  refine zx ?_
  refine zs 1 [iz 1 s, rz 2 b1, iz 5 (sideOf (P.bd s.toNat)), (6, .slice ao51 (([(oneS s (sideOf (P.bd s.toNat)))]).length) cap52), iz 38 s] ?_
  refine zk (some 39) (c77 s w53 (by omega)) ?_
  intro w61 v62
  have u63 := At.on u57 v62
  have ho64 := Own.on ho60 v62
  have v65 := zt v58 v62
  have hz66 := Mod.size v62
  refine zs 1 [iz 1 s, rz 2 b1, iz 5 (sideOf (P.bd s.toNat)), (6, .slice ao51 (([(oneS s (sideOf (P.bd s.toNat)))]).length) cap52), iz 39 (s % 8), iz 40 s] ?_
  refine zk (some 41) (c40 s w61 (by omega)) ?_
  intro w67 v68
  have u69 := At.on u63 v68
  have ho70 := Own.on ho64 v68
  have v71 := zt v65 v68
  have hz72 := Mod.size v68
  refine zs 1 [iz 1 s, rz 2 b1, iz 5 (sideOf (P.bd s.toNat)), (6, .slice ao51 (([(oneS s (sideOf (P.bd s.toNat)))]).length) cap52), iz 39 (s % 8), iz 41 (s / 8), iz 42 (sideOf (P.bd s.toNat))] ?_
  refine zk (some 43) (c79 (sideOf (P.bd s.toNat)) w67 (by first | omega | exact sideOf_or _)) ?_
  intro w73 v74
  have u75 := At.on u69 v74
  have ho76 := Own.on ho70 v74
  have v77 := zt v71 v74
  have hz78 := Mod.size v74
  refine zs 1 [iz 1 s, rz 2 b1, iz 5 (sideOf (P.bd s.toNat)), (6, .slice ao51 (([(oneS s (sideOf (P.bd s.toNat)))]).length) cap52), iz 39 (s % 8), iz 41 (s / 8), iz 44 (IntKind.i64.wrap ((2 : Int) * (1 - 2 * (sideOf (P.bd s.toNat)))))] ?_
  rw [zi ((2 : Int) * (1 - 2 * (sideOf (P.bd s.toNat)))) (by omega) (by omega)]
  refine zs 1 [iz 1 s, rz 2 b1, iz 5 (sideOf (P.bd s.toNat)), (6, .slice ao51 (([(oneS s (sideOf (P.bd s.toNat)))]).length) cap52), iz 39 (s % 8), iz 45 (IntKind.i64.wrap ((s / 8) + ((2 : Int) * (1 - 2 * (sideOf (P.bd s.toNat))))))] ?_
  rw [zi ((s / 8) + ((2 : Int) * (1 - 2 * (sideOf (P.bd s.toNat))))) (by omega) (by omega)]
  refine zk (some 46) (c39g (s % 8) ((s / 8) + ((2 : Int) * (1 - 2 * (sideOf (P.bd s.toNat))))) w73 (by omega) (by omega)) ?_
  intro w79 v80
  have u81 := At.on u75 v80
  have ho82 := Own.on ho76 v80
  have v83 := zt v77 v80
  have hz84 := Mod.size v80
  refine zs 1 [iz 1 s, rz 2 b1, iz 5 (sideOf (P.bd s.toNat)), (6, .slice ao51 (([(oneS s (sideOf (P.bd s.toNat)))]).length) cap52), iz 8 (atS (s % 8) ((s / 8) + ((2 : Int) * (1 - 2 * (sideOf (P.bd s.toNat))))))] ?_
  refine ze ?_
  rw [show (atS (s % 8) ((s / 8) + ((2 : Int) * (1 - 2 * (sideOf (P.bd s.toNat)))))) = twoS s (sideOf (P.bd s.toNat)) from rfl]
  have htw : -1 ≤ twoS s (sideOf (P.bd s.toNat)) ∧ twoS s (sideOf (P.bd s.toNat)) ≤ 63 := atS_rng _ _
  refine n_then ?_
  refine w_cut (γ := Unit) (fun _ => [(1, .int .i64 s), (2, pz b1), (5, .int .i64 (sideOf (P.bd s.toNat))), (6, .slice ao51 (([(oneS s (sideOf (P.bd s.toNat)))]).length) cap52), (8, .int .i64 (twoS s (sideOf (P.bd s.toNat)))), (59, .bool (((s / 8) == (1 + (5 * (sideOf (P.bd s.toNat))))) && ((P.bd ((twoS s (sideOf (P.bd s.toNat))).toNat)) == 0)))]) (fun _ w_ => Mod [] w79 w_) ?_ ?_
  ·have v87 : Mod [] w79 w79 := Mod.refl _ _
   refine w_region ?_
   refine zs 1 [iz 1 s, rz 2 b1, iz 5 (sideOf (P.bd s.toNat)), (6, .slice ao51 (([(oneS s (sideOf (P.bd s.toNat)))]).length) cap52), iz 8 (twoS s (sideOf (P.bd s.toNat))), iz 47 s] ?_
   refine zk (some 48) (c40 s w79 (by omega)) ?_
   intro w88 v89
   have u90 := At.on u81 v89
   have v92 := zt v87 v89
   have hz93 := Mod.size v89
   refine zs 2 [iz 1 s, rz 2 b1, iz 5 (sideOf (P.bd s.toNat)), (6, .slice ao51 (([(oneS s (sideOf (P.bd s.toNat)))]).length) cap52), iz 8 (twoS s (sideOf (P.bd s.toNat))), iz 48 (s / 8), iz 50 (IntKind.i64.wrap (5 * (sideOf (P.bd s.toNat))))] ?_
   rw [zi ((5 : Int) * (sideOf (P.bd s.toNat))) (by omega) (by omega)]
   refine zs 1 [iz 1 s, rz 2 b1, iz 5 (sideOf (P.bd s.toNat)), (6, .slice ao51 (([(oneS s (sideOf (P.bd s.toNat)))]).length) cap52), iz 8 (twoS s (sideOf (P.bd s.toNat))), iz 48 (s / 8), iz 51 (IntKind.i64.wrap (1 + (5 * (sideOf (P.bd s.toNat)))))] ?_
   rw [zi ((1 : Int) + ((5 : Int) * (sideOf (P.bd s.toNat)))) (by omega) (by omega)]
   refine zs 2 [iz 1 s, rz 2 b1, iz 5 (sideOf (P.bd s.toNat)), (6, .slice ao51 (([(oneS s (sideOf (P.bd s.toNat)))]).length) cap52), iz 8 (twoS s (sideOf (P.bd s.toNat))), (53, .bool ((s / 8) == (1 + (5 * (sideOf (P.bd s.toNat))))))] ?_
   cases hc94 : ((s / 8) == ((1 : Int) + ((5 : Int) * (sideOf (P.bd s.toNat)))))
   ·have y94 := hc94; try simp only [zbq] at y94
    refine zs 6 [iz 1 s, rz 2 b1, iz 5 (sideOf (P.bd s.toNat)), (6, .slice ao51 (([(oneS s (sideOf (P.bd s.toNat)))]).length) cap52), iz 8 (twoS s (sideOf (P.bd s.toNat))), (59, .bool false)] ?_
    refine ze ?_
    exact zb () v92
   have y94 := hc94; try simp only [zbq] at y94
   refine zo 4 [iz 1 s, rz 2 b1, iz 5 (sideOf (P.bd s.toNat)), (6, .slice ao51 (([(oneS s (sideOf (P.bd s.toNat)))]).length) cap52), iz 8 (twoS s (sideOf (P.bd s.toNat))), (53, .bool true), iz 57 (P.bd (0 + (twoS s (sideOf (P.bd s.toNat))).toNat * 1))] [.prop (0 ≤ (twoS s (sideOf (P.bd s.toNat))) ∧ (twoS s (sideOf (P.bd s.toNat))) < ((64 : Nat) : Int)), .cell ⟨b1, (0 + (twoS s (sideOf (P.bd s.toNat))).toNat * 1), none⟩ (.int .i64 (P.bd (0 + (twoS s (sideOf (P.bd s.toNat))).toNat * 1)))] (⟨(zh (by first | omega | assumption | decide | (constructor <;> unfold twoS atS <;> split <;> omega))), At.cell u90 (spCells_bd P (by omega))⟩) ?_
   rw [(show ((0 + (twoS s (sideOf (P.bd s.toNat))).toNat * 1) : Nat) = ((twoS s (sideOf (P.bd s.toNat))).toNat) from (by omega))]
   refine zs 2 [iz 1 s, rz 2 b1, iz 5 (sideOf (P.bd s.toNat)), (6, .slice ao51 (([(oneS s (sideOf (P.bd s.toNat)))]).length) cap52), iz 8 (twoS s (sideOf (P.bd s.toNat))), (59, .bool ((P.bd ((twoS s (sideOf (P.bd s.toNat))).toNat)) == 0))] ?_
   refine ze ?_
   exact zb () v92
  intro _ w85 v86
  have u95 := At.on u81 v86
  have ho96 := Own.on ho82 v86
  have v97 := zt v83 v86
  have hz98 := Mod.size v86
  refine zc (fun hc99 => ?_) fun hc99 => ?_
  ·have y99 := hc99; try simp only [zbq] at y99
   refine w_region ?_
   refine zs 2 [iz 1 s, rz 2 b1, iz 5 (sideOf (P.bd s.toNat)), (60, .slice ao51 (([(oneS s (sideOf (P.bd s.toNat)))]).length) cap52), iz 61 (twoS s (sideOf (P.bd s.toNat)))] ?_
   refine reg_bslice (#[.int .i64 (twoS s (sideOf (P.bd s.toNat)))]) 3 1 (some 62) (by kernel_rfl) ?_
   intro b100 w101 hn102
   have hb103 := Nat.le_trans v97.size hn102.base
   have v104 := hn102.mod
   have u105 := At.on u95 v104
   have ho106 := Own.on ho96 v104
   have v107 := zt v97 v104
   have hz108 := Mod.size v104
   have u109 := hn102.at_
   refine reg_append2 ao51 (([(oneS s (sideOf (P.bd s.toNat)))]).length) cap52 ⟨b100, 0, none⟩ 1 1 3 (some 63) 1 8 (b0 := w43.heap.size) (xs := ints ([(oneS s (sideOf (P.bd s.toNat)))])) (news := ints ([(twoS s (sideOf (P.bd s.toNat)))])) (by kernel_rfl) ho106 (by decide) (ints_len _) (at_cells (l := ints ([(twoS s (sideOf (P.bd s.toNat)))])) (by exact u109)) (ints_one _) (by (try simp only [List.length_cons, List.length_nil]); omega) (by omega) ?_
   intro ao110 cap111 w112 ho113 v114 hd115
   have u116 := At.keep u105 v114 (own_off ho106 u105 rfl)
   have v117 := Mod.fresh' v107 v114 (fun x hx => Or.inr (by have := Own.lt ho106 x hx; omega))
   have hz118 := Mod.size v114
   rw [show (([(oneS s (sideOf (P.bd s.toNat)))]).length + 1 : Nat) = ([(oneS s (sideOf (P.bd s.toNat)))] ++ [(twoS s (sideOf (P.bd s.toNat)))]).length from (by first | rfl | simp)]
   have ho119 : Own w112 w43.heap.size 3 1 ao110 ([(oneS s (sideOf (P.bd s.toNat)))] ++ [(twoS s (sideOf (P.bd s.toNat)))]).length cap111 (ints ([(oneS s (sideOf (P.bd s.toNat)))] ++ [(twoS s (sideOf (P.bd s.toNat)))])) := Own.cast ho113 (by first | rfl | simp) (by first | rfl | rw [ints_append])
   refine zs 1 [iz 1 s, rz 2 b1, iz 5 (sideOf (P.bd s.toNat)), (6, .slice ao110 (([(oneS s (sideOf (P.bd s.toNat)))] ++ [(twoS s (sideOf (P.bd s.toNat)))]).length) cap111)] ?_
   refine zx ?_
   refine zs 2 [rz 2 b1, iz 5 (sideOf (P.bd s.toNat)), (6, .slice ao110 (([(oneS s (sideOf (P.bd s.toNat)))] ++ [(twoS s (sideOf (P.bd s.toNat)))]).length) cap111), iz 64 s, iz 65 (sideOf (P.bd s.toNat))] ?_
   refine reg_call 80 [.int .i64 s, .int .i64 (sideOf (P.bd s.toNat))] (some 66) (by kernel_rfl) (c80 s (sideOf (P.bd s.toNat)) (by omega) (sideOf_or _)) ?_
   rintro _ w120 ⟨ao122, cap123, rfl, v121, ho124⟩; refine ⟨_, rfl, ?_⟩
   have u125 := At.on u116 v121
   have ho126 := Own.on ho119 v121
   have v127 := zt v117 v121
   have hz128 := Mod.size v121
   refine zs 1 [rz 2 b1, iz 5 (sideOf (P.bd s.toNat)), (6, .slice ao110 (([(oneS s (sideOf (P.bd s.toNat)))] ++ [(twoS s (sideOf (P.bd s.toNat)))]).length) cap111), (9, .slice ao122 ((hitsL s (sideOf (P.bd s.toNat))).length) cap123)] ?_
   refine zz ?_
   refine w_seq ?_
   refine zw ?_
   refine zs 1 [rz 2 b1, iz 5 (sideOf (P.bd s.toNat)), (6, .slice ao110 (([(oneS s (sideOf (P.bd s.toNat)))] ++ [(twoS s (sideOf (P.bd s.toNat)))]).length) cap111), (9, .slice ao122 ((hitsL s (sideOf (P.bd s.toNat))).length) cap123), iz 10 0] ?_
   refine zz ?_
   refine w_block ?_
   refine w_loop (γ := GI) (fun g129 => (((hitsL s (sideOf (P.bd s.toNat))).length : Int) - g129.i).toNat) (fun (g129 : GI) => [(2, pz b1), (5, .int .i64 (sideOf (P.bd s.toNat))), (6, .slice g129.ao g129.l.length g129.cap), (9, .slice ao122 ((hitsL s (sideOf (P.bd s.toNat))).length) cap123), (10, .int .i64 g129.i)]) (fun (g129 : GI) w_ => (0 ≤ g129.i ∧ g129.i ≤ ((hitsL s (sideOf (P.bd s.toNat))).length : Int)) ∧ Mod (blk ao110) w120 w_ ∧ (∀ x ∈ blk g129.ao, x ∈ ((blk ao110) : List Nat) ∨ w120.heap.size ≤ x) ∧ Own w_ w43.heap.size 3 1 g129.ao g129.l.length g129.cap (ints g129.l) ∧ (StepI ([(oneS s (sideOf (P.bd s.toNat)))] ++ [(twoS s (sideOf (P.bd s.toNat)))]) P.bd P.ep (sideOf (P.bd s.toNat)) s g129)) ⟨0, ([(oneS s (sideOf (P.bd s.toNat)))] ++ [(twoS s (sideOf (P.bd s.toNat)))]), ao110, cap111⟩ (hold_keep [2, 5, 6, 9, 10] (by kernel_rfl)) ⟨(by constructor <;> (try dsimp only) <;> omega), Mod.refl _ _, (fun x hx => Or.inl hx), ho126, (List.append_nil _).symm⟩ ?_
   rintro g129 w130 ⟨⟨h135, h136⟩, v131, hw132, ho133, hx134⟩
   have u137 := At.keep u125 v131 (own_off ho126 u125 rfl)
   have ho138 := Own.keep ho124 v131 (fun x hx hy => have h1 := Own.lt ho124 x hx; (by have h3 := Own.lt ho119 x hy; omega))
   have v139 := Mod.fresh' v127 v131 (fun x hx => Or.inr (by have := Own.lt ho126 x hx; omega))
   have hz140 := Mod.size v131
   refine w_seq ?_
   refine zw ?_
   refine zs 4 [rz 2 b1, iz 5 (sideOf (P.bd s.toNat)), (6, .slice g129.ao g129.l.length g129.cap), (9, .slice ao122 ((hitsL s (sideOf (P.bd s.toNat))).length) cap123), iz 10 g129.i, (70, .bool (decide (g129.i < (((hitsL s (sideOf (P.bd s.toNat))).length : Nat) : Int))))] ?_
   refine zz ?_
   refine zc (fun hc141 => ?_) fun hc141 => ?_
   ·have y141 := of_decide_eq_true hc141
    obtain ⟨g142, cur143, rfl, hb144, u145, ht146, hn147, hs148⟩ := Own.some ho138 (by omega)
    have hhr := hitsAt_rng (s := s) (sd := (sideOf (P.bd s.toNat))) (i := g129.i) (by omega) (by omega)
    refine w_skip ?_
    refine n_then ?_
    refine w_seq ?_
    refine w_block ?_
    refine zw ?_
    refine zo 7 [rz 2 b1, iz 5 (sideOf (P.bd s.toNat)), (6, .slice g129.ao g129.l.length g129.cap), (9, .slice (some ⟨g142, 0, none⟩) ((hitsL s (sideOf (P.bd s.toNat))).length) cap123), iz 10 g129.i, iz 79 (P.bd (0 + ((hitsL s (sideOf (P.bd s.toNat))).getD g129.i.toNat 0).toNat * 1))] [.prop (0 ≤ g129.i ∧ g129.i < (((hitsL s (sideOf (P.bd s.toNat))).length : Nat) : Int)), .cell ⟨g142, (0 + g129.i.toNat * 1), none⟩ (.int .i64 ((hitsL s (sideOf (P.bd s.toNat))).getD g129.i.toNat 0)), .prop (0 ≤ ((hitsL s (sideOf (P.bd s.toNat))).getD g129.i.toNat 0) ∧ ((hitsL s (sideOf (P.bd s.toNat))).getD g129.i.toNat 0) < ((64 : Nat) : Int)), .cell ⟨b1, (0 + ((hitsL s (sideOf (P.bd s.toNat))).getD g129.i.toNat 0).toNat * 1), none⟩ (.int .i64 (P.bd (0 + ((hitsL s (sideOf (P.bd s.toNat))).getD g129.i.toNat 0).toNat * 1)))] (⟨(zh (by first | omega | assumption | decide | (constructor <;> unfold twoS atS <;> split <;> omega))), Own.cell ho138 (ints_at (by omega) (by omega)), (zh (by first | omega | assumption | decide | (constructor <;> unfold twoS atS <;> split <;> omega))), At.cell u137 (spCells_bd P (by omega))⟩) ?_
    rw [(show ((0 + ((hitsL s (sideOf (P.bd s.toNat))).getD g129.i.toNat 0).toNat * 1) : Nat) = (((hitsL s (sideOf (P.bd s.toNat))).getD g129.i.toNat 0).toNat) from (by omega))]
    refine zs 1 [rz 2 b1, iz 5 (sideOf (P.bd s.toNat)), (6, .slice g129.ao g129.l.length g129.cap), (9, .slice (some ⟨g142, 0, none⟩) ((hitsL s (sideOf (P.bd s.toNat))).length) cap123), iz 10 g129.i, iz 11 (P.bd (((hitsL s (sideOf (P.bd s.toNat))).getD g129.i.toNat 0).toNat))] ?_
    refine zz ?_
    refine w_cut (γ := Unit) (fun _ => [(2, pz b1), (5, .int .i64 (sideOf (P.bd s.toNat))), (6, .slice g129.ao g129.l.length g129.cap), (9, .slice (some ⟨g142, 0, none⟩) ((hitsL s (sideOf (P.bd s.toNat))).length) cap123), (10, .int .i64 g129.i), (111, .bool ((((P.bd (((hitsL s (sideOf (P.bd s.toNat))).getD g129.i.toNat 0).toNat)) != 0) && ((sideOf (P.bd (((hitsL s (sideOf (P.bd s.toNat))).getD g129.i.toNat 0).toNat))) != (sideOf (P.bd s.toNat)))) || ((((P.bd (((hitsL s (sideOf (P.bd s.toNat))).getD g129.i.toNat 0).toNat)) == 0) && (((hitsL s (sideOf (P.bd s.toNat))).getD g129.i.toNat 0) == P.ep)) && ((((hitsL s (sideOf (P.bd s.toNat))).getD g129.i.toNat 0) / 8) == (5 - (3 * (sideOf (P.bd s.toNat))))))))]) (fun _ w_ => Mod [] w130 w_) ?_ ?_
    ·have v151 : Mod [] w130 w130 := Mod.refl _ _
     refine w_quiet (by kernel_rfl) (by kernel_rfl) ?_
     refine zq 3 [rz 2 b1, iz 5 (sideOf (P.bd s.toNat)), (6, .slice g129.ao g129.l.length g129.cap), (9, .slice (some ⟨g142, 0, none⟩) ((hitsL s (sideOf (P.bd s.toNat))).length) cap123), iz 10 g129.i, iz 11 (P.bd (((hitsL s (sideOf (P.bd s.toNat))).getD g129.i.toNat 0).toNat)), (82, .bool ((P.bd (((hitsL s (sideOf (P.bd s.toNat))).getD g129.i.toNat 0).toNat)) != 0))] ?_
     cases hc152 : ((P.bd (((hitsL s (sideOf (P.bd s.toNat))).getD g129.i.toNat 0).toNat)) != (0 : Int))
     ·have y152 := hc152; try simp only [zbq] at y152
      refine zq 9 [rz 2 b1, iz 5 (sideOf (P.bd s.toNat)), (6, .slice g129.ao g129.l.length g129.cap), (9, .slice (some ⟨g142, 0, none⟩) ((hitsL s (sideOf (P.bd s.toNat))).length) cap123), iz 10 g129.i, (88, .bool false), (91, .bool ((P.bd (((hitsL s (sideOf (P.bd s.toNat))).getD g129.i.toNat 0).toNat)) == 0))] ?_
      cases hc153 : ((P.bd (((hitsL s (sideOf (P.bd s.toNat))).getD g129.i.toNat 0).toNat)) == (0 : Int))
      ·have y153 := hc153; try simp only [zbq] at y153
       refine zq 20 [rz 2 b1, iz 5 (sideOf (P.bd s.toNat)), (6, .slice g129.ao g129.l.length g129.cap), (9, .slice (some ⟨g142, 0, none⟩) ((hitsL s (sideOf (P.bd s.toNat))).length) cap123), iz 10 g129.i, (111, .bool false)] ?_
       refine q_out (by kernel_rfl) ?_
       intro w154 v155
       have v159 := zt v151 v155
       have hz161 := Mod.size v155
       exact zb () v159
      have y153 := hc153; try simp only [zbq] at y153
      refine zqo 9 [rz 2 b1, iz 5 (sideOf (P.bd s.toNat)), (6, .slice g129.ao g129.l.length g129.cap), (9, .slice (some ⟨g142, 0, none⟩) ((hitsL s (sideOf (P.bd s.toNat))).length) cap123), iz 10 g129.i, (88, .bool false), (100, .bool (((hitsL s (sideOf (P.bd s.toNat))).getD g129.i.toNat 0) == P.ep))] [.prop (0 ≤ g129.i ∧ g129.i < (((hitsL s (sideOf (P.bd s.toNat))).length : Nat) : Int)), .cell ⟨g142, (0 + g129.i.toNat * 1), none⟩ (.int .i64 ((hitsL s (sideOf (P.bd s.toNat))).getD g129.i.toNat 0)), .cell ⟨b1, 66, none⟩ (.int .i64 P.ep)] (fun _ hC => ⟨(zh (by first | omega | assumption | decide | (constructor <;> unfold twoS atS <;> split <;> omega))), Own.cell (Own.on ho138 hC) (ints_at (by omega) (by omega)), At.cell (At.on u137 hC) (spCells_66 P)⟩) ?_
      cases hc162 : (((hitsL s (sideOf (P.bd s.toNat))).getD g129.i.toNat 0) == P.ep)
      ·have y162 := hc162; try simp only [zbq] at y162
       refine zq 11 [rz 2 b1, iz 5 (sideOf (P.bd s.toNat)), (6, .slice g129.ao g129.l.length g129.cap), (9, .slice (some ⟨g142, 0, none⟩) ((hitsL s (sideOf (P.bd s.toNat))).length) cap123), iz 10 g129.i, (111, .bool false)] ?_
       refine q_out (by kernel_rfl) ?_
       intro w163 v164
       have v168 := zt v151 v164
       have hz170 := Mod.size v164
       exact zb () v168
      have y162 := hc162; try simp only [zbq] at y162
      refine zqo 4 [rz 2 b1, iz 5 (sideOf (P.bd s.toNat)), (6, .slice g129.ao g129.l.length g129.cap), (9, .slice (some ⟨g142, 0, none⟩) ((hitsL s (sideOf (P.bd s.toNat))).length) cap123), iz 10 g129.i, (88, .bool false), (100, .bool true), iz 104 ((hitsL s (sideOf (P.bd s.toNat))).getD g129.i.toNat 0)] [.prop (0 ≤ g129.i ∧ g129.i < (((hitsL s (sideOf (P.bd s.toNat))).length : Nat) : Int)), .cell ⟨g142, (0 + g129.i.toNat * 1), none⟩ (.int .i64 ((hitsL s (sideOf (P.bd s.toNat))).getD g129.i.toNat 0))] (fun _ hC => ⟨(zh (by first | omega | assumption | decide | (constructor <;> unfold twoS atS <;> split <;> omega))), Own.cell (Own.on ho138 hC) (ints_at (by omega) (by omega))⟩) ?_
      refine zqk (some 105) (fun w_ hC => c40 ((hitsL s (sideOf (P.bd s.toNat))).getD g129.i.toNat 0) w_ (by omega)) ?_
      refine zq 2 [rz 2 b1, iz 5 (sideOf (P.bd s.toNat)), (6, .slice g129.ao g129.l.length g129.cap), (9, .slice (some ⟨g142, 0, none⟩) ((hitsL s (sideOf (P.bd s.toNat))).length) cap123), iz 10 g129.i, (88, .bool false), (100, .bool true), iz 105 (((hitsL s (sideOf (P.bd s.toNat))).getD g129.i.toNat 0) / 8), iz 107 (IntKind.i64.wrap (3 * (sideOf (P.bd s.toNat))))] ?_
      rw [zi ((3 : Int) * (sideOf (P.bd s.toNat))) (by omega) (by omega)]
      refine zq 1 [rz 2 b1, iz 5 (sideOf (P.bd s.toNat)), (6, .slice g129.ao g129.l.length g129.cap), (9, .slice (some ⟨g142, 0, none⟩) ((hitsL s (sideOf (P.bd s.toNat))).length) cap123), iz 10 g129.i, (88, .bool false), (100, .bool true), iz 105 (((hitsL s (sideOf (P.bd s.toNat))).getD g129.i.toNat 0) / 8), iz 108 (IntKind.i64.wrap (5 - (3 * (sideOf (P.bd s.toNat)))))] ?_
      rw [zi ((5 : Int) - ((3 : Int) * (sideOf (P.bd s.toNat)))) (by omega) (by omega)]
      refine zq 3 [rz 2 b1, iz 5 (sideOf (P.bd s.toNat)), (6, .slice g129.ao g129.l.length g129.cap), (9, .slice (some ⟨g142, 0, none⟩) ((hitsL s (sideOf (P.bd s.toNat))).length) cap123), iz 10 g129.i, (111, .bool ((((hitsL s (sideOf (P.bd s.toNat))).getD g129.i.toNat 0) / 8) == (5 - (3 * (sideOf (P.bd s.toNat))))))] ?_
      refine q_out (by kernel_rfl) ?_
      intro w171 v172
      have v176 := zt v151 v172
      have hz178 := Mod.size v172
      exact zb () v176
     have y152 := hc152; try simp only [zbq] at y152
     refine zq 1 [rz 2 b1, iz 5 (sideOf (P.bd s.toNat)), (6, .slice g129.ao g129.l.length g129.cap), (9, .slice (some ⟨g142, 0, none⟩) ((hitsL s (sideOf (P.bd s.toNat))).length) cap123), iz 10 g129.i, iz 11 (P.bd (((hitsL s (sideOf (P.bd s.toNat))).getD g129.i.toNat 0).toNat)), (82, .bool true), iz 83 (P.bd (((hitsL s (sideOf (P.bd s.toNat))).getD g129.i.toNat 0).toNat))] ?_
     refine zqk (some 84) (fun w_ hC => c45 (P.bd (((hitsL s (sideOf (P.bd s.toNat))).getD g129.i.toNat 0).toNat)) w_) ?_
     refine zq 4 [rz 2 b1, iz 5 (sideOf (P.bd s.toNat)), (6, .slice g129.ao g129.l.length g129.cap), (9, .slice (some ⟨g142, 0, none⟩) ((hitsL s (sideOf (P.bd s.toNat))).length) cap123), iz 10 g129.i, iz 11 (P.bd (((hitsL s (sideOf (P.bd s.toNat))).getD g129.i.toNat 0).toNat)), (88, .bool ((sideOf (P.bd (((hitsL s (sideOf (P.bd s.toNat))).getD g129.i.toNat 0).toNat))) != (sideOf (P.bd s.toNat))))] ?_
     cases hc179 : ((sideOf (P.bd (((hitsL s (sideOf (P.bd s.toNat))).getD g129.i.toNat 0).toNat))) != (sideOf (P.bd s.toNat)))
     ·have y179 := hc179; try simp only [zbq] at y179
      refine zq 3 [rz 2 b1, iz 5 (sideOf (P.bd s.toNat)), (6, .slice g129.ao g129.l.length g129.cap), (9, .slice (some ⟨g142, 0, none⟩) ((hitsL s (sideOf (P.bd s.toNat))).length) cap123), iz 10 g129.i, (88, .bool false), (91, .bool ((P.bd (((hitsL s (sideOf (P.bd s.toNat))).getD g129.i.toNat 0).toNat)) == 0))] ?_
      cases hc180 : ((P.bd (((hitsL s (sideOf (P.bd s.toNat))).getD g129.i.toNat 0).toNat)) == (0 : Int))
      ·have y180 := hc180; try simp only [zbq] at y180
       refine zq 20 [rz 2 b1, iz 5 (sideOf (P.bd s.toNat)), (6, .slice g129.ao g129.l.length g129.cap), (9, .slice (some ⟨g142, 0, none⟩) ((hitsL s (sideOf (P.bd s.toNat))).length) cap123), iz 10 g129.i, (111, .bool false)] ?_
       refine q_out (by kernel_rfl) ?_
       intro w181 v182
       have v186 := zt v151 v182
       have hz188 := Mod.size v182
       exact zb () v186
      have y180 := hc180; try simp only [zbq] at y180
      refine zqo 9 [rz 2 b1, iz 5 (sideOf (P.bd s.toNat)), (6, .slice g129.ao g129.l.length g129.cap), (9, .slice (some ⟨g142, 0, none⟩) ((hitsL s (sideOf (P.bd s.toNat))).length) cap123), iz 10 g129.i, (88, .bool false), (100, .bool (((hitsL s (sideOf (P.bd s.toNat))).getD g129.i.toNat 0) == P.ep))] [.prop (0 ≤ g129.i ∧ g129.i < (((hitsL s (sideOf (P.bd s.toNat))).length : Nat) : Int)), .cell ⟨g142, (0 + g129.i.toNat * 1), none⟩ (.int .i64 ((hitsL s (sideOf (P.bd s.toNat))).getD g129.i.toNat 0)), .cell ⟨b1, 66, none⟩ (.int .i64 P.ep)] (fun _ hC => ⟨(zh (by first | omega | assumption | decide | (constructor <;> unfold twoS atS <;> split <;> omega))), Own.cell (Own.on ho138 hC) (ints_at (by omega) (by omega)), At.cell (At.on u137 hC) (spCells_66 P)⟩) ?_
      cases hc189 : (((hitsL s (sideOf (P.bd s.toNat))).getD g129.i.toNat 0) == P.ep)
      ·have y189 := hc189; try simp only [zbq] at y189
       refine zq 11 [rz 2 b1, iz 5 (sideOf (P.bd s.toNat)), (6, .slice g129.ao g129.l.length g129.cap), (9, .slice (some ⟨g142, 0, none⟩) ((hitsL s (sideOf (P.bd s.toNat))).length) cap123), iz 10 g129.i, (111, .bool false)] ?_
       refine q_out (by kernel_rfl) ?_
       intro w190 v191
       have v195 := zt v151 v191
       have hz197 := Mod.size v191
       exact zb () v195
      have y189 := hc189; try simp only [zbq] at y189
      refine zqo 4 [rz 2 b1, iz 5 (sideOf (P.bd s.toNat)), (6, .slice g129.ao g129.l.length g129.cap), (9, .slice (some ⟨g142, 0, none⟩) ((hitsL s (sideOf (P.bd s.toNat))).length) cap123), iz 10 g129.i, (88, .bool false), (100, .bool true), iz 104 ((hitsL s (sideOf (P.bd s.toNat))).getD g129.i.toNat 0)] [.prop (0 ≤ g129.i ∧ g129.i < (((hitsL s (sideOf (P.bd s.toNat))).length : Nat) : Int)), .cell ⟨g142, (0 + g129.i.toNat * 1), none⟩ (.int .i64 ((hitsL s (sideOf (P.bd s.toNat))).getD g129.i.toNat 0))] (fun _ hC => ⟨(zh (by first | omega | assumption | decide | (constructor <;> unfold twoS atS <;> split <;> omega))), Own.cell (Own.on ho138 hC) (ints_at (by omega) (by omega))⟩) ?_
      refine zqk (some 105) (fun w_ hC => c40 ((hitsL s (sideOf (P.bd s.toNat))).getD g129.i.toNat 0) w_ (by omega)) ?_
      refine zq 2 [rz 2 b1, iz 5 (sideOf (P.bd s.toNat)), (6, .slice g129.ao g129.l.length g129.cap), (9, .slice (some ⟨g142, 0, none⟩) ((hitsL s (sideOf (P.bd s.toNat))).length) cap123), iz 10 g129.i, (88, .bool false), (100, .bool true), iz 105 (((hitsL s (sideOf (P.bd s.toNat))).getD g129.i.toNat 0) / 8), iz 107 (IntKind.i64.wrap (3 * (sideOf (P.bd s.toNat))))] ?_
      rw [zi ((3 : Int) * (sideOf (P.bd s.toNat))) (by omega) (by omega)]
      refine zq 1 [rz 2 b1, iz 5 (sideOf (P.bd s.toNat)), (6, .slice g129.ao g129.l.length g129.cap), (9, .slice (some ⟨g142, 0, none⟩) ((hitsL s (sideOf (P.bd s.toNat))).length) cap123), iz 10 g129.i, (88, .bool false), (100, .bool true), iz 105 (((hitsL s (sideOf (P.bd s.toNat))).getD g129.i.toNat 0) / 8), iz 108 (IntKind.i64.wrap (5 - (3 * (sideOf (P.bd s.toNat)))))] ?_
      rw [zi ((5 : Int) - ((3 : Int) * (sideOf (P.bd s.toNat)))) (by omega) (by omega)]
      refine zq 3 [rz 2 b1, iz 5 (sideOf (P.bd s.toNat)), (6, .slice g129.ao g129.l.length g129.cap), (9, .slice (some ⟨g142, 0, none⟩) ((hitsL s (sideOf (P.bd s.toNat))).length) cap123), iz 10 g129.i, (111, .bool ((((hitsL s (sideOf (P.bd s.toNat))).getD g129.i.toNat 0) / 8) == (5 - (3 * (sideOf (P.bd s.toNat))))))] ?_
      refine q_out (by kernel_rfl) ?_
      intro w198 v199
      have v203 := zt v151 v199
      have hz205 := Mod.size v199
      exact zb () v203
     have y179 := hc179; try simp only [zbq] at y179
     refine zq 23 [rz 2 b1, iz 5 (sideOf (P.bd s.toNat)), (6, .slice g129.ao g129.l.length g129.cap), (9, .slice (some ⟨g142, 0, none⟩) ((hitsL s (sideOf (P.bd s.toNat))).length) cap123), iz 10 g129.i, (111, .bool true)] ?_
     refine q_out (by kernel_rfl) ?_
     intro w206 v207
     have v211 := zt v151 v207
     have hz213 := Mod.size v207
     exact zb () v211
    intro _ w149 v150
    have ho215 := Own.on ho138 v150
    have ho216 := Own.on ho133 v150
    have v217 := zt v139 v150
    have v218 := Mod.trans v131 (Mod.of_nil v150)
    have hz219 := Mod.size v150
    refine zc (fun hc220 => ?_) fun hc220 => ?_
    ·have y220 := hc220; try simp only [zbq] at y220
     refine w_region ?_
     refine zo 5 [rz 2 b1, iz 5 (sideOf (P.bd s.toNat)), (9, .slice (some ⟨g142, 0, none⟩) ((hitsL s (sideOf (P.bd s.toNat))).length) cap123), iz 10 g129.i, (112, .slice g129.ao g129.l.length g129.cap), iz 116 ((hitsL s (sideOf (P.bd s.toNat))).getD g129.i.toNat 0)] [.prop (0 ≤ g129.i ∧ g129.i < (((hitsL s (sideOf (P.bd s.toNat))).length : Nat) : Int)), .cell ⟨g142, (0 + g129.i.toNat * 1), none⟩ (.int .i64 ((hitsL s (sideOf (P.bd s.toNat))).getD g129.i.toNat 0))] (⟨(zh (by first | omega | assumption | decide | (constructor <;> unfold twoS atS <;> split <;> omega))), Own.cell ho215 (ints_at (by omega) (by omega))⟩) ?_
     refine reg_bslice (#[.int .i64 ((hitsL s (sideOf (P.bd s.toNat))).getD g129.i.toNat 0)]) 3 1 (some 117) (by kernel_rfl) ?_
     intro b221 w222 hn223
     have hb224 := Nat.le_trans v217.size hn223.base
     have hb225 := Nat.le_trans v218.size hn223.base
     have v226 := hn223.mod
     have ho229 := Own.on ho216 v226
     have v231 := Mod.trans v218 (Mod.of_nil v226)
     have hz232 := Mod.size v226
     have u233 := hn223.at_
     refine reg_append2 g129.ao g129.l.length g129.cap ⟨b221, 0, none⟩ 1 1 3 (some 118) 1 8 (b0 := w43.heap.size) (xs := ints g129.l) (news := ints ([((hitsL s (sideOf (P.bd s.toNat))).getD g129.i.toNat 0)])) (by kernel_rfl) ho229 (by decide) (ints_len _) (at_cells (l := ints ([((hitsL s (sideOf (P.bd s.toNat))).getD g129.i.toNat 0)])) (by exact u233)) (ints_one _) (by have h1 := hx134.len; (try simp only [List.length_cons, List.length_nil, List.length_append] at h1); omega) (by omega) ?_
     intro ao234 cap235 w236 ho237 v238 hd239
     have v243 := Mod.fresh' v231 v238 hw132
     have hz244 := Mod.size v238
     rw [show (g129.l.length + 1 : Nat) = (g129.l ++ [((hitsL s (sideOf (P.bd s.toNat))).getD g129.i.toNat 0)]).length from (by first | rfl | simp)]
     have ho245 : Own w236 w43.heap.size 3 1 ao234 (g129.l ++ [((hitsL s (sideOf (P.bd s.toNat))).getD g129.i.toNat 0)]).length cap235 (ints (g129.l ++ [((hitsL s (sideOf (P.bd s.toNat))).getD g129.i.toNat 0)])) := Own.cast ho237 (by first | rfl | simp) (by first | rfl | rw [ints_append])
     have hw246 := acc_where hw132 v231 hd239
     refine zs 1 [rz 2 b1, iz 5 (sideOf (P.bd s.toNat)), (6, .slice ao234 ((g129.l ++ [((hitsL s (sideOf (P.bd s.toNat))).getD g129.i.toNat 0)]).length) cap235), (9, .slice (some ⟨g142, 0, none⟩) ((hitsL s (sideOf (P.bd s.toNat))).length) cap123), iz 10 g129.i] ?_
     refine ze ?_
     refine n_block ?_
     refine n_then ?_
     refine w_region ?_
     refine zs 2 [rz 2 b1, iz 5 (sideOf (P.bd s.toNat)), (6, .slice ao234 ((g129.l ++ [((hitsL s (sideOf (P.bd s.toNat))).getD g129.i.toNat 0)]).length) cap235), (9, .slice (some ⟨g142, 0, none⟩) ((hitsL s (sideOf (P.bd s.toNat))).length) cap123), iz 72 (IntKind.i64.wrap (g129.i + 1))] ?_
     rw [zi (g129.i + (1 : Int)) (by omega) (by omega)]
     refine zs 1 [rz 2 b1, iz 5 (sideOf (P.bd s.toNat)), (6, .slice ao234 ((g129.l ++ [((hitsL s (sideOf (P.bd s.toNat))).getD g129.i.toNat 0)]).length) cap235), (9, .slice (some ⟨g142, 0, none⟩) ((hitsL s (sideOf (P.bd s.toNat))).length) cap123), iz 10 (g129.i + 1)] ?_
     refine ze ?_
     exact l_back (⟨g129.i + 1, (g129.l ++ [((hitsL s (sideOf (P.bd s.toNat))).getD g129.i.toNat 0)]), ao234, cap235⟩ : GI) [2, 5, 6, 9, 10] (by kernel_rfl) (by dsimp only; omega) ⟨(by constructor <;> (try dsimp only) <;> omega), v243, hw246, ho245, (hx134.step (by omega) (by omega) (by rw [show stepB P.bd P.ep (sideOf (P.bd s.toNat)) _ = _ from hc220]; first | rfl | (rw [cond_false, List.append_nil])))⟩
    have y220 := hc220; try simp only [zbq] at y220
    refine w_skip ?_
    refine n_block ?_
    refine n_then ?_
    refine w_region ?_
    refine zs 2 [rz 2 b1, iz 5 (sideOf (P.bd s.toNat)), (6, .slice g129.ao g129.l.length g129.cap), (9, .slice (some ⟨g142, 0, none⟩) ((hitsL s (sideOf (P.bd s.toNat))).length) cap123), iz 72 (IntKind.i64.wrap (g129.i + 1))] ?_
    rw [zi (g129.i + (1 : Int)) (by omega) (by omega)]
    refine zs 1 [rz 2 b1, iz 5 (sideOf (P.bd s.toNat)), (6, .slice g129.ao g129.l.length g129.cap), (9, .slice (some ⟨g142, 0, none⟩) ((hitsL s (sideOf (P.bd s.toNat))).length) cap123), iz 10 (g129.i + 1)] ?_
    refine ze ?_
    exact l_back (⟨g129.i + 1, g129.l, g129.ao, g129.cap⟩ : GI) [2, 5, 6, 9, 10] (by kernel_rfl) (by dsimp only; omega) ⟨(by constructor <;> (try dsimp only) <;> omega), v218, hw132, ho216, (hx134.step (by omega) (by omega) (by rw [show stepB P.bd P.ep (sideOf (P.bd s.toNat)) _ = _ from hc220]; first | rfl | (rw [cond_false, List.append_nil])))⟩
   have y141 := of_decide_eq_false hc141
   refine w_exit ?_
   refine x_then ?_
   refine x_then ?_
   refine x_hit ?_
   refine zn ?_
   refine zs 2 [(4, .slice g129.ao g129.l.length g129.cap)] ?_
   refine zz ?_
   refine w_ret ?_
   exact ret1 rfl rfl (by have hl := (show g129.l = stepsL P.bd P.ep s from by rw [hx134.fin (by omega) (by omega), (show ([(oneS s (sideOf (P.bd s.toNat)))] ++ [(twoS s (sideOf (P.bd s.toNat)))]) = onL P.bd s (sideOf (P.bd s.toNat)) from by unfold onL; rw [show oneB P.bd s (sideOf (P.bd s.toNat)) = _ from hc41]; rw [show twoB P.bd s (sideOf (P.bd s.toNat)) = _ from hc99]; rfl)]; rfl); exact ⟨g129.ao, g129.cap, (by rw [hl]), v139, Own.cast (Own.base ho133 (by omega)) (by rw [hl]) (by rw [hl])⟩)
  have y99 := hc99; try simp only [zbq] at y99
  refine w_skip ?_
  refine zn ?_
  refine zs 2 [rz 2 b1, iz 5 (sideOf (P.bd s.toNat)), (6, .slice ao51 (([(oneS s (sideOf (P.bd s.toNat)))]).length) cap52), iz 64 s, iz 65 (sideOf (P.bd s.toNat))] ?_
  refine reg_call 80 [.int .i64 s, .int .i64 (sideOf (P.bd s.toNat))] (some 66) (by kernel_rfl) (c80 s (sideOf (P.bd s.toNat)) (by omega) (sideOf_or _)) ?_
  rintro _ w247 ⟨ao249, cap250, rfl, v248, ho251⟩; refine ⟨_, rfl, ?_⟩
  have u252 := At.on u95 v248
  have ho253 := Own.on ho96 v248
  have v254 := zt v97 v248
  have hz255 := Mod.size v248
  refine zs 1 [rz 2 b1, iz 5 (sideOf (P.bd s.toNat)), (6, .slice ao51 (([(oneS s (sideOf (P.bd s.toNat)))]).length) cap52), (9, .slice ao249 ((hitsL s (sideOf (P.bd s.toNat))).length) cap250)] ?_
  refine zz ?_
  refine w_seq ?_
  refine zw ?_
  refine zs 1 [rz 2 b1, iz 5 (sideOf (P.bd s.toNat)), (6, .slice ao51 (([(oneS s (sideOf (P.bd s.toNat)))]).length) cap52), (9, .slice ao249 ((hitsL s (sideOf (P.bd s.toNat))).length) cap250), iz 10 0] ?_
  refine zz ?_
  refine w_block ?_
  refine w_loop (γ := GI) (fun g256 => (((hitsL s (sideOf (P.bd s.toNat))).length : Int) - g256.i).toNat) (fun (g256 : GI) => [(2, pz b1), (5, .int .i64 (sideOf (P.bd s.toNat))), (6, .slice g256.ao g256.l.length g256.cap), (9, .slice ao249 ((hitsL s (sideOf (P.bd s.toNat))).length) cap250), (10, .int .i64 g256.i)]) (fun (g256 : GI) w_ => (0 ≤ g256.i ∧ g256.i ≤ ((hitsL s (sideOf (P.bd s.toNat))).length : Int)) ∧ Mod (blk ao51) w247 w_ ∧ (∀ x ∈ blk g256.ao, x ∈ ((blk ao51) : List Nat) ∨ w247.heap.size ≤ x) ∧ Own w_ w43.heap.size 3 1 g256.ao g256.l.length g256.cap (ints g256.l) ∧ (StepI ([(oneS s (sideOf (P.bd s.toNat)))]) P.bd P.ep (sideOf (P.bd s.toNat)) s g256)) ⟨0, [(oneS s (sideOf (P.bd s.toNat)))], ao51, cap52⟩ (hold_keep [2, 5, 6, 9, 10] (by kernel_rfl)) ⟨(by constructor <;> (try dsimp only) <;> omega), Mod.refl _ _, (fun x hx => Or.inl hx), ho253, (List.append_nil _).symm⟩ ?_
  rintro g256 w257 ⟨⟨h262, h263⟩, v258, hw259, ho260, hx261⟩
  have u264 := At.keep u252 v258 (own_off ho253 u252 rfl)
  have ho265 := Own.keep ho251 v258 (fun x hx hy => have h1 := Own.lt ho251 x hx; (by have h3 := Own.lt ho60 x hy; omega))
  have v266 := Mod.fresh' v254 v258 (fun x hx => Or.inr (by have := Own.lt ho253 x hx; omega))
  have hz267 := Mod.size v258
  refine w_seq ?_
  refine zw ?_
  refine zs 4 [rz 2 b1, iz 5 (sideOf (P.bd s.toNat)), (6, .slice g256.ao g256.l.length g256.cap), (9, .slice ao249 ((hitsL s (sideOf (P.bd s.toNat))).length) cap250), iz 10 g256.i, (70, .bool (decide (g256.i < (((hitsL s (sideOf (P.bd s.toNat))).length : Nat) : Int))))] ?_
  refine zz ?_
  refine zc (fun hc268 => ?_) fun hc268 => ?_
  ·have y268 := of_decide_eq_true hc268
   obtain ⟨g269, cur270, rfl, hb271, u272, ht273, hn274, hs275⟩ := Own.some ho265 (by omega)
   have hhr := hitsAt_rng (s := s) (sd := (sideOf (P.bd s.toNat))) (i := g256.i) (by omega) (by omega)
   refine w_skip ?_
   refine n_then ?_
   refine w_seq ?_
   refine w_block ?_
   refine zw ?_
   refine zo 7 [rz 2 b1, iz 5 (sideOf (P.bd s.toNat)), (6, .slice g256.ao g256.l.length g256.cap), (9, .slice (some ⟨g269, 0, none⟩) ((hitsL s (sideOf (P.bd s.toNat))).length) cap250), iz 10 g256.i, iz 79 (P.bd (0 + ((hitsL s (sideOf (P.bd s.toNat))).getD g256.i.toNat 0).toNat * 1))] [.prop (0 ≤ g256.i ∧ g256.i < (((hitsL s (sideOf (P.bd s.toNat))).length : Nat) : Int)), .cell ⟨g269, (0 + g256.i.toNat * 1), none⟩ (.int .i64 ((hitsL s (sideOf (P.bd s.toNat))).getD g256.i.toNat 0)), .prop (0 ≤ ((hitsL s (sideOf (P.bd s.toNat))).getD g256.i.toNat 0) ∧ ((hitsL s (sideOf (P.bd s.toNat))).getD g256.i.toNat 0) < ((64 : Nat) : Int)), .cell ⟨b1, (0 + ((hitsL s (sideOf (P.bd s.toNat))).getD g256.i.toNat 0).toNat * 1), none⟩ (.int .i64 (P.bd (0 + ((hitsL s (sideOf (P.bd s.toNat))).getD g256.i.toNat 0).toNat * 1)))] (⟨(zh (by first | omega | assumption | decide | (constructor <;> unfold twoS atS <;> split <;> omega))), Own.cell ho265 (ints_at (by omega) (by omega)), (zh (by first | omega | assumption | decide | (constructor <;> unfold twoS atS <;> split <;> omega))), At.cell u264 (spCells_bd P (by omega))⟩) ?_
   rw [(show ((0 + ((hitsL s (sideOf (P.bd s.toNat))).getD g256.i.toNat 0).toNat * 1) : Nat) = (((hitsL s (sideOf (P.bd s.toNat))).getD g256.i.toNat 0).toNat) from (by omega))]
   refine zs 1 [rz 2 b1, iz 5 (sideOf (P.bd s.toNat)), (6, .slice g256.ao g256.l.length g256.cap), (9, .slice (some ⟨g269, 0, none⟩) ((hitsL s (sideOf (P.bd s.toNat))).length) cap250), iz 10 g256.i, iz 11 (P.bd (((hitsL s (sideOf (P.bd s.toNat))).getD g256.i.toNat 0).toNat))] ?_
   refine zz ?_
   refine w_cut (γ := Unit) (fun _ => [(2, pz b1), (5, .int .i64 (sideOf (P.bd s.toNat))), (6, .slice g256.ao g256.l.length g256.cap), (9, .slice (some ⟨g269, 0, none⟩) ((hitsL s (sideOf (P.bd s.toNat))).length) cap250), (10, .int .i64 g256.i), (111, .bool ((((P.bd (((hitsL s (sideOf (P.bd s.toNat))).getD g256.i.toNat 0).toNat)) != 0) && ((sideOf (P.bd (((hitsL s (sideOf (P.bd s.toNat))).getD g256.i.toNat 0).toNat))) != (sideOf (P.bd s.toNat)))) || ((((P.bd (((hitsL s (sideOf (P.bd s.toNat))).getD g256.i.toNat 0).toNat)) == 0) && (((hitsL s (sideOf (P.bd s.toNat))).getD g256.i.toNat 0) == P.ep)) && ((((hitsL s (sideOf (P.bd s.toNat))).getD g256.i.toNat 0) / 8) == (5 - (3 * (sideOf (P.bd s.toNat))))))))]) (fun _ w_ => Mod [] w257 w_) ?_ ?_
   ·have v278 : Mod [] w257 w257 := Mod.refl _ _
    refine w_quiet (by kernel_rfl) (by kernel_rfl) ?_
    refine zq 3 [rz 2 b1, iz 5 (sideOf (P.bd s.toNat)), (6, .slice g256.ao g256.l.length g256.cap), (9, .slice (some ⟨g269, 0, none⟩) ((hitsL s (sideOf (P.bd s.toNat))).length) cap250), iz 10 g256.i, iz 11 (P.bd (((hitsL s (sideOf (P.bd s.toNat))).getD g256.i.toNat 0).toNat)), (82, .bool ((P.bd (((hitsL s (sideOf (P.bd s.toNat))).getD g256.i.toNat 0).toNat)) != 0))] ?_
    cases hc279 : ((P.bd (((hitsL s (sideOf (P.bd s.toNat))).getD g256.i.toNat 0).toNat)) != (0 : Int))
    ·have y279 := hc279; try simp only [zbq] at y279
     refine zq 9 [rz 2 b1, iz 5 (sideOf (P.bd s.toNat)), (6, .slice g256.ao g256.l.length g256.cap), (9, .slice (some ⟨g269, 0, none⟩) ((hitsL s (sideOf (P.bd s.toNat))).length) cap250), iz 10 g256.i, (88, .bool false), (91, .bool ((P.bd (((hitsL s (sideOf (P.bd s.toNat))).getD g256.i.toNat 0).toNat)) == 0))] ?_
     cases hc280 : ((P.bd (((hitsL s (sideOf (P.bd s.toNat))).getD g256.i.toNat 0).toNat)) == (0 : Int))
     ·have y280 := hc280; try simp only [zbq] at y280
      refine zq 20 [rz 2 b1, iz 5 (sideOf (P.bd s.toNat)), (6, .slice g256.ao g256.l.length g256.cap), (9, .slice (some ⟨g269, 0, none⟩) ((hitsL s (sideOf (P.bd s.toNat))).length) cap250), iz 10 g256.i, (111, .bool false)] ?_
      refine q_out (by kernel_rfl) ?_
      intro w281 v282
      have v286 := zt v278 v282
      have hz288 := Mod.size v282
      exact zb () v286
     have y280 := hc280; try simp only [zbq] at y280
     refine zqo 9 [rz 2 b1, iz 5 (sideOf (P.bd s.toNat)), (6, .slice g256.ao g256.l.length g256.cap), (9, .slice (some ⟨g269, 0, none⟩) ((hitsL s (sideOf (P.bd s.toNat))).length) cap250), iz 10 g256.i, (88, .bool false), (100, .bool (((hitsL s (sideOf (P.bd s.toNat))).getD g256.i.toNat 0) == P.ep))] [.prop (0 ≤ g256.i ∧ g256.i < (((hitsL s (sideOf (P.bd s.toNat))).length : Nat) : Int)), .cell ⟨g269, (0 + g256.i.toNat * 1), none⟩ (.int .i64 ((hitsL s (sideOf (P.bd s.toNat))).getD g256.i.toNat 0)), .cell ⟨b1, 66, none⟩ (.int .i64 P.ep)] (fun _ hC => ⟨(zh (by first | omega | assumption | decide | (constructor <;> unfold twoS atS <;> split <;> omega))), Own.cell (Own.on ho265 hC) (ints_at (by omega) (by omega)), At.cell (At.on u264 hC) (spCells_66 P)⟩) ?_
     cases hc289 : (((hitsL s (sideOf (P.bd s.toNat))).getD g256.i.toNat 0) == P.ep)
     ·have y289 := hc289; try simp only [zbq] at y289
      refine zq 11 [rz 2 b1, iz 5 (sideOf (P.bd s.toNat)), (6, .slice g256.ao g256.l.length g256.cap), (9, .slice (some ⟨g269, 0, none⟩) ((hitsL s (sideOf (P.bd s.toNat))).length) cap250), iz 10 g256.i, (111, .bool false)] ?_
      refine q_out (by kernel_rfl) ?_
      intro w290 v291
      have v295 := zt v278 v291
      have hz297 := Mod.size v291
      exact zb () v295
     have y289 := hc289; try simp only [zbq] at y289
     refine zqo 4 [rz 2 b1, iz 5 (sideOf (P.bd s.toNat)), (6, .slice g256.ao g256.l.length g256.cap), (9, .slice (some ⟨g269, 0, none⟩) ((hitsL s (sideOf (P.bd s.toNat))).length) cap250), iz 10 g256.i, (88, .bool false), (100, .bool true), iz 104 ((hitsL s (sideOf (P.bd s.toNat))).getD g256.i.toNat 0)] [.prop (0 ≤ g256.i ∧ g256.i < (((hitsL s (sideOf (P.bd s.toNat))).length : Nat) : Int)), .cell ⟨g269, (0 + g256.i.toNat * 1), none⟩ (.int .i64 ((hitsL s (sideOf (P.bd s.toNat))).getD g256.i.toNat 0))] (fun _ hC => ⟨(zh (by first | omega | assumption | decide | (constructor <;> unfold twoS atS <;> split <;> omega))), Own.cell (Own.on ho265 hC) (ints_at (by omega) (by omega))⟩) ?_
     refine zqk (some 105) (fun w_ hC => c40 ((hitsL s (sideOf (P.bd s.toNat))).getD g256.i.toNat 0) w_ (by omega)) ?_
     refine zq 2 [rz 2 b1, iz 5 (sideOf (P.bd s.toNat)), (6, .slice g256.ao g256.l.length g256.cap), (9, .slice (some ⟨g269, 0, none⟩) ((hitsL s (sideOf (P.bd s.toNat))).length) cap250), iz 10 g256.i, (88, .bool false), (100, .bool true), iz 105 (((hitsL s (sideOf (P.bd s.toNat))).getD g256.i.toNat 0) / 8), iz 107 (IntKind.i64.wrap (3 * (sideOf (P.bd s.toNat))))] ?_
     rw [zi ((3 : Int) * (sideOf (P.bd s.toNat))) (by omega) (by omega)]
     refine zq 1 [rz 2 b1, iz 5 (sideOf (P.bd s.toNat)), (6, .slice g256.ao g256.l.length g256.cap), (9, .slice (some ⟨g269, 0, none⟩) ((hitsL s (sideOf (P.bd s.toNat))).length) cap250), iz 10 g256.i, (88, .bool false), (100, .bool true), iz 105 (((hitsL s (sideOf (P.bd s.toNat))).getD g256.i.toNat 0) / 8), iz 108 (IntKind.i64.wrap (5 - (3 * (sideOf (P.bd s.toNat)))))] ?_
     rw [zi ((5 : Int) - ((3 : Int) * (sideOf (P.bd s.toNat)))) (by omega) (by omega)]
     refine zq 3 [rz 2 b1, iz 5 (sideOf (P.bd s.toNat)), (6, .slice g256.ao g256.l.length g256.cap), (9, .slice (some ⟨g269, 0, none⟩) ((hitsL s (sideOf (P.bd s.toNat))).length) cap250), iz 10 g256.i, (111, .bool ((((hitsL s (sideOf (P.bd s.toNat))).getD g256.i.toNat 0) / 8) == (5 - (3 * (sideOf (P.bd s.toNat))))))] ?_
     refine q_out (by kernel_rfl) ?_
     intro w298 v299
     have v303 := zt v278 v299
     have hz305 := Mod.size v299
     exact zb () v303
    have y279 := hc279; try simp only [zbq] at y279
    refine zq 1 [rz 2 b1, iz 5 (sideOf (P.bd s.toNat)), (6, .slice g256.ao g256.l.length g256.cap), (9, .slice (some ⟨g269, 0, none⟩) ((hitsL s (sideOf (P.bd s.toNat))).length) cap250), iz 10 g256.i, iz 11 (P.bd (((hitsL s (sideOf (P.bd s.toNat))).getD g256.i.toNat 0).toNat)), (82, .bool true), iz 83 (P.bd (((hitsL s (sideOf (P.bd s.toNat))).getD g256.i.toNat 0).toNat))] ?_
    refine zqk (some 84) (fun w_ hC => c45 (P.bd (((hitsL s (sideOf (P.bd s.toNat))).getD g256.i.toNat 0).toNat)) w_) ?_
    refine zq 4 [rz 2 b1, iz 5 (sideOf (P.bd s.toNat)), (6, .slice g256.ao g256.l.length g256.cap), (9, .slice (some ⟨g269, 0, none⟩) ((hitsL s (sideOf (P.bd s.toNat))).length) cap250), iz 10 g256.i, iz 11 (P.bd (((hitsL s (sideOf (P.bd s.toNat))).getD g256.i.toNat 0).toNat)), (88, .bool ((sideOf (P.bd (((hitsL s (sideOf (P.bd s.toNat))).getD g256.i.toNat 0).toNat))) != (sideOf (P.bd s.toNat))))] ?_
    cases hc306 : ((sideOf (P.bd (((hitsL s (sideOf (P.bd s.toNat))).getD g256.i.toNat 0).toNat))) != (sideOf (P.bd s.toNat)))
    ·have y306 := hc306; try simp only [zbq] at y306
     refine zq 3 [rz 2 b1, iz 5 (sideOf (P.bd s.toNat)), (6, .slice g256.ao g256.l.length g256.cap), (9, .slice (some ⟨g269, 0, none⟩) ((hitsL s (sideOf (P.bd s.toNat))).length) cap250), iz 10 g256.i, (88, .bool false), (91, .bool ((P.bd (((hitsL s (sideOf (P.bd s.toNat))).getD g256.i.toNat 0).toNat)) == 0))] ?_
     cases hc307 : ((P.bd (((hitsL s (sideOf (P.bd s.toNat))).getD g256.i.toNat 0).toNat)) == (0 : Int))
     ·have y307 := hc307; try simp only [zbq] at y307
      refine zq 20 [rz 2 b1, iz 5 (sideOf (P.bd s.toNat)), (6, .slice g256.ao g256.l.length g256.cap), (9, .slice (some ⟨g269, 0, none⟩) ((hitsL s (sideOf (P.bd s.toNat))).length) cap250), iz 10 g256.i, (111, .bool false)] ?_
      refine q_out (by kernel_rfl) ?_
      intro w308 v309
      have v313 := zt v278 v309
      have hz315 := Mod.size v309
      exact zb () v313
     have y307 := hc307; try simp only [zbq] at y307
     refine zqo 9 [rz 2 b1, iz 5 (sideOf (P.bd s.toNat)), (6, .slice g256.ao g256.l.length g256.cap), (9, .slice (some ⟨g269, 0, none⟩) ((hitsL s (sideOf (P.bd s.toNat))).length) cap250), iz 10 g256.i, (88, .bool false), (100, .bool (((hitsL s (sideOf (P.bd s.toNat))).getD g256.i.toNat 0) == P.ep))] [.prop (0 ≤ g256.i ∧ g256.i < (((hitsL s (sideOf (P.bd s.toNat))).length : Nat) : Int)), .cell ⟨g269, (0 + g256.i.toNat * 1), none⟩ (.int .i64 ((hitsL s (sideOf (P.bd s.toNat))).getD g256.i.toNat 0)), .cell ⟨b1, 66, none⟩ (.int .i64 P.ep)] (fun _ hC => ⟨(zh (by first | omega | assumption | decide | (constructor <;> unfold twoS atS <;> split <;> omega))), Own.cell (Own.on ho265 hC) (ints_at (by omega) (by omega)), At.cell (At.on u264 hC) (spCells_66 P)⟩) ?_
     cases hc316 : (((hitsL s (sideOf (P.bd s.toNat))).getD g256.i.toNat 0) == P.ep)
     ·have y316 := hc316; try simp only [zbq] at y316
      refine zq 11 [rz 2 b1, iz 5 (sideOf (P.bd s.toNat)), (6, .slice g256.ao g256.l.length g256.cap), (9, .slice (some ⟨g269, 0, none⟩) ((hitsL s (sideOf (P.bd s.toNat))).length) cap250), iz 10 g256.i, (111, .bool false)] ?_
      refine q_out (by kernel_rfl) ?_
      intro w317 v318
      have v322 := zt v278 v318
      have hz324 := Mod.size v318
      exact zb () v322
     have y316 := hc316; try simp only [zbq] at y316
     refine zqo 4 [rz 2 b1, iz 5 (sideOf (P.bd s.toNat)), (6, .slice g256.ao g256.l.length g256.cap), (9, .slice (some ⟨g269, 0, none⟩) ((hitsL s (sideOf (P.bd s.toNat))).length) cap250), iz 10 g256.i, (88, .bool false), (100, .bool true), iz 104 ((hitsL s (sideOf (P.bd s.toNat))).getD g256.i.toNat 0)] [.prop (0 ≤ g256.i ∧ g256.i < (((hitsL s (sideOf (P.bd s.toNat))).length : Nat) : Int)), .cell ⟨g269, (0 + g256.i.toNat * 1), none⟩ (.int .i64 ((hitsL s (sideOf (P.bd s.toNat))).getD g256.i.toNat 0))] (fun _ hC => ⟨(zh (by first | omega | assumption | decide | (constructor <;> unfold twoS atS <;> split <;> omega))), Own.cell (Own.on ho265 hC) (ints_at (by omega) (by omega))⟩) ?_
     refine zqk (some 105) (fun w_ hC => c40 ((hitsL s (sideOf (P.bd s.toNat))).getD g256.i.toNat 0) w_ (by omega)) ?_
     refine zq 2 [rz 2 b1, iz 5 (sideOf (P.bd s.toNat)), (6, .slice g256.ao g256.l.length g256.cap), (9, .slice (some ⟨g269, 0, none⟩) ((hitsL s (sideOf (P.bd s.toNat))).length) cap250), iz 10 g256.i, (88, .bool false), (100, .bool true), iz 105 (((hitsL s (sideOf (P.bd s.toNat))).getD g256.i.toNat 0) / 8), iz 107 (IntKind.i64.wrap (3 * (sideOf (P.bd s.toNat))))] ?_
     rw [zi ((3 : Int) * (sideOf (P.bd s.toNat))) (by omega) (by omega)]
     refine zq 1 [rz 2 b1, iz 5 (sideOf (P.bd s.toNat)), (6, .slice g256.ao g256.l.length g256.cap), (9, .slice (some ⟨g269, 0, none⟩) ((hitsL s (sideOf (P.bd s.toNat))).length) cap250), iz 10 g256.i, (88, .bool false), (100, .bool true), iz 105 (((hitsL s (sideOf (P.bd s.toNat))).getD g256.i.toNat 0) / 8), iz 108 (IntKind.i64.wrap (5 - (3 * (sideOf (P.bd s.toNat)))))] ?_
     rw [zi ((5 : Int) - ((3 : Int) * (sideOf (P.bd s.toNat)))) (by omega) (by omega)]
     refine zq 3 [rz 2 b1, iz 5 (sideOf (P.bd s.toNat)), (6, .slice g256.ao g256.l.length g256.cap), (9, .slice (some ⟨g269, 0, none⟩) ((hitsL s (sideOf (P.bd s.toNat))).length) cap250), iz 10 g256.i, (111, .bool ((((hitsL s (sideOf (P.bd s.toNat))).getD g256.i.toNat 0) / 8) == (5 - (3 * (sideOf (P.bd s.toNat))))))] ?_
     refine q_out (by kernel_rfl) ?_
     intro w325 v326
     have v330 := zt v278 v326
     have hz332 := Mod.size v326
     exact zb () v330
    have y306 := hc306; try simp only [zbq] at y306
    refine zq 23 [rz 2 b1, iz 5 (sideOf (P.bd s.toNat)), (6, .slice g256.ao g256.l.length g256.cap), (9, .slice (some ⟨g269, 0, none⟩) ((hitsL s (sideOf (P.bd s.toNat))).length) cap250), iz 10 g256.i, (111, .bool true)] ?_
    refine q_out (by kernel_rfl) ?_
    intro w333 v334
    have v338 := zt v278 v334
    have hz340 := Mod.size v334
    exact zb () v338
   intro _ w276 v277
   have ho342 := Own.on ho265 v277
   have ho343 := Own.on ho260 v277
   have v344 := zt v266 v277
   have v345 := Mod.trans v258 (Mod.of_nil v277)
   have hz346 := Mod.size v277
   refine zc (fun hc347 => ?_) fun hc347 => ?_
   ·have y347 := hc347; try simp only [zbq] at y347
    refine w_region ?_
    refine zo 5 [rz 2 b1, iz 5 (sideOf (P.bd s.toNat)), (9, .slice (some ⟨g269, 0, none⟩) ((hitsL s (sideOf (P.bd s.toNat))).length) cap250), iz 10 g256.i, (112, .slice g256.ao g256.l.length g256.cap), iz 116 ((hitsL s (sideOf (P.bd s.toNat))).getD g256.i.toNat 0)] [.prop (0 ≤ g256.i ∧ g256.i < (((hitsL s (sideOf (P.bd s.toNat))).length : Nat) : Int)), .cell ⟨g269, (0 + g256.i.toNat * 1), none⟩ (.int .i64 ((hitsL s (sideOf (P.bd s.toNat))).getD g256.i.toNat 0))] (⟨(zh (by first | omega | assumption | decide | (constructor <;> unfold twoS atS <;> split <;> omega))), Own.cell ho342 (ints_at (by omega) (by omega))⟩) ?_
    refine reg_bslice (#[.int .i64 ((hitsL s (sideOf (P.bd s.toNat))).getD g256.i.toNat 0)]) 3 1 (some 117) (by kernel_rfl) ?_
    intro b348 w349 hn350
    have hb351 := Nat.le_trans v344.size hn350.base
    have hb352 := Nat.le_trans v345.size hn350.base
    have v353 := hn350.mod
    have ho356 := Own.on ho343 v353
    have v358 := Mod.trans v345 (Mod.of_nil v353)
    have hz359 := Mod.size v353
    have u360 := hn350.at_
    refine reg_append2 g256.ao g256.l.length g256.cap ⟨b348, 0, none⟩ 1 1 3 (some 118) 1 8 (b0 := w43.heap.size) (xs := ints g256.l) (news := ints ([((hitsL s (sideOf (P.bd s.toNat))).getD g256.i.toNat 0)])) (by kernel_rfl) ho356 (by decide) (ints_len _) (at_cells (l := ints ([((hitsL s (sideOf (P.bd s.toNat))).getD g256.i.toNat 0)])) (by exact u360)) (ints_one _) (by have h1 := hx261.len; (try simp only [List.length_cons, List.length_nil, List.length_append] at h1); omega) (by omega) ?_
    intro ao361 cap362 w363 ho364 v365 hd366
    have v370 := Mod.fresh' v358 v365 hw259
    have hz371 := Mod.size v365
    rw [show (g256.l.length + 1 : Nat) = (g256.l ++ [((hitsL s (sideOf (P.bd s.toNat))).getD g256.i.toNat 0)]).length from (by first | rfl | simp)]
    have ho372 : Own w363 w43.heap.size 3 1 ao361 (g256.l ++ [((hitsL s (sideOf (P.bd s.toNat))).getD g256.i.toNat 0)]).length cap362 (ints (g256.l ++ [((hitsL s (sideOf (P.bd s.toNat))).getD g256.i.toNat 0)])) := Own.cast ho364 (by first | rfl | simp) (by first | rfl | rw [ints_append])
    have hw373 := acc_where hw259 v358 hd366
    refine zs 1 [rz 2 b1, iz 5 (sideOf (P.bd s.toNat)), (6, .slice ao361 ((g256.l ++ [((hitsL s (sideOf (P.bd s.toNat))).getD g256.i.toNat 0)]).length) cap362), (9, .slice (some ⟨g269, 0, none⟩) ((hitsL s (sideOf (P.bd s.toNat))).length) cap250), iz 10 g256.i] ?_
    refine ze ?_
    refine n_block ?_
    refine n_then ?_
    refine w_region ?_
    refine zs 2 [rz 2 b1, iz 5 (sideOf (P.bd s.toNat)), (6, .slice ao361 ((g256.l ++ [((hitsL s (sideOf (P.bd s.toNat))).getD g256.i.toNat 0)]).length) cap362), (9, .slice (some ⟨g269, 0, none⟩) ((hitsL s (sideOf (P.bd s.toNat))).length) cap250), iz 72 (IntKind.i64.wrap (g256.i + 1))] ?_
    rw [zi (g256.i + (1 : Int)) (by omega) (by omega)]
    refine zs 1 [rz 2 b1, iz 5 (sideOf (P.bd s.toNat)), (6, .slice ao361 ((g256.l ++ [((hitsL s (sideOf (P.bd s.toNat))).getD g256.i.toNat 0)]).length) cap362), (9, .slice (some ⟨g269, 0, none⟩) ((hitsL s (sideOf (P.bd s.toNat))).length) cap250), iz 10 (g256.i + 1)] ?_
    refine ze ?_
    exact l_back (⟨g256.i + 1, (g256.l ++ [((hitsL s (sideOf (P.bd s.toNat))).getD g256.i.toNat 0)]), ao361, cap362⟩ : GI) [2, 5, 6, 9, 10] (by kernel_rfl) (by dsimp only; omega) ⟨(by constructor <;> (try dsimp only) <;> omega), v370, hw373, ho372, (hx261.step (by omega) (by omega) (by rw [show stepB P.bd P.ep (sideOf (P.bd s.toNat)) _ = _ from hc347]; first | rfl | (rw [cond_false, List.append_nil])))⟩
   have y347 := hc347; try simp only [zbq] at y347
   refine w_skip ?_
   refine n_block ?_
   refine n_then ?_
   refine w_region ?_
   refine zs 2 [rz 2 b1, iz 5 (sideOf (P.bd s.toNat)), (6, .slice g256.ao g256.l.length g256.cap), (9, .slice (some ⟨g269, 0, none⟩) ((hitsL s (sideOf (P.bd s.toNat))).length) cap250), iz 72 (IntKind.i64.wrap (g256.i + 1))] ?_
   rw [zi (g256.i + (1 : Int)) (by omega) (by omega)]
   refine zs 1 [rz 2 b1, iz 5 (sideOf (P.bd s.toNat)), (6, .slice g256.ao g256.l.length g256.cap), (9, .slice (some ⟨g269, 0, none⟩) ((hitsL s (sideOf (P.bd s.toNat))).length) cap250), iz 10 (g256.i + 1)] ?_
   refine ze ?_
   exact l_back (⟨g256.i + 1, g256.l, g256.ao, g256.cap⟩ : GI) [2, 5, 6, 9, 10] (by kernel_rfl) (by dsimp only; omega) ⟨(by constructor <;> (try dsimp only) <;> omega), v345, hw259, ho343, (hx261.step (by omega) (by omega) (by rw [show stepB P.bd P.ep (sideOf (P.bd s.toNat)) _ = _ from hc347]; first | rfl | (rw [cond_false, List.append_nil])))⟩
  have y268 := of_decide_eq_false hc268
  refine w_exit ?_
  refine x_then ?_
  refine x_then ?_
  refine x_hit ?_
  refine zn ?_
  refine zs 2 [(4, .slice g256.ao g256.l.length g256.cap)] ?_
  refine zz ?_
  refine w_ret ?_
  exact ret1 rfl rfl (by have hl := (show g256.l = stepsL P.bd P.ep s from by rw [hx261.fin (by omega) (by omega), (show [(oneS s (sideOf (P.bd s.toNat)))] = onL P.bd s (sideOf (P.bd s.toNat)) from by unfold onL; rw [show oneB P.bd s (sideOf (P.bd s.toNat)) = _ from hc41]; rw [show twoB P.bd s (sideOf (P.bd s.toNat)) = _ from hc99]; rfl)]; rfl); exact ⟨g256.ao, g256.cap, (by rw [hl]), v266, Own.cast (Own.base ho260 (by omega)) (by rw [hl]) (by rw [hl])⟩)
 have y41 := hc41; try simp only [zbq] at y41
 refine w_skip ?_
 refine zn ?_
 refine zs 2 [rz 2 b1, iz 5 (sideOf (P.bd s.toNat)), (6, .slice none 0 0), iz 64 s, iz 65 (sideOf (P.bd s.toNat))] ?_
 refine reg_call 80 [.int .i64 s, .int .i64 (sideOf (P.bd s.toNat))] (some 66) (by kernel_rfl) (c80 s (sideOf (P.bd s.toNat)) (by omega) (sideOf_or _)) ?_
 rintro _ w374 ⟨ao376, cap377, rfl, v375, ho378⟩; refine ⟨_, rfl, ?_⟩
 have u379 := At.on u38 v375
 have v380 := zt v39 v375
 have hz381 := Mod.size v375
 refine zs 1 [rz 2 b1, iz 5 (sideOf (P.bd s.toNat)), (6, .slice none 0 0), (9, .slice ao376 ((hitsL s (sideOf (P.bd s.toNat))).length) cap377)] ?_
 refine zz ?_
 refine w_seq ?_
 refine zw ?_
 refine zs 1 [rz 2 b1, iz 5 (sideOf (P.bd s.toNat)), (6, .slice none 0 0), (9, .slice ao376 ((hitsL s (sideOf (P.bd s.toNat))).length) cap377), iz 10 0] ?_
 refine zz ?_
 refine w_block ?_
 refine w_loop (γ := GI) (fun g382 => (((hitsL s (sideOf (P.bd s.toNat))).length : Int) - g382.i).toNat) (fun (g382 : GI) => [(2, pz b1), (5, .int .i64 (sideOf (P.bd s.toNat))), (6, .slice g382.ao g382.l.length g382.cap), (9, .slice ao376 ((hitsL s (sideOf (P.bd s.toNat))).length) cap377), (10, .int .i64 g382.i)]) (fun (g382 : GI) w_ => (0 ≤ g382.i ∧ g382.i ≤ ((hitsL s (sideOf (P.bd s.toNat))).length : Int)) ∧ Mod [] w374 w_ ∧ (∀ x ∈ blk g382.ao, x ∈ ([] : List Nat) ∨ w374.heap.size ≤ x) ∧ Own w_ w374.heap.size 3 1 g382.ao g382.l.length g382.cap (ints g382.l) ∧ (StepI ([] : List Int) P.bd P.ep (sideOf (P.bd s.toNat)) s g382)) ⟨0, [], none, 0⟩ (hold_keep [2, 5, 6, 9, 10] (by kernel_rfl)) ⟨(by constructor <;> (try dsimp only) <;> omega), Mod.refl _ _, (fun x hx => (blk_none x hx).elim), (Own.nil _ _ _ _), (List.append_nil _).symm⟩ ?_
 rintro g382 w383 ⟨⟨h388, h389⟩, v384, hw385, ho386, hx387⟩
 have u390 := At.on u379 v384
 have ho391 := Own.on ho378 v384
 have v392 := zt v380 v384
 have hz393 := Mod.size v384
 refine w_seq ?_
 refine zw ?_
 refine zs 4 [rz 2 b1, iz 5 (sideOf (P.bd s.toNat)), (6, .slice g382.ao g382.l.length g382.cap), (9, .slice ao376 ((hitsL s (sideOf (P.bd s.toNat))).length) cap377), iz 10 g382.i, (70, .bool (decide (g382.i < (((hitsL s (sideOf (P.bd s.toNat))).length : Nat) : Int))))] ?_
 refine zz ?_
 refine zc (fun hc394 => ?_) fun hc394 => ?_
 ·have y394 := of_decide_eq_true hc394
  obtain ⟨g395, cur396, rfl, hb397, u398, ht399, hn400, hs401⟩ := Own.some ho391 (by omega)
  have hhr := hitsAt_rng (s := s) (sd := (sideOf (P.bd s.toNat))) (i := g382.i) (by omega) (by omega)
  refine w_skip ?_
  refine n_then ?_
  refine w_seq ?_
  refine w_block ?_
  refine zw ?_
  refine zo 7 [rz 2 b1, iz 5 (sideOf (P.bd s.toNat)), (6, .slice g382.ao g382.l.length g382.cap), (9, .slice (some ⟨g395, 0, none⟩) ((hitsL s (sideOf (P.bd s.toNat))).length) cap377), iz 10 g382.i, iz 79 (P.bd (0 + ((hitsL s (sideOf (P.bd s.toNat))).getD g382.i.toNat 0).toNat * 1))] [.prop (0 ≤ g382.i ∧ g382.i < (((hitsL s (sideOf (P.bd s.toNat))).length : Nat) : Int)), .cell ⟨g395, (0 + g382.i.toNat * 1), none⟩ (.int .i64 ((hitsL s (sideOf (P.bd s.toNat))).getD g382.i.toNat 0)), .prop (0 ≤ ((hitsL s (sideOf (P.bd s.toNat))).getD g382.i.toNat 0) ∧ ((hitsL s (sideOf (P.bd s.toNat))).getD g382.i.toNat 0) < ((64 : Nat) : Int)), .cell ⟨b1, (0 + ((hitsL s (sideOf (P.bd s.toNat))).getD g382.i.toNat 0).toNat * 1), none⟩ (.int .i64 (P.bd (0 + ((hitsL s (sideOf (P.bd s.toNat))).getD g382.i.toNat 0).toNat * 1)))] (⟨(zh (by first | omega | assumption | decide | (constructor <;> unfold twoS atS <;> split <;> omega))), Own.cell ho391 (ints_at (by omega) (by omega)), (zh (by first | omega | assumption | decide | (constructor <;> unfold twoS atS <;> split <;> omega))), At.cell u390 (spCells_bd P (by omega))⟩) ?_
  rw [(show ((0 + ((hitsL s (sideOf (P.bd s.toNat))).getD g382.i.toNat 0).toNat * 1) : Nat) = (((hitsL s (sideOf (P.bd s.toNat))).getD g382.i.toNat 0).toNat) from (by omega))]
  refine zs 1 [rz 2 b1, iz 5 (sideOf (P.bd s.toNat)), (6, .slice g382.ao g382.l.length g382.cap), (9, .slice (some ⟨g395, 0, none⟩) ((hitsL s (sideOf (P.bd s.toNat))).length) cap377), iz 10 g382.i, iz 11 (P.bd (((hitsL s (sideOf (P.bd s.toNat))).getD g382.i.toNat 0).toNat))] ?_
  refine zz ?_
  refine w_cut (γ := Unit) (fun _ => [(2, pz b1), (5, .int .i64 (sideOf (P.bd s.toNat))), (6, .slice g382.ao g382.l.length g382.cap), (9, .slice (some ⟨g395, 0, none⟩) ((hitsL s (sideOf (P.bd s.toNat))).length) cap377), (10, .int .i64 g382.i), (111, .bool ((((P.bd (((hitsL s (sideOf (P.bd s.toNat))).getD g382.i.toNat 0).toNat)) != 0) && ((sideOf (P.bd (((hitsL s (sideOf (P.bd s.toNat))).getD g382.i.toNat 0).toNat))) != (sideOf (P.bd s.toNat)))) || ((((P.bd (((hitsL s (sideOf (P.bd s.toNat))).getD g382.i.toNat 0).toNat)) == 0) && (((hitsL s (sideOf (P.bd s.toNat))).getD g382.i.toNat 0) == P.ep)) && ((((hitsL s (sideOf (P.bd s.toNat))).getD g382.i.toNat 0) / 8) == (5 - (3 * (sideOf (P.bd s.toNat))))))))]) (fun _ w_ => Mod [] w383 w_) ?_ ?_
  ·have v404 : Mod [] w383 w383 := Mod.refl _ _
   refine w_quiet (by kernel_rfl) (by kernel_rfl) ?_
   refine zq 3 [rz 2 b1, iz 5 (sideOf (P.bd s.toNat)), (6, .slice g382.ao g382.l.length g382.cap), (9, .slice (some ⟨g395, 0, none⟩) ((hitsL s (sideOf (P.bd s.toNat))).length) cap377), iz 10 g382.i, iz 11 (P.bd (((hitsL s (sideOf (P.bd s.toNat))).getD g382.i.toNat 0).toNat)), (82, .bool ((P.bd (((hitsL s (sideOf (P.bd s.toNat))).getD g382.i.toNat 0).toNat)) != 0))] ?_
   cases hc405 : ((P.bd (((hitsL s (sideOf (P.bd s.toNat))).getD g382.i.toNat 0).toNat)) != (0 : Int))
   ·have y405 := hc405; try simp only [zbq] at y405
    refine zq 9 [rz 2 b1, iz 5 (sideOf (P.bd s.toNat)), (6, .slice g382.ao g382.l.length g382.cap), (9, .slice (some ⟨g395, 0, none⟩) ((hitsL s (sideOf (P.bd s.toNat))).length) cap377), iz 10 g382.i, (88, .bool false), (91, .bool ((P.bd (((hitsL s (sideOf (P.bd s.toNat))).getD g382.i.toNat 0).toNat)) == 0))] ?_
    cases hc406 : ((P.bd (((hitsL s (sideOf (P.bd s.toNat))).getD g382.i.toNat 0).toNat)) == (0 : Int))
    ·have y406 := hc406; try simp only [zbq] at y406
     refine zq 20 [rz 2 b1, iz 5 (sideOf (P.bd s.toNat)), (6, .slice g382.ao g382.l.length g382.cap), (9, .slice (some ⟨g395, 0, none⟩) ((hitsL s (sideOf (P.bd s.toNat))).length) cap377), iz 10 g382.i, (111, .bool false)] ?_
     refine q_out (by kernel_rfl) ?_
     intro w407 v408
     have v412 := zt v404 v408
     have hz414 := Mod.size v408
     exact zb () v412
    have y406 := hc406; try simp only [zbq] at y406
    refine zqo 9 [rz 2 b1, iz 5 (sideOf (P.bd s.toNat)), (6, .slice g382.ao g382.l.length g382.cap), (9, .slice (some ⟨g395, 0, none⟩) ((hitsL s (sideOf (P.bd s.toNat))).length) cap377), iz 10 g382.i, (88, .bool false), (100, .bool (((hitsL s (sideOf (P.bd s.toNat))).getD g382.i.toNat 0) == P.ep))] [.prop (0 ≤ g382.i ∧ g382.i < (((hitsL s (sideOf (P.bd s.toNat))).length : Nat) : Int)), .cell ⟨g395, (0 + g382.i.toNat * 1), none⟩ (.int .i64 ((hitsL s (sideOf (P.bd s.toNat))).getD g382.i.toNat 0)), .cell ⟨b1, 66, none⟩ (.int .i64 P.ep)] (fun _ hC => ⟨(zh (by first | omega | assumption | decide | (constructor <;> unfold twoS atS <;> split <;> omega))), Own.cell (Own.on ho391 hC) (ints_at (by omega) (by omega)), At.cell (At.on u390 hC) (spCells_66 P)⟩) ?_
    cases hc415 : (((hitsL s (sideOf (P.bd s.toNat))).getD g382.i.toNat 0) == P.ep)
    ·have y415 := hc415; try simp only [zbq] at y415
     refine zq 11 [rz 2 b1, iz 5 (sideOf (P.bd s.toNat)), (6, .slice g382.ao g382.l.length g382.cap), (9, .slice (some ⟨g395, 0, none⟩) ((hitsL s (sideOf (P.bd s.toNat))).length) cap377), iz 10 g382.i, (111, .bool false)] ?_
     refine q_out (by kernel_rfl) ?_
     intro w416 v417
     have v421 := zt v404 v417
     have hz423 := Mod.size v417
     exact zb () v421
    have y415 := hc415; try simp only [zbq] at y415
    refine zqo 4 [rz 2 b1, iz 5 (sideOf (P.bd s.toNat)), (6, .slice g382.ao g382.l.length g382.cap), (9, .slice (some ⟨g395, 0, none⟩) ((hitsL s (sideOf (P.bd s.toNat))).length) cap377), iz 10 g382.i, (88, .bool false), (100, .bool true), iz 104 ((hitsL s (sideOf (P.bd s.toNat))).getD g382.i.toNat 0)] [.prop (0 ≤ g382.i ∧ g382.i < (((hitsL s (sideOf (P.bd s.toNat))).length : Nat) : Int)), .cell ⟨g395, (0 + g382.i.toNat * 1), none⟩ (.int .i64 ((hitsL s (sideOf (P.bd s.toNat))).getD g382.i.toNat 0))] (fun _ hC => ⟨(zh (by first | omega | assumption | decide | (constructor <;> unfold twoS atS <;> split <;> omega))), Own.cell (Own.on ho391 hC) (ints_at (by omega) (by omega))⟩) ?_
    refine zqk (some 105) (fun w_ hC => c40 ((hitsL s (sideOf (P.bd s.toNat))).getD g382.i.toNat 0) w_ (by omega)) ?_
    refine zq 2 [rz 2 b1, iz 5 (sideOf (P.bd s.toNat)), (6, .slice g382.ao g382.l.length g382.cap), (9, .slice (some ⟨g395, 0, none⟩) ((hitsL s (sideOf (P.bd s.toNat))).length) cap377), iz 10 g382.i, (88, .bool false), (100, .bool true), iz 105 (((hitsL s (sideOf (P.bd s.toNat))).getD g382.i.toNat 0) / 8), iz 107 (IntKind.i64.wrap (3 * (sideOf (P.bd s.toNat))))] ?_
    rw [zi ((3 : Int) * (sideOf (P.bd s.toNat))) (by omega) (by omega)]
    refine zq 1 [rz 2 b1, iz 5 (sideOf (P.bd s.toNat)), (6, .slice g382.ao g382.l.length g382.cap), (9, .slice (some ⟨g395, 0, none⟩) ((hitsL s (sideOf (P.bd s.toNat))).length) cap377), iz 10 g382.i, (88, .bool false), (100, .bool true), iz 105 (((hitsL s (sideOf (P.bd s.toNat))).getD g382.i.toNat 0) / 8), iz 108 (IntKind.i64.wrap (5 - (3 * (sideOf (P.bd s.toNat)))))] ?_
    rw [zi ((5 : Int) - ((3 : Int) * (sideOf (P.bd s.toNat)))) (by omega) (by omega)]
    refine zq 3 [rz 2 b1, iz 5 (sideOf (P.bd s.toNat)), (6, .slice g382.ao g382.l.length g382.cap), (9, .slice (some ⟨g395, 0, none⟩) ((hitsL s (sideOf (P.bd s.toNat))).length) cap377), iz 10 g382.i, (111, .bool ((((hitsL s (sideOf (P.bd s.toNat))).getD g382.i.toNat 0) / 8) == (5 - (3 * (sideOf (P.bd s.toNat))))))] ?_
    refine q_out (by kernel_rfl) ?_
    intro w424 v425
    have v429 := zt v404 v425
    have hz431 := Mod.size v425
    exact zb () v429
   have y405 := hc405; try simp only [zbq] at y405
   refine zq 1 [rz 2 b1, iz 5 (sideOf (P.bd s.toNat)), (6, .slice g382.ao g382.l.length g382.cap), (9, .slice (some ⟨g395, 0, none⟩) ((hitsL s (sideOf (P.bd s.toNat))).length) cap377), iz 10 g382.i, iz 11 (P.bd (((hitsL s (sideOf (P.bd s.toNat))).getD g382.i.toNat 0).toNat)), (82, .bool true), iz 83 (P.bd (((hitsL s (sideOf (P.bd s.toNat))).getD g382.i.toNat 0).toNat))] ?_
   refine zqk (some 84) (fun w_ hC => c45 (P.bd (((hitsL s (sideOf (P.bd s.toNat))).getD g382.i.toNat 0).toNat)) w_) ?_
   refine zq 4 [rz 2 b1, iz 5 (sideOf (P.bd s.toNat)), (6, .slice g382.ao g382.l.length g382.cap), (9, .slice (some ⟨g395, 0, none⟩) ((hitsL s (sideOf (P.bd s.toNat))).length) cap377), iz 10 g382.i, iz 11 (P.bd (((hitsL s (sideOf (P.bd s.toNat))).getD g382.i.toNat 0).toNat)), (88, .bool ((sideOf (P.bd (((hitsL s (sideOf (P.bd s.toNat))).getD g382.i.toNat 0).toNat))) != (sideOf (P.bd s.toNat))))] ?_
   cases hc432 : ((sideOf (P.bd (((hitsL s (sideOf (P.bd s.toNat))).getD g382.i.toNat 0).toNat))) != (sideOf (P.bd s.toNat)))
   ·have y432 := hc432; try simp only [zbq] at y432
    refine zq 3 [rz 2 b1, iz 5 (sideOf (P.bd s.toNat)), (6, .slice g382.ao g382.l.length g382.cap), (9, .slice (some ⟨g395, 0, none⟩) ((hitsL s (sideOf (P.bd s.toNat))).length) cap377), iz 10 g382.i, (88, .bool false), (91, .bool ((P.bd (((hitsL s (sideOf (P.bd s.toNat))).getD g382.i.toNat 0).toNat)) == 0))] ?_
    cases hc433 : ((P.bd (((hitsL s (sideOf (P.bd s.toNat))).getD g382.i.toNat 0).toNat)) == (0 : Int))
    ·have y433 := hc433; try simp only [zbq] at y433
     refine zq 20 [rz 2 b1, iz 5 (sideOf (P.bd s.toNat)), (6, .slice g382.ao g382.l.length g382.cap), (9, .slice (some ⟨g395, 0, none⟩) ((hitsL s (sideOf (P.bd s.toNat))).length) cap377), iz 10 g382.i, (111, .bool false)] ?_
     refine q_out (by kernel_rfl) ?_
     intro w434 v435
     have v439 := zt v404 v435
     have hz441 := Mod.size v435
     exact zb () v439
    have y433 := hc433; try simp only [zbq] at y433
    refine zqo 9 [rz 2 b1, iz 5 (sideOf (P.bd s.toNat)), (6, .slice g382.ao g382.l.length g382.cap), (9, .slice (some ⟨g395, 0, none⟩) ((hitsL s (sideOf (P.bd s.toNat))).length) cap377), iz 10 g382.i, (88, .bool false), (100, .bool (((hitsL s (sideOf (P.bd s.toNat))).getD g382.i.toNat 0) == P.ep))] [.prop (0 ≤ g382.i ∧ g382.i < (((hitsL s (sideOf (P.bd s.toNat))).length : Nat) : Int)), .cell ⟨g395, (0 + g382.i.toNat * 1), none⟩ (.int .i64 ((hitsL s (sideOf (P.bd s.toNat))).getD g382.i.toNat 0)), .cell ⟨b1, 66, none⟩ (.int .i64 P.ep)] (fun _ hC => ⟨(zh (by first | omega | assumption | decide | (constructor <;> unfold twoS atS <;> split <;> omega))), Own.cell (Own.on ho391 hC) (ints_at (by omega) (by omega)), At.cell (At.on u390 hC) (spCells_66 P)⟩) ?_
    cases hc442 : (((hitsL s (sideOf (P.bd s.toNat))).getD g382.i.toNat 0) == P.ep)
    ·have y442 := hc442; try simp only [zbq] at y442
     refine zq 11 [rz 2 b1, iz 5 (sideOf (P.bd s.toNat)), (6, .slice g382.ao g382.l.length g382.cap), (9, .slice (some ⟨g395, 0, none⟩) ((hitsL s (sideOf (P.bd s.toNat))).length) cap377), iz 10 g382.i, (111, .bool false)] ?_
     refine q_out (by kernel_rfl) ?_
     intro w443 v444
     have v448 := zt v404 v444
     have hz450 := Mod.size v444
     exact zb () v448
    have y442 := hc442; try simp only [zbq] at y442
    refine zqo 4 [rz 2 b1, iz 5 (sideOf (P.bd s.toNat)), (6, .slice g382.ao g382.l.length g382.cap), (9, .slice (some ⟨g395, 0, none⟩) ((hitsL s (sideOf (P.bd s.toNat))).length) cap377), iz 10 g382.i, (88, .bool false), (100, .bool true), iz 104 ((hitsL s (sideOf (P.bd s.toNat))).getD g382.i.toNat 0)] [.prop (0 ≤ g382.i ∧ g382.i < (((hitsL s (sideOf (P.bd s.toNat))).length : Nat) : Int)), .cell ⟨g395, (0 + g382.i.toNat * 1), none⟩ (.int .i64 ((hitsL s (sideOf (P.bd s.toNat))).getD g382.i.toNat 0))] (fun _ hC => ⟨(zh (by first | omega | assumption | decide | (constructor <;> unfold twoS atS <;> split <;> omega))), Own.cell (Own.on ho391 hC) (ints_at (by omega) (by omega))⟩) ?_
    refine zqk (some 105) (fun w_ hC => c40 ((hitsL s (sideOf (P.bd s.toNat))).getD g382.i.toNat 0) w_ (by omega)) ?_
    refine zq 2 [rz 2 b1, iz 5 (sideOf (P.bd s.toNat)), (6, .slice g382.ao g382.l.length g382.cap), (9, .slice (some ⟨g395, 0, none⟩) ((hitsL s (sideOf (P.bd s.toNat))).length) cap377), iz 10 g382.i, (88, .bool false), (100, .bool true), iz 105 (((hitsL s (sideOf (P.bd s.toNat))).getD g382.i.toNat 0) / 8), iz 107 (IntKind.i64.wrap (3 * (sideOf (P.bd s.toNat))))] ?_
    rw [zi ((3 : Int) * (sideOf (P.bd s.toNat))) (by omega) (by omega)]
    refine zq 1 [rz 2 b1, iz 5 (sideOf (P.bd s.toNat)), (6, .slice g382.ao g382.l.length g382.cap), (9, .slice (some ⟨g395, 0, none⟩) ((hitsL s (sideOf (P.bd s.toNat))).length) cap377), iz 10 g382.i, (88, .bool false), (100, .bool true), iz 105 (((hitsL s (sideOf (P.bd s.toNat))).getD g382.i.toNat 0) / 8), iz 108 (IntKind.i64.wrap (5 - (3 * (sideOf (P.bd s.toNat)))))] ?_
    rw [zi ((5 : Int) - ((3 : Int) * (sideOf (P.bd s.toNat)))) (by omega) (by omega)]
    refine zq 3 [rz 2 b1, iz 5 (sideOf (P.bd s.toNat)), (6, .slice g382.ao g382.l.length g382.cap), (9, .slice (some ⟨g395, 0, none⟩) ((hitsL s (sideOf (P.bd s.toNat))).length) cap377), iz 10 g382.i, (111, .bool ((((hitsL s (sideOf (P.bd s.toNat))).getD g382.i.toNat 0) / 8) == (5 - (3 * (sideOf (P.bd s.toNat))))))] ?_
    refine q_out (by kernel_rfl) ?_
    intro w451 v452
    have v456 := zt v404 v452
    have hz458 := Mod.size v452
    exact zb () v456
   have y432 := hc432; try simp only [zbq] at y432
   refine zq 23 [rz 2 b1, iz 5 (sideOf (P.bd s.toNat)), (6, .slice g382.ao g382.l.length g382.cap), (9, .slice (some ⟨g395, 0, none⟩) ((hitsL s (sideOf (P.bd s.toNat))).length) cap377), iz 10 g382.i, (111, .bool true)] ?_
   refine q_out (by kernel_rfl) ?_
   intro w459 v460
   have v464 := zt v404 v460
   have hz466 := Mod.size v460
   exact zb () v464
  intro _ w402 v403
  have ho468 := Own.on ho391 v403
  have ho469 := Own.on ho386 v403
  have v470 := zt v392 v403
  have v471 := zt v384 v403
  have hz472 := Mod.size v403
  refine zc (fun hc473 => ?_) fun hc473 => ?_
  ·have y473 := hc473; try simp only [zbq] at y473
   refine w_region ?_
   refine zo 5 [rz 2 b1, iz 5 (sideOf (P.bd s.toNat)), (9, .slice (some ⟨g395, 0, none⟩) ((hitsL s (sideOf (P.bd s.toNat))).length) cap377), iz 10 g382.i, (112, .slice g382.ao g382.l.length g382.cap), iz 116 ((hitsL s (sideOf (P.bd s.toNat))).getD g382.i.toNat 0)] [.prop (0 ≤ g382.i ∧ g382.i < (((hitsL s (sideOf (P.bd s.toNat))).length : Nat) : Int)), .cell ⟨g395, (0 + g382.i.toNat * 1), none⟩ (.int .i64 ((hitsL s (sideOf (P.bd s.toNat))).getD g382.i.toNat 0))] (⟨(zh (by first | omega | assumption | decide | (constructor <;> unfold twoS atS <;> split <;> omega))), Own.cell ho468 (ints_at (by omega) (by omega))⟩) ?_
   refine reg_bslice (#[.int .i64 ((hitsL s (sideOf (P.bd s.toNat))).getD g382.i.toNat 0)]) 3 1 (some 117) (by kernel_rfl) ?_
   intro b474 w475 hn476
   have hb477 := Nat.le_trans v470.size hn476.base
   have hb478 := Nat.le_trans v471.size hn476.base
   have v479 := hn476.mod
   have ho482 := Own.on ho469 v479
   have v484 := zt v471 v479
   have hz485 := Mod.size v479
   have u486 := hn476.at_
   refine reg_append2 g382.ao g382.l.length g382.cap ⟨b474, 0, none⟩ 1 1 3 (some 118) 1 8 (b0 := w374.heap.size) (xs := ints g382.l) (news := ints ([((hitsL s (sideOf (P.bd s.toNat))).getD g382.i.toNat 0)])) (by kernel_rfl) ho482 (by decide) (ints_len _) (at_cells (l := ints ([((hitsL s (sideOf (P.bd s.toNat))).getD g382.i.toNat 0)])) (by exact u486)) (ints_one _) (by have h1 := hx387.len; (try simp only [List.length_cons, List.length_nil, List.length_append] at h1); omega) (by omega) ?_
   intro ao487 cap488 w489 ho490 v491 hd492
   have v496 := Mod.fresh' v484 v491 hw385
   have hz497 := Mod.size v491
   rw [show (g382.l.length + 1 : Nat) = (g382.l ++ [((hitsL s (sideOf (P.bd s.toNat))).getD g382.i.toNat 0)]).length from (by first | rfl | simp)]
   have ho498 : Own w489 w374.heap.size 3 1 ao487 (g382.l ++ [((hitsL s (sideOf (P.bd s.toNat))).getD g382.i.toNat 0)]).length cap488 (ints (g382.l ++ [((hitsL s (sideOf (P.bd s.toNat))).getD g382.i.toNat 0)])) := Own.cast ho490 (by first | rfl | simp) (by first | rfl | rw [ints_append])
   have hw499 := acc_where hw385 v484 hd492
   refine zs 1 [rz 2 b1, iz 5 (sideOf (P.bd s.toNat)), (6, .slice ao487 ((g382.l ++ [((hitsL s (sideOf (P.bd s.toNat))).getD g382.i.toNat 0)]).length) cap488), (9, .slice (some ⟨g395, 0, none⟩) ((hitsL s (sideOf (P.bd s.toNat))).length) cap377), iz 10 g382.i] ?_
   refine ze ?_
   refine n_block ?_
   refine n_then ?_
   refine w_region ?_
   refine zs 2 [rz 2 b1, iz 5 (sideOf (P.bd s.toNat)), (6, .slice ao487 ((g382.l ++ [((hitsL s (sideOf (P.bd s.toNat))).getD g382.i.toNat 0)]).length) cap488), (9, .slice (some ⟨g395, 0, none⟩) ((hitsL s (sideOf (P.bd s.toNat))).length) cap377), iz 72 (IntKind.i64.wrap (g382.i + 1))] ?_
   rw [zi (g382.i + (1 : Int)) (by omega) (by omega)]
   refine zs 1 [rz 2 b1, iz 5 (sideOf (P.bd s.toNat)), (6, .slice ao487 ((g382.l ++ [((hitsL s (sideOf (P.bd s.toNat))).getD g382.i.toNat 0)]).length) cap488), (9, .slice (some ⟨g395, 0, none⟩) ((hitsL s (sideOf (P.bd s.toNat))).length) cap377), iz 10 (g382.i + 1)] ?_
   refine ze ?_
   exact l_back (⟨g382.i + 1, (g382.l ++ [((hitsL s (sideOf (P.bd s.toNat))).getD g382.i.toNat 0)]), ao487, cap488⟩ : GI) [2, 5, 6, 9, 10] (by kernel_rfl) (by dsimp only; omega) ⟨(by constructor <;> (try dsimp only) <;> omega), v496, hw499, ho498, (hx387.step (by omega) (by omega) (by rw [show stepB P.bd P.ep (sideOf (P.bd s.toNat)) _ = _ from hc473]; first | rfl | (rw [cond_false, List.append_nil])))⟩
  have y473 := hc473; try simp only [zbq] at y473
  refine w_skip ?_
  refine n_block ?_
  refine n_then ?_
  refine w_region ?_
  refine zs 2 [rz 2 b1, iz 5 (sideOf (P.bd s.toNat)), (6, .slice g382.ao g382.l.length g382.cap), (9, .slice (some ⟨g395, 0, none⟩) ((hitsL s (sideOf (P.bd s.toNat))).length) cap377), iz 72 (IntKind.i64.wrap (g382.i + 1))] ?_
  rw [zi (g382.i + (1 : Int)) (by omega) (by omega)]
  refine zs 1 [rz 2 b1, iz 5 (sideOf (P.bd s.toNat)), (6, .slice g382.ao g382.l.length g382.cap), (9, .slice (some ⟨g395, 0, none⟩) ((hitsL s (sideOf (P.bd s.toNat))).length) cap377), iz 10 (g382.i + 1)] ?_
  refine ze ?_
  exact l_back (⟨g382.i + 1, g382.l, g382.ao, g382.cap⟩ : GI) [2, 5, 6, 9, 10] (by kernel_rfl) (by dsimp only; omega) ⟨(by constructor <;> (try dsimp only) <;> omega), v471, hw385, ho469, (hx387.step (by omega) (by omega) (by rw [show stepB P.bd P.ep (sideOf (P.bd s.toNat)) _ = _ from hc473]; first | rfl | (rw [cond_false, List.append_nil])))⟩
 have y394 := of_decide_eq_false hc394
 refine w_exit ?_
 refine x_then ?_
 refine x_then ?_
 refine x_hit ?_
 refine zn ?_
 refine zs 2 [(4, .slice g382.ao g382.l.length g382.cap)] ?_
 refine zz ?_
 refine w_ret ?_
 exact ret1 rfl rfl (by have hl := (show g382.l = stepsL P.bd P.ep s from by rw [hx387.fin (by omega) (by omega), (show ([] : List Int) = onL P.bd s (sideOf (P.bd s.toNat)) from by unfold onL; rw [show oneB P.bd s (sideOf (P.bd s.toNat)) = _ from hc41]; rfl)]; rfl); exact ⟨g382.ao, g382.cap, (by rw [hl]), v392, Own.cast (Own.base ho386 (by omega)) (by rw [hl]) (by rw [hl])⟩)
def castOff (n : Int) (k : Nat) : Bool := bitsV .and .i64 (n.fdiv (2 ^ (min k IntKind.i64.bits))) (1 : Int) == (0 : Int)
def cwS (r : Int) : Int := bif decide (homeR r < homeK r) then -1 else 1
def cnS (r : Int) : Int := bif decide (homeR r < homeK r) then 3 else 2
def csq (r j : Int) : Int := homeK r + cwS r * (j + 1)
theorem csq_succ (r j : Int) : csq r j + cwS r = csq r (j + 1) := by unfold csq; rw [Int.mul_add (cwS r) (j + 1) 1]; omega
theorem csq_zero (r : Int) : homeK r + cwS r = csq r 0 := by unfold csq; omega
theorem cn_rng {r : Int} (h : 0 ≤ r ∧ r ≤ 3) : 2 ≤ cnS r ∧ cnS r ≤ 3 := by
 rcases (by omega : r = 0 ∨ r = 1 ∨ r = 2 ∨ r = 3) with rfl | rfl | rfl | rfl <;> decide
theorem csq_get {r j : Int} (h : 0 ≤ r ∧ r ≤ 3) (hj : 0 ≤ j ∧ j ≤ cnS r) : (0 ≤ csq r j ∧ csq r j ≤ 63) ∧ (csq r j = homeR r ↔ j = cnS r) := by
 have := cn_rng h
 rcases (by omega : r = 0 ∨ r = 1 ∨ r = 2 ∨ r = 3) with rfl | rfl | rfl | rfl <;> rcases (by omega : j = 0 ∨ j = 1 ∨ j = 2 ∨ j = 3) with rfl | rfl | rfl | rfl <;> first | (revert hj; decide)
theorem home_all {r : Int} (h : 0 ≤ r ∧ r ≤ 3) : (0 ≤ homeK r ∧ homeK r ≤ 63) ∧ (0 ≤ homeR r ∧ homeR r ≤ 63) ∧ (-1 ≤ cwS r ∧ cwS r ≤ 1) ∧ (2 ≤ homeK r + (2 * cwS r) ∧ homeK r + (2 * cwS r) ≤ 63) ∧ (1 ≤ homeK r + cwS r ∧ homeK r + cwS r ≤ 63) := by
 rcases (by omega : r = 0 ∨ r = 1 ∨ r = 2 ∨ r = 3) with rfl | rfl | rfl | rfl <;> decide
def freeTo (P : SP) (r : Int) : Nat → Bool
 | 0 => !(attS P.bd (homeK r + cwS r).toNat (1 - P.turn))
 | j + 1 => freeTo P r j && (P.bd (csq r (j : Int)).toNat == (0 : Int))
theorem freeTo_succ {P : SP} {r j : Int} (h : 0 ≤ j) : freeTo P r (j + 1).toNat = (freeTo P r j.toNat && (P.bd (csq r j).toNat == (0 : Int))) := by
 have e : freeTo P r (j.toNat + 1) = (freeTo P r j.toNat && (P.bd (csq r (j.toNat : Int)).toNat == 0)) := rfl
 rw [show (j + 1).toNat = j.toNat + 1 by omega, e, show ((j.toNat : Nat) : Int) = j by omega]
def castR (P : SP) (r : Int) : List Sm :=
 bif castOff (rightsS P) r.toNat || attS P.bd (homeK r).toNat (1 - P.turn) then [] else bif freeTo P r (cnS r).toNat then [⟨homeK r, homeK r + (2 * cwS r), 0⟩] else []
def castS (P : SP) : List Sm := castR P (2 * P.turn) ++ castR P (2 * P.turn + 1)
theorem castR_len (P : SP) (r : Int) : (castR P r).length ≤ 1 := by
 unfold castR; cases (castOff (rightsS P) r.toNat || attS P.bd (homeK r).toNat (1 - P.turn)) <;> cases freeTo P r (cnS r).toNat <;> simp
theorem castS_len (P : SP) : (castS P).length ≤ 2 := by
 unfold castS; have := castR_len P (2 * P.turn); have := castR_len P (2 * P.turn + 1); rw [List.length_append]; omega
def CastI (P : SP) (q : GS) : Prop := (q.i = 2 * P.turn ∧ q.l = []) ∨ (q.i = 2 * P.turn + 1 ∧ q.l = castR P (2 * P.turn)) ∨ (q.i = 2 * P.turn + 2 ∧ q.l = castS P)
theorem CastI.len {P : SP} {q : GS} (h : CastI P q) : q.l.length ≤ 2 := by
 rcases h with ⟨_, h⟩ | ⟨_, h⟩ | ⟨_, h⟩ <;> rw [h]
 ·simp
 ·have := castR_len P (2 * P.turn); omega
 exact castS_len P
theorem CastI.step {P : SP} {q : GS} {l : List Sm} {ao : Option Addr} {cap : Nat} (h : CastI P q) (h1 : q.i < 2 * P.turn + 2) (hl : l = q.l ++ castR P q.i) : CastI P ⟨q.i + 1, l, ao, cap⟩ := by
 subst hl
 rcases h with ⟨hi, h⟩ | ⟨hi, h⟩ | ⟨hi, h⟩
 ·exact Or.inr (Or.inl ⟨by dsimp only; omega, by dsimp only; rw [h, hi]; rfl⟩)
 ·exact Or.inr (Or.inr ⟨by dsimp only; omega, by dsimp only; rw [h, hi]; rfl⟩)
 omega
theorem CastI.fin {P : SP} {q : GS} (h : CastI P q) (h1 : ¬ q.i < 2 * P.turn + 2) : q.l = castS P := by
 rcases h with ⟨hi, h⟩ | ⟨hi, h⟩ | ⟨hi, h⟩
 ·omega
 ·omega
 exact h
theorem c49 {w : World} (P : SP) (hB : SPb P) (hT : 0 ≤ P.turn ∧ P.turn ≤ 1) :
  Calls Tryz.prog 49 [.agg (spCells P)].toArray w (fun e w' => ∃ ao cap, e = .returned (.slice ao (castS P).length cap) ∧ Mod [] w w' ∧ Own w' w.heap.size 30 3 ao (castS P).length cap (sms (castS P))) := by
 have v0 : Mod [] w w := Mod.refl _ _
 refine enter (n := 80) Tryz.func49 rfl Tryz.ntmps49 rfl ?_
 refine zw ?_
 refine reg_alloc (spCells P) 24 (some 1) (by kernel_rfl) ?_
 intro b1 w2 hn3
 have hb4 := Nat.le_trans v0.size hn3.base
 have v5 := hn3.mod
 have v6 := zt v0 v5
 have hz7 := Mod.size v5
 have u8 := hn3.at_
 refine zs 1 [rz 1 b1] ?_
 refine zx ?_
 refine zs 1 [rz 1 b1, (3, .slice none 0 0)] ?_
 refine zz ?_
 refine w_seq ?_
 refine zw ?_
 refine zo 3 [rz 1 b1, (3, .slice none 0 0), iz 12 (IntKind.i64.wrap (2 * P.turn))] [.cell ⟨b1, 64, none⟩ (.int .i64 P.turn)] (At.cell u8 (spCells_64 P)) ?_
 rw [zi ((2 : Int) * P.turn) (by omega) (by omega)]
 refine zs 1 [rz 1 b1, (3, .slice none 0 0), iz 4 (2 * P.turn)] ?_
 refine zz ?_
 refine w_block ?_
 refine w_loop (γ := GS) (fun g9 => (2 * P.turn + 2 - g9.i).toNat) (fun (g9 : GS) => [(1, pz b1), (3, .slice g9.ao g9.l.length g9.cap), (4, .int .i64 g9.i)]) (fun (g9 : GS) w_ => (2 * P.turn ≤ g9.i ∧ g9.i ≤ 2 * P.turn + 2) ∧ Mod [] w2 w_ ∧ (∀ x ∈ blk g9.ao, x ∈ ([] : List Nat) ∨ w2.heap.size ≤ x) ∧ Own w_ w2.heap.size 30 3 g9.ao g9.l.length g9.cap (sms g9.l) ∧ (CastI P g9)) ⟨2 * P.turn, [], none, 0⟩ (hold_keep [1, 3, 4] (by kernel_rfl)) ⟨(by constructor <;> (try dsimp only) <;> omega), Mod.refl _ _, (fun x hx => (blk_none x hx).elim), (Own.nil _ _ _ _), (Or.inl ⟨rfl, rfl⟩)⟩ ?_
 rintro g9 w10 ⟨⟨h15, h16⟩, v11, hw12, ho13, hx14⟩
 have u17 := At.on u8 v11
 have v18 := zt v6 v11
 have hz19 := Mod.size v11
 refine w_seq ?_
 refine zw ?_
 refine zo 4 [rz 1 b1, (3, .slice g9.ao g9.l.length g9.cap), iz 4 g9.i, iz 13 g9.i, iz 16 (IntKind.i64.wrap (2 * P.turn))] [.cell ⟨b1, 64, none⟩ (.int .i64 P.turn)] (At.cell u17 (spCells_64 P)) ?_
 rw [zi ((2 : Int) * P.turn) (by omega) (by omega)]
 refine zs 1 [rz 1 b1, (3, .slice g9.ao g9.l.length g9.cap), iz 4 g9.i, iz 13 g9.i, iz 17 (IntKind.i64.wrap ((2 * P.turn) + 2))] ?_
 rw [zi (((2 : Int) * P.turn) + (2 : Int)) (by omega) (by omega)]
 refine zs 1 [rz 1 b1, (3, .slice g9.ao g9.l.length g9.cap), iz 4 g9.i, (18, .bool (decide (g9.i < ((2 * P.turn) + 2))))] ?_
 refine zz ?_
 refine zc (fun hc20 => ?_) fun hc20 => ?_
 ·have y20 := of_decide_eq_true hc20
  refine w_skip ?_
  refine n_then ?_
  refine w_seq ?_
  refine w_block ?_
  refine zw ?_
  refine zs 1 [rz 1 b1, (3, .slice g9.ao g9.l.length g9.cap), iz 4 g9.i, iz 22 g9.i] ?_
  refine zk (some 23) (c78 g9.i (by omega)) ?_
  intro w21 v22
  have u23 := At.on u17 v22
  have ho24 := Own.on ho13 v22
  have v25 := zt v18 v22
  have v26 := zt v11 v22
  have hz27 := Mod.size v22
  have hhm := home_all (r := g9.i) (by omega)
  refine zs 5 [rz 1 b1, (3, .slice g9.ao g9.l.length g9.cap), iz 4 g9.i, iz 5 (homeK g9.i), iz 6 (homeR g9.i)] ?_
  refine zz ?_
  refine w_seq ?_
  refine w_cut (γ := Unit) (fun _ => [(1, pz b1), (3, .slice g9.ao g9.l.length g9.cap), (4, .int .i64 g9.i), (5, .int .i64 (homeK g9.i)), (6, .int .i64 (homeR g9.i)), (39, .bool ((castOff (rightsS P) g9.i.toNat) || (attS P.bd (homeK g9.i).toNat (1 - P.turn))))]) (fun _ w_ => Mod [] w21 w_) ?_ ?_
  ·have v30 : Mod [] w21 w21 := Mod.refl _ _
   refine w_region ?_
   refine zv 1 [rz 1 b1, (3, .slice g9.ao g9.l.length g9.cap), iz 4 g9.i, iz 5 (homeK g9.i), iz 6 (homeR g9.i), (26, .agg (spCells P))] [.row ⟨b1, 0, none⟩ 69 (spCells P)] [.agg (spCells P)] (At.row u23 (spCells_size P)) ?_
   refine zk (some 27) (c43 P) ?_
   intro w31 v32
   have u33 := At.on u23 v32
   have v35 := zt v30 v32
   have hz37 := Mod.size v32
   refine zo 5 [rz 1 b1, (3, .slice g9.ao g9.l.length g9.cap), iz 4 g9.i, iz 5 (homeK g9.i), iz 6 (homeR g9.i), (32, .bool (castOff (rightsS P) g9.i.toNat))] [.prop (0 ≤ g9.i)] (zh (by omega)) ?_
   cases hc38 : (castOff (rightsS P) g9.i.toNat)
   ·have y38 := hc38; try simp only [zbq] at y38
    refine zv 5 [rz 1 b1, (3, .slice g9.ao g9.l.length g9.cap), iz 4 g9.i, iz 5 (homeK g9.i), iz 6 (homeR g9.i), (32, .bool false), (33, .agg (spCells P)), iz 34 (homeK g9.i), iz 37 (IntKind.i64.wrap (1 - P.turn))] [.row ⟨b1, 0, none⟩ 69 (spCells P), .cell ⟨b1, 64, none⟩ (.int .i64 P.turn)] [.agg (spCells P), .int .i64 P.turn] (⟨(At.row u33 (spCells_size P)), At.cell u33 (spCells_64 P)⟩) ?_
    rw [zi ((1 : Int) - P.turn) (by omega) (by omega)]
    refine zk (some 38) (c23 P hB (homeK g9.i) (1 - P.turn) (by omega)) ?_
    intro w39 v40
    have v43 := zt v35 v40
    have hz45 := Mod.size v40
    refine zs 1 [rz 1 b1, (3, .slice g9.ao g9.l.length g9.cap), iz 4 g9.i, iz 5 (homeK g9.i), iz 6 (homeR g9.i), (39, .bool (attS P.bd (homeK g9.i).toNat (1 - P.turn)))] ?_
    refine ze ?_
    exact zb () v43
   have y38 := hc38; try simp only [zbq] at y38
   refine zs 7 [rz 1 b1, (3, .slice g9.ao g9.l.length g9.cap), iz 4 g9.i, iz 5 (homeK g9.i), iz 6 (homeR g9.i), (39, .bool true)] ?_
   refine ze ?_
   exact zb () v35
  intro _ w28 v29
  have u46 := At.on u23 v29
  have ho47 := Own.on ho24 v29
  have v48 := zt v25 v29
  have v49 := zt v26 v29
  have hz50 := Mod.size v29
  refine zc (fun hc51 => ?_) fun hc51 => ?_
  ·have y51 := hc51; try simp only [zbq] at y51
   refine w_exit ?_
   refine x_then ?_
   refine x_hit ?_
   refine n_then ?_
   refine w_region ?_
   refine zs 2 [rz 1 b1, (3, .slice g9.ao g9.l.length g9.cap), iz 20 (IntKind.i64.wrap (g9.i + 1))] ?_
   rw [zi (g9.i + (1 : Int)) (by omega) (by omega)]
   refine zs 1 [rz 1 b1, (3, .slice g9.ao g9.l.length g9.cap), iz 4 (g9.i + 1)] ?_
   refine ze ?_
   exact l_back (⟨g9.i + 1, g9.l, g9.ao, g9.cap⟩ : GS) [1, 3, 4] (by kernel_rfl) (by dsimp only; omega) ⟨(by constructor <;> (try dsimp only) <;> omega), v49, hw12, ho47, (hx14.step (by omega) (by unfold castR; rw [hc51]; exact (List.append_nil _).symm))⟩
  have y51 := hc51; try simp only [zbq] at y51
  refine w_skip ?_
  refine zn ?_
  refine zs 1 [rz 1 b1, (3, .slice g9.ao g9.l.length g9.cap), iz 4 g9.i, iz 5 (homeK g9.i), iz 6 (homeR g9.i), iz 7 1] ?_
  refine zz ?_
  refine w_cut (γ := Int) (fun g52 => [(1, pz b1), (3, .slice g9.ao g9.l.length g9.cap), (4, .int .i64 g9.i), (5, .int .i64 (homeK g9.i)), (6, .int .i64 (homeR g9.i)), (7, .int .i64 g52)]) (fun g52 w_ => Mod [] w28 w_ ∧ g52 = (cwS g9.i)) ?_ ?_
  ·have v55 : Mod [] w28 w28 := Mod.refl _ _
   refine zw ?_
   refine zs 3 [rz 1 b1, (3, .slice g9.ao g9.l.length g9.cap), iz 4 g9.i, iz 5 (homeK g9.i), iz 6 (homeR g9.i), iz 7 1, (42, .bool (decide ((homeR g9.i) < (homeK g9.i))))] ?_
   refine zz ?_
   refine zc (fun hc56 => ?_) fun hc56 => ?_
   ·have y56 := of_decide_eq_true hc56
    refine w_region ?_
    refine zs 1 [rz 1 b1, (3, .slice g9.ao g9.l.length g9.cap), iz 4 g9.i, iz 5 (homeK g9.i), iz 6 (homeR g9.i), iz 7 (-1 : Int)] ?_
    refine ze ?_
    exact c_back (-1 : Int) [1, 3, 4, 5, 6, 7] (by kernel_rfl) ⟨v55, (by unfold cwS; simp only [hc56, cond_true, cond_false])⟩
   have y56 := of_decide_eq_false hc56
   refine w_skip ?_
   exact c_back 1 [1, 3, 4, 5, 6, 7] (by kernel_rfl) ⟨v55, (by unfold cwS; simp only [hc56, cond_true, cond_false])⟩
  rintro _ w53 ⟨v54, rfl⟩
  have u57 := At.on u46 v54
  have ho58 := Own.on ho47 v54
  have v59 := zt v48 v54
  have v60 := zt v49 v54
  have hz61 := Mod.size v54
  refine zw ?_
  refine zv 4 [rz 1 b1, (3, .slice g9.ao g9.l.length g9.cap), iz 4 g9.i, iz 5 (homeK g9.i), iz 6 (homeR g9.i), iz 7 (cwS g9.i), (43, .agg (spCells P)), iz 46 (IntKind.i64.wrap ((homeK g9.i) + (cwS g9.i)))] [.row ⟨b1, 0, none⟩ 69 (spCells P)] [.agg (spCells P)] (At.row u57 (spCells_size P)) ?_
  rw [zi ((homeK g9.i) + (cwS g9.i)) (by omega) (by omega)]
  refine zo 3 [rz 1 b1, (3, .slice g9.ao g9.l.length g9.cap), iz 4 g9.i, iz 5 (homeK g9.i), iz 6 (homeR g9.i), iz 7 (cwS g9.i), (43, .agg (spCells P)), iz 46 ((homeK g9.i) + (cwS g9.i)), iz 49 (IntKind.i64.wrap (1 - P.turn))] [.cell ⟨b1, 64, none⟩ (.int .i64 P.turn)] (At.cell u57 (spCells_64 P)) ?_
  rw [zi ((1 : Int) - P.turn) (by omega) (by omega)]
  refine zk (some 50) (c23 P hB ((homeK g9.i) + (cwS g9.i)) (1 - P.turn) (by omega)) ?_
  intro w62 v63
  have u64 := At.on u57 v63
  have ho65 := Own.on ho58 v63
  have v66 := zt v59 v63
  have v67 := zt v60 v63
  have hz68 := Mod.size v63
  refine zs 2 [rz 1 b1, (3, .slice g9.ao g9.l.length g9.cap), iz 4 g9.i, iz 5 (homeK g9.i), iz 6 (homeR g9.i), iz 7 (cwS g9.i), (8, .bool (!(attS P.bd ((homeK g9.i) + (cwS g9.i)).toNat (1 - P.turn))))] ?_
  refine ze ?_
  rw [show (!(attS P.bd ((homeK g9.i) + (cwS g9.i)).toNat ((1 : Int) - P.turn))) = freeTo P g9.i (0 : Int).toNat from rfl]
  refine n_then ?_
  refine w_seq ?_
  refine zw ?_
  refine zs 3 [rz 1 b1, (3, .slice g9.ao g9.l.length g9.cap), iz 4 g9.i, iz 5 (homeK g9.i), iz 6 (homeR g9.i), iz 7 (cwS g9.i), (8, .bool (freeTo P g9.i (0 : Int).toNat)), iz 54 (IntKind.i64.wrap ((homeK g9.i) + (cwS g9.i)))] ?_
  rw [zi ((homeK g9.i) + (cwS g9.i)) (by omega) (by omega)]
  refine zs 1 [rz 1 b1, (3, .slice g9.ao g9.l.length g9.cap), iz 4 g9.i, iz 5 (homeK g9.i), iz 6 (homeR g9.i), iz 7 (cwS g9.i), (8, .bool (freeTo P g9.i (0 : Int).toNat)), iz 9 ((homeK g9.i) + (cwS g9.i))] ?_
  refine ze ?_
  rw [show ((homeK g9.i) + (cwS g9.i)) = csq g9.i 0 from csq_zero _]
  have hcn := cn_rng (r := g9.i) (by omega)
  refine n_then ?_
  refine w_block ?_
  refine w_loop (γ := Int) (fun g69 => (cnS g9.i - g69).toNat) (fun (g69 : Int) => [(1, pz b1), (3, .slice g9.ao g9.l.length g9.cap), (4, .int .i64 g9.i), (5, .int .i64 (homeK g9.i)), (6, .int .i64 (homeR g9.i)), (7, .int .i64 (cwS g9.i)), (8, .bool (freeTo P g9.i g69.toNat)), (9, .int .i64 (csq g9.i g69))]) (fun (g69 : Int) w_ => (0 ≤ g69 ∧ g69 ≤ cnS g9.i) ∧ Mod [] w62 w_ ∧ (True)) 0 (hold_keep [1, 3, 4, 5, 6, 7, 8, 9] (by kernel_rfl)) ⟨(by constructor <;> (try simp only []) <;> omega), Mod.refl _ _, trivial⟩ ?_
  rintro g69 w70 ⟨⟨h72, h73⟩, v71, hx74⟩
  have u75 := At.on u64 v71
  have ho76 := Own.on ho65 v71
  have v77 := zt v66 v71
  have v78 := zt v67 v71
  have hz79 := Mod.size v71
  have hcg := csq_get (r := g9.i) (j := g69) (by omega) (by omega)
  refine w_seq ?_
  refine zw ?_
  refine zs 3 [rz 1 b1, (3, .slice g9.ao g9.l.length g9.cap), iz 4 g9.i, iz 5 (homeK g9.i), iz 6 (homeR g9.i), iz 7 (cwS g9.i), (8, .bool (freeTo P g9.i g69.toNat)), iz 9 (csq g9.i g69), (57, .bool ((csq g9.i g69) != (homeR g9.i)))] ?_
  refine zz ?_
  refine zc (fun hc80 => ?_) fun hc80 => ?_
  ·have y80 := hc80; try simp only [zbq] at y80
   have hjl : g69 < cnS g9.i := by rcases Int.lt_or_eq_of_le (show g69 ≤ cnS g9.i by omega) with h | h; exact h; (rw [bne_iff_ne] at hc80; exact absurd (hcg.2.2 h) hc80)
   refine w_skip ?_
   refine n_then ?_
   refine w_seq ?_
   refine w_block ?_
   refine w_region ?_
   refine zs 2 [rz 1 b1, (3, .slice g9.ao g9.l.length g9.cap), iz 4 g9.i, iz 5 (homeK g9.i), iz 6 (homeR g9.i), iz 7 (cwS g9.i), iz 9 (csq g9.i g69), (62, .bool (freeTo P g9.i g69.toNat))] ?_
   cases hc81 : (freeTo P g9.i g69.toNat)
   ·have y81 := hc81; try simp only [zbq] at y81
    refine zs 7 [rz 1 b1, (3, .slice g9.ao g9.l.length g9.cap), iz 4 g9.i, iz 5 (homeK g9.i), iz 6 (homeR g9.i), iz 7 (cwS g9.i), (8, .bool false), iz 9 (csq g9.i g69)] ?_
    refine ze ?_
    refine n_block ?_
    refine n_then ?_
    refine w_region ?_
    refine zs 3 [rz 1 b1, (3, .slice g9.ao g9.l.length g9.cap), iz 4 g9.i, iz 5 (homeK g9.i), iz 6 (homeR g9.i), iz 7 (cwS g9.i), (8, .bool false), iz 60 (IntKind.i64.wrap ((csq g9.i g69) + (cwS g9.i)))] ?_
    rw [zi ((csq g9.i g69) + (cwS g9.i)) (by omega) (by omega)]
    refine zs 1 [rz 1 b1, (3, .slice g9.ao g9.l.length g9.cap), iz 4 g9.i, iz 5 (homeK g9.i), iz 6 (homeR g9.i), iz 7 (cwS g9.i), (8, .bool false), iz 9 ((csq g9.i g69) + (cwS g9.i))] ?_
    refine ze ?_
    rw [csq_succ, show false = freeTo P g9.i (g69 + 1).toNat from (by rw [freeTo_succ (by omega), hc81]; rfl)]
    exact l_back (g69 + 1) [1, 3, 4, 5, 6, 7, 8, 9] (by kernel_rfl) (by omega) ⟨(by constructor <;> (try simp only []) <;> omega), v71, trivial⟩
   have y81 := hc81; try simp only [zbq] at y81
   refine zo 4 [rz 1 b1, (3, .slice g9.ao g9.l.length g9.cap), iz 4 g9.i, iz 5 (homeK g9.i), iz 6 (homeR g9.i), iz 7 (cwS g9.i), iz 9 (csq g9.i g69), (62, .bool true), iz 66 (P.bd (0 + (csq g9.i g69).toNat * 1))] [.prop (0 ≤ (csq g9.i g69) ∧ (csq g9.i g69) < ((64 : Nat) : Int)), .cell ⟨b1, (0 + (csq g9.i g69).toNat * 1), none⟩ (.int .i64 (P.bd (0 + (csq g9.i g69).toNat * 1)))] (⟨(zh (by omega)), At.cell u75 (spCells_bd P (by omega))⟩) ?_
   rw [(show ((0 + (csq g9.i g69).toNat * 1) : Nat) = ((csq g9.i g69).toNat) from (by omega))]
   refine zs 3 [rz 1 b1, (3, .slice g9.ao g9.l.length g9.cap), iz 4 g9.i, iz 5 (homeK g9.i), iz 6 (homeR g9.i), iz 7 (cwS g9.i), (8, .bool ((P.bd ((csq g9.i g69).toNat)) == 0)), iz 9 (csq g9.i g69)] ?_
   refine ze ?_
   refine n_block ?_
   refine n_then ?_
   refine w_region ?_
   refine zs 3 [rz 1 b1, (3, .slice g9.ao g9.l.length g9.cap), iz 4 g9.i, iz 5 (homeK g9.i), iz 6 (homeR g9.i), iz 7 (cwS g9.i), (8, .bool ((P.bd ((csq g9.i g69).toNat)) == 0)), iz 60 (IntKind.i64.wrap ((csq g9.i g69) + (cwS g9.i)))] ?_
   rw [zi ((csq g9.i g69) + (cwS g9.i)) (by omega) (by omega)]
   refine zs 1 [rz 1 b1, (3, .slice g9.ao g9.l.length g9.cap), iz 4 g9.i, iz 5 (homeK g9.i), iz 6 (homeR g9.i), iz 7 (cwS g9.i), (8, .bool ((P.bd ((csq g9.i g69).toNat)) == 0)), iz 9 ((csq g9.i g69) + (cwS g9.i))] ?_
   refine ze ?_
   rw [csq_succ, show ((P.bd ((csq g9.i g69).toNat)) == (0 : Int)) = freeTo P g9.i (g69 + 1).toNat from (by rw [freeTo_succ (by omega), hc81]; rfl)]
   exact l_back (g69 + 1) [1, 3, 4, 5, 6, 7, 8, 9] (by kernel_rfl) (by omega) ⟨(by constructor <;> (try simp only []) <;> omega), v71, trivial⟩
  have y80 := hc80; try simp only [zbq] at y80
  have hje : g69 = cnS g9.i := hcg.2.1 (bne_eq_false_iff_eq.1 hc80)
  rw [show g69 = cnS g9.i from hje]
  refine w_exit ?_
  refine x_then ?_
  refine x_then ?_
  refine x_hit ?_
  refine zn ?_
  refine zs 1 [rz 1 b1, (3, .slice g9.ao g9.l.length g9.cap), iz 4 g9.i, iz 5 (homeK g9.i), iz 7 (cwS g9.i), (69, .bool (freeTo P g9.i (cnS g9.i).toNat))] ?_
  refine zz ?_
  refine zc (fun hc82 => ?_) fun hc82 => ?_
  ·have y82 := hc82; try simp only [zbq] at y82
   refine w_region ?_
   refine zs 5 [rz 1 b1, iz 4 g9.i, (70, .slice g9.ao g9.l.length g9.cap), iz 71 (homeK g9.i), iz 72 (homeK g9.i), iz 74 (IntKind.i64.wrap (2 * (cwS g9.i)))] ?_
   rw [zi ((2 : Int) * (cwS g9.i)) (by omega) (by omega)]
   refine zs 1 [rz 1 b1, iz 4 g9.i, (70, .slice g9.ao g9.l.length g9.cap), iz 71 (homeK g9.i), iz 75 (IntKind.i64.wrap ((homeK g9.i) + (2 * (cwS g9.i))))] ?_
   rw [zi ((homeK g9.i) + ((2 : Int) * (cwS g9.i))) (by omega) (by omega)]
   refine zs 1 [rz 1 b1, iz 4 g9.i, (70, .slice g9.ao g9.l.length g9.cap), (76, .agg #[.int .i64 (homeK g9.i), .int .i64 ((homeK g9.i) + (2 * (cwS g9.i))), .int .i64 0])] ?_
   refine reg_bslice (#[.int .i64 (homeK g9.i), .int .i64 ((homeK g9.i) + (2 * (cwS g9.i))), .int .i64 0]) 30 1 (some 77) (by kernel_rfl) ?_
   intro b83 w84 hn85
   have hb86 := Nat.le_trans v77.size hn85.base
   have hb87 := Nat.le_trans v78.size hn85.base
   have v88 := hn85.mod
   have ho90 := Own.on ho76 v88
   have v92 := zt v78 v88
   have hz93 := Mod.size v88
   have u94 := hn85.at_
   refine reg_append2 g9.ao g9.l.length g9.cap ⟨b83, 0, none⟩ 1 1 30 (some 78) 3 24 (b0 := w2.heap.size) (xs := sms g9.l) (news := sms ([(⟨(homeK g9.i), ((homeK g9.i) + (2 * (cwS g9.i))), 0⟩ : Sm)])) (by kernel_rfl) ho90 (by decide) (sms_len _) (at_cells (l := sms ([(⟨(homeK g9.i), ((homeK g9.i) + (2 * (cwS g9.i))), 0⟩ : Sm)])) (by exact u94)) (sms_one _) (by have h1 := hx14.len; omega) (by omega) ?_
   intro ao95 cap96 w97 ho98 v99 hd100
   have v103 := Mod.fresh' v92 v99 hw12
   have hz104 := Mod.size v99
   rw [show (g9.l.length + 1 : Nat) = (g9.l ++ [(⟨(homeK g9.i), ((homeK g9.i) + ((2 : Int) * (cwS g9.i))), (0 : Int)⟩ : Sm)]).length from (by first | rfl | simp)]
   have ho105 : Own w97 w2.heap.size 30 3 ao95 (g9.l ++ [(⟨(homeK g9.i), ((homeK g9.i) + (2 * (cwS g9.i))), 0⟩ : Sm)]).length cap96 (sms (g9.l ++ [(⟨(homeK g9.i), ((homeK g9.i) + (2 * (cwS g9.i))), 0⟩ : Sm)])) := Own.cast ho98 (by first | rfl | simp) (by first | rfl | rw [sms_append])
   have hw106 := acc_where hw12 v92 hd100
   refine zs 1 [rz 1 b1, (3, .slice ao95 ((g9.l ++ [(⟨(homeK g9.i), ((homeK g9.i) + (2 * (cwS g9.i))), 0⟩ : Sm)]).length) cap96), iz 4 g9.i] ?_
   refine ze ?_
   refine n_block ?_
   refine n_then ?_
   refine w_region ?_
   refine zs 2 [rz 1 b1, (3, .slice ao95 ((g9.l ++ [(⟨(homeK g9.i), ((homeK g9.i) + (2 * (cwS g9.i))), 0⟩ : Sm)]).length) cap96), iz 20 (IntKind.i64.wrap (g9.i + 1))] ?_
   rw [zi (g9.i + (1 : Int)) (by omega) (by omega)]
   refine zs 1 [rz 1 b1, (3, .slice ao95 ((g9.l ++ [(⟨(homeK g9.i), ((homeK g9.i) + (2 * (cwS g9.i))), 0⟩ : Sm)]).length) cap96), iz 4 (g9.i + 1)] ?_
   refine ze ?_
   exact l_back (⟨g9.i + 1, (g9.l ++ [(⟨(homeK g9.i), ((homeK g9.i) + (2 * (cwS g9.i))), 0⟩ : Sm)]), ao95, cap96⟩ : GS) [1, 3, 4] (by kernel_rfl) (by dsimp only; omega) ⟨(by constructor <;> (try dsimp only) <;> omega), v103, hw106, ho105, (hx14.step (by omega) (by unfold castR; rw [hc51, hc82]; first | rfl | exact (List.append_nil _).symm))⟩
  have y82 := hc82; try simp only [zbq] at y82
  refine w_skip ?_
  refine n_block ?_
  refine n_then ?_
  refine w_region ?_
  refine zs 2 [rz 1 b1, (3, .slice g9.ao g9.l.length g9.cap), iz 20 (IntKind.i64.wrap (g9.i + 1))] ?_
  rw [zi (g9.i + (1 : Int)) (by omega) (by omega)]
  refine zs 1 [rz 1 b1, (3, .slice g9.ao g9.l.length g9.cap), iz 4 (g9.i + 1)] ?_
  refine ze ?_
  exact l_back (⟨g9.i + 1, g9.l, g9.ao, g9.cap⟩ : GS) [1, 3, 4] (by kernel_rfl) (by dsimp only; omega) ⟨(by constructor <;> (try dsimp only) <;> omega), v78, hw12, ho76, (hx14.step (by omega) (by unfold castR; rw [hc51, hc82]; first | rfl | exact (List.append_nil _).symm))⟩
 have y20 := of_decide_eq_false hc20
 refine w_exit ?_
 refine x_then ?_
 refine x_then ?_
 refine x_hit ?_
 refine zn ?_
 refine zs 2 [(2, .slice g9.ao g9.l.length g9.cap)] ?_
 refine zz ?_
 refine w_ret ?_
 exact ret1 rfl rfl (by have hl := (hx14.fin (by omega)); exact ⟨g9.ao, g9.cap, (by rw [hl]), v18, Own.cast (Own.base ho13 (by omega)) (by rw [hl]) (by rw [hl])⟩)
theorem storeRow_get : ∀ (vs : List Value) (cs : Array Value) (off j : Nat), off + vs.length ≤ cs.size → (storeRow cs off vs)[j]? = if off ≤ j ∧ j < off + vs.length then vs[j - off]? else cs[j]?
 | [], cs, off, j, _ => by simp [storeRow]; omega
 | v :: r, cs, off, j, h => by
  have hl : (v :: r).length = r.length + 1 := rfl
  show (storeRow (cs.setIfInBounds off v) (off + 1) r)[j]? = _
  rw [storeRow_get r _ (off + 1) j (by rw [Array.size_setIfInBounds]; omega), Array.getElem?_setIfInBounds]
  by_cases e : off = j
  ·subst e
   rw [if_neg (by omega), if_pos rfl, if_pos (by omega), if_pos (by omega)]; simp
  ·by_cases h2 : off + 1 ≤ j ∧ j < off + 1 + r.length
   ·rw [if_pos h2, if_pos (by omega), show j - off = (j - (off + 1)) + 1 by omega]; rfl
   ·rw [if_neg h2, if_neg e, if_neg (by omega)]
theorem sms_get (l : List Sm) (q r : Nat) (hq : q < l.length) (hr : r < 3) : (sms l)[q * 3 + r]? = (smV (l.getD q ⟨0, 0, 0⟩))[r]? := flat_get (f := smV) (k := 3) (fun _ => rfl) l q r ⟨0, 0, 0⟩ hq hr
theorem sms_set {l : List Sm} {k : Nat} {m : Sm} (hk : k < l.length) (j : Nat) : (sms (l.set k m))[j]? = if k * 3 ≤ j ∧ j < k * 3 + 3 then (smV m)[j - k * 3]? else (sms l)[j]? := by
 by_cases hj : j < l.length * 3
 ·have e : j = j / 3 * 3 + j % 3 := by omega
  have h3 : j % 3 < 3 := Nat.mod_lt _ (by decide)
  have hq : j / 3 < l.length := by omega
  rw [e, sms_get _ _ _ (by rw [List.length_set]; exact hq) h3, sms_get _ _ _ hq h3]
  rw [List.getD_eq_getElem?_getD, List.getElem?_set]
  by_cases hk2 : k = j / 3
  ·rw [if_pos hk2, if_pos hk, if_pos (by omega), show j / 3 * 3 + j % 3 - k * 3 = j % 3 by omega]; rfl
  rw [if_neg hk2, if_neg (by omega)]
  rw [List.getD_eq_getElem?_getD]
 rw [List.getElem?_eq_none (by rw [sms_len, List.length_set]; omega), if_neg (by omega), List.getElem?_eq_none (by rw [sms_len]; omega)]
section
variable {P : Program} {n : Nat} {D : List Deferred} {ops : Array Oper} {Q : Exit → Act → World → Prop} {w : World} {L : List (Nat × Value)}
theorem reg_store_sm {k : Nat} (g j : Nat) (m : Sm) (dst : Option Nat) (h : storeAt P n ops.toList k L = some (⟨g, 0 + j * 3, none⟩, .agg #[.int .i64 m.f, .int .i64 m.t, .int .i64 m.p], dst, some 3))
  {b0 N cap : Nat} {l : List Sm} (ho : Own w b0 30 3 (some ⟨g, 0, none⟩) N cap (sms l)) (hj : j < l.length)
  (hk : ∀ w', Mod [g] w w' → Own w' b0 30 3 (some ⟨g, 0, none⟩) N cap (sms (l.set j m)) → Reg P n D ops Q (k + 1) (setD dst undef L) w') : Reg P n D ops Q k L w := by
 have hlen : l.length * 3 = N * 3 := by rw [← sms_len]; exact ho.1
 rcases ho.2 with ⟨hv, _⟩ | ⟨g', cap', cur, hv, hb, hg, hc, hm, hs, ht⟩
 ·simp only [Value.slice.injEq] at hv; cases hv.1
 simp only [Value.slice.injEq, Option.some.injEq, Addr.mk.injEq, true_and, and_true] at hv
 obtain ⟨rfl, rfl⟩ := hv
 have hsz : 0 + j * 3 + (smV m).length ≤ cur.size := by show 0 + j * 3 + 3 ≤ cur.size; rw [hs]; omega
 refine reg_store g (0 + j * 3) (.agg #[.int .i64 m.f, .int .i64 m.t, .int .i64 m.p]) dst h (cs := cur) (t := 30) hg (by exact hsz) rfl fun w' hu => ?_
 refine hk w' hu.mod ⟨by rw [sms_len, List.length_set]; exact hlen, .inr ⟨g, cap, _, rfl, hb, hu.at_, hc, hm, by rw [storeRow_size]; exact hs, ?_⟩⟩
 apply List.ext_getElem?
 intro i
 rw [List.getElem?_take, sms_set hj]
 show (if i < N * 3 then (storeRow cur (0 + j * 3) (smV m)).toList[i]? else none) = _
 rw [Array.getElem?_toList, storeRow_get _ _ _ _ hsz]
 have hl3 : (smV m).length = 3 := rfl
 have ht2 : ∀ i, (sms l)[i]? = if i < N * 3 then cur[i]? else none := by
  intro i; rw [← ht, List.getElem?_take, Array.getElem?_toList]
 by_cases hi : i < N * 3
 ·rw [if_pos hi]
  by_cases h2 : j * 3 ≤ i ∧ i < j * 3 + 3
  ·rw [if_pos (by omega), if_pos h2, Nat.zero_add]
  rw [if_neg (by omega), if_neg h2, ht2, if_pos hi]
 rw [if_neg hi, if_neg (by omega), ht2, if_neg hi]
end
theorem mem_getD {l : List Sm} {x : Sm} : x ∈ l ↔ ∃ q, q < l.length ∧ l.getD q ⟨0, 0, 0⟩ = x := by
 constructor
 ·intro h
  obtain ⟨q, hq, rfl⟩ := List.getElem_of_mem h
  exact ⟨q, hq, by rw [List.getD_eq_getElem?_getD, List.getElem?_eq_getElem hq]; rfl⟩
 rintro ⟨q, hq, rfl⟩
 rw [List.getD_eq_getElem?_getD, List.getElem?_eq_getElem hq]; exact List.getElem_mem _
def swapL (l : List Sm) (a b : Nat) : List Sm := (l.set a (l.getD b ⟨0, 0, 0⟩)).set b (l.getD a ⟨0, 0, 0⟩)
theorem swapL_len (l : List Sm) (a b : Nat) : (swapL l a b).length = l.length := by simp [swapL]
theorem swapL_get {l : List Sm} {a b q : Nat} (ha : a < l.length) (hb : b < l.length) (hq : q < l.length) : (swapL l a b).getD q ⟨0, 0, 0⟩ = l.getD (if q = b then a else if q = a then b else q) ⟨0, 0, 0⟩ := by
 unfold swapL
 rw [List.getD_eq_getElem?_getD, List.getElem?_set, List.getElem?_set]
 by_cases h1 : b = q
 ·subst h1; simp [hb]
 rw [if_neg h1, if_neg (Ne.symm h1)]
 by_cases h2 : a = q
 ·subst h2; simp [ha]
 rw [if_neg h2, if_neg (Ne.symm h2), List.getD_eq_getElem?_getD]
theorem swapL_mem {l : List Sm} {a b : Nat} (ha : a < l.length) (hb : b < l.length) (x : Sm) : x ∈ swapL l a b ↔ x ∈ l := by
 rw [mem_getD, mem_getD, swapL_len]
 constructor
 ·rintro ⟨q, hq, h⟩
  rw [swapL_get ha hb hq] at h
  refine ⟨_, ?_, h⟩
  split
  ·exact ha
  split
  ·exact hb
  exact hq
 rintro ⟨q, hq, h⟩
 by_cases h1 : q = a
 ·subst h1
  by_cases h2 : q = b
  ·subst h2; exact ⟨q, hq, by rw [swapL_get ha hb hq, if_pos rfl]; exact h⟩
  exact ⟨b, hb, by rw [swapL_get ha hb hb, if_pos rfl]; exact h⟩
 by_cases h2 : q = b
 ·subst h2; exact ⟨a, ha, by rw [swapL_get ha hb ha]; rw [if_neg (Ne.symm h1), if_pos rfl]; exact h⟩
 exact ⟨q, hq, by rw [swapL_get ha hb hq, if_neg h2, if_neg h1]; exact h⟩
structure Same (l l' : List Sm) : Prop where
 len : l'.length = l.length
 mem : ∀ x, x ∈ l' ↔ x ∈ l
theorem Same.refl (l : List Sm) : Same l l := ⟨rfl, fun _ => Iff.rfl⟩
theorem Same.swap {l l' : List Sm} (h : Same l l') {a b : Nat} (ha : a < l'.length) (hb : b < l'.length) : Same l (swapL l' a b) :=
 ⟨(swapL_len _ _ _).trans h.len, fun x => (swapL_mem ha hb x).trans (h.mem x)⟩
structure GP where
 i : Int
 l : List Sm
section
variable {P : Program} {n : Nat} {D : List Deferred} {ops : Array Oper} {Q : Exit → Act → World → Prop} {w : World} {L : List (Nat × Value)}
def lstd (ops : Array Oper) : List Nat → Array Bool
 | [] => Array.replicate ops.size false
 | i :: r => (lstd ops r).setIfInBounds i true
def AReg (P : Program) (n : Nat) (D : List Deferred) (ops : Array Oper) (Q : Exit → Act → World → Prop) (f : Nat) (ls : List Nat) (L : List (Nat × Value)) (w : World) : Prop :=
 ∀ a, Hold n L D a → wpAny P .any ops (onlyN Q) f (lstd ops ls) a w
theorem a_start {id : Nat} {f : Nat} (hf : ops.size = f) (hm : P.follows .mixedOrders = true) (h : ∀ w', Mod [] w w' → AReg P n D ops Q f [] L w') : W P n D (.region id ops true) Q L w := by
 intro a ha
 refine wp_region_any hm ?_
 have := h _ (Mod.draw w) a ha
 rw [← hf] at this
 exact wpAny_monoQ (fun e a w hq => by cases e <;> first | exact hq | exact absurd hq (fun h => h)) _ _ _ _ this
def pureAt (P : Program) (n : Nat) (ops : List Oper) (i : Nat) (L : List (Nat × Value)) (rs : List Value) : Option (Value × Option Nat × List Ob) :=
 match ops[i]? with
 | some o => match dstOk o.dst n with
  | true => match wantedL ops L o with
   | some true => match evOp P L o rs with
    | some (v, obs, []) => some (v, o.dst, obs)
    | _ => none
   | some false => some (undef, o.dst, [])
   | none => none
  | false => none
 | none => none
def PropsOk : List Ob → Prop
 | [] => True
 | .prop p :: r => p ∧ PropsOk r
 | _ => False
theorem PropsOk.all : ∀ {obs : List Ob}, PropsOk obs → ∀ w, Obsl w obs
 | [], _, _ => by intro o ho; cases ho
 | .prop p :: r, h, w => by
  intro o ho
  rcases List.mem_cons.1 ho with rfl | ho
  ·exact h.1
  ·exact PropsOk.all h.2 w o ho
 | .cell .. :: _, h, _ => h.elim
 | .row .. :: _, h, _ => h.elim
 | .run .. :: _, h, _ => h.elim
theorem pureAt_spec {i : Nat} {rs : List Value} {v : Value} {dst : Option Nat} {obs : List Ob} (h : pureAt P n ops.toList i L rs = some (v, dst, obs)) {a : Act} (ha : Hold n L D a) :
  ∃ o, ops[i]? = some o ∧ o.dst = dst ∧ dstOk dst n = true ∧ ((Region.wanted o (yielded ops a.tmps) = true ∧ ∀ w, Obsl w obs → (execOp a.eval o).run P w = .ok (.value v) w) ∨ (Region.wanted o (yielded ops a.tmps) = false ∧ v = undef)) := by
 unfold pureAt at h
 split at h
 case h_2 => cases h
 rename_i o ho
 split at h
 case h_2 => cases h
 rename_i hd
 split at h
 ·rename_i hw
  split at h
  case h_2 => cases h
  rename_i v' obs' hev
  simp only [Option.some.injEq, Prod.mk.injEq] at h
  obtain ⟨rfl, rfl, rfl⟩ := h
  exact ⟨o, by simpa using ho, rfl, hd, .inl ⟨wantedL_spec ha hw, fun w hob => evOp_run hev ha.agrees hob⟩⟩
 ·rename_i hw
  simp only [Option.some.injEq, Prod.mk.injEq] at h
  obtain ⟨rfl, rfl, rfl⟩ := h
  exact ⟨o, by simpa using ho, rfl, hd, .inr ⟨wantedL_spec ha hw, rfl⟩⟩
 cases h
def takeB (ops : Array Oper) (ls : List Nat) (i : Nat) : Bool := Region.noSelect ops && (Region.free .any ops (lstd ops ls) i && (Region.ready .any ops (lstd ops ls)).contains i)
theorem a_take {f : Nat} {ls : List Nat} (i : Nat) (v : Value) (dst : Option Nat) (obs : List Ob) (rs : List Value) (h : pureAt P n ops.toList i L rs = some (v, dst, obs)) (hB : takeB ops ls i = true) (hp : PropsOk obs)
  (hk : AReg P n D ops Q f (i :: ls) (setD dst v L) w) : AReg P n D ops Q (f + 1) ls L w := by
 intro a ha
 obtain ⟨o, ho, hdst, hd, hr⟩ := pureAt_spec h ha
 simp only [takeB, Bool.and_eq_true] at hB
 refine wpAny_take ho hB.1 hB.2.1 hB.2.2 (v := v) (fun c a w hq => hq) ?_ ?_
 ·rcases hr with ⟨hw, hr⟩ | hr
  ·exact .inl ⟨hw, fun w => hr w (hp.all w)⟩
  exact .inr hr
 rw [hdst]; exact hk _ (ha.setD hd v)
theorem a_op {f : Nat} {ls : List Nat} {i : Nat} {v : Value} {dst : Option Nat} {obs : List Ob} {rs : List Value} (h : pureAt P n ops.toList i L rs = some (v, dst, obs)) (ho : Obsl w obs)
  (hk : AReg P n D ops Q f (i :: ls) (setD dst v L) w) {a : Act} (ha : Hold n L D a) : wpOp P ops (onlyN Q) i (wpAny P .any ops (onlyN Q) f ((lstd ops ls).setIfInBounds i true)) a w := by
 obtain ⟨o, hoi, hdst, hd, hr⟩ := pureAt_spec h ha
 have hk' := hk _ (ha.setD hd v)
 rw [← hdst] at hk'
 unfold wpOp
 simp only [hoi]
 rcases hr with ⟨hw, hr⟩ | ⟨hw, rfl⟩
 ·simp only [hw, if_true]
  refine .inl ?_
  simp only [Oper.wp, hr w ho, Oper.upon]
  exact hk'
 simp only [hw, Bool.false_eq_true, if_false]
 exact hk'
theorem a_one {f : Nat} {ls : List Nat} (i : Nat) (v : Value) (dst : Option Nat) (obs : List Ob) (rs : List Value) (h : pureAt P n ops.toList i L rs = some (v, dst, obs)) (hr : Region.ready .any ops (lstd ops ls) = [i]) (ho : Obs w obs)
  (hk : AReg P n D ops Q f (i :: ls) (setD dst v L) w) : AReg P n D ops Q (f + 1) ls L w := by
 intro a ha
 refine wpAny_all hr (by simp) fun j hj => ?_
 rw [List.mem_singleton] at hj
 subst hj
 exact a_op h (Obs.all ho) hk ha
theorem a_two {f : Nat} {ls : List Nat} (i j : Nat) (v u : Value) (dst dst' : Option Nat) (obs obs' : List Ob) (rs rs' : List Value) (h : pureAt P n ops.toList i L rs = some (v, dst, obs)) (h' : pureAt P n ops.toList j L rs' = some (u, dst', obs'))
  (hr : Region.ready .any ops (lstd ops ls) = [i, j]) (ho : Obs w obs) (ho' : Obs w obs')
  (hk : AReg P n D ops Q f (i :: ls) (setD dst v L) w) (hk' : AReg P n D ops Q f (j :: ls) (setD dst' u L) w) : AReg P n D ops Q (f + 1) ls L w := by
 intro a ha
 refine wpAny_all hr (by simp) fun q hq => ?_
 rcases List.mem_cons.1 hq with rfl | hq
 ·exact a_op h (Obs.all ho) hk ha
 rw [List.mem_singleton] at hq
 subst hq
 exact a_op h' (Obs.all ho') hk' ha
theorem a_call {k : Nat} {ls : List Nat} (i : Nat) (f : FuncId) (vs : List Value) (dst : Option Nat) (h : callAt P n ops.toList i L = some (f, vs, dst)) (hr : Region.ready .any ops (lstd ops ls) = [i]) {R : Ending → World → Prop} (hc : Calls P f vs.toArray w R)
  (hk : ∀ x w2, R x w2 → ∃ v, x = .returned v ∧ AReg P n D ops Q k (i :: ls) (setD dst v L) w2) : AReg P n D ops Q (k + 1) ls L w := by
 intro a ha
 refine wpAny_all hr (by simp) fun j hj => ?_
 rw [List.mem_singleton] at hj
 subst hj
 obtain ⟨o, ho, hdst, hd, hw, hrun⟩ := callAt_spec (ops := ops) h ha
 have ho' : ops[j]? = some o := by simpa using ho
 unfold wpOp
 simp only [ho', hw, if_true]
 refine .inl ?_
 simp only [Oper.wp, hrun, Oper.upon]
 refine hc.mono fun x w2 hR => ?_
 obtain ⟨v, rfl, hv⟩ := hk x w2 hR
 have := hv _ (ha.setD hd v)
 rw [← hdst] at this
 exact this
theorem a_tail {f : Nat} {ls : List Nat} (m : Nat) (hf : ops.size - m = f) (hB : Region.seqB .any ops (ops.size - m) m (lstd ops ls) = true) (hk : Reg P n D ops (onlyN Q) m L w) : AReg P n D ops Q f ls L w := by
 intro a ha
 have h3 := wpAny_of_seq (md := .any) (Q' := onlyN Q) (ops.toList.drop m) m (lstd ops ls) a w (fun j => by simp [List.getElem?_drop]) (by simpa using hB) (hk a ha)
 have e : (ops.toList.drop m).length = f := by simp [← hf]
 rw [e] at h3
 exact h3
theorem a_done {f : Nat} {ls : List Nat} (hr : Region.ready .any ops (lstd ops ls) = []) (hk : ∀ a, Hold n L D a → Q .normal a w) : AReg P n D ops Q f ls L w :=
 fun a ha => wpAny_done (Q := onlyN Q) hr (show onlyN Q .normal a w from hk a ha) f
end
def befB (a b : Sm) : Bool := bif a.f != b.f then decide (a.f < b.f) else bif a.t != b.t then decide (a.t < b.t) else decide (a.p < b.p)
theorem c82 {w : World} (a b : Sm) :
  Calls Tryz.prog 82 [.agg #[.int .i64 a.f, .int .i64 a.t, .int .i64 a.p], .agg #[.int .i64 b.f, .int .i64 b.t, .int .i64 b.p]].toArray w (fun e w' => e = .returned (.bool (befB a b)) ∧ Mod [] w w') := by
 have v0 : Mod [] w w := Mod.refl _ _
 refine enter (n := 30) Tryz.func82 rfl Tryz.ntmps82 rfl ?_
 refine zw ?_
 refine reg_alloc (#[.int .i64 a.f, .int .i64 a.t, .int .i64 a.p]) 30 (some 2) (by kernel_rfl) ?_
 intro b1 w2 hn3
 have hb4 := Nat.le_trans v0.size hn3.base
 have v5 := hn3.mod
 have v6 := zt v0 v5
 have hz7 := Mod.size v5
 have u8 := hn3.at_
 refine reg_alloc (#[.int .i64 b.f, .int .i64 b.t, .int .i64 b.p]) 30 (some 3) (by kernel_rfl) ?_
 intro b9 w10 hn11
 have ne12 : b1 ≠ b9 := hn11.ne u8
 have hb13 := Nat.le_trans v6.size hn11.base
 have v14 := hn11.mod
 have u15 := At.on u8 v14
 have v16 := zt v6 v14
 have hz17 := Mod.size v14
 have u18 := hn11.at_
 refine zs 1 [rz 2 b1, rz 3 b9] ?_
 refine zz ?_
 refine w_seq ?_
 refine zw ?_
 refine zo 5 [rz 2 b1, rz 3 b9, (9, .bool (a.f != b.f))] [.cell ⟨b1, 0, none⟩ (.int .i64 a.f), .cell ⟨b9, 0, none⟩ (.int .i64 b.f)] (⟨At.cell u15 rfl, At.cell u18 rfl⟩) ?_
 refine zz ?_
 refine zc (fun hc19 => ?_) fun hc19 => ?_
 ·have y19 := hc19; try simp only [zbq] at y19
  refine zw ?_
  refine zo 6 [(4, .bool (decide (a.f < b.f)))] [.cell ⟨b1, 0, none⟩ (.int .i64 a.f), .cell ⟨b9, 0, none⟩ (.int .i64 b.f)] (⟨At.cell u15 rfl, At.cell u18 rfl⟩) ?_
  refine zz ?_
  refine w_ret ?_
  refine r_then ?_
  exact ret1 rfl rfl (⟨ret_bool (by unfold befB; simp only [hc19, cond_true, cond_false]), v16⟩)
 have y19 := hc19; try simp only [zbq] at y19
 refine w_skip ?_
 refine n_then ?_
 refine w_seq ?_
 refine zw ?_
 refine zo 5 [rz 2 b1, rz 3 b9, (19, .bool (a.t != b.t))] [.cell ⟨b1, 1, none⟩ (.int .i64 a.t), .cell ⟨b9, 1, none⟩ (.int .i64 b.t)] (⟨At.cell u15 rfl, At.cell u18 rfl⟩) ?_
 refine zz ?_
 refine zc (fun hc20 => ?_) fun hc20 => ?_
 ·have y20 := hc20; try simp only [zbq] at y20
  refine zw ?_
  refine zo 6 [(4, .bool (decide (a.t < b.t)))] [.cell ⟨b1, 1, none⟩ (.int .i64 a.t), .cell ⟨b9, 1, none⟩ (.int .i64 b.t)] (⟨At.cell u15 rfl, At.cell u18 rfl⟩) ?_
  refine zz ?_
  refine w_ret ?_
  refine r_then ?_
  exact ret1 rfl rfl (⟨ret_bool (by unfold befB; simp only [hc19, hc20, cond_true, cond_false]), v16⟩)
 have y20 := hc20; try simp only [zbq] at y20
 refine w_skip ?_
 refine zn ?_
 refine zo 6 [(4, .bool (decide (a.p < b.p)))] [.cell ⟨b1, 2, none⟩ (.int .i64 a.p), .cell ⟨b9, 2, none⟩ (.int .i64 b.p)] (⟨At.cell u15 rfl, At.cell u18 rfl⟩) ?_
 refine zz ?_
 refine w_ret ?_
 exact ret1 rfl rfl (⟨ret_bool (by unfold befB; simp only [hc19, hc20, cond_true, cond_false]), v16⟩)
theorem c48 {w : World} (l : List Sm) {bl cap : Nat} {ao : Option Addr} (hl : Own w bl 30 3 ao l.length cap (sms l)) (hn : l.length ≤ 100000) :
  Calls Tryz.prog 48 [.slice ao l.length cap].toArray w (fun e w' => ∃ l' ao' cap', e = .returned (.slice ao' l'.length cap') ∧ Mod [] w w' ∧ Same l l' ∧ Own w' w.heap.size 30 3 ao' l'.length cap' (sms l')) := by
 have v0 : Mod [] w w := Mod.refl _ _
 refine enter (n := 49) Tryz.func48 rfl Tryz.ntmps48 rfl ?_
 refine zw ?_
 refine zs 1 [(0, .slice ao l.length cap)] ?_
 refine zx ?_
 refine reg_bslice0 30 (some 6) (by kernel_rfl) ?_
 intro b1 w2 hn3
 have hb4 := Nat.le_trans v0.size hn3.base
 have v5 := hn3.mod
 have ho6 := Own.on hl v5
 have v7 := zt v0 v5
 have hz8 := Mod.size v5
 have u9 := hn3.at_
 refine zs 1 [(6, .slice (some ⟨b1, 0, none⟩) 0 0), (7, .slice ao l.length cap)] ?_
 have ho10 : Own w2 b1 30 3 (some ⟨b1, 0, none⟩) ([]).length ([]).length (sms ([])) := own_of_at (by exact u9) (Nat.le_refl _) (sms_len _) (by decide)
 refine reg_append_own (some ⟨b1, 0, none⟩) 0 0 ao l.length cap 30 (some 8) 3 24 (b0 := b1) (xs := sms ([])) (news := sms l) (by kernel_rfl) ho10 ho6 (by decide) (sms_one _) (by omega) (by have := Own.lt ho10 _ (List.mem_singleton.2 rfl); omega) ?_
 intro ao11 cap12 w13 ho14 v15 hd16
 have v18 := Mod.fresh' v7 v15 (fun x hx => Or.inr (by have := Own.lt ho10 x hx; omega))
 have hz19 := Mod.size v15
 rw [show (0 + l.length : Nat) = l.length from (by first | rfl | simp)]
 have ho20 : Own w13 b1 30 3 ao11 l.length cap12 (sms l) := Own.cast ho14 (by first | rfl | simp) (by first | rfl | rw [sms_append])
 have hsame0 := Same.refl l
 refine zs 1 [(3, .slice ao11 l.length cap12)] ?_
 refine zz ?_
 refine w_seq ?_
 refine zw ?_
 refine zs 1 [(3, .slice ao11 l.length cap12), iz 4 1] ?_
 refine zz ?_
 refine w_block ?_
 refine w_loop (γ := GP) (fun g21 => ((max l.length 1 : Nat) - g21.i).toNat) (fun (g21 : GP) => [(3, .slice ao11 l.length cap12), (4, .int .i64 g21.i)]) (fun (g21 : GP) w_ => (1 ≤ g21.i ∧ g21.i ≤ (max l.length 1 : Nat)) ∧ Mod (blk ao11) w13 w_ ∧ Own w_ b1 30 3 ao11 l.length cap12 (sms g21.l) ∧ Same l g21.l) (⟨1, l⟩ : GP) (hold_keep [3, 4] (by kernel_rfl)) ⟨(by constructor <;> (try dsimp only) <;> omega), Mod.refl _ _, ho20, hsame0⟩ ?_
 rintro g21 w22 ⟨⟨h26, h27⟩, v23, ho24, hx25⟩
 have v28 := Mod.fresh' v18 v23 (fun x hx => Or.inr (by have := Own.lt ho20 x hx; omega))
 have hz29 := Mod.size v23
 have hln := hx25.len
 refine w_seq ?_
 refine zw ?_
 refine zs 4 [(3, .slice ao11 l.length cap12), iz 4 g21.i, (12, .bool (decide (g21.i < ((l.length : Nat) : Int))))] ?_
 refine zz ?_
 refine zc (fun hc30 => ?_) fun hc30 => ?_
 ·have y30 := of_decide_eq_true hc30
  obtain ⟨g31, cur32, rfl, hb33, u34, ht35, hn36, hs37⟩ := Own.some ho24 (by omega)
  refine w_skip ?_
  refine n_then ?_
  refine w_seq ?_
  refine w_block ?_
  refine zw ?_
  refine zs 2 [(3, .slice (some ⟨g31, 0, none⟩) l.length cap12), iz 4 g21.i, iz 5 g21.i] ?_
  refine zz ?_
  refine w_block ?_
  refine w_loop (γ := GP) (fun g38 => g38.i.toNat) (fun (g38 : GP) => [(3, .slice (some ⟨g31, 0, none⟩) l.length cap12), (4, .int .i64 g21.i), (5, .int .i64 g38.i)]) (fun (g38 : GP) w_ => (0 ≤ g38.i ∧ g38.i ≤ g21.i) ∧ Mod (blk (some ⟨g31, 0, none⟩)) w22 w_ ∧ Own w_ b1 30 3 (some ⟨g31, 0, none⟩) l.length cap12 (sms g38.l) ∧ Same l g38.l) (⟨g21.i, g21.l⟩ : GP) (hold_keep [3, 4, 5] (by kernel_rfl)) ⟨(by constructor <;> (try dsimp only) <;> omega), Mod.refl _ _, ho24, hx25⟩ ?_
  rintro g38 w39 ⟨⟨h43, h44⟩, v40, ho41, hx42⟩
  have v46 := Mod.trans v23 v40
  have hz47 := Mod.size v40
  have hln := hx42.len
  refine w_seq ?_
  refine w_cut (γ := Unit) (fun _ => [(3, .slice (some ⟨g31, 0, none⟩) l.length cap12), (4, .int .i64 g21.i), (5, .int .i64 g38.i), (29, .bool ((decide (g38.i > 0)) && (befB (smAt g38.l g38.i) (smAt g38.l (g38.i - 1)))))]) (fun _ w_ => Mod [] w39 w_) ?_ ?_
  ·have v50 : Mod [] w39 w39 := Mod.refl _ _
   refine w_quiet (by kernel_rfl) (by kernel_rfl) ?_
   refine zq 3 [(3, .slice (some ⟨g31, 0, none⟩) l.length cap12), iz 4 g21.i, iz 5 g38.i, (18, .bool (decide (g38.i > 0)))] ?_
   cases hc51 : (decide (g38.i > (0 : Int)))
   ·have y51 := hc51; try simp only [zbq] at y51
    refine zq 11 [(3, .slice (some ⟨g31, 0, none⟩) l.length cap12), iz 4 g21.i, iz 5 g38.i, (29, .bool false)] ?_
    refine q_out (by kernel_rfl) ?_
    intro w52 v53
    have v55 := zt v50 v53
    have hz58 := Mod.size v53
    exact zb () v55
   have y51 := hc51; try simp only [zbq] at y51
   refine zqv 7 [(3, .slice (some ⟨g31, 0, none⟩) l.length cap12), iz 4 g21.i, iz 5 g38.i, (18, .bool true), (22, .agg #[.int .i64 ((smAt g38.l g38.i).f), .int .i64 ((smAt g38.l g38.i).t), .int .i64 ((smAt g38.l g38.i).p)]), (23, .slice (some ⟨g31, 0, none⟩) l.length cap12), iz 25 (IntKind.i64.wrap (g38.i - 1))] [.prop (0 ≤ g38.i ∧ g38.i < ((l.length : Nat) : Int)), .row ⟨g31, (0 + g38.i.toNat * 3), none⟩ 3 (#[.int .i64 ((smAt g38.l g38.i).f), .int .i64 ((smAt g38.l g38.i).t), .int .i64 ((smAt g38.l g38.i).p)])] [.agg #[.int .i64 ((smAt g38.l g38.i).f), .int .i64 ((smAt g38.l g38.i).t), .int .i64 ((smAt g38.l g38.i).p)]] (fun _ hC => ⟨(zh (by omega)), (own_sm (l := g38.l) (i := g38.i) (Own.on ho41 hC) (by omega) (by omega))⟩) ?_
   rw [zi (g38.i - (1 : Int)) (by omega) (by omega)]
   refine zqv 2 [(3, .slice (some ⟨g31, 0, none⟩) l.length cap12), iz 4 g21.i, iz 5 g38.i, (18, .bool true), (22, .agg #[.int .i64 ((smAt g38.l g38.i).f), .int .i64 ((smAt g38.l g38.i).t), .int .i64 ((smAt g38.l g38.i).p)]), (27, .agg #[.int .i64 ((smAt g38.l (g38.i - 1)).f), .int .i64 ((smAt g38.l (g38.i - 1)).t), .int .i64 ((smAt g38.l (g38.i - 1)).p)])] [.prop (0 ≤ (g38.i - 1) ∧ (g38.i - 1) < ((l.length : Nat) : Int)), .row ⟨g31, (0 + (g38.i - 1).toNat * 3), none⟩ 3 (#[.int .i64 ((smAt g38.l (g38.i - 1)).f), .int .i64 ((smAt g38.l (g38.i - 1)).t), .int .i64 ((smAt g38.l (g38.i - 1)).p)])] [.agg #[.int .i64 ((smAt g38.l (g38.i - 1)).f), .int .i64 ((smAt g38.l (g38.i - 1)).t), .int .i64 ((smAt g38.l (g38.i - 1)).p)]] (fun _ hC => ⟨(zh (by omega)), (own_sm (l := g38.l) (i := (g38.i - 1)) (Own.on ho41 hC) (by omega) (by omega))⟩) ?_
   refine zqk (some 28) (fun w_ hC => c82 (smAt g38.l g38.i) (smAt g38.l (g38.i - 1))) ?_
   refine zq 1 [(3, .slice (some ⟨g31, 0, none⟩) l.length cap12), iz 4 g21.i, iz 5 g38.i, (29, .bool (befB (smAt g38.l g38.i) (smAt g38.l (g38.i - 1))))] ?_
   refine q_out (by kernel_rfl) ?_
   intro w59 v60
   have v62 := zt v50 v60
   have hz65 := Mod.size v60
   exact zb () v62
  intro _ w48 v49
  have ho66 := Own.on ho41 v49
  have v68 := Mod.trans v46 (Mod.of_nil v49)
  have v69 := Mod.trans v40 (Mod.of_nil v49)
  have hz70 := Mod.size v49
  refine zc (fun hc71 => ?_) fun hc71 => ?_
  ·have y71 := hc71; try simp only [zbq] at y71
   refine w_skip ?_
   refine n_then ?_
   refine w_seq ?_
   refine w_block ?_
   refine a_start (f := 18) (by kernel_rfl) (by kernel_rfl) fun w72 v73 => ?_
   have ho74 := Own.on ho66 v73
   have v77 := Mod.trans v69 (Mod.of_nil v73)
   have hz78 := Mod.size v73
   refine a_take 0 (.slice (some ⟨g31, 0, none⟩) l.length cap12) (some 32) [] [] (by kernel_rfl) (by kernel_rfl) trivial ?_
   refine a_take 1 (.int .i64 g38.i) (some 33) [] [] (by kernel_rfl) (by kernel_rfl) trivial ?_
   refine a_take 2 (.slice (some ⟨g31, 0, none⟩) l.length cap12) (some 34) [] [] (by kernel_rfl) (by kernel_rfl) trivial ?_
   refine a_take 3 (.int .i64 g38.i) (some 35) [] [] (by kernel_rfl) (by kernel_rfl) trivial ?_
   refine a_take 4 (.int .i64 (IntKind.i64.wrap (g38.i - 1))) (some 36) [] [] (by kernel_rfl) (by kernel_rfl) trivial ?_
   rw [zi (g38.i - (1 : Int)) (by omega) (by omega)]
   refine a_take 5 (.slice (some ⟨g31, 0, none⟩) l.length cap12) (some 37) [] [] (by kernel_rfl) (by kernel_rfl) trivial ?_
   refine a_take 6 (.int .i64 g38.i) (some 38) [] [] (by kernel_rfl) (by kernel_rfl) trivial ?_
   refine a_take 7 (.int .i64 (IntKind.i64.wrap (g38.i - 1))) (some 39) [] [] (by kernel_rfl) (by kernel_rfl) trivial ?_
   rw [zi (g38.i - (1 : Int)) (by omega) (by omega)]
   refine a_take 8 (.pointer (some ⟨g31, (0 + (g38.i - 1).toNat * 3), none⟩)) (some 40) [.prop (0 ≤ (g38.i - 1) ∧ (g38.i - 1) < ((l.length : Nat) : Int))] [] (by kernel_rfl) (by kernel_rfl) ⟨(by omega), trivial⟩ ?_
   refine a_take 10 (.slice (some ⟨g31, 0, none⟩) l.length cap12) (some 42) [] [] (by kernel_rfl) (by kernel_rfl) trivial ?_
   refine a_take 11 (.int .i64 g38.i) (some 43) [] [] (by kernel_rfl) (by kernel_rfl) trivial ?_
   refine a_take 12 (.pointer (some ⟨g31, (0 + g38.i.toNat * 3), none⟩)) (some 44) [.prop (0 ≤ g38.i ∧ g38.i < ((l.length : Nat) : Int))] [] (by kernel_rfl) (by kernel_rfl) ⟨(by omega), trivial⟩ ?_
   refine a_two 9 13 (.agg #[.int .i64 ((smAt g38.l (g38.i - 1)).f), .int .i64 ((smAt g38.l (g38.i - 1)).t), .int .i64 ((smAt g38.l (g38.i - 1)).p)]) (.agg #[.int .i64 ((smAt g38.l g38.i).f), .int .i64 ((smAt g38.l g38.i).t), .int .i64 ((smAt g38.l g38.i).p)]) (some 41) (some 45) [.row ⟨g31, (0 + (g38.i - 1).toNat * 3), none⟩ 3 (#[.int .i64 ((smAt g38.l (g38.i - 1)).f), .int .i64 ((smAt g38.l (g38.i - 1)).t), .int .i64 ((smAt g38.l (g38.i - 1)).p)])] [.row ⟨g31, (0 + g38.i.toNat * 3), none⟩ 3 (#[.int .i64 ((smAt g38.l g38.i).f), .int .i64 ((smAt g38.l g38.i).t), .int .i64 ((smAt g38.l g38.i).p)])] [.agg #[.int .i64 ((smAt g38.l (g38.i - 1)).f), .int .i64 ((smAt g38.l (g38.i - 1)).t), .int .i64 ((smAt g38.l (g38.i - 1)).p)]] [.agg #[.int .i64 ((smAt g38.l g38.i).f), .int .i64 ((smAt g38.l g38.i).t), .int .i64 ((smAt g38.l g38.i).p)]] (by kernel_rfl) (by kernel_rfl) (by kernel_rfl) (own_sm (l := g38.l) (i := (g38.i - 1)) ho74 (by omega) (by omega)) (own_sm (l := g38.l) (i := g38.i) ho74 (by omega) (by omega)) ?_ ?_
   ·refine a_one 13 (.agg #[.int .i64 ((smAt g38.l g38.i).f), .int .i64 ((smAt g38.l g38.i).t), .int .i64 ((smAt g38.l g38.i).p)]) (some 45) [.row ⟨g31, (0 + g38.i.toNat * 3), none⟩ 3 (#[.int .i64 ((smAt g38.l g38.i).f), .int .i64 ((smAt g38.l g38.i).t), .int .i64 ((smAt g38.l g38.i).p)])] [.agg #[.int .i64 ((smAt g38.l g38.i).f), .int .i64 ((smAt g38.l g38.i).t), .int .i64 ((smAt g38.l g38.i).p)]] (by kernel_rfl) (by kernel_rfl) (own_sm (l := g38.l) (i := g38.i) ho74 (by omega) (by omega)) ?_
    refine a_tail 14 (by kernel_rfl) (by kernel_rfl) ?_
    refine zo 1 [(3, .slice (some ⟨g31, 0, none⟩) l.length cap12), iz 4 g21.i, iz 5 g38.i, (34, .slice (some ⟨g31, 0, none⟩) l.length cap12), iz 36 (g38.i - 1), (41, .agg #[.int .i64 ((smAt g38.l (g38.i - 1)).f), .int .i64 ((smAt g38.l (g38.i - 1)).t), .int .i64 ((smAt g38.l (g38.i - 1)).p)]), (45, .agg #[.int .i64 ((smAt g38.l g38.i).f), .int .i64 ((smAt g38.l g38.i).t), .int .i64 ((smAt g38.l g38.i).p)]), (46, .pointer (some ⟨g31, (0 + g38.i.toNat * 3), none⟩))] [.prop (0 ≤ g38.i ∧ g38.i < ((l.length : Nat) : Int))] (zh (by omega)) ?_
    refine reg_store_sm g31 g38.i.toNat (smAt g38.l (g38.i - 1)) none (by kernel_rfl) ho74 (by omega) ?_
    intro w79 v80 ho81
    have v84 := Mod.trans v77 v80
    have hz85 := Mod.size v80
    refine zo 1 [(3, .slice (some ⟨g31, 0, none⟩) l.length cap12), iz 4 g21.i, iz 5 g38.i, (45, .agg #[.int .i64 ((smAt g38.l g38.i).f), .int .i64 ((smAt g38.l g38.i).t), .int .i64 ((smAt g38.l g38.i).p)]), (47, .pointer (some ⟨g31, (0 + (g38.i - 1).toNat * 3), none⟩))] [.prop (0 ≤ (g38.i - 1) ∧ (g38.i - 1) < ((l.length : Nat) : Int))] (zh (by omega)) ?_
    refine reg_store_sm g31 (g38.i - 1).toNat (smAt g38.l g38.i) none (by kernel_rfl) ho81 (by rw [List.length_set]; omega) ?_
    intro w86 v87 ho88
    have v91 := Mod.trans v84 v87
    have hz92 := Mod.size v87
    have hsw93 := Same.swap hx42 (a := g38.i.toNat) (b := (g38.i - 1).toNat) (by omega) (by omega)
    refine ze ?_
    refine only_n ?_
    refine n_block ?_
    refine n_then ?_
    refine w_region ?_
    refine zs 2 [(3, .slice (some ⟨g31, 0, none⟩) l.length cap12), iz 4 g21.i, iz 31 (IntKind.i64.wrap (g38.i - 1))] ?_
    rw [zi (g38.i - (1 : Int)) (by omega) (by omega)]
    refine zs 1 [(3, .slice (some ⟨g31, 0, none⟩) l.length cap12), iz 4 g21.i, iz 5 (g38.i - 1)] ?_
    refine ze ?_
    exact l_back (⟨(g38.i - 1), (swapL g38.l g38.i.toNat (g38.i - 1).toNat)⟩ : GP) [3, 4, 5] (by kernel_rfl) (by dsimp only; omega) ⟨(by constructor <;> (try dsimp only) <;> omega), v91, ho88, hsw93⟩
   refine a_one 9 (.agg #[.int .i64 ((smAt g38.l (g38.i - 1)).f), .int .i64 ((smAt g38.l (g38.i - 1)).t), .int .i64 ((smAt g38.l (g38.i - 1)).p)]) (some 41) [.row ⟨g31, (0 + (g38.i - 1).toNat * 3), none⟩ 3 (#[.int .i64 ((smAt g38.l (g38.i - 1)).f), .int .i64 ((smAt g38.l (g38.i - 1)).t), .int .i64 ((smAt g38.l (g38.i - 1)).p)])] [.agg #[.int .i64 ((smAt g38.l (g38.i - 1)).f), .int .i64 ((smAt g38.l (g38.i - 1)).t), .int .i64 ((smAt g38.l (g38.i - 1)).p)]] (by kernel_rfl) (by kernel_rfl) (own_sm (l := g38.l) (i := (g38.i - 1)) ho74 (by omega) (by omega)) ?_
   refine a_tail 14 (by kernel_rfl) (by kernel_rfl) ?_
   refine zo 1 [(3, .slice (some ⟨g31, 0, none⟩) l.length cap12), iz 4 g21.i, iz 5 g38.i, (34, .slice (some ⟨g31, 0, none⟩) l.length cap12), iz 36 (g38.i - 1), (41, .agg #[.int .i64 ((smAt g38.l (g38.i - 1)).f), .int .i64 ((smAt g38.l (g38.i - 1)).t), .int .i64 ((smAt g38.l (g38.i - 1)).p)]), (45, .agg #[.int .i64 ((smAt g38.l g38.i).f), .int .i64 ((smAt g38.l g38.i).t), .int .i64 ((smAt g38.l g38.i).p)]), (46, .pointer (some ⟨g31, (0 + g38.i.toNat * 3), none⟩))] [.prop (0 ≤ g38.i ∧ g38.i < ((l.length : Nat) : Int))] (zh (by omega)) ?_
   refine reg_store_sm g31 g38.i.toNat (smAt g38.l (g38.i - 1)) none (by kernel_rfl) ho74 (by omega) ?_
   intro w94 v95 ho96
   have v99 := Mod.trans v77 v95
   have hz100 := Mod.size v95
   refine zo 1 [(3, .slice (some ⟨g31, 0, none⟩) l.length cap12), iz 4 g21.i, iz 5 g38.i, (45, .agg #[.int .i64 ((smAt g38.l g38.i).f), .int .i64 ((smAt g38.l g38.i).t), .int .i64 ((smAt g38.l g38.i).p)]), (47, .pointer (some ⟨g31, (0 + (g38.i - 1).toNat * 3), none⟩))] [.prop (0 ≤ (g38.i - 1) ∧ (g38.i - 1) < ((l.length : Nat) : Int))] (zh (by omega)) ?_
   refine reg_store_sm g31 (g38.i - 1).toNat (smAt g38.l g38.i) none (by kernel_rfl) ho96 (by rw [List.length_set]; omega) ?_
   intro w101 v102 ho103
   have v106 := Mod.trans v99 v102
   have hz107 := Mod.size v102
   have hsw108 := Same.swap hx42 (a := g38.i.toNat) (b := (g38.i - 1).toNat) (by omega) (by omega)
   refine ze ?_
   refine only_n ?_
   refine n_block ?_
   refine n_then ?_
   refine w_region ?_
   refine zs 2 [(3, .slice (some ⟨g31, 0, none⟩) l.length cap12), iz 4 g21.i, iz 31 (IntKind.i64.wrap (g38.i - 1))] ?_
   rw [zi (g38.i - (1 : Int)) (by omega) (by omega)]
   refine zs 1 [(3, .slice (some ⟨g31, 0, none⟩) l.length cap12), iz 4 g21.i, iz 5 (g38.i - 1)] ?_
   refine ze ?_
   exact l_back (⟨(g38.i - 1), (swapL g38.l g38.i.toNat (g38.i - 1).toNat)⟩ : GP) [3, 4, 5] (by kernel_rfl) (by dsimp only; omega) ⟨(by constructor <;> (try dsimp only) <;> omega), v106, ho103, hsw108⟩
  have y71 := hc71; try simp only [zbq] at y71
  refine w_exit ?_
  refine x_then ?_
  refine x_then ?_
  refine x_hit ?_
  refine n_block ?_
  refine n_then ?_
  refine w_region ?_
  refine zs 2 [(3, .slice (some ⟨g31, 0, none⟩) l.length cap12), iz 14 (IntKind.i64.wrap (g21.i + 1))] ?_
  rw [zi (g21.i + (1 : Int)) (by omega) (by omega)]
  refine zs 1 [(3, .slice (some ⟨g31, 0, none⟩) l.length cap12), iz 4 (g21.i + 1)] ?_
  refine ze ?_
  exact l_back (⟨(g21.i + 1), g38.l⟩ : GP) [3, 4] (by kernel_rfl) (by dsimp only; omega) ⟨(by constructor <;> (try dsimp only) <;> omega), v68, ho66, hx42⟩
 have y30 := of_decide_eq_false hc30
 refine w_exit ?_
 refine x_then ?_
 refine x_then ?_
 refine x_hit ?_
 refine zn ?_
 refine zs 2 [(2, .slice ao11 l.length cap12)] ?_
 refine zz ?_
 refine w_ret ?_
 exact ret1 rfl rfl (⟨g21.l, ao11, cap12, (by rw [hx25.len]), v28, hx25, Own.cast (Own.base ho24 (by omega)) (by rw [hx25.len]) rfl⟩)
end Go.Proofs.YtgnhellfhjoaaaaGreatDoor
