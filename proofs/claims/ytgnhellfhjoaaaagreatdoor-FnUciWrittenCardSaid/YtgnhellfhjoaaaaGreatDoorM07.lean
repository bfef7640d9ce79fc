/-
  FnUciWritten: in every right position each legal move is written by the rules of the universal chess interface as the definition writes it, and what is written is read as the move (a part of the proof).
  Conditions: those of each theorem.
-/
import Derived.Test.YtgnhellfhjoaaaaGreatDoorM01
import Derived.Test.YtgnhellfhjoaaaaGreatDoorM02
import Derived.Test.YtgnhellfhjoaaaaGreatDoorM03
import Derived.Test.YtgnhellfhjoaaaaGreatDoorM04
import Derived.Test.YtgnhellfhjoaaaaGreatDoorM06
import Derived.Lib.AppendStr
import Derived.Lib.UnsafeStr
import Derived.Lib.Builder
import Derived.Laws.IdiomStrings
import Derived.Laws.BytesArg
set_option linter.unusedVariables false
set_option linter.unusedSimpArgs false
namespace Go.Proofs.YtgnhellfhjoaaaaGreatDoor
open Go Go.RowKit
set_option maxRecDepth 100000
theorem reachL_rng {bd : Nat → Int} {s x : Int} (h : x ∈ reachL bd s) : 0 ≤ x ∧ x ≤ 63 := by
 have h1 : ∀ (far : Bool) (d : Int × Int) (m : Nat) (n : Int), ∀ x ∈ rayF bd s far d m n, 0 ≤ x ∧ x ≤ 63 := by
  intro far d m
  induction m with
  | zero => intro n x hx; simp [rayF] at hx
  | succ m ih =>
   intro n x hx
   unfold rayF at hx
   split at hx
   ·cases hx
   ·rename_i hn
    have hr := atS_rng ((s % 8) + (n * d.1)) ((s / 8) + (n * d.2))
    rcases List.mem_cons.1 hx with rfl | hx
    ·unfold raySq at *; omega
    ·split at hx
     ·cases hx
     ·exact ih _ _ hx
 unfold reachL reachTo at h
 obtain ⟨d, _, hd⟩ := List.mem_flatMap.1 h
 exact h1 _ _ _ _ x hd
theorem stepsL_rng {bd : Nat → Int} {ep s x : Int} (h : x ∈ stepsL bd ep s) : 0 ≤ x ∧ x ≤ 63 := by
 unfold stepsL at h
 rw [List.mem_append] at h
 rcases h with h | h
 ·unfold onL at h
  cases h1 : oneB bd s (sideOf (bd s.toNat)) <;> rw [h1] at h
  ·cases h
  have hone : 0 ≤ oneS s (sideOf (bd s.toNat)) := by unfold oneB at h1; simp only [Bool.and_eq_true, decide_eq_true_eq] at h1; omega
  have r1 := atS_rng (s % 8) ((s / 8) + (1 - 2 * (sideOf (bd s.toNat))))
  have r2 := atS_rng (s % 8) ((s / 8) + ((2 : Int) * (1 - 2 * (sideOf (bd s.toNat)))))
  cases h2 : twoB bd s (sideOf (bd s.toNat)) <;> rw [h2] at h <;> simp only [cond_true, cond_false, List.mem_cons, List.not_mem_nil, or_false] at h
  ·unfold oneS at *; omega
  rcases h with h | h
  ·unfold oneS at *; omega
  have h3 : s / 8 = 1 + 5 * (sideOf (bd s.toNat)) := by unfold twoB at h2; simp only [Bool.and_eq_true, beq_iff_eq] at h2; exact h2.1
  have h4 := sideOf_or (bd s.toNat)
  have : twoS s (sideOf (bd s.toNat)) ≠ -1 := by unfold twoS atS; split <;> omega
  unfold twoS at *; omega
 exact hitsL_rng (List.mem_filter.1 h).1
theorem stepsL_len (bd : Nat → Int) (ep s : Int) : (stepsL bd ep s).length ≤ 4 := by
 unfold stepsL
 have h1 := onL_len bd s (sideOf (bd s.toNat))
 have h2 := List.length_filter_le (stepB bd ep (sideOf (bd s.toNat))) (hitsL s (sideOf (bd s.toNat)))
 have h3 := hits_len s (sideOf (bd s.toNat))
 rw [List.length_append]; omega
theorem reachL_len (bd : Nat → Int) (s : Int) : (reachL bd s).length ≤ 56 := reachTo_len _ _ _ 8
def promL (s t : Int) : List Sm := (List.range 4).map fun (k : Nat) => ⟨s, t, (k : Int) + 2⟩
def toL (P : SP) (s t : Int) : List Sm :=
 bif (P.bd t.toNat != (0 : Int)) && (sideOf (P.bd t.toNat) == P.turn) then [] else
 bif (kindOf (P.bd s.toNat) != (6 : Int)) || ((t / 8) != ((7 : Int) - ((7 : Int) * P.turn))) then [⟨s, t, 0⟩] else promL s t
def dstL (P : SP) (s : Int) : List Int := bif kindOf (P.bd s.toNat) == (6 : Int) then stepsL P.bd P.ep s else reachL P.bd s
def fromL (P : SP) (s : Int) : List Sm := bif (P.bd s.toNat == (0 : Int)) || (sideOf (P.bd s.toNat) != P.turn) then [] else (dstL P s).flatMap (toL P s)
def pseudoL (P : SP) : List Sm := (List.range 64).flatMap (fun (k : Nat) => fromL P (k : Int)) ++ castS P
theorem toL_len (P : SP) (s t : Int) : (toL P s t).length ≤ 4 := by
 unfold toL
 cases ((P.bd t.toNat != (0 : Int)) && (sideOf (P.bd t.toNat) == P.turn)) <;> cases ((kindOf (P.bd s.toNat) != (6 : Int)) || ((t / 8) != ((7 : Int) - ((7 : Int) * P.turn)))) <;> simp [promL]
theorem dstL_len (P : SP) (s : Int) : (dstL P s).length ≤ 56 := by
 unfold dstL; have := stepsL_len P.bd P.ep s; have := reachL_len P.bd s
 cases (kindOf (P.bd s.toNat) == (6 : Int)) <;> simp <;> omega
theorem fromL_len (P : SP) (s : Int) : (fromL P s).length ≤ 224 := by
 unfold fromL
 have h1 := flat_le (toL_len P s) (dstL P s)
 have h2 := dstL_len P s
 cases ((P.bd s.toNat == (0 : Int)) || (sideOf (P.bd s.toNat) != P.turn)) <;> simp only [cond_true, cond_false, List.length_nil] <;> omega
theorem pseudoL_len (P : SP) : (pseudoL P).length ≤ 20000 := by
 unfold pseudoL
 have h1 := flat_le (f := fun (k : Nat) => fromL P (k : Int)) (fun k => fromL_len P k) (List.range 64)
 have h2 := castS_len P
 rw [List.length_append]; simp only [List.length_range] at h1; omega
theorem range_at {i : Int} (h0 : 0 ≤ i) (h : i < 64) : (((List.range 64).getD i.toNat 0 : Nat) : Int) = i := by
 rw [List.getD_eq_getElem?_getD, List.getElem?_eq_getElem (by rw [List.length_range]; omega)]
 simp; omega
theorem dst_at {M : List Int} (hM : ∀ x ∈ M, 0 ≤ x ∧ x ≤ 63) {i : Int} (h0 : 0 ≤ i) (h : i < (M.length : Int)) : 0 ≤ M.getD i.toNat 0 ∧ M.getD i.toNat 0 ≤ 63 := by
 refine hM _ ?_
 rw [List.getD_eq_getElem?_getD, List.getElem?_eq_getElem (by omega)]; exact List.getElem_mem _
def PromI (base : List Sm) (s t : Int) (q : GS) : Prop := q.l = base ++ (promL s t).take (q.i - 2).toNat
theorem PromI.step {base : List Sm} {s t : Int} {q : GS} {ao : Option Addr} {cap : Nat} (h : PromI base s t q) (h1 : 2 ≤ q.i ∧ q.i ≤ 5) : PromI base s t ⟨q.i + 1, q.l ++ [⟨s, t, q.i⟩], ao, cap⟩ := by
 unfold PromI at *
 dsimp only
 have hl : (promL s t).length = 4 := rfl
 rw [h, show (q.i + 1 - 2).toNat = (q.i - 2).toNat + 1 by omega, List.take_succ_eq_append_getElem (by omega), List.append_assoc]
 congr 2
 simp [promL]; omega
theorem PromI.fin {base : List Sm} {s t : Int} {q : GS} (h : PromI base s t q) (h1 : ¬ q.i ≤ 5) : q.l = base ++ promL s t := by
 unfold PromI at h; rw [h, List.take_of_length_le (by have : (promL s t).length = 4 := rfl; omega)]
theorem PromI.len {base : List Sm} {s t : Int} {q : GS} (h : PromI base s t q) : q.l.length ≤ base.length + 4 := by
 unfold PromI at h; rw [h, List.length_append]
 have : ((promL s t).take (q.i - 2).toNat).length ≤ 4 := by rw [List.length_take]; have : (promL s t).length = 4 := rfl; omega
 omega
def OutI (P : SP) (q : GS) : Prop := FlatI [] (List.range 64) (fun (k : Nat) => fromL P (k : Int)) q.i q.l
def MidI (base : List Sm) (P : SP) (s : Int) (M : List Int) (q : GS) : Prop := FlatI base M (toL P s) q.i q.l
theorem OutI.len {P : SP} {q : GS} (h : OutI P q) : q.l.length ≤ 14336 := by
 have := FlatI.len h (c := 224) (fun k => fromL_len P k); simp only [List.length_nil, List.length_range] at this; omega
theorem MidI.len {base : List Sm} {P : SP} {s : Int} {M : List Int} {q : GS} (h : MidI base P s M q) (hM : M.length ≤ 56) : q.l.length ≤ base.length + 224 := by
 have := FlatI.len h (c := 4) (toL_len P s); omega
set_option maxHeartbeats 1000000 in
theorem c21 {w : World} (P : SP) (hB : SPb P) (hT : 0 ≤ P.turn ∧ P.turn ≤ 1) :
  Calls Tryz.prog 21 [.agg (spCells P)].toArray w (fun e w' => ∃ l ao cap, e = .returned (.slice ao l.length cap) ∧ Mod [] w w' ∧ Same (pseudoL P) l ∧ Own w' w.heap.size 30 3 ao l.length cap (sms l)) := by
 have v0 : Mod [] w w := Mod.refl _ _
 refine enter (n := 95) Tryz.func21 rfl Tryz.ntmps21 rfl ?_
 refine zw ?_
 refine reg_alloc (spCells P) 24 (some 1) (by kernel_rfl) ?_
 intro b1 w2 hn3
 have hb4 := Nat.le_trans v0.size hn3.base
 have v5 := hn3.mod
 have v6 := zt v0 v5
 have hz7 := Mod.size v5
 have u8 := hn3.at_
 refine zs 1 [rz 1 b1] ?_
 refine zx ?_
 refine zs 1 [rz 1 b1, (3, .slice none 0 0)] ?_
 refine zz ?_
 refine w_seq ?_
 refine zw ?_
 refine zs 1 [rz 1 b1, (3, .slice none 0 0), iz 4 0] ?_
 refine zz ?_
 refine w_block ?_
 refine w_loop (γ := GS) (fun g9 => (64 - g9.i).toNat) (fun (g9 : GS) => [(1, pz b1), (3, .slice g9.ao g9.l.length g9.cap), (4, .int .i64 g9.i)]) (fun (g9 : GS) w_ => (0 ≤ g9.i ∧ g9.i ≤ 64) ∧ Mod [] w2 w_ ∧ (∀ x ∈ blk g9.ao, x ∈ ([] : List Nat) ∨ w2.heap.size ≤ x) ∧ Own w_ w2.heap.size 30 3 g9.ao g9.l.length g9.cap (sms g9.l) ∧ (OutI P g9)) ⟨0, [], none, 0⟩ (hold_keep [1, 3, 4] (by kernel_rfl)) ⟨(by constructor <;> (try dsimp only) <;> omega), Mod.refl _ _, (fun x hx => (blk_none x hx).elim), (Own.nil _ _ _ _), FlatI.zero⟩ ?_
 rintro g9 w10 ⟨⟨h15, h16⟩, v11, hw12, ho13, hx14⟩
 have u17 := At.on u8 v11
 have v18 := zt v6 v11
 have hz19 := Mod.size v11
 refine w_seq ?_
 refine zw ?_
 refine zs 2 [rz 1 b1, (3, .slice g9.ao g9.l.length g9.cap), iz 4 g9.i, (11, .bool (decide (g9.i < 64)))] ?_
 refine zz ?_
 refine zc (fun hc20 => ?_) fun hc20 => ?_
 ·have y20 := of_decide_eq_true hc20
  refine w_skip ?_
  refine n_then ?_
  refine w_seq ?_
  refine w_block ?_
  refine zw ?_
  refine zo 4 [rz 1 b1, (3, .slice g9.ao g9.l.length g9.cap), iz 4 g9.i, iz 17 (P.bd (0 + g9.i.toNat * 1))] [.prop (0 ≤ g9.i ∧ g9.i < ((64 : Nat) : Int)), .cell ⟨b1, (0 + g9.i.toNat * 1), none⟩ (.int .i64 (P.bd (0 + g9.i.toNat * 1)))] (⟨(zh (by omega)), At.cell u17 (spCells_bd P (by omega))⟩) ?_
  rw [(show ((0 + g9.i.toNat * 1) : Nat) = g9.i.toNat from (by omega))]
  refine zs 1 [rz 1 b1, (3, .slice g9.ao g9.l.length g9.cap), iz 4 g9.i, iz 5 (P.bd g9.i.toNat)] ?_
  refine zz ?_
  refine w_seq ?_
  refine w_cut (γ := Unit) (fun _ => [(1, pz b1), (3, .slice g9.ao g9.l.length g9.cap), (4, .int .i64 g9.i), (5, .int .i64 (P.bd g9.i.toNat)), (26, .bool (((P.bd g9.i.toNat) == 0) || ((sideOf (P.bd g9.i.toNat)) != P.turn)))]) (fun _ w_ => Mod [] w10 w_) ?_ ?_
  ·have v23 : Mod [] w10 w10 := Mod.refl _ _
   refine w_quiet (by kernel_rfl) (by kernel_rfl) ?_
   refine zq 3 [rz 1 b1, (3, .slice g9.ao g9.l.length g9.cap), iz 4 g9.i, iz 5 (P.bd g9.i.toNat), (20, .bool ((P.bd g9.i.toNat) == 0))] ?_
   cases hc24 : ((P.bd g9.i.toNat) == (0 : Int))
   ·have y24 := hc24; try simp only [zbq] at y24
    refine zq 1 [rz 1 b1, (3, .slice g9.ao g9.l.length g9.cap), iz 4 g9.i, iz 5 (P.bd g9.i.toNat), (20, .bool false), iz 21 (P.bd g9.i.toNat)] ?_
    refine zqk (some 22) (fun w_ hC => c45 (P.bd g9.i.toNat) w_) ?_
    refine zqo 4 [rz 1 b1, (3, .slice g9.ao g9.l.length g9.cap), iz 4 g9.i, iz 5 (P.bd g9.i.toNat), (26, .bool ((sideOf (P.bd g9.i.toNat)) != P.turn))] [.cell ⟨b1, 64, none⟩ (.int .i64 P.turn)] (fun _ hC => At.cell (At.on u17 hC) (spCells_64 P)) ?_
    refine q_out (by kernel_rfl) ?_
    intro w25 v26
    have v29 := zt v23 v26
    have hz31 := Mod.size v26
    exact zb () v29
   have y24 := hc24; try simp only [zbq] at y24
   refine zq 6 [rz 1 b1, (3, .slice g9.ao g9.l.length g9.cap), iz 4 g9.i, iz 5 (P.bd g9.i.toNat), (26, .bool true)] ?_
   refine q_out (by kernel_rfl) ?_
   intro w32 v33
   have v36 := zt v23 v33
   have hz38 := Mod.size v33
   exact zb () v36
  intro _ w21 v22
  have u39 := At.on u17 v22
  have ho40 := Own.on ho13 v22
  have v41 := zt v18 v22
  have v42 := zt v11 v22
  have hz43 := Mod.size v22
  refine zc (fun hc44 => ?_) fun hc44 => ?_
  ·have y44 := hc44; try simp only [zbq] at y44
   refine w_exit ?_
   refine x_then ?_
   refine x_hit ?_
   refine n_then ?_
   refine w_region ?_
   refine zs 2 [rz 1 b1, (3, .slice g9.ao g9.l.length g9.cap), iz 13 (IntKind.i64.wrap (g9.i + 1))] ?_
   rw [zi (g9.i + (1 : Int)) (by omega) (by omega)]
   refine zs 1 [rz 1 b1, (3, .slice g9.ao g9.l.length g9.cap), iz 4 (g9.i + 1)] ?_
   refine ze ?_
   exact l_back (⟨g9.i + 1, g9.l, g9.ao, g9.cap⟩ : GS) [1, 3, 4] (by kernel_rfl) (by dsimp only; omega) ⟨(by constructor <;> (try dsimp only) <;> omega), v42, hw12, ho40, (FlatI.step hx14 (by omega) (by rw [List.length_range]; omega) 0 (by rw [range_at (by omega) (by omega)]; unfold fromL; rw [hc44]; exact (List.append_nil _).symm))⟩
  have y44 := hc44; try simp only [zbq] at y44
  refine w_skip ?_
  refine zn ?_
  refine zs 1 [rz 1 b1, (3, .slice g9.ao g9.l.length g9.cap), iz 4 g9.i, iz 5 (P.bd g9.i.toNat)] ?_
  refine zz ?_
  refine w_seq ?_
  refine zw ?_
  refine zs 1 [rz 1 b1, (3, .slice g9.ao g9.l.length g9.cap), iz 4 g9.i, iz 5 (P.bd g9.i.toNat), iz 27 (P.bd g9.i.toNat)] ?_
  refine zk (some 28) (c38 (P.bd g9.i.toNat) w21 (by first | omega | exact ⟨(hB _ (by omega)).1, (hB _ (by omega)).2⟩)) ?_
  intro w45 v46
  have u47 := At.on u39 v46
  have ho48 := Own.on ho40 v46
  have v49 := zt v41 v46
  have v50 := zt v42 v46
  have hz51 := Mod.size v46
  refine zs 1 [rz 1 b1, (3, .slice g9.ao g9.l.length g9.cap), iz 4 g9.i, iz 5 (P.bd g9.i.toNat), (29, .bool ((kindOf (P.bd g9.i.toNat)) == 6))] ?_
  refine zz ?_
  refine zc (fun hc52 => ?_) fun hc52 => ?_
  ·have y52 := eq_of_beq hc52
   refine w_region ?_
   refine zv 2 [rz 1 b1, (3, .slice g9.ao g9.l.length g9.cap), iz 4 g9.i, iz 5 (P.bd g9.i.toNat), (30, .agg (spCells P)), iz 31 g9.i] [.row ⟨b1, 0, none⟩ 69 (spCells P)] [.agg (spCells P)] (At.row u47 (spCells_size P)) ?_
   refine reg_call 46 [.agg (spCells P), .int .i64 g9.i] (some 32) (by kernel_rfl) (c46 P hB g9.i (by omega)) ?_
   rintro _ w53 ⟨ao55, cap56, rfl, v54, ho57⟩; refine ⟨_, rfl, ?_⟩
   have u58 := At.on u47 v54
   have ho59 := Own.on ho48 v54
   have v60 := zt v49 v54
   have v61 := zt v50 v54
   have hz62 := Mod.size v54
   refine zs 1 [rz 1 b1, (3, .slice g9.ao g9.l.length g9.cap), iz 4 g9.i, iz 5 (P.bd g9.i.toNat), (6, .slice ao55 ((stepsL P.bd P.ep g9.i).length) cap56)] ?_
   refine zx ?_
   refine zs 1 [rz 1 b1, (3, .slice g9.ao g9.l.length g9.cap), iz 4 g9.i, iz 5 (P.bd g9.i.toNat), (6, .slice ao55 ((stepsL P.bd P.ep g9.i).length) cap56), iz 7 0] ?_
   refine zz ?_
   refine w_block ?_
   refine w_loop (γ := GS) (fun g63 => (((stepsL P.bd P.ep g9.i).length : Int) - g63.i).toNat) (fun (g63 : GS) => [(1, pz b1), (3, .slice g63.ao g63.l.length g63.cap), (4, .int .i64 g9.i), (5, .int .i64 (P.bd g9.i.toNat)), (6, .slice ao55 ((stepsL P.bd P.ep g9.i).length) cap56), (7, .int .i64 g63.i)]) (fun (g63 : GS) w_ => (0 ≤ g63.i ∧ g63.i ≤ ((stepsL P.bd P.ep g9.i).length : Int)) ∧ Mod (blk g9.ao) w53 w_ ∧ (∀ x ∈ blk g63.ao, x ∈ ((blk g9.ao) : List Nat) ∨ w53.heap.size ≤ x) ∧ Own w_ w2.heap.size 30 3 g63.ao g63.l.length g63.cap (sms g63.l) ∧ (MidI g9.l P g9.i (stepsL P.bd P.ep g9.i) g63)) ⟨0, g9.l, g9.ao, g9.cap⟩ (hold_keep [1, 3, 4, 5, 6, 7] (by kernel_rfl)) ⟨(by constructor <;> (try dsimp only) <;> omega), Mod.refl _ _, (fun x hx => Or.inl hx), ho59, FlatI.zero⟩ ?_
   rintro g63 w64 ⟨⟨h69, h70⟩, v65, hw66, ho67, hx68⟩
   have u71 := At.keep u58 v65 (own_off ho59 u58 rfl)
   have ho72 := Own.keep ho57 v65 (own_type ho57 ho59 rfl)
   have v73 := Mod.fresh' v60 v65 (fun x hx => Or.inr (by have := Own.lt ho59 x hx; omega))
   have v74 := Mod.fresh' v61 v65 hw12
   have hz75 := Mod.size v65
   have hw76 : ∀ x ∈ blk g63.ao, x ∈ ([] : List Nat) ∨ w2.heap.size ≤ x := fun x hx => (hw66 x hx).elim (hw12 x) (fun h => Or.inr (Nat.le_trans (Mod.size v61) h))
   have hml : (stepsL P.bd P.ep g9.i).length ≤ 56 := Nat.le_trans (stepsL_len _ _ _) (by decide)
   refine w_seq ?_
   refine zw ?_
   refine zs 4 [rz 1 b1, (3, .slice g63.ao g63.l.length g63.cap), iz 4 g9.i, iz 5 (P.bd g9.i.toNat), (6, .slice ao55 ((stepsL P.bd P.ep g9.i).length) cap56), iz 7 g63.i, (39, .bool (decide (g63.i < (((stepsL P.bd P.ep g9.i).length : Nat) : Int))))] ?_
   refine zz ?_
   refine zc (fun hc77 => ?_) fun hc77 => ?_
   ·have y77 := of_decide_eq_true hc77
    obtain ⟨g78, cur79, rfl, hb80, u81, ht82, hn83, hs84⟩ := Own.some ho72 (by omega)
    have hto := dst_at (M := (stepsL P.bd P.ep g9.i)) (fun x hx => stepsL_rng hx) (i := g63.i) (by omega) (by omega)
    refine w_skip ?_
    refine n_then ?_
    refine w_seq ?_
    refine w_block ?_
    refine zw ?_
    refine zo 5 [rz 1 b1, (3, .slice g63.ao g63.l.length g63.cap), iz 4 g9.i, iz 5 (P.bd g9.i.toNat), (6, .slice (some ⟨g78, 0, none⟩) ((stepsL P.bd P.ep g9.i).length) cap56), iz 7 g63.i, iz 8 ((stepsL P.bd P.ep g9.i).getD g63.i.toNat 0)] [.prop (0 ≤ g63.i ∧ g63.i < (((stepsL P.bd P.ep g9.i).length : Nat) : Int)), .cell ⟨g78, (0 + g63.i.toNat * 1), none⟩ (.int .i64 ((stepsL P.bd P.ep g9.i).getD g63.i.toNat 0))] (⟨(zh (by omega)), Own.cell ho72 (ints_at (by omega) (by omega))⟩) ?_
    refine zz ?_
    refine w_seq ?_
    refine w_cut (γ := Unit) (fun _ => [(1, pz b1), (3, .slice g63.ao g63.l.length g63.cap), (4, .int .i64 g9.i), (5, .int .i64 (P.bd g9.i.toNat)), (6, .slice (some ⟨g78, 0, none⟩) ((stepsL P.bd P.ep g9.i).length) cap56), (7, .int .i64 g63.i), (8, .int .i64 ((stepsL P.bd P.ep g9.i).getD g63.i.toNat 0)), (60, .bool (((P.bd (((stepsL P.bd P.ep g9.i).getD g63.i.toNat 0).toNat)) != 0) && ((sideOf (P.bd (((stepsL P.bd P.ep g9.i).getD g63.i.toNat 0).toNat))) == P.turn)))]) (fun _ w_ => Mod [] w64 w_) ?_ ?_
    ·have v87 : Mod [] w64 w64 := Mod.refl _ _
     refine w_quiet (by kernel_rfl) (by kernel_rfl) ?_
     refine zqo 4 [rz 1 b1, (3, .slice g63.ao g63.l.length g63.cap), iz 4 g9.i, iz 5 (P.bd g9.i.toNat), (6, .slice (some ⟨g78, 0, none⟩) ((stepsL P.bd P.ep g9.i).length) cap56), iz 7 g63.i, iz 8 ((stepsL P.bd P.ep g9.i).getD g63.i.toNat 0), iz 49 (P.bd (0 + ((stepsL P.bd P.ep g9.i).getD g63.i.toNat 0).toNat * 1))] [.prop (0 ≤ ((stepsL P.bd P.ep g9.i).getD g63.i.toNat 0) ∧ ((stepsL P.bd P.ep g9.i).getD g63.i.toNat 0) < ((64 : Nat) : Int)), .cell ⟨b1, (0 + ((stepsL P.bd P.ep g9.i).getD g63.i.toNat 0).toNat * 1), none⟩ (.int .i64 (P.bd (0 + ((stepsL P.bd P.ep g9.i).getD g63.i.toNat 0).toNat * 1)))] (fun _ hC => ⟨(zh (by omega)), At.cell (At.on u71 hC) (spCells_bd P (by omega))⟩) ?_
     rw [(show ((0 + ((stepsL P.bd P.ep g9.i).getD g63.i.toNat 0).toNat * 1) : Nat) = (((stepsL P.bd P.ep g9.i).getD g63.i.toNat 0).toNat) from (by omega))]
     refine zq 2 [rz 1 b1, (3, .slice g63.ao g63.l.length g63.cap), iz 4 g9.i, iz 5 (P.bd g9.i.toNat), (6, .slice (some ⟨g78, 0, none⟩) ((stepsL P.bd P.ep g9.i).length) cap56), iz 7 g63.i, iz 8 ((stepsL P.bd P.ep g9.i).getD g63.i.toNat 0), (51, .bool ((P.bd (((stepsL P.bd P.ep g9.i).getD g63.i.toNat 0).toNat)) != 0))] ?_
     cases hc88 : ((P.bd (((stepsL P.bd P.ep g9.i).getD g63.i.toNat 0).toNat)) != (0 : Int))
     ·have y88 := hc88; try simp only [zbq] at y88
      refine zq 9 [rz 1 b1, (3, .slice g63.ao g63.l.length g63.cap), iz 4 g9.i, iz 5 (P.bd g9.i.toNat), (6, .slice (some ⟨g78, 0, none⟩) ((stepsL P.bd P.ep g9.i).length) cap56), iz 7 g63.i, iz 8 ((stepsL P.bd P.ep g9.i).getD g63.i.toNat 0), (60, .bool false)] ?_
      refine q_out (by kernel_rfl) ?_
      intro w89 v90
      have v94 := zt v87 v90
      have hz97 := Mod.size v90
      exact zb () v94
     have y88 := hc88; try simp only [zbq] at y88
     refine zqo 4 [rz 1 b1, (3, .slice g63.ao g63.l.length g63.cap), iz 4 g9.i, iz 5 (P.bd g9.i.toNat), (6, .slice (some ⟨g78, 0, none⟩) ((stepsL P.bd P.ep g9.i).length) cap56), iz 7 g63.i, iz 8 ((stepsL P.bd P.ep g9.i).getD g63.i.toNat 0), (51, .bool true), iz 55 (P.bd (0 + ((stepsL P.bd P.ep g9.i).getD g63.i.toNat 0).toNat * 1))] [.prop (0 ≤ ((stepsL P.bd P.ep g9.i).getD g63.i.toNat 0) ∧ ((stepsL P.bd P.ep g9.i).getD g63.i.toNat 0) < ((64 : Nat) : Int)), .cell ⟨b1, (0 + ((stepsL P.bd P.ep g9.i).getD g63.i.toNat 0).toNat * 1), none⟩ (.int .i64 (P.bd (0 + ((stepsL P.bd P.ep g9.i).getD g63.i.toNat 0).toNat * 1)))] (fun _ hC => ⟨(zh (by omega)), At.cell (At.on u71 hC) (spCells_bd P (by omega))⟩) ?_
     rw [(show ((0 + ((stepsL P.bd P.ep g9.i).getD g63.i.toNat 0).toNat * 1) : Nat) = (((stepsL P.bd P.ep g9.i).getD g63.i.toNat 0).toNat) from (by omega))]
     refine zqk (some 56) (fun w_ hC => c45 (P.bd (((stepsL P.bd P.ep g9.i).getD g63.i.toNat 0).toNat)) w_) ?_
     refine zqo 4 [rz 1 b1, (3, .slice g63.ao g63.l.length g63.cap), iz 4 g9.i, iz 5 (P.bd g9.i.toNat), (6, .slice (some ⟨g78, 0, none⟩) ((stepsL P.bd P.ep g9.i).length) cap56), iz 7 g63.i, iz 8 ((stepsL P.bd P.ep g9.i).getD g63.i.toNat 0), (60, .bool ((sideOf (P.bd (((stepsL P.bd P.ep g9.i).getD g63.i.toNat 0).toNat))) == P.turn))] [.cell ⟨b1, 64, none⟩ (.int .i64 P.turn)] (fun _ hC => At.cell (At.on u71 hC) (spCells_64 P)) ?_
     refine q_out (by kernel_rfl) ?_
     intro w98 v99
     have v103 := zt v87 v99
     have hz106 := Mod.size v99
     exact zb () v103
    intro _ w85 v86
    have u107 := At.on u71 v86
    have ho109 := Own.on ho67 v86
    have v110 := zt v73 v86
    have v111 := zt v74 v86
    have v112 := Mod.trans v65 (Mod.of_nil v86)
    have hz113 := Mod.size v86
    refine zc (fun hc114 => ?_) fun hc114 => ?_
    ·have y114 := hc114; try simp only [zbq] at y114
     refine w_exit ?_
     refine x_then ?_
     refine x_hit ?_
     refine n_then ?_
     refine w_region ?_
     refine zs 2 [rz 1 b1, (3, .slice g63.ao g63.l.length g63.cap), iz 4 g9.i, iz 5 (P.bd g9.i.toNat), (6, .slice (some ⟨g78, 0, none⟩) ((stepsL P.bd P.ep g9.i).length) cap56), iz 41 (IntKind.i64.wrap (g63.i + 1))] ?_
     rw [zi (g63.i + (1 : Int)) (by omega) (by omega)]
     refine zs 1 [rz 1 b1, (3, .slice g63.ao g63.l.length g63.cap), iz 4 g9.i, iz 5 (P.bd g9.i.toNat), (6, .slice (some ⟨g78, 0, none⟩) ((stepsL P.bd P.ep g9.i).length) cap56), iz 7 (g63.i + 1)] ?_
     refine ze ?_
     exact l_back (⟨g63.i + 1, g63.l, g63.ao, g63.cap⟩ : GS) [1, 3, 4, 5, 6, 7] (by kernel_rfl) (by dsimp only; omega) ⟨(by constructor <;> (try dsimp only) <;> omega), v112, hw66, ho109, (FlatI.step hx68 (by omega) (by omega) 0 (by unfold toL; rw [hc114]; exact (List.append_nil _).symm))⟩
    have y114 := hc114; try simp only [zbq] at y114
    refine w_skip ?_
    refine n_then ?_
    refine w_seq ?_
    refine w_cut (γ := Unit) (fun _ => [(1, pz b1), (3, .slice g63.ao g63.l.length g63.cap), (4, .int .i64 g9.i), (5, .int .i64 (P.bd g9.i.toNat)), (6, .slice (some ⟨g78, 0, none⟩) ((stepsL P.bd P.ep g9.i).length) cap56), (7, .int .i64 g63.i), (8, .int .i64 ((stepsL P.bd P.ep g9.i).getD g63.i.toNat 0)), (72, .bool (((kindOf (P.bd g9.i.toNat)) != 6) || ((((stepsL P.bd P.ep g9.i).getD g63.i.toNat 0) / 8) != (7 - (7 * P.turn)))))]) (fun _ w_ => Mod [] w85 w_) ?_ ?_
    ·have v117 : Mod [] w85 w85 := Mod.refl _ _
     refine w_quiet (by kernel_rfl) (by kernel_rfl) ?_
     refine zq 1 [rz 1 b1, (3, .slice g63.ao g63.l.length g63.cap), iz 4 g9.i, iz 5 (P.bd g9.i.toNat), (6, .slice (some ⟨g78, 0, none⟩) ((stepsL P.bd P.ep g9.i).length) cap56), iz 7 g63.i, iz 8 ((stepsL P.bd P.ep g9.i).getD g63.i.toNat 0), iz 61 (P.bd g9.i.toNat)] ?_
     refine zqk (some 62) (fun w_ hC => c38 (P.bd g9.i.toNat) w_ (by first | omega | exact ⟨(hB _ (by omega)).1, (hB _ (by omega)).2⟩)) ?_
     refine zq 2 [rz 1 b1, (3, .slice g63.ao g63.l.length g63.cap), iz 4 g9.i, iz 5 (P.bd g9.i.toNat), (6, .slice (some ⟨g78, 0, none⟩) ((stepsL P.bd P.ep g9.i).length) cap56), iz 7 g63.i, iz 8 ((stepsL P.bd P.ep g9.i).getD g63.i.toNat 0), (64, .bool ((kindOf (P.bd g9.i.toNat)) != 6))] ?_
     cases hc118 : ((kindOf (P.bd g9.i.toNat)) != (6 : Int))
     ·have y118 := hc118; try simp only [zbq] at y118
      refine zq 1 [rz 1 b1, (3, .slice g63.ao g63.l.length g63.cap), iz 4 g9.i, iz 5 (P.bd g9.i.toNat), (6, .slice (some ⟨g78, 0, none⟩) ((stepsL P.bd P.ep g9.i).length) cap56), iz 7 g63.i, iz 8 ((stepsL P.bd P.ep g9.i).getD g63.i.toNat 0), (64, .bool false), iz 65 ((stepsL P.bd P.ep g9.i).getD g63.i.toNat 0)] ?_
      refine zqk (some 66) (fun w_ hC => c40 ((stepsL P.bd P.ep g9.i).getD g63.i.toNat 0) w_ (by omega)) ?_
      refine zqo 3 [rz 1 b1, (3, .slice g63.ao g63.l.length g63.cap), iz 4 g9.i, iz 5 (P.bd g9.i.toNat), (6, .slice (some ⟨g78, 0, none⟩) ((stepsL P.bd P.ep g9.i).length) cap56), iz 7 g63.i, iz 8 ((stepsL P.bd P.ep g9.i).getD g63.i.toNat 0), (64, .bool false), iz 66 (((stepsL P.bd P.ep g9.i).getD g63.i.toNat 0) / 8), iz 69 (IntKind.i64.wrap (7 * P.turn))] [.cell ⟨b1, 64, none⟩ (.int .i64 P.turn)] (fun _ hC => At.cell (At.on u107 hC) (spCells_64 P)) ?_
      rw [zi ((7 : Int) * P.turn) (by omega) (by omega)]
      refine zq 1 [rz 1 b1, (3, .slice g63.ao g63.l.length g63.cap), iz 4 g9.i, iz 5 (P.bd g9.i.toNat), (6, .slice (some ⟨g78, 0, none⟩) ((stepsL P.bd P.ep g9.i).length) cap56), iz 7 g63.i, iz 8 ((stepsL P.bd P.ep g9.i).getD g63.i.toNat 0), (64, .bool false), iz 66 (((stepsL P.bd P.ep g9.i).getD g63.i.toNat 0) / 8), iz 70 (IntKind.i64.wrap (7 - (7 * P.turn)))] ?_
      rw [zi ((7 : Int) - ((7 : Int) * P.turn)) (by omega) (by omega)]
      refine zq 2 [rz 1 b1, (3, .slice g63.ao g63.l.length g63.cap), iz 4 g9.i, iz 5 (P.bd g9.i.toNat), (6, .slice (some ⟨g78, 0, none⟩) ((stepsL P.bd P.ep g9.i).length) cap56), iz 7 g63.i, iz 8 ((stepsL P.bd P.ep g9.i).getD g63.i.toNat 0), (72, .bool ((((stepsL P.bd P.ep g9.i).getD g63.i.toNat 0) / 8) != (7 - (7 * P.turn))))] ?_
      refine q_out (by kernel_rfl) ?_
      intro w119 v120
      have v124 := zt v117 v120
      have hz127 := Mod.size v120
      exact zb () v124
     have y118 := hc118; try simp only [zbq] at y118
     refine zq 8 [rz 1 b1, (3, .slice g63.ao g63.l.length g63.cap), iz 4 g9.i, iz 5 (P.bd g9.i.toNat), (6, .slice (some ⟨g78, 0, none⟩) ((stepsL P.bd P.ep g9.i).length) cap56), iz 7 g63.i, iz 8 ((stepsL P.bd P.ep g9.i).getD g63.i.toNat 0), (72, .bool true)] ?_
     refine q_out (by kernel_rfl) ?_
     intro w128 v129
     have v133 := zt v117 v129
     have hz136 := Mod.size v129
     exact zb () v133
    intro _ w115 v116
    have ho139 := Own.on ho109 v116
    have v140 := zt v110 v116
    have v141 := zt v111 v116
    have v142 := Mod.trans v112 (Mod.of_nil v116)
    have hz143 := Mod.size v116
    refine zc (fun hc144 => ?_) fun hc144 => ?_
    ·have y144 := hc144; try simp only [zbq] at y144
     refine zw ?_
     refine zs 4 [rz 1 b1, iz 4 g9.i, iz 5 (P.bd g9.i.toNat), (6, .slice (some ⟨g78, 0, none⟩) ((stepsL P.bd P.ep g9.i).length) cap56), iz 7 g63.i, (73, .slice g63.ao g63.l.length g63.cap), (76, .agg #[.int .i64 g9.i, .int .i64 ((stepsL P.bd P.ep g9.i).getD g63.i.toNat 0), .int .i64 0])] ?_
     refine reg_bslice (#[.int .i64 g9.i, .int .i64 ((stepsL P.bd P.ep g9.i).getD g63.i.toNat 0), .int .i64 0]) 30 1 (some 77) (by kernel_rfl) ?_
     intro b145 w146 hn147
     have hb148 := Nat.le_trans v140.size hn147.base
     have hb149 := Nat.le_trans v141.size hn147.base
     have hb150 := Nat.le_trans v142.size hn147.base
     have v151 := hn147.mod
     have ho154 := Own.on ho139 v151
     have v156 := zt v141 v151
     have v157 := Mod.trans v142 (Mod.of_nil v151)
     have hz158 := Mod.size v151
     have u159 := hn147.at_
     refine reg_append2 g63.ao g63.l.length g63.cap ⟨b145, 0, none⟩ 1 1 30 (some 78) 3 24 (b0 := w2.heap.size) (xs := sms g63.l) (news := sms ([(⟨g9.i, ((stepsL P.bd P.ep g9.i).getD g63.i.toNat 0), 0⟩ : Sm)])) (by kernel_rfl) ho154 (by decide) (sms_len _) (at_cells (l := sms ([(⟨g9.i, ((stepsL P.bd P.ep g9.i).getD g63.i.toNat 0), 0⟩ : Sm)])) (by exact u159)) (sms_one _) (by have h1 := hx14.len; have h2 := hx68.len (by omega); have h4 := castS_len P; omega) (by omega) ?_
     intro ao160 cap161 w162 ho163 v164 hd165
     have v170 := Mod.fresh' v157 v164 hw66
     have hz171 := Mod.size v164
     rw [show (g63.l.length + 1 : Nat) = (g63.l ++ [(⟨g9.i, ((stepsL P.bd P.ep g9.i).getD g63.i.toNat 0), (0 : Int)⟩ : Sm)]).length from (by first | rfl | simp)]
     have ho172 : Own w162 w2.heap.size 30 3 ao160 (g63.l ++ [(⟨g9.i, ((stepsL P.bd P.ep g9.i).getD g63.i.toNat 0), 0⟩ : Sm)]).length cap161 (sms (g63.l ++ [(⟨g9.i, ((stepsL P.bd P.ep g9.i).getD g63.i.toNat 0), 0⟩ : Sm)])) := Own.cast ho163 (by first | rfl | simp) (by first | rfl | rw [sms_append])
     have hw173 := acc_where hw66 v157 hd165
     have hw174 := acc_where hw76 v156 hd165
     refine zs 1 [rz 1 b1, (3, .slice ao160 ((g63.l ++ [(⟨g9.i, ((stepsL P.bd P.ep g9.i).getD g63.i.toNat 0), 0⟩ : Sm)]).length) cap161), iz 4 g9.i, iz 5 (P.bd g9.i.toNat), (6, .slice (some ⟨g78, 0, none⟩) ((stepsL P.bd P.ep g9.i).length) cap56), iz 7 g63.i] ?_
     refine zz ?_
     refine w_exit ?_
     refine x_then ?_
     refine x_hit ?_
     refine n_then ?_
     refine w_region ?_
     refine zs 2 [rz 1 b1, (3, .slice ao160 ((g63.l ++ [(⟨g9.i, ((stepsL P.bd P.ep g9.i).getD g63.i.toNat 0), 0⟩ : Sm)]).length) cap161), iz 4 g9.i, iz 5 (P.bd g9.i.toNat), (6, .slice (some ⟨g78, 0, none⟩) ((stepsL P.bd P.ep g9.i).length) cap56), iz 41 (IntKind.i64.wrap (g63.i + 1))] ?_
     rw [zi (g63.i + (1 : Int)) (by omega) (by omega)]
     refine zs 1 [rz 1 b1, (3, .slice ao160 ((g63.l ++ [(⟨g9.i, ((stepsL P.bd P.ep g9.i).getD g63.i.toNat 0), 0⟩ : Sm)]).length) cap161), iz 4 g9.i, iz 5 (P.bd g9.i.toNat), (6, .slice (some ⟨g78, 0, none⟩) ((stepsL P.bd P.ep g9.i).length) cap56), iz 7 (g63.i + 1)] ?_
     refine ze ?_
     exact l_back (⟨g63.i + 1, (g63.l ++ [(⟨g9.i, ((stepsL P.bd P.ep g9.i).getD g63.i.toNat 0), 0⟩ : Sm)]), ao160, cap161⟩ : GS) [1, 3, 4, 5, 6, 7] (by kernel_rfl) (by dsimp only; omega) ⟨(by constructor <;> (try dsimp only) <;> omega), v170, hw173, ho172, (FlatI.step hx68 (by omega) (by omega) 0 (by unfold toL; rw [hc114, hc144]; rfl))⟩
    have y144 := hc144; try simp only [zbq] at y144
    refine w_skip ?_
    refine zn ?_
    refine zs 1 [rz 1 b1, (3, .slice g63.ao g63.l.length g63.cap), iz 4 g9.i, iz 5 (P.bd g9.i.toNat), (6, .slice (some ⟨g78, 0, none⟩) ((stepsL P.bd P.ep g9.i).length) cap56), iz 7 g63.i, iz 8 ((stepsL P.bd P.ep g9.i).getD g63.i.toNat 0), iz 9 2] ?_
    refine zz ?_
    refine w_block ?_
    refine w_loop (γ := GS) (fun g175 => (6 - g175.i).toNat) (fun (g175 : GS) => [(1, pz b1), (3, .slice g175.ao g175.l.length g175.cap), (4, .int .i64 g9.i), (5, .int .i64 (P.bd g9.i.toNat)), (6, .slice (some ⟨g78, 0, none⟩) ((stepsL P.bd P.ep g9.i).length) cap56), (7, .int .i64 g63.i), (8, .int .i64 ((stepsL P.bd P.ep g9.i).getD g63.i.toNat 0)), (9, .int .i64 g175.i)]) (fun (g175 : GS) w_ => (2 ≤ g175.i ∧ g175.i ≤ 6) ∧ Mod (blk g63.ao) w115 w_ ∧ (∀ x ∈ blk g175.ao, x ∈ ((blk g63.ao) : List Nat) ∨ w115.heap.size ≤ x) ∧ Own w_ w2.heap.size 30 3 g175.ao g175.l.length g175.cap (sms g175.l) ∧ (PromI g63.l g9.i ((stepsL P.bd P.ep g9.i).getD g63.i.toNat 0) g175)) ⟨2, g63.l, g63.ao, g63.cap⟩ (hold_keep [1, 3, 4, 5, 6, 7, 8, 9] (by kernel_rfl)) ⟨(by constructor <;> (try dsimp only) <;> omega), Mod.refl _ _, (fun x hx => Or.inl hx), ho139, (List.append_nil _).symm⟩ ?_
    rintro g175 w176 ⟨⟨h181, h182⟩, v177, hw178, ho179, hx180⟩
    have v185 := Mod.fresh' v140 v177 (fun x hx => Or.inr (by have := Own.lt ho139 x hx; omega))
    have v186 := Mod.fresh' v141 v177 hw76
    have v187 := Mod.fresh' v142 v177 hw66
    have hz188 := Mod.size v177
    have hw189 : ∀ x ∈ blk g175.ao, x ∈ ([] : List Nat) ∨ w2.heap.size ≤ x := fun x hx => (hw178 x hx).elim (hw76 x) (fun h => Or.inr (Nat.le_trans (Mod.size v141) h))
    have hw190 : ∀ x ∈ blk g175.ao, x ∈ ((blk g9.ao) : List Nat) ∨ w53.heap.size ≤ x := fun x hx => (hw178 x hx).elim (hw66 x) (fun h => Or.inr (Nat.le_trans (Mod.size v142) h))
    refine w_seq ?_
    refine zw ?_
    refine zs 2 [rz 1 b1, (3, .slice g175.ao g175.l.length g175.cap), iz 4 g9.i, iz 5 (P.bd g9.i.toNat), (6, .slice (some ⟨g78, 0, none⟩) ((stepsL P.bd P.ep g9.i).length) cap56), iz 7 g63.i, iz 8 ((stepsL P.bd P.ep g9.i).getD g63.i.toNat 0), iz 9 g175.i, (80, .bool (decide (g175.i ≤ 5)))] ?_
    refine zz ?_
    refine zc (fun hc191 => ?_) fun hc191 => ?_
    ·have y191 := of_decide_eq_true hc191
     refine w_skip ?_
     refine n_then ?_
     refine w_seq ?_
     refine w_block ?_
     refine w_region ?_
     refine zs 5 [rz 1 b1, iz 4 g9.i, iz 5 (P.bd g9.i.toNat), (6, .slice (some ⟨g78, 0, none⟩) ((stepsL P.bd P.ep g9.i).length) cap56), iz 7 g63.i, iz 8 ((stepsL P.bd P.ep g9.i).getD g63.i.toNat 0), iz 9 g175.i, (83, .slice g175.ao g175.l.length g175.cap), (87, .agg #[.int .i64 g9.i, .int .i64 ((stepsL P.bd P.ep g9.i).getD g63.i.toNat 0), .int .i64 g175.i])] ?_
     refine reg_bslice (#[.int .i64 g9.i, .int .i64 ((stepsL P.bd P.ep g9.i).getD g63.i.toNat 0), .int .i64 g175.i]) 30 1 (some 88) (by kernel_rfl) ?_
     intro b192 w193 hn194
     have hb195 := Nat.le_trans v185.size hn194.base
     have hb196 := Nat.le_trans v186.size hn194.base
     have hb197 := Nat.le_trans v187.size hn194.base
     have hb198 := Nat.le_trans v177.size hn194.base
     have v199 := hn194.mod
     have ho202 := Own.on ho179 v199
     have v204 := zt v186 v199
     have v205 := Mod.trans v187 (Mod.of_nil v199)
     have v206 := Mod.trans v177 (Mod.of_nil v199)
     have hz207 := Mod.size v199
     have u208 := hn194.at_
     refine reg_append2 g175.ao g175.l.length g175.cap ⟨b192, 0, none⟩ 1 1 30 (some 89) 3 24 (b0 := w2.heap.size) (xs := sms g175.l) (news := sms ([(⟨g9.i, ((stepsL P.bd P.ep g9.i).getD g63.i.toNat 0), g175.i⟩ : Sm)])) (by kernel_rfl) ho202 (by decide) (sms_len _) (at_cells (l := sms ([(⟨g9.i, ((stepsL P.bd P.ep g9.i).getD g63.i.toNat 0), g175.i⟩ : Sm)])) (by exact u208)) (sms_one _) (by have h1 := hx14.len; have h2 := hx68.len (by omega); have h3 := hx180.len; have h4 := castS_len P; omega) (by omega) ?_
     intro ao209 cap210 w211 ho212 v213 hd214
     have v220 := Mod.fresh' v206 v213 hw178
     have hz221 := Mod.size v213
     rw [show (g175.l.length + 1 : Nat) = (g175.l ++ [(⟨g9.i, ((stepsL P.bd P.ep g9.i).getD g63.i.toNat 0), g175.i⟩ : Sm)]).length from (by first | rfl | simp)]
     have ho222 : Own w211 w2.heap.size 30 3 ao209 (g175.l ++ [(⟨g9.i, ((stepsL P.bd P.ep g9.i).getD g63.i.toNat 0), g175.i⟩ : Sm)]).length cap210 (sms (g175.l ++ [(⟨g9.i, ((stepsL P.bd P.ep g9.i).getD g63.i.toNat 0), g175.i⟩ : Sm)])) := Own.cast ho212 (by first | rfl | simp) (by first | rfl | rw [sms_append])
     have hw223 := acc_where hw178 v206 hd214
     have hw224 := acc_where hw189 v204 hd214
     have hw225 := acc_where hw190 v205 hd214
     refine zs 1 [rz 1 b1, (3, .slice ao209 ((g175.l ++ [(⟨g9.i, ((stepsL P.bd P.ep g9.i).getD g63.i.toNat 0), g175.i⟩ : Sm)]).length) cap210), iz 4 g9.i, iz 5 (P.bd g9.i.toNat), (6, .slice (some ⟨g78, 0, none⟩) ((stepsL P.bd P.ep g9.i).length) cap56), iz 7 g63.i, iz 8 ((stepsL P.bd P.ep g9.i).getD g63.i.toNat 0), iz 9 g175.i] ?_
     refine ze ?_
     refine n_block ?_
     refine n_then ?_
     refine w_region ?_
     refine zs 2 [rz 1 b1, (3, .slice ao209 ((g175.l ++ [(⟨g9.i, ((stepsL P.bd P.ep g9.i).getD g63.i.toNat 0), g175.i⟩ : Sm)]).length) cap210), iz 4 g9.i, iz 5 (P.bd g9.i.toNat), (6, .slice (some ⟨g78, 0, none⟩) ((stepsL P.bd P.ep g9.i).length) cap56), iz 7 g63.i, iz 8 ((stepsL P.bd P.ep g9.i).getD g63.i.toNat 0), iz 82 (IntKind.i64.wrap (g175.i + 1))] ?_
     rw [zi (g175.i + (1 : Int)) (by omega) (by omega)]
     refine zs 1 [rz 1 b1, (3, .slice ao209 ((g175.l ++ [(⟨g9.i, ((stepsL P.bd P.ep g9.i).getD g63.i.toNat 0), g175.i⟩ : Sm)]).length) cap210), iz 4 g9.i, iz 5 (P.bd g9.i.toNat), (6, .slice (some ⟨g78, 0, none⟩) ((stepsL P.bd P.ep g9.i).length) cap56), iz 7 g63.i, iz 8 ((stepsL P.bd P.ep g9.i).getD g63.i.toNat 0), iz 9 (g175.i + 1)] ?_
     refine ze ?_
     exact l_back (⟨g175.i + 1, (g175.l ++ [(⟨g9.i, ((stepsL P.bd P.ep g9.i).getD g63.i.toNat 0), g175.i⟩ : Sm)]), ao209, cap210⟩ : GS) [1, 3, 4, 5, 6, 7, 8, 9] (by kernel_rfl) (by dsimp only; omega) ⟨(by constructor <;> (try dsimp only) <;> omega), v220, hw223, ho222, (hx180.step (by omega))⟩
    have y191 := of_decide_eq_false hc191
    refine w_exit ?_
    refine x_then ?_
    refine x_then ?_
    refine x_hit ?_
    refine n_block ?_
    refine n_then ?_
    refine w_region ?_
    refine zs 2 [rz 1 b1, (3, .slice g175.ao g175.l.length g175.cap), iz 4 g9.i, iz 5 (P.bd g9.i.toNat), (6, .slice (some ⟨g78, 0, none⟩) ((stepsL P.bd P.ep g9.i).length) cap56), iz 41 (IntKind.i64.wrap (g63.i + 1))] ?_
    rw [zi (g63.i + (1 : Int)) (by omega) (by omega)]
    refine zs 1 [rz 1 b1, (3, .slice g175.ao g175.l.length g175.cap), iz 4 g9.i, iz 5 (P.bd g9.i.toNat), (6, .slice (some ⟨g78, 0, none⟩) ((stepsL P.bd P.ep g9.i).length) cap56), iz 7 (g63.i + 1)] ?_
    refine ze ?_
    exact l_back (⟨g63.i + 1, g175.l, g175.ao, g175.cap⟩ : GS) [1, 3, 4, 5, 6, 7] (by kernel_rfl) (by dsimp only; omega) ⟨(by constructor <;> (try dsimp only) <;> omega), v187, hw190, ho179, (FlatI.step hx68 (by omega) (by omega) 0 (by unfold toL; rw [hc114, hc144]; exact hx180.fin (by omega)))⟩
   have y77 := of_decide_eq_false hc77
   refine w_exit ?_
   refine x_then ?_
   refine x_then ?_
   refine x_hit ?_
   refine n_block ?_
   refine n_then ?_
   refine w_region ?_
   refine zs 2 [rz 1 b1, (3, .slice g63.ao g63.l.length g63.cap), iz 13 (IntKind.i64.wrap (g9.i + 1))] ?_
   rw [zi (g9.i + (1 : Int)) (by omega) (by omega)]
   refine zs 1 [rz 1 b1, (3, .slice g63.ao g63.l.length g63.cap), iz 4 (g9.i + 1)] ?_
   refine ze ?_
   exact l_back (⟨g9.i + 1, g63.l, g63.ao, g63.cap⟩ : GS) [1, 3, 4] (by kernel_rfl) (by dsimp only; omega) ⟨(by constructor <;> (try dsimp only) <;> omega), v74, hw76, ho67, (FlatI.step hx14 (by omega) (by rw [List.length_range]; omega) 0 (by rw [range_at (by omega) (by omega)]; unfold fromL dstL; rw [hc44, hc52]; exact FlatI.fin (M := (stepsL P.bd P.ep g9.i)) (f := toL P g9.i) hx68 (by omega) (by omega)))⟩
  have y52 := ne_of_beq_false hc52
  refine w_region ?_
  refine zv 2 [rz 1 b1, (3, .slice g9.ao g9.l.length g9.cap), iz 4 g9.i, iz 5 (P.bd g9.i.toNat), (33, .agg (spCells P)), iz 34 g9.i] [.row ⟨b1, 0, none⟩ 69 (spCells P)] [.agg (spCells P)] (At.row u47 (spCells_size P)) ?_
  refine reg_call 47 [.agg (spCells P), .int .i64 g9.i] (some 35) (by kernel_rfl) (c47 P hB g9.i (by omega)) ?_
  rintro _ w226 ⟨ao228, cap229, rfl, v227, ho230⟩; refine ⟨_, rfl, ?_⟩
  have u231 := At.on u47 v227
  have ho232 := Own.on ho48 v227
  have v233 := zt v49 v227
  have v234 := zt v50 v227
  have hz235 := Mod.size v227
  refine zs 1 [rz 1 b1, (3, .slice g9.ao g9.l.length g9.cap), iz 4 g9.i, iz 5 (P.bd g9.i.toNat), (6, .slice ao228 ((reachL P.bd g9.i).length) cap229)] ?_
  refine zx ?_
  refine zs 1 [rz 1 b1, (3, .slice g9.ao g9.l.length g9.cap), iz 4 g9.i, iz 5 (P.bd g9.i.toNat), (6, .slice ao228 ((reachL P.bd g9.i).length) cap229), iz 7 0] ?_
  refine zz ?_
  refine w_block ?_
  refine w_loop (γ := GS) (fun g236 => (((reachL P.bd g9.i).length : Int) - g236.i).toNat) (fun (g236 : GS) => [(1, pz b1), (3, .slice g236.ao g236.l.length g236.cap), (4, .int .i64 g9.i), (5, .int .i64 (P.bd g9.i.toNat)), (6, .slice ao228 ((reachL P.bd g9.i).length) cap229), (7, .int .i64 g236.i)]) (fun (g236 : GS) w_ => (0 ≤ g236.i ∧ g236.i ≤ ((reachL P.bd g9.i).length : Int)) ∧ Mod (blk g9.ao) w226 w_ ∧ (∀ x ∈ blk g236.ao, x ∈ ((blk g9.ao) : List Nat) ∨ w226.heap.size ≤ x) ∧ Own w_ w2.heap.size 30 3 g236.ao g236.l.length g236.cap (sms g236.l) ∧ (MidI g9.l P g9.i (reachL P.bd g9.i) g236)) ⟨0, g9.l, g9.ao, g9.cap⟩ (hold_keep [1, 3, 4, 5, 6, 7] (by kernel_rfl)) ⟨(by constructor <;> (try dsimp only) <;> omega), Mod.refl _ _, (fun x hx => Or.inl hx), ho232, FlatI.zero⟩ ?_
  rintro g236 w237 ⟨⟨h242, h243⟩, v238, hw239, ho240, hx241⟩
  have u244 := At.keep u231 v238 (own_off ho232 u231 rfl)
  have ho245 := Own.keep ho230 v238 (own_type ho230 ho232 rfl)
  have v246 := Mod.fresh' v233 v238 (fun x hx => Or.inr (by have := Own.lt ho232 x hx; omega))
  have v247 := Mod.fresh' v234 v238 hw12
  have hz248 := Mod.size v238
  have hw249 : ∀ x ∈ blk g236.ao, x ∈ ([] : List Nat) ∨ w2.heap.size ≤ x := fun x hx => (hw239 x hx).elim (hw12 x) (fun h => Or.inr (Nat.le_trans (Mod.size v234) h))
  have hml : (reachL P.bd g9.i).length ≤ 56 := reachL_len _ _
  refine w_seq ?_
  refine zw ?_
  refine zs 4 [rz 1 b1, (3, .slice g236.ao g236.l.length g236.cap), iz 4 g9.i, iz 5 (P.bd g9.i.toNat), (6, .slice ao228 ((reachL P.bd g9.i).length) cap229), iz 7 g236.i, (39, .bool (decide (g236.i < (((reachL P.bd g9.i).length : Nat) : Int))))] ?_
  refine zz ?_
  refine zc (fun hc250 => ?_) fun hc250 => ?_
  ·have y250 := of_decide_eq_true hc250
   obtain ⟨g251, cur252, rfl, hb253, u254, ht255, hn256, hs257⟩ := Own.some ho245 (by omega)
   have hto := dst_at (M := (reachL P.bd g9.i)) (fun x hx => reachL_rng hx) (i := g236.i) (by omega) (by omega)
   refine w_skip ?_
   refine n_then ?_
   refine w_seq ?_
   refine w_block ?_
   refine zw ?_
   refine zo 5 [rz 1 b1, (3, .slice g236.ao g236.l.length g236.cap), iz 4 g9.i, iz 5 (P.bd g9.i.toNat), (6, .slice (some ⟨g251, 0, none⟩) ((reachL P.bd g9.i).length) cap229), iz 7 g236.i, iz 8 ((reachL P.bd g9.i).getD g236.i.toNat 0)] [.prop (0 ≤ g236.i ∧ g236.i < (((reachL P.bd g9.i).length : Nat) : Int)), .cell ⟨g251, (0 + g236.i.toNat * 1), none⟩ (.int .i64 ((reachL P.bd g9.i).getD g236.i.toNat 0))] (⟨(zh (by omega)), Own.cell ho245 (ints_at (by omega) (by omega))⟩) ?_
   refine zz ?_
   refine w_seq ?_
   refine w_cut (γ := Unit) (fun _ => [(1, pz b1), (3, .slice g236.ao g236.l.length g236.cap), (4, .int .i64 g9.i), (5, .int .i64 (P.bd g9.i.toNat)), (6, .slice (some ⟨g251, 0, none⟩) ((reachL P.bd g9.i).length) cap229), (7, .int .i64 g236.i), (8, .int .i64 ((reachL P.bd g9.i).getD g236.i.toNat 0)), (60, .bool (((P.bd (((reachL P.bd g9.i).getD g236.i.toNat 0).toNat)) != 0) && ((sideOf (P.bd (((reachL P.bd g9.i).getD g236.i.toNat 0).toNat))) == P.turn)))]) (fun _ w_ => Mod [] w237 w_) ?_ ?_
   ·have v260 : Mod [] w237 w237 := Mod.refl _ _
    refine w_quiet (by kernel_rfl) (by kernel_rfl) ?_
    refine zqo 4 [rz 1 b1, (3, .slice g236.ao g236.l.length g236.cap), iz 4 g9.i, iz 5 (P.bd g9.i.toNat), (6, .slice (some ⟨g251, 0, none⟩) ((reachL P.bd g9.i).length) cap229), iz 7 g236.i, iz 8 ((reachL P.bd g9.i).getD g236.i.toNat 0), iz 49 (P.bd (0 + ((reachL P.bd g9.i).getD g236.i.toNat 0).toNat * 1))] [.prop (0 ≤ ((reachL P.bd g9.i).getD g236.i.toNat 0) ∧ ((reachL P.bd g9.i).getD g236.i.toNat 0) < ((64 : Nat) : Int)), .cell ⟨b1, (0 + ((reachL P.bd g9.i).getD g236.i.toNat 0).toNat * 1), none⟩ (.int .i64 (P.bd (0 + ((reachL P.bd g9.i).getD g236.i.toNat 0).toNat * 1)))] (fun _ hC => ⟨(zh (by omega)), At.cell (At.on u244 hC) (spCells_bd P (by omega))⟩) ?_
    rw [(show ((0 + ((reachL P.bd g9.i).getD g236.i.toNat 0).toNat * 1) : Nat) = (((reachL P.bd g9.i).getD g236.i.toNat 0).toNat) from (by omega))]
    refine zq 2 [rz 1 b1, (3, .slice g236.ao g236.l.length g236.cap), iz 4 g9.i, iz 5 (P.bd g9.i.toNat), (6, .slice (some ⟨g251, 0, none⟩) ((reachL P.bd g9.i).length) cap229), iz 7 g236.i, iz 8 ((reachL P.bd g9.i).getD g236.i.toNat 0), (51, .bool ((P.bd (((reachL P.bd g9.i).getD g236.i.toNat 0).toNat)) != 0))] ?_
    cases hc261 : ((P.bd (((reachL P.bd g9.i).getD g236.i.toNat 0).toNat)) != (0 : Int))
    ·have y261 := hc261; try simp only [zbq] at y261
     refine zq 9 [rz 1 b1, (3, .slice g236.ao g236.l.length g236.cap), iz 4 g9.i, iz 5 (P.bd g9.i.toNat), (6, .slice (some ⟨g251, 0, none⟩) ((reachL P.bd g9.i).length) cap229), iz 7 g236.i, iz 8 ((reachL P.bd g9.i).getD g236.i.toNat 0), (60, .bool false)] ?_
     refine q_out (by kernel_rfl) ?_
     intro w262 v263
     have v267 := zt v260 v263
     have hz270 := Mod.size v263
     exact zb () v267
    have y261 := hc261; try simp only [zbq] at y261
    refine zqo 4 [rz 1 b1, (3, .slice g236.ao g236.l.length g236.cap), iz 4 g9.i, iz 5 (P.bd g9.i.toNat), (6, .slice (some ⟨g251, 0, none⟩) ((reachL P.bd g9.i).length) cap229), iz 7 g236.i, iz 8 ((reachL P.bd g9.i).getD g236.i.toNat 0), (51, .bool true), iz 55 (P.bd (0 + ((reachL P.bd g9.i).getD g236.i.toNat 0).toNat * 1))] [.prop (0 ≤ ((reachL P.bd g9.i).getD g236.i.toNat 0) ∧ ((reachL P.bd g9.i).getD g236.i.toNat 0) < ((64 : Nat) : Int)), .cell ⟨b1, (0 + ((reachL P.bd g9.i).getD g236.i.toNat 0).toNat * 1), none⟩ (.int .i64 (P.bd (0 + ((reachL P.bd g9.i).getD g236.i.toNat 0).toNat * 1)))] (fun _ hC => ⟨(zh (by omega)), At.cell (At.on u244 hC) (spCells_bd P (by omega))⟩) ?_
    rw [(show ((0 + ((reachL P.bd g9.i).getD g236.i.toNat 0).toNat * 1) : Nat) = (((reachL P.bd g9.i).getD g236.i.toNat 0).toNat) from (by omega))]
    refine zqk (some 56) (fun w_ hC => c45 (P.bd (((reachL P.bd g9.i).getD g236.i.toNat 0).toNat)) w_) ?_
    refine zqo 4 [rz 1 b1, (3, .slice g236.ao g236.l.length g236.cap), iz 4 g9.i, iz 5 (P.bd g9.i.toNat), (6, .slice (some ⟨g251, 0, none⟩) ((reachL P.bd g9.i).length) cap229), iz 7 g236.i, iz 8 ((reachL P.bd g9.i).getD g236.i.toNat 0), (60, .bool ((sideOf (P.bd (((reachL P.bd g9.i).getD g236.i.toNat 0).toNat))) == P.turn))] [.cell ⟨b1, 64, none⟩ (.int .i64 P.turn)] (fun _ hC => At.cell (At.on u244 hC) (spCells_64 P)) ?_
    refine q_out (by kernel_rfl) ?_
    intro w271 v272
    have v276 := zt v260 v272
    have hz279 := Mod.size v272
    exact zb () v276
   intro _ w258 v259
   have u280 := At.on u244 v259
   have ho282 := Own.on ho240 v259
   have v283 := zt v246 v259
   have v284 := zt v247 v259
   have v285 := Mod.trans v238 (Mod.of_nil v259)
   have hz286 := Mod.size v259
   refine zc (fun hc287 => ?_) fun hc287 => ?_
   ·have y287 := hc287; try simp only [zbq] at y287
    refine w_exit ?_
    refine x_then ?_
    refine x_hit ?_
    refine n_then ?_
    refine w_region ?_
    refine zs 2 [rz 1 b1, (3, .slice g236.ao g236.l.length g236.cap), iz 4 g9.i, iz 5 (P.bd g9.i.toNat), (6, .slice (some ⟨g251, 0, none⟩) ((reachL P.bd g9.i).length) cap229), iz 41 (IntKind.i64.wrap (g236.i + 1))] ?_
    rw [zi (g236.i + (1 : Int)) (by omega) (by omega)]
    refine zs 1 [rz 1 b1, (3, .slice g236.ao g236.l.length g236.cap), iz 4 g9.i, iz 5 (P.bd g9.i.toNat), (6, .slice (some ⟨g251, 0, none⟩) ((reachL P.bd g9.i).length) cap229), iz 7 (g236.i + 1)] ?_
    refine ze ?_
    exact l_back (⟨g236.i + 1, g236.l, g236.ao, g236.cap⟩ : GS) [1, 3, 4, 5, 6, 7] (by kernel_rfl) (by dsimp only; omega) ⟨(by constructor <;> (try dsimp only) <;> omega), v285, hw239, ho282, (FlatI.step hx241 (by omega) (by omega) 0 (by unfold toL; rw [hc287]; exact (List.append_nil _).symm))⟩
   have y287 := hc287; try simp only [zbq] at y287
   refine w_skip ?_
   refine n_then ?_
   refine w_seq ?_
   refine w_cut (γ := Unit) (fun _ => [(1, pz b1), (3, .slice g236.ao g236.l.length g236.cap), (4, .int .i64 g9.i), (5, .int .i64 (P.bd g9.i.toNat)), (6, .slice (some ⟨g251, 0, none⟩) ((reachL P.bd g9.i).length) cap229), (7, .int .i64 g236.i), (8, .int .i64 ((reachL P.bd g9.i).getD g236.i.toNat 0)), (72, .bool (((kindOf (P.bd g9.i.toNat)) != 6) || ((((reachL P.bd g9.i).getD g236.i.toNat 0) / 8) != (7 - (7 * P.turn)))))]) (fun _ w_ => Mod [] w258 w_) ?_ ?_
   ·have v290 : Mod [] w258 w258 := Mod.refl _ _
    refine w_quiet (by kernel_rfl) (by kernel_rfl) ?_
    refine zq 1 [rz 1 b1, (3, .slice g236.ao g236.l.length g236.cap), iz 4 g9.i, iz 5 (P.bd g9.i.toNat), (6, .slice (some ⟨g251, 0, none⟩) ((reachL P.bd g9.i).length) cap229), iz 7 g236.i, iz 8 ((reachL P.bd g9.i).getD g236.i.toNat 0), iz 61 (P.bd g9.i.toNat)] ?_
    refine zqk (some 62) (fun w_ hC => c38 (P.bd g9.i.toNat) w_ (by first | omega | exact ⟨(hB _ (by omega)).1, (hB _ (by omega)).2⟩)) ?_
    refine zq 2 [rz 1 b1, (3, .slice g236.ao g236.l.length g236.cap), iz 4 g9.i, iz 5 (P.bd g9.i.toNat), (6, .slice (some ⟨g251, 0, none⟩) ((reachL P.bd g9.i).length) cap229), iz 7 g236.i, iz 8 ((reachL P.bd g9.i).getD g236.i.toNat 0), (64, .bool ((kindOf (P.bd g9.i.toNat)) != 6))] ?_
    cases hc291 : ((kindOf (P.bd g9.i.toNat)) != (6 : Int))
    ·have y291 := hc291; try simp only [zbq] at y291
     refine zq 1 [rz 1 b1, (3, .slice g236.ao g236.l.length g236.cap), iz 4 g9.i, iz 5 (P.bd g9.i.toNat), (6, .slice (some ⟨g251, 0, none⟩) ((reachL P.bd g9.i).length) cap229), iz 7 g236.i, iz 8 ((reachL P.bd g9.i).getD g236.i.toNat 0), (64, .bool false), iz 65 ((reachL P.bd g9.i).getD g236.i.toNat 0)] ?_
     refine zqk (some 66) (fun w_ hC => c40 ((reachL P.bd g9.i).getD g236.i.toNat 0) w_ (by omega)) ?_
     refine zqo 3 [rz 1 b1, (3, .slice g236.ao g236.l.length g236.cap), iz 4 g9.i, iz 5 (P.bd g9.i.toNat), (6, .slice (some ⟨g251, 0, none⟩) ((reachL P.bd g9.i).length) cap229), iz 7 g236.i, iz 8 ((reachL P.bd g9.i).getD g236.i.toNat 0), (64, .bool false), iz 66 (((reachL P.bd g9.i).getD g236.i.toNat 0) / 8), iz 69 (IntKind.i64.wrap (7 * P.turn))] [.cell ⟨b1, 64, none⟩ (.int .i64 P.turn)] (fun _ hC => At.cell (At.on u280 hC) (spCells_64 P)) ?_
     rw [zi ((7 : Int) * P.turn) (by omega) (by omega)]
     refine zq 1 [rz 1 b1, (3, .slice g236.ao g236.l.length g236.cap), iz 4 g9.i, iz 5 (P.bd g9.i.toNat), (6, .slice (some ⟨g251, 0, none⟩) ((reachL P.bd g9.i).length) cap229), iz 7 g236.i, iz 8 ((reachL P.bd g9.i).getD g236.i.toNat 0), (64, .bool false), iz 66 (((reachL P.bd g9.i).getD g236.i.toNat 0) / 8), iz 70 (IntKind.i64.wrap (7 - (7 * P.turn)))] ?_
     rw [zi ((7 : Int) - ((7 : Int) * P.turn)) (by omega) (by omega)]
     refine zq 2 [rz 1 b1, (3, .slice g236.ao g236.l.length g236.cap), iz 4 g9.i, iz 5 (P.bd g9.i.toNat), (6, .slice (some ⟨g251, 0, none⟩) ((reachL P.bd g9.i).length) cap229), iz 7 g236.i, iz 8 ((reachL P.bd g9.i).getD g236.i.toNat 0), (72, .bool ((((reachL P.bd g9.i).getD g236.i.toNat 0) / 8) != (7 - (7 * P.turn))))] ?_
     refine q_out (by kernel_rfl) ?_
     intro w292 v293
     have v297 := zt v290 v293
     have hz300 := Mod.size v293
     exact zb () v297
    have y291 := hc291; try simp only [zbq] at y291
    refine zq 8 [rz 1 b1, (3, .slice g236.ao g236.l.length g236.cap), iz 4 g9.i, iz 5 (P.bd g9.i.toNat), (6, .slice (some ⟨g251, 0, none⟩) ((reachL P.bd g9.i).length) cap229), iz 7 g236.i, iz 8 ((reachL P.bd g9.i).getD g236.i.toNat 0), (72, .bool true)] ?_
    refine q_out (by kernel_rfl) ?_
    intro w301 v302
    have v306 := zt v290 v302
    have hz309 := Mod.size v302
    exact zb () v306
   intro _ w288 v289
   have ho312 := Own.on ho282 v289
   have v313 := zt v283 v289
   have v314 := zt v284 v289
   have v315 := Mod.trans v285 (Mod.of_nil v289)
   have hz316 := Mod.size v289
   refine zc (fun hc317 => ?_) fun hc317 => ?_
   ·have y317 := hc317; try simp only [zbq] at y317
    refine zw ?_
    refine zs 4 [rz 1 b1, iz 4 g9.i, iz 5 (P.bd g9.i.toNat), (6, .slice (some ⟨g251, 0, none⟩) ((reachL P.bd g9.i).length) cap229), iz 7 g236.i, (73, .slice g236.ao g236.l.length g236.cap), (76, .agg #[.int .i64 g9.i, .int .i64 ((reachL P.bd g9.i).getD g236.i.toNat 0), .int .i64 0])] ?_
    refine reg_bslice (#[.int .i64 g9.i, .int .i64 ((reachL P.bd g9.i).getD g236.i.toNat 0), .int .i64 0]) 30 1 (some 77) (by kernel_rfl) ?_
    intro b318 w319 hn320
    have hb321 := Nat.le_trans v313.size hn320.base
    have hb322 := Nat.le_trans v314.size hn320.base
    have hb323 := Nat.le_trans v315.size hn320.base
    have v324 := hn320.mod
    have ho327 := Own.on ho312 v324
    have v329 := zt v314 v324
    have v330 := Mod.trans v315 (Mod.of_nil v324)
    have hz331 := Mod.size v324
    have u332 := hn320.at_
    refine reg_append2 g236.ao g236.l.length g236.cap ⟨b318, 0, none⟩ 1 1 30 (some 78) 3 24 (b0 := w2.heap.size) (xs := sms g236.l) (news := sms ([(⟨g9.i, ((reachL P.bd g9.i).getD g236.i.toNat 0), 0⟩ : Sm)])) (by kernel_rfl) ho327 (by decide) (sms_len _) (at_cells (l := sms ([(⟨g9.i, ((reachL P.bd g9.i).getD g236.i.toNat 0), 0⟩ : Sm)])) (by exact u332)) (sms_one _) (by have h1 := hx14.len; have h2 := hx241.len (by omega); have h4 := castS_len P; omega) (by omega) ?_
    intro ao333 cap334 w335 ho336 v337 hd338
    have v343 := Mod.fresh' v330 v337 hw239
    have hz344 := Mod.size v337
    rw [show (g236.l.length + 1 : Nat) = (g236.l ++ [(⟨g9.i, ((reachL P.bd g9.i).getD g236.i.toNat 0), (0 : Int)⟩ : Sm)]).length from (by first | rfl | simp)]
    have ho345 : Own w335 w2.heap.size 30 3 ao333 (g236.l ++ [(⟨g9.i, ((reachL P.bd g9.i).getD g236.i.toNat 0), 0⟩ : Sm)]).length cap334 (sms (g236.l ++ [(⟨g9.i, ((reachL P.bd g9.i).getD g236.i.toNat 0), 0⟩ : Sm)])) := Own.cast ho336 (by first | rfl | simp) (by first | rfl | rw [sms_append])
    have hw346 := acc_where hw239 v330 hd338
    have hw347 := acc_where hw249 v329 hd338
    refine zs 1 [rz 1 b1, (3, .slice ao333 ((g236.l ++ [(⟨g9.i, ((reachL P.bd g9.i).getD g236.i.toNat 0), 0⟩ : Sm)]).length) cap334), iz 4 g9.i, iz 5 (P.bd g9.i.toNat), (6, .slice (some ⟨g251, 0, none⟩) ((reachL P.bd g9.i).length) cap229), iz 7 g236.i] ?_
    refine zz ?_
    refine w_exit ?_
    refine x_then ?_
    refine x_hit ?_
    refine n_then ?_
    refine w_region ?_
    refine zs 2 [rz 1 b1, (3, .slice ao333 ((g236.l ++ [(⟨g9.i, ((reachL P.bd g9.i).getD g236.i.toNat 0), 0⟩ : Sm)]).length) cap334), iz 4 g9.i, iz 5 (P.bd g9.i.toNat), (6, .slice (some ⟨g251, 0, none⟩) ((reachL P.bd g9.i).length) cap229), iz 41 (IntKind.i64.wrap (g236.i + 1))] ?_
    rw [zi (g236.i + (1 : Int)) (by omega) (by omega)]
    refine zs 1 [rz 1 b1, (3, .slice ao333 ((g236.l ++ [(⟨g9.i, ((reachL P.bd g9.i).getD g236.i.toNat 0), 0⟩ : Sm)]).length) cap334), iz 4 g9.i, iz 5 (P.bd g9.i.toNat), (6, .slice (some ⟨g251, 0, none⟩) ((reachL P.bd g9.i).length) cap229), iz 7 (g236.i + 1)] ?_
    refine ze ?_
    exact l_back (⟨g236.i + 1, (g236.l ++ [(⟨g9.i, ((reachL P.bd g9.i).getD g236.i.toNat 0), 0⟩ : Sm)]), ao333, cap334⟩ : GS) [1, 3, 4, 5, 6, 7] (by kernel_rfl) (by dsimp only; omega) ⟨(by constructor <;> (try dsimp only) <;> omega), v343, hw346, ho345, (FlatI.step hx241 (by omega) (by omega) 0 (by unfold toL; rw [hc287, hc317]; rfl))⟩
   have y317 := hc317; try simp only [zbq] at y317
   refine w_skip ?_
   refine zn ?_
   refine zs 1 [rz 1 b1, (3, .slice g236.ao g236.l.length g236.cap), iz 4 g9.i, iz 5 (P.bd g9.i.toNat), (6, .slice (some ⟨g251, 0, none⟩) ((reachL P.bd g9.i).length) cap229), iz 7 g236.i, iz 8 ((reachL P.bd g9.i).getD g236.i.toNat 0), iz 9 2] ?_
   refine zz ?_
   refine w_block ?_
   refine w_loop (γ := GS) (fun g348 => (6 - g348.i).toNat) (fun (g348 : GS) => [(1, pz b1), (3, .slice g348.ao g348.l.length g348.cap), (4, .int .i64 g9.i), (5, .int .i64 (P.bd g9.i.toNat)), (6, .slice (some ⟨g251, 0, none⟩) ((reachL P.bd g9.i).length) cap229), (7, .int .i64 g236.i), (8, .int .i64 ((reachL P.bd g9.i).getD g236.i.toNat 0)), (9, .int .i64 g348.i)]) (fun (g348 : GS) w_ => (2 ≤ g348.i ∧ g348.i ≤ 6) ∧ Mod (blk g236.ao) w288 w_ ∧ (∀ x ∈ blk g348.ao, x ∈ ((blk g236.ao) : List Nat) ∨ w288.heap.size ≤ x) ∧ Own w_ w2.heap.size 30 3 g348.ao g348.l.length g348.cap (sms g348.l) ∧ (PromI g236.l g9.i ((reachL P.bd g9.i).getD g236.i.toNat 0) g348)) ⟨2, g236.l, g236.ao, g236.cap⟩ (hold_keep [1, 3, 4, 5, 6, 7, 8, 9] (by kernel_rfl)) ⟨(by constructor <;> (try dsimp only) <;> omega), Mod.refl _ _, (fun x hx => Or.inl hx), ho312, (List.append_nil _).symm⟩ ?_
   rintro g348 w349 ⟨⟨h354, h355⟩, v350, hw351, ho352, hx353⟩
   have v358 := Mod.fresh' v313 v350 (fun x hx => Or.inr (by have := Own.lt ho312 x hx; omega))
   have v359 := Mod.fresh' v314 v350 hw249
   have v360 := Mod.fresh' v315 v350 hw239
   have hz361 := Mod.size v350
   have hw362 : ∀ x ∈ blk g348.ao, x ∈ ([] : List Nat) ∨ w2.heap.size ≤ x := fun x hx => (hw351 x hx).elim (hw249 x) (fun h => Or.inr (Nat.le_trans (Mod.size v314) h))
   have hw363 : ∀ x ∈ blk g348.ao, x ∈ ((blk g9.ao) : List Nat) ∨ w226.heap.size ≤ x := fun x hx => (hw351 x hx).elim (hw239 x) (fun h => Or.inr (Nat.le_trans (Mod.size v315) h))
   refine w_seq ?_
   refine zw ?_
   refine zs 2 [rz 1 b1, (3, .slice g348.ao g348.l.length g348.cap), iz 4 g9.i, iz 5 (P.bd g9.i.toNat), (6, .slice (some ⟨g251, 0, none⟩) ((reachL P.bd g9.i).length) cap229), iz 7 g236.i, iz 8 ((reachL P.bd g9.i).getD g236.i.toNat 0), iz 9 g348.i, (80, .bool (decide (g348.i ≤ 5)))] ?_
   refine zz ?_
   refine zc (fun hc364 => ?_) fun hc364 => ?_
   ·have y364 := of_decide_eq_true hc364
    refine w_skip ?_
    refine n_then ?_
    refine w_seq ?_
    refine w_block ?_
    refine w_region ?_
    refine zs 5 [rz 1 b1, iz 4 g9.i, iz 5 (P.bd g9.i.toNat), (6, .slice (some ⟨g251, 0, none⟩) ((reachL P.bd g9.i).length) cap229), iz 7 g236.i, iz 8 ((reachL P.bd g9.i).getD g236.i.toNat 0), iz 9 g348.i, (83, .slice g348.ao g348.l.length g348.cap), (87, .agg #[.int .i64 g9.i, .int .i64 ((reachL P.bd g9.i).getD g236.i.toNat 0), .int .i64 g348.i])] ?_
    refine reg_bslice (#[.int .i64 g9.i, .int .i64 ((reachL P.bd g9.i).getD g236.i.toNat 0), .int .i64 g348.i]) 30 1 (some 88) (by kernel_rfl) ?_
    intro b365 w366 hn367
    have hb368 := Nat.le_trans v358.size hn367.base
    have hb369 := Nat.le_trans v359.size hn367.base
    have hb370 := Nat.le_trans v360.size hn367.base
    have hb371 := Nat.le_trans v350.size hn367.base
    have v372 := hn367.mod
    have ho375 := Own.on ho352 v372
    have v377 := zt v359 v372
    have v378 := Mod.trans v360 (Mod.of_nil v372)
    have v379 := Mod.trans v350 (Mod.of_nil v372)
    have hz380 := Mod.size v372
    have u381 := hn367.at_
    refine reg_append2 g348.ao g348.l.length g348.cap ⟨b365, 0, none⟩ 1 1 30 (some 89) 3 24 (b0 := w2.heap.size) (xs := sms g348.l) (news := sms ([(⟨g9.i, ((reachL P.bd g9.i).getD g236.i.toNat 0), g348.i⟩ : Sm)])) (by kernel_rfl) ho375 (by decide) (sms_len _) (at_cells (l := sms ([(⟨g9.i, ((reachL P.bd g9.i).getD g236.i.toNat 0), g348.i⟩ : Sm)])) (by exact u381)) (sms_one _) (by have h1 := hx14.len; have h2 := hx241.len (by omega); have h3 := hx353.len; have h4 := castS_len P; omega) (by omega) ?_
    intro ao382 cap383 w384 ho385 v386 hd387
    have v393 := Mod.fresh' v379 v386 hw351
    have hz394 := Mod.size v386
    rw [show (g348.l.length + 1 : Nat) = (g348.l ++ [(⟨g9.i, ((reachL P.bd g9.i).getD g236.i.toNat 0), g348.i⟩ : Sm)]).length from (by first | rfl | simp)]
    have ho395 : Own w384 w2.heap.size 30 3 ao382 (g348.l ++ [(⟨g9.i, ((reachL P.bd g9.i).getD g236.i.toNat 0), g348.i⟩ : Sm)]).length cap383 (sms (g348.l ++ [(⟨g9.i, ((reachL P.bd g9.i).getD g236.i.toNat 0), g348.i⟩ : Sm)])) := Own.cast ho385 (by first | rfl | simp) (by first | rfl | rw [sms_append])
    have hw396 := acc_where hw351 v379 hd387
    have hw397 := acc_where hw362 v377 hd387
    have hw398 := acc_where hw363 v378 hd387
    refine zs 1 [rz 1 b1, (3, .slice ao382 ((g348.l ++ [(⟨g9.i, ((reachL P.bd g9.i).getD g236.i.toNat 0), g348.i⟩ : Sm)]).length) cap383), iz 4 g9.i, iz 5 (P.bd g9.i.toNat), (6, .slice (some ⟨g251, 0, none⟩) ((reachL P.bd g9.i).length) cap229), iz 7 g236.i, iz 8 ((reachL P.bd g9.i).getD g236.i.toNat 0), iz 9 g348.i] ?_
    refine ze ?_
    refine n_block ?_
    refine n_then ?_
    refine w_region ?_
    refine zs 2 [rz 1 b1, (3, .slice ao382 ((g348.l ++ [(⟨g9.i, ((reachL P.bd g9.i).getD g236.i.toNat 0), g348.i⟩ : Sm)]).length) cap383), iz 4 g9.i, iz 5 (P.bd g9.i.toNat), (6, .slice (some ⟨g251, 0, none⟩) ((reachL P.bd g9.i).length) cap229), iz 7 g236.i, iz 8 ((reachL P.bd g9.i).getD g236.i.toNat 0), iz 82 (IntKind.i64.wrap (g348.i + 1))] ?_
    rw [zi (g348.i + (1 : Int)) (by omega) (by omega)]
    refine zs 1 [rz 1 b1, (3, .slice ao382 ((g348.l ++ [(⟨g9.i, ((reachL P.bd g9.i).getD g236.i.toNat 0), g348.i⟩ : Sm)]).length) cap383), iz 4 g9.i, iz 5 (P.bd g9.i.toNat), (6, .slice (some ⟨g251, 0, none⟩) ((reachL P.bd g9.i).length) cap229), iz 7 g236.i, iz 8 ((reachL P.bd g9.i).getD g236.i.toNat 0), iz 9 (g348.i + 1)] ?_
    refine ze ?_
    exact l_back (⟨g348.i + 1, (g348.l ++ [(⟨g9.i, ((reachL P.bd g9.i).getD g236.i.toNat 0), g348.i⟩ : Sm)]), ao382, cap383⟩ : GS) [1, 3, 4, 5, 6, 7, 8, 9] (by kernel_rfl) (by dsimp only; omega) ⟨(by constructor <;> (try dsimp only) <;> omega), v393, hw396, ho395, (hx353.step (by omega))⟩
   have y364 := of_decide_eq_false hc364
   refine w_exit ?_
   refine x_then ?_
   refine x_then ?_
   refine x_hit ?_
   refine n_block ?_
   refine n_then ?_
   refine w_region ?_
   refine zs 2 [rz 1 b1, (3, .slice g348.ao g348.l.length g348.cap), iz 4 g9.i, iz 5 (P.bd g9.i.toNat), (6, .slice (some ⟨g251, 0, none⟩) ((reachL P.bd g9.i).length) cap229), iz 41 (IntKind.i64.wrap (g236.i + 1))] ?_
   rw [zi (g236.i + (1 : Int)) (by omega) (by omega)]
   refine zs 1 [rz 1 b1, (3, .slice g348.ao g348.l.length g348.cap), iz 4 g9.i, iz 5 (P.bd g9.i.toNat), (6, .slice (some ⟨g251, 0, none⟩) ((reachL P.bd g9.i).length) cap229), iz 7 (g236.i + 1)] ?_
   refine ze ?_
   exact l_back (⟨g236.i + 1, g348.l, g348.ao, g348.cap⟩ : GS) [1, 3, 4, 5, 6, 7] (by kernel_rfl) (by dsimp only; omega) ⟨(by constructor <;> (try dsimp only) <;> omega), v360, hw363, ho352, (FlatI.step hx241 (by omega) (by omega) 0 (by unfold toL; rw [hc287, hc317]; exact hx353.fin (by omega)))⟩
  have y250 := of_decide_eq_false hc250
  refine w_exit ?_
  refine x_then ?_
  refine x_then ?_
  refine x_hit ?_
  refine n_block ?_
  refine n_then ?_
  refine w_region ?_
  refine zs 2 [rz 1 b1, (3, .slice g236.ao g236.l.length g236.cap), iz 13 (IntKind.i64.wrap (g9.i + 1))] ?_
  rw [zi (g9.i + (1 : Int)) (by omega) (by omega)]
  refine zs 1 [rz 1 b1, (3, .slice g236.ao g236.l.length g236.cap), iz 4 (g9.i + 1)] ?_
  refine ze ?_
  exact l_back (⟨g9.i + 1, g236.l, g236.ao, g236.cap⟩ : GS) [1, 3, 4] (by kernel_rfl) (by dsimp only; omega) ⟨(by constructor <;> (try dsimp only) <;> omega), v247, hw249, ho240, (FlatI.step hx14 (by omega) (by rw [List.length_range]; omega) 0 (by rw [range_at (by omega) (by omega)]; unfold fromL dstL; rw [hc44, hc52]; exact FlatI.fin (M := (reachL P.bd g9.i)) (f := toL P g9.i) hx241 (by omega) (by omega)))⟩
 have y20 := of_decide_eq_false hc20
 refine w_exit ?_
 refine x_then ?_
 refine x_then ?_
 refine x_hit ?_
 refine zn ?_
 refine zv 2 [(90, .slice g9.ao g9.l.length g9.cap), (91, .agg (spCells P))] [.row ⟨b1, 0, none⟩ 69 (spCells P)] [.agg (spCells P)] (At.row u17 (spCells_size P)) ?_
 refine reg_call 49 [.agg (spCells P)] (some 92) (by kernel_rfl) (c49 P hB hT) ?_
 rintro _ w399 ⟨ao401, cap402, rfl, v400, ho403⟩; refine ⟨_, rfl, ?_⟩
 have ho405 := Own.on ho13 v400
 have v406 := zt v18 v400
 have hz407 := Mod.size v400
 refine reg_append_own g9.ao g9.l.length g9.cap ao401 ((castS P).length) cap402 30 (some 93) 3 24 (b0 := w2.heap.size) (xs := sms g9.l) (news := sms (castS P)) (by kernel_rfl) ho405 ho403 (by decide) (sms_one _) (by have h1 := hx14.len; have h4 := castS_len P; omega) (by omega) ?_
 intro ao408 cap409 w410 ho411 v412 hd413
 have v416 := Mod.fresh' v406 v412 (fun x hx => Or.inr (by have := Own.lt ho405 x hx; omega))
 have hz417 := Mod.size v412
 rw [show (g9.l.length + (castS P).length : Nat) = (g9.l ++ (castS P)).length from (by first | rfl | simp)]
 have ho418 : Own w410 w2.heap.size 30 3 ao408 (g9.l ++ (castS P)).length cap409 (sms (g9.l ++ (castS P))) := Own.cast ho411 (by first | rfl | simp) (by first | rfl | rw [sms_append])
 refine reg_call 48 [.slice ao408 ((g9.l ++ (castS P)).length) cap409] (some 94) (by kernel_rfl) (c48 (g9.l ++ (castS P)) ho418 (by have h1 := hx14.len; have h4 := castS_len P; simp only [List.length_append]; omega)) ?_
 rintro _ w419 ⟨l421, ao422, cap423, rfl, v420, hs424, ho425⟩; refine ⟨_, rfl, ?_⟩
 have v429 := zt v416 v420
 have hz430 := Mod.size v420
 refine zs 1 [(2, .slice ao422 l421.length cap423)] ?_
 refine zz ?_
 refine w_ret ?_
 exact ret1 rfl rfl (by have hl : g9.l = (List.range 64).flatMap fun (k : Nat) => fromL P (k : Int) := (FlatI.fin hx14 (by omega) (by rw [List.length_range]; omega)).trans (List.nil_append _); exact ⟨l421, ao422, cap423, rfl, v429, (by have h := hs424; rw [hl] at h; exact h), Own.base ho425 (by omega)⟩)
theorem toL_rng {P : SP} {s t : Int} (hs : 0 ≤ s ∧ s ≤ 63) (ht : 0 ≤ t ∧ t ≤ 63) {m : Sm} (h : m ∈ toL P s t) : m.f = s ∧ m.t = t ∧ (m.p = 0 ∨ (2 ≤ m.p ∧ m.p ≤ 5)) := by
 unfold toL at h
 cases h1 : ((P.bd t.toNat != (0 : Int)) && (sideOf (P.bd t.toNat) == P.turn)) <;> rw [h1] at h
 ·cases h2 : ((kindOf (P.bd s.toNat) != (6 : Int)) || ((t / 8) != ((7 : Int) - ((7 : Int) * P.turn)))) <;> rw [h2] at h
  ·simp only [cond_false, promL, List.mem_map, List.mem_range] at h
   obtain ⟨k, hk, rfl⟩ := h
   exact ⟨rfl, rfl, Or.inr ⟨by dsimp only; omega, by dsimp only; omega⟩⟩
  simp only [cond_false, cond_true, List.mem_singleton] at h
  subst h; exact ⟨rfl, rfl, Or.inl rfl⟩
 cases h
theorem dstL_rng {P : SP} {s x : Int} (h : x ∈ dstL P s) : 0 ≤ x ∧ x ≤ 63 := by
 unfold dstL at h
 cases h1 : (kindOf (P.bd s.toNat) == (6 : Int)) <;> rw [h1] at h
 ·exact reachL_rng h
 exact stepsL_rng h
structure SmOk (m : Sm) : Prop where
 f : 0 ≤ m.f ∧ m.f ≤ 63
 t : 0 ≤ m.t ∧ m.t ≤ 63
 p : m.p = 0 ∨ (2 ≤ m.p ∧ m.p ≤ 5)
theorem castS_ok {P : SP} (hT : 0 ≤ P.turn ∧ P.turn ≤ 1) {m : Sm} (h : m ∈ castS P) : SmOk m := by
 have hr : ∀ r, 0 ≤ r ∧ r ≤ 3 → m ∈ castR P r → SmOk m := by
  intro r hr h
  have ha := home_all hr
  unfold castR at h
  cases h1 : (castOff (rightsS P) r.toNat || attS P.bd (homeK r).toNat (1 - P.turn)) <;> rw [h1] at h
  ·cases h2 : freeTo P r (cnS r).toNat <;> rw [h2] at h
   ·cases h
   simp only [cond_false, cond_true, List.mem_singleton] at h
   subst h
   exact ⟨by dsimp only; omega, by dsimp only; omega, Or.inl rfl⟩
  cases h
 unfold castS at h
 rw [List.mem_append] at h
 rcases h with h | h
 ·exact hr _ (by omega) h
 exact hr _ (by omega) h
theorem pseudoL_ok {P : SP} (hT : 0 ≤ P.turn ∧ P.turn ≤ 1) {m : Sm} (h : m ∈ pseudoL P) : SmOk m := by
 unfold pseudoL at h
 rw [List.mem_append] at h
 rcases h with h | h
 ·obtain ⟨k, hk, h⟩ := List.mem_flatMap.1 h
  have hk := List.mem_range.1 hk
  unfold fromL at h
  cases h1 : ((P.bd ((k : Int)).toNat == (0 : Int)) || (sideOf (P.bd ((k : Int)).toNat) != P.turn)) <;> rw [h1] at h
  ·simp only [cond_false] at h
   obtain ⟨t, ht, h⟩ := List.mem_flatMap.1 h
   have hr := dstL_rng ht
   have := toL_rng (by omega) hr h
   exact ⟨by omega, by omega, this.2.2⟩
  cases h
 exact castS_ok hT h
theorem upd_rng {f : Nat → Int} (h : ∀ i, i < 64 → 0 ≤ f i ∧ f i ≤ 12) (k : Nat) {v : Int} (hv : 0 ≤ v ∧ v ≤ 12) : ∀ i, i < 64 → 0 ≤ upd f k v i ∧ upd f k v i ≤ 12 := by
 intro i hi; unfold upd; split
 ·exact hv
 exact h i hi
theorem mk4_rng {P : SP} (hB : SPb P) (hT : 0 ≤ P.turn ∧ P.turn ≤ 1) {f t p : Int} (hf : 0 ≤ f ∧ f ≤ 63) (hp : 0 ≤ p ∧ p ≤ 6) : ∀ i, i < 64 → 0 ≤ mk4 P.bd P.turn f t p i ∧ mk4 P.bd P.turn f t p i ≤ 12 := by
 have h1 : ∀ i, i < 64 → 0 ≤ mk1 P.bd f t i ∧ mk1 P.bd f t i ≤ 12 := by
  unfold mk1; cases takesI P.bd f t
  ·exact hB
  exact upd_rng hB _ (by omega)
 have h2 : ∀ i, i < 64 → 0 ≤ mk2 P.bd f t i ∧ mk2 P.bd f t i ≤ 12 := upd_rng (upd_rng h1 _ (by omega)) _ (hB _ (by omega))
 have h3 : ∀ i, i < 64 → 0 ≤ mk3 P.bd P.turn f t p i ∧ mk3 P.bd P.turn f t p i ≤ 12 := by
  unfold mk3; cases (p != (0 : Int))
  ·exact h2
  exact upd_rng h2 _ (by omega)
 unfold mk4; cases castlesB P.bd f t
 ·exact h3
 exact upd_rng (upd_rng h3 _ (by omega)) _ (by omega)
theorem made_b {P : SP} (hB : SPb P) (hT : 0 ≤ P.turn ∧ P.turn ≤ 1) {f t p : Int} (hf : 0 ≤ f ∧ f ≤ 63) (hp : 0 ≤ p ∧ p ≤ 6) : SPb (madeS P f t p) := mk4_rng hB hT hf hp
def atK (P : SP) (m : Sm) : Int := bif m.f == kingAtS P.bd P.turn then m.t else kingAtS P.bd P.turn
def okS (P : SP) (m : Sm) : Bool := (decide (atK P m < (0 : Int))) || (!(attS (madeS P m.f m.t m.p).bd (atK P m).toNat (1 - P.turn)))
def keepS (P : SP) (m : Sm) : List Sm := bif okS P m then [m] else []
theorem keepS_len (P : SP) (m : Sm) : (keepS P m).length ≤ 1 := by unfold keepS; cases okS P m <;> simp
structure LegalOf (P : SP) (l : List Sm) : Prop where
 mem : ∀ m, m ∈ l ↔ m ∈ pseudoL P ∧ okS P m = true
 len : l.length ≤ 20000
def LegI (P : SP) (M : List Sm) (q : GS) : Prop := FlatI [] M (keepS P) q.i q.l
theorem LegI.len {P : SP} {M : List Sm} {q : GS} (h : LegI P M q) : q.l.length ≤ M.length := by
 have := FlatI.len h (c := 1) (keepS_len P); simp only [List.length_nil] at this; omega
theorem LegI.fin {P : SP} {M : List Sm} {q : GS} (h : LegI P M q) (h0 : 0 ≤ q.i) (h1 : ¬ q.i < (M.length : Int)) (hs : Same (pseudoL P) M) : LegalOf P q.l := by
 have e : q.l = M.flatMap (keepS P) := (FlatI.fin h h0 h1).trans (List.nil_append _)
 refine ⟨fun m => ?_, ?_⟩
 ·rw [e, List.mem_flatMap]
  constructor
  ·rintro ⟨x, hx, hm⟩
   unfold keepS at hm
   cases ho : okS P x <;> rw [ho] at hm
   ·cases hm
   simp only [cond_true, List.mem_singleton] at hm
   subst hm
   exact ⟨(hs.mem m).1 hx, ho⟩
  rintro ⟨hm, ho⟩
  exact ⟨m, (hs.mem m).2 hm, by unfold keepS; rw [ho]; simp⟩
 have h1 := LegI.len h
 have h2 := hs.len
 have h3 := pseudoL_len P
 omega
theorem king_rng (bd : Nat → Int) (sd : Int) : -1 ≤ kingAtS bd sd ∧ kingAtS bd sd ≤ 63 := by
 have := kingTo_range bd (1 + 6 * sd) 64; unfold kingAtS; omega
theorem atK_rng {P : SP} {m : Sm} (h : 0 ≤ m.t ∧ m.t ≤ 63) : -1 ≤ atK P m ∧ atK P m ≤ 63 := by
 have := king_rng P.bd P.turn
 unfold atK; cases (m.f == kingAtS P.bd P.turn) <;> simp only [cond_true, cond_false] <;> omega
def pickI (k n : Int) : Int := IntKind.i64.wrap ((IntKind.u64.wrap k).tmod (IntKind.u64.wrap n))
theorem pick_ok {k n : Int} (h : 0 < n) (h2 : n ≤ 20000) : (IntKind.u64.wrap n ≠ 0) ∧ 0 ≤ pickI k n ∧ pickI k n < n := by
 have e : IntKind.u64.wrap n = n := by rw [IntKind.wrap_u64]; omega
 have e2 := wrapu_pos k
 unfold pickI
 rw [e, Int.tmod_eq_emod_of_nonneg e2, i64_in' (by have := Int.emod_nonneg (IntKind.u64.wrap k) (show n ≠ 0 by omega); omega) (by have := Int.emod_lt_of_pos (IntKind.u64.wrap k) h; omega)]
 exact ⟨by omega, Int.emod_nonneg _ (by omega), Int.emod_lt_of_pos _ h⟩
structure RightS (P : SP) : Prop where
 valid : ValidS P
 few : ∃ l, LegalOf P l ∧ l.length ≤ 218
theorem c10 {w : World} (P : SP) (hB : SPb P) (hT : 0 ≤ P.turn ∧ P.turn ≤ 1) (hc : 0 ≤ P.castle ∧ P.castle ≤ 15) :
  Calls Tryz.prog 10 [.agg (spCells P)].toArray w (fun e w' => ∃ l ao cap, e = .returned (.slice ao l.length cap) ∧ Mod [] w w' ∧ LegalOf P l ∧ Own w' w.heap.size 30 3 ao l.length cap (sms l)) := by
 have hm0 : Mod [] w w := Mod.refl _ _
 refine enter (n := 57) Tryz.func10 rfl Tryz.ntmps10 rfl ?_
 refine zw ?_
 refine reg_alloc (spCells P) 24 (some 1) (by kernel_rfl) ?_
 intro b1 w2 hn3
 have hb4 := Nat.le_trans hm0.size hn3.base
 have hm5 := hn3.mod
 have hm6 := zt hm0 hm5
 have hz7 := Mod.size hm5
 have hf8 := hn3.at_
 refine zs 1 [rz 1 b1] ?_
 refine zx ?_
 refine zs 1 [rz 1 b1, (3, .slice none 0 0)] ?_
 refine zx ?_
 refine zv 1 [rz 1 b1, (3, .slice none 0 0), (8, .agg (spCells P))] [.row ⟨b1, 0, none⟩ 69 (spCells P)] [.agg (spCells P)] (At.row hf8 (spCells_size P)) ?_
 refine reg_call 21 [.agg (spCells P)] (some 9) (by kernel_rfl) (c21 P hB hT) ?_
 rintro _ w9 ⟨l11, ao12, cap13, rfl, hm10, hs14, ho15⟩; refine ⟨_, rfl, ?_⟩
 have hf16 := At.on hf8 hm10
 have hm17 := zt hm6 hm10
 have hz18 := Mod.size hm10
 have hpl : l11.length ≤ 20000 := by have := hs14.len; have := pseudoL_len P; omega
 refine zs 1 [rz 1 b1, (3, .slice none 0 0), (4, .slice ao12 l11.length cap13)] ?_
 refine zx ?_
 refine zv 3 [rz 1 b1, (3, .slice none 0 0), (4, .slice ao12 l11.length cap13), (10, .agg (spCells P)), iz 12 P.turn] [.row ⟨b1, 0, none⟩ 69 (spCells P), .cell ⟨b1, 64, none⟩ (.int .i64 P.turn)] [.agg (spCells P), .int .i64 P.turn] (⟨(At.row hf16 (spCells_size P)), At.cell hf16 (spCells_64 P)⟩) ?_
 refine zk (some 13) (c22 P P.turn (by omega)) ?_
 intro w19 hm20
 have hf21 := At.on hf16 hm20
 have ho22 := Own.on ho15 hm20
 have hm23 := zt hm17 hm20
 have hz24 := Mod.size hm20
 refine zs 1 [rz 1 b1, (3, .slice none 0 0), (4, .slice ao12 l11.length cap13), iz 5 (kingAtS P.bd P.turn)] ?_
 refine zz ?_
 refine w_seq ?_
 refine zw ?_
 refine zs 1 [rz 1 b1, (3, .slice none 0 0), (4, .slice ao12 l11.length cap13), iz 5 (kingAtS P.bd P.turn), iz 6 0] ?_
 refine zz ?_
 refine w_block ?_
 refine w_loop (γ := GS) (fun g25 => ((l11.length : Int) - g25.i).toNat) (fun (g25 : GS) => [(1, pz b1), (3, .slice g25.ao g25.l.length g25.cap), (4, .slice ao12 l11.length cap13), (5, .int .i64 (kingAtS P.bd P.turn)), (6, .int .i64 g25.i)]) (fun (g25 : GS) w_ => (0 ≤ g25.i ∧ g25.i ≤ (l11.length : Int)) ∧ Mod [] w19 w_ ∧ (∀ x ∈ blk g25.ao, x ∈ ([] : List Nat) ∨ w19.heap.size ≤ x) ∧ Own w_ w19.heap.size 30 3 g25.ao g25.l.length g25.cap (sms g25.l) ∧ (LegI P l11 g25)) ⟨0, [], none, 0⟩ (hold_keep [1, 3, 4, 5, 6] (by kernel_rfl)) ⟨(by constructor <;> (try dsimp only) <;> omega), Mod.refl _ _, (fun x hx => (blk_none x hx).elim), (Own.nil _ _ _ _), FlatI.zero⟩ ?_
 rintro g25 w26 ⟨⟨h31, h32⟩, hm27, hw28, ho29, hx30⟩
 have hf33 := At.on hf21 hm27
 have ho34 := Own.on ho22 hm27
 have hm35 := zt hm23 hm27
 have hz36 := Mod.size hm27
 refine w_seq ?_
 refine zw ?_
 refine zs 4 [rz 1 b1, (3, .slice g25.ao g25.l.length g25.cap), (4, .slice ao12 l11.length cap13), iz 5 (kingAtS P.bd P.turn), iz 6 g25.i, (17, .bool (decide (g25.i < ((l11.length : Nat) : Int))))] ?_
 refine zz ?_
 refine zc (fun hc37 => ?_) fun hc37 => ?_
 ·have y37 := of_decide_eq_true hc37
  obtain ⟨g38, cur39, rfl, hb40, hf41, ht42, hn43, hs44⟩ := Own.some ho34 (by omega)
  have hmem := (hs14.mem _).1 (smAt_mem (l := l11) (i := g25.i) (by omega) (by omega))
  have hmo := pseudoL_ok hT hmem
  have hmf := hmo.f
  have hmt := hmo.t
  have hmp := hmo.p
  have hak := atK_rng (P := P) (m := (smAt l11 g25.i)) hmt
  have hBm := made_b hB hT (t := (smAt l11 g25.i).t) (p := (smAt l11 g25.i).p) hmf (by omega)
  refine w_skip ?_
  refine n_then ?_
  refine w_seq ?_
  refine w_block ?_
  refine zw ?_
  refine zs 2 [rz 1 b1, (3, .slice g25.ao g25.l.length g25.cap), (4, .slice (some ⟨g38, 0, none⟩) l11.length cap13), iz 5 (kingAtS P.bd P.turn), iz 6 g25.i, iz 7 (kingAtS P.bd P.turn)] ?_
  refine zz ?_
  refine w_cut (γ := Int) (fun g45 => [(1, pz b1), (3, .slice g25.ao g25.l.length g25.cap), (4, .slice (some ⟨g38, 0, none⟩) l11.length cap13), (5, .int .i64 (kingAtS P.bd P.turn)), (6, .int .i64 g25.i), (7, .int .i64 g45)]) (fun g45 w_ => Mod [] w26 w_ ∧ g45 = (atK P (smAt l11 g25.i))) ?_ ?_
  ·have hm48 : Mod [] w26 w26 := Mod.refl _ _
   refine zw ?_
   refine zo 7 [rz 1 b1, (3, .slice g25.ao g25.l.length g25.cap), (4, .slice (some ⟨g38, 0, none⟩) l11.length cap13), iz 5 (kingAtS P.bd P.turn), iz 6 g25.i, iz 7 (kingAtS P.bd P.turn), (27, .bool (((smAt l11 g25.i).f) == (kingAtS P.bd P.turn)))] [.prop (0 ≤ g25.i ∧ g25.i < ((l11.length : Nat) : Int)), .cell ⟨g38, (0 + g25.i.toNat * 3), none⟩ (.int .i64 ((smAt l11 g25.i).f))] (⟨(zh (by omega)), Own.cell ho34 (sms_at (l := l11) (i := g25.i) (by omega) (by omega)).1⟩) ?_
   refine zz ?_
   refine zc (fun hc49 => ?_) fun hc49 => ?_
   ·have y49 := eq_of_beq hc49
    refine w_region ?_
    refine zo 6 [rz 1 b1, (3, .slice g25.ao g25.l.length g25.cap), (4, .slice (some ⟨g38, 0, none⟩) l11.length cap13), iz 5 (kingAtS P.bd P.turn), iz 6 g25.i, iz 7 ((smAt l11 g25.i).t)] [.prop (0 ≤ g25.i ∧ g25.i < ((l11.length : Nat) : Int)), .cell ⟨g38, ((0 + g25.i.toNat * 3) + 1), none⟩ (.int .i64 ((smAt l11 g25.i).t))] (⟨(zh (by omega)), Own.cell ho34 (sms_at (l := l11) (i := g25.i) (by omega) (by omega)).2.1⟩) ?_
    refine ze ?_
    exact c_back ((smAt l11 g25.i).t) [1, 3, 4, 5, 6, 7] (by kernel_rfl) ⟨hm48, (by unfold atK; simp only [hc49, cond_true, cond_false])⟩
   have y49 := ne_of_beq_false hc49
   refine w_skip ?_
   exact c_back (kingAtS P.bd P.turn) [1, 3, 4, 5, 6, 7] (by kernel_rfl) ⟨hm48, (by unfold atK; simp only [hc49, cond_true, cond_false])⟩
  rintro _ w46 ⟨hm47, rfl⟩
  have hf50 := At.on hf33 hm47
  have ho51 := Own.on ho34 hm47
  have ho52 := Own.on ho29 hm47
  have hm53 := zt hm35 hm47
  have hm54 := zt hm27 hm47
  have hz55 := Mod.size hm47
  refine w_cut (γ := Unit) (fun _ => [(1, pz b1), (3, .slice g25.ao g25.l.length g25.cap), (4, .slice (some ⟨g38, 0, none⟩) l11.length cap13), (5, .int .i64 (kingAtS P.bd P.turn)), (6, .int .i64 g25.i), (48, .bool ((decide ((atK P (smAt l11 g25.i)) < 0)) || (!(attS (madeS P ((smAt l11 g25.i).f) ((smAt l11 g25.i).t) ((smAt l11 g25.i).p)).bd (atK P (smAt l11 g25.i)).toNat (1 - P.turn)))))]) (fun _ w_ => Mod [] w46 w_) ?_ ?_
  ·have hm58 : Mod [] w46 w46 := Mod.refl _ _
   refine w_quiet (by kernel_rfl) (by kernel_rfl) ?_
   refine zq 3 [rz 1 b1, (3, .slice g25.ao g25.l.length g25.cap), (4, .slice (some ⟨g38, 0, none⟩) l11.length cap13), iz 5 (kingAtS P.bd P.turn), iz 6 g25.i, iz 7 (atK P (smAt l11 g25.i)), (35, .bool (decide ((atK P (smAt l11 g25.i)) < 0)))] ?_
   cases hc59 : (decide ((atK P (smAt l11 g25.i)) < (0 : Int)))
   ·have y59 := hc59; try simp only [zbq] at y59
    refine zqv 5 [rz 1 b1, (3, .slice g25.ao g25.l.length g25.cap), (4, .slice (some ⟨g38, 0, none⟩) l11.length cap13), iz 5 (kingAtS P.bd P.turn), iz 6 g25.i, iz 7 (atK P (smAt l11 g25.i)), (35, .bool false), (36, .agg (spCells P)), (40, .agg #[.int .i64 ((smAt l11 g25.i).f), .int .i64 ((smAt l11 g25.i).t), .int .i64 ((smAt l11 g25.i).p)])] [.row ⟨b1, 0, none⟩ 69 (spCells P), .prop (0 ≤ g25.i ∧ g25.i < ((l11.length : Nat) : Int)), .row ⟨g38, (0 + g25.i.toNat * 3), none⟩ 3 (#[.int .i64 ((smAt l11 g25.i).f), .int .i64 ((smAt l11 g25.i).t), .int .i64 ((smAt l11 g25.i).p)])] [.agg (spCells P), .agg #[.int .i64 ((smAt l11 g25.i).f), .int .i64 ((smAt l11 g25.i).t), .int .i64 ((smAt l11 g25.i).p)]] (fun _ hC => ⟨(At.row (At.on hf50 hC) (spCells_size P)), (zh (by omega)), (own_sm (l := l11) (i := g25.i) (Own.on ho51 hC) (by omega) (by omega))⟩) ?_
    refine zqk (some 41) (fun w_ hC => c19 P hB ((smAt l11 g25.i).f) ((smAt l11 g25.i).t) ((smAt l11 g25.i).p) (by omega) (by omega) (by omega) hT hc) ?_
    refine zqo 4 [rz 1 b1, (3, .slice g25.ao g25.l.length g25.cap), (4, .slice (some ⟨g38, 0, none⟩) l11.length cap13), iz 5 (kingAtS P.bd P.turn), iz 6 g25.i, (35, .bool false), (41, .agg (spCells (madeS P ((smAt l11 g25.i).f) ((smAt l11 g25.i).t) ((smAt l11 g25.i).p)))), iz 42 (atK P (smAt l11 g25.i)), iz 45 (IntKind.i64.wrap (1 - P.turn))] [.cell ⟨b1, 64, none⟩ (.int .i64 P.turn)] (fun _ hC => At.cell (At.on hf50 hC) (spCells_64 P)) ?_
    rw [zi ((1 : Int) - P.turn) (by omega) (by omega)]
    refine zqk (some 46) (fun w_ hC => c23 (madeS P ((smAt l11 g25.i).f) ((smAt l11 g25.i).t) ((smAt l11 g25.i).p)) hBm (atK P (smAt l11 g25.i)) (1 - P.turn) (by omega)) ?_
    refine zq 2 [rz 1 b1, (3, .slice g25.ao g25.l.length g25.cap), (4, .slice (some ⟨g38, 0, none⟩) l11.length cap13), iz 5 (kingAtS P.bd P.turn), iz 6 g25.i, (48, .bool (!(attS (madeS P ((smAt l11 g25.i).f) ((smAt l11 g25.i).t) ((smAt l11 g25.i).p)).bd (atK P (smAt l11 g25.i)).toNat (1 - P.turn))))] ?_
    refine q_out (by kernel_rfl) ?_
    intro w60 hm61
    have hm65 := zt hm58 hm61
    have hz67 := Mod.size hm61
    exact zb () hm65
   have y59 := hc59; try simp only [zbq] at y59
   refine zq 13 [rz 1 b1, (3, .slice g25.ao g25.l.length g25.cap), (4, .slice (some ⟨g38, 0, none⟩) l11.length cap13), iz 5 (kingAtS P.bd P.turn), iz 6 g25.i, (48, .bool true)] ?_
   refine q_out (by kernel_rfl) ?_
   intro w68 hm69
   have hm73 := zt hm58 hm69
   have hz75 := Mod.size hm69
   exact zb () hm73
  intro _ w56 hm57
  have ho77 := Own.on ho51 hm57
  have ho78 := Own.on ho52 hm57
  have hm79 := zt hm53 hm57
  have hm80 := zt hm54 hm57
  have hz81 := Mod.size hm57
  refine zc (fun hc82 => ?_) fun hc82 => ?_
  ·have y82 := hc82; try simp only [zbq] at y82
   refine w_region ?_
   refine zv 5 [rz 1 b1, (4, .slice (some ⟨g38, 0, none⟩) l11.length cap13), iz 5 (kingAtS P.bd P.turn), iz 6 g25.i, (49, .slice g25.ao g25.l.length g25.cap), (53, .agg #[.int .i64 ((smAt l11 g25.i).f), .int .i64 ((smAt l11 g25.i).t), .int .i64 ((smAt l11 g25.i).p)])] [.prop (0 ≤ g25.i ∧ g25.i < ((l11.length : Nat) : Int)), .row ⟨g38, (0 + g25.i.toNat * 3), none⟩ 3 (#[.int .i64 ((smAt l11 g25.i).f), .int .i64 ((smAt l11 g25.i).t), .int .i64 ((smAt l11 g25.i).p)])] [.agg #[.int .i64 ((smAt l11 g25.i).f), .int .i64 ((smAt l11 g25.i).t), .int .i64 ((smAt l11 g25.i).p)]] (⟨(zh (by omega)), (own_sm (l := l11) (i := g25.i) ho77 (by omega) (by omega))⟩) ?_
   refine reg_bslice (#[.int .i64 ((smAt l11 g25.i).f), .int .i64 ((smAt l11 g25.i).t), .int .i64 ((smAt l11 g25.i).p)]) 30 1 (some 54) (by kernel_rfl) ?_
   intro b83 w84 hn85
   have hb86 := Nat.le_trans hm79.size hn85.base
   have hb87 := Nat.le_trans hm80.size hn85.base
   have hm88 := hn85.mod
   have ho91 := Own.on ho78 hm88
   have hm93 := zt hm80 hm88
   have hz94 := Mod.size hm88
   have hf95 := hn85.at_
   refine reg_append2 g25.ao g25.l.length g25.cap ⟨b83, 0, none⟩ 1 1 30 (some 55) 3 24 (b0 := w19.heap.size) (xs := sms g25.l) (news := sms ([(⟨(smAt l11 g25.i).f, (smAt l11 g25.i).t, (smAt l11 g25.i).p⟩ : Sm)])) (by kernel_rfl) ho91 (by decide) (sms_len _) (at_cells (l := sms ([(⟨(smAt l11 g25.i).f, (smAt l11 g25.i).t, (smAt l11 g25.i).p⟩ : Sm)])) (by exact hf95)) (sms_one _) (by have h1 := hx30.len; omega) (by omega) ?_
   intro ao96 cap97 w98 ho99 hm100 hd101
   have hm105 := Mod.fresh' hm93 hm100 hw28
   have hz106 := Mod.size hm100
   rw [show (g25.l.length + 1 : Nat) = (g25.l ++ [(⟨(smAt l11 g25.i).f, (smAt l11 g25.i).t, (smAt l11 g25.i).p⟩ : Sm)]).length from (by first | rfl | simp)]
   have ho107 : Own w98 w19.heap.size 30 3 ao96 (g25.l ++ [(⟨(smAt l11 g25.i).f, (smAt l11 g25.i).t, (smAt l11 g25.i).p⟩ : Sm)]).length cap97 (sms (g25.l ++ [(⟨(smAt l11 g25.i).f, (smAt l11 g25.i).t, (smAt l11 g25.i).p⟩ : Sm)])) := Own.cast ho99 (by first | rfl | simp) (by first | rfl | rw [sms_append])
   have hw108 := acc_where hw28 hm93 hd101
   refine zs 1 [rz 1 b1, (3, .slice ao96 ((g25.l ++ [(⟨(smAt l11 g25.i).f, (smAt l11 g25.i).t, (smAt l11 g25.i).p⟩ : Sm)]).length) cap97), (4, .slice (some ⟨g38, 0, none⟩) l11.length cap13), iz 5 (kingAtS P.bd P.turn), iz 6 g25.i] ?_
   refine ze ?_
   refine n_block ?_
   refine n_then ?_
   refine w_region ?_
   refine zs 2 [rz 1 b1, (3, .slice ao96 ((g25.l ++ [(⟨(smAt l11 g25.i).f, (smAt l11 g25.i).t, (smAt l11 g25.i).p⟩ : Sm)]).length) cap97), (4, .slice (some ⟨g38, 0, none⟩) l11.length cap13), iz 5 (kingAtS P.bd P.turn), iz 19 (IntKind.i64.wrap (g25.i + 1))] ?_
   rw [zi (g25.i + (1 : Int)) (by omega) (by omega)]
   refine zs 1 [rz 1 b1, (3, .slice ao96 ((g25.l ++ [(⟨(smAt l11 g25.i).f, (smAt l11 g25.i).t, (smAt l11 g25.i).p⟩ : Sm)]).length) cap97), (4, .slice (some ⟨g38, 0, none⟩) l11.length cap13), iz 5 (kingAtS P.bd P.turn), iz 6 (g25.i + 1)] ?_
   refine ze ?_
   exact l_back (⟨g25.i + 1, (g25.l ++ [(⟨(smAt l11 g25.i).f, (smAt l11 g25.i).t, (smAt l11 g25.i).p⟩ : Sm)]), ao96, cap97⟩ : GS) [1, 3, 4, 5, 6] (by kernel_rfl) (by dsimp only; omega) ⟨(by constructor <;> (try dsimp only) <;> omega), hm105, hw108, ho107, (FlatI.step hx30 (by omega) (by omega) ⟨0, 0, 0⟩ (show _ = _ ++ keepS P (smAt l11 g25.i) from by unfold keepS; rw [show okS P (smAt l11 g25.i) = _ from hc82]; first | rfl | exact (List.append_nil _).symm))⟩
  have y82 := hc82; try simp only [zbq] at y82
  refine w_skip ?_
  refine n_block ?_
  refine n_then ?_
  refine w_region ?_
  refine zs 2 [rz 1 b1, (3, .slice g25.ao g25.l.length g25.cap), (4, .slice (some ⟨g38, 0, none⟩) l11.length cap13), iz 5 (kingAtS P.bd P.turn), iz 19 (IntKind.i64.wrap (g25.i + 1))] ?_
  rw [zi (g25.i + (1 : Int)) (by omega) (by omega)]
  refine zs 1 [rz 1 b1, (3, .slice g25.ao g25.l.length g25.cap), (4, .slice (some ⟨g38, 0, none⟩) l11.length cap13), iz 5 (kingAtS P.bd P.turn), iz 6 (g25.i + 1)] ?_
  refine ze ?_
  exact l_back (⟨g25.i + 1, g25.l, g25.ao, g25.cap⟩ : GS) [1, 3, 4, 5, 6] (by kernel_rfl) (by dsimp only; omega) ⟨(by constructor <;> (try dsimp only) <;> omega), hm80, hw28, ho78, (FlatI.step hx30 (by omega) (by omega) ⟨0, 0, 0⟩ (show _ = _ ++ keepS P (smAt l11 g25.i) from by unfold keepS; rw [show okS P (smAt l11 g25.i) = _ from hc82]; first | rfl | exact (List.append_nil _).symm))⟩
 have y37 := of_decide_eq_false hc37
 refine w_exit ?_
 refine x_then ?_
 refine x_then ?_
 refine x_hit ?_
 refine zn ?_
 refine zs 2 [(2, .slice g25.ao g25.l.length g25.cap)] ?_
 refine zz ?_
 refine w_ret ?_
 exact ret1 rfl rfl (⟨g25.l, g25.ao, g25.cap, rfl, hm35, hx30.fin (by omega) (by omega) hs14, Own.base ho29 (by omega)⟩)
theorem c9 {w : World} (P : SP) :
  Calls Tryz.prog 9 [.agg (spCells P)].toArray w (fun e w' => ∃ v : Bool, e = .returned (.bool v) ∧ Mod [] w w' ∧ (v = true → RightS P)) := by
 have hm0 : Mod [] w w := Mod.refl _ _
 refine enter (n := 11) Tryz.func9 rfl Tryz.ntmps9 rfl ?_
 refine zw ?_
 refine reg_alloc (spCells P) 24 (some 1) (by kernel_rfl) ?_
 intro b1 w2 hn3
 have hb4 := Nat.le_trans hm0.size hn3.base
 have hm5 := hn3.mod
 have hm6 := zt hm0 hm5
 have hz7 := Mod.size hm5
 have hf8 := hn3.at_
 refine zs 1 [rz 1 b1] ?_
 refine zx ?_
 refine zv 1 [rz 1 b1, (3, .agg (spCells P))] [.row ⟨b1, 0, none⟩ 69 (spCells P)] [.agg (spCells P)] (At.row hf8 (spCells_size P)) ?_
 refine reg_call 20 [.agg (spCells P)] (some 4) (by kernel_rfl) (c20 P) ?_
 rintro _ w9 ⟨v11, rfl, hm10, hv12⟩; refine ⟨_, rfl, ?_⟩
 have hf13 := At.on hf8 hm10
 have hm14 := zt hm6 hm10
 have hz15 := Mod.size hm10
 refine zs 1 [rz 1 b1, (5, .bool v11)] ?_
 cases hc16 : v11
 ·have y16 := hc16; try simp only [zbq] at y16
  refine zs 6 [(2, .bool false)] ?_
  refine zz ?_
  refine w_ret ?_
  exact ret1 rfl rfl (⟨false, rfl, hm14, fun h => absurd h (by decide)⟩)
 have y16 := hc16; try simp only [zbq] at y16
 refine zv 1 [(5, .bool true), (6, .agg (spCells P))] [.row ⟨b1, 0, none⟩ 69 (spCells P)] [.agg (spCells P)] (At.row hf13 (spCells_size P)) ?_
 refine reg_call 10 [.agg (spCells P)] (some 7) (by kernel_rfl) (c10 P (hv12 hc16).bd (hv12 hc16).turn (hv12 hc16).castle) ?_
 rintro _ w17 ⟨l19, ao20, cap21, rfl, hm18, hs22, ho23⟩; refine ⟨_, rfl, ?_⟩
 have hm25 := zt hm14 hm18
 have hz26 := Mod.size hm18
 have hll := hs22.len
 refine zs 4 [(2, .bool (decide (((l19.length : Nat) : Int) ≤ 218)))] ?_
 refine zz ?_
 refine w_ret ?_
 exact ret1 rfl rfl (⟨_, rfl, hm25, fun h => ⟨hv12 hc16, l19, hs22, by have := of_decide_eq_true h; omega⟩⟩)
theorem c13 {w : World} (P : SP) (k : Int) :
  Calls Tryz.prog 13 [.agg (spCells P), .int .i64 k].toArray w (fun e w' => ∃ (m : Sm) (v : Bool), e = .returned (.tuple #[.agg #[.int .i64 m.f, .int .i64 m.t, .int .i64 m.p], .bool v]) ∧ Mod [] w w' ∧ (v = true → RightS P ∧ (m ∈ pseudoL P ∧ okS P m = true))) := by
 have hm0 : Mod [] w w := Mod.refl _ _
 refine enter (n := 27) Tryz.func13 rfl Tryz.ntmps13 rfl ?_
 refine zw ?_
 refine reg_alloc (spCells P) 24 (some 2) (by kernel_rfl) ?_
 intro b1 w2 hn3
 have hb4 := Nat.le_trans hm0.size hn3.base
 have hm5 := hn3.mod
 have hm6 := zt hm0 hm5
 have hz7 := Mod.size hm5
 have hf8 := hn3.at_
 refine reg_alloc (#[.int .i64 0, .int .i64 0, .int .i64 0]) 30 (some 4) (by kernel_rfl) ?_
 intro b9 w10 hn11
 have hb12 := Nat.le_trans hm6.size hn11.base
 have hm13 := hn11.mod
 have hf14 := At.on hf8 hm13
 have hm15 := zt hm6 hm13
 have hz16 := Mod.size hm13
 have hf17 := hn11.at_
 refine zs 1 [iz 1 k, rz 2 b1, rz 4 b9] ?_
 refine zz ?_
 refine w_seq ?_
 refine zw ?_
 refine zv 1 [iz 1 k, rz 2 b1, rz 4 b9, (7, .agg (spCells P))] [.row ⟨b1, 0, none⟩ 69 (spCells P)] [.agg (spCells P)] (At.row hf14 (spCells_size P)) ?_
 refine reg_call 9 [.agg (spCells P)] (some 8) (by kernel_rfl) (c9 P) ?_
 rintro _ w18 ⟨v20, rfl, hm19, hv21⟩; refine ⟨_, rfl, ?_⟩
 have hf22 := At.on hf14 hm19
 have hf23 := At.on hf17 hm19
 have hm24 := zt hm15 hm19
 have hz25 := Mod.size hm19
 refine zs 1 [iz 1 k, rz 2 b1, rz 4 b9, (9, .bool (!v20))] ?_
 refine zz ?_
 refine zc (fun hc26 => ?_) fun hc26 => ?_
 ·have y26 := hc26; try simp only [zbq] at y26
  have nhc26 : v20 = false := by simpa using hc26
  refine zw ?_
  refine zs 1 [rz 4 b9, (10, .agg #[.int .i64 0, .int .i64 0, .int .i64 0])] ?_
  refine reg_store b9 0 (.agg #[.int .i64 0, .int .i64 0, .int .i64 0]) none (by kernel_rfl) hf23 (Nat.le_of_ble_eq_true rfl) rfl ?_
  intro w27 hu28
  have hf29 : At w27 b9 (.cells (#[.int .i64 0, .int .i64 0, .int .i64 0]) 30 (0, 0)) := hu28.at_
  have hm31 := Mod.fresh' hm24 hu28.mod (by simp <;> omega)
  have hz32 := Mod.size hu28.mod
  refine zs 1 [rz 4 b9, (5, .bool false)] ?_
  refine zz ?_
  refine w_ret ?_
  refine r_then ?_
  exact retc2 Tryz.results13 rfl (by kernel_rfl) (by kernel_rfl) (At.row hf29 rfl) rfl (⟨⟨0, 0, 0⟩, false, rfl, hm31, fun h => absurd h (by decide)⟩)
 have y26 := hc26; try simp only [zbq] at y26
 have nhc26 : v20 = true := by simpa using hc26
 have hR := hv21 (by simpa using hc26)
 refine w_skip ?_
 refine zn ?_
 refine zv 1 [iz 1 k, rz 4 b9, (11, .agg (spCells P))] [.row ⟨b1, 0, none⟩ 69 (spCells P)] [.agg (spCells P)] (At.row hf22 (spCells_size P)) ?_
 refine reg_call 10 [.agg (spCells P)] (some 12) (by kernel_rfl) (c10 P hR.valid.bd hR.valid.turn hR.valid.castle) ?_
 rintro _ w33 ⟨l35, ao36, cap37, rfl, hm34, hs38, ho39⟩; refine ⟨_, rfl, ?_⟩
 have hlt40 := At.lt hf23
 have hf42 := At.on hf23 hm34
 have hm43 := zt hm24 hm34
 have hz44 := Mod.size hm34
 have hll := hs38.len
 refine zs 1 [iz 1 k, rz 4 b9, (6, .slice ao36 l35.length cap37)] ?_
 refine zz ?_
 refine w_seq ?_
 refine zw ?_
 refine zs 3 [iz 1 k, rz 4 b9, (6, .slice ao36 l35.length cap37), (15, .bool (((l35.length : Nat) : Int) == 0))] ?_
 refine zz ?_
 refine zc (fun hc45 => ?_) fun hc45 => ?_
 ·have y45 := eq_of_beq hc45
  refine zw ?_
  refine zs 1 [rz 4 b9, (16, .agg #[.int .i64 0, .int .i64 0, .int .i64 0])] ?_
  refine reg_store b9 0 (.agg #[.int .i64 0, .int .i64 0, .int .i64 0]) none (by kernel_rfl) hf42 (Nat.le_of_ble_eq_true rfl) rfl ?_
  intro w46 hu47
  have hf48 : At w46 b9 (.cells (#[.int .i64 0, .int .i64 0, .int .i64 0]) 30 (0, 0)) := hu47.at_
  have hm51 := Mod.fresh' hm43 hu47.mod (by simp <;> omega)
  have hz52 := Mod.size hu47.mod
  refine zs 1 [rz 4 b9, (5, .bool false)] ?_
  refine zz ?_
  refine w_ret ?_
  refine r_then ?_
  exact retc2 Tryz.results13 rfl (by kernel_rfl) (by kernel_rfl) (At.row hf48 rfl) rfl (⟨⟨0, 0, 0⟩, false, rfl, hm51, fun h => absurd h (by decide)⟩)
 have y45 := ne_of_beq_false hc45
 have hpos : 0 < l35.length := by have h := hc45; simp only [beq_eq_false_iff_ne] at h; omega
 obtain ⟨g53, cur54, rfl, hb55, hf56, ht57, hn58, hs59⟩ := Own.some ho39 hpos
 have hpk := pick_ok (k := k) (n := ((l35.length : Nat) : Int)) (by omega) (by omega)
 refine w_skip ?_
 refine zn ?_
 refine zo 8 [rz 4 b9, (17, .slice (some ⟨g53, 0, none⟩) l35.length cap37), iz 24 (IntKind.i64.wrap ((IntKind.u64.wrap k).tmod (IntKind.u64.wrap ((l35.length : Nat) : Int))))] [.prop ((IntKind.u64.wrap ((l35.length : Nat) : Int)) ≠ 0)] (zh (by first | omega | assumption | decide | exact hpk.1)) ?_
 rw [show (IntKind.i64.wrap ((IntKind.u64.wrap k).tmod (IntKind.u64.wrap ((l35.length : Nat) : Int)))) = pickI k ((l35.length : Nat) : Int) from rfl]
 refine zv 2 [rz 4 b9, (26, .agg #[.int .i64 ((smAt l35 (pickI k ((l35.length : Nat) : Int))).f), .int .i64 ((smAt l35 (pickI k ((l35.length : Nat) : Int))).t), .int .i64 ((smAt l35 (pickI k ((l35.length : Nat) : Int))).p)])] [.prop (0 ≤ (pickI k ((l35.length : Nat) : Int)) ∧ (pickI k ((l35.length : Nat) : Int)) < ((l35.length : Nat) : Int)), .row ⟨g53, (0 + (pickI k ((l35.length : Nat) : Int)).toNat * 3), none⟩ 3 (#[.int .i64 ((smAt l35 (pickI k ((l35.length : Nat) : Int))).f), .int .i64 ((smAt l35 (pickI k ((l35.length : Nat) : Int))).t), .int .i64 ((smAt l35 (pickI k ((l35.length : Nat) : Int))).p)])] [.agg #[.int .i64 ((smAt l35 (pickI k ((l35.length : Nat) : Int))).f), .int .i64 ((smAt l35 (pickI k ((l35.length : Nat) : Int))).t), .int .i64 ((smAt l35 (pickI k ((l35.length : Nat) : Int))).p)]] (⟨(zh (by first | omega | assumption | decide | exact hpk.1)), (own_sm (l := l35) (i := (pickI k ((l35.length : Nat) : Int))) ho39 (by omega) (by omega))⟩) ?_
 refine reg_store b9 0 (.agg #[.int .i64 ((smAt l35 (pickI k ((l35.length : Nat) : Int))).f), .int .i64 ((smAt l35 (pickI k ((l35.length : Nat) : Int))).t), .int .i64 ((smAt l35 (pickI k ((l35.length : Nat) : Int))).p)]) none (by kernel_rfl) hf42 (Nat.le_of_ble_eq_true rfl) rfl ?_
 intro w60 hu61
 have hf62 : At w60 b9 (.cells (#[.int .i64 ((smAt l35 (pickI k ((l35.length : Nat) : Int))).f), .int .i64 ((smAt l35 (pickI k ((l35.length : Nat) : Int))).t), .int .i64 ((smAt l35 (pickI k ((l35.length : Nat) : Int))).p)]) 30 (0, 0)) := hu61.at_
 have hm65 := Mod.fresh' hm43 hu61.mod (by simp <;> omega)
 have hz66 := Mod.size hu61.mod
 refine zs 1 [rz 4 b9, (5, .bool true)] ?_
 refine zz ?_
 refine w_ret ?_
 exact retc2 Tryz.results13 rfl (by kernel_rfl) (by kernel_rfl) (At.row hf62 rfl) rfl (⟨smAt l35 (pickI k ((l35.length : Nat) : Int)), true, rfl, hm65, fun _ => ⟨hR, (hs38.mem _).1 (smAt_mem (by omega) (by omega))⟩⟩)
section
variable {P : Program} {n : Nat} {D : List Deferred} {ops : Array Oper} {Q : Exit → Act → World → Prop} {w : World} {L : List (Nat × Value)}
def appendSAt (P : Program) (n : Nat) (ops : List Oper) (k : Nat) (L : List (Nat × Value)) : Option (Value × ByteArray × TypeId × Option Nat × Nat × Nat × Bool) :=
 match ops[k]? with
 | some o => match wantedL ops L o, dstOk o.dst n with
  | some true, true => match o.op with
   | .call c => match c.callee, c.args.toList, c.argTypes.toList with
    | .builtin .append, [s, x], [t, t'] => match evL L s, evL L x, P.underlying t, P.underlying t' with
     | some u, some (.string v), some (.slice e), some .string => match P.info? e with
      | some i => match i.zero with
       | some (.int .u8 z) => some (u, v, e, o.dst, i.size, i.bytes, decide (z = 0))
       | _ => none
      | none => none
     | _, _, _, _ => none
    | _, _, _ => none
   | _ => none
  | _, _ => none
 | none => none
theorem reg_append_str {k : Nat} (ao : Option Addr) (l cap : Nat) (s : ByteArray) (e : TypeId) (dst : Option Nat) (h : appendSAt P n ops.toList k L = some (.slice ao l cap, s, e, dst, 1, 1, true))
  {b0 : Nat} {xs : List Value} (hown : Own w b0 e 1 ao l cap xs) (hb : l + s.size ≤ 140737488355328) (hbase : b0 ≤ w.heap.size)
  (hk : ∀ ao' cap' w', Own w' b0 e 1 ao' (l + s.size) cap' (xs ++ Lib.strCells s) → Mod (blk ao) w w' → Reg P n D ops Q (k + 1) (setD dst (.slice ao' (l + s.size) cap') L) w') : Reg P n D ops Q k L w := by
 intro act ha
 unfold appendSAt at h
 split at h
 case h_2 => cases h
 rename_i o ho
 split at h
 case h_2 => cases h
 rename_i hw hd
 split at h
 case h_2 => cases h
 rename_i cc hop
 split at h
 case h_2 => cases h
 rename_i s' x t t' hc hargs hts
 split at h
 case h_2 => cases h
 rename_i u v e' hs' hx hu hu'
 split at h
 case h_2 => cases h
 rename_i i hi
 split at h
 case h_2 => cases h
 rename_i z hz
 simp only [Option.some.injEq, Prod.mk.injEq, decide_eq_true_eq] at h
 obtain ⟨rfl, rfl, rfl, rfl, hsz, hby, rfl⟩ := h
 rw [drop_cons ho]
 simp only [wpList, wantedL_spec ha hw, if_true]
 refine .inl ?_
 have hlm : l + v.size ≤ maxLen := by simp only [maxLen]; omega
 obtain ⟨v', w', hrun, h2, h3, hnil⟩ := Lib.run_append_own_string (P := P) w b0 t t' o.type e' i hu hu' hi hz hsz hby _ l xs hown v hlm hb hbase
 have hr : (execOp act.eval o).run P w = .ok (.value v') w' := by
  obtain ⟨dst, op, ty, pos, af, g'⟩ := o
  simp only at hop
  subst hop
  obtain ⟨callee, args, ts⟩ := cc
  simp only at hc hargs hts
  subst hc
  obtain rfl : args = #[s', x] := by apply Array.ext'; simpa using hargs
  obtain rfl : ts = #[t, t'] := by apply Array.ext'; simpa using hts
  simp only [execOp, resolve, invoke, builtin, Sem.run_bind, Sem.run_pure, Result.andThen_ok, List.map_toArray, List.map_cons, List.map_nil, ha.agrees _ _ hs', ha.agrees _ _ hx, hrun]
 simp only [Oper.wp, hr, Oper.upon]
 have hform : ∃ ao' cap', v' = .slice ao' (l + v.size) cap' := by
  rcases h2.2 with ⟨hv, h0⟩ | ⟨g, cap', cur, hv, _⟩
  ·exact ⟨none, 0, by rw [hv, h0]⟩
  ·exact ⟨_, _, hv⟩
 obtain ⟨ao', cap', rfl⟩ := hform
 exact hk ao' cap' w' h2 (Mod.of_grown h3) _ (ha.setD hd _)
def b2sAt (P : Program) (n : Nat) (ops : List Oper) (k : Nat) (L : List (Nat × Value)) : Option (Value × Option Nat × TypeId) :=
 match ops[k]? with
 | some o => match wantedL ops L o, dstOk o.dst n with
  | some true, true => match o.op with
   | .convert a b x => match evL L x, P.underlying a, P.underlying b with
    | some u, some (.slice e), some .string => match P.underlying e with
     | some (.int .u8) => some (u, o.dst, e)
     | _ => none
    | _, _, _ => none
   | _ => none
  | _, _ => none
 | none => none
theorem reg_b2s {k : Nat} (ao : Option Addr) (l cap : Nat) (bs : List UInt8) (dst : Option Nat) (e : TypeId) (h : b2sAt P n ops.toList k L = some (.slice ao l cap, dst, e)) {b0 : Nat} (hown : Own w b0 e 1 ao l cap (Lib.byteCells bs))
  (hk : Reg P n D ops Q (k + 1) (setD dst (.string ⟨bs.toArray⟩) L) w) : Reg P n D ops Q k L w := by
 intro act ha
 unfold b2sAt at h
 split at h
 case h_2 => cases h
 rename_i o ho
 split at h
 case h_2 => cases h
 rename_i hw hd
 split at h
 case h_2 => cases h
 rename_i a b x hop
 split at h
 case h_2 => cases h
 rename_i u e' hx hu hu'
 split at h
 case h_2 => cases h
 rename_i he
 simp only [Option.some.injEq, Prod.mk.injEq] at h
 obtain ⟨rfl, rfl, rfl⟩ := h
 rw [drop_cons ho]
 simp only [wpList, wantedL_spec ha hw, if_true]
 refine .inl ?_
 have hl : bs.length = l := by have := hown.len; simpa [Lib.byteCells] using this
 have hrun : (convert a b (.slice ao l cap)).run P w = .ok (.string ⟨bs.toArray⟩) w := by
  cases ao with
  | none =>
   have h0 : l = 0 := by
    rcases hown.2 with ⟨_, h0⟩ | ⟨g, c', cur, hv, _⟩
    ·exact h0
    ·simp at hv
   obtain rfl : bs = [] := List.eq_nil_of_length_eq_zero (by omega)
   exact run_convert_bytes_nil w a e' hu he l cap b hu'
  | some ad =>
   obtain ⟨g, hg, _⟩ := hown.get (by simp)
   obtain rfl := Option.some.inj hg
   subst hl
   refine run_convert_bytes_back w a b e' _ cap bs hu he hu' fun j hj => hown.cells' j _ ?_
   simp [Lib.byteCells, hj]
 have hr : (execOp act.eval o).run P w = .ok (.value (.string ⟨bs.toArray⟩)) w := by
  obtain ⟨dst, op, ty, pos, af, g'⟩ := o
  simp only at hop
  subst hop
  simp only [execOp, ha.agrees _ _ hx, Sem.run_bind, hrun, Result.andThen_ok]
  rfl
 simp only [Oper.wp, hr, Oper.upon]
 exact hk _ (ha.setD hd _)
def neqPAt (P : Program) (n : Nat) (ops : List Oper) (k : Nat) (L : List (Nat × Value)) : Option (Value × Value × Option Nat × Bool) :=
 match ops[k]? with
 | some o => match wantedL ops L o, dstOk o.dst n with
  | some true, true => match o.op with
   | .binOp .neq t x y _ => match evL L x, evL L y, P.underlying t with
    | some u, some v, some (.pointer te) => match P.info? te with
     | some i => some (u, v, o.dst, i.size != 0)
     | none => none
    | _, _, _ => none
   | _ => none
  | _, _ => none
 | none => none
theorem reg_neq_ptr {k : Nat} (a : Addr) (dst : Option Nat) (h : neqPAt P n ops.toList k L = some (.pointer (some a), .pointer (some a), dst, true))
  (hk : Reg P n D ops Q (k + 1) (setD dst (.bool false) L) w) : Reg P n D ops Q k L w := by
 intro act ha
 unfold neqPAt at h
 split at h
 case h_2 => cases h
 rename_i o ho
 split at h
 case h_2 => cases h
 rename_i hw hd
 split at h
 case h_2 => cases h
 rename_i t x y yt hop
 split at h
 case h_2 => cases h
 rename_i u v te hx hy hu
 split at h
 case h_2 => cases h
 rename_i i hi
 simp only [Option.some.injEq, Prod.mk.injEq] at h
 obtain ⟨rfl, rfl, rfl, hsz⟩ := h
 rw [drop_cons ho]
 simp only [wpList, wantedL_spec ha hw, if_true]
 refine .inl ?_
 have hr : (execOp act.eval o).run P w = .ok (.value (.bool false)) w := by
  obtain ⟨dst, op, ty, pos, af, g'⟩ := o
  simp only at hop
  subst hop
  simp only [execOp, ha.agrees _ _ hx, ha.agrees _ _ hy, Sem.run_bind]
  simp [eqGuard, Lib.run_neq_ptr_same (w := w) a hu hi]
 simp only [Oper.wp, hr, Oper.upon]
 exact hk _ (ha.setD hd _)
end
def byteAt (s : ByteArray) (i : Int) : Int := match s[i.toNat]? with | some b => (b.toNat : Int) | none => 0
theorem byteAt_ok {s : ByteArray} {i : Int} (h0 : 0 ≤ i) (h1 : i < (s.size : Int)) : 0 ≤ i ∧ ∃ b, s[i.toNat]? = some b ∧ byteAt s i = b.toNat := by
 have hlt : i.toNat < s.size := by omega
 refine ⟨h0, s[i.toNat], getElem?_pos s i.toNat hlt, ?_⟩
 unfold byteAt; rw [getElem?_pos s i.toNat hlt]
theorem byteAt_files {f : Int} (h : 0 ≤ f ∧ f ≤ 7) : byteAt ⟨#[97, 98, 99, 100, 101, 102, 103, 104]⟩ f = 97 + f := by
 rcases (by omega : f = 0 ∨ f = 1 ∨ f = 2 ∨ f = 3 ∨ f = 4 ∨ f = 5 ∨ f = 6 ∨ f = 7) with rfl | rfl | rfl | rfl | rfl | rfl | rfl | rfl <;> rfl
theorem byteAt_ranks {f : Int} (h : 0 ≤ f ∧ f ≤ 7) : byteAt ⟨#[49, 50, 51, 52, 53, 54, 55, 56]⟩ f = 49 + f := by
 rcases (by omega : f = 0 ∨ f = 1 ∨ f = 2 ∨ f = 3 ∨ f = 4 ∨ f = 5 ∨ f = 6 ∨ f = 7) with rfl | rfl | rfl | rfl | rfl | rfl | rfl | rfl <;> rfl
def promoB (p : Int) : List Int := bif p == (1 : Int) then [107] else bif p == (2 : Int) then [113] else bif p == (3 : Int) then [114] else bif p == (4 : Int) then [98] else bif p == (5 : Int) then [110] else [112]
def bytesV (l : List Int) : Array Value := (l.map fun b => Value.int .u8 b).toArray
theorem c191 {w : World} (f : Int) (h : 0 ≤ f ∧ f ≤ 7) :
  Calls Tryz.prog 191 [.int .i8 f].toArray w (fun e w' => e = .returned (.int .u8 (97 + f)) ∧ Mod [] w w') := by
 have v0 : Mod [] w w := Mod.refl _ _
 refine enter (n := 5) Tryz.func191 rfl Tryz.ntmps191 rfl ?_
 refine zw ?_
 refine zs 1 [(0, .int .i8 f)] ?_
 refine zx ?_
 refine zv 3 [(2, .int .u8 (byteAt (⟨#[97, 98, 99, 100, 101, 102, 103, 104]⟩ : ByteArray) f))] [.prop (0 ≤ f ∧ ∃ b, (⟨#[97, 98, 99, 100, 101, 102, 103, 104]⟩ : ByteArray)[f.toNat]? = some b ∧ (byteAt (⟨#[97, 98, 99, 100, 101, 102, 103, 104]⟩ : ByteArray) f) = b.toNat)] [.int .u8 (byteAt (⟨#[97, 98, 99, 100, 101, 102, 103, 104]⟩ : ByteArray) f)] (byteAt_ok (by omega) (show _ < 8 from (by omega))) ?_
 refine zz ?_
 refine w_ret ?_
 exact ret1 rfl rfl (⟨ret_int (byteAt_files h), v0⟩)
theorem c192 {w : World} (f : Int) (h : 0 ≤ f ∧ f ≤ 7) :
  Calls Tryz.prog 192 [.int .i8 f].toArray w (fun e w' => e = .returned (.int .u8 (49 + f)) ∧ Mod [] w w') := by
 have v0 : Mod [] w w := Mod.refl _ _
 refine enter (n := 5) Tryz.func192 rfl Tryz.ntmps192 rfl ?_
 refine zw ?_
 refine zs 1 [(0, .int .i8 f)] ?_
 refine zx ?_
 refine zv 3 [(2, .int .u8 (byteAt (⟨#[49, 50, 51, 52, 53, 54, 55, 56]⟩ : ByteArray) f))] [.prop (0 ≤ f ∧ ∃ b, (⟨#[49, 50, 51, 52, 53, 54, 55, 56]⟩ : ByteArray)[f.toNat]? = some b ∧ (byteAt (⟨#[49, 50, 51, 52, 53, 54, 55, 56]⟩ : ByteArray) f) = b.toNat)] [.int .u8 (byteAt (⟨#[49, 50, 51, 52, 53, 54, 55, 56]⟩ : ByteArray) f)] (byteAt_ok (by omega) (show _ < 8 from (by omega))) ?_
 refine zz ?_
 refine w_ret ?_
 exact ret1 rfl rfl (⟨ret_int (byteAt_ranks h), v0⟩)
theorem c204 {w : World} (sq : Int) (h : 0 ≤ sq ∧ sq ≤ 63) :
  Calls Tryz.prog 204 [.int .i8 sq].toArray w (fun e w' => ∃ q, e = .returned (.slice (some ⟨q, 0, none⟩) [97 + sqFile sq, 49 + sqRank sq].length [97 + sqFile sq, 49 + sqRank sq].length) ∧ Mod [] w w' ∧ At w' q (.cells (bytesV [97 + sqFile sq, 49 + sqRank sq]) 5 (0, 0)) ∧ w.heap.size ≤ q) := by
 have v0 : Mod [] w w := Mod.refl _ _
 refine enter (n := 10) Tryz.func204 rfl Tryz.ntmps204 rfl ?_
 refine zw ?_
 refine zs 1 [(0, .int .i8 sq)] ?_
 refine zx ?_
 refine zs 1 [(0, .int .i8 sq), (3, .int .i8 sq)] ?_
 refine zk (some 4) (c133 sq w) ?_
 intro w1 v2
 have v3 := zt v0 v2
 refine zk (some 5) (c191 (sqFile sq) (file_ok h)) ?_
 intro w4 v5
 have v6 := zt v3 v5
 refine zs 1 [(5, .int .u8 (97 + (sqFile sq))), (6, .int .i8 sq)] ?_
 refine zk (some 7) (c132 sq w4) ?_
 intro w7 v8
 have v9 := zt v6 v8
 refine zk (some 8) (c192 (sqRank sq) (rank_ok h)) ?_
 intro w10 v11
 have v12 := zt v9 v11
 refine reg_bslice (#[.int .u8 (97 + (sqFile sq)), .int .u8 (49 + (sqRank sq))]) 5 2 (some 9) (by kernel_rfl) ?_
 intro b13 w14 hn15
 have hb16 := Nat.le_trans v12.size hn15.base
 have v17 := hn15.mod
 have v18 := zt v12 v17
 have hf19 := hn15.at_
 refine zs 1 [(2, .slice (some ⟨b13, 0, none⟩) 2 2)] ?_
 refine zz ?_
 refine w_ret ?_
 exact ret1 rfl rfl (⟨_, rfl, v18, hf19, by omega⟩)
theorem c205 {w : World} (p : Int) (h : 1 ≤ p ∧ p ≤ 5) :
  Calls Tryz.prog 205 [.int .i8 p].toArray w (fun e w' => ∃ q, e = .returned (.slice (some ⟨q, 0, none⟩) (promoB p).length (promoB p).length) ∧ Mod [] w w' ∧ At w' q (.cells (bytesV (promoB p)) 5 (0, 0)) ∧ w.heap.size ≤ q) := by
 have v0 : Mod [] w w := Mod.refl _ _
 refine enter (n := 26) Tryz.func205 rfl Tryz.ntmps205 rfl ?_
 refine zw ?_
 refine zs 1 [(0, .int .i8 p)] ?_
 refine zz ?_
 refine w_seq ?_
 refine zw ?_
 refine zs 1 [(3, .int .i8 p)] ?_
 refine zz ?_
 refine w_block ?_
 refine zw ?_
 refine zs 2 [(3, .int .i8 p), (4, .bool (p == 1))] ?_
 refine zz ?_
 refine zc (fun hc1 => ?_) fun hc1 => ?_
 ·have y1 := eq_of_beq hc1
  refine zw ?_
  refine reg_bslice (#[.int .u8 107]) 5 1 (some 6) (by kernel_rfl) ?_
  intro b2 w3 hn4
  have hb5 := Nat.le_trans v0.size hn4.base
  have v6 := hn4.mod
  have v7 := zt v0 v6
  have hf8 := hn4.at_
  refine zs 1 [(2, .slice (some ⟨b2, 0, none⟩) 1 1)] ?_
  refine zz ?_
  refine w_ret ?_
  refine r_block ?_
  refine r_then ?_
  exact ret1 rfl rfl (by have e : promoB p = [107] := (by simp only [promoB, hc1, cond_true, cond_false]); rw [e]; exact ⟨_, rfl, v7, hf8, by omega⟩)
 have y1 := ne_of_beq_false hc1
 refine zw ?_
 refine zs 2 [(3, .int .i8 p), (7, .bool (p == 2))] ?_
 refine zz ?_
 refine zc (fun hc9 => ?_) fun hc9 => ?_
 ·have y9 := eq_of_beq hc9
  refine zw ?_
  refine reg_bslice (#[.int .u8 113]) 5 1 (some 9) (by kernel_rfl) ?_
  intro b10 w11 hn12
  have hb13 := Nat.le_trans v0.size hn12.base
  have v14 := hn12.mod
  have v15 := zt v0 v14
  have hf16 := hn12.at_
  refine zs 1 [(2, .slice (some ⟨b10, 0, none⟩) 1 1)] ?_
  refine zz ?_
  refine w_ret ?_
  refine r_block ?_
  refine r_then ?_
  exact ret1 rfl rfl (by have e : promoB p = [113] := (by simp only [promoB, hc1, hc9, cond_true, cond_false]); rw [e]; exact ⟨_, rfl, v15, hf16, by omega⟩)
 have y9 := ne_of_beq_false hc9
 refine zw ?_
 refine zs 2 [(3, .int .i8 p), (10, .bool (p == 3))] ?_
 refine zz ?_
 refine zc (fun hc17 => ?_) fun hc17 => ?_
 ·have y17 := eq_of_beq hc17
  refine zw ?_
  refine reg_bslice (#[.int .u8 114]) 5 1 (some 12) (by kernel_rfl) ?_
  intro b18 w19 hn20
  have hb21 := Nat.le_trans v0.size hn20.base
  have v22 := hn20.mod
  have v23 := zt v0 v22
  have hf24 := hn20.at_
  refine zs 1 [(2, .slice (some ⟨b18, 0, none⟩) 1 1)] ?_
  refine zz ?_
  refine w_ret ?_
  refine r_block ?_
  refine r_then ?_
  exact ret1 rfl rfl (by have e : promoB p = [114] := (by simp only [promoB, hc1, hc9, hc17, cond_true, cond_false]); rw [e]; exact ⟨_, rfl, v23, hf24, by omega⟩)
 have y17 := ne_of_beq_false hc17
 refine zw ?_
 refine zs 2 [(3, .int .i8 p), (13, .bool (p == 4))] ?_
 refine zz ?_
 refine zc (fun hc25 => ?_) fun hc25 => ?_
 ·have y25 := eq_of_beq hc25
  refine zw ?_
  refine reg_bslice (#[.int .u8 98]) 5 1 (some 15) (by kernel_rfl) ?_
  intro b26 w27 hn28
  have hb29 := Nat.le_trans v0.size hn28.base
  have v30 := hn28.mod
  have v31 := zt v0 v30
  have hf32 := hn28.at_
  refine zs 1 [(2, .slice (some ⟨b26, 0, none⟩) 1 1)] ?_
  refine zz ?_
  refine w_ret ?_
  refine r_block ?_
  refine r_then ?_
  exact ret1 rfl rfl (by have e : promoB p = [98] := (by simp only [promoB, hc1, hc9, hc17, hc25, cond_true, cond_false]); rw [e]; exact ⟨_, rfl, v31, hf32, by omega⟩)
 have y25 := ne_of_beq_false hc25
 refine zw ?_
 refine zs 2 [(3, .int .i8 p), (16, .bool (p == 5))] ?_
 refine zz ?_
 have hc33 : (p == 5) = true := (beq_iff_eq.2 (by omega))
 refine w_cond (b := (p == 5)) rfl (fun _ => ?_) (fun hx => absurd (hc33.symm.trans hx) (by decide))
 refine zw ?_
 refine reg_bslice (#[.int .u8 110]) 5 1 (some 18) (by kernel_rfl) ?_
 intro b34 w35 hn36
 have hb37 := Nat.le_trans v0.size hn36.base
 have v38 := hn36.mod
 have v39 := zt v0 v38
 have hf40 := hn36.at_
 refine zs 1 [(2, .slice (some ⟨b34, 0, none⟩) 1 1)] ?_
 refine zz ?_
 refine w_ret ?_
 refine r_block ?_
 refine r_then ?_
 exact ret1 rfl rfl (by have e : promoB p = [110] := (by simp only [promoB, hc1, hc9, hc17, hc25, hc33, cond_true, cond_false]); rw [e]; exact ⟨_, rfl, v39, hf40, by omega⟩)
theorem byteCells_one (l : List UInt8) : ∀ u ∈ Lib.byteCells l, u.oneCell' = true := by
 intro u hu; simp only [Lib.byteCells, List.mem_map] at hu; obtain ⟨b, _, rfl⟩ := hu; rfl
theorem at_bytes {w : World} {q : Nat} {x : List UInt8} (h : At w q (.cells (Lib.byteCells x).toArray 5 (0, 0))) : ∀ j u, (Lib.byteCells x)[j]? = some u → w.cell? (Addr.add ⟨q, 0, none⟩ j) = some u := by
 intro j u hu
 have e : (Addr.add ⟨q, 0, none⟩ j) = ⟨q, j, none⟩ := by unfold Addr.add; split <;> simp_all
 rw [e]; exact h.cell (by simpa using hu)
theorem c124 {b : Nat} {ao : Option Addr} {n cap : Nat} {w : World} (hb : At w b (.cells #[pz b, .slice ao n cap] 150 (0, 0))) :
  Calls Tryz.prog 124 [pz b].toArray w (fun e w' => e = .returned (.tuple #[]) ∧ Mod [] w w') := by
 have v0 : Mod [] w w := Mod.refl _ _
 refine enter (n := 20) Tryz.func124 rfl Tryz.ntmps124 rfl ?_
 refine zw ?_
 refine zo 5 [rz 0 b, (6, .bool false)] [.cell ⟨b, 0, none⟩ (pz b)] (At.cell hb rfl) ?_
 refine zz ?_
 refine w_false rfl ?_
 refine zw ?_
 refine zo 5 [rz 17 b, rz 18 b] [.cell ⟨b, 0, none⟩ (pz b)] (At.cell hb rfl) ?_
 refine reg_neq_ptr ⟨b, 0, none⟩ (some 19) (by kernel_rfl) ?_
 refine zz ?_
 refine w_false rfl ?_
 refine w_skip ?_
 exact end0 Tryz.results124 (⟨rfl, v0⟩)
theorem c203 {b q b0 : Nat} {ao : Option Addr} {n cap : Nat} {bs : List UInt8} {w : World} (hb : At w b (.cells #[pz b, .slice ao n cap] 150 (0, 0))) (ho : Own w b0 5 1 ao n cap (Lib.byteCells bs)) (x : List UInt8) (hq : At w q (.cells (Lib.byteCells x).toArray 5 (0, 0))) (hlen : (n + x.length) * 2 ≤ 140737488355328) (h0 : b0 ≤ w.heap.size) :
  Calls Tryz.prog 203 [.pointer (some ⟨b, 0, none⟩), .slice (some ⟨q, 0, none⟩) x.length x.length].toArray w (fun e w' => ∃ ao' cap', e = .returned (.tuple #[.int .i64 x.length, .nilIface]) ∧ Mod (b :: blk ao) w w' ∧ At w' b (.cells #[.pointer (some ⟨b, 0, none⟩), .slice ao' (n + x.length) cap'] 150 (0, 0)) ∧ Own w' b0 5 1 ao' (n + x.length) cap' (Lib.byteCells (bs ++ x))) := by
 have v0 : Mod (b :: blk ao) w w := Mod.refl _ _
 refine enter (n := 19) Tryz.func203 rfl Tryz.ntmps203 rfl ?_
 refine zw ?_
 refine zs 2 [rz 0 b, (1, .slice (some ⟨q, 0, none⟩) x.length x.length)] ?_
 refine zx ?_
 refine zs 1 [rz 0 b, (1, .slice (some ⟨q, 0, none⟩) x.length x.length), rz 6 b] ?_
 refine zk (some 7) (c124 hb) ?_
 intro w1 v2
 have u3 := At.on hb v2
 have u4 := At.on hq v2
 have ho5 := Own.on ho v2
 have v6 := Mod.trans v0 (Mod.of_nil v2)
 refine zx ?_
 refine zo 6 [(1, .slice (some ⟨q, 0, none⟩) x.length x.length), rz 8 b, (12, .slice ao n cap), (13, .slice (some ⟨q, 0, none⟩) x.length x.length)] [.cell ⟨b, 1, none⟩ (.slice ao n cap)] (At.cell u3 rfl) ?_
 have hz7 := Mod.size v6
 refine reg_append ao n cap ⟨q, 0, none⟩ x.length x.length 5 (some 14) 1 1 (b0 := b0) (xs := (Lib.byteCells bs)) (news := (Lib.byteCells x)) (by kernel_rfl) ho5 (by decide) (by simp [Lib.byteCells]) (at_bytes u4) (byteCells_one _) (by omega) (by omega) ?_
 intro ao8 cap9 w10 ho11 v12 hne13
 have u14 := At.keep u3 v12 (own_off ho5 u3 rfl)
 have v15 := Mod.fresh' v6 v12 (fun x hx => Or.inl (by simp [hx]))
 refine zs 2 [(1, .slice (some ⟨q, 0, none⟩) x.length x.length), (14, .slice ao8 (n + x.length) cap9), (16, .pointer (some ⟨b, 1, none⟩))] ?_
 refine reg_store b 1 (.slice ao8 (n + x.length) cap9) none (by kernel_rfl) u14 (Nat.le_of_ble_eq_true rfl) rfl ?_
 intro w16 hu17
 have u18 : At w16 b (.cells (#[pz b, .slice ao8 (n + x.length) cap9]) 150 (0, 0)) := hu17.at_
 have ho19 := Own.keep ho11 hu17.mod (Own.sep ho11 u14 rfl)
 have v20 := Mod.fresh' v15 hu17.mod (by simp <;> omega)
 refine zx ?_
 refine zs 4 [iz 4 ((x.length : Nat) : Int), (5, .nilIface)] ?_
 refine zz ?_
 refine w_ret ?_
 exact ret2 Tryz.results203 rfl rfl (⟨ao8, cap9, rfl, v20, u18, Own.cast ho19 rfl (by simp [Lib.byteCells])⟩)
theorem Mod.of_below' {w0 w w' : World} (h0 : Mod [] w0 w) (h : Below w0.heap.size w w') : Mod [] w0 w' :=
 ⟨h.os.trans h0.os, h.tape.trans h0.tape, h.output.trans h0.output, Nat.le_trans h0.size h.size, fun k hk _ => (h.block k hk).trans (h0.block k hk (by simp))⟩
theorem cGrow {w0 w : World} {b : Nat} (n : Nat) (h0 : Mod [] w0 w) (hb : At w b (.cells #[.pointer none, .slice none 0 0] 150 (0, 0))) (hB : w0.heap.size ≤ b) (hn : n ≤ 1000) :
  Calls Tryz.prog 112 #[pz b, .int .i64 n] w (fun e w' => ∃ ao cap, e = .returned (.tuple #[]) ∧ Mod [] w0 w' ∧ At w' b (.cells #[pz b, .slice ao 0 cap] 150 (0, 0)) ∧ Own w' w0.heap.size 5 1 ao 0 cap []) :=
 (Tryz.Builder_Grow_fresh w0.heap.size b n w hB hb h0.size (by omega)).mono fun e w' ⟨he, ⟨_, v, hv, hown, _⟩, hbl⟩ => by
  rcases hown.2 with ⟨h1, h2⟩ | ⟨g, cap, cur, h1, h2⟩
  ·subst h1; exact ⟨none, 0, he, h0.of_below' hbl, hv, hown⟩
  ·subst h1; exact ⟨_, cap, he, h0.of_below' hbl, hv, hown⟩
theorem isBuilder {w0 w : World} {b : Nat} {bs : List UInt8} {ao : Option Addr} {cap : Nat} (hb : At w b (.cells #[pz b, .slice ao bs.length cap] 150 (0, 0))) (ho : Own w w0.heap.size 5 1 ao bs.length cap (Lib.byteCells bs)) (hB : w0.heap.size ≤ b) :
  Lib.IsBuilder 150 5 w0.heap.size b (Lib.byteCells bs) w := by
 refine .inr ⟨hB, .slice ao bs.length cap, hb, by simpa [Lib.byteCells, Own] using ho, fun e => ?_⟩
 cases ao with
 | none => cases e
 | some a =>
  have := Own.sep ho hb rfl a.block (by simp [blk])
  simp only [Value.ownBlock, Option.some.injEq] at e
  exact this (by simp [e])
theorem cString {w0 w : World} {b n : Nat} {bs : List UInt8} {ao : Option Addr} {cap : Nat} (h0 : Mod [] w0 w) (hb : At w b (.cells #[pz b, .slice ao n cap] 150 (0, 0))) (ho : Own w w0.heap.size 5 1 ao n cap (Lib.byteCells bs)) (hB : w0.heap.size ≤ b) :
  Calls Tryz.prog 115 #[pz b] w (fun e w' => e = .returned (.string ⟨bs.toArray⟩) ∧ Mod [] w0 w') := by
 have hn : n = bs.length := by have := ho.len; simp [Lib.byteCells] at this; omega
 subst hn
 exact (Tryz.Builder_String_any w0.heap.size b bs w (isBuilder hb ho hB) h0.size).mono fun e w' h => ⟨h.1, h0.of_below' (by first | exact h.2.2 | exact h.2)⟩
def sqBytes (sq : Int) : List UInt8 := [UInt8.ofNat (97 + sqFile sq).toNat, UInt8.ofNat (49 + sqRank sq).toNat]
def promoU (p : Int) : List UInt8 := (promoB p).map fun b => UInt8.ofNat b.toNat
theorem u8_ofNat {x : Int} (h : 0 ≤ x ∧ x < 256) : (((UInt8.ofNat x.toNat).toNat : Nat) : Int) = x := by
 rw [UInt8.toNat_ofNat']; omega
theorem sq_bytes {sq : Int} (h : 0 ≤ sq ∧ sq ≤ 63) : bytesV [97 + sqFile sq, 49 + sqRank sq] = (Lib.byteCells (sqBytes sq)).toArray := by
 have h1 := file_ok h; have h2 := rank_ok h
 simp only [bytesV, Lib.byteCells, sqBytes, List.map_cons, List.map_nil]
 rw [u8_ofNat (by omega), u8_ofNat (by omega)]
theorem promo_bytes (p : Int) : bytesV (promoB p) = (Lib.byteCells (promoU p)).toArray := by
 unfold promoU promoB
 cases (p == (1 : Int)) <;> cases (p == (2 : Int)) <;> cases (p == (3 : Int)) <;> cases (p == (4 : Int)) <;> cases (p == (5 : Int)) <;> rfl
theorem promo_len (p : Int) : (promoB p).length = 1 ∧ (promoU p).length = 1 := by
 unfold promoU promoB
 cases (p == (1 : Int)) <;> cases (p == (2 : Int)) <;> cases (p == (3 : Int)) <;> cases (p == (4 : Int)) <;> cases (p == (5 : Int)) <;> exact ⟨rfl, rfl⟩
def uciB (M : Mv) : List UInt8 := bif M.promo != (0 : Int) then sqBytes M.s1 ++ sqBytes M.s2 ++ promoU M.promo else sqBytes M.s1 ++ sqBytes M.s2
theorem c183 {b : Nat} {w : World} (hb : At w b (.cells #[.pointer none, .slice none 0 0] 150 (0, 0))) :
  Calls Tryz.prog 183 [pz b].toArray w (fun e w' => e = .returned (.tuple #[]) ∧ Mod [b] w w' ∧ At w' b (.cells #[.pointer none, .slice none 0 0] 150 (0, 0))) := by
 have v0 : Mod [b] w w := Mod.refl _ _
 refine enter (n := 8) Tryz.func183 rfl Tryz.ntmps183 rfl ?_
 refine zw ?_
 refine zs 3 [rz 0 b, rz 4 b] ?_
 refine reg_store b 0 (.pointer none) none (by kernel_rfl) hb (Nat.le_of_ble_eq_true rfl) rfl ?_
 intro w1 hu2
 have u3 : At w1 b (.cells (#[.pointer none, .slice none 0 0]) 150 (0, 0)) := hu2.at_
 have v4 := Mod.fresh' v0 hu2.mod (by simp <;> omega)
 refine ze ?_
 refine n_then ?_
 refine w_region ?_
 refine zs 3 [(7, .pointer (some ⟨b, 1, none⟩))] ?_
 refine reg_store b 1 (.slice none 0 0) none (by kernel_rfl) u3 (Nat.le_of_ble_eq_true rfl) rfl ?_
 intro w5 hu6
 have u7 : At w5 b (.cells (#[.pointer none, .slice none 0 0]) 150 (0, 0)) := hu6.at_
 have v8 := Mod.fresh' v4 hu6.mod (by simp <;> omega)
 refine ze ?_
 exact end0 Tryz.results183 (⟨rfl, v8, u7⟩)
theorem c201 {m : Nat} {pos : Value} {M : Mv} {w : World} (hm : At w m (.cells (mvCells pos M) 98 (0, 0))) (x : Value) (hr : MvOk M) :
  Calls Tryz.prog 201 [.agg (#[]), x, pz m].toArray w (fun e w' => e = .returned (.string ⟨(uciB M).toArray⟩) ∧ Mod [] w w') := by
 have v0 : Mod [] w w := Mod.refl _ _
 refine enter (n := 33) Tryz.func201 rfl Tryz.ntmps201 rfl ?_
 refine zw ?_
 refine reg_alloc (#[]) 91 (some 3) (by kernel_rfl) ?_
 intro b1 w2 hn3
 have hb4 := Nat.le_trans v0.size hn3.base
 have v5 := hn3.mod
 have v7 := zt v0 v5
 refine zs 1 [rz 2 m] ?_
 refine ze ?_
 refine zn ?_
 refine reg_alloc (#[.pointer none, .slice none 0 0]) 150 (some 8) (by kernel_rfl) ?_
 intro b9 w10 hn11
 have hb12 := Nat.le_trans v7.size hn11.base
 have v13 := hn11.mod
 have v16 := zt v7 v13
 have u17 := hn11.at_
 refine zs 1 [rz 2 m, rz 7 b9] ?_
 refine ze ?_
 refine zn ?_
 refine zs 1 [rz 2 m, rz 7 b9, rz 9 b9] ?_
 refine reg_call 183 [pz b9] (some 10) (by kernel_rfl) (c183 u17) ?_
 rintro _ w18 ⟨rfl, v19, u20⟩; refine ⟨_, rfl, ?_⟩
 have v23 := Mod.fresh' v16 v19 (by simp <;> omega)
 refine ze ?_
 refine zn ?_
 refine zs 1 [rz 2 m, rz 7 b9, rz 11 b9] ?_
 refine reg_call 112 [pz b9, .int .i64 5] (some 12) (by kernel_rfl) (cGrow 5 v23 u20 (by omega) (by omega)) ?_
 rintro _ w24 ⟨ao26, cap27, rfl, v25, u28, ho29⟩; refine ⟨_, rfl, ?_⟩
 have u30 := At.on hm v25
 refine ze ?_
 refine zn ?_
 refine zs 2 [rz 2 m, rz 7 b9, rz 13 b9, rz 14 m] ?_
 refine reg_call 58 [pz m] (some 15) (by kernel_rfl) (c58 u30 ) ?_
 rintro _ w31 ⟨rfl, v32⟩; refine ⟨_, rfl, ?_⟩
 have u34 := At.on u28 v32
 have he35 := Own.on ho29 v32
 have v36 := zt v25 v32
 refine reg_call 204 [.int .i8 M.s1] (some 16) (by kernel_rfl) (c204 M.s1 hr.s1) ?_
 rintro _ w37 ⟨q39, rfl, v38, u40, hb41⟩; refine ⟨_, rfl, ?_⟩
 have hb42 := Nat.le_trans v36.size hb41
 have u44 := At.on u34 v38
 have he45 := Own.on he35 v38
 have v46 := zt v36 v38
 have u47 : At w37 q39 (.cells (Lib.byteCells (sqBytes M.s1)).toArray 5 (0, 0)) := (sq_bytes hr.s1) ▸ u40
 refine reg_call 203 [pz b9, .slice (some ⟨q39, 0, none⟩) 2 2] (some 17) (by kernel_rfl) (c203 u44 (bs := []) he45 (sqBytes M.s1) u47 (by simp [sqBytes, promo_len]) (by have := v46.size; omega)) ?_
 rintro _ w48 ⟨ao50, cap51, rfl, v49, u52, ho53⟩; refine ⟨_, rfl, ?_⟩
 have v54 := Mod.fresh' v46 v49 (fun y hy => Or.inr ((List.mem_cons.1 hy).elim (fun e => by omega) (fun h => (Own.lt he45 y h).1)))
 have u55 := At.on hm v54
 refine ze ?_
 refine zn ?_
 refine zs 2 [rz 2 m, rz 7 b9, rz 18 b9, rz 19 m] ?_
 refine reg_call 59 [pz m] (some 20) (by kernel_rfl) (c59 u55 ) ?_
 rintro _ w56 ⟨rfl, v57⟩; refine ⟨_, rfl, ?_⟩
 have u59 := At.on u52 v57
 have he60 := Own.on ho53 v57
 have v61 := zt v54 v57
 refine reg_call 204 [.int .i8 M.s2] (some 21) (by kernel_rfl) (c204 M.s2 hr.s2) ?_
 rintro _ w62 ⟨q64, rfl, v63, u65, hb66⟩; refine ⟨_, rfl, ?_⟩
 have hb67 := Nat.le_trans v61.size hb66
 have u69 := At.on u59 v63
 have he70 := Own.on he60 v63
 have v71 := zt v61 v63
 have u72 : At w62 q64 (.cells (Lib.byteCells (sqBytes M.s2)).toArray 5 (0, 0)) := (sq_bytes hr.s2) ▸ u65
 refine reg_call 203 [pz b9, .slice (some ⟨q64, 0, none⟩) 2 2] (some 22) (by kernel_rfl) (c203 u69 (bs := ([] ++ (sqBytes M.s1))) he70 (sqBytes M.s2) u72 (by simp [sqBytes, promo_len]) (by have := v71.size; omega)) ?_
 rintro _ w73 ⟨ao75, cap76, rfl, v74, u77, ho78⟩; refine ⟨_, rfl, ?_⟩
 have v79 := Mod.fresh' v71 v74 (fun y hy => Or.inr ((List.mem_cons.1 hy).elim (fun e => by omega) (fun h => (Own.lt he70 y h).1)))
 have u80 := At.on hm v79
 refine ze ?_
 refine n_then ?_
 refine w_seq ?_
 refine zw ?_
 refine zs 1 [rz 2 m, rz 7 b9, rz 23 m] ?_
 refine reg_call 60 [pz m] (some 24) (by kernel_rfl) (c60 u80 ) ?_
 rintro _ w81 ⟨rfl, v82⟩; refine ⟨_, rfl, ?_⟩
 have u83 := At.on u80 v82
 have u84 := At.on u77 v82
 have he85 := Own.on ho78 v82
 have v86 := zt v79 v82
 refine zs 1 [rz 2 m, rz 7 b9, (25, .bool (M.promo != 0))] ?_
 refine ze ?_
 refine n_then ?_
 refine w_cond rfl (fun hc87 => ?_) (fun hc87 => ?_)
 ·have hpp : 1 ≤ M.promo ∧ M.promo ≤ 5 := by have := hr.promo; have := bne_iff_ne.1 hc87; omega
  refine w_region ?_
  refine zs 2 [rz 7 b9, rz 26 b9, rz 27 m] ?_
  refine reg_call 60 [pz m] (some 28) (by kernel_rfl) (c60 u83 ) ?_
  rintro _ w88 ⟨rfl, v89⟩; refine ⟨_, rfl, ?_⟩
  have u91 := At.on u84 v89
  have he92 := Own.on he85 v89
  have v93 := zt v86 v89
  refine reg_call 205 [.int .i8 M.promo] (some 29) (by kernel_rfl) (c205 M.promo hpp) ?_
  rintro _ w94 ⟨q96, rfl, v95, u97, hb98⟩; refine ⟨_, rfl, ?_⟩
  have hb99 := Nat.le_trans v93.size hb98
  have u101 := At.on u91 v95
  have he102 := Own.on he92 v95
  have v103 := zt v93 v95
  have u104 : At w94 q96 (.cells (Lib.byteCells (promoU M.promo)).toArray 5 (0, 0)) := (promo_bytes M.promo) ▸ u97
  rw [show (promoB M.promo).length = (promoU M.promo).length from by rw [(promo_len _).1, (promo_len _).2]]
  refine reg_call 203 [pz b9, .slice (some ⟨q96, 0, none⟩) ((promoU M.promo).length) ((promoU M.promo).length)] (some 30) (by kernel_rfl) (c203 u101 (bs := (([] ++ (sqBytes M.s1)) ++ (sqBytes M.s2))) he102 (promoU M.promo) u104 (by simp [sqBytes, promo_len]) (by have := v103.size; omega)) ?_
  rintro _ w105 ⟨ao107, cap108, rfl, v106, u109, ho110⟩; refine ⟨_, rfl, ?_⟩
  have v111 := Mod.fresh' v103 v106 (fun y hy => Or.inr ((List.mem_cons.1 hy).elim (fun e => by omega) (fun h => (Own.lt he102 y h).1)))
  refine ze ?_
  refine zn ?_
  refine zs 1 [rz 31 b9] ?_
  refine reg_call 115 [pz b9] (some 32) (by kernel_rfl) (cString (bs := ((([] ++ (sqBytes M.s1)) ++ (sqBytes M.s2)) ++ (promoU M.promo))) v111 u109 ho110 (by omega)) ?_
  rintro _ w113 ⟨rfl, v114⟩; refine ⟨_, rfl, ?_⟩
  refine zs 1 [(6, .string (⟨(((([] ++ (sqBytes M.s1)) ++ (sqBytes M.s2)) ++ (promoU M.promo))).toArray⟩))] ?_
  refine ze ?_
  refine n_then ?_
  refine w_ret ?_
  exact ret1 Tryz.results201 rfl (⟨by simp only [uciB, hc87, cond_true, cond_false, List.nil_append], v114⟩)
 refine w_skip ?_
 refine zn ?_
 refine zs 1 [rz 31 b9] ?_
 refine reg_call 115 [pz b9] (some 32) (by kernel_rfl) (cString (bs := (([] ++ (sqBytes M.s1)) ++ (sqBytes M.s2))) v86 u84 he85 (by omega)) ?_
 rintro _ w116 ⟨rfl, v117⟩; refine ⟨_, rfl, ?_⟩
 refine zs 1 [(6, .string (⟨((([] ++ (sqBytes M.s1)) ++ (sqBytes M.s2))).toArray⟩))] ?_
 refine ze ?_
 refine n_then ?_
 refine w_ret ?_
 exact ret1 Tryz.results201 rfl (⟨by simp only [uciB, hc87, cond_true, cond_false, List.nil_append], v117⟩)
def remL (x : UInt8) (l : List UInt8) : List UInt8 := l.filter fun b => b != x
def remB (x : UInt8) (s : ByteArray) : ByteArray := ⟨(remL x s.data.toList).toArray⟩
theorem dlen (s : ByteArray) : s.data.toList.length = s.size := by rw [Array.length_toList]; rfl
theorem ext_size (s : ByteArray) (a b : Nat) : (s.extract a b).size = ((s.data.toList.drop a).take (b - a)).length := by rw [← dlen, Lib.extract_data]
theorem subAt_one {s : ByteArray} {x : UInt8} {i : Int} (h : 0 ≤ i) (h2 : i + 1 ≤ (s.size : Int)) : subAt s ⟨#[x]⟩ i = true ↔ s.data.toList[i.toNat]? = some x := by
 have hlt : i.toNat < s.data.toList.length := by
  have := dlen s
  omega
 unfold subAt
 rw [Lib.extract_toList, ByteArray.toList_eq]
 have e1 : i.toNat + (ByteArray.mk #[x]).size - i.toNat = 1 := by show i.toNat + 1 - i.toNat = 1; omega
 rw [e1, List.drop_eq_getElem_cons hlt, List.getElem?_eq_getElem hlt]
 simp
theorem remL_none {x : UInt8} {l : List UInt8} (h : ∀ i : Nat, i < l.length → l[i]? ≠ some x) : remL x l = l := by
 unfold remL
 rw [List.filter_eq_self]
 intro b hb
 obtain ⟨i, hi, rfl⟩ := List.getElem_of_mem hb
 have := h i hi
 rw [List.getElem?_eq_getElem hi] at this
 simpa using this
theorem idx_none {s : ByteArray} {x : UInt8} {r : Int} (h : IdxOf s ⟨#[x]⟩ r) (hr : r < 0) : remL x s.data.toList = s.data.toList := by
 rcases h with ⟨h0, _⟩ | ⟨_, h⟩
 ·omega
 refine remL_none fun i hi => ?_
 have hl := dlen s
 have h1 := h (i : Int) (by omega) (by show (i : Int) + ((1 : Nat) : Int) ≤ _; omega)
 have h2 := subAt_one (s := s) (x := x) (i := (i : Int)) (by omega) (by omega)
 intro e
 have := h2.2 (by simpa using e)
 rw [h1] at this; cases this
theorem idx_some {s : ByteArray} {x : UInt8} {r : Int} (h : IdxOf s ⟨#[x]⟩ r) (hr : 0 ≤ r) : r + 1 ≤ (s.size : Int) ∧ remL x s.data.toList = s.data.toList.take r.toNat ++ remL x (s.data.toList.drop (r.toNat + 1)) := by
 rcases h with ⟨_, h1, h2, h3⟩ | ⟨h0, _⟩
 ·have h1' : r + 1 ≤ (s.size : Int) := h1
  refine ⟨h1', ?_⟩
  have hl := dlen s
  have hx := (subAt_one (s := s) (x := x) hr h1').1 h2
  have hlt : r.toNat < s.data.toList.length := by omega
  have hd : s.data.toList.drop r.toNat = x :: s.data.toList.drop (r.toNat + 1) := by
   rw [List.drop_eq_getElem_cons hlt]
   rw [List.getElem?_eq_getElem hlt] at hx
   rw [Option.some.inj hx]
  have ht : remL x (s.data.toList.take r.toNat) = s.data.toList.take r.toNat := by
   refine remL_none fun i hi => ?_
   have hi' : i < r.toNat := by simp at hi; omega
   have hf := h3 (i : Int) (by omega) (by omega)
   intro e
   rw [List.getElem?_take_of_lt hi'] at e
   have := (subAt_one (s := s) (x := x) (i := (i : Int)) (by omega) (by omega)).2 (by simpa using e)
   rw [hf] at this; cases this
  conv => lhs; rw [← List.take_append_drop r.toNat s.data.toList]
  unfold remL at *
  rw [List.filter_append, hd, List.filter_cons, ht]
  simp
 omega
theorem c96 {w : World} (s : ByteArray) (x : UInt8) (hs : s.size ≤ 1000) :
  Calls Tryz.prog 96 [.string s, .string (⟨#[x]⟩), .string (⟨#[]⟩)].toArray w (fun e w' => e = .returned (.string (remB x s)) ∧ Mod [] w w') := by
 have v0 : Mod [] w w := Mod.refl _ _
 refine enter (n := 67) Tryz.func96 rfl Tryz.ntmps96 rfl ?_
 refine zw ?_
 refine zs 1 [(0, .string s), (1, .string (⟨#[x]⟩)), (2, .string (⟨#[]⟩))] ?_
 refine zx ?_
 refine zs 1 [(0, .string s), (1, .string (⟨#[x]⟩)), (2, .string (⟨#[]⟩)), (7, .slice none 0 0)] ?_
 refine zz ?_
 refine w_seq ?_
 refine zw ?_
 refine zs 3 [(0, .string s), (1, .string (⟨#[x]⟩)), (2, .string (⟨#[]⟩)), (7, .slice none 0 0), (13, .bool ((((⟨#[x]⟩ : ByteArray).size : Nat) : Int) == 0))] ?_
 refine zz ?_
 have hc1 : ((((⟨#[x]⟩ : ByteArray).size : Nat) : Int) == 0) = false := rfl
 refine w_cond (b := ((((⟨#[x]⟩ : ByteArray).size : Nat) : Int) == 0)) rfl (fun hx => absurd (hc1.symm.trans hx) (by decide)) (fun _ => ?_)
 refine w_skip ?_
 refine n_then ?_
 refine w_block ?_
 refine w_loop (γ := ByteArray × List UInt8 × Option Addr × Nat) (fun q6 => q6.1.size) (fun q6 => [(0, .string q6.1), (1, .string (⟨#[x]⟩)), (2, .string (⟨#[]⟩)), (7, .slice q6.2.2.1 q6.2.1.length q6.2.2.2)]) (fun (q6 : ByteArray × List UInt8 × Option Addr × Nat) w_ => q6.1.size ≤ s.size ∧ Mod [] w w_ ∧ Own w_ w.heap.size 5 1 q6.2.2.1 q6.2.1.length q6.2.2.2 (Lib.byteCells q6.2.1) ∧ q6.2.1 ++ remL x q6.1.data.toList = remL x s.data.toList) (s, [], none, 0) (hold_keep [0, 1, 2, 7] (by kernel_rfl)) ⟨Nat.le_refl _, v0, Own.nil _ _ _ _, rfl⟩ ?_
 rintro ⟨rest2, out3, ao4, cap5⟩ w7 ⟨hs11, v8, ho9, hx10⟩
 replace hs11 : rest2.size ≤ s.size := hs11
 replace ho9 : Own w7 w.heap.size 5 1 ao4 out3.length cap5 (Lib.byteCells out3) := ho9
 replace hx10 : out3 ++ remL x rest2.data.toList = remL x s.data.toList := hx10
 have hs1 : rest2.size ≤ 1000 := Nat.le_trans hs11 hs
 have hon : out3.length ≤ 1000 := by
  have h1 : (out3 ++ remL x rest2.data.toList).length = (remL x s.data.toList).length := by rw [hx10]
  have h2 : (remL x s.data.toList).length ≤ s.data.toList.length := List.length_filter_le _ _
  have h3 := dlen s
  rw [List.length_append] at h1; omega
 refine w_block ?_
 refine zw ?_
 refine zs 2 [(0, .string rest2), (1, .string (⟨#[x]⟩)), (2, .string (⟨#[]⟩)), (7, .slice ao4 out3.length cap5), (45, .string rest2), (46, .string (⟨#[x]⟩))] ?_
 refine reg_call 118 [.string rest2, .string (⟨#[x]⟩)] (some 47) (by kernel_rfl) (c118 rest2 (⟨#[x]⟩ : ByteArray) (by omega) (by show 1 ≤ 1000000; omega)) ?_
 rintro _ w12 ⟨r14, rfl, hr15, hi16, v13⟩; refine ⟨_, rfl, ?_⟩
 have he17 := Own.on ho9 v13
 have v18 := zt v8 v13
 refine zs 1 [(0, .string rest2), (1, .string (⟨#[x]⟩)), (2, .string (⟨#[]⟩)), (7, .slice ao4 out3.length cap5), iz 10 r14] ?_
 refine zz ?_
 refine w_seq ?_
 refine zw ?_
 refine zs 2 [(0, .string rest2), (1, .string (⟨#[x]⟩)), (2, .string (⟨#[]⟩)), (7, .slice ao4 out3.length cap5), iz 10 r14, (49, .bool (decide (r14 < 0)))] ?_
 refine zz ?_
 refine zc (fun hc19 => ?_) fun hc19 => ?_
 ·have y19 := of_decide_eq_true hc19
  refine zw ?_
  refine zs 2 [(50, .slice ao4 out3.length cap5), (51, .string rest2)] ?_
  have hz25 := Mod.size v18
  refine reg_append_str ao4 out3.length cap5 rest2 5 (some 52) (by kernel_rfl) he17 (by omega) (by omega) ?_
  intro ao20 cap21 w22 ho23 v24
  have v26 := Mod.fresh' v18 v24 (fun y hy => Or.inr (Own.lt he17 y hy).1)
  have hsl := dlen rest2
  have ho27 := Own.cast ho23 (xs' := Lib.byteCells (out3 ++ rest2.data.toList)) rfl (by simp only [Lib.strCells, Lib.byteCells, List.map_append])
  refine reg_b2s ao20 (out3.length + rest2.size) cap21 (out3 ++ rest2.data.toList) (some 53) 5 (by kernel_rfl) ho27 ?_
  refine zs 1 [(6, .string (⟨(out3 ++ rest2.data.toList).toArray⟩))] ?_
  refine zz ?_
  refine w_ret ?_
  refine r_then ?_
  refine r_block ?_
  refine r_then ?_
  refine r_block ?_
  exact ret1 rfl rfl (⟨(by unfold remB; rw [← hx10, idx_none hi16 (by omega)]), v26⟩)
 have y19 := of_decide_eq_false hc19
 refine w_skip ?_
 refine n_then ?_
 refine w_seq ?_
 have hir := (idx_some hi16 (by omega)).1
 have hx1 : (rest2.extract 0 r14.toNat).size ≤ rest2.size := by rw [ext_size]; have := dlen rest2; simp only [List.drop_zero, List.length_take]; omega
 have hz0 : (⟨#[]⟩ : ByteArray).size = 0 := rfl
 have hwr0 : IntKind.i64.wrap (r14 + (((⟨#[x]⟩ : ByteArray).size : Nat) : Int)) = r14 + 1 := i64_in' (by show _ ≤ r14 + ((1 : Nat) : Int); omega) (by show r14 + ((1 : Nat) : Int) ≤ _; omega)
 refine w_region ?_
 refine zo 4 [(0, .string rest2), (1, .string (⟨#[x]⟩)), (2, .string (⟨#[]⟩)), iz 10 r14, (54, .slice ao4 out3.length cap5), (57, .string (rest2.extract 0 r14.toNat))] [.prop (0 ≤ r14 ∧ r14 ≤ ((rest2.size : Nat) : Int))] (zh (by omega)) ?_
 have hz33 := Mod.size v18
 refine reg_append_str ao4 out3.length cap5 (rest2.extract 0 r14.toNat) 5 (some 58) (by kernel_rfl) he17 (by omega) (by omega) ?_
 intro ao28 cap29 w30 ho31 v32
 have v34 := Mod.fresh' v18 v32 (fun y hy => Or.inr (Own.lt he17 y hy).1)
 refine zs 1 [(0, .string rest2), (1, .string (⟨#[x]⟩)), (2, .string (⟨#[]⟩)), iz 10 r14, (58, .slice ao28 (out3.length + (rest2.extract 0 r14.toNat).size) cap29), (59, .string (⟨#[]⟩))] ?_
 have hz40 := Mod.size v34
 refine reg_append_str ao28 (out3.length + (rest2.extract 0 r14.toNat).size) cap29 (⟨#[]⟩ : ByteArray) 5 (some 60) (by kernel_rfl) ho31 (by omega) (by omega) ?_
 intro ao35 cap36 w37 ho38 v39
 have v41 := Mod.fresh' v34 v39 (fun y hy => Or.inr (Own.lt ho31 y hy).1)
 refine zs 1 [(0, .string rest2), (1, .string (⟨#[x]⟩)), (2, .string (⟨#[]⟩)), (7, .slice ao35 ((out3.length + (rest2.extract 0 r14.toNat).size) + (⟨#[]⟩ : ByteArray).size) cap36), iz 10 r14] ?_
 refine zz ?_
 refine w_region ?_
 refine zo 7 [(0, .string (rest2.extract (IntKind.i64.wrap (r14 + (((⟨#[x]⟩ : ByteArray).size : Nat) : Int))).toNat rest2.size)), (1, .string (⟨#[x]⟩)), (2, .string (⟨#[]⟩)), (7, .slice ao35 ((out3.length + (rest2.extract 0 r14.toNat).size) + (⟨#[]⟩ : ByteArray).size) cap36)] [.prop (0 ≤ (IntKind.i64.wrap (r14 + (((⟨#[x]⟩ : ByteArray).size : Nat) : Int))) ∧ (IntKind.i64.wrap (r14 + (((⟨#[x]⟩ : ByteArray).size : Nat) : Int))) ≤ ((rest2.size : Nat) : Int))] (zh (by omega)) ?_
 refine ze ?_
 refine n_block ?_
 obtain ⟨hr1, hq42⟩ := idx_some hi16 (by omega)
 have hts : (rest2.extract 0 r14.toNat).data.toList = rest2.data.toList.take r14.toNat := by rw [Lib.extract_data]; simp
 have hsx : (rest2.extract 0 r14.toNat).size = (rest2.data.toList.take r14.toNat).length := by rw [← hts, dlen]
 have hln : ((out3.length + (rest2.extract 0 r14.toNat).size) + (⟨#[]⟩ : ByteArray).size) = (out3 ++ rest2.data.toList.take r14.toNat).length := by rw [List.length_append, hsx]; rfl
 have ho43 := Own.cast ho38 (xs' := Lib.byteCells (out3 ++ rest2.data.toList.take r14.toNat)) hln (by simp only [Lib.strCells, Lib.byteCells, hts, List.map_append]; rw [show ((⟨#[]⟩ : ByteArray).data.toList.map fun b => Value.int .u8 b.toNat) = [] from rfl, List.append_nil])
 have hdr : ((rest2.extract (IntKind.i64.wrap (r14 + (((⟨#[x]⟩ : ByteArray).size : Nat) : Int))).toNat rest2.size)).data.toList = rest2.data.toList.drop (r14.toNat + 1) := by rw [Lib.extract_data, hwr0, show (r14 + 1).toNat = r14.toNat + 1 from by omega]; apply List.take_of_length_le; rw [List.length_drop, dlen]; omega
 have hsd : ((rest2.extract (IntKind.i64.wrap (r14 + (((⟨#[x]⟩ : ByteArray).size : Nat) : Int))).toNat rest2.size)).size < rest2.size := by
  have h1 := dlen ((rest2.extract (IntKind.i64.wrap (r14 + (((⟨#[x]⟩ : ByteArray).size : Nat) : Int))).toNat rest2.size))
  have h2 := dlen rest2
  rw [hdr, List.length_drop] at h1; omega
 rw [hln]
 exact l_back ((rest2.extract (IntKind.i64.wrap (r14 + (((⟨#[x]⟩ : ByteArray).size : Nat) : Int))).toNat rest2.size), (out3 ++ rest2.data.toList.take r14.toNat), ao35, cap36) [0, 1, 2, 7] (by kernel_rfl) hsd ⟨by dsimp only; omega, v41, ho43, (by dsimp only; rw [hdr, List.append_assoc, ← hq42]; exact hx10)⟩
theorem remB_size (x : UInt8) (s : ByteArray) : (remB x s).size ≤ s.size := by
 rw [← dlen, ← dlen]
 show (s.data.toList.filter fun b => b != x).length ≤ s.data.toList.length
 exact List.length_filter_le _ _
def ncr1 (B : Bd) (S : Ps) (M : Mv) : ByteArray := bif (((pieceAt B M.s1) == (1 : Int)) || (M.s1 == (7 : Int))) || (M.s2 == (7 : Int)) then remB 75 S.castle else S.castle
def ncr2 (B : Bd) (S : Ps) (M : Mv) : ByteArray := bif (((pieceAt B M.s1) == (1 : Int)) || (M.s1 == (0 : Int))) || (M.s2 == (0 : Int)) then remB 81 (ncr1 B S M) else (ncr1 B S M)
def ncr3 (B : Bd) (S : Ps) (M : Mv) : ByteArray := bif (((pieceAt B M.s1) == (7 : Int)) || (M.s1 == (63 : Int))) || (M.s2 == (63 : Int)) then remB 107 (ncr2 B S M) else (ncr2 B S M)
def ncr4 (B : Bd) (S : Ps) (M : Mv) : ByteArray := bif (((pieceAt B M.s1) == (7 : Int)) || (M.s1 == (56 : Int))) || (M.s2 == (56 : Int)) then remB 113 (ncr3 B S M) else (ncr3 B S M)
def ncr (B : Bd) (S : Ps) (M : Mv) : ByteArray := bif (ncr4 B S M).toList == (⟨#[]⟩ : ByteArray).toList then ⟨#[45]⟩ else ncr4 B S M
theorem bif_size {c : Bool} {x : UInt8} {s : ByteArray} {n : Nat} (h : s.size ≤ n) : (bif c then remB x s else s).size ≤ n := by
 cases c
 ·exact h
 exact Nat.le_trans (remB_size x s) h
theorem ncr1_size {B : Bd} {S : Ps} {M : Mv} {n : Nat} (h : S.castle.size ≤ n) : (ncr1 B S M).size ≤ n := bif_size h
theorem ncr2_size {B : Bd} {S : Ps} {M : Mv} {n : Nat} (h : S.castle.size ≤ n) : (ncr2 B S M).size ≤ n := bif_size (ncr1_size h)
theorem ncr3_size {B : Bd} {S : Ps} {M : Mv} {n : Nat} (h : S.castle.size ≤ n) : (ncr3 B S M).size ≤ n := bif_size (ncr2_size h)
def newEP (B : Bd) (S : Ps) (M : Mv) : Int :=
 bif pType (pieceAt B M.s1) != (6 : Int) then (-1 : Int) else
 bif ((S.turn == (1 : Int)) && ((band (bbSq M.s1) (71776119061217280 : Int)) != (0 : Int))) && ((band (bbSq M.s2) (1095216660480 : Int)) != (0 : Int)) then IntKind.i8.wrap (M.s2 - (8 : Int)) else
 bif ((S.turn == (2 : Int)) && ((band (bbSq M.s1) (65280 : Int)) != (0 : Int))) && ((band (bbSq M.s2) (4278190080 : Int)) != (0 : Int)) then IntKind.i8.wrap (M.s2 + (8 : Int)) else (-1 : Int)
def newHalf (B : Bd) (S : Ps) (M : Mv) : Int := bif ((pType (pieceAt B M.s1)) == (6 : Int)) || (hasTag M (4 : Int)) then (0 : Int) else IntKind.i64.wrap (S.half + (1 : Int))
def newFull (S : Ps) : Int := bif S.turn == (2 : Int) then IntKind.i64.wrap (S.full + (1 : Int)) else S.full
def nextPs (B : Bd) (S : Ps) (M : Mv) : Ps := ⟨updB B M, ncr B S M, newHalf B S M, newFull S, otherC S.turn, newEP B S M, hasTag M (16 : Int)⟩
theorem c71 {c : GC} {p b : Nat} {vm : Value} {S : Ps} {w : World} (hp : At w p (.cells (psCells b vm S) 110 (0, 0))) {B : Bd} (hb : At w b (.cells (bdCells B) 135 (0, 0))) {m : Nat} {pos : Value} {M : Mv} (hm : At w m (.cells (mvCells pos M) 98 (0, 0))) (hG : Glob c w) (hcs : S.castle.size ≤ 1000) :
  Calls Tryz.prog 71 [pz p, pz m].toArray w (fun e w' => e = .returned (.string (ncr B S M)) ∧ Mod [] w w') := by
 have v0 : Mod [] w w := Mod.refl _ _
 refine enter (n := 95) Tryz.func71 rfl Tryz.ntmps71 rfl ?_
 refine zw ?_
 refine zs 1 [rz 0 p, rz 1 m] ?_
 refine zx ?_
 refine zo 5 [rz 0 p, rz 1 m, (5, .string S.castle)] [.cell ⟨p, 1, none⟩ (.string S.castle)] (At.cell hp rfl) ?_
 refine zz ?_
 refine w_seq ?_
 refine w_quiet (by kernel_rfl) (by kernel_rfl) ?_
 refine zqo 8 [rz 1 m, (5, .string S.castle), rz 14 b, (18, .int .i8 M.s1)] [.cell ⟨p, 0, none⟩ (pz b), .cell ⟨m, 8, none⟩ (.int .i8 M.s1)] (fun _ hC => ⟨At.cell (At.on hp hC) rfl, At.cell (At.on hm hC) rfl⟩) ?_
 refine zqk (some 19) (fun w_ hC => c72 (At.on hb hC) (Glob.on hG hC) M.s1) ?_
 refine zq 1 [rz 1 m, (5, .string S.castle), (6, .int .i8 (pieceAt B M.s1))] ?_
 refine q_out (by kernel_rfl) ?_
 intro w1 v2
 have u5 := At.on hm v2
 have v7 := zt v0 v2
 refine n_then ?_
 refine w_cut (γ := ByteArray) (fun g8 => [(1, pz m), (5, .string g8), (6, .int .i8 (pieceAt B M.s1))]) (fun g8 w_ => Mod [] w1 w_ ∧ g8 = (ncr1 B S M)) ?_ ?_
 ·have v11 : Mod [] w1 w1 := Mod.refl _ _
  refine w_cut (γ := Unit) (fun _ => [(1, pz m), (5, .string S.castle), (6, .int .i8 (pieceAt B M.s1)), (35, .bool ((((pieceAt B M.s1) == 1) || (M.s1 == 7)) || (M.s2 == 7)))]) (fun _ w_ => Mod [] w1 w_) ?_ ?_
  ·have v14 : Mod [] w1 w1 := Mod.refl _ _
   refine w_region ?_
   refine zs 3 [rz 1 m, (5, .string S.castle), (6, .int .i8 (pieceAt B M.s1)), (22, .bool ((pieceAt B M.s1) == 1))] ?_
   cases hc15 : ((pieceAt B M.s1) == (1 : Int))
   ·refine zo 7 [rz 1 m, (5, .string S.castle), (6, .int .i8 (pieceAt B M.s1)), (29, .bool (M.s1 == 7))] [.cell ⟨m, 8, none⟩ (.int .i8 M.s1)] (At.cell u5 rfl) ?_
    cases hc16 : (M.s1 == (7 : Int))
    ·refine zo 6 [rz 1 m, (5, .string S.castle), (6, .int .i8 (pieceAt B M.s1)), (35, .bool (M.s2 == 7))] [.cell ⟨m, 9, none⟩ (.int .i8 M.s2)] (At.cell u5 rfl) ?_
     refine ze ?_
     exact zb () v14
    refine zs 6 [rz 1 m, (5, .string S.castle), (6, .int .i8 (pieceAt B M.s1)), (35, .bool true)] ?_
    refine ze ?_
    exact zb () v14
   refine zs 13 [rz 1 m, (5, .string S.castle), (6, .int .i8 (pieceAt B M.s1)), (35, .bool true)] ?_
   refine ze ?_
   exact zb () v14
  intro _ w12 v13
  have v22 := zt v11 v13
  refine zc (fun hc23 => ?_) fun hc23 => ?_
  ·refine w_region ?_
   refine zs 1 [rz 1 m, (6, .int .i8 (pieceAt B M.s1)), (36, .string S.castle)] ?_
   refine zk (some 37) (c96 S.castle 75 (by assumption)) ?_
   intro w24 v25
   have v31 := zt v22 v25
   refine zs 1 [rz 1 m, (5, .string (remB 75 S.castle)), (6, .int .i8 (pieceAt B M.s1))] ?_
   refine ze ?_
   exact c_back (remB 75 S.castle) [1, 5, 6] (by kernel_rfl) ⟨v31, (by simp only [ncr1, hc23, cond_true, cond_false])⟩
  refine w_skip ?_
  exact zb S.castle ⟨v22, (by simp only [ncr1, hc23, cond_true, cond_false])⟩
 rintro _ w9 ⟨v10, rfl⟩
 have u34 := At.on u5 v10
 have v36 := zt v7 v10
 refine w_cut (γ := ByteArray) (fun g37 => [(1, pz m), (5, .string g37), (6, .int .i8 (pieceAt B M.s1))]) (fun g37 w_ => Mod [] w9 w_ ∧ g37 = (ncr2 B S M)) ?_ ?_
 ·have v40 : Mod [] w9 w9 := Mod.refl _ _
  refine w_cut (γ := Unit) (fun _ => [(1, pz m), (5, .string (ncr1 B S M)), (6, .int .i8 (pieceAt B M.s1)), (53, .bool ((((pieceAt B M.s1) == 1) || (M.s1 == 0)) || (M.s2 == 0)))]) (fun _ w_ => Mod [] w9 w_) ?_ ?_
  ·have v43 : Mod [] w9 w9 := Mod.refl _ _
   refine w_region ?_
   refine zs 3 [rz 1 m, (5, .string (ncr1 B S M)), (6, .int .i8 (pieceAt B M.s1)), (40, .bool ((pieceAt B M.s1) == 1))] ?_
   cases hc44 : ((pieceAt B M.s1) == (1 : Int))
   ·refine zo 7 [rz 1 m, (5, .string (ncr1 B S M)), (6, .int .i8 (pieceAt B M.s1)), (47, .bool (M.s1 == 0))] [.cell ⟨m, 8, none⟩ (.int .i8 M.s1)] (At.cell u34 rfl) ?_
    cases hc45 : (M.s1 == (0 : Int))
    ·refine zo 6 [rz 1 m, (5, .string (ncr1 B S M)), (6, .int .i8 (pieceAt B M.s1)), (53, .bool (M.s2 == 0))] [.cell ⟨m, 9, none⟩ (.int .i8 M.s2)] (At.cell u34 rfl) ?_
     refine ze ?_
     exact zb () v43
    refine zs 6 [rz 1 m, (5, .string (ncr1 B S M)), (6, .int .i8 (pieceAt B M.s1)), (53, .bool true)] ?_
    refine ze ?_
    exact zb () v43
   refine zs 13 [rz 1 m, (5, .string (ncr1 B S M)), (6, .int .i8 (pieceAt B M.s1)), (53, .bool true)] ?_
   refine ze ?_
   exact zb () v43
  intro _ w41 v42
  have v51 := zt v40 v42
  refine zc (fun hc52 => ?_) fun hc52 => ?_
  ·have hsz1 : (ncr1 B S M).size ≤ 1000 := ncr1_size hcs
   refine w_region ?_
   refine zs 1 [rz 1 m, (6, .int .i8 (pieceAt B M.s1)), (54, .string (ncr1 B S M))] ?_
   refine zk (some 55) (c96 (ncr1 B S M) 81 (by assumption)) ?_
   intro w53 v54
   have v60 := zt v51 v54
   refine zs 1 [rz 1 m, (5, .string (remB 81 (ncr1 B S M))), (6, .int .i8 (pieceAt B M.s1))] ?_
   refine ze ?_
   exact c_back (remB 81 (ncr1 B S M)) [1, 5, 6] (by kernel_rfl) ⟨v60, (by simp only [ncr2, hc52, cond_true, cond_false])⟩
  refine w_skip ?_
  exact c_back (ncr1 B S M) [1, 5, 6] (by kernel_rfl) ⟨v51, (by simp only [ncr2, hc52, cond_true, cond_false])⟩
 rintro _ w38 ⟨v39, rfl⟩
 have u63 := At.on u34 v39
 have v65 := zt v36 v39
 refine w_cut (γ := ByteArray) (fun g66 => [(1, pz m), (5, .string g66), (6, .int .i8 (pieceAt B M.s1))]) (fun g66 w_ => Mod [] w38 w_ ∧ g66 = (ncr3 B S M)) ?_ ?_
 ·have v69 : Mod [] w38 w38 := Mod.refl _ _
  refine w_cut (γ := Unit) (fun _ => [(1, pz m), (5, .string (ncr2 B S M)), (6, .int .i8 (pieceAt B M.s1)), (71, .bool ((((pieceAt B M.s1) == 7) || (M.s1 == 63)) || (M.s2 == 63)))]) (fun _ w_ => Mod [] w38 w_) ?_ ?_
  ·have v72 : Mod [] w38 w38 := Mod.refl _ _
   refine w_region ?_
   refine zs 3 [rz 1 m, (5, .string (ncr2 B S M)), (6, .int .i8 (pieceAt B M.s1)), (58, .bool ((pieceAt B M.s1) == 7))] ?_
   cases hc73 : ((pieceAt B M.s1) == (7 : Int))
   ·refine zo 7 [rz 1 m, (5, .string (ncr2 B S M)), (6, .int .i8 (pieceAt B M.s1)), (65, .bool (M.s1 == 63))] [.cell ⟨m, 8, none⟩ (.int .i8 M.s1)] (At.cell u63 rfl) ?_
    cases hc74 : (M.s1 == (63 : Int))
    ·refine zo 6 [rz 1 m, (5, .string (ncr2 B S M)), (6, .int .i8 (pieceAt B M.s1)), (71, .bool (M.s2 == 63))] [.cell ⟨m, 9, none⟩ (.int .i8 M.s2)] (At.cell u63 rfl) ?_
     refine ze ?_
     exact zb () v72
    refine zs 6 [rz 1 m, (5, .string (ncr2 B S M)), (6, .int .i8 (pieceAt B M.s1)), (71, .bool true)] ?_
    refine ze ?_
    exact zb () v72
   refine zs 13 [rz 1 m, (5, .string (ncr2 B S M)), (6, .int .i8 (pieceAt B M.s1)), (71, .bool true)] ?_
   refine ze ?_
   exact zb () v72
  intro _ w70 v71
  have v80 := zt v69 v71
  refine zc (fun hc81 => ?_) fun hc81 => ?_
  ·have hsz2 : (ncr2 B S M).size ≤ 1000 := ncr2_size hcs
   refine w_region ?_
   refine zs 1 [rz 1 m, (6, .int .i8 (pieceAt B M.s1)), (72, .string (ncr2 B S M))] ?_
   refine zk (some 73) (c96 (ncr2 B S M) 107 (by assumption)) ?_
   intro w82 v83
   have v89 := zt v80 v83
   refine zs 1 [rz 1 m, (5, .string (remB 107 (ncr2 B S M))), (6, .int .i8 (pieceAt B M.s1))] ?_
   refine ze ?_
   exact c_back (remB 107 (ncr2 B S M)) [1, 5, 6] (by kernel_rfl) ⟨v89, (by simp only [ncr3, hc81, cond_true, cond_false])⟩
  refine w_skip ?_
  exact c_back (ncr2 B S M) [1, 5, 6] (by kernel_rfl) ⟨v80, (by simp only [ncr3, hc81, cond_true, cond_false])⟩
 rintro _ w67 ⟨v68, rfl⟩
 have u92 := At.on u63 v68
 have v94 := zt v65 v68
 refine w_cut (γ := ByteArray) (fun g95 => [(5, .string g95)]) (fun g95 w_ => Mod [] w67 w_ ∧ g95 = (ncr4 B S M)) ?_ ?_
 ·have v98 : Mod [] w67 w67 := Mod.refl _ _
  refine w_cut (γ := Unit) (fun _ => [(5, .string (ncr3 B S M)), (89, .bool ((((pieceAt B M.s1) == 7) || (M.s1 == 56)) || (M.s2 == 56)))]) (fun _ w_ => Mod [] w67 w_) ?_ ?_
  ·have v101 : Mod [] w67 w67 := Mod.refl _ _
   refine w_region ?_
   refine zs 3 [rz 1 m, (5, .string (ncr3 B S M)), (76, .bool ((pieceAt B M.s1) == 7))] ?_
   cases hc102 : ((pieceAt B M.s1) == (7 : Int))
   ·refine zo 7 [rz 1 m, (5, .string (ncr3 B S M)), (83, .bool (M.s1 == 56))] [.cell ⟨m, 8, none⟩ (.int .i8 M.s1)] (At.cell u92 rfl) ?_
    cases hc103 : (M.s1 == (56 : Int))
    ·refine zo 6 [(5, .string (ncr3 B S M)), (89, .bool (M.s2 == 56))] [.cell ⟨m, 9, none⟩ (.int .i8 M.s2)] (At.cell u92 rfl) ?_
     refine ze ?_
     exact zb () v101
    refine zs 6 [(5, .string (ncr3 B S M)), (89, .bool true)] ?_
    refine ze ?_
    exact zb () v101
   refine zs 13 [(5, .string (ncr3 B S M)), (89, .bool true)] ?_
   refine ze ?_
   exact zb () v101
  intro _ w99 v100
  have v109 := zt v98 v100
  refine zc (fun hc110 => ?_) fun hc110 => ?_
  ·have hsz3 : (ncr3 B S M).size ≤ 1000 := ncr3_size hcs
   refine w_region ?_
   refine zs 1 [(90, .string (ncr3 B S M))] ?_
   refine zk (some 91) (c96 (ncr3 B S M) 113 (by assumption)) ?_
   intro w111 v112
   have v118 := zt v109 v112
   refine zs 1 [(5, .string (remB 113 (ncr3 B S M)))] ?_
   refine ze ?_
   exact c_back (remB 113 (ncr3 B S M)) [5] (by kernel_rfl) ⟨v118, (by simp only [ncr4, hc110, cond_true, cond_false])⟩
  refine w_skip ?_
  exact c_back (ncr3 B S M) [5] (by kernel_rfl) ⟨v109, (by simp only [ncr4, hc110, cond_true, cond_false])⟩
 rintro _ w96 ⟨v97, rfl⟩
 have v123 := zt v94 v97
 refine w_cut (γ := ByteArray) (fun g124 => [(5, .string g124)]) (fun g124 w_ => Mod [] w96 w_ ∧ g124 = (ncr B S M)) ?_ ?_
 ·have v127 : Mod [] w96 w96 := Mod.refl _ _
  refine zw ?_
  refine zs 2 [(5, .string (ncr4 B S M)), (93, .bool ((ncr4 B S M).toList == (⟨#[]⟩ : ByteArray).toList))] ?_
  refine zz ?_
  refine zc (fun hc128 => ?_) fun hc128 => ?_
  ·refine w_region ?_
   refine zs 1 [(5, .string (⟨#[45]⟩))] ?_
   refine ze ?_
   exact zb (⟨#[45]⟩) ⟨v127, (by simp only [ncr, hc128, cond_true, cond_false])⟩
  refine w_skip ?_
  exact c_back (ncr4 B S M) [5] (by kernel_rfl) ⟨v127, (by simp only [ncr, hc128, cond_true, cond_false])⟩
 rintro _ w125 ⟨v126, rfl⟩
 have v133 := zt v123 v126
 refine zw ?_
 refine zs 2 [(4, .string (ncr B S M))] ?_
 refine zz ?_
 refine w_ret ?_
 exact ret1 rfl rfl (⟨rfl, v133⟩)
theorem c76 {c : GC} {p b : Nat} {vm : Value} {S : Ps} {w : World} (hp : At w p (.cells (psCells b vm S) 110 (0, 0))) {B : Bd} (hb : At w b (.cells (bdCells B) 135 (0, 0))) {m : Nat} {pos : Value} {M : Mv} (hm : At w m (.cells (mvCells pos M) 98 (0, 0))) (hG : Glob c w) (hs : 0 ≤ M.s1 ∧ M.s1 ≤ 63) (hs2 : 0 ≤ M.s2 ∧ M.s2 ≤ 63) :
  Calls Tryz.prog 76 [pz p, pz m].toArray w (fun e w' => e = .returned (.int .i8 (newEP B S M)) ∧ Mod [] w w') := by
 have v0 : Mod [] w w := Mod.refl _ _
 refine enter (n := 74) Tryz.func76 rfl Tryz.ntmps76 rfl ?_
 refine zw ?_
 refine zs 1 [rz 0 p, rz 1 m] ?_
 refine zz ?_
 refine w_seq ?_
 refine w_quiet (by kernel_rfl) (by kernel_rfl) ?_
 refine zqo 8 [rz 0 p, rz 1 m, rz 9 b, (13, .int .i8 M.s1)] [.cell ⟨p, 0, none⟩ (pz b), .cell ⟨m, 8, none⟩ (.int .i8 M.s1)] (fun _ hC => ⟨At.cell (At.on hp hC) rfl, At.cell (At.on hm hC) rfl⟩) ?_
 refine zqk (some 14) (fun w_ hC => c72 (At.on hb hC) (Glob.on hG hC) M.s1) ?_
 refine zq 1 [rz 0 p, rz 1 m, (5, .int .i8 (pieceAt B M.s1))] ?_
 refine q_out (by kernel_rfl) ?_
 intro w1 v2
 have u3 := At.on hp v2
 have u5 := At.on hm v2
 have v7 := zt v0 v2
 refine n_then ?_
 refine w_seq ?_
 refine zw ?_
 refine zs 1 [rz 0 p, rz 1 m, (15, .int .i8 (pieceAt B M.s1))] ?_
 refine zk (some 16) (c73 (pieceAt B M.s1) w1) ?_
 intro w8 v9
 have u10 := At.on u3 v9
 have u12 := At.on u5 v9
 have v14 := zt v7 v9
 refine zs 1 [rz 0 p, rz 1 m, (17, .bool ((pType (pieceAt B M.s1)) != 6))] ?_
 refine zz ?_
 refine zc (fun hc15 => ?_) fun hc15 => ?_
 ·refine zw ?_
  refine zs 1 [(4, .int .i8 (-1 : Int))] ?_
  refine zz ?_
  refine w_ret ?_
  refine r_then ?_
  exact ret1 rfl rfl (⟨ret_int (by simp only [newEP, hc15, cond_true, cond_false]), v14⟩)
 refine w_skip ?_
 refine n_then ?_
 refine w_seq ?_
 refine w_cut (γ := Unit) (fun _ => [(0, pz p), (1, pz m), (40, .bool (((S.turn == 1) && ((band (bbSq M.s1) 71776119061217280) != 0)) && ((band (bbSq M.s2) 1095216660480) != 0)))]) (fun _ w_ => Mod [] w8 w_) ?_ ?_
 ·have v18 : Mod [] w8 w8 := Mod.refl _ _
  refine w_region ?_
  refine zo 6 [rz 0 p, rz 1 m, (23, .bool (S.turn == 1))] [.cell ⟨p, 5, none⟩ (.int .i8 S.turn)] (At.cell u10 rfl) ?_
  cases hc19 : (S.turn == (1 : Int))
  ·refine zs 17 [rz 0 p, rz 1 m, (40, .bool false)] ?_
   refine ze ?_
   exact zb () v18
  refine zo 4 [rz 0 p, rz 1 m, (23, .bool true), (27, .int .i8 M.s1)] [.cell ⟨m, 8, none⟩ (.int .i8 M.s1)] (At.cell u12 rfl) ?_
  refine zk (some 28) (c99 M.s1 w8 (by omega) (by omega)) ?_
  intro w20 v21
  have u24 := At.on u12 v21
  have v26 := zt v18 v21
  refine zs 4 [rz 0 p, rz 1 m, (32, .bool ((band (bbSq M.s1) 71776119061217280) != 0))] ?_
  cases hc27 : ((band (bbSq M.s1) (71776119061217280 : Int)) != (0 : Int))
  ·refine zs 8 [rz 0 p, rz 1 m, (40, .bool false)] ?_
   refine ze ?_
   exact zb () v26
  refine zo 4 [rz 0 p, rz 1 m, (32, .bool true), (36, .int .i8 M.s2)] [.cell ⟨m, 9, none⟩ (.int .i8 M.s2)] (At.cell u24 rfl) ?_
  refine zk (some 37) (c99 M.s2 w20 (by omega) (by omega)) ?_
  intro w28 v29
  have v34 := zt v26 v29
  refine zs 3 [rz 0 p, rz 1 m, (40, .bool ((band (bbSq M.s2) 1095216660480) != 0))] ?_
  refine ze ?_
  exact zb () v34
 intro _ w16 v17
 have u35 := At.on u10 v17
 have u37 := At.on u12 v17
 have v39 := zt v14 v17
 refine zc (fun hc40 => ?_) fun hc40 => ?_
 ·refine zw ?_
  refine zo 6 [(4, .int .i8 (IntKind.i8.wrap (M.s2 - 8)))] [.cell ⟨m, 9, none⟩ (.int .i8 M.s2)] (At.cell u37 rfl) ?_
  refine zz ?_
  refine w_ret ?_
  refine r_then ?_
  exact ret1 rfl rfl (⟨ret_int (by simp only [newEP, hc15, hc40, cond_true, cond_false]), v39⟩)
 refine w_cut (γ := Unit) (fun _ => [(1, pz m), (68, .bool (((S.turn == 2) && ((band (bbSq M.s1) 65280) != 0)) && ((band (bbSq M.s2) 4278190080) != 0)))]) (fun _ w_ => Mod [] w16 w_) ?_ ?_
 ·have v43 : Mod [] w16 w16 := Mod.refl _ _
  refine w_region ?_
  refine zo 6 [rz 1 m, (51, .bool (S.turn == 2))] [.cell ⟨p, 5, none⟩ (.int .i8 S.turn)] (At.cell u35 rfl) ?_
  cases hc44 : (S.turn == (2 : Int))
  ·refine zs 17 [rz 1 m, (68, .bool false)] ?_
   refine ze ?_
   exact zb () v43
  refine zo 4 [rz 1 m, (51, .bool true), (55, .int .i8 M.s1)] [.cell ⟨m, 8, none⟩ (.int .i8 M.s1)] (At.cell u37 rfl) ?_
  refine zk (some 56) (c99 M.s1 w16 (by omega) (by omega)) ?_
  intro w45 v46
  have u49 := At.on u37 v46
  have v51 := zt v43 v46
  refine zs 4 [rz 1 m, (60, .bool ((band (bbSq M.s1) 65280) != 0))] ?_
  cases hc52 : ((band (bbSq M.s1) (65280 : Int)) != (0 : Int))
  ·refine zs 8 [rz 1 m, (68, .bool false)] ?_
   refine ze ?_
   exact zb () v51
  refine zo 4 [rz 1 m, (60, .bool true), (64, .int .i8 M.s2)] [.cell ⟨m, 9, none⟩ (.int .i8 M.s2)] (At.cell u49 rfl) ?_
  refine zk (some 65) (c99 M.s2 w45 (by omega) (by omega)) ?_
  intro w53 v54
  have v59 := zt v51 v54
  refine zs 3 [rz 1 m, (68, .bool ((band (bbSq M.s2) 4278190080) != 0))] ?_
  refine ze ?_
  exact zb () v59
 intro _ w41 v42
 have u62 := At.on u37 v42
 have v64 := zt v39 v42
 refine zc (fun hc65 => ?_) fun hc65 => ?_
 ·refine zw ?_
  refine zo 6 [(4, .int .i8 (IntKind.i8.wrap (M.s2 + 8)))] [.cell ⟨m, 9, none⟩ (.int .i8 M.s2)] (At.cell u62 rfl) ?_
  refine zz ?_
  refine w_ret ?_
  refine r_then ?_
  exact ret1 rfl rfl (⟨ret_int (by simp only [newEP, hc15, hc40, hc65, cond_true, cond_false]), v64⟩)
 refine w_skip ?_
 refine zn ?_
 refine zs 1 [(4, .int .i8 (-1 : Int))] ?_
 refine zz ?_
 refine w_ret ?_
 exact ret1 rfl rfl (⟨ret_int (by simp only [newEP, hc15, hc40, hc65, cond_true, cond_false]), v64⟩)
theorem c35 {c : GC} {p b : Nat} {vm : Value} {S : Ps} {w : World} (hp : At w p (.cells (psCells b vm S) 110 (0, 0))) {B : Bd} (hb : At w b (.cells (bdCells B) 135 (0, 0))) {m : Nat} {pos : Value} {M : Mv} (hm : At w m (.cells (mvCells pos M) 98 (0, 0))) (hG : Glob c w) (hs : 0 ≤ M.s1 ∧ M.s1 ≤ 63) (hs2 : 0 ≤ M.s2 ∧ M.s2 ≤ 63) (hp1 : 1 ≤ pieceAt B M.s1 ∧ pieceAt B M.s1 ≤ 12) (hcol : pColor (pieceAt B M.s1) = 1 ∨ pColor (pieceAt B M.s1) = 2) (hpro : M.promo ≠ 0 → 1 ≤ M.promo ∧ M.promo ≤ 6) (hnew : M.promo ≠ 0 → 1 ≤ newP M.promo (pColor (pieceAt B M.s1)) ∧ newP M.promo (pColor (pieceAt B M.s1)) ≤ 12) (hcs : S.castle.size ≤ 1000) :
  Calls Tryz.prog 35 [pz p, pz m].toArray w (fun e w' => ∃ p' b', e = .returned (.pointer (some ⟨p', 0, none⟩)) ∧ Mod [] w w' ∧ At w' p' (.cells (psCells b' (.slice none 0 0) (nextPs B S M)) 110 (0, 0)) ∧ At w' b' (.cells (bdCells (updB B M)) 135 (0, 0)) ∧ w.heap.size ≤ p' ∧ w.heap.size ≤ b') := by
 have v0 : Mod [] w w := Mod.refl _ _
 refine enter (n := 94) Tryz.func35 rfl Tryz.ntmps35 rfl ?_
 refine zw ?_
 refine zs 1 [rz 0 p, rz 1 m] ?_
 refine zx ?_
 refine zo 5 [rz 0 p, rz 1 m, iz 5 S.full] [.cell ⟨p, 4, none⟩ (.int .i64 S.full)] (At.cell hp rfl) ?_
 refine zz ?_
 refine w_cut (γ := Int) (fun g1 => [(0, pz p), (1, pz m), (5, .int .i64 g1)]) (fun g1 w_ => Mod [] w w_ ∧ g1 = (newFull S)) ?_ ?_
 ·have v4 : Mod [] w w := Mod.refl _ _
  refine zw ?_
  refine zo 5 [rz 0 p, rz 1 m, iz 5 S.full, (18, .bool (S.turn == 2))] [.cell ⟨p, 5, none⟩ (.int .i8 S.turn)] (At.cell hp rfl) ?_
  refine zz ?_
  refine zc (fun hc5 => ?_) fun hc5 => ?_
  ·have y5 := eq_of_beq hc5
   refine w_region ?_
   refine zs 3 [rz 0 p, rz 1 m, iz 5 (IntKind.i64.wrap (S.full + 1))] ?_
   refine ze ?_
   exact c_back (IntKind.i64.wrap (S.full + 1)) [0, 1, 5] (by kernel_rfl) ⟨v4, (by simp only [newFull, hc5, cond_true, cond_false])⟩
  have y5 := ne_of_beq_false hc5
  refine w_skip ?_
  exact zb S.full ⟨v4, (by simp only [newFull, hc5, cond_true, cond_false])⟩
 rintro _ w2 ⟨v3, rfl⟩
 have u6 := At.on hp v3
 have u7 := At.on hb v3
 have u8 := At.on hm v3
 have z9 := Glob.on hG v3
 have v10 := zt v0 v3
 refine w_seq ?_
 refine zw ?_
 refine zs 2 [rz 0 p, rz 1 m, iz 5 (newFull S), (22, .bool false)] ?_
 refine zz ?_
 refine w_false rfl ?_
 refine w_skip ?_
 refine zn ?_
 refine zs 2 [rz 0 p, rz 1 m, iz 5 (newFull S), rz 45 p, rz 46 m] ?_
 refine zk (some 47) (c71 (S := S) (M := M) u6 u7 u8 z9 hcs) ?_
 intro w11 v12
 have u13 := At.on u6 v12
 have u14 := At.on u7 v12
 have u15 := At.on u8 v12
 have z16 := Glob.on z9 v12
 have v17 := zt v10 v12
 refine zs 1 [rz 0 p, rz 1 m, iz 5 (newFull S), (6, .string (ncr B S M))] ?_
 refine zz ?_
 refine w_seq ?_
 refine w_quiet (by kernel_rfl) (by kernel_rfl) ?_
 refine zqo 8 [rz 0 p, rz 1 m, iz 5 (newFull S), (6, .string (ncr B S M)), rz 51 b, (55, .int .i8 M.s1)] [.cell ⟨p, 0, none⟩ (pz b), .cell ⟨m, 8, none⟩ (.int .i8 M.s1)] (fun _ hC => ⟨At.cell (At.on u13 hC) rfl, At.cell (At.on u15 hC) rfl⟩) ?_
 refine zqk (some 56) (fun w_ hC => c72 (At.on u14 hC) (Glob.on z16 hC) M.s1) ?_
 refine zq 1 [rz 0 p, rz 1 m, iz 5 (newFull S), (6, .string (ncr B S M)), (7, .int .i8 (pieceAt B M.s1))] ?_
 refine q_out (by kernel_rfl) ?_
 intro w18 v19
 have u20 := At.on u13 v19
 have u21 := At.on u14 v19
 have u22 := At.on u15 v19
 have z23 := Glob.on z16 v19
 have v24 := zt v17 v19
 refine zn ?_
 refine zo 5 [rz 0 p, rz 1 m, iz 5 (newFull S), (6, .string (ncr B S M)), (7, .int .i8 (pieceAt B M.s1)), iz 8 S.half] [.cell ⟨p, 3, none⟩ (.int .i64 S.half)] (At.cell u20 rfl) ?_
 refine zz ?_
 refine w_cut (γ := Int) (fun g25 => [(0, pz p), (1, pz m), (5, .int .i64 (newFull S)), (6, .string (ncr B S M)), (8, .int .i64 g25)]) (fun g25 w_ => Mod [] w18 w_ ∧ g25 = (newHalf B S M)) ?_ ?_
 ·have v28 : Mod [] w18 w18 := Mod.refl _ _
  refine w_cut (γ := Unit) (fun _ => [(0, pz p), (1, pz m), (5, .int .i64 (newFull S)), (6, .string (ncr B S M)), (8, .int .i64 S.half), (67, .bool (((pType (pieceAt B M.s1)) == 6) || (hasTag M 4)))]) (fun _ w_ => Mod [] w18 w_) ?_ ?_
  ·have v31 : Mod [] w18 w18 := Mod.refl _ _
   refine w_region ?_
   refine zs 1 [rz 0 p, rz 1 m, iz 5 (newFull S), (6, .string (ncr B S M)), iz 8 S.half, (61, .int .i8 (pieceAt B M.s1))] ?_
   refine zk (some 62) (c73 (pieceAt B M.s1) w18) ?_
   intro w32 v33
   have u36 := At.on u22 v33
   have v38 := zt v31 v33
   refine zs 2 [rz 0 p, rz 1 m, iz 5 (newFull S), (6, .string (ncr B S M)), iz 8 S.half, (64, .bool ((pType (pieceAt B M.s1)) == 6))] ?_
   cases hc40 : ((pType (pieceAt B M.s1)) == (6 : Int))
   ·refine zs 1 [rz 0 p, rz 1 m, iz 5 (newFull S), (6, .string (ncr B S M)), iz 8 S.half, (64, .bool false), rz 65 m] ?_
    refine zk (some 66) (c74 u36 4) ?_
    intro w41 v42
    have v47 := zt v38 v42
    refine zs 1 [rz 0 p, rz 1 m, iz 5 (newFull S), (6, .string (ncr B S M)), iz 8 S.half, (67, .bool (hasTag M 4))] ?_
    refine ze ?_
    exact zb () v47
   refine zs 3 [rz 0 p, rz 1 m, iz 5 (newFull S), (6, .string (ncr B S M)), iz 8 S.half, (67, .bool true)] ?_
   refine ze ?_
   exact zb () v38
  intro _ w29 v30
  have v54 := zt v28 v30
  refine zc (fun hc55 => ?_) fun hc55 => ?_
  ·refine w_region ?_
   refine zs 1 [rz 0 p, rz 1 m, iz 5 (newFull S), (6, .string (ncr B S M)), iz 8 0] ?_
   refine ze ?_
   exact c_back 0 [0, 1, 5, 6, 8] (by kernel_rfl) ⟨v54, (by simp only [newHalf, hc55, cond_true, cond_false])⟩
  refine w_region ?_
  refine zs 3 [rz 0 p, rz 1 m, iz 5 (newFull S), (6, .string (ncr B S M)), iz 8 (IntKind.i64.wrap (S.half + 1))] ?_
  refine ze ?_
  exact c_back (IntKind.i64.wrap (S.half + 1)) [0, 1, 5, 6, 8] (by kernel_rfl) ⟨v54, (by simp only [newHalf, hc55, cond_true, cond_false])⟩
 rintro _ w26 ⟨v27, rfl⟩
 have u56 := At.on u20 v27
 have u57 := At.on u21 v27
 have u58 := At.on u22 v27
 have z59 := Glob.on z23 v27
 have v60 := zt v24 v27
 refine zw ?_
 refine zo 4 [rz 0 p, rz 1 m, iz 5 (newFull S), (6, .string (ncr B S M)), iz 8 (newHalf B S M), rz 73 b] [.cell ⟨p, 0, none⟩ (pz b)] (At.cell u56 rfl) ?_
 refine reg_call 69 [pz b] (some 74) (by kernel_rfl) (c69 u57) ?_
 rintro _ w61 ⟨b63, rfl, v62, u64, hb65⟩; refine ⟨_, rfl, ?_⟩
 have hb66 := Nat.le_trans v60.size hb65
 have hb67 := Nat.le_trans (Glob.size z59) hb65
 have ne68 : b ≠ b63 := (by have := At.lt u57; omega)
 have u69 := At.on u56 v62
 have u70 := At.on u57 v62
 have u71 := At.on u58 v62
 have z72 := Glob.on z59 v62
 have v73 := zt v60 v62
 refine zs 1 [rz 0 p, rz 1 m, iz 5 (newFull S), (6, .string (ncr B S M)), iz 8 (newHalf B S M), rz 9 b63] ?_
 refine zx ?_
 refine zs 2 [rz 0 p, rz 1 m, iz 5 (newFull S), (6, .string (ncr B S M)), iz 8 (newHalf B S M), rz 9 b63, rz 75 b63, rz 76 m] ?_
 refine reg_call 75 [pz b63, pz m] (some 77) (by kernel_rfl) (c75 (M := M) u64 u71 z72 (by assumption) (by assumption) (by assumption) (by assumption) (by assumption) (by assumption) (by omega)) ?_
 rintro _ w74 ⟨rfl, v75, u76⟩; refine ⟨_, rfl, ?_⟩
 have u77 := At.keep u69 v75 (not_mem1 (At.ne u69 u64 rfl))
 have u78 := At.keep u70 v75 (not_mem1 ne68)
 have u79 := At.keep u71 v75 (not_mem1 (At.ne u71 u64 rfl))
 have z80 := Glob.keep z72 v75 (by simp <;> omega)
 have v81 := Mod.fresh' v73 v75 (by simp <;> omega)
 refine zx ?_
 refine zo 5 [rz 0 p, rz 1 m, iz 5 (newFull S), (6, .string (ncr B S M)), iz 8 (newHalf B S M), rz 78 b63, (82, .int .i8 S.turn)] [.cell ⟨p, 5, none⟩ (.int .i8 S.turn)] (At.cell u77 rfl) ?_
 refine zk (some 83) (c70 S.turn w74) ?_
 intro w82 v83
 have u84 := At.on u77 v83
 have u85 := At.on u78 v83
 have u86 := At.on u79 v83
 have u87 := At.on u76 v83
 have z88 := Glob.on z80 v83
 have v89 := zt v81 v83
 refine zs 3 [rz 1 m, iz 5 (newFull S), iz 8 (newHalf B S M), rz 78 b63, (83, .int .i8 (otherC S.turn)), (84, .string (ncr B S M)), rz 85 p, rz 86 m] ?_
 refine zk (some 87) (c76 (S := S) (M := M) u84 u85 u86 z88 hs hs2) ?_
 intro w90 v91
 have u92 := At.on u84 v91
 have u94 := At.on u86 v91
 have u95 := At.on u87 v91
 have z96 := Glob.on z88 v91
 have v97 := zt v89 v91
 refine zs 3 [rz 78 b63, (83, .int .i8 (otherC S.turn)), (84, .string (ncr B S M)), (87, .int .i8 (newEP B S M)), iz 88 (newHalf B S M), iz 89 (newFull S), rz 90 m] ?_
 refine zk (some 91) (c74 u94 16) ?_
 intro w98 v99
 have u100 := At.on u92 v99
 have u103 := At.on u95 v99
 have z104 := Glob.on z96 v99
 have v105 := zt v97 v99
 refine zs 1 [(92, .agg #[pz b63, .string (ncr B S M), .slice none 0 0, .int .i64 (newHalf B S M), .int .i64 (newFull S), .int .i8 (otherC S.turn), .int .i8 (newEP B S M), .bool (hasTag M 16)])] ?_
 refine reg_alloc (psCells b63 (.slice none 0 0) (nextPs B S M)) 110 (some 93) (by kernel_rfl) ?_
 intro b106 w107 hn108
 have ne109 : p ≠ b106 := hn108.ne u100
 have hb110 : c.base ≤ b106 := Glob.lt z104 hn108
 have hb111 := Nat.le_trans v105.size hn108.base
 have v112 := hn108.mod
 have u116 := At.on u103 v112
 have v118 := zt v105 v112
 have u119 := hn108.at_
 refine zs 1 [rz 4 b106] ?_
 refine zz ?_
 refine w_ret ?_
 exact ret1 rfl rfl (⟨b106, b63, rfl, v118, u119, u116, by omega, by omega⟩)
theorem wrapU8 {x : Int} (h : 0 ≤ x) (h' : x ≤ 255) : IntKind.u8.wrap x = x := by
 rw [IntKind.wrap_u8']; omega
theorem sq_rank {a : Int} (h : 0 ≤ a ∧ a ≤ 63) : sqRank a = a / 8 := by
 unfold sqRank; rw [Int.tdiv_eq_ediv_of_nonneg h.1]; exact i8_in' (by omega) (by omega)
theorem sq_file {a : Int} (h : 0 ≤ a ∧ a ≤ 63) : sqFile a = a % 8 := Int.tmod_eq_emod_of_nonneg h.1
theorem sq_decode {a x y : Int} (h : 0 ≤ a ∧ a ≤ 63) (hx : x = 97 + sqFile a) (hy : y = 49 + sqRank a) :
  IntKind.i8.wrap (IntKind.u8.wrap (IntKind.u8.wrap (x - (97 : Int)) + IntKind.u8.wrap (IntKind.u8.wrap (y - (49 : Int)) * (8 : Int)))) = a := by
 rw [sq_file h] at hx; rw [sq_rank h] at hy
 subst hx; subst hy
 rw [wrapU8 (x := 97 + a % 8 - 97) (by omega) (by omega), wrapU8 (x := 49 + a / 8 - 49) (by omega) (by omega), wrapU8 (x := (49 + a / 8 - 49) * 8) (by omega) (by omega), wrapU8 (by omega) (by omega), i8_in' (by omega) (by omega)]
 omega
noncomputable def zero237 : Array Value := match Tryz.prog.info? 237 with | some i => (match i.zero with | some z => z.cells | none => #[]) | none => #[]
noncomputable def promoArr : Array Value := match Tryz.prog.built 237 [(110, .int .i8 5), (98, .int .i8 4), (114, .int .i8 3), (113, .int .i8 2)] with | some c => c | none => #[]
def PromoCh (x pr : Int) : Prop := (x = 113 ∧ pr = 2) ∨ (x = 114 ∧ pr = 3) ∨ (x = 98 ∧ pr = 4) ∨ (x = 110 ∧ pr = 5)
theorem promo_size : promoArr.size = 256 := by kernel_rfl
theorem promo_cells : storeRow zero237 0 promoArr.toList = promoArr := by kernel_rfl
theorem promo_one : oneCells promoArr.toList = true := by kernel_rfl
theorem promo_cell {x pr : Int} (h : PromoCh x pr) : promoArr[0 + x.toNat * 1]? = some (.int .i8 pr) := by
 rcases h with ⟨rfl, rfl⟩ | ⟨rfl, rfl⟩ | ⟨rfl, rfl⟩ | ⟨rfl, rfl⟩ <;> kernel_rfl
theorem c200 {c : GC} {p b : Nat} {vm : Value} {S : Ps} {w : World} (hp : At w p (.cells (psCells b vm S) 110 (0, 0))) {B : Bd} (hbd : At w b (.cells (bdCells B) 135 (0, 0))) (hG : Glob c w) (hpre : MvPre B S) (s : ByteArray) (a b' pr : Int) (ha : 0 ≤ a ∧ a ≤ 63) (hb : 0 ≤ b' ∧ b' ≤ 63) (hpr : 0 ≤ pr ∧ pr ≤ 5) (hsz : (pr = 0 ∧ s.size = 4) ∨ (pr ≠ 0 ∧ s.size = 5)) (hb0 : byteAt s (0 : Int) = 97 + sqFile a) (hb1 : byteAt s (1 : Int) = 49 + sqRank a) (hb2 : byteAt s (2 : Int) = 97 + sqFile b') (hb3 : byteAt s (3 : Int) = 49 + sqRank b') (hch : pr ≠ 0 → PromoCh (byteAt s (4 : Int)) pr) (hp1 : 1 ≤ pieceAt B a ∧ pieceAt B a ≤ 12) (hcs : S.castle.size ≤ 1000) :
  Calls Tryz.prog 200 [.agg (#[]), pz p, .string s].toArray w (fun e w' => ∃ q pos t, e = .returned (.tuple #[pz q, .nilIface]) ∧ Mod [] w w' ∧ At w' q (.cells (mvCells pos ⟨t, a, b', pr⟩) 98 (0, 0)) ∧ w.heap.size ≤ q) := by
 have v0 : Mod [] w w := Mod.refl _ _
 have hf1 := file_ok ha
 have hr1 := rank_ok ha
 have hf2 := file_ok hb
 have hr2 := rank_ok hb
 have hb' := hb
 refine enter (n := 109) Tryz.func200 rfl Tryz.ntmps200 rfl ?_
 refine zw ?_
 refine reg_alloc (#[]) 91 (some 3) (by kernel_rfl) ?_
 intro b1 w2 hn3
 have hb4 : c.base ≤ b1 := Glob.lt hG hn3
 have hb5 := Nat.le_trans v0.size hn3.base
 have v6 := hn3.mod
 have hf7 := At.on hp v6
 have hf8 := At.on hbd v6
 have z9 := Glob.on hG v6
 have v10 := zt v0 v6
 have hf11 := hn3.at_
 refine zs 2 [rz 1 p, (2, .string s)] ?_
 refine zx ?_
 refine zs 3 [rz 1 p, (2, .string s), iz 8 ((s.size : Nat) : Int)] ?_
 refine zz ?_
 refine w_seq ?_
 refine w_cut (γ := Unit) (fun _ => [(1, pz p), (2, .string s), (8, .int .i64 ((s.size : Nat) : Int)), (22, .bool ((decide (((s.size : Nat) : Int) < 4)) || (decide (((s.size : Nat) : Int) > 5))))]) (fun _ w_ => Mod [] w2 w_) ?_ ?_
 ·have v14 : Mod [] w2 w2 := Mod.refl _ _
  refine w_region ?_
  refine zs 3 [rz 1 p, (2, .string s), iz 8 ((s.size : Nat) : Int), (19, .bool (decide (((s.size : Nat) : Int) < 4)))] ?_
  cases hc15 : (decide (((s.size : Nat) : Int) < (4 : Int)))
  ·refine zs 3 [rz 1 p, (2, .string s), iz 8 ((s.size : Nat) : Int), (22, .bool (decide (((s.size : Nat) : Int) > 5)))] ?_
   refine ze ?_
   exact zb () v14
  refine zs 3 [rz 1 p, (2, .string s), iz 8 ((s.size : Nat) : Int), (22, .bool true)] ?_
  refine ze ?_
  exact zb () v14
 intro _ w12 v13
 have hf16 := At.on hf7 v13
 have hf17 := At.on hf8 v13
 have hf18 := At.on hf11 v13
 have z19 := Glob.on z9 v13
 have v20 := zt v10 v13
 have hc21 : ((decide (((s.size : Nat) : Int) < 4)) || (decide (((s.size : Nat) : Int) > 5))) = false := (by simp only [Bool.or_eq_false_iff, decide_eq_false_iff_not]; omega)
 refine w_cond (b := ((decide (((s.size : Nat) : Int) < 4)) || (decide (((s.size : Nat) : Int) > 5)))) rfl (fun hx => absurd (hc21.symm.trans hx) (by decide)) (fun _ => ?_)
 refine w_skip ?_
 refine n_then ?_
 refine w_seq ?_
 refine zw ?_
 refine zs 1 [rz 1 p, (2, .string s), iz 8 ((s.size : Nat) : Int), iz 9 0] ?_
 refine zz ?_
 refine w_block ?_
 refine w_loop (γ := Int) (fun q22 => (2 - q22).toNat) (fun q22 => [(1, pz p), (2, .string s), (8, .int .i64 ((s.size : Nat) : Int)), (9, .int .i64 q22)]) (fun q22 w_ => Mod [] w12 w_ ∧ (q22 = 0 ∨ q22 = 2)) 0 (hold_keep [1, 2, 8, 9] (by kernel_rfl)) ⟨Mod.refl _ _, .inl rfl⟩ ?_
 rintro q22 w23 ⟨v24, rfl | rfl⟩
 ·have hf25 := At.on hf16 v24
  have hf26 := At.on hf17 v24
  have hf27 := At.on hf18 v24
  have z28 := Glob.on z19 v24
  have v29 := zt v20 v24
  refine w_seq ?_
  refine zw ?_
  refine zs 2 [rz 1 p, (2, .string s), iz 8 ((s.size : Nat) : Int), iz 9 0, (25, .bool true)] ?_
  refine zz ?_
  refine w_true rfl ?_
  refine w_skip ?_
  refine n_then ?_
  refine w_seq ?_
  refine w_block ?_
  refine w_seq ?_
  refine w_cut (γ := Unit) (fun _ => [(1, pz p), (2, .string s), (8, .int .i64 ((s.size : Nat) : Int)), (9, .int .i64 0), (39, .bool ((decide ((byteAt s 0) < 97)) || (decide ((byteAt s 0) > 104))))]) (fun _ w_ => Mod [] w23 w_) ?_ ?_
  ·have v32 : Mod [] w23 w23 := Mod.refl _ _
   refine w_region ?_
   refine zv 6 [rz 1 p, (2, .string s), iz 8 ((s.size : Nat) : Int), iz 9 0, (33, .bool (decide ((byteAt s 0) < 97)))] [.prop (0 ≤ (0 : Int) ∧ ∃ b, s[(0 : Int).toNat]? = some b ∧ (byteAt s 0) = b.toNat)] [.int .u8 (byteAt s 0)] (byteAt_ok (by omega) (by omega)) ?_
   cases hc33 : (decide ((byteAt s (0 : Int)) < (97 : Int)))
   ·refine zv 6 [rz 1 p, (2, .string s), iz 8 ((s.size : Nat) : Int), iz 9 0, (39, .bool (decide ((byteAt s 0) > 104)))] [.prop (0 ≤ (0 : Int) ∧ ∃ b, s[(0 : Int).toNat]? = some b ∧ (byteAt s 0) = b.toNat)] [.int .u8 (byteAt s 0)] (byteAt_ok (by omega) (by omega)) ?_
    refine ze ?_
    exact zb () v32
   refine zs 6 [rz 1 p, (2, .string s), iz 8 ((s.size : Nat) : Int), iz 9 0, (39, .bool true)] ?_
   refine ze ?_
   exact zb () v32
  intro _ w30 v31
  have hf34 := At.on hf25 v31
  have hf35 := At.on hf26 v31
  have hf36 := At.on hf27 v31
  have z37 := Glob.on z28 v31
  have v38 := zt v29 v31
  have v39 := zt v24 v31
  have hc40 : ((decide ((byteAt s 0) < 97)) || (decide ((byteAt s 0) > 104))) = false := (by simp only [Bool.or_eq_false_iff, decide_eq_false_iff_not]; omega)
  refine w_cond (b := ((decide ((byteAt s 0) < 97)) || (decide ((byteAt s 0) > 104)))) rfl (fun hx => absurd (hc40.symm.trans hx) (by decide)) (fun _ => ?_)
  refine w_skip ?_
  refine n_then ?_
  refine w_cut (γ := Unit) (fun _ => [(1, pz p), (2, .string s), (8, .int .i64 ((s.size : Nat) : Int)), (9, .int .i64 0), (52, .bool ((decide ((byteAt s 1) < 49)) || (decide ((byteAt s 1) > 56))))]) (fun _ w_ => Mod [] w30 w_) ?_ ?_
  ·have v43 : Mod [] w30 w30 := Mod.refl _ _
   refine w_region ?_
   refine zv 6 [rz 1 p, (2, .string s), iz 8 ((s.size : Nat) : Int), iz 9 0, (46, .bool (decide ((byteAt s 1) < 49)))] [.prop (0 ≤ (1 : Int) ∧ ∃ b, s[(1 : Int).toNat]? = some b ∧ (byteAt s 1) = b.toNat)] [.int .u8 (byteAt s 1)] (byteAt_ok (by omega) (by omega)) ?_
   cases hc44 : (decide ((byteAt s (1 : Int)) < (49 : Int)))
   ·refine zv 6 [rz 1 p, (2, .string s), iz 8 ((s.size : Nat) : Int), iz 9 0, (52, .bool (decide ((byteAt s 1) > 56)))] [.prop (0 ≤ (1 : Int) ∧ ∃ b, s[(1 : Int).toNat]? = some b ∧ (byteAt s 1) = b.toNat)] [.int .u8 (byteAt s 1)] (byteAt_ok (by omega) (by omega)) ?_
    refine ze ?_
    exact zb () v43
   refine zs 6 [rz 1 p, (2, .string s), iz 8 ((s.size : Nat) : Int), iz 9 0, (52, .bool true)] ?_
   refine ze ?_
   exact zb () v43
  intro _ w41 v42
  have hf45 := At.on hf34 v42
  have hf46 := At.on hf35 v42
  have hf47 := At.on hf36 v42
  have z48 := Glob.on z37 v42
  have v49 := zt v38 v42
  have v50 := zt v39 v42
  have hc51 : ((decide ((byteAt s 1) < 49)) || (decide ((byteAt s 1) > 56))) = false := (by simp only [Bool.or_eq_false_iff, decide_eq_false_iff_not]; omega)
  refine w_cond (b := ((decide ((byteAt s 1) < 49)) || (decide ((byteAt s 1) > 56)))) rfl (fun hx => absurd (hc51.symm.trans hx) (by decide)) (fun _ => ?_)
  refine w_skip ?_
  refine n_block ?_
  refine n_then ?_
  refine w_region ?_
  refine zs 3 [rz 1 p, (2, .string s), iz 8 ((s.size : Nat) : Int), iz 9 2] ?_
  refine ze ?_
  exact l_back 2 [1, 2, 8, 9] (by kernel_rfl) (by decide) ⟨v50, .inr rfl⟩
 have hf52 := At.on hf16 v24
 have hf53 := At.on hf17 v24
 have hf54 := At.on hf18 v24
 have z55 := Glob.on z19 v24
 have v56 := zt v20 v24
 refine w_seq ?_
 refine zw ?_
 refine zs 2 [rz 1 p, (2, .string s), iz 8 ((s.size : Nat) : Int), iz 9 2, (25, .bool false)] ?_
 refine zz ?_
 refine w_false rfl ?_
 refine w_exit ?_
 refine x_then ?_
 refine x_then ?_
 refine x_hit ?_
 refine n_then ?_
 refine w_seq ?_
 refine w_quiet (by kernel_rfl) (by kernel_rfl) ?_
 refine zqv 10 [rz 1 p, (2, .string s), iz 8 ((s.size : Nat) : Int), (10, .int .i8 (IntKind.i8.wrap (IntKind.u8.wrap ((IntKind.u8.wrap ((byteAt s 0) - 97)) + (IntKind.u8.wrap ((IntKind.u8.wrap ((byteAt s 1) - 49)) * 8))))))] [.prop (0 ≤ (0 : Int) ∧ ∃ b, s[(0 : Int).toNat]? = some b ∧ (byteAt s 0) = b.toNat), .prop (0 ≤ (1 : Int) ∧ ∃ b, s[(1 : Int).toNat]? = some b ∧ (byteAt s 1) = b.toNat)] [.int .u8 (byteAt s 0), .int .u8 (byteAt s 1)] (fun _ hC => ⟨(byteAt_ok (by omega) (by omega)), (byteAt_ok (by omega) (by omega))⟩) ?_
 refine q_out (by kernel_rfl) ?_
 intro w57 v58
 have hf59 := At.on hf52 v58
 have hf60 := At.on hf53 v58
 have hf61 := At.on hf54 v58
 have z62 := Glob.on z55 v58
 have v63 := zt v56 v58
 rw [(show ((IntKind.i8.wrap (IntKind.u8.wrap ((IntKind.u8.wrap ((byteAt s (0 : Int)) - (97 : Int))) + (IntKind.u8.wrap ((IntKind.u8.wrap ((byteAt s (1 : Int)) - (49 : Int))) * (8 : Int)))))) : Int) = a from sq_decode ha hb0 hb1)]
 refine n_then ?_
 refine w_seq ?_
 refine w_quiet (by kernel_rfl) (by kernel_rfl) ?_
 refine zqv 10 [rz 1 p, (2, .string s), iz 8 ((s.size : Nat) : Int), (10, .int .i8 a), (11, .int .i8 (IntKind.i8.wrap (IntKind.u8.wrap ((IntKind.u8.wrap ((byteAt s 2) - 97)) + (IntKind.u8.wrap ((IntKind.u8.wrap ((byteAt s 3) - 49)) * 8))))))] [.prop (0 ≤ (2 : Int) ∧ ∃ b, s[(2 : Int).toNat]? = some b ∧ (byteAt s 2) = b.toNat), .prop (0 ≤ (3 : Int) ∧ ∃ b, s[(3 : Int).toNat]? = some b ∧ (byteAt s 3) = b.toNat)] [.int .u8 (byteAt s 2), .int .u8 (byteAt s 3)] (fun _ hC => ⟨(byteAt_ok (by omega) (by omega)), (byteAt_ok (by omega) (by omega))⟩) ?_
 refine q_out (by kernel_rfl) ?_
 intro w64 v65
 have hf66 := At.on hf59 v65
 have hf67 := At.on hf60 v65
 have hf68 := At.on hf61 v65
 have z69 := Glob.on z62 v65
 have v70 := zt v63 v65
 rw [(show ((IntKind.i8.wrap (IntKind.u8.wrap ((IntKind.u8.wrap ((byteAt s (2 : Int)) - (97 : Int))) + (IntKind.u8.wrap ((IntKind.u8.wrap ((byteAt s (3 : Int)) - (49 : Int))) * (8 : Int)))))) : Int) = b' from sq_decode hb' hb2 hb3)]
 refine n_then ?_
 refine w_seq ?_
 refine w_cut (γ := Unit) (fun _ => [(1, pz p), (2, .string s), (8, .int .i64 ((s.size : Nat) : Int)), (10, .int .i8 a), (11, .int .i8 b'), (85, .bool ((((decide (a < 0)) || (decide (a > 63))) || (decide (b' < 0))) || (decide (b' > 63))))]) (fun _ w_ => Mod [] w64 w_) ?_ ?_
 ·have v73 : Mod [] w64 w64 := Mod.refl _ _
  refine w_region ?_
  refine zs 3 [rz 1 p, (2, .string s), iz 8 ((s.size : Nat) : Int), (10, .int .i8 a), (11, .int .i8 b'), (74, .bool (decide (a < 0)))] ?_
  cases hc74 : (decide (a < (0 : Int)))
  ·refine zs 4 [rz 1 p, (2, .string s), iz 8 ((s.size : Nat) : Int), (10, .int .i8 a), (11, .int .i8 b'), (78, .bool (decide (a > 63)))] ?_
   cases hc75 : (decide (a > (63 : Int)))
   ·refine zs 4 [rz 1 p, (2, .string s), iz 8 ((s.size : Nat) : Int), (10, .int .i8 a), (11, .int .i8 b'), (82, .bool (decide (b' < 0)))] ?_
    cases hc76 : (decide (b' < (0 : Int)))
    ·refine zs 3 [rz 1 p, (2, .string s), iz 8 ((s.size : Nat) : Int), (10, .int .i8 a), (11, .int .i8 b'), (85, .bool (decide (b' > 63)))] ?_
     refine ze ?_
     exact zb () v73
    refine zs 3 [rz 1 p, (2, .string s), iz 8 ((s.size : Nat) : Int), (10, .int .i8 a), (11, .int .i8 b'), (85, .bool true)] ?_
    refine ze ?_
    exact zb () v73
   refine zs 7 [rz 1 p, (2, .string s), iz 8 ((s.size : Nat) : Int), (10, .int .i8 a), (11, .int .i8 b'), (85, .bool true)] ?_
   refine ze ?_
   exact zb () v73
  refine zs 11 [rz 1 p, (2, .string s), iz 8 ((s.size : Nat) : Int), (10, .int .i8 a), (11, .int .i8 b'), (85, .bool true)] ?_
  refine ze ?_
  exact zb () v73
 intro _ w71 v72
 have hf77 := At.on hf66 v72
 have hf78 := At.on hf67 v72
 have hf79 := At.on hf68 v72
 have z80 := Glob.on z69 v72
 have v81 := zt v70 v72
 have hc82 : ((((decide (a < 0)) || (decide (a > 63))) || (decide (b' < 0))) || (decide (b' > 63))) = false := (by simp only [Bool.or_eq_false_iff, decide_eq_false_iff_not]; omega)
 refine w_cond (b := ((((decide (a < 0)) || (decide (a > 63))) || (decide (b' < 0))) || (decide (b' > 63)))) rfl (fun hx => absurd (hc82.symm.trans hx) (by decide)) (fun _ => ?_)
 refine w_skip ?_
 refine zn ?_
 refine zs 3 [rz 1 p, (2, .string s), iz 8 ((s.size : Nat) : Int), (89, .agg #[.pointer none, .pointer none, .string (⟨#[]⟩), .string (⟨#[]⟩), .map none, .slice none 0 0, .int .u64 0, .int .u16 0, .int .i8 a, .int .i8 b', .int .i8 0])] ?_
 refine reg_alloc (mvCells (.pointer none) (⟨0, 0, 0, 0⟩ : Mv)) 98 (some 12) (by kernel_rfl) ?_
 intro b83 w84 hn85
 have hb86 : c.base ≤ b83 := Glob.lt z80 hn85
 have hb87 := Nat.le_trans v81.size hn85.base
 have v88 := hn85.mod
 have hf89 := At.on hf77 v88
 have hf90 := At.on hf78 v88
 have hf91 := At.on hf79 v88
 have z92 := Glob.on z80 v88
 have v93 := zt v81 v88
 have hf94 := hn85.at_
 refine reg_store b83 0 (.agg #[.pointer none, .pointer none, .string (⟨#[]⟩), .string (⟨#[]⟩), .map none, .slice none 0 0, .int .u64 0, .int .u16 0, .int .i8 a, .int .i8 b', .int .i8 0]) none (by kernel_rfl) hf94 (Nat.le_of_ble_eq_true rfl) rfl ?_
 intro w95 hu96
 have hf97 : At w95 b83 (.cells (mvCells (.pointer none) ⟨0, a, b', 0⟩) 98 (0, 0)) := hu96.at_
 have hf98 := At.keep hf89 hu96.mod (not_mem1 (At.ne hf89 hf94 rfl))
 have hf99 := At.keep hf90 hu96.mod (not_mem1 (At.ne hf90 hf94 rfl))
 have hf100 := At.keep hf91 hu96.mod (not_mem1 (At.ne hf91 hf94 rfl))
 have z101 := Glob.keep z92 hu96.mod (by simp <;> omega)
 have v102 := Mod.fresh' v93 hu96.mod (by simp <;> omega)
 refine zz ?_
 refine w_seq ?_
 refine zw ?_
 refine zs 2 [rz 1 p, (2, .string s), rz 12 b83, (91, .bool (((s.size : Nat) : Int) == 5))] ?_
 refine zz ?_
 refine zc (fun hc103 => ?_) fun hc103 => ?_
 ·have y103 := eq_of_beq hc103
  have hx4 : 0 ≤ byteAt s 4 ∧ byteAt s (4 : Int) < 256 := by have := hch (by omega); unfold PromoCh at this; omega
  refine zw ?_
  refine zs 1 [rz 1 p, (2, .string s), rz 12 b83, (92, .agg promoArr)] ?_
  refine reg_alloc zero237 237 (some 13) (by kernel_rfl) ?_
  intro b104 w105 hn106
  have hb107 : c.base ≤ b104 := Glob.lt z101 hn106
  have hb108 := Nat.le_trans v102.size hn106.base
  have v109 := hn106.mod
  have hf110 := At.on hf98 v109
  have hf111 := At.on hf99 v109
  have hf112 := At.on hf100 v109
  have hf113 := At.on hf97 v109
  have z114 := Glob.on z101 v109
  have v115 := zt v102 v109
  have hf116 := hn106.at_
  refine reg_store b104 0 (.agg promoArr) none (by kernel_rfl) hf116 (by rw [show (Value.agg promoArr).cells.size = 256 from promo_size, show zero237.size = 256 from by kernel_rfl]; omega) promo_one ?_
  intro w117 hu118
  have hf119 : At w117 b104 (.cells promoArr 237 (0, 0)) := (promo_cells ▸ hu118.at_)
  have hf120 := At.keep hf110 hu118.mod (not_mem1 (At.ne hf110 hf116 rfl))
  have hf121 := At.keep hf111 hu118.mod (not_mem1 (At.ne hf111 hf116 rfl))
  have hf122 := At.keep hf112 hu118.mod (not_mem1 (At.ne hf112 hf116 rfl))
  have hf123 := At.keep hf113 hu118.mod (not_mem1 (At.ne hf113 hf116 rfl))
  have z124 := Glob.keep z114 hu118.mod (by simp <;> omega)
  have v125 := Mod.fresh' v115 hu118.mod (by simp <;> omega)
  refine zx ?_
  refine zv 5 [rz 1 p, rz 12 b83, (14, .int .i8 pr)] [.prop (0 ≤ (4 : Int) ∧ ∃ b, s[(4 : Int).toNat]? = some b ∧ (byteAt s 4) = b.toNat), .prop (0 ≤ (byteAt s 4) ∧ (byteAt s 4) < ((256 : Nat) : Int)), .cell ⟨b104, (0 + (byteAt s 4).toNat * 1), none⟩ (.int .i8 pr)] [.int .u8 (byteAt s 4), .int .i8 pr] (⟨(byteAt_ok (by omega) (by omega)), (zh (by omega)), At.cell hf119 (promo_cell (hch (by omega)))⟩) ?_
  refine zz ?_
  refine w_seq ?_
  refine zw ?_
  refine zs 2 [rz 1 p, rz 12 b83, (14, .int .i8 pr), (98, .bool (pr == 0))] ?_
  refine zz ?_
  have hc126 : (pr == 0) = false := (beq_false_of_ne (by omega))
  refine w_cond (b := (pr == 0)) rfl (fun hx => absurd (hc126.symm.trans hx) (by decide)) (fun _ => ?_)
  refine w_skip ?_
  refine n_then ?_
  refine w_region ?_
  refine zs 2 [rz 1 p, rz 12 b83, (100, .int .i8 pr), (101, .pointer (some ⟨b83, 10, none⟩))] ?_
  refine reg_store b83 10 (.int .i8 pr) none (by kernel_rfl) hf123 (Nat.le_of_ble_eq_true rfl) rfl ?_
  intro w127 hu128
  have hf129 : At w127 b83 (.cells (mvCells (.pointer none) ⟨0, a, b', pr⟩) 98 (0, 0)) := hu128.at_
  have hf130 := At.keep hf120 hu128.mod (not_mem1 (At.ne hf120 hf123 rfl))
  have hf131 := At.keep hf121 hu128.mod (not_mem1 (At.ne hf121 hf123 rfl))
  have hf132 := At.keep hf122 hu128.mod (not_mem1 (At.ne hf122 hf123 rfl))
  have hf133 := At.keep hf119 hu128.mod (not_mem1 (At.ne hf119 hf123 rfl))
  have z134 := Glob.keep z124 hu128.mod (by simp <;> omega)
  have v135 := Mod.fresh' v125 hu128.mod (by simp <;> omega)
  refine zz ?_
  refine w_seq ?_
  refine zw ?_
  refine zs 2 [rz 1 p, rz 12 b83, (103, .bool false)] ?_
  refine zz ?_
  refine w_false rfl ?_
  refine w_skip ?_
  refine zn ?_
  refine zs 1 [rz 1 p, rz 12 b83, rz 104 p] ?_
  refine reg_call 135 [pz b83, pz p] (some 105) (by kernel_rfl) (c135 (M := (⟨0, a, b', pr⟩ : Mv)) hf130 hf131 hf129 z134 ha hb hp1 (pColor_or hp1) (fun hz => (show 1 ≤ pr ∧ pr ≤ 6 from (by have : pr ≠ 0 := hz; omega))) (fun hz => newP_ok (show 1 ≤ pr ∧ pr ≤ 6 from (by have : pr ≠ 0 := hz; omega)) (pColor_or hp1)) (by omega) hpre.kings hpre.turn) ?_
  rintro _ w136 ⟨rfl, v137, hf138⟩; refine ⟨_, rfl, ?_⟩
  have hf139 := At.keep hf130 v137 (not_mem1 (At.ne hf130 hf129 rfl))
  have hf140 := At.keep hf131 v137 (not_mem1 (At.ne hf131 hf129 rfl))
  have hf141 := At.keep hf132 v137 (not_mem1 (At.ne hf132 hf129 rfl))
  have hf142 := At.keep hf133 v137 (not_mem1 (At.ne hf133 hf129 rfl))
  have z143 := Glob.keep z134 v137 (by simp <;> omega)
  have v144 := Mod.fresh' v135 v137 (by simp <;> omega)
  refine zx ?_
  refine zs 1 [rz 12 b83, rz 106 p] ?_
  refine reg_call 35 [pz p, pz b83] (some 107) (by kernel_rfl) (c35 (S := S) (M := (⟨(tg4 B S (⟨0, a, b', pr⟩ : Mv)), a, b', pr⟩ : Mv)) hf139 hf140 hf138 z143 ha hb hp1 (pColor_or hp1) (fun hz => (show 1 ≤ pr ∧ pr ≤ 6 from (by have : pr ≠ 0 := hz; omega))) (fun hz => newP_ok (show 1 ≤ pr ∧ pr ≤ 6 from (by have : pr ≠ 0 := hz; omega)) (pColor_or hp1)) hcs) ?_
  rintro _ w145 ⟨p147, b148, rfl, v146, hf149, hf150, hb151, hb152⟩; refine ⟨_, rfl, ?_⟩
  have hf153 := At.on hf139 v146
  have hf154 := At.on hf140 v146
  have hf155 := At.on hf141 v146
  have hf156 := At.on hf142 v146
  have hf157 := At.on hf138 v146
  have z158 := Glob.on z143 v146
  have v159 := zt v144 v146
  refine zs 1 [rz 12 b83, rz 107 p147, (108, .pointer (some ⟨b83, 1, none⟩))] ?_
  refine reg_store b83 1 (pz p147) none (by kernel_rfl) hf157 (Nat.le_of_ble_eq_true rfl) rfl ?_
  intro w160 hu161
  have hf162 : At w160 b83 (.cells (mvCells (pz p147) ⟨(tg4 B S (⟨0, a, b', pr⟩ : Mv)), a, b', pr⟩) 98 (0, 0)) := hu161.at_
  have hf163 := At.keep hf153 hu161.mod (not_mem1 (At.ne hf153 hf157 rfl))
  have hf164 := At.keep hf154 hu161.mod (not_mem1 (At.ne hf154 hf157 rfl))
  have hf165 := At.keep hf155 hu161.mod (not_mem1 (At.ne hf155 hf157 rfl))
  have hf166 := At.keep hf156 hu161.mod (not_mem1 (At.ne hf156 hf157 rfl))
  have z167 := Glob.keep z158 hu161.mod (by simp <;> omega)
  have v168 := Mod.fresh' v159 hu161.mod (by simp <;> omega)
  refine zx ?_
  refine zs 2 [rz 6 b83, (7, .nilIface)] ?_
  refine zz ?_
  refine w_ret ?_
  exact ret2 Tryz.results200 rfl rfl (⟨b83, _, _, rfl, v168, hf162, by omega⟩)
 have y103 := ne_of_beq_false hc103
 obtain rfl : pr = 0 := by omega
 refine w_skip ?_
 refine n_then ?_
 refine w_seq ?_
 refine zw ?_
 refine zs 2 [rz 1 p, rz 12 b83, (103, .bool false)] ?_
 refine zz ?_
 refine w_false rfl ?_
 refine w_skip ?_
 refine zn ?_
 refine zs 1 [rz 1 p, rz 12 b83, rz 104 p] ?_
 refine reg_call 135 [pz b83, pz p] (some 105) (by kernel_rfl) (c135 (M := (⟨(0 : Int), a, b', (0 : Int)⟩ : Mv)) hf98 hf99 hf97 z101 ha hb hp1 (pColor_or hp1) (fun hz => (show 1 ≤ (0 : Int) ∧ (0 : Int) ≤ 6 from (by have : (0 : Int) ≠ 0 := hz; omega))) (fun hz => newP_ok (show 1 ≤ (0 : Int) ∧ (0 : Int) ≤ 6 from (by have : (0 : Int) ≠ 0 := hz; omega)) (pColor_or hp1)) (by omega) hpre.kings hpre.turn) ?_
 rintro _ w169 ⟨rfl, v170, hf171⟩; refine ⟨_, rfl, ?_⟩
 have hf172 := At.keep hf98 v170 (not_mem1 (At.ne hf98 hf97 rfl))
 have hf173 := At.keep hf99 v170 (not_mem1 (At.ne hf99 hf97 rfl))
 have hf174 := At.keep hf100 v170 (not_mem1 (At.ne hf100 hf97 rfl))
 have z175 := Glob.keep z101 v170 (by simp <;> omega)
 have v176 := Mod.fresh' v102 v170 (by simp <;> omega)
 refine zx ?_
 refine zs 1 [rz 12 b83, rz 106 p] ?_
 refine reg_call 35 [pz p, pz b83] (some 107) (by kernel_rfl) (c35 (S := S) (M := (⟨(tg4 B S (⟨(0 : Int), a, b', (0 : Int)⟩ : Mv)), a, b', (0 : Int)⟩ : Mv)) hf172 hf173 hf171 z175 ha hb hp1 (pColor_or hp1) (fun hz => (show 1 ≤ (0 : Int) ∧ (0 : Int) ≤ 6 from (by have : (0 : Int) ≠ 0 := hz; omega))) (fun hz => newP_ok (show 1 ≤ (0 : Int) ∧ (0 : Int) ≤ 6 from (by have : (0 : Int) ≠ 0 := hz; omega)) (pColor_or hp1)) hcs) ?_
 rintro _ w177 ⟨p179, b180, rfl, v178, hf181, hf182, hb183, hb184⟩; refine ⟨_, rfl, ?_⟩
 have hf185 := At.on hf172 v178
 have hf186 := At.on hf173 v178
 have hf187 := At.on hf174 v178
 have hf188 := At.on hf171 v178
 have z189 := Glob.on z175 v178
 have v190 := zt v176 v178
 refine zs 1 [rz 12 b83, rz 107 p179, (108, .pointer (some ⟨b83, 1, none⟩))] ?_
 refine reg_store b83 1 (pz p179) none (by kernel_rfl) hf188 (Nat.le_of_ble_eq_true rfl) rfl ?_
 intro w191 hu192
 have hf193 : At w191 b83 (.cells (mvCells (pz p179) ⟨(tg4 B S (⟨0, a, b', 0⟩ : Mv)), a, b', 0⟩) 98 (0, 0)) := hu192.at_
 have hf194 := At.keep hf185 hu192.mod (not_mem1 (At.ne hf185 hf188 rfl))
 have hf195 := At.keep hf186 hu192.mod (not_mem1 (At.ne hf186 hf188 rfl))
 have hf196 := At.keep hf187 hu192.mod (not_mem1 (At.ne hf187 hf188 rfl))
 have z197 := Glob.keep z189 hu192.mod (by simp <;> omega)
 have v198 := Mod.fresh' v190 hu192.mod (by simp <;> omega)
 refine zx ?_
 refine zs 2 [rz 6 b83, (7, .nilIface)] ?_
 refine zz ?_
 refine w_ret ?_
 exact ret2 Tryz.results200 rfl rfl (⟨b83, _, _, rfl, v198, hf193, by omega⟩)
end Go.Proofs.YtgnhellfhjoaaaaGreatDoor
