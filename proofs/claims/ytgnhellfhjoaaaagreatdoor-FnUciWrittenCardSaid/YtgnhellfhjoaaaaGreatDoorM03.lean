/-
  FnUciWritten: in every right position each legal move is written by the rules of the universal chess interface as the definition writes it, and what is written is read as the move (a part of the proof).
  Conditions: those of each theorem.
-/
import Derived.Test.YtgnhellfhjoaaaaGreatDoorM01
import Derived.Test.YtgnhellfhjoaaaaGreatDoorM02
import Derived.Shelf.Strings.Builder1
import Derived.Shelf.Strings.Builder2
import Derived.Shelf.Strings.OnBuilder
import Derived.Shelf.Small.Utf8
import Derived.Shelf.Strings.BuilderF
import Derived.Shelf.Strings.BuilderK
import Derived.Shelf.Strings.Builder2Cap
import Derived.Shelf.Unicode.Latin
import Derived.Shelf.Unicode.Decode
import Derived.Shelf.Unicode.DecodeSlow
import Derived.Shelf.Unicode.DecodeAny
import Derived.Shelf.Unicode.CaseLookup
import Derived.Shelf.Unicode.CaseConvert
import Derived.Shelf.Unicode.CaseTo
import Derived.Shelf.Unicode.CaseLaid
import Derived.Test.YtgnhellfhjoaaaaGreatDoorProg
set_option linter.unusedVariables false
set_option linter.unusedSimpArgs false
namespace Go.Proofs.YtgnhellfhjoaaaaGreatDoor
open Go Go.RowKit
set_option maxRecDepth 100000
def mvsL (l : List Mv) : List Value := l.flatMap fun m => (mvCells (.pointer none) m).toList
theorem mvsL_len : ∀ (l : List Mv), (mvsL l).length = l.length * 11
 | [] => rfl
 | m :: l => by
  have := mvsL_len l
  simp only [mvsL, List.flatMap_cons, List.length_append, List.length_cons] at this ⊢
  rw [this]; simp [mvCells]; omega
theorem mvsL_append (l l' : List Mv) : mvsL (l ++ l') = mvsL l ++ mvsL l' := by simp [mvsL]
theorem oneCells_append : ∀ (a b : List Value), oneCells (a ++ b) = (oneCells a && oneCells b)
 | [], b => by simp [oneCells]
 | v :: a, b => by simp [oneCells, oneCells_append a b, Bool.and_assoc]
theorem oneCells_mvs : ∀ (l : List Mv), oneCells (mvsL l) = true
 | [] => rfl
 | m :: l => by
  have := oneCells_mvs l
  simp only [mvsL, List.flatMap_cons] at this ⊢
  rw [oneCells_append, this]; rfl
theorem storeRow_take : ∀ (vs : List Value) (cs : Array Value) (off : Nat), off + vs.length ≤ cs.size → (storeRow cs off vs).toList.take (off + vs.length) = cs.toList.take off ++ vs
 | [], cs, off, h => by simp [storeRow]
 | v :: r, cs, off, h => by
  simp only [List.length_cons] at h
  have hlt : off < cs.toList.length := by simp; omega
  rw [storeRow, List.length_cons, show off + (r.length + 1) = off + 1 + r.length by omega, storeRow_take r _ (off + 1) (by simp; omega)]
  rw [Array.toList_setIfInBounds, List.take_succ_eq_append_getElem (by simpa using hlt), List.take_set_of_le (by omega)]
  simp
structure MvArr (A : Array Value) (l : List Mv) : Prop where
 size : A.size = 2398
 take : A.toList.take (l.length * 11) = mvsL l
theorem MvArr.push {A : Array Value} {l : List Mv} {m : Mv} {off : Nat} (h : MvArr A l) (hl : l.length < 218) (ho : off = l.length * 11) : MvArr (storeRow A off (mvCells (.pointer none) m).toList) (l ++ [m]) := by
 subst ho
 refine ⟨by rw [storeRow_size]; exact h.size, ?_⟩
 have hs := h.size
 have e : (l ++ [m]).length * 11 = l.length * 11 + (mvCells (.pointer none) m).toList.length := by simp [mvCells]; omega
 rw [e, storeRow_take _ _ _ (by simp [mvCells]; omega), h.take, mvsL_append]
 simp [mvsL]
theorem MvArr.row {A : Array Value} {l : List Mv} {w : World} {b : Nat} {t : TypeId} {fr : Nat × Nat} (h : MvArr A l) (hl : l.length ≤ 218) (ha : At w b (.cells A t fr)) : (Ob.row ⟨b, 0, none⟩ (l.length * 11) (mvsL l).toArray).holds w := by
 refine At.part ha (by simp [mvsL_len]) fun j hj => ?_
 have hs := h.size
 have := h.take
 rw [← this]
 simp [List.getElem?_take, hj]
noncomputable def zero176 : Array Value := match Tryz.prog.info? 176 with | some i => (match i.zero with | some z => z.cells | none => #[]) | none => #[]
theorem MvArr.zero : MvArr zero176 [] := ⟨by kernel_rfl, rfl⟩
def fm {α : Type} (f : Int → List α) (n : Nat) : List α := (List.range n).flatMap fun (k : Nat) => f (k : Int)
theorem fm_succ {α : Type} {f : Int → List α} {j : Int} (h : 0 ≤ j) : fm f (j + 1).toNat = fm f j.toNat ++ f j := by
 have e : (j + 1).toNat = j.toNat + 1 := by omega
 unfold fm
 rw [e, List.range_succ, List.flatMap_append]
 simp [Int.toNat_of_nonneg h]
theorem fm_mono {α : Type} {f : Int → List α} {a b : Nat} (h : a ≤ b) : (fm f a).length ≤ (fm f b).length := by
 obtain ⟨d, rfl⟩ := Nat.le.dest h
 unfold fm
 rw [List.range_add, List.flatMap_append, List.length_append]
 omega
theorem fm_le {α : Type} {f : Int → List α} {j : Int} {n : Nat} (h : 0 ≤ j) (hn : j < n) : (fm f j.toNat).length + (f j).length ≤ (fm f n).length := by
 have := fm_mono (f := f) (a := (j + 1).toNat) (b := n) (by omega)
 rw [fm_succ h, List.length_append] at this
 exact this
def allowed (B : Bd) (turn : Int) : Int := bif turn == (2 : Int) then bnot B.black else bnot B.white
def isPromo (p s2 : Int) : Bool := ((p == (6 : Int)) && (sqRank s2 == (7 : Int))) || ((p == (12 : Int)) && (sqRank s2 == (0 : Int)))
def promoT (B : Bd) (S : Ps) (s1 s2 : Int) : Nat → Int
 | 0 => 0
 | k + 1 => tg4 B S ⟨promoT B S s1 s2 k, s1, s2, (k : Int) + 2⟩
def keepM (m : Mv) : List Mv := bif hasTag m (32 : Int) then [] else [m]
def promoF (B : Bd) (S : Ps) (s1 s2 k : Int) : List Mv := keepM ⟨tg4 B S ⟨promoT B S s1 s2 k.toNat, s1, s2, k + 2⟩, s1, s2, k + 2⟩
def plainM (B : Bd) (S : Ps) (s1 s2 : Int) : Mv := ⟨tg4 B S ⟨0, s1, s2, 0⟩, s1, s2, 0⟩
def dest (B : Bd) (S : Ps) (p s1 : Int) : Int := band (possMv B S (pType p) s1) (allowed B S.turn)
def s2F (B : Bd) (S : Ps) (p s1 s2 : Int) : List Mv :=
 bif band (dest B S p s1) (bbSq s2) == (0 : Int) then [] else bif isPromo p s2 then fm (promoF B S s1 s2) 4 else keepM (plainM B S s1 s2)
def s1F (B : Bd) (S : Ps) (p s1 : Int) : List Mv :=
 bif band (Bd.of B p) (bbSq s1) == (0 : Int) then [] else bif dest B S p s1 == (0 : Int) then [] else fm (s2F B S p s1) 64
def pF (B : Bd) (S : Ps) (j : Int) : List Mv :=
 bif S.turn != pColor (j + 1) then [] else bif Bd.of B (j + 1) == (0 : Int) then [] else fm (s1F B S (j + 1)) 64
def stdL (B : Bd) (S : Ps) : List Mv := fm (pF B S) 12
theorem pColor_or {p : Int} (h : 1 ≤ p ∧ p ≤ 12) : pColor p = 1 ∨ pColor p = 2 := by unfold pColor; split <;> (try split) <;> omega
theorem newP_ok {t c : Int} (h : 1 ≤ t ∧ t ≤ 6) (hc : c = 1 ∨ c = 2) : 1 ≤ newP t c ∧ newP t c ≤ 12 := by unfold newP; omega
theorem own_of_at {w : World} {g b0 size n : Nat} {e : TypeId} {xs : List Value} (h : At w g (.cells xs.toArray e (0, 0))) (hb : b0 ≤ g) (hl : xs.length = n * size) (hn : n ≤ 1000) : Own w b0 e size (some ⟨g, 0, none⟩) n n xs :=
 ⟨hl, .inr ⟨g, n, xs.toArray, rfl, hb, h, Nat.le_refl _, by simp only [maxLen]; omega, by simpa using hl, by simp [← hl]⟩⟩
theorem promoT_succ {B : Bd} {S : Ps} {s1 s2 k : Int} (h : 0 ≤ k) : promoT B S s1 s2 (k + 1).toNat = tg4 B S ⟨promoT B S s1 s2 k.toNat, s1, s2, k + 2⟩ := by
 have e : (k + 1).toNat = k.toNat + 1 := by omega
 rw [e]; simp only [promoT]; rw [show ((k.toNat : Nat) : Int) = k from by omega]
set_option maxHeartbeats 800000 in
theorem c122f {c : GC} {p b : Nat} {vm : Value} {S : Ps} {w : World} (hp : At w p (.cells (psCells b vm S) 110 (0, 0))) {B : Bd} (hb : At w b (.cells (bdCells B) 135 (0, 0))) (hG : Glob c w) (hLen : (stdL B S).length ≤ 218) (hpc : ∀ p s : Int, (1 ≤ p ∧ p ≤ 12) → (0 ≤ s ∧ s ≤ 63) → (band (Bd.of B p) (bbSq s) == (0 : Int)) = false → 1 ≤ pieceAt B s ∧ pieceAt B s ≤ 12) (hk : KingsOk B) (hT : S.turn = 1 ∨ S.turn = 2) (he : -1 ≤ S.ep ∧ S.ep ≤ 63) :
  Calls Tryz.prog 122 [pz p, .bool false].toArray w (fun e w' => ∃ g, e = .returned (.slice (some ⟨g, 0, none⟩) (stdL B S).length (stdL B S).length) ∧ Mod [] w w' ∧ Own w' w.heap.size 98 11 (some ⟨g, 0, none⟩) (stdL B S).length (stdL B S).length (mvsL (stdL B S))) := by
 have v0 : Mod [] w w := Mod.refl _ _
 refine enter (n := 159) Tryz.func122 rfl Tryz.ntmps122 rfl ?_
 refine zw ?_
 refine zs 1 [rz 0 p, (1, .bool false)] ?_
 refine zx ?_
 refine reg_alloc zero176 176 (some 5) (by kernel_rfl) ?_
 intro b1 w2 hn3
 have hb4 : c.base ≤ b1 := Glob.lt hG hn3
 have hb5 := Nat.le_trans v0.size hn3.base
 have v6 := hn3.mod
 have hf7 := At.on hp v6
 have hf8 := At.on hb v6
 have z9 := Glob.on hG v6
 have v10 := zt v0 v6
 have hf11 := hn3.at_
 refine zx ?_
 refine zs 1 [rz 0 p, (1, .bool false), rz 5 b1, iz 6 0] ?_
 refine zx ?_
 refine reg_alloc (mvCells (.pointer none) (⟨0, 0, 0, 0⟩ : Mv)) 98 (some 7) (by kernel_rfl) ?_
 intro b12 w13 hn14
 have hb15 : c.base ≤ b12 := Glob.lt z9 hn14
 have hb16 := Nat.le_trans v10.size hn14.base
 have v17 := hn14.mod
 have hf18 := At.on hf7 v17
 have hf19 := At.on hf8 v17
 have hf20 := At.on hf11 v17
 have z21 := Glob.on z9 v17
 have v22 := zt v10 v17
 have hf23 := hn14.at_
 refine zx ?_
 refine zo 9 [rz 0 p, (1, .bool false), rz 5 b1, iz 6 0, rz 7 b12, (8, .int .u64 (bnot B.white))] [.cell ⟨p, 0, none⟩ (pz b), .cell ⟨b, 12, none⟩ (.int .u64 B.white)] (⟨At.cell hf18 rfl, At.cell hf19 rfl⟩) ?_
 refine zz ?_
 refine w_cut (γ := Int) (fun g24 => [(0, pz p), (1, .bool false), (5, pz b1), (6, .int .i64 0), (7, pz b12), (8, .int .u64 g24)]) (fun g24 w_ => Mod [] w13 w_ ∧ g24 = (allowed B S.turn)) ?_ ?_
 ·have v27 : Mod [] w13 w13 := Mod.refl _ _
  refine zw ?_
  refine zs 1 [rz 0 p, (1, .bool false), rz 5 b1, iz 6 0, rz 7 b12, (8, .int .u64 (bnot B.white)), rz 28 p] ?_
  refine zk (some 29) (c66 hf18 ) ?_
  intro w28 v29
  have hf30 := At.on hf18 v29
  have hf31 := At.on hf19 v29
  have v36 := zt v27 v29
  refine zs 1 [rz 0 p, (1, .bool false), rz 5 b1, iz 6 0, rz 7 b12, (8, .int .u64 (bnot B.white)), (30, .bool (S.turn == 2))] ?_
  refine zz ?_
  refine zc (fun hc37 => ?_) fun hc37 => ?_
  ·have y37 := eq_of_beq hc37
   refine w_region ?_
   refine zo 9 [rz 0 p, (1, .bool false), rz 5 b1, iz 6 0, rz 7 b12, (8, .int .u64 (bnot B.black))] [.cell ⟨p, 0, none⟩ (pz b), .cell ⟨b, 13, none⟩ (.int .u64 B.black)] (⟨At.cell hf30 rfl, At.cell hf31 rfl⟩) ?_
   refine ze ?_
   exact c_back (bnot B.black) [0, 1, 5, 6, 7, 8] (by kernel_rfl) ⟨v36, (by simp only [allowed, hc37, cond_true, cond_false])⟩
  have y37 := ne_of_beq_false hc37
  refine w_skip ?_
  exact c_back (bnot B.white) [0, 1, 5, 6, 7, 8] (by kernel_rfl) ⟨v36, (by simp only [allowed, hc37, cond_true, cond_false])⟩
 rintro _ w25 ⟨v26, rfl⟩
 have hf38 := At.on hf18 v26
 have hf39 := At.on hf19 v26
 have hf40 := At.on hf20 v26
 have hf41 := At.on hf23 v26
 have z42 := Glob.on z21 v26
 have v43 := zt v22 v26
 refine w_seq ?_
 refine zw ?_
 refine zo 3 [rz 0 p, (1, .bool false), rz 5 b1, iz 6 0, rz 7 b12, (8, .int .u64 (allowed B S.turn)), (39, .slice (some ⟨c.ap, c.apo, none⟩) 12 12), iz 40 ((12 : Nat) : Int), iz 41 0] [.cell ⟨0, 0, none⟩ (.slice (some ⟨c.ap, c.apo, none⟩) 12 12)] (Glob.g0 z42) ?_
 refine zz ?_
 refine w_block ?_
 have he55 : [] = fm (pF B S) (0 : Int).toNat := by simp [fm]
 refine w_loop (γ := Int × Array Value × Mv) (fun q47 => (12 - q47.1).toNat) (fun q47 => [(0, pz p), (1, .bool false), (5, pz b1), (6, .int .i64 (((fm (pF B S) q47.1.toNat).length : Nat) : Int)), (7, pz b12), (8, .int .u64 (allowed B S.turn)), (39, .slice (some ⟨c.ap, c.apo, none⟩) 12 12), (40, .int .i64 ((12 : Nat) : Int)), (41, .int .i64 q47.1)]) (fun (q47 : Int × Array Value × Mv) w_ => (0 ≤ q47.1 ∧ q47.1 ≤ 12) ∧ Mod [b1, b12] w25 w_ ∧ At w_ b1 (.cells q47.2.1 176 (0, 0)) ∧ At w_ b12 (.cells (mvCells (.pointer none) q47.2.2) 98 (0, 0)) ∧ MvArr q47.2.1 (fm (pF B S) q47.1.toNat)) (0, zero176, (⟨0, 0, 0, 0⟩ : Mv)) (hold_keep [0, 1, 5, 6, 7, 8, 39, 40, 41] (by kernel_rfl)) ⟨by constructor <;> dsimp only <;> omega, Mod.refl _ _, hf40, hf41, he55 ▸ MvArr.zero⟩ ?_
 rintro ⟨g44, A45, M46⟩ w48 ⟨⟨h50, h51⟩, v49, hf52, hf53, hx54⟩
 replace h50 : 0 ≤ g44 := h50
 replace h51 : g44 ≤ 12 := h51
 replace hf52 : At w48 b1 (.cells A45 176 (0, 0)) := hf52
 replace hf53 : At w48 b12 (.cells (mvCells (.pointer none) M46) 98 (0, 0)) := hf53
 replace hx54 : MvArr A45 (fm (pF B S) g44.toNat) := hx54
 have hf56 := At.keep hf38 v49 (not_mem2 (At.ne hf38 hf40 rfl) (At.ne hf38 hf41 rfl))
 have hf57 := At.keep hf39 v49 (not_mem2 (At.ne hf39 hf40 rfl) (At.ne hf39 hf41 rfl))
 have z58 := Glob.keep z42 v49 (by simp <;> omega)
 have v59 := Mod.fresh' v43 v49 (by simp <;> omega)
 refine zw ?_
 refine zs 1 [rz 0 p, (1, .bool false), rz 5 b1, iz 6 (((fm (pF B S) g44.toNat).length : Nat) : Int), rz 7 b12, (8, .int .u64 (allowed B S.turn)), (39, .slice (some ⟨c.ap, c.apo, none⟩) 12 12), iz 40 ((12 : Nat) : Int), iz 41 g44, (42, .bool (decide (g44 < ((12 : Nat) : Int))))] ?_
 refine zz ?_
 refine w_seq ?_
 refine zc (fun hc60 => ?_) fun hc60 => ?_
 ·have y60 := of_decide_eq_true hc60
  refine w_skip ?_
  refine n_then ?_
  refine w_seq ?_
  refine w_block ?_
  refine zw ?_
  refine zo 3 [rz 0 p, (1, .bool false), rz 5 b1, iz 6 (((fm (pF B S) g44.toNat).length : Nat) : Int), rz 7 b12, (8, .int .u64 (allowed B S.turn)), (10, .int .i8 (((g44.toNat * 1 : Nat) : Int) + 1)), (39, .slice (some ⟨c.ap, c.apo, none⟩) 12 12), iz 40 ((12 : Nat) : Int), iz 41 g44] [.prop (0 ≤ g44 ∧ g44 < ((12 : Nat) : Int)), .cell ⟨c.ap, (c.apo + g44.toNat * 1), none⟩ (.int .i8 (((g44.toNat * 1 : Nat) : Int) + 1))] (⟨(zh (by omega)), (Glob.pieces z58 (g44.toNat * 1) (by omega))⟩) ?_
  refine ze ?_
  rw [(show ((((g44.toNat * 1 : Nat) : Int) + 1) : Int) = (g44 + 1) from (by omega))]
  refine n_then ?_
  refine w_seq ?_
  refine zw ?_
  refine zs 1 [rz 0 p, (1, .bool false), rz 5 b1, iz 6 (((fm (pF B S) g44.toNat).length : Nat) : Int), rz 7 b12, (8, .int .u64 (allowed B S.turn)), (10, .int .i8 (g44 + 1)), (39, .slice (some ⟨c.ap, c.apo, none⟩) 12 12), iz 40 ((12 : Nat) : Int), iz 41 g44, rz 45 p] ?_
  refine zk (some 46) (c66 hf56 ) ?_
  intro w61 v62
  have hf63 := At.on hf56 v62
  have hf64 := At.on hf57 v62
  have hf65 := At.on hf52 v62
  have hf66 := At.on hf53 v62
  have z67 := Glob.on z58 v62
  have v69 := Mod.trans v49 (Mod.of_nil v62)
  refine zs 1 [rz 0 p, (1, .bool false), rz 5 b1, iz 6 (((fm (pF B S) g44.toNat).length : Nat) : Int), rz 7 b12, (8, .int .u64 (allowed B S.turn)), (10, .int .i8 (g44 + 1)), (39, .slice (some ⟨c.ap, c.apo, none⟩) 12 12), iz 40 ((12 : Nat) : Int), iz 41 g44, (46, .int .i8 S.turn), (47, .int .i8 (g44 + 1))] ?_
  refine zk (some 48) (c102 (g44 + 1) w61) ?_
  intro w70 v71
  have hf72 := At.on hf63 v71
  have hf73 := At.on hf64 v71
  have hf74 := At.on hf65 v71
  have hf75 := At.on hf66 v71
  have z76 := Glob.on z67 v71
  have v78 := Mod.trans v69 (Mod.of_nil v71)
  refine zs 1 [rz 0 p, (1, .bool false), rz 5 b1, iz 6 (((fm (pF B S) g44.toNat).length : Nat) : Int), rz 7 b12, (8, .int .u64 (allowed B S.turn)), (10, .int .i8 (g44 + 1)), (39, .slice (some ⟨c.ap, c.apo, none⟩) 12 12), iz 40 ((12 : Nat) : Int), iz 41 g44, (49, .bool (S.turn != (pColor (g44 + 1))))] ?_
  refine zz ?_
  refine zc (fun hc79 => ?_) fun hc79 => ?_
  ·refine w_exit ?_
   refine x_then ?_
   refine x_hit ?_
   refine n_then ?_
   refine w_region ?_
   refine zs 2 [rz 0 p, (1, .bool false), rz 5 b1, iz 6 (((fm (pF B S) g44.toNat).length : Nat) : Int), rz 7 b12, (8, .int .u64 (allowed B S.turn)), (39, .slice (some ⟨c.ap, c.apo, none⟩) 12 12), iz 40 ((12 : Nat) : Int), iz 41 (IntKind.i64.wrap (g44 + 1))] ?_
   refine ze ?_
   rw [zi (g44 + 1) (by omega) (by omega)]
   have he80 : fm (pF B S) g44.toNat = fm (pF B S) (g44 + 1).toNat := by rw [fm_succ (by omega)]; simp only [pF, hc79, cond_true, cond_false, Bool.not_true, Bool.not_false, List.append_nil]
   rw [he80]
   have hX82 : MvArr A45 (fm (pF B S) (g44 + 1).toNat) := he80 ▸ hx54
   have hM83 : At w70 b12 (.cells (mvCells (.pointer none) M46) 98 (0, 0)) := hf75
   obtain ⟨Aq84, hA81, hX82⟩ : ∃ A, At w70 b1 (.cells A 176 (0, 0)) ∧ MvArr A (fm (pF B S) (g44 + 1).toNat) := ⟨_, hf74, hX82⟩
   exact l_back ((g44 + 1), Aq84, M46) [0, 1, 5, 6, 7, 8, 39, 40, 41] (by kernel_rfl) (by dsimp only; omega) ⟨by constructor <;> dsimp only <;> omega, v78, hA81, hM83, hX82⟩
  refine w_skip ?_
  refine zn ?_
  refine zo 5 [rz 0 p, (1, .bool false), rz 5 b1, iz 6 (((fm (pF B S) g44.toNat).length : Nat) : Int), rz 7 b12, (8, .int .u64 (allowed B S.turn)), (10, .int .i8 (g44 + 1)), (39, .slice (some ⟨c.ap, c.apo, none⟩) 12 12), iz 40 ((12 : Nat) : Int), iz 41 g44, rz 53 b, (54, .int .i8 (g44 + 1))] [.cell ⟨p, 0, none⟩ (pz b)] (At.cell hf72 rfl) ?_
  refine zk (some 55) (c97 hf73 (g44 + 1)) ?_
  intro w85 v86
  have hf87 := At.on hf72 v86
  have hf88 := At.on hf73 v86
  have hf89 := At.on hf74 v86
  have hf90 := At.on hf75 v86
  have z91 := Glob.on z76 v86
  have v93 := Mod.trans v78 (Mod.of_nil v86)
  refine zs 1 [rz 0 p, (1, .bool false), rz 5 b1, iz 6 (((fm (pF B S) g44.toNat).length : Nat) : Int), rz 7 b12, (8, .int .u64 (allowed B S.turn)), (10, .int .i8 (g44 + 1)), (11, .int .u64 (Bd.of B (g44 + 1))), (39, .slice (some ⟨c.ap, c.apo, none⟩) 12 12), iz 40 ((12 : Nat) : Int), iz 41 g44] ?_
  refine zz ?_
  refine w_seq ?_
  refine zw ?_
  refine zs 2 [rz 0 p, (1, .bool false), rz 5 b1, iz 6 (((fm (pF B S) g44.toNat).length : Nat) : Int), rz 7 b12, (8, .int .u64 (allowed B S.turn)), (10, .int .i8 (g44 + 1)), (11, .int .u64 (Bd.of B (g44 + 1))), (39, .slice (some ⟨c.ap, c.apo, none⟩) 12 12), iz 40 ((12 : Nat) : Int), iz 41 g44, (57, .bool ((Bd.of B (g44 + 1)) == 0))] ?_
  refine zz ?_
  refine zc (fun hc94 => ?_) fun hc94 => ?_
  ·have y94 := eq_of_beq hc94
   refine w_exit ?_
   refine x_then ?_
   refine x_hit ?_
   refine n_then ?_
   refine w_region ?_
   refine zs 2 [rz 0 p, (1, .bool false), rz 5 b1, iz 6 (((fm (pF B S) g44.toNat).length : Nat) : Int), rz 7 b12, (8, .int .u64 (allowed B S.turn)), (39, .slice (some ⟨c.ap, c.apo, none⟩) 12 12), iz 40 ((12 : Nat) : Int), iz 41 (IntKind.i64.wrap (g44 + 1))] ?_
   refine ze ?_
   rw [zi (g44 + 1) (by omega) (by omega)]
   have he95 : fm (pF B S) g44.toNat = fm (pF B S) (g44 + 1).toNat := by rw [fm_succ (by omega)]; simp only [pF, hc79, hc94, cond_true, cond_false, Bool.not_true, Bool.not_false, List.append_nil]
   rw [he95]
   have hX97 : MvArr A45 (fm (pF B S) (g44 + 1).toNat) := he95 ▸ hx54
   have hM98 : At w85 b12 (.cells (mvCells (.pointer none) M46) 98 (0, 0)) := hf90
   obtain ⟨Aq99, hA96, hX97⟩ : ∃ A, At w85 b1 (.cells A 176 (0, 0)) ∧ MvArr A (fm (pF B S) (g44 + 1).toNat) := ⟨_, hf89, hX97⟩
   exact l_back ((g44 + 1), Aq99, M46) [0, 1, 5, 6, 7, 8, 39, 40, 41] (by kernel_rfl) (by dsimp only; omega) ⟨by constructor <;> dsimp only <;> omega, v93, hA96, hM98, hX97⟩
  have y94 := ne_of_beq_false hc94
  refine w_skip ?_
  refine n_then ?_
  refine w_seq ?_
  have hb100 : (fm (pF B S) g44.toNat).length + (fm (s1F B S (g44 + 1)) 64).length ≤ 218 := by
   have hh := fm_le (f := pF B S) (n := 12) (j := g44) (by omega) (by omega)
   simp only [pF, hc79, hc94, cond_true, cond_false] at hh
   exact Nat.le_trans hh hLen
  refine w_region ?_
  refine zs 1 [rz 0 p, (1, .bool false), rz 5 b1, iz 6 (((fm (pF B S) g44.toNat).length : Nat) : Int), rz 7 b12, (8, .int .u64 (allowed B S.turn)), (10, .int .i8 (g44 + 1)), (11, .int .u64 (Bd.of B (g44 + 1))), (39, .slice (some ⟨c.ap, c.apo, none⟩) 12 12), iz 40 ((12 : Nat) : Int), iz 41 g44, iz 58 0] ?_
  refine zz ?_
  refine w_block ?_
  have he112 : fm (pF B S) g44.toNat = fm (pF B S) g44.toNat ++ fm (s1F B S (g44 + 1)) (0 : Int).toNat := by simp [fm]
  rw [he112]
  refine w_loop (γ := Int × Array Value × Mv) (fun q104 => (64 - q104.1).toNat) (fun q104 => [(0, pz p), (1, .bool false), (5, pz b1), (6, .int .i64 (((fm (pF B S) g44.toNat ++ fm (s1F B S (g44 + 1)) q104.1.toNat).length : Nat) : Int)), (7, pz b12), (8, .int .u64 (allowed B S.turn)), (10, .int .i8 (g44 + 1)), (11, .int .u64 (Bd.of B (g44 + 1))), (39, .slice (some ⟨c.ap, c.apo, none⟩) 12 12), (40, .int .i64 ((12 : Nat) : Int)), (41, .int .i64 g44), (58, .int .i64 q104.1)]) (fun (q104 : Int × Array Value × Mv) w_ => (0 ≤ q104.1 ∧ q104.1 ≤ 64) ∧ Mod [b1, b12] w85 w_ ∧ At w_ b1 (.cells q104.2.1 176 (0, 0)) ∧ At w_ b12 (.cells (mvCells (.pointer none) q104.2.2) 98 (0, 0)) ∧ MvArr q104.2.1 (fm (pF B S) g44.toNat ++ fm (s1F B S (g44 + 1)) q104.1.toNat)) (0, A45, M46) (hold_keep [0, 1, 5, 6, 7, 8, 10, 11, 39, 40, 41, 58] (by kernel_rfl)) ⟨by constructor <;> dsimp only <;> omega, Mod.refl _ _, hf89, hf90, he112 ▸ hx54⟩ ?_
  rintro ⟨g101, A102, M103⟩ w105 ⟨⟨h107, h108⟩, v106, hf109, hf110, hx111⟩
  replace h107 : 0 ≤ g101 := h107
  replace h108 : g101 ≤ 64 := h108
  replace hf109 : At w105 b1 (.cells A102 176 (0, 0)) := hf109
  replace hf110 : At w105 b12 (.cells (mvCells (.pointer none) M103) 98 (0, 0)) := hf110
  replace hx111 : MvArr A102 (fm (pF B S) g44.toNat ++ fm (s1F B S (g44 + 1)) g101.toNat) := hx111
  have hf113 := At.keep hf87 v106 (not_mem2 (At.ne hf87 hf89 rfl) (At.ne hf87 hf90 rfl))
  have hf114 := At.keep hf88 v106 (not_mem2 (At.ne hf88 hf89 rfl) (At.ne hf88 hf90 rfl))
  have z115 := Glob.keep z91 v106 (by simp <;> omega)
  have v117 := Mod.fresh' v93 v106 (by simp <;> omega)
  refine zw ?_
  refine zs 1 [rz 0 p, (1, .bool false), rz 5 b1, iz 6 (((fm (pF B S) g44.toNat ++ fm (s1F B S (g44 + 1)) g101.toNat).length : Nat) : Int), rz 7 b12, (8, .int .u64 (allowed B S.turn)), (10, .int .i8 (g44 + 1)), (11, .int .u64 (Bd.of B (g44 + 1))), (39, .slice (some ⟨c.ap, c.apo, none⟩) 12 12), iz 40 ((12 : Nat) : Int), iz 41 g44, iz 58 g101, (59, .bool (decide (g101 < 64)))] ?_
  refine zz ?_
  refine w_seq ?_
  refine zc (fun hc118 => ?_) fun hc118 => ?_
  ·have y118 := of_decide_eq_true hc118
   refine w_skip ?_
   refine n_then ?_
   refine w_seq ?_
   refine w_block ?_
   refine zw ?_
   refine zs 2 [rz 0 p, (1, .bool false), rz 5 b1, iz 6 (((fm (pF B S) g44.toNat ++ fm (s1F B S (g44 + 1)) g101.toNat).length : Nat) : Int), rz 7 b12, (8, .int .u64 (allowed B S.turn)), (10, .int .i8 (g44 + 1)), (11, .int .u64 (Bd.of B (g44 + 1))), iz 12 g101, (39, .slice (some ⟨c.ap, c.apo, none⟩) 12 12), iz 40 ((12 : Nat) : Int), iz 41 g44, iz 58 g101] ?_
   refine zz ?_
   refine w_seq ?_
   refine zw ?_
   refine zs 3 [rz 0 p, (1, .bool false), rz 5 b1, iz 6 (((fm (pF B S) g44.toNat ++ fm (s1F B S (g44 + 1)) g101.toNat).length : Nat) : Int), rz 7 b12, (8, .int .u64 (allowed B S.turn)), (10, .int .i8 (g44 + 1)), (11, .int .u64 (Bd.of B (g44 + 1))), iz 12 g101, (39, .slice (some ⟨c.ap, c.apo, none⟩) 12 12), iz 40 ((12 : Nat) : Int), iz 41 g44, iz 58 g101, (61, .int .u64 (Bd.of B (g44 + 1))), (63, .int .i8 (IntKind.i8.wrap g101))] ?_
   rw [(show ((IntKind.i8.wrap g101) : Int) = g101 from i8_in' (by omega) (by omega))]
   refine zk (some 64) (c99 g101 w105 (by omega) (by omega)) ?_
   intro w119 v120
   have hf121 := At.on hf113 v120
   have hf122 := At.on hf114 v120
   have hf123 := At.on hf109 v120
   have hf124 := At.on hf110 v120
   have z125 := Glob.on z115 v120
   have v128 := Mod.trans v106 (Mod.of_nil v120)
   refine zs 2 [rz 0 p, (1, .bool false), rz 5 b1, iz 6 (((fm (pF B S) g44.toNat ++ fm (s1F B S (g44 + 1)) g101.toNat).length : Nat) : Int), rz 7 b12, (8, .int .u64 (allowed B S.turn)), (10, .int .i8 (g44 + 1)), (11, .int .u64 (Bd.of B (g44 + 1))), iz 12 g101, (39, .slice (some ⟨c.ap, c.apo, none⟩) 12 12), iz 40 ((12 : Nat) : Int), iz 41 g44, iz 58 g101, (66, .bool ((band (Bd.of B (g44 + 1)) (bbSq g101)) == 0))] ?_
   refine zz ?_
   refine zc (fun hc129 => ?_) fun hc129 => ?_
   ·have y129 := eq_of_beq hc129
    refine w_exit ?_
    refine x_then ?_
    refine x_hit ?_
    refine n_then ?_
    refine w_region ?_
    refine zs 2 [rz 0 p, (1, .bool false), rz 5 b1, iz 6 (((fm (pF B S) g44.toNat ++ fm (s1F B S (g44 + 1)) g101.toNat).length : Nat) : Int), rz 7 b12, (8, .int .u64 (allowed B S.turn)), (10, .int .i8 (g44 + 1)), (11, .int .u64 (Bd.of B (g44 + 1))), (39, .slice (some ⟨c.ap, c.apo, none⟩) 12 12), iz 40 ((12 : Nat) : Int), iz 41 g44, iz 58 (IntKind.i64.wrap (g101 + 1))] ?_
    refine ze ?_
    rw [zi (g101 + 1) (by omega) (by omega)]
    have he130 : fm (pF B S) g44.toNat ++ fm (s1F B S (g44 + 1)) g101.toNat = fm (pF B S) g44.toNat ++ fm (s1F B S (g44 + 1)) (g101 + 1).toNat := by rw [fm_succ (by omega), ← List.append_assoc]; simp only [s1F, dest, hc79, hc94, hc129, cond_true, cond_false, Bool.not_true, Bool.not_false, List.append_nil]
    rw [he130]
    have hX132 : MvArr A102 (fm (pF B S) g44.toNat ++ fm (s1F B S (g44 + 1)) (g101 + 1).toNat) := he130 ▸ hx111
    have hM133 : At w119 b12 (.cells (mvCells (.pointer none) M103) 98 (0, 0)) := hf124
    obtain ⟨Aq134, hA131, hX132⟩ : ∃ A, At w119 b1 (.cells A 176 (0, 0)) ∧ MvArr A (fm (pF B S) g44.toNat ++ fm (s1F B S (g44 + 1)) (g101 + 1).toNat) := ⟨_, hf123, hX132⟩
    exact l_back ((g101 + 1), Aq134, M103) [0, 1, 5, 6, 7, 8, 10, 11, 39, 40, 41, 58] (by kernel_rfl) (by dsimp only; omega) ⟨by constructor <;> dsimp only <;> omega, v128, hA131, hM133, hX132⟩
   have y129 := ne_of_beq_false hc129
   refine w_skip ?_
   refine zn ?_
   refine zs 2 [rz 0 p, (1, .bool false), rz 5 b1, iz 6 (((fm (pF B S) g44.toNat ++ fm (s1F B S (g44 + 1)) g101.toNat).length : Nat) : Int), rz 7 b12, (8, .int .u64 (allowed B S.turn)), (10, .int .i8 (g44 + 1)), (11, .int .u64 (Bd.of B (g44 + 1))), iz 12 g101, (39, .slice (some ⟨c.ap, c.apo, none⟩) 12 12), iz 40 ((12 : Nat) : Int), iz 41 g44, iz 58 g101, rz 67 p, (68, .int .i8 (g44 + 1))] ?_
   refine zk (some 69) (c73 (g44 + 1) w119) ?_
   intro w135 v136
   have hf137 := At.on hf121 v136
   have hf138 := At.on hf122 v136
   have hf139 := At.on hf123 v136
   have hf140 := At.on hf124 v136
   have z141 := Glob.on z125 v136
   have v144 := Mod.trans v128 (Mod.of_nil v136)
   refine zs 2 [rz 0 p, (1, .bool false), rz 5 b1, iz 6 (((fm (pF B S) g44.toNat ++ fm (s1F B S (g44 + 1)) g101.toNat).length : Nat) : Int), rz 7 b12, (8, .int .u64 (allowed B S.turn)), (10, .int .i8 (g44 + 1)), (11, .int .u64 (Bd.of B (g44 + 1))), iz 12 g101, (39, .slice (some ⟨c.ap, c.apo, none⟩) 12 12), iz 40 ((12 : Nat) : Int), iz 41 g44, iz 58 g101, rz 67 p, (69, .int .i8 (pType (g44 + 1))), (71, .int .i8 (IntKind.i8.wrap g101))] ?_
   rw [(show ((IntKind.i8.wrap g101) : Int) = g101 from i8_in' (by omega) (by omega))]
   refine zk (some 72) (c134 hf137 hf138 z141 (pType (g44 + 1)) g101 (by omega) (by assumption)) ?_
   intro w145 v146
   have hf147 := At.on hf137 v146
   have hf148 := At.on hf138 v146
   have hf149 := At.on hf139 v146
   have hf150 := At.on hf140 v146
   have z151 := Glob.on z141 v146
   have v154 := Mod.trans v144 (Mod.of_nil v146)
   refine zs 3 [rz 0 p, (1, .bool false), rz 5 b1, iz 6 (((fm (pF B S) g44.toNat ++ fm (s1F B S (g44 + 1)) g101.toNat).length : Nat) : Int), rz 7 b12, (8, .int .u64 (allowed B S.turn)), (10, .int .i8 (g44 + 1)), (11, .int .u64 (Bd.of B (g44 + 1))), iz 12 g101, (13, .int .u64 (band (possMv B S (pType (g44 + 1)) g101) (allowed B S.turn))), (39, .slice (some ⟨c.ap, c.apo, none⟩) 12 12), iz 40 ((12 : Nat) : Int), iz 41 g44, iz 58 g101] ?_
   refine zz ?_
   refine w_seq ?_
   refine zw ?_
   refine zs 2 [rz 0 p, (1, .bool false), rz 5 b1, iz 6 (((fm (pF B S) g44.toNat ++ fm (s1F B S (g44 + 1)) g101.toNat).length : Nat) : Int), rz 7 b12, (8, .int .u64 (allowed B S.turn)), (10, .int .i8 (g44 + 1)), (11, .int .u64 (Bd.of B (g44 + 1))), iz 12 g101, (13, .int .u64 (band (possMv B S (pType (g44 + 1)) g101) (allowed B S.turn))), (39, .slice (some ⟨c.ap, c.apo, none⟩) 12 12), iz 40 ((12 : Nat) : Int), iz 41 g44, iz 58 g101, (76, .bool ((band (possMv B S (pType (g44 + 1)) g101) (allowed B S.turn)) == 0))] ?_
   refine zz ?_
   refine zc (fun hc155 => ?_) fun hc155 => ?_
   ·have y155 := eq_of_beq hc155
    refine w_exit ?_
    refine x_then ?_
    refine x_hit ?_
    refine n_then ?_
    refine w_region ?_
    refine zs 2 [rz 0 p, (1, .bool false), rz 5 b1, iz 6 (((fm (pF B S) g44.toNat ++ fm (s1F B S (g44 + 1)) g101.toNat).length : Nat) : Int), rz 7 b12, (8, .int .u64 (allowed B S.turn)), (10, .int .i8 (g44 + 1)), (11, .int .u64 (Bd.of B (g44 + 1))), (39, .slice (some ⟨c.ap, c.apo, none⟩) 12 12), iz 40 ((12 : Nat) : Int), iz 41 g44, iz 58 (IntKind.i64.wrap (g101 + 1))] ?_
    refine ze ?_
    rw [zi (g101 + 1) (by omega) (by omega)]
    have he156 : fm (pF B S) g44.toNat ++ fm (s1F B S (g44 + 1)) g101.toNat = fm (pF B S) g44.toNat ++ fm (s1F B S (g44 + 1)) (g101 + 1).toNat := by rw [fm_succ (by omega), ← List.append_assoc]; simp only [s1F, dest, hc79, hc94, hc129, hc155, cond_true, cond_false, Bool.not_true, Bool.not_false, List.append_nil]
    rw [he156]
    have hX158 : MvArr A102 (fm (pF B S) g44.toNat ++ fm (s1F B S (g44 + 1)) (g101 + 1).toNat) := he156 ▸ hx111
    have hM159 : At w145 b12 (.cells (mvCells (.pointer none) M103) 98 (0, 0)) := hf150
    obtain ⟨Aq160, hA157, hX158⟩ : ∃ A, At w145 b1 (.cells A 176 (0, 0)) ∧ MvArr A (fm (pF B S) g44.toNat ++ fm (s1F B S (g44 + 1)) (g101 + 1).toNat) := ⟨_, hf149, hX158⟩
    exact l_back ((g101 + 1), Aq160, M103) [0, 1, 5, 6, 7, 8, 10, 11, 39, 40, 41, 58] (by kernel_rfl) (by dsimp only; omega) ⟨by constructor <;> dsimp only <;> omega, v154, hA157, hM159, hX158⟩
   have y155 := ne_of_beq_false hc155
   refine w_skip ?_
   refine n_then ?_
   refine w_seq ?_
   have hb161 : (fm (pF B S) g44.toNat).length + (fm (s1F B S (g44 + 1)) g101.toNat).length + (fm (s2F B S (g44 + 1) g101) 64).length ≤ 218 := by
    have hh := fm_le (f := s1F B S (g44 + 1)) (n := 64) (j := g101) (by omega) (by omega)
    simp only [s1F, dest, hc79, hc94, hc129, hc155, cond_true, cond_false] at hh
    have h2 := hb100
    omega
   refine w_region ?_
   refine zs 1 [rz 0 p, (1, .bool false), rz 5 b1, iz 6 (((fm (pF B S) g44.toNat ++ fm (s1F B S (g44 + 1)) g101.toNat).length : Nat) : Int), rz 7 b12, (8, .int .u64 (allowed B S.turn)), (10, .int .i8 (g44 + 1)), (11, .int .u64 (Bd.of B (g44 + 1))), iz 12 g101, (13, .int .u64 (band (possMv B S (pType (g44 + 1)) g101) (allowed B S.turn))), (39, .slice (some ⟨c.ap, c.apo, none⟩) 12 12), iz 40 ((12 : Nat) : Int), iz 41 g44, iz 58 g101, iz 77 0] ?_
   refine zz ?_
   refine w_block ?_
   have he173 : fm (pF B S) g44.toNat ++ fm (s1F B S (g44 + 1)) g101.toNat = fm (pF B S) g44.toNat ++ fm (s1F B S (g44 + 1)) g101.toNat ++ fm (s2F B S (g44 + 1) g101) (0 : Int).toNat := by simp [fm]
   rw [he173]
   refine w_loop (γ := Int × Array Value × Mv) (fun q165 => (64 - q165.1).toNat) (fun q165 => [(0, pz p), (1, .bool false), (5, pz b1), (6, .int .i64 (((fm (pF B S) g44.toNat ++ fm (s1F B S (g44 + 1)) g101.toNat ++ fm (s2F B S (g44 + 1) g101) q165.1.toNat).length : Nat) : Int)), (7, pz b12), (8, .int .u64 (allowed B S.turn)), (10, .int .i8 (g44 + 1)), (11, .int .u64 (Bd.of B (g44 + 1))), (12, .int .i64 g101), (13, .int .u64 (band (possMv B S (pType (g44 + 1)) g101) (allowed B S.turn))), (39, .slice (some ⟨c.ap, c.apo, none⟩) 12 12), (40, .int .i64 ((12 : Nat) : Int)), (41, .int .i64 g44), (58, .int .i64 g101), (77, .int .i64 q165.1)]) (fun (q165 : Int × Array Value × Mv) w_ => (0 ≤ q165.1 ∧ q165.1 ≤ 64) ∧ Mod [b1, b12] w145 w_ ∧ At w_ b1 (.cells q165.2.1 176 (0, 0)) ∧ At w_ b12 (.cells (mvCells (.pointer none) q165.2.2) 98 (0, 0)) ∧ MvArr q165.2.1 (fm (pF B S) g44.toNat ++ fm (s1F B S (g44 + 1)) g101.toNat ++ fm (s2F B S (g44 + 1) g101) q165.1.toNat)) (0, A102, M103) (hold_keep [0, 1, 5, 6, 7, 8, 10, 11, 12, 13, 39, 40, 41, 58, 77] (by kernel_rfl)) ⟨by constructor <;> dsimp only <;> omega, Mod.refl _ _, hf149, hf150, he173 ▸ hx111⟩ ?_
   rintro ⟨g162, A163, M164⟩ w166 ⟨⟨h168, h169⟩, v167, hf170, hf171, hx172⟩
   replace h168 : 0 ≤ g162 := h168
   replace h169 : g162 ≤ 64 := h169
   replace hf170 : At w166 b1 (.cells A163 176 (0, 0)) := hf170
   replace hf171 : At w166 b12 (.cells (mvCells (.pointer none) M164) 98 (0, 0)) := hf171
   replace hx172 : MvArr A163 (fm (pF B S) g44.toNat ++ fm (s1F B S (g44 + 1)) g101.toNat ++ fm (s2F B S (g44 + 1) g101) g162.toNat) := hx172
   have hf174 := At.keep hf147 v167 (not_mem2 (At.ne hf147 hf149 rfl) (At.ne hf147 hf150 rfl))
   have hf175 := At.keep hf148 v167 (not_mem2 (At.ne hf148 hf149 rfl) (At.ne hf148 hf150 rfl))
   have z176 := Glob.keep z151 v167 (by simp <;> omega)
   have v179 := Mod.fresh' v154 v167 (by simp <;> omega)
   refine zw ?_
   refine zs 1 [rz 0 p, (1, .bool false), rz 5 b1, iz 6 (((fm (pF B S) g44.toNat ++ fm (s1F B S (g44 + 1)) g101.toNat ++ fm (s2F B S (g44 + 1) g101) g162.toNat).length : Nat) : Int), rz 7 b12, (8, .int .u64 (allowed B S.turn)), (10, .int .i8 (g44 + 1)), (11, .int .u64 (Bd.of B (g44 + 1))), iz 12 g101, (13, .int .u64 (band (possMv B S (pType (g44 + 1)) g101) (allowed B S.turn))), (39, .slice (some ⟨c.ap, c.apo, none⟩) 12 12), iz 40 ((12 : Nat) : Int), iz 41 g44, iz 58 g101, iz 77 g162, (78, .bool (decide (g162 < 64)))] ?_
   refine zz ?_
   refine w_seq ?_
   refine zc (fun hc180 => ?_) fun hc180 => ?_
   ·have y180 := of_decide_eq_true hc180
    refine w_skip ?_
    refine n_then ?_
    refine w_seq ?_
    refine w_block ?_
    refine zw ?_
    refine zs 2 [rz 0 p, (1, .bool false), rz 5 b1, iz 6 (((fm (pF B S) g44.toNat ++ fm (s1F B S (g44 + 1)) g101.toNat ++ fm (s2F B S (g44 + 1) g101) g162.toNat).length : Nat) : Int), rz 7 b12, (8, .int .u64 (allowed B S.turn)), (10, .int .i8 (g44 + 1)), (11, .int .u64 (Bd.of B (g44 + 1))), iz 12 g101, (13, .int .u64 (band (possMv B S (pType (g44 + 1)) g101) (allowed B S.turn))), iz 14 g162, (39, .slice (some ⟨c.ap, c.apo, none⟩) 12 12), iz 40 ((12 : Nat) : Int), iz 41 g44, iz 58 g101, iz 77 g162] ?_
    refine zz ?_
    refine w_seq ?_
    refine zw ?_
    refine zs 3 [rz 0 p, (1, .bool false), rz 5 b1, iz 6 (((fm (pF B S) g44.toNat ++ fm (s1F B S (g44 + 1)) g101.toNat ++ fm (s2F B S (g44 + 1) g101) g162.toNat).length : Nat) : Int), rz 7 b12, (8, .int .u64 (allowed B S.turn)), (10, .int .i8 (g44 + 1)), (11, .int .u64 (Bd.of B (g44 + 1))), iz 12 g101, (13, .int .u64 (band (possMv B S (pType (g44 + 1)) g101) (allowed B S.turn))), iz 14 g162, (39, .slice (some ⟨c.ap, c.apo, none⟩) 12 12), iz 40 ((12 : Nat) : Int), iz 41 g44, iz 58 g101, iz 77 g162, (80, .int .u64 (band (possMv B S (pType (g44 + 1)) g101) (allowed B S.turn))), (82, .int .i8 (IntKind.i8.wrap g162))] ?_
    rw [(show ((IntKind.i8.wrap g162) : Int) = g162 from i8_in' (by omega) (by omega))]
    refine zk (some 83) (c99 g162 w166 (by omega) (by omega)) ?_
    intro w181 v182
    have hf183 := At.on hf174 v182
    have hf184 := At.on hf175 v182
    have hf185 := At.on hf170 v182
    have hf186 := At.on hf171 v182
    have z187 := Glob.on z176 v182
    have v191 := Mod.trans v167 (Mod.of_nil v182)
    refine zs 2 [rz 0 p, (1, .bool false), rz 5 b1, iz 6 (((fm (pF B S) g44.toNat ++ fm (s1F B S (g44 + 1)) g101.toNat ++ fm (s2F B S (g44 + 1) g101) g162.toNat).length : Nat) : Int), rz 7 b12, (8, .int .u64 (allowed B S.turn)), (10, .int .i8 (g44 + 1)), (11, .int .u64 (Bd.of B (g44 + 1))), iz 12 g101, (13, .int .u64 (band (possMv B S (pType (g44 + 1)) g101) (allowed B S.turn))), iz 14 g162, (39, .slice (some ⟨c.ap, c.apo, none⟩) 12 12), iz 40 ((12 : Nat) : Int), iz 41 g44, iz 58 g101, iz 77 g162, (85, .bool ((band (band (possMv B S (pType (g44 + 1)) g101) (allowed B S.turn)) (bbSq g162)) == 0))] ?_
    refine zz ?_
    refine zc (fun hc192 => ?_) fun hc192 => ?_
    ·have y192 := eq_of_beq hc192
     refine w_exit ?_
     refine x_then ?_
     refine x_hit ?_
     refine n_then ?_
     refine w_region ?_
     refine zs 2 [rz 0 p, (1, .bool false), rz 5 b1, iz 6 (((fm (pF B S) g44.toNat ++ fm (s1F B S (g44 + 1)) g101.toNat ++ fm (s2F B S (g44 + 1) g101) g162.toNat).length : Nat) : Int), rz 7 b12, (8, .int .u64 (allowed B S.turn)), (10, .int .i8 (g44 + 1)), (11, .int .u64 (Bd.of B (g44 + 1))), iz 12 g101, (13, .int .u64 (band (possMv B S (pType (g44 + 1)) g101) (allowed B S.turn))), (39, .slice (some ⟨c.ap, c.apo, none⟩) 12 12), iz 40 ((12 : Nat) : Int), iz 41 g44, iz 58 g101, iz 77 (IntKind.i64.wrap (g162 + 1))] ?_
     refine ze ?_
     rw [zi (g162 + 1) (by omega) (by omega)]
     have he193 : fm (pF B S) g44.toNat ++ fm (s1F B S (g44 + 1)) g101.toNat ++ fm (s2F B S (g44 + 1) g101) g162.toNat = fm (pF B S) g44.toNat ++ fm (s1F B S (g44 + 1)) g101.toNat ++ fm (s2F B S (g44 + 1) g101) (g162 + 1).toNat := by rw [fm_succ (by omega), ← List.append_assoc]; simp only [s2F, dest, isPromo, keepM, plainM, hc79, hc94, hc129, hc155, hc192, cond_true, cond_false, Bool.not_true, Bool.not_false, List.append_nil]
     rw [he193]
     have hX195 : MvArr A163 (fm (pF B S) g44.toNat ++ fm (s1F B S (g44 + 1)) g101.toNat ++ fm (s2F B S (g44 + 1) g101) (g162 + 1).toNat) := he193 ▸ hx172
     have hM196 : At w181 b12 (.cells (mvCells (.pointer none) M164) 98 (0, 0)) := hf186
     obtain ⟨Aq197, hA194, hX195⟩ : ∃ A, At w181 b1 (.cells A 176 (0, 0)) ∧ MvArr A (fm (pF B S) g44.toNat ++ fm (s1F B S (g44 + 1)) g101.toNat ++ fm (s2F B S (g44 + 1) g101) (g162 + 1).toNat) := ⟨_, hf185, hX195⟩
     exact l_back ((g162 + 1), Aq197, M164) [0, 1, 5, 6, 7, 8, 10, 11, 12, 13, 39, 40, 41, 58, 77] (by kernel_rfl) (by dsimp only; omega) ⟨by constructor <;> dsimp only <;> omega, v191, hA194, hM196, hX195⟩
    have y192 := ne_of_beq_false hc192
    refine w_skip ?_
    refine zn ?_
    refine zs 3 [rz 0 p, (1, .bool false), rz 5 b1, iz 6 (((fm (pF B S) g44.toNat ++ fm (s1F B S (g44 + 1)) g101.toNat ++ fm (s2F B S (g44 + 1) g101) g162.toNat).length : Nat) : Int), rz 7 b12, (8, .int .u64 (allowed B S.turn)), (10, .int .i8 (g44 + 1)), (11, .int .u64 (Bd.of B (g44 + 1))), iz 12 g101, (13, .int .u64 (band (possMv B S (pType (g44 + 1)) g101) (allowed B S.turn))), iz 14 g162, (39, .slice (some ⟨c.ap, c.apo, none⟩) 12 12), iz 40 ((12 : Nat) : Int), iz 41 g44, iz 58 g101, iz 77 g162, (87, .int .i8 (IntKind.i8.wrap g101)), (88, .pointer (some ⟨b12, 8, none⟩))] ?_
    rw [(show ((IntKind.i8.wrap g101) : Int) = g101 from i8_in' (by omega) (by omega))]
    refine reg_store b12 8 (.int .i8 g101) none (by kernel_rfl) hf186 (Nat.le_of_ble_eq_true rfl) rfl ?_
    intro w198 hu199
    have hf200 : At w198 b12 (.cells (mvCells (.pointer none) ⟨M164.tags, g101, M164.s2, M164.promo⟩) 98 (0, 0)) := hu199.at_
    have hf201 := At.keep hf183 hu199.mod (not_mem1 (At.ne hf183 hf186 rfl))
    have hf202 := At.keep hf184 hu199.mod (not_mem1 (At.ne hf184 hf186 rfl))
    have hf203 := At.keep hf185 hu199.mod (not_mem1 (At.ne hf185 hf186 rfl))
    have z204 := Glob.keep z187 hu199.mod (by simp <;> omega)
    have v208 := Mod.fresh' v191 hu199.mod (by simp <;> omega)
    refine zx ?_
    refine zs 3 [rz 0 p, (1, .bool false), rz 5 b1, iz 6 (((fm (pF B S) g44.toNat ++ fm (s1F B S (g44 + 1)) g101.toNat ++ fm (s2F B S (g44 + 1) g101) g162.toNat).length : Nat) : Int), rz 7 b12, (8, .int .u64 (allowed B S.turn)), (10, .int .i8 (g44 + 1)), (11, .int .u64 (Bd.of B (g44 + 1))), iz 12 g101, (13, .int .u64 (band (possMv B S (pType (g44 + 1)) g101) (allowed B S.turn))), iz 14 g162, (39, .slice (some ⟨c.ap, c.apo, none⟩) 12 12), iz 40 ((12 : Nat) : Int), iz 41 g44, iz 58 g101, iz 77 g162, (90, .int .i8 (IntKind.i8.wrap g162)), (91, .pointer (some ⟨b12, 9, none⟩))] ?_
    rw [(show ((IntKind.i8.wrap g162) : Int) = g162 from i8_in' (by omega) (by omega))]
    refine reg_store b12 9 (.int .i8 g162) none (by kernel_rfl) hf200 (Nat.le_of_ble_eq_true rfl) rfl ?_
    intro w209 hu210
    have hf211 : At w209 b12 (.cells (mvCells (.pointer none) ⟨M164.tags, g101, g162, M164.promo⟩) 98 (0, 0)) := hu210.at_
    have hf212 := At.keep hf201 hu210.mod (not_mem1 (At.ne hf201 hf200 rfl))
    have hf213 := At.keep hf202 hu210.mod (not_mem1 (At.ne hf202 hf200 rfl))
    have hf214 := At.keep hf203 hu210.mod (not_mem1 (At.ne hf203 hf200 rfl))
    have z215 := Glob.keep z204 hu210.mod (by simp <;> omega)
    have v219 := Mod.fresh' v208 hu210.mod (by simp <;> omega)
    refine zx ?_
    refine zs 1 [rz 0 p, (1, .bool false), rz 5 b1, iz 6 (((fm (pF B S) g44.toNat ++ fm (s1F B S (g44 + 1)) g101.toNat ++ fm (s2F B S (g44 + 1) g101) g162.toNat).length : Nat) : Int), rz 7 b12, (8, .int .u64 (allowed B S.turn)), (10, .int .i8 (g44 + 1)), (11, .int .u64 (Bd.of B (g44 + 1))), iz 12 g101, (13, .int .u64 (band (possMv B S (pType (g44 + 1)) g101) (allowed B S.turn))), iz 14 g162, (39, .slice (some ⟨c.ap, c.apo, none⟩) 12 12), iz 40 ((12 : Nat) : Int), iz 41 g44, iz 58 g101, iz 77 g162, (92, .pointer (some ⟨b12, 7, none⟩))] ?_
    refine reg_store b12 7 (.int .u16 0) none (by kernel_rfl) hf211 (Nat.le_of_ble_eq_true rfl) rfl ?_
    intro w220 hu221
    have hf222 : At w220 b12 (.cells (mvCells (.pointer none) ⟨0, g101, g162, M164.promo⟩) 98 (0, 0)) := hu221.at_
    have hf223 := At.keep hf212 hu221.mod (not_mem1 (At.ne hf212 hf211 rfl))
    have hf224 := At.keep hf213 hu221.mod (not_mem1 (At.ne hf213 hf211 rfl))
    have hf225 := At.keep hf214 hu221.mod (not_mem1 (At.ne hf214 hf211 rfl))
    have z226 := Glob.keep z215 hu221.mod (by simp <;> omega)
    have v230 := Mod.fresh' v219 hu221.mod (by simp <;> omega)
    refine zz ?_
    refine w_cut (γ := Unit) (fun _ => [(0, pz p), (1, .bool false), (5, pz b1), (6, .int .i64 (((fm (pF B S) g44.toNat ++ fm (s1F B S (g44 + 1)) g101.toNat ++ fm (s2F B S (g44 + 1) g101) g162.toNat).length : Nat) : Int)), (7, pz b12), (8, .int .u64 (allowed B S.turn)), (10, .int .i8 (g44 + 1)), (11, .int .u64 (Bd.of B (g44 + 1))), (12, .int .i64 g101), (13, .int .u64 (band (possMv B S (pType (g44 + 1)) g101) (allowed B S.turn))), (39, .slice (some ⟨c.ap, c.apo, none⟩) 12 12), (40, .int .i64 ((12 : Nat) : Int)), (41, .int .i64 g44), (58, .int .i64 g101), (77, .int .i64 g162), (110, .bool ((((g44 + 1) == 6) && ((sqRank (IntKind.i8.wrap g162)) == 7)) || (((g44 + 1) == 12) && ((sqRank (IntKind.i8.wrap g162)) == 0))))]) (fun _ w_ => Mod [] w220 w_) ?_ ?_
    ·have v233 : Mod [] w220 w220 := Mod.refl _ _
     refine w_region ?_
     refine zs 3 [rz 0 p, (1, .bool false), rz 5 b1, iz 6 (((fm (pF B S) g44.toNat ++ fm (s1F B S (g44 + 1)) g101.toNat ++ fm (s2F B S (g44 + 1) g101) g162.toNat).length : Nat) : Int), rz 7 b12, (8, .int .u64 (allowed B S.turn)), (10, .int .i8 (g44 + 1)), (11, .int .u64 (Bd.of B (g44 + 1))), iz 12 g101, (13, .int .u64 (band (possMv B S (pType (g44 + 1)) g101) (allowed B S.turn))), iz 14 g162, (39, .slice (some ⟨c.ap, c.apo, none⟩) 12 12), iz 40 ((12 : Nat) : Int), iz 41 g44, iz 58 g101, iz 77 g162, (95, .bool ((g44 + 1) == 6))] ?_
     cases hc234 : ((g44 + 1) == (6 : Int))
     ·refine zs 9 [rz 0 p, (1, .bool false), rz 5 b1, iz 6 (((fm (pF B S) g44.toNat ++ fm (s1F B S (g44 + 1)) g101.toNat ++ fm (s2F B S (g44 + 1) g101) g162.toNat).length : Nat) : Int), rz 7 b12, (8, .int .u64 (allowed B S.turn)), (10, .int .i8 (g44 + 1)), (11, .int .u64 (Bd.of B (g44 + 1))), iz 12 g101, (13, .int .u64 (band (possMv B S (pType (g44 + 1)) g101) (allowed B S.turn))), iz 14 g162, (39, .slice (some ⟨c.ap, c.apo, none⟩) 12 12), iz 40 ((12 : Nat) : Int), iz 41 g44, iz 58 g101, iz 77 g162, (101, .bool false), (104, .bool ((g44 + 1) == 12))] ?_
      cases hc235 : ((g44 + 1) == (12 : Int))
      ·refine zs 6 [rz 0 p, (1, .bool false), rz 5 b1, iz 6 (((fm (pF B S) g44.toNat ++ fm (s1F B S (g44 + 1)) g101.toNat ++ fm (s2F B S (g44 + 1) g101) g162.toNat).length : Nat) : Int), rz 7 b12, (8, .int .u64 (allowed B S.turn)), (10, .int .i8 (g44 + 1)), (11, .int .u64 (Bd.of B (g44 + 1))), iz 12 g101, (13, .int .u64 (band (possMv B S (pType (g44 + 1)) g101) (allowed B S.turn))), (39, .slice (some ⟨c.ap, c.apo, none⟩) 12 12), iz 40 ((12 : Nat) : Int), iz 41 g44, iz 58 g101, iz 77 g162, (110, .bool false)] ?_
       refine ze ?_
       exact zb () v233
      refine zs 2 [rz 0 p, (1, .bool false), rz 5 b1, iz 6 (((fm (pF B S) g44.toNat ++ fm (s1F B S (g44 + 1)) g101.toNat ++ fm (s2F B S (g44 + 1) g101) g162.toNat).length : Nat) : Int), rz 7 b12, (8, .int .u64 (allowed B S.turn)), (10, .int .i8 (g44 + 1)), (11, .int .u64 (Bd.of B (g44 + 1))), iz 12 g101, (13, .int .u64 (band (possMv B S (pType (g44 + 1)) g101) (allowed B S.turn))), (39, .slice (some ⟨c.ap, c.apo, none⟩) 12 12), iz 40 ((12 : Nat) : Int), iz 41 g44, iz 58 g101, iz 77 g162, (101, .bool false), (104, .bool true), (106, .int .i8 (IntKind.i8.wrap g162))] ?_
      refine zk (some 107) (c132 (IntKind.i8.wrap g162) w220) ?_
      intro w236 v237
      have v243 := zt v233 v237
      refine zs 3 [rz 0 p, (1, .bool false), rz 5 b1, iz 6 (((fm (pF B S) g44.toNat ++ fm (s1F B S (g44 + 1)) g101.toNat ++ fm (s2F B S (g44 + 1) g101) g162.toNat).length : Nat) : Int), rz 7 b12, (8, .int .u64 (allowed B S.turn)), (10, .int .i8 (g44 + 1)), (11, .int .u64 (Bd.of B (g44 + 1))), iz 12 g101, (13, .int .u64 (band (possMv B S (pType (g44 + 1)) g101) (allowed B S.turn))), (39, .slice (some ⟨c.ap, c.apo, none⟩) 12 12), iz 40 ((12 : Nat) : Int), iz 41 g44, iz 58 g101, iz 77 g162, (110, .bool ((sqRank (IntKind.i8.wrap g162)) == 0))] ?_
      refine ze ?_
      exact zb () v243
     refine zs 2 [rz 0 p, (1, .bool false), rz 5 b1, iz 6 (((fm (pF B S) g44.toNat ++ fm (s1F B S (g44 + 1)) g101.toNat ++ fm (s2F B S (g44 + 1) g101) g162.toNat).length : Nat) : Int), rz 7 b12, (8, .int .u64 (allowed B S.turn)), (10, .int .i8 (g44 + 1)), (11, .int .u64 (Bd.of B (g44 + 1))), iz 12 g101, (13, .int .u64 (band (possMv B S (pType (g44 + 1)) g101) (allowed B S.turn))), iz 14 g162, (39, .slice (some ⟨c.ap, c.apo, none⟩) 12 12), iz 40 ((12 : Nat) : Int), iz 41 g44, iz 58 g101, iz 77 g162, (95, .bool true), (97, .int .i8 (IntKind.i8.wrap g162))] ?_
     refine zk (some 98) (c132 (IntKind.i8.wrap g162) w220) ?_
     intro w247 v248
     have v254 := zt v233 v248
     refine zs 3 [rz 0 p, (1, .bool false), rz 5 b1, iz 6 (((fm (pF B S) g44.toNat ++ fm (s1F B S (g44 + 1)) g101.toNat ++ fm (s2F B S (g44 + 1) g101) g162.toNat).length : Nat) : Int), rz 7 b12, (8, .int .u64 (allowed B S.turn)), (10, .int .i8 (g44 + 1)), (11, .int .u64 (Bd.of B (g44 + 1))), iz 12 g101, (13, .int .u64 (band (possMv B S (pType (g44 + 1)) g101) (allowed B S.turn))), iz 14 g162, (39, .slice (some ⟨c.ap, c.apo, none⟩) 12 12), iz 40 ((12 : Nat) : Int), iz 41 g44, iz 58 g101, iz 77 g162, (101, .bool ((sqRank (IntKind.i8.wrap g162)) == 7))] ?_
     cases hc258 : ((sqRank (IntKind.i8.wrap g162)) == (7 : Int))
     ·refine zs 3 [rz 0 p, (1, .bool false), rz 5 b1, iz 6 (((fm (pF B S) g44.toNat ++ fm (s1F B S (g44 + 1)) g101.toNat ++ fm (s2F B S (g44 + 1) g101) g162.toNat).length : Nat) : Int), rz 7 b12, (8, .int .u64 (allowed B S.turn)), (10, .int .i8 (g44 + 1)), (11, .int .u64 (Bd.of B (g44 + 1))), iz 12 g101, (13, .int .u64 (band (possMv B S (pType (g44 + 1)) g101) (allowed B S.turn))), iz 14 g162, (39, .slice (some ⟨c.ap, c.apo, none⟩) 12 12), iz 40 ((12 : Nat) : Int), iz 41 g44, iz 58 g101, iz 77 g162, (101, .bool false), (104, .bool ((g44 + 1) == 12))] ?_
      cases hc259 : ((g44 + 1) == (12 : Int))
      ·refine zs 6 [rz 0 p, (1, .bool false), rz 5 b1, iz 6 (((fm (pF B S) g44.toNat ++ fm (s1F B S (g44 + 1)) g101.toNat ++ fm (s2F B S (g44 + 1) g101) g162.toNat).length : Nat) : Int), rz 7 b12, (8, .int .u64 (allowed B S.turn)), (10, .int .i8 (g44 + 1)), (11, .int .u64 (Bd.of B (g44 + 1))), iz 12 g101, (13, .int .u64 (band (possMv B S (pType (g44 + 1)) g101) (allowed B S.turn))), (39, .slice (some ⟨c.ap, c.apo, none⟩) 12 12), iz 40 ((12 : Nat) : Int), iz 41 g44, iz 58 g101, iz 77 g162, (110, .bool false)] ?_
       refine ze ?_
       exact zb () v254
      refine zs 2 [rz 0 p, (1, .bool false), rz 5 b1, iz 6 (((fm (pF B S) g44.toNat ++ fm (s1F B S (g44 + 1)) g101.toNat ++ fm (s2F B S (g44 + 1) g101) g162.toNat).length : Nat) : Int), rz 7 b12, (8, .int .u64 (allowed B S.turn)), (10, .int .i8 (g44 + 1)), (11, .int .u64 (Bd.of B (g44 + 1))), iz 12 g101, (13, .int .u64 (band (possMv B S (pType (g44 + 1)) g101) (allowed B S.turn))), (39, .slice (some ⟨c.ap, c.apo, none⟩) 12 12), iz 40 ((12 : Nat) : Int), iz 41 g44, iz 58 g101, iz 77 g162, (101, .bool false), (104, .bool true), (106, .int .i8 (IntKind.i8.wrap g162))] ?_
      refine zk (some 107) (c132 (IntKind.i8.wrap g162) w247) ?_
      intro w260 v261
      have v267 := zt v254 v261
      refine zs 3 [rz 0 p, (1, .bool false), rz 5 b1, iz 6 (((fm (pF B S) g44.toNat ++ fm (s1F B S (g44 + 1)) g101.toNat ++ fm (s2F B S (g44 + 1) g101) g162.toNat).length : Nat) : Int), rz 7 b12, (8, .int .u64 (allowed B S.turn)), (10, .int .i8 (g44 + 1)), (11, .int .u64 (Bd.of B (g44 + 1))), iz 12 g101, (13, .int .u64 (band (possMv B S (pType (g44 + 1)) g101) (allowed B S.turn))), (39, .slice (some ⟨c.ap, c.apo, none⟩) 12 12), iz 40 ((12 : Nat) : Int), iz 41 g44, iz 58 g101, iz 77 g162, (110, .bool ((sqRank (IntKind.i8.wrap g162)) == 0))] ?_
      refine ze ?_
      exact zb () v267
     refine zs 9 [rz 0 p, (1, .bool false), rz 5 b1, iz 6 (((fm (pF B S) g44.toNat ++ fm (s1F B S (g44 + 1)) g101.toNat ++ fm (s2F B S (g44 + 1) g101) g162.toNat).length : Nat) : Int), rz 7 b12, (8, .int .u64 (allowed B S.turn)), (10, .int .i8 (g44 + 1)), (11, .int .u64 (Bd.of B (g44 + 1))), iz 12 g101, (13, .int .u64 (band (possMv B S (pType (g44 + 1)) g101) (allowed B S.turn))), (39, .slice (some ⟨c.ap, c.apo, none⟩) 12 12), iz 40 ((12 : Nat) : Int), iz 41 g44, iz 58 g101, iz 77 g162, (110, .bool true)] ?_
     refine ze ?_
     exact zb () v254
    intro _ w231 v232
    have hf271 := At.on hf223 v232
    have hf272 := At.on hf224 v232
    have hf273 := At.on hf225 v232
    have hf274 := At.on hf222 v232
    have z275 := Glob.on z226 v232
    have v279 := Mod.trans v230 (Mod.of_nil v232)
    rw [(show ((IntKind.i8.wrap g162) : Int) = g162 from i8_in' (by omega) (by omega))]
    refine zc (fun hc280 => ?_) fun hc280 => ?_
    ·refine w_seq ?_
     have hb281 : (fm (pF B S) g44.toNat).length + (fm (s1F B S (g44 + 1)) g101.toNat).length + (fm (s2F B S (g44 + 1) g101) g162.toNat).length + (fm (promoF B S g101 g162) 4).length ≤ 218 := by
      have hh := fm_le (f := s2F B S (g44 + 1) g101) (n := 64) (j := g162) (by omega) (by omega)
      have e : s2F B S (g44 + 1) g101 g162 = fm (promoF B S g101 g162) 4 := by simp only [s2F, dest, isPromo, hc79, hc94, hc129, hc155, hc192, hc280, cond_true, cond_false]
      rw [e] at hh
      omega
     refine w_region ?_
     refine zo 3 [rz 0 p, (1, .bool false), rz 5 b1, iz 6 (((fm (pF B S) g44.toNat ++ fm (s1F B S (g44 + 1)) g101.toNat ++ fm (s2F B S (g44 + 1) g101) g162.toNat).length : Nat) : Int), rz 7 b12, (8, .int .u64 (allowed B S.turn)), (10, .int .i8 (g44 + 1)), (11, .int .u64 (Bd.of B (g44 + 1))), iz 12 g101, (13, .int .u64 (band (possMv B S (pType (g44 + 1)) g101) (allowed B S.turn))), (39, .slice (some ⟨c.ap, c.apo, none⟩) 12 12), iz 40 ((12 : Nat) : Int), iz 41 g44, iz 58 g101, iz 77 g162, (111, .slice (some ⟨c.pp, c.ppo, none⟩) 4 4), iz 112 ((4 : Nat) : Int), iz 113 0] [.cell ⟨7, 0, none⟩ (.slice (some ⟨c.pp, c.ppo, none⟩) 4 4)] (Glob.g7 z275) ?_
     refine zz ?_
     refine w_block ?_
     have he293 : fm (pF B S) g44.toNat ++ fm (s1F B S (g44 + 1)) g101.toNat ++ fm (s2F B S (g44 + 1) g101) g162.toNat = fm (pF B S) g44.toNat ++ fm (s1F B S (g44 + 1)) g101.toNat ++ fm (s2F B S (g44 + 1) g101) g162.toNat ++ fm (promoF B S g101 g162) (0 : Int).toNat := by simp [fm]
     rw [he293]
     refine w_loop (γ := Int × Array Value × Int) (fun q285 => (4 - q285.1).toNat) (fun q285 => [(0, pz p), (1, .bool false), (5, pz b1), (6, .int .i64 (((fm (pF B S) g44.toNat ++ fm (s1F B S (g44 + 1)) g101.toNat ++ fm (s2F B S (g44 + 1) g101) g162.toNat ++ fm (promoF B S g101 g162) q285.1.toNat).length : Nat) : Int)), (7, pz b12), (8, .int .u64 (allowed B S.turn)), (10, .int .i8 (g44 + 1)), (11, .int .u64 (Bd.of B (g44 + 1))), (12, .int .i64 g101), (13, .int .u64 (band (possMv B S (pType (g44 + 1)) g101) (allowed B S.turn))), (39, .slice (some ⟨c.ap, c.apo, none⟩) 12 12), (40, .int .i64 ((12 : Nat) : Int)), (41, .int .i64 g44), (58, .int .i64 g101), (77, .int .i64 g162), (111, .slice (some ⟨c.pp, c.ppo, none⟩) 4 4), (112, .int .i64 ((4 : Nat) : Int)), (113, .int .i64 q285.1)]) (fun (q285 : Int × Array Value × Int) w_ => (0 ≤ q285.1 ∧ q285.1 ≤ 4) ∧ Mod [b1, b12] w231 w_ ∧ At w_ b1 (.cells q285.2.1 176 (0, 0)) ∧ At w_ b12 (.cells (mvCells (.pointer none) ⟨(promoT B S g101 g162 q285.1.toNat), g101, g162, q285.2.2⟩) 98 (0, 0)) ∧ MvArr q285.2.1 (fm (pF B S) g44.toNat ++ fm (s1F B S (g44 + 1)) g101.toNat ++ fm (s2F B S (g44 + 1) g101) g162.toNat ++ fm (promoF B S g101 g162) q285.1.toNat)) (0, A163, M164.promo) (hold_keep [0, 1, 5, 6, 7, 8, 10, 11, 12, 13, 39, 40, 41, 58, 77, 111, 112, 113] (by kernel_rfl)) ⟨by constructor <;> dsimp only <;> omega, Mod.refl _ _, hf273, hf274, he293 ▸ hx172⟩ ?_
     rintro ⟨g282, A283, M284⟩ w286 ⟨⟨h288, h289⟩, v287, hf290, hf291, hx292⟩
     replace h288 : 0 ≤ g282 := h288
     replace h289 : g282 ≤ 4 := h289
     replace hf290 : At w286 b1 (.cells A283 176 (0, 0)) := hf290
     replace hf291 : At w286 b12 (.cells (mvCells (.pointer none) ⟨(promoT B S g101 g162 g282.toNat), g101, g162, M284⟩) 98 (0, 0)) := hf291
     replace hx292 : MvArr A283 (fm (pF B S) g44.toNat ++ fm (s1F B S (g44 + 1)) g101.toNat ++ fm (s2F B S (g44 + 1) g101) g162.toNat ++ fm (promoF B S g101 g162) g282.toNat) := hx292
     have hf294 := At.keep hf271 v287 (not_mem2 (At.ne hf271 hf273 rfl) (At.ne hf271 hf274 rfl))
     have hf295 := At.keep hf272 v287 (not_mem2 (At.ne hf272 hf273 rfl) (At.ne hf272 hf274 rfl))
     have z296 := Glob.keep z275 v287 (by simp <;> omega)
     have v300 := Mod.fresh' v279 v287 (by simp <;> omega)
     refine zw ?_
     refine zs 1 [rz 0 p, (1, .bool false), rz 5 b1, iz 6 (((fm (pF B S) g44.toNat ++ fm (s1F B S (g44 + 1)) g101.toNat ++ fm (s2F B S (g44 + 1) g101) g162.toNat ++ fm (promoF B S g101 g162) g282.toNat).length : Nat) : Int), rz 7 b12, (8, .int .u64 (allowed B S.turn)), (10, .int .i8 (g44 + 1)), (11, .int .u64 (Bd.of B (g44 + 1))), iz 12 g101, (13, .int .u64 (band (possMv B S (pType (g44 + 1)) g101) (allowed B S.turn))), (39, .slice (some ⟨c.ap, c.apo, none⟩) 12 12), iz 40 ((12 : Nat) : Int), iz 41 g44, iz 58 g101, iz 77 g162, (111, .slice (some ⟨c.pp, c.ppo, none⟩) 4 4), iz 112 ((4 : Nat) : Int), iz 113 g282, (114, .bool (decide (g282 < ((4 : Nat) : Int))))] ?_
     refine zz ?_
     refine w_seq ?_
     refine zc (fun hc301 => ?_) fun hc301 => ?_
     ·have y301 := of_decide_eq_true hc301
      refine w_skip ?_
      refine n_then ?_
      refine w_seq ?_
      refine w_block ?_
      refine zw ?_
      refine zo 3 [rz 0 p, (1, .bool false), rz 5 b1, iz 6 (((fm (pF B S) g44.toNat ++ fm (s1F B S (g44 + 1)) g101.toNat ++ fm (s2F B S (g44 + 1) g101) g162.toNat ++ fm (promoF B S g101 g162) g282.toNat).length : Nat) : Int), rz 7 b12, (8, .int .u64 (allowed B S.turn)), (10, .int .i8 (g44 + 1)), (11, .int .u64 (Bd.of B (g44 + 1))), iz 12 g101, (13, .int .u64 (band (possMv B S (pType (g44 + 1)) g101) (allowed B S.turn))), (16, .int .i8 (((g282.toNat * 1 : Nat) : Int) + 2)), (39, .slice (some ⟨c.ap, c.apo, none⟩) 12 12), iz 40 ((12 : Nat) : Int), iz 41 g44, iz 58 g101, iz 77 g162, (111, .slice (some ⟨c.pp, c.ppo, none⟩) 4 4), iz 112 ((4 : Nat) : Int), iz 113 g282] [.prop (0 ≤ g282 ∧ g282 < ((4 : Nat) : Int)), .cell ⟨c.pp, (c.ppo + g282.toNat * 1), none⟩ (.int .i8 (((g282.toNat * 1 : Nat) : Int) + 2))] (⟨(zh (by omega)), (Glob.promo z296 (g282.toNat * 1) (by omega))⟩) ?_
      refine ze ?_
      rw [(show ((((g282.toNat * 1 : Nat) : Int) + 2) : Int) = (g282 + 2) from (by omega))]
      refine zn ?_
      refine zs 2 [rz 0 p, (1, .bool false), rz 5 b1, iz 6 (((fm (pF B S) g44.toNat ++ fm (s1F B S (g44 + 1)) g101.toNat ++ fm (s2F B S (g44 + 1) g101) g162.toNat ++ fm (promoF B S g101 g162) g282.toNat).length : Nat) : Int), rz 7 b12, (8, .int .u64 (allowed B S.turn)), (10, .int .i8 (g44 + 1)), (11, .int .u64 (Bd.of B (g44 + 1))), iz 12 g101, (13, .int .u64 (band (possMv B S (pType (g44 + 1)) g101) (allowed B S.turn))), (39, .slice (some ⟨c.ap, c.apo, none⟩) 12 12), iz 40 ((12 : Nat) : Int), iz 41 g44, iz 58 g101, iz 77 g162, (111, .slice (some ⟨c.pp, c.ppo, none⟩) 4 4), iz 112 ((4 : Nat) : Int), iz 113 g282, (117, .int .i8 (g282 + 2)), (118, .pointer (some ⟨b12, 10, none⟩))] ?_
      refine reg_store b12 10 (.int .i8 (g282 + 2)) none (by kernel_rfl) hf291 (Nat.le_of_ble_eq_true rfl) rfl ?_
      intro w302 hu303
      have hf304 : At w302 b12 (.cells (mvCells (.pointer none) ⟨(promoT B S g101 g162 g282.toNat), g101, g162, (g282 + 2)⟩) 98 (0, 0)) := hu303.at_
      have hf305 := At.keep hf294 hu303.mod (not_mem1 (At.ne hf294 hf291 rfl))
      have hf306 := At.keep hf295 hu303.mod (not_mem1 (At.ne hf295 hf291 rfl))
      have hf307 := At.keep hf290 hu303.mod (not_mem1 (At.ne hf290 hf291 rfl))
      have z308 := Glob.keep z296 hu303.mod (by simp <;> omega)
      have v313 := Mod.fresh' v287 hu303.mod (by simp <;> omega)
      refine zx ?_
      refine zs 1 [rz 0 p, (1, .bool false), rz 5 b1, iz 6 (((fm (pF B S) g44.toNat ++ fm (s1F B S (g44 + 1)) g101.toNat ++ fm (s2F B S (g44 + 1) g101) g162.toNat ++ fm (promoF B S g101 g162) g282.toNat).length : Nat) : Int), rz 7 b12, (8, .int .u64 (allowed B S.turn)), (10, .int .i8 (g44 + 1)), (11, .int .u64 (Bd.of B (g44 + 1))), iz 12 g101, (13, .int .u64 (band (possMv B S (pType (g44 + 1)) g101) (allowed B S.turn))), (39, .slice (some ⟨c.ap, c.apo, none⟩) 12 12), iz 40 ((12 : Nat) : Int), iz 41 g44, iz 58 g101, iz 77 g162, (111, .slice (some ⟨c.pp, c.ppo, none⟩) 4 4), iz 112 ((4 : Nat) : Int), iz 113 g282, rz 119 p] ?_
      have hq314 : 0 ≤ g101 ∧ g101 ≤ 63 := by omega
      have hq315 : 0 ≤ g162 ∧ g162 ≤ 63 := by omega
      have hq316 := hpc (g44 + 1) g101 (by omega) (by omega) hc129
      refine reg_call 135 [pz b12, pz p] (some 120) (by kernel_rfl) (c135 (M := (⟨(promoT B S g101 g162 g282.toNat), g101, g162, (g282 + 2)⟩ : Mv)) hf305 hf306 hf304 z308 hq314 hq315 hq316 (pColor_or hq316) (fun _ => (show 1 ≤ (g282 + 2) ∧ (g282 + 2) ≤ 6 from (by omega))) (fun _ => newP_ok (show 1 ≤ (g282 + 2) ∧ (g282 + 2) ≤ 6 from (by omega)) (pColor_or hq316)) (by omega) (by assumption) (by assumption)) ?_
      rintro _ w317 ⟨rfl, v318, hf319⟩; refine ⟨_, rfl, ?_⟩
      have hf322 := At.keep hf307 v318 (not_mem1 (At.ne hf307 hf304 rfl))
      have v328 := Mod.fresh' v313 v318 (by simp <;> omega)
      refine zx ?_
      refine zk (some 121) (c74 hf319 32) ?_
      intro w329 v330
      have hf333 := At.on hf322 v330
      have hf334 := At.on hf319 v330
      have v340 := Mod.trans v328 (Mod.of_nil v330)
      refine zs 1 [rz 0 p, (1, .bool false), rz 5 b1, iz 6 (((fm (pF B S) g44.toNat ++ fm (s1F B S (g44 + 1)) g101.toNat ++ fm (s2F B S (g44 + 1) g101) g162.toNat ++ fm (promoF B S g101 g162) g282.toNat).length : Nat) : Int), rz 7 b12, (8, .int .u64 (allowed B S.turn)), (10, .int .i8 (g44 + 1)), (11, .int .u64 (Bd.of B (g44 + 1))), iz 12 g101, (13, .int .u64 (band (possMv B S (pType (g44 + 1)) g101) (allowed B S.turn))), (39, .slice (some ⟨c.ap, c.apo, none⟩) 12 12), iz 40 ((12 : Nat) : Int), iz 41 g44, iz 58 g101, iz 77 g162, (111, .slice (some ⟨c.pp, c.ppo, none⟩) 4 4), iz 112 ((4 : Nat) : Int), iz 113 g282, (122, .bool (!(hasTag (⟨(tg4 B S (⟨(promoT B S g101 g162 g282.toNat), g101, g162, (g282 + 2)⟩ : Mv)), g101, g162, (g282 + 2)⟩ : Mv) 32)))] ?_
      refine zz ?_
      refine zc (fun hc341 => ?_) fun hc341 => ?_
      ·have nhc341 : (hasTag (⟨(tg4 B S (⟨(promoT B S g101 g162 g282.toNat), g101, g162, (g282 + 2)⟩ : Mv)), g101, g162, (g282 + 2)⟩ : Mv) 32) = false := by simpa using hc341
       refine w_seq ?_
       have hh := fm_le (f := promoF B S g101 g162) (n := 4) (j := g282) (by omega) (by omega)
       have he : (promoF B S g101 g162 g282).length = 1 := by simp only [promoF, keepM, nhc341, cond_false]; rfl
       rw [he] at hh
       have hlt : (fm (pF B S) g44.toNat ++ fm (s1F B S (g44 + 1)) g101.toNat ++ fm (s2F B S (g44 + 1) g101) g162.toNat ++ fm (promoF B S g101 g162) g282.toNat).length < 218 := by simp only [List.length_append]; omega
       refine w_region ?_
       refine zv 3 [rz 0 p, (1, .bool false), rz 5 b1, iz 6 (((fm (pF B S) g44.toNat ++ fm (s1F B S (g44 + 1)) g101.toNat ++ fm (s2F B S (g44 + 1) g101) g162.toNat ++ fm (promoF B S g101 g162) g282.toNat).length : Nat) : Int), rz 7 b12, (8, .int .u64 (allowed B S.turn)), (10, .int .i8 (g44 + 1)), (11, .int .u64 (Bd.of B (g44 + 1))), iz 12 g101, (13, .int .u64 (band (possMv B S (pType (g44 + 1)) g101) (allowed B S.turn))), (39, .slice (some ⟨c.ap, c.apo, none⟩) 12 12), iz 40 ((12 : Nat) : Int), iz 41 g44, iz 58 g101, iz 77 g162, (111, .slice (some ⟨c.pp, c.ppo, none⟩) 4 4), iz 112 ((4 : Nat) : Int), iz 113 g282, (124, .agg (mvCells (.pointer none) ⟨(tg4 B S (⟨(promoT B S g101 g162 g282.toNat), g101, g162, (g282 + 2)⟩ : Mv)), g101, g162, (g282 + 2)⟩)), (125, .pointer (some ⟨b1, (0 + (((fm (pF B S) g44.toNat ++ fm (s1F B S (g44 + 1)) g101.toNat ++ fm (s2F B S (g44 + 1) g101) g162.toNat ++ fm (promoF B S g101 g162) g282.toNat).length : Nat) : Int).toNat * 11), none⟩))] [.row ⟨b12, 0, none⟩ 11 (mvCells (.pointer none) ⟨(tg4 B S (⟨(promoT B S g101 g162 g282.toNat), g101, g162, (g282 + 2)⟩ : Mv)), g101, g162, (g282 + 2)⟩), .prop (0 ≤ (((fm (pF B S) g44.toNat ++ fm (s1F B S (g44 + 1)) g101.toNat ++ fm (s2F B S (g44 + 1) g101) g162.toNat ++ fm (promoF B S g101 g162) g282.toNat).length : Nat) : Int) ∧ (((fm (pF B S) g44.toNat ++ fm (s1F B S (g44 + 1)) g101.toNat ++ fm (s2F B S (g44 + 1) g101) g162.toNat ++ fm (promoF B S g101 g162) g282.toNat).length : Nat) : Int) < ((218 : Nat) : Int))] [.agg (mvCells (.pointer none) ⟨(tg4 B S (⟨(promoT B S g101 g162 g282.toNat), g101, g162, (g282 + 2)⟩ : Mv)), g101, g162, (g282 + 2)⟩)] (⟨At.row hf334 rfl, (zh (by omega))⟩) ?_
       refine reg_store b1 (0 + (((fm (pF B S) g44.toNat ++ fm (s1F B S (g44 + 1)) g101.toNat ++ fm (s2F B S (g44 + 1) g101) g162.toNat ++ fm (promoF B S g101 g162) g282.toNat).length : Nat) : Int).toNat * 11) (.agg (mvCells (.pointer none) ⟨(tg4 B S (⟨(promoT B S g101 g162 g282.toNat), g101, g162, (g282 + 2)⟩ : Mv)), g101, g162, (g282 + 2)⟩)) none (by kernel_rfl) hf333 (by rw [(MvArr.size hx292)]; show (0 + (((fm (pF B S) g44.toNat ++ fm (s1F B S (g44 + 1)) g101.toNat ++ fm (s2F B S (g44 + 1) g101) g162.toNat ++ fm (promoF B S g101 g162) g282.toNat).length : Nat) : Int).toNat * 11) + 11 ≤ 2398; omega) rfl ?_
       intro w342 hu343
       have hf344 : At w342 b1 (.cells (storeRow A283 (0 + (((fm (pF B S) g44.toNat ++ fm (s1F B S (g44 + 1)) g101.toNat ++ fm (s2F B S (g44 + 1) g101) g162.toNat ++ fm (promoF B S g101 g162) g282.toNat).length : Nat) : Int).toNat * 11) (mvCells (.pointer none) ⟨(tg4 B S (⟨(promoT B S g101 g162 g282.toNat), g101, g162, (g282 + 2)⟩ : Mv)), g101, g162, (g282 + 2)⟩).toList) 176 (0, 0)) := hu343.at_
       have hf347 := At.keep hf334 hu343.mod (not_mem1 (At.ne hf334 hf333 rfl))
       have v353 := Mod.fresh' v340 hu343.mod (by simp <;> omega)
       have hx354 : MvArr (storeRow A283 (0 + (((fm (pF B S) g44.toNat ++ fm (s1F B S (g44 + 1)) g101.toNat ++ fm (s2F B S (g44 + 1) g101) g162.toNat ++ fm (promoF B S g101 g162) g282.toNat).length : Nat) : Int).toNat * 11) (mvCells (.pointer none) ⟨(tg4 B S (⟨(promoT B S g101 g162 g282.toNat), g101, g162, (g282 + 2)⟩ : Mv)), g101, g162, (g282 + 2)⟩).toList) (fm (pF B S) g44.toNat ++ fm (s1F B S (g44 + 1)) g101.toNat ++ fm (s2F B S (g44 + 1) g101) g162.toNat ++ fm (promoF B S g101 g162) g282.toNat ++ [(⟨(tg4 B S (⟨(promoT B S g101 g162 g282.toNat), g101, g162, (g282 + 2)⟩ : Mv)), g101, g162, (g282 + 2)⟩ : Mv)]) := MvArr.push hx292 (by simp only [List.length_append]; omega) (by omega)
       refine zx ?_
       refine zs 3 [rz 0 p, (1, .bool false), rz 5 b1, iz 6 (IntKind.i64.wrap ((((fm (pF B S) g44.toNat ++ fm (s1F B S (g44 + 1)) g101.toNat ++ fm (s2F B S (g44 + 1) g101) g162.toNat ++ fm (promoF B S g101 g162) g282.toNat).length : Nat) : Int) + 1)), rz 7 b12, (8, .int .u64 (allowed B S.turn)), (10, .int .i8 (g44 + 1)), (11, .int .u64 (Bd.of B (g44 + 1))), iz 12 g101, (13, .int .u64 (band (possMv B S (pType (g44 + 1)) g101) (allowed B S.turn))), (39, .slice (some ⟨c.ap, c.apo, none⟩) 12 12), iz 40 ((12 : Nat) : Int), iz 41 g44, iz 58 g101, iz 77 g162, (111, .slice (some ⟨c.pp, c.ppo, none⟩) 4 4), iz 112 ((4 : Nat) : Int), iz 113 g282] ?_
       refine ze ?_
       rw [(show ((IntKind.i64.wrap ((((fm (pF B S) g44.toNat ++ fm (s1F B S (g44 + 1)) g101.toNat ++ fm (s2F B S (g44 + 1) g101) g162.toNat ++ fm (promoF B S g101 g162) g282.toNat).length : Nat) : Int) + (1 : Int))) : Int) = ((((fm (pF B S) g44.toNat ++ fm (s1F B S (g44 + 1)) g101.toNat ++ fm (s2F B S (g44 + 1) g101) g162.toNat ++ fm (promoF B S g101 g162) g282.toNat ++ [(⟨(tg4 B S (⟨(promoT B S g101 g162 g282.toNat), g101, g162, (g282 + 2)⟩ : Mv)), g101, g162, (g282 + 2)⟩ : Mv)])).length : Nat) : Int) from (by rw [i64_in' (by omega) (by omega)]; simp only [List.length_append, List.length_cons, List.length_nil]; omega))]
       refine zn ?_
       refine zs 1 [rz 0 p, (1, .bool false), rz 5 b1, iz 6 ((((fm (pF B S) g44.toNat ++ fm (s1F B S (g44 + 1)) g101.toNat ++ fm (s2F B S (g44 + 1) g101) g162.toNat ++ fm (promoF B S g101 g162) g282.toNat ++ [(⟨(tg4 B S (⟨(promoT B S g101 g162 g282.toNat), g101, g162, (g282 + 2)⟩ : Mv)), g101, g162, (g282 + 2)⟩ : Mv)])).length : Nat) : Int), rz 7 b12, (8, .int .u64 (allowed B S.turn)), (10, .int .i8 (g44 + 1)), (11, .int .u64 (Bd.of B (g44 + 1))), iz 12 g101, (13, .int .u64 (band (possMv B S (pType (g44 + 1)) g101) (allowed B S.turn))), (39, .slice (some ⟨c.ap, c.apo, none⟩) 12 12), iz 40 ((12 : Nat) : Int), iz 41 g44, iz 58 g101, iz 77 g162, (111, .slice (some ⟨c.pp, c.ppo, none⟩) 4 4), iz 112 ((4 : Nat) : Int), iz 113 g282, (128, .bool false)] ?_
       refine zz ?_
       refine w_false rfl ?_
       refine w_skip ?_
       refine n_block ?_
       refine n_then ?_
       refine w_region ?_
       refine zs 2 [rz 0 p, (1, .bool false), rz 5 b1, iz 6 ((((fm (pF B S) g44.toNat ++ fm (s1F B S (g44 + 1)) g101.toNat ++ fm (s2F B S (g44 + 1) g101) g162.toNat ++ fm (promoF B S g101 g162) g282.toNat ++ [(⟨(tg4 B S (⟨(promoT B S g101 g162 g282.toNat), g101, g162, (g282 + 2)⟩ : Mv)), g101, g162, (g282 + 2)⟩ : Mv)])).length : Nat) : Int), rz 7 b12, (8, .int .u64 (allowed B S.turn)), (10, .int .i8 (g44 + 1)), (11, .int .u64 (Bd.of B (g44 + 1))), iz 12 g101, (13, .int .u64 (band (possMv B S (pType (g44 + 1)) g101) (allowed B S.turn))), (39, .slice (some ⟨c.ap, c.apo, none⟩) 12 12), iz 40 ((12 : Nat) : Int), iz 41 g44, iz 58 g101, iz 77 g162, (111, .slice (some ⟨c.pp, c.ppo, none⟩) 4 4), iz 112 ((4 : Nat) : Int), iz 113 (IntKind.i64.wrap (g282 + 1))] ?_
       refine ze ?_
       rw [zi (g282 + 1) (by omega) (by omega)]
       have he355 : (fm (pF B S) g44.toNat ++ fm (s1F B S (g44 + 1)) g101.toNat ++ fm (s2F B S (g44 + 1) g101) g162.toNat ++ fm (promoF B S g101 g162) g282.toNat ++ [(⟨(tg4 B S (⟨(promoT B S g101 g162 g282.toNat), g101, g162, (g282 + 2)⟩ : Mv)), g101, g162, (g282 + 2)⟩ : Mv)]) = fm (pF B S) g44.toNat ++ fm (s1F B S (g44 + 1)) g101.toNat ++ fm (s2F B S (g44 + 1) g101) g162.toNat ++ fm (promoF B S g101 g162) (g282 + 1).toNat := by rw [fm_succ (by omega), ← List.append_assoc]; simp only [promoF, keepM, hc79, hc94, hc129, hc155, hc192, hc280, hc341, nhc341, cond_true, cond_false, Bool.not_true, Bool.not_false, List.append_nil]
       rw [he355]
       have hX357 : MvArr (storeRow A283 (0 + (((fm (pF B S) g44.toNat ++ fm (s1F B S (g44 + 1)) g101.toNat ++ fm (s2F B S (g44 + 1) g101) g162.toNat ++ fm (promoF B S g101 g162) g282.toNat).length : Nat) : Int).toNat * 11) (mvCells (.pointer none) ⟨(tg4 B S (⟨(promoT B S g101 g162 g282.toNat), g101, g162, (g282 + 2)⟩ : Mv)), g101, g162, (g282 + 2)⟩).toList) (fm (pF B S) g44.toNat ++ fm (s1F B S (g44 + 1)) g101.toNat ++ fm (s2F B S (g44 + 1) g101) g162.toNat ++ fm (promoF B S g101 g162) (g282 + 1).toNat) := he355 ▸ hx354
       have hM358 : At w342 b12 (.cells (mvCells (.pointer none) ⟨(promoT B S g101 g162 (g282 + 1).toNat), g101, g162, (g282 + 2)⟩) 98 (0, 0)) := (at_cast hf347 (mv_eq (tags_eq (promoT_succ (by omega)).symm)))
       obtain ⟨Aq359, hA356, hX357⟩ : ∃ A, At w342 b1 (.cells A 176 (0, 0)) ∧ MvArr A (fm (pF B S) g44.toNat ++ fm (s1F B S (g44 + 1)) g101.toNat ++ fm (s2F B S (g44 + 1) g101) g162.toNat ++ fm (promoF B S g101 g162) (g282 + 1).toNat) := ⟨_, hf344, hX357⟩
       exact l_back ((g282 + 1), Aq359, (g282 + 2)) [0, 1, 5, 6, 7, 8, 10, 11, 12, 13, 39, 40, 41, 58, 77, 111, 112, 113] (by kernel_rfl) (by dsimp only; omega) ⟨by constructor <;> dsimp only <;> omega, v353, hA356, hM358, hX357⟩
      have nhc341 : (hasTag (⟨(tg4 B S (⟨(promoT B S g101 g162 g282.toNat), g101, g162, (g282 + 2)⟩ : Mv)), g101, g162, (g282 + 2)⟩ : Mv) 32) = true := by simpa using hc341
      refine w_skip ?_
      refine n_block ?_
      refine n_then ?_
      refine w_region ?_
      refine zs 2 [rz 0 p, (1, .bool false), rz 5 b1, iz 6 (((fm (pF B S) g44.toNat ++ fm (s1F B S (g44 + 1)) g101.toNat ++ fm (s2F B S (g44 + 1) g101) g162.toNat ++ fm (promoF B S g101 g162) g282.toNat).length : Nat) : Int), rz 7 b12, (8, .int .u64 (allowed B S.turn)), (10, .int .i8 (g44 + 1)), (11, .int .u64 (Bd.of B (g44 + 1))), iz 12 g101, (13, .int .u64 (band (possMv B S (pType (g44 + 1)) g101) (allowed B S.turn))), (39, .slice (some ⟨c.ap, c.apo, none⟩) 12 12), iz 40 ((12 : Nat) : Int), iz 41 g44, iz 58 g101, iz 77 g162, (111, .slice (some ⟨c.pp, c.ppo, none⟩) 4 4), iz 112 ((4 : Nat) : Int), iz 113 (IntKind.i64.wrap (g282 + 1))] ?_
      refine ze ?_
      rw [zi (g282 + 1) (by omega) (by omega)]
      have he360 : fm (pF B S) g44.toNat ++ fm (s1F B S (g44 + 1)) g101.toNat ++ fm (s2F B S (g44 + 1) g101) g162.toNat ++ fm (promoF B S g101 g162) g282.toNat = fm (pF B S) g44.toNat ++ fm (s1F B S (g44 + 1)) g101.toNat ++ fm (s2F B S (g44 + 1) g101) g162.toNat ++ fm (promoF B S g101 g162) (g282 + 1).toNat := by rw [fm_succ (by omega), ← List.append_assoc]; simp only [promoF, keepM, hc79, hc94, hc129, hc155, hc192, hc280, hc341, nhc341, cond_true, cond_false, Bool.not_true, Bool.not_false, List.append_nil]
      rw [he360]
      have hX362 : MvArr A283 (fm (pF B S) g44.toNat ++ fm (s1F B S (g44 + 1)) g101.toNat ++ fm (s2F B S (g44 + 1) g101) g162.toNat ++ fm (promoF B S g101 g162) (g282 + 1).toNat) := he360 ▸ hx292
      have hM363 : At w329 b12 (.cells (mvCells (.pointer none) ⟨(promoT B S g101 g162 (g282 + 1).toNat), g101, g162, (g282 + 2)⟩) 98 (0, 0)) := (at_cast hf334 (mv_eq (tags_eq (promoT_succ (by omega)).symm)))
      obtain ⟨Aq364, hA361, hX362⟩ : ∃ A, At w329 b1 (.cells A 176 (0, 0)) ∧ MvArr A (fm (pF B S) g44.toNat ++ fm (s1F B S (g44 + 1)) g101.toNat ++ fm (s2F B S (g44 + 1) g101) g162.toNat ++ fm (promoF B S g101 g162) (g282 + 1).toNat) := ⟨_, hf333, hX362⟩
      exact l_back ((g282 + 1), Aq364, (g282 + 2)) [0, 1, 5, 6, 7, 8, 10, 11, 12, 13, 39, 40, 41, 58, 77, 111, 112, 113] (by kernel_rfl) (by dsimp only; omega) ⟨by constructor <;> dsimp only <;> omega, v340, hA361, hM363, hX362⟩
     have y301 := of_decide_eq_false hc301
     obtain rfl : g282 = (4 : Int) := by omega
     have hx365 : MvArr A283 (fm (pF B S) g44.toNat ++ fm (s1F B S (g44 + 1)) g101.toNat ++ fm (s2F B S (g44 + 1) g101) g162.toNat ++ fm (promoF B S g101 g162) 4) := hx292
     refine w_exit ?_
     refine x_then ?_
     refine x_then ?_
     refine x_hit ?_
     refine n_block ?_
     refine n_then ?_
     refine w_region ?_
     refine zs 2 [rz 0 p, (1, .bool false), rz 5 b1, iz 6 (((fm (pF B S) g44.toNat ++ fm (s1F B S (g44 + 1)) g101.toNat ++ fm (s2F B S (g44 + 1) g101) g162.toNat ++ fm (promoF B S g101 g162) 4).length : Nat) : Int), rz 7 b12, (8, .int .u64 (allowed B S.turn)), (10, .int .i8 (g44 + 1)), (11, .int .u64 (Bd.of B (g44 + 1))), iz 12 g101, (13, .int .u64 (band (possMv B S (pType (g44 + 1)) g101) (allowed B S.turn))), (39, .slice (some ⟨c.ap, c.apo, none⟩) 12 12), iz 40 ((12 : Nat) : Int), iz 41 g44, iz 58 g101, iz 77 (IntKind.i64.wrap (g162 + 1))] ?_
     refine ze ?_
     rw [zi (g162 + 1) (by omega) (by omega)]
     have he366 : fm (pF B S) g44.toNat ++ fm (s1F B S (g44 + 1)) g101.toNat ++ fm (s2F B S (g44 + 1) g101) g162.toNat ++ fm (promoF B S g101 g162) 4 = fm (pF B S) g44.toNat ++ fm (s1F B S (g44 + 1)) g101.toNat ++ fm (s2F B S (g44 + 1) g101) (g162 + 1).toNat := by rw [fm_succ (by omega), ← List.append_assoc]; simp only [s2F, dest, isPromo, keepM, plainM, hc79, hc94, hc129, hc155, hc192, hc280, cond_true, cond_false, Bool.not_true, Bool.not_false, List.append_nil]
     rw [he366]
     have hX368 : MvArr A283 (fm (pF B S) g44.toNat ++ fm (s1F B S (g44 + 1)) g101.toNat ++ fm (s2F B S (g44 + 1) g101) (g162 + 1).toNat) := he366 ▸ hx365
     have hM369 : At w286 b12 (.cells (mvCells (.pointer none) (⟨(promoT B S g101 g162 (4 : Int).toNat), g101, g162, M284⟩ : Mv)) 98 (0, 0)) := hf291
     obtain ⟨Aq370, hA367, hX368⟩ : ∃ A, At w286 b1 (.cells A 176 (0, 0)) ∧ MvArr A (fm (pF B S) g44.toNat ++ fm (s1F B S (g44 + 1)) g101.toNat ++ fm (s2F B S (g44 + 1) g101) (g162 + 1).toNat) := ⟨_, hf290, hX368⟩
     exact l_back ((g162 + 1), Aq370, (⟨(promoT B S g101 g162 (4 : Int).toNat), g101, g162, M284⟩ : Mv)) [0, 1, 5, 6, 7, 8, 10, 11, 12, 13, 39, 40, 41, 58, 77] (by kernel_rfl) (by dsimp only; omega) ⟨by constructor <;> dsimp only <;> omega, v300, hA367, hM369, hX368⟩
    refine zw ?_
    refine zs 1 [rz 0 p, (1, .bool false), rz 5 b1, iz 6 (((fm (pF B S) g44.toNat ++ fm (s1F B S (g44 + 1)) g101.toNat ++ fm (s2F B S (g44 + 1) g101) g162.toNat).length : Nat) : Int), rz 7 b12, (8, .int .u64 (allowed B S.turn)), (10, .int .i8 (g44 + 1)), (11, .int .u64 (Bd.of B (g44 + 1))), iz 12 g101, (13, .int .u64 (band (possMv B S (pType (g44 + 1)) g101) (allowed B S.turn))), (39, .slice (some ⟨c.ap, c.apo, none⟩) 12 12), iz 40 ((12 : Nat) : Int), iz 41 g44, iz 58 g101, iz 77 g162, (134, .pointer (some ⟨b12, 10, none⟩))] ?_
    refine reg_store b12 10 (.int .i8 0) none (by kernel_rfl) hf274 (Nat.le_of_ble_eq_true rfl) rfl ?_
    intro w371 hu372
    have hf373 : At w371 b12 (.cells (mvCells (.pointer none) ⟨0, g101, g162, 0⟩) 98 (0, 0)) := hu372.at_
    have hf374 := At.keep hf271 hu372.mod (not_mem1 (At.ne hf271 hf274 rfl))
    have hf375 := At.keep hf272 hu372.mod (not_mem1 (At.ne hf272 hf274 rfl))
    have hf376 := At.keep hf273 hu372.mod (not_mem1 (At.ne hf273 hf274 rfl))
    have z377 := Glob.keep z275 hu372.mod (by simp <;> omega)
    have v381 := Mod.fresh' v279 hu372.mod (by simp <;> omega)
    refine zx ?_
    refine zs 1 [rz 0 p, (1, .bool false), rz 5 b1, iz 6 (((fm (pF B S) g44.toNat ++ fm (s1F B S (g44 + 1)) g101.toNat ++ fm (s2F B S (g44 + 1) g101) g162.toNat).length : Nat) : Int), rz 7 b12, (8, .int .u64 (allowed B S.turn)), (10, .int .i8 (g44 + 1)), (11, .int .u64 (Bd.of B (g44 + 1))), iz 12 g101, (13, .int .u64 (band (possMv B S (pType (g44 + 1)) g101) (allowed B S.turn))), (39, .slice (some ⟨c.ap, c.apo, none⟩) 12 12), iz 40 ((12 : Nat) : Int), iz 41 g44, iz 58 g101, iz 77 g162, rz 135 p] ?_
    have hq382 : 0 ≤ g101 ∧ g101 ≤ 63 := by omega
    have hq383 : 0 ≤ g162 ∧ g162 ≤ 63 := by omega
    have hq384 := hpc (g44 + 1) g101 (by omega) (by omega) hc129
    refine reg_call 135 [pz b12, pz p] (some 136) (by kernel_rfl) (c135 (M := (⟨0, g101, g162, 0⟩ : Mv)) hf374 hf375 hf373 z377 hq382 hq383 hq384 (pColor_or hq384) (fun h => absurd rfl h) (fun h => absurd rfl h) (by omega) (by assumption) (by assumption)) ?_
    rintro _ w385 ⟨rfl, v386, hf387⟩; refine ⟨_, rfl, ?_⟩
    have hf390 := At.keep hf376 v386 (not_mem1 (At.ne hf376 hf373 rfl))
    have v395 := Mod.fresh' v381 v386 (by simp <;> omega)
    refine zx ?_
    refine zk (some 137) (c74 hf387 32) ?_
    intro w396 v397
    have hf400 := At.on hf390 v397
    have hf401 := At.on hf387 v397
    have v406 := Mod.trans v395 (Mod.of_nil v397)
    refine zs 1 [rz 0 p, (1, .bool false), rz 5 b1, iz 6 (((fm (pF B S) g44.toNat ++ fm (s1F B S (g44 + 1)) g101.toNat ++ fm (s2F B S (g44 + 1) g101) g162.toNat).length : Nat) : Int), rz 7 b12, (8, .int .u64 (allowed B S.turn)), (10, .int .i8 (g44 + 1)), (11, .int .u64 (Bd.of B (g44 + 1))), iz 12 g101, (13, .int .u64 (band (possMv B S (pType (g44 + 1)) g101) (allowed B S.turn))), (39, .slice (some ⟨c.ap, c.apo, none⟩) 12 12), iz 40 ((12 : Nat) : Int), iz 41 g44, iz 58 g101, iz 77 g162, (138, .bool (!(hasTag (⟨(tg4 B S (⟨0, g101, g162, 0⟩ : Mv)), g101, g162, 0⟩ : Mv) 32)))] ?_
    refine zz ?_
    refine zc (fun hc407 => ?_) fun hc407 => ?_
    ·have nhc407 : (hasTag (⟨(tg4 B S (⟨0, g101, g162, 0⟩ : Mv)), g101, g162, 0⟩ : Mv) 32) = false := by simpa using hc407
     refine w_seq ?_
     have hh := fm_le (f := s2F B S (g44 + 1) g101) (n := 64) (j := g162) (by omega) (by omega)
     have he : (s2F B S (g44 + 1) g101 g162).length = 1 := by simp only [s2F, dest, isPromo, plainM, keepM, hc79, hc94, hc129, hc155, hc192, hc280, hc407, nhc407, cond_true, cond_false]; rfl
     rw [he] at hh
     have hlt : (fm (pF B S) g44.toNat ++ fm (s1F B S (g44 + 1)) g101.toNat ++ fm (s2F B S (g44 + 1) g101) g162.toNat).length < 218 := by simp only [List.length_append]; omega
     refine w_region ?_
     refine zv 3 [rz 0 p, (1, .bool false), rz 5 b1, iz 6 (((fm (pF B S) g44.toNat ++ fm (s1F B S (g44 + 1)) g101.toNat ++ fm (s2F B S (g44 + 1) g101) g162.toNat).length : Nat) : Int), rz 7 b12, (8, .int .u64 (allowed B S.turn)), (10, .int .i8 (g44 + 1)), (11, .int .u64 (Bd.of B (g44 + 1))), iz 12 g101, (13, .int .u64 (band (possMv B S (pType (g44 + 1)) g101) (allowed B S.turn))), (39, .slice (some ⟨c.ap, c.apo, none⟩) 12 12), iz 40 ((12 : Nat) : Int), iz 41 g44, iz 58 g101, iz 77 g162, (140, .agg (mvCells (.pointer none) ⟨(tg4 B S (⟨0, g101, g162, 0⟩ : Mv)), g101, g162, 0⟩)), (141, .pointer (some ⟨b1, (0 + (((fm (pF B S) g44.toNat ++ fm (s1F B S (g44 + 1)) g101.toNat ++ fm (s2F B S (g44 + 1) g101) g162.toNat).length : Nat) : Int).toNat * 11), none⟩))] [.row ⟨b12, 0, none⟩ 11 (mvCells (.pointer none) ⟨(tg4 B S (⟨0, g101, g162, 0⟩ : Mv)), g101, g162, 0⟩), .prop (0 ≤ (((fm (pF B S) g44.toNat ++ fm (s1F B S (g44 + 1)) g101.toNat ++ fm (s2F B S (g44 + 1) g101) g162.toNat).length : Nat) : Int) ∧ (((fm (pF B S) g44.toNat ++ fm (s1F B S (g44 + 1)) g101.toNat ++ fm (s2F B S (g44 + 1) g101) g162.toNat).length : Nat) : Int) < ((218 : Nat) : Int))] [.agg (mvCells (.pointer none) ⟨(tg4 B S (⟨0, g101, g162, 0⟩ : Mv)), g101, g162, 0⟩)] (⟨At.row hf401 rfl, (zh (by omega))⟩) ?_
     refine reg_store b1 (0 + (((fm (pF B S) g44.toNat ++ fm (s1F B S (g44 + 1)) g101.toNat ++ fm (s2F B S (g44 + 1) g101) g162.toNat).length : Nat) : Int).toNat * 11) (.agg (mvCells (.pointer none) ⟨(tg4 B S (⟨0, g101, g162, 0⟩ : Mv)), g101, g162, 0⟩)) none (by kernel_rfl) hf400 (by rw [(MvArr.size hx172)]; show (0 + (((fm (pF B S) g44.toNat ++ fm (s1F B S (g44 + 1)) g101.toNat ++ fm (s2F B S (g44 + 1) g101) g162.toNat).length : Nat) : Int).toNat * 11) + 11 ≤ 2398; omega) rfl ?_
     intro w408 hu409
     have hf410 : At w408 b1 (.cells (storeRow A163 (0 + (((fm (pF B S) g44.toNat ++ fm (s1F B S (g44 + 1)) g101.toNat ++ fm (s2F B S (g44 + 1) g101) g162.toNat).length : Nat) : Int).toNat * 11) (mvCells (.pointer none) ⟨(tg4 B S (⟨0, g101, g162, 0⟩ : Mv)), g101, g162, 0⟩).toList) 176 (0, 0)) := hu409.at_
     have hf413 := At.keep hf401 hu409.mod (not_mem1 (At.ne hf401 hf400 rfl))
     have v418 := Mod.fresh' v406 hu409.mod (by simp <;> omega)
     have hx419 : MvArr (storeRow A163 (0 + (((fm (pF B S) g44.toNat ++ fm (s1F B S (g44 + 1)) g101.toNat ++ fm (s2F B S (g44 + 1) g101) g162.toNat).length : Nat) : Int).toNat * 11) (mvCells (.pointer none) ⟨(tg4 B S (⟨0, g101, g162, 0⟩ : Mv)), g101, g162, 0⟩).toList) (fm (pF B S) g44.toNat ++ fm (s1F B S (g44 + 1)) g101.toNat ++ fm (s2F B S (g44 + 1) g101) g162.toNat ++ [(⟨(tg4 B S (⟨0, g101, g162, 0⟩ : Mv)), g101, g162, 0⟩ : Mv)]) := MvArr.push hx172 (by simp only [List.length_append]; omega) (by omega)
     refine zx ?_
     refine zs 3 [rz 0 p, (1, .bool false), rz 5 b1, iz 6 (IntKind.i64.wrap ((((fm (pF B S) g44.toNat ++ fm (s1F B S (g44 + 1)) g101.toNat ++ fm (s2F B S (g44 + 1) g101) g162.toNat).length : Nat) : Int) + 1)), rz 7 b12, (8, .int .u64 (allowed B S.turn)), (10, .int .i8 (g44 + 1)), (11, .int .u64 (Bd.of B (g44 + 1))), iz 12 g101, (13, .int .u64 (band (possMv B S (pType (g44 + 1)) g101) (allowed B S.turn))), (39, .slice (some ⟨c.ap, c.apo, none⟩) 12 12), iz 40 ((12 : Nat) : Int), iz 41 g44, iz 58 g101, iz 77 g162] ?_
     refine ze ?_
     rw [(show ((IntKind.i64.wrap ((((fm (pF B S) g44.toNat ++ fm (s1F B S (g44 + 1)) g101.toNat ++ fm (s2F B S (g44 + 1) g101) g162.toNat).length : Nat) : Int) + (1 : Int))) : Int) = ((((fm (pF B S) g44.toNat ++ fm (s1F B S (g44 + 1)) g101.toNat ++ fm (s2F B S (g44 + 1) g101) g162.toNat ++ [(⟨(tg4 B S (⟨(0 : Int), g101, g162, (0 : Int)⟩ : Mv)), g101, g162, (0 : Int)⟩ : Mv)])).length : Nat) : Int) from (by rw [i64_in' (by omega) (by omega)]; simp only [List.length_append, List.length_cons, List.length_nil]; omega))]
     refine zn ?_
     refine zs 1 [rz 0 p, (1, .bool false), rz 5 b1, iz 6 ((((fm (pF B S) g44.toNat ++ fm (s1F B S (g44 + 1)) g101.toNat ++ fm (s2F B S (g44 + 1) g101) g162.toNat ++ [(⟨(tg4 B S (⟨0, g101, g162, 0⟩ : Mv)), g101, g162, 0⟩ : Mv)])).length : Nat) : Int), rz 7 b12, (8, .int .u64 (allowed B S.turn)), (10, .int .i8 (g44 + 1)), (11, .int .u64 (Bd.of B (g44 + 1))), iz 12 g101, (13, .int .u64 (band (possMv B S (pType (g44 + 1)) g101) (allowed B S.turn))), (39, .slice (some ⟨c.ap, c.apo, none⟩) 12 12), iz 40 ((12 : Nat) : Int), iz 41 g44, iz 58 g101, iz 77 g162, (144, .bool false)] ?_
     refine zz ?_
     refine w_false rfl ?_
     refine w_skip ?_
     refine n_block ?_
     refine n_then ?_
     refine w_region ?_
     refine zs 2 [rz 0 p, (1, .bool false), rz 5 b1, iz 6 ((((fm (pF B S) g44.toNat ++ fm (s1F B S (g44 + 1)) g101.toNat ++ fm (s2F B S (g44 + 1) g101) g162.toNat ++ [(⟨(tg4 B S (⟨0, g101, g162, 0⟩ : Mv)), g101, g162, 0⟩ : Mv)])).length : Nat) : Int), rz 7 b12, (8, .int .u64 (allowed B S.turn)), (10, .int .i8 (g44 + 1)), (11, .int .u64 (Bd.of B (g44 + 1))), iz 12 g101, (13, .int .u64 (band (possMv B S (pType (g44 + 1)) g101) (allowed B S.turn))), (39, .slice (some ⟨c.ap, c.apo, none⟩) 12 12), iz 40 ((12 : Nat) : Int), iz 41 g44, iz 58 g101, iz 77 (IntKind.i64.wrap (g162 + 1))] ?_
     refine ze ?_
     rw [zi (g162 + 1) (by omega) (by omega)]
     have he420 : (fm (pF B S) g44.toNat ++ fm (s1F B S (g44 + 1)) g101.toNat ++ fm (s2F B S (g44 + 1) g101) g162.toNat ++ [(⟨(tg4 B S (⟨0, g101, g162, 0⟩ : Mv)), g101, g162, 0⟩ : Mv)]) = fm (pF B S) g44.toNat ++ fm (s1F B S (g44 + 1)) g101.toNat ++ fm (s2F B S (g44 + 1) g101) (g162 + 1).toNat := by rw [fm_succ (by omega), ← List.append_assoc]; simp only [s2F, dest, isPromo, keepM, plainM, hc79, hc94, hc129, hc155, hc192, hc280, hc407, nhc407, cond_true, cond_false, Bool.not_true, Bool.not_false, List.append_nil]
     rw [he420]
     have hX422 : MvArr (storeRow A163 (0 + (((fm (pF B S) g44.toNat ++ fm (s1F B S (g44 + 1)) g101.toNat ++ fm (s2F B S (g44 + 1) g101) g162.toNat).length : Nat) : Int).toNat * 11) (mvCells (.pointer none) ⟨(tg4 B S (⟨0, g101, g162, 0⟩ : Mv)), g101, g162, 0⟩).toList) (fm (pF B S) g44.toNat ++ fm (s1F B S (g44 + 1)) g101.toNat ++ fm (s2F B S (g44 + 1) g101) (g162 + 1).toNat) := he420 ▸ hx419
     have hM423 : At w408 b12 (.cells (mvCells (.pointer none) (⟨(tg4 B S (⟨0, g101, g162, 0⟩ : Mv)), g101, g162, 0⟩ : Mv)) 98 (0, 0)) := hf413
     obtain ⟨Aq424, hA421, hX422⟩ : ∃ A, At w408 b1 (.cells A 176 (0, 0)) ∧ MvArr A (fm (pF B S) g44.toNat ++ fm (s1F B S (g44 + 1)) g101.toNat ++ fm (s2F B S (g44 + 1) g101) (g162 + 1).toNat) := ⟨_, hf410, hX422⟩
     exact l_back ((g162 + 1), Aq424, (⟨(tg4 B S (⟨0, g101, g162, 0⟩ : Mv)), g101, g162, 0⟩ : Mv)) [0, 1, 5, 6, 7, 8, 10, 11, 12, 13, 39, 40, 41, 58, 77] (by kernel_rfl) (by dsimp only; omega) ⟨by constructor <;> dsimp only <;> omega, v418, hA421, hM423, hX422⟩
    have nhc407 : (hasTag (⟨(tg4 B S (⟨0, g101, g162, 0⟩ : Mv)), g101, g162, 0⟩ : Mv) 32) = true := by simpa using hc407
    refine w_skip ?_
    refine n_block ?_
    refine n_then ?_
    refine w_region ?_
    refine zs 2 [rz 0 p, (1, .bool false), rz 5 b1, iz 6 (((fm (pF B S) g44.toNat ++ fm (s1F B S (g44 + 1)) g101.toNat ++ fm (s2F B S (g44 + 1) g101) g162.toNat).length : Nat) : Int), rz 7 b12, (8, .int .u64 (allowed B S.turn)), (10, .int .i8 (g44 + 1)), (11, .int .u64 (Bd.of B (g44 + 1))), iz 12 g101, (13, .int .u64 (band (possMv B S (pType (g44 + 1)) g101) (allowed B S.turn))), (39, .slice (some ⟨c.ap, c.apo, none⟩) 12 12), iz 40 ((12 : Nat) : Int), iz 41 g44, iz 58 g101, iz 77 (IntKind.i64.wrap (g162 + 1))] ?_
    refine ze ?_
    rw [zi (g162 + 1) (by omega) (by omega)]
    have he425 : fm (pF B S) g44.toNat ++ fm (s1F B S (g44 + 1)) g101.toNat ++ fm (s2F B S (g44 + 1) g101) g162.toNat = fm (pF B S) g44.toNat ++ fm (s1F B S (g44 + 1)) g101.toNat ++ fm (s2F B S (g44 + 1) g101) (g162 + 1).toNat := by rw [fm_succ (by omega), ← List.append_assoc]; simp only [s2F, dest, isPromo, keepM, plainM, hc79, hc94, hc129, hc155, hc192, hc280, hc407, nhc407, cond_true, cond_false, Bool.not_true, Bool.not_false, List.append_nil]
    rw [he425]
    have hX427 : MvArr A163 (fm (pF B S) g44.toNat ++ fm (s1F B S (g44 + 1)) g101.toNat ++ fm (s2F B S (g44 + 1) g101) (g162 + 1).toNat) := he425 ▸ hx172
    have hM428 : At w396 b12 (.cells (mvCells (.pointer none) (⟨(tg4 B S (⟨0, g101, g162, 0⟩ : Mv)), g101, g162, 0⟩ : Mv)) 98 (0, 0)) := hf401
    obtain ⟨Aq429, hA426, hX427⟩ : ∃ A, At w396 b1 (.cells A 176 (0, 0)) ∧ MvArr A (fm (pF B S) g44.toNat ++ fm (s1F B S (g44 + 1)) g101.toNat ++ fm (s2F B S (g44 + 1) g101) (g162 + 1).toNat) := ⟨_, hf400, hX427⟩
    exact l_back ((g162 + 1), Aq429, (⟨(tg4 B S (⟨0, g101, g162, 0⟩ : Mv)), g101, g162, 0⟩ : Mv)) [0, 1, 5, 6, 7, 8, 10, 11, 12, 13, 39, 40, 41, 58, 77] (by kernel_rfl) (by dsimp only; omega) ⟨by constructor <;> dsimp only <;> omega, v406, hA426, hM428, hX427⟩
   have y180 := of_decide_eq_false hc180
   obtain rfl : g162 = (64 : Int) := by omega
   have hx430 : MvArr A163 (fm (pF B S) g44.toNat ++ fm (s1F B S (g44 + 1)) g101.toNat ++ fm (s2F B S (g44 + 1) g101) 64) := hx172
   refine w_exit ?_
   refine x_then ?_
   refine x_then ?_
   refine x_hit ?_
   refine n_block ?_
   refine n_then ?_
   refine w_region ?_
   refine zs 2 [rz 0 p, (1, .bool false), rz 5 b1, iz 6 (((fm (pF B S) g44.toNat ++ fm (s1F B S (g44 + 1)) g101.toNat ++ fm (s2F B S (g44 + 1) g101) 64).length : Nat) : Int), rz 7 b12, (8, .int .u64 (allowed B S.turn)), (10, .int .i8 (g44 + 1)), (11, .int .u64 (Bd.of B (g44 + 1))), (39, .slice (some ⟨c.ap, c.apo, none⟩) 12 12), iz 40 ((12 : Nat) : Int), iz 41 g44, iz 58 (IntKind.i64.wrap (g101 + 1))] ?_
   refine ze ?_
   rw [zi (g101 + 1) (by omega) (by omega)]
   have he431 : fm (pF B S) g44.toNat ++ fm (s1F B S (g44 + 1)) g101.toNat ++ fm (s2F B S (g44 + 1) g101) 64 = fm (pF B S) g44.toNat ++ fm (s1F B S (g44 + 1)) (g101 + 1).toNat := by rw [fm_succ (by omega), ← List.append_assoc]; simp only [s1F, dest, hc79, hc94, hc129, hc155, cond_true, cond_false, Bool.not_true, Bool.not_false, List.append_nil]
   rw [he431]
   have hX433 : MvArr A163 (fm (pF B S) g44.toNat ++ fm (s1F B S (g44 + 1)) (g101 + 1).toNat) := he431 ▸ hx430
   have hM434 : At w166 b12 (.cells (mvCells (.pointer none) M164) 98 (0, 0)) := hf171
   obtain ⟨Aq435, hA432, hX433⟩ : ∃ A, At w166 b1 (.cells A 176 (0, 0)) ∧ MvArr A (fm (pF B S) g44.toNat ++ fm (s1F B S (g44 + 1)) (g101 + 1).toNat) := ⟨_, hf170, hX433⟩
   exact l_back ((g101 + 1), Aq435, M164) [0, 1, 5, 6, 7, 8, 10, 11, 39, 40, 41, 58] (by kernel_rfl) (by dsimp only; omega) ⟨by constructor <;> dsimp only <;> omega, v179, hA432, hM434, hX433⟩
  have y118 := of_decide_eq_false hc118
  obtain rfl : g101 = (64 : Int) := by omega
  have hx436 : MvArr A102 (fm (pF B S) g44.toNat ++ fm (s1F B S (g44 + 1)) 64) := hx111
  refine w_exit ?_
  refine x_then ?_
  refine x_then ?_
  refine x_hit ?_
  refine n_block ?_
  refine n_then ?_
  refine w_region ?_
  refine zs 2 [rz 0 p, (1, .bool false), rz 5 b1, iz 6 (((fm (pF B S) g44.toNat ++ fm (s1F B S (g44 + 1)) 64).length : Nat) : Int), rz 7 b12, (8, .int .u64 (allowed B S.turn)), (39, .slice (some ⟨c.ap, c.apo, none⟩) 12 12), iz 40 ((12 : Nat) : Int), iz 41 (IntKind.i64.wrap (g44 + 1))] ?_
  refine ze ?_
  rw [zi (g44 + 1) (by omega) (by omega)]
  have he437 : fm (pF B S) g44.toNat ++ fm (s1F B S (g44 + 1)) 64 = fm (pF B S) (g44 + 1).toNat := by rw [fm_succ (by omega)]; simp only [pF, hc79, hc94, cond_true, cond_false, Bool.not_true, Bool.not_false, List.append_nil]
  rw [he437]
  have hX439 : MvArr A102 (fm (pF B S) (g44 + 1).toNat) := he437 ▸ hx436
  have hM440 : At w105 b12 (.cells (mvCells (.pointer none) M103) 98 (0, 0)) := hf110
  obtain ⟨Aq441, hA438, hX439⟩ : ∃ A, At w105 b1 (.cells A 176 (0, 0)) ∧ MvArr A (fm (pF B S) (g44 + 1).toNat) := ⟨_, hf109, hX439⟩
  exact l_back ((g44 + 1), Aq441, M103) [0, 1, 5, 6, 7, 8, 39, 40, 41] (by kernel_rfl) (by dsimp only; omega) ⟨by constructor <;> dsimp only <;> omega, v117, hA438, hM440, hX439⟩
 have y60 := of_decide_eq_false hc60
 obtain rfl : g44 = (12 : Int) := by omega
 have hx442 : MvArr A45 ((stdL B S)) := hx54
 refine w_exit ?_
 refine x_then ?_
 refine x_then ?_
 refine x_hit ?_
 refine zn ?_
 refine zs 1 [rz 5 b1, iz 6 ((((stdL B S)).length : Nat) : Int), iz 152 ((((stdL B S)).length : Nat) : Int)] ?_
 have hl : ((stdL B S)).length ≤ 218 := hLen
 refine reg_mslice ((((stdL B S)).length : Nat) : Int) 98 (some 153) 11 96 (by kernel_rfl) (by omega) (by omega) ?_
 intro b443 w444 cs445 hcs446 hn447
 have ne448 : b12 ≠ b443 := hn447.ne hf53
 have hb449 : c.base ≤ b443 := Glob.lt z58 hn447
 have hb450 := Nat.le_trans v59.size hn447.base
 have hb451 := Nat.le_trans v49.size hn447.base
 have v452 := hn447.mod
 have hf455 := At.on hf52 v452
 have v458 := zt v59 v452
 have hf460 := hn447.at_
 refine zs 1 [rz 5 b1, iz 6 ((((stdL B S)).length : Nat) : Int), (19, .slice (some ⟨b443, 0, none⟩) (((stdL B S)).length) (((stdL B S)).length))] ?_
 refine zx ?_
 refine zo 3 [(19, .slice (some ⟨b443, 0, none⟩) (((stdL B S)).length) (((stdL B S)).length)), (154, .slice (some ⟨b443, 0, none⟩) (((stdL B S)).length) (((stdL B S)).length)), (156, .slice (some ⟨b1, 0, none⟩) (((((stdL B S)).length : Nat) : Int).toNat) 218)] [.prop (0 ≤ ((((stdL B S)).length : Nat) : Int) ∧ ((((stdL B S)).length : Nat) : Int) ≤ ((218 : Nat) : Int))] (zh (by omega)) ?_
 refine reg_copy b443 ((stdL B S)).length ⟨b1, 0, none⟩ ((stdL B S)).length 218 98 (some 157) 11 (by kernel_rfl) hf460 (by simpa using hcs446) (MvArr.row hx442 hl hf455) (oneCells_mvs _) ?_
 intro w461 hu462
 have hf463 := hu462.at_
 have v469 := Mod.fresh' v458 hu462.mod (by simp <;> omega)
 refine zx ?_
 refine zs 2 [(4, .slice (some ⟨b443, 0, none⟩) (((stdL B S)).length) (((stdL B S)).length))] ?_
 refine zz ?_
 refine w_ret ?_
 exact ret1 rfl rfl (⟨_, rfl, v469, own_of_at hf463 (by omega) (mvsL_len _) (by omega)⟩)
end Go.Proofs.YtgnhellfhjoaaaaGreatDoor
namespace Go.Proofs
open Go.Shelf
def Tryz.lays169_ren : Go.Shelf.Ren := ⟨fun | 169 => 115 | n => n, fun | 70 => 148 | 9 => 9 | 0 => 0 | 72 => 150 | 37 => 67 | 127 => 164 | 3 => 3 | 5 => 5 | n => n, fun | n => n⟩
theorem Tryz.lays169 : Go.Proofs.Lays.n169 Tryz.prog Tryz.lays169_ren := {
 mixed := by kernel_rfl
 f169 := Tryz.func115.trans (congrArg some (by kernel_rfl))
 t0 := Tryz.underlying0
 a0 := Tryz.isAgg0
 z0 := Tryz.sizeOf0
 v0 := Tryz.zeroValue0
 t3 := Tryz.underlying3
 a3 := Tryz.isAgg3
 z3 := Tryz.sizeOf3
 v3 := Tryz.zeroValue3
 t9 := Tryz.underlying9
 a9 := Tryz.isAgg9
 z9 := Tryz.sizeOf9
 v9 := Tryz.zeroValue9
 t37 := Tryz.underlying67
 a37 := Tryz.isAgg67
 z37 := Tryz.sizeOf67
 v37 := Tryz.zeroValue67
 t70 := Tryz.underlying148
 a70 := Tryz.isAgg148
 z70 := Tryz.sizeOf148
 v70 := Tryz.zeroValue148
 t72 := Tryz.underlying150
 a72 := Tryz.isAgg150
 z72 := Tryz.sizeOf150
 v72 := Tryz.zeroValue150
 t127 := Tryz.underlying164
 a127 := Tryz.isAgg164
 z127 := Tryz.sizeOf164
 v127 := Tryz.zeroValue164 }
theorem Tryz.Builder_Extra_169 : Builder.Extra Tryz.prog Tryz.lays169_ren := {
 sizeBuilder := by kernel_rfl
 liesBuilder := by kernel_rfl
 t5 := Tryz.underlying5
 a5 := Tryz.isAgg5
 z5 := Tryz.sizeOf5
 v5 := Tryz.zeroValue5
 infoByte := by kernel_rfl
 cellsByte := by kernel_rfl
 sizeByte := by kernel_rfl
 neB5 := by decide }
open Go.RowKit in
theorem Tryz.Builder_String_any (B b : Nat) (l : List UInt8) (w : World) (h : Lib.IsBuilder 150 5 B b (Lib.byteCells l) w) (hBw : B ≤ w.heap.size) :
  Calls Tryz.prog 115 #[.pointer (some ⟨b, 0, none⟩)] w fun e w' => e = .returned (.string ⟨l.toArray⟩) ∧ Below B w w' := Any.Builder_String_any Tryz.lays169 Tryz.Builder_Extra_169 B b l w h hBw
def Tryz.lays165_ren : Go.Shelf.Ren := ⟨fun | 165 => 112 | 240 => 124 | 241 => 125 | 276 => 137 | 277 => 138 | n => n, fun | 70 => 148 | 3 => 3 | 0 => 0 | 4 => 4 | 9 => 9 | 20 => 20 | 72 => 150 | 37 => 67 | 164 => 183 | 5 => 5 | n => n, fun | n => n⟩
theorem Tryz.lays165 : Go.Proofs.Lays.n165 Tryz.prog Tryz.lays165_ren := {
 mixed := by kernel_rfl
 f165 := Tryz.func112.trans (congrArg some (by kernel_rfl))
 f240 := Tryz.func124.trans (congrArg some (by kernel_rfl))
 f241 := Tryz.func125.trans (congrArg some (by kernel_rfl))
 f276 := Tryz.func137.trans (congrArg some (by kernel_rfl))
 f277 := Tryz.func138.trans (congrArg some (by kernel_rfl))
 t0 := Tryz.underlying0
 a0 := Tryz.isAgg0
 z0 := Tryz.sizeOf0
 v0 := Tryz.zeroValue0
 t3 := Tryz.underlying3
 a3 := Tryz.isAgg3
 z3 := Tryz.sizeOf3
 v3 := Tryz.zeroValue3
 t4 := Tryz.underlying4
 a4 := Tryz.isAgg4
 z4 := Tryz.sizeOf4
 v4 := Tryz.zeroValue4
 t9 := Tryz.underlying9
 a9 := Tryz.isAgg9
 z9 := Tryz.sizeOf9
 v9 := Tryz.zeroValue9
 t20 := Tryz.underlying20
 a20 := Tryz.isAgg20
 z20 := Tryz.sizeOf20
 v20 := Tryz.zeroValue20
 t37 := Tryz.underlying67
 a37 := Tryz.isAgg67
 z37 := Tryz.sizeOf67
 v37 := Tryz.zeroValue67
 t70 := Tryz.underlying148
 a70 := Tryz.isAgg148
 z70 := Tryz.sizeOf148
 v70 := Tryz.zeroValue148
 t72 := Tryz.underlying150
 a72 := Tryz.isAgg150
 z72 := Tryz.sizeOf150
 v72 := Tryz.zeroValue150
 t164 := Tryz.underlying183
 a164 := Tryz.isAgg183
 z164 := Tryz.sizeOf183
 v164 := Tryz.zeroValue183 }
theorem Tryz.Builder_Extra_165 : Builder.Extra Tryz.prog Tryz.lays165_ren := {
 sizeBuilder := by kernel_rfl
 liesBuilder := by kernel_rfl
 t5 := Tryz.underlying5
 a5 := Tryz.isAgg5
 z5 := Tryz.sizeOf5
 v5 := Tryz.zeroValue5
 infoByte := by kernel_rfl
 cellsByte := by kernel_rfl
 sizeByte := by kernel_rfl
 neB5 := by decide }
open Go.RowKit in
theorem Tryz.Builder_Grow_fresh (B b n : Nat) (w : World) (hB : B ≤ b) (hbk : w.heap[b]? = some (.cells #[.pointer none, .slice none 0 0] 150 (0, 0))) (hBw : B ≤ w.heap.size) (hn : n ≤ 281474976710656) :
  Calls Tryz.prog 112 #[.pointer (some ⟨b, 0, none⟩), .int .i64 n] w fun e w' => e = .returned (.tuple #[]) ∧ (Lib.BuilderAt 150 5 B b (.pointer (some ⟨b, 0, none⟩)) [] w' ∧ Below B w w') := Any.Builder_Grow_fresh Tryz.lays165 Tryz.Builder_Extra_165 B b n w hB hbk hBw hn
def Tryz.lays158_ren : Go.Shelf.Ren := ⟨fun | 158 => 94 | 165 => 112 | 166 => 113 | 167 => 114 | 169 => 115 | 230 => 116 | 203 => 117 | 240 => 124 | 241 => 125 | 197 => 126 | 118 => 127 | 168 => 128 | 270 => 129 | 262 => 130 | 276 => 137 | 277 => 138 | 260 => 139 | 242 => 140 | 313 => 141 | 278 => 146 | 274 => 147 | 275 => 148 | n => n, fun | 9 => 9 | 4 => 4 | 3 => 3 | 5 => 5 | 72 => 150 | 0 => 0 | 76 => 152 | 75 => 60 | 107 => 157 | 70 => 148 | 20 => 20 | 37 => 67 | 127 => 164 | 21 => 21 | 105 => 165 | 164 => 183 | 162 => 189 | 203 => 187 | 119 => 193 | 46 => 35 | 139 => 196 | 138 => 195 | 51 => 197 | 160 => 198 | 208 => 205 | 206 => 203 | 80 => 155 | n => n, fun | 13 => 8 | 3 => 10 | 4 => 11 | n => n⟩
theorem Tryz.lays158 : Go.Proofs.Lays.n158 Tryz.prog Tryz.lays158_ren := {
 mixed := by kernel_rfl
 f118 := Tryz.func127.trans (congrArg some (by kernel_rfl))
 f158 := Tryz.func94.trans (congrArg some (by kernel_rfl))
 f165 := Tryz.func112.trans (congrArg some (by kernel_rfl))
 f166 := Tryz.func113.trans (congrArg some (by kernel_rfl))
 f167 := Tryz.func114.trans (congrArg some (by kernel_rfl))
 f168 := Tryz.func128.trans (congrArg some (by kernel_rfl))
 f169 := Tryz.func115.trans (congrArg some (by kernel_rfl))
 f197 := Tryz.func126.trans (congrArg some (by kernel_rfl))
 f203 := Tryz.func117.trans (congrArg some (by kernel_rfl))
 f230 := Tryz.func116.trans (congrArg some (by kernel_rfl))
 f240 := Tryz.func124.trans (congrArg some (by kernel_rfl))
 f241 := Tryz.func125.trans (congrArg some (by kernel_rfl))
 f242 := Tryz.func140.trans (congrArg some (by kernel_rfl))
 f260 := Tryz.func139.trans (congrArg some (by kernel_rfl))
 f262 := Tryz.func130.trans (congrArg some (by kernel_rfl))
 f270 := Tryz.func129.trans (congrArg some (by kernel_rfl))
 f274 := Tryz.func147.trans (congrArg some (by kernel_rfl))
 f275 := Tryz.func148.trans (congrArg some (by kernel_rfl))
 f276 := Tryz.func137.trans (congrArg some (by kernel_rfl))
 f277 := Tryz.func138.trans (congrArg some (by kernel_rfl))
 f278 := Tryz.func146.trans (congrArg some (by kernel_rfl))
 f313 := Tryz.func141.trans (congrArg some (by kernel_rfl))
 t0 := Tryz.underlying0
 a0 := Tryz.isAgg0
 z0 := Tryz.sizeOf0
 v0 := Tryz.zeroValue0
 t3 := Tryz.underlying3
 a3 := Tryz.isAgg3
 z3 := Tryz.sizeOf3
 v3 := Tryz.zeroValue3
 t4 := Tryz.underlying4
 a4 := Tryz.isAgg4
 z4 := Tryz.sizeOf4
 v4 := Tryz.zeroValue4
 t5 := Tryz.underlying5
 a5 := Tryz.isAgg5
 z5 := Tryz.sizeOf5
 v5 := Tryz.zeroValue5
 t9 := Tryz.underlying9
 a9 := Tryz.isAgg9
 z9 := Tryz.sizeOf9
 v9 := Tryz.zeroValue9
 t20 := Tryz.underlying20
 a20 := Tryz.isAgg20
 z20 := Tryz.sizeOf20
 v20 := Tryz.zeroValue20
 t21 := Tryz.underlying21
 a21 := Tryz.isAgg21
 z21 := Tryz.sizeOf21
 v21 := Tryz.zeroValue21
 t37 := Tryz.underlying67
 a37 := Tryz.isAgg67
 z37 := Tryz.sizeOf67
 v37 := Tryz.zeroValue67
 t46 := Tryz.underlying35
 a46 := Tryz.isAgg35
 z46 := Tryz.sizeOf35
 v46 := Tryz.zeroValue35
 t51 := Tryz.underlying197
 a51 := Tryz.isAgg197
 z51 := Tryz.sizeOf197
 v51 := Tryz.zeroValue197
 t70 := Tryz.underlying148
 a70 := Tryz.isAgg148
 z70 := Tryz.sizeOf148
 v70 := Tryz.zeroValue148
 t72 := Tryz.underlying150
 a72 := Tryz.isAgg150
 z72 := Tryz.sizeOf150
 v72 := Tryz.zeroValue150
 t75 := Tryz.underlying60
 a75 := Tryz.isAgg60
 z75 := Tryz.sizeOf60
 v75 := Tryz.zeroValue60
 t76 := Tryz.underlying152
 a76 := Tryz.isAgg152
 z76 := Tryz.sizeOf152
 v76 := Tryz.zeroValue152
 t105 := Tryz.underlying165
 a105 := Tryz.isAgg165
 z105 := Tryz.sizeOf165
 v105 := Tryz.zeroValue165
 t107 := Tryz.underlying157
 a107 := Tryz.isAgg157
 z107 := Tryz.sizeOf157
 v107 := Tryz.zeroValue157
 t119 := Tryz.underlying193
 a119 := Tryz.isAgg193
 z119 := Tryz.sizeOf193
 t127 := Tryz.underlying164
 a127 := Tryz.isAgg164
 z127 := Tryz.sizeOf164
 v127 := Tryz.zeroValue164
 t138 := Tryz.underlying195
 a138 := Tryz.isAgg195
 z138 := Tryz.sizeOf195
 v138 := Tryz.zeroValue195
 t139 := Tryz.underlying196
 a139 := Tryz.isAgg196
 z139 := Tryz.sizeOf196
 v139 := Tryz.zeroValue196
 t160 := Tryz.underlying198
 a160 := Tryz.isAgg198
 z160 := Tryz.sizeOf198
 v160 := Tryz.zeroValue198
 t162 := Tryz.underlying189
 a162 := Tryz.isAgg189
 z162 := Tryz.sizeOf189
 v162 := Tryz.zeroValue189
 t164 := Tryz.underlying183
 a164 := Tryz.isAgg183
 z164 := Tryz.sizeOf183
 v164 := Tryz.zeroValue183
 t203 := Tryz.underlying187
 a203 := Tryz.isAgg187
 z203 := Tryz.sizeOf187
 v203 := Tryz.zeroValue187
 t206 := Tryz.underlying203
 a206 := Tryz.isAgg203
 z206 := Tryz.sizeOf203
 v206 := Tryz.zeroValue203
 t208 := Tryz.underlying205
 a208 := Tryz.isAgg205
 z208 := Tryz.sizeOf205
 v208 := Tryz.zeroValue205
 g3 := by kernel_rfl
 g4 := by kernel_rfl
 g13 := by kernel_rfl }
theorem Tryz.Builder_Extra_158 : Builder.Extra Tryz.prog Tryz.lays158_ren := {
 sizeBuilder := by kernel_rfl
 liesBuilder := by kernel_rfl
 t5 := Tryz.underlying5
 a5 := Tryz.isAgg5
 z5 := Tryz.sizeOf5
 v5 := Tryz.zeroValue5
 infoByte := by kernel_rfl
 cellsByte := by kernel_rfl
 sizeByte := by kernel_rfl
 neB5 := by decide }
open Go.RowKit in
theorem Tryz.strings_ToUpper_ascii (s : ByteArray) (w : World) (hs : s.size ≤ 140737488355328) (hascii : ∀ (j : Nat) (b : UInt8), s.data.toList[j]? = some b → b.toNat < 128) :
  Calls Tryz.prog 94 #[.string s] w fun e w' => e = .returned (.string ⟨(Lib.toUpperA s.data.toList).toArray⟩) ∧ Below w.heap.size w w' := Any.strings_ToUpper_ascii Tryz.lays158 Tryz.Builder_Extra_158 s w hs hascii
end Go.Proofs
namespace Go.Proofs
open Go.Shelf
end Go.Proofs
namespace Go.Proofs.YtgnhellfhjoaaaaGreatDoor
open Go Go.RowKit
set_option maxRecDepth 100000
def subAt (s u : ByteArray) (i : Int) : Bool := (s.extract i.toNat (i.toNat + u.size)).toList == u.toList
def hasSub (s u : ByteArray) : Bool := (List.range (s.size + 1)).any fun i => decide (i + u.size ≤ s.size) && subAt s u (i : Int)
theorem hasSub_hit {s u : ByteArray} {j : Int} (h : 0 ≤ j) (h1 : j + (u.size : Int) ≤ (s.size : Int)) (h2 : subAt s u j = true) : decide (j ≥ (0 : Int)) = hasSub s u := by
 have : hasSub s u = true := by
  unfold hasSub; rw [List.any_eq_true]
  refine ⟨j.toNat, by simp; omega, ?_⟩
  rw [show ((j.toNat : Nat) : Int) = j from by omega, h2]; simp; omega
 rw [this]; simpa using h
theorem hasSub_miss {s u : ByteArray} {j : Int} (h1 : ¬ j + (u.size : Int) ≤ (s.size : Int)) (h2 : ∀ i : Int, 0 ≤ i → i < j → subAt s u i = false) : decide ((-1 : Int) ≥ (0 : Int)) = hasSub s u := by
 have : hasSub s u = false := by
  unfold hasSub; rw [List.any_eq_false]
  intro i hi
  by_cases hc : i + u.size ≤ s.size
  ·rw [h2 (i : Int) (by omega) (by omega)]; simp
  simp [hc]
 rw [this]; simp
theorem sub_of {s u : ByteArray} {j : Int} {b : Bool} (h : 0 ≤ j) (hw : IntKind.i64.wrap (j + ((u.size : Nat) : Int)) = j + ((u.size : Nat) : Int)) (hb : ((s.extract j.toNat (IntKind.i64.wrap (j + ((u.size : Nat) : Int))).toNat).toList == u.toList) = b) : subAt s u j = b := by
 unfold subAt; rw [← hb, hw, show (j + ((u.size : Nat) : Int)).toNat = j.toNat + u.size from by omega]
def IdxOf (s u : ByteArray) (r : Int) : Prop :=
 (0 ≤ r ∧ r + (u.size : Int) ≤ (s.size : Int) ∧ subAt s u r = true ∧ ∀ i : Int, 0 ≤ i → i < r → subAt s u i = false) ∨
 (r = -1 ∧ ∀ i : Int, 0 ≤ i → i + (u.size : Int) ≤ (s.size : Int) → subAt s u i = false)
def castleK : ByteArray := ⟨#[75]⟩
def castleQ : ByteArray := ⟨#[81]⟩
def castlek : ByteArray := ⟨#[107]⟩
def castleq : ByteArray := ⟨#[113]⟩
def canC (cr : ByteArray) (c side : Int) : Bool :=
 bif side == (2 : Int) then (bif c == (1 : Int) then hasSub cr castleQ else hasSub cr castleq) else (bif c == (1 : Int) then hasSub cr castleK else hasSub cr castlek)
theorem toUp_k (w : World) : Calls Tryz.prog 94 #[.string ⟨#[107]⟩] w (fun e w' => e = .returned (.string ⟨#[75]⟩) ∧ Mod [] w w') :=
 (Tryz.strings_ToUpper_ascii ⟨#[107]⟩ w (by decide) (by intro j b h; match j, h with | 0, h => (simp at h; subst h; decide))).mono fun e w' h => ⟨h.1.trans rfl, Mod.of_below h.2⟩
theorem toUp_q (w : World) : Calls Tryz.prog 94 #[.string ⟨#[113]⟩] w (fun e w' => e = .returned (.string ⟨#[81]⟩) ∧ Mod [] w w') :=
 (Tryz.strings_ToUpper_ascii ⟨#[113]⟩ w (by decide) (by intro j b h; match j, h with | 0, h => (simp at h; subst h; decide))).mono fun e w' h => ⟨h.1.trans rfl, Mod.of_below h.2⟩
theorem c118 {w : World} (s u : ByteArray) (hs : s.size ≤ 1000000) (hu : u.size ≤ 1000000) :
  Calls Tryz.prog 118 [.string s, .string u].toArray w (fun e w' => ∃ r, e = .returned (.int .i64 r) ∧ decide (r ≥ (0 : Int)) = hasSub s u ∧ IdxOf s u r ∧ Mod [] w w') := by
 have v0 : Mod [] w w := Mod.refl _ _
 refine enter (n := 25) Tryz.func118 rfl Tryz.ntmps118 rfl ?_
 refine zw ?_
 refine zs 1 [(0, .string s), (1, .string u)] ?_
 refine zz ?_
 refine w_seq ?_
 refine zw ?_
 refine zs 1 [(0, .string s), (1, .string u), iz 5 0] ?_
 refine zz ?_
 refine w_block ?_
 refine w_loop (γ := Int) (fun g1 => (((s.size : Int) + 1) - g1).toNat) (fun (g1 : Int) => [(0, .string s), (1, .string u), (5, .int .i64 g1)]) (fun (g1 : Int) w_ => (0 ≤ g1 ∧ g1 ≤ ((s.size : Int) + 1)) ∧ Mod [] w w_ ∧ (∀ i : Int, 0 ≤ i → i < g1 → subAt s u i = false)) 0 (hold_keep [0, 1, 5] (by kernel_rfl)) ⟨by constructor <;> (try simp only []) <;> omega, Mod.refl _ _, (fun i h0 h1 => absurd h1 (by omega))⟩ ?_
 rintro g1 w2 ⟨⟨h4, h5⟩, v3, hx6⟩
 have v7 := zt v0 v3
 have hw : IntKind.i64.wrap (g1 + ((u.size : Nat) : Int)) = g1 + ((u.size : Nat) : Int) := i64_in' (by omega) (by omega)
 refine w_seq ?_
 refine zw ?_
 refine zs 7 [(0, .string s), (1, .string u), iz 5 g1, (12, .bool (decide ((IntKind.i64.wrap (g1 + ((u.size : Nat) : Int))) ≤ ((s.size : Nat) : Int))))] ?_
 refine zz ?_
 refine zc (fun hc8 => ?_) fun hc8 => ?_
 ·have y8 := of_decide_eq_true hc8
  refine w_skip ?_
  refine n_then ?_
  refine w_seq ?_
  refine w_block ?_
  refine zw ?_
  refine zo 9 [(0, .string s), (1, .string u), iz 5 g1, (23, .bool ((s.extract g1.toNat (IntKind.i64.wrap (g1 + ((u.size : Nat) : Int))).toNat).toList == u.toList))] [.prop (0 ≤ g1 ∧ g1 ≤ (IntKind.i64.wrap (g1 + ((u.size : Nat) : Int))) ∧ (IntKind.i64.wrap (g1 + ((u.size : Nat) : Int))) ≤ ((s.size : Nat) : Int))] (zh (by omega)) ?_
  refine zz ?_
  refine zc (fun hc9 => ?_) fun hc9 => ?_
  ·refine zw ?_
   refine zs 2 [iz 4 g1] ?_
   refine zz ?_
   refine w_ret ?_
   refine r_block ?_
   refine r_then ?_
   refine r_then ?_
   refine r_block ?_
   refine r_then ?_
   exact ret1 rfl rfl (⟨_, rfl, hasSub_hit (by omega) (by omega) (sub_of (by omega) hw hc9), .inl ⟨by omega, by omega, sub_of (by omega) hw hc9, hx6⟩, v7⟩)
  refine w_skip ?_
  refine n_block ?_
  refine n_then ?_
  refine w_region ?_
  refine zs 3 [(0, .string s), (1, .string u), iz 5 (IntKind.i64.wrap (g1 + 1))] ?_
  refine ze ?_
  rw [zi (g1 + 1) (by omega) (by omega)]
  exact l_back (g1 + 1) [0, 1, 5] (by kernel_rfl) (by omega) ⟨by constructor <;> (try simp only []) <;> omega, v3, (forall_step hx6 (sub_of (by omega) hw hc9))⟩
 have y8 := of_decide_eq_false hc8
 refine w_exit ?_
 refine x_then ?_
 refine x_then ?_
 refine x_hit ?_
 refine zn ?_
 refine zs 1 [iz 4 (-1 : Int)] ?_
 refine zz ?_
 refine w_ret ?_
 exact ret1 rfl rfl (⟨_, rfl, hasSub_miss (by omega) hx6, .inr ⟨rfl, fun i h0 h1 => hx6 i h0 (by omega)⟩, v7⟩)
theorem c95 {w : World} (s u : ByteArray) (hs : s.size ≤ 1000000) (hu : u.size ≤ 1000000) :
  Calls Tryz.prog 95 [.string s, .string u].toArray w (fun e w' => e = .returned (.bool (hasSub s u)) ∧ Mod [] w w') := by
 have v0 : Mod [] w w := Mod.refl _ _
 refine enter (n := 9) Tryz.func95 rfl Tryz.ntmps95 rfl ?_
 refine zw ?_
 refine zs 1 [(0, .string s), (1, .string u)] ?_
 refine zx ?_
 refine zs 2 [(5, .string s), (6, .string u)] ?_
 refine reg_call 118 [.string s, .string u] (some 7) (by kernel_rfl) (c118 s u (by assumption) (by assumption)) ?_
 rintro _ w1 ⟨r3, rfl, hr4, hi5, v2⟩; refine ⟨_, rfl, ?_⟩
 have v6 := zt v0 v2
 refine zs 2 [(4, .bool (decide (r3 ≥ 0)))] ?_
 refine zz ?_
 refine w_ret ?_
 exact ret1 rfl rfl (⟨ret_bool hr4, v6⟩)
theorem c68 {w : World} (cr : ByteArray) (x side : Int) (hs : cr.size ≤ 1000000) :
  Calls Tryz.prog 68 [.string cr, .int .i8 x, .int .i64 side].toArray w (fun e w' => e = .returned (.bool (canC cr x side)) ∧ Mod [] w w') := by
 have v0 : Mod [] w w := Mod.refl _ _
 refine enter (n := 17) Tryz.func68 rfl Tryz.ntmps68 rfl ?_
 refine zw ?_
 refine zs 1 [(0, .string cr), (1, .int .i8 x), iz 2 side] ?_
 refine zx ?_
 refine zs 1 [(0, .string cr), (1, .int .i8 x), iz 2 side, (7, .string (⟨#[107]⟩))] ?_
 refine zz ?_
 refine w_seq ?_
 refine zw ?_
 refine zs 2 [(0, .string cr), (1, .int .i8 x), (7, .string (⟨#[107]⟩)), (9, .bool (side == 2))] ?_
 refine zz ?_
 refine zc (fun hc1 => ?_) fun hc1 => ?_
 ·have y1 := eq_of_beq hc1
  refine w_region ?_
  refine zs 1 [(0, .string cr), (1, .int .i8 x), (7, .string (⟨#[113]⟩))] ?_
  refine zz ?_
  refine w_seq ?_
  refine zw ?_
  refine zs 2 [(0, .string cr), (7, .string (⟨#[113]⟩)), (11, .bool (x == 1))] ?_
  refine zz ?_
  refine zc (fun hc2 => ?_) fun hc2 => ?_
  ·have y2 := eq_of_beq hc2
   refine w_region ?_
   refine zs 1 [(0, .string cr), (12, .string (⟨#[113]⟩))] ?_
   refine zk (some 13) (toUp_q w) ?_
   intro w3 v4
   have v5 := zt v0 v4
   refine zs 1 [(0, .string cr), (7, .string (⟨#[81]⟩))] ?_
   refine zx ?_
   refine zs 2 [(14, .string cr), (15, .string (⟨#[81]⟩))] ?_
   refine zk (some 16) (c95 cr (⟨#[81]⟩) (by assumption) (by decide)) ?_
   intro w6 v7
   have v8 := zt v5 v7
   refine zs 1 [(6, .bool (hasSub cr (⟨#[81]⟩)))] ?_
   refine zz ?_
   refine w_ret ?_
   exact ret1 rfl rfl (⟨ret_bool (by simp only [canC, hc1, hc2, cond_true, cond_false]; rfl), v8⟩)
  have y2 := ne_of_beq_false hc2
  refine w_skip ?_
  refine zn ?_
  refine zs 2 [(14, .string cr), (15, .string (⟨#[113]⟩))] ?_
  refine zk (some 16) (c95 cr (⟨#[113]⟩) (by assumption) (by decide)) ?_
  intro w9 v10
  have v11 := zt v0 v10
  refine zs 1 [(6, .bool (hasSub cr (⟨#[113]⟩)))] ?_
  refine zz ?_
  refine w_ret ?_
  exact ret1 rfl rfl (⟨ret_bool (by simp only [canC, hc1, hc2, cond_true, cond_false]; rfl), v11⟩)
 have y1 := ne_of_beq_false hc1
 refine w_skip ?_
 refine n_then ?_
 refine w_seq ?_
 refine zw ?_
 refine zs 2 [(0, .string cr), (7, .string (⟨#[107]⟩)), (11, .bool (x == 1))] ?_
 refine zz ?_
 refine zc (fun hc12 => ?_) fun hc12 => ?_
 ·have y12 := eq_of_beq hc12
  refine w_region ?_
  refine zs 1 [(0, .string cr), (12, .string (⟨#[107]⟩))] ?_
  refine zk (some 13) (toUp_k w) ?_
  intro w13 v14
  have v15 := zt v0 v14
  refine zs 1 [(0, .string cr), (7, .string (⟨#[75]⟩))] ?_
  refine zx ?_
  refine zs 2 [(14, .string cr), (15, .string (⟨#[75]⟩))] ?_
  refine zk (some 16) (c95 cr (⟨#[75]⟩) (by assumption) (by decide)) ?_
  intro w16 v17
  have v18 := zt v15 v17
  refine zs 1 [(6, .bool (hasSub cr (⟨#[75]⟩)))] ?_
  refine zz ?_
  refine w_ret ?_
  exact ret1 rfl rfl (⟨ret_bool (by simp only [canC, hc1, hc12, cond_true, cond_false]; rfl), v18⟩)
 have y12 := ne_of_beq_false hc12
 refine w_skip ?_
 refine zn ?_
 refine zs 2 [(14, .string cr), (15, .string (⟨#[107]⟩))] ?_
 refine zk (some 16) (c95 cr (⟨#[107]⟩) (by assumption) (by decide)) ?_
 intro w19 v20
 have v21 := zt v0 v20
 refine zs 1 [(6, .bool (hasSub cr (⟨#[107]⟩)))] ?_
 refine zz ?_
 refine w_ret ?_
 exact ret1 rfl rfl (⟨ret_bool (by simp only [canC, hc1, hc12, cond_true, cond_false]; rfl), v21⟩)
structure MvArrN (N : Nat) (A : Array Value) (l : List Mv) : Prop where
 size : A.size = N * 11
 fits : l.length ≤ N
 take : A.toList.take (l.length * 11) = mvsL l
theorem MvArrN.push {N : Nat} {A : Array Value} {l : List Mv} {m : Mv} {off : Nat} (h : MvArrN N A l) (hl : l.length < N) (ho : off = l.length * 11) : MvArrN N (storeRow A off (mvCells (.pointer none) m).toList) (l ++ [m]) := by
 subst ho
 have hs := h.size
 have hm : l.length * 11 + 11 ≤ N * 11 := by omega
 refine ⟨by rw [storeRow_size]; exact h.size, by simp; omega, ?_⟩
 have e : (l ++ [m]).length * 11 = l.length * 11 + (mvCells (.pointer none) m).toList.length := by simp [mvCells]; omega
 rw [e, storeRow_take _ _ _ (by simp [mvCells]; omega), h.take, mvsL_append]
 simp [mvsL]
theorem MvArrN.cells {N : Nat} {A : Array Value} {l : List Mv} {w : World} {b : Nat} {t : TypeId} {fr : Nat × Nat} (h : MvArrN N A l) (ha : At w b (.cells A t fr)) : ∀ j u, (mvsL l)[j]? = some u → w.cell? (Addr.add ⟨b, 0, none⟩ j) = some u := by
 intro j u hu
 have e : (Addr.add ⟨b, 0, none⟩ j) = ⟨b, j, none⟩ := by unfold Addr.add; split <;> simp_all
 rw [e]
 refine ha.cell ?_
 rw [← h.take, List.getElem?_take] at hu
 split at hu
 ·simpa using hu
 cases hu
noncomputable def zero181 : Array Value := match Tryz.prog.info? 181 with | some i => (match i.zero with | some z => z.cells | none => #[]) | none => #[]
theorem MvArrN.zero2 : MvArrN 2 zero181 [] := ⟨by kernel_rfl, by decide, rfl⟩
def castM (B : Bd) (S : Ps) (t s1 s2 : Int) : Mv := ⟨tg4 B S ⟨orTag (0 : Int) t, s1, s2, (0 : Int)⟩, s1, s2, (0 : Int)⟩
def cc1 (B : Bd) (S : Ps) : Bool := (((((S.turn == (1 : Int)) && (canC S.castle S.turn (1 : Int))) && ((band (bnot B.empty) (bor (bbSq (5 : Int)) (bbSq (6 : Int)))) == (0 : Int))) && (!(attAny B S.turn 2 (fun i => if i = 0 then (5 : Int) else (6 : Int))))) && (!S.chk))
def cl1 (B : Bd) (S : Ps) : List Mv := bif cc1 B S then [castM B S (1 : Int) (4 : Int) (6 : Int)] else []
theorem cc1_turn {B : Bd} {S : Ps} (h : cc1 B S = true) : S.turn = 1 ∧ canC S.castle S.turn 1 = true := by
 unfold cc1 at h; simp only [Bool.and_eq_true, beq_iff_eq] at h; exact ⟨h.1.1.1.1, h.1.1.1.2⟩
theorem cl1_nil {B : Bd} {S : Ps} (h : S.turn ≠ 1) : cl1 B S = [] := by
 unfold cl1; cases e : cc1 B S
 ·rfl
 exact absurd (cc1_turn e).1 h
theorem cl1_one {B : Bd} {S : Ps} : (cl1 B S).length ≤ 1 := by unfold cl1; cases cc1 B S <;> simp
def cc2 (B : Bd) (S : Ps) : Bool := (((((S.turn == (1 : Int)) && (canC S.castle S.turn (2 : Int))) && ((band (bnot B.empty) (bor (bor (bbSq (1 : Int)) (bbSq (2 : Int))) (bbSq (3 : Int)))) == (0 : Int))) && (!(attAny B S.turn 2 (fun i => if i = 0 then (2 : Int) else (3 : Int))))) && (!S.chk))
def cl2 (B : Bd) (S : Ps) : List Mv := bif cc2 B S then [castM B S (2 : Int) (4 : Int) (2 : Int)] else []
theorem cc2_turn {B : Bd} {S : Ps} (h : cc2 B S = true) : S.turn = 1 ∧ canC S.castle S.turn 2 = true := by
 unfold cc2 at h; simp only [Bool.and_eq_true, beq_iff_eq] at h; exact ⟨h.1.1.1.1, h.1.1.1.2⟩
theorem cl2_nil {B : Bd} {S : Ps} (h : S.turn ≠ 1) : cl2 B S = [] := by
 unfold cl2; cases e : cc2 B S
 ·rfl
 exact absurd (cc2_turn e).1 h
theorem cl2_one {B : Bd} {S : Ps} : (cl2 B S).length ≤ 1 := by unfold cl2; cases cc2 B S <;> simp
def cc3 (B : Bd) (S : Ps) : Bool := (((((S.turn == (2 : Int)) && (canC S.castle S.turn (1 : Int))) && ((band (bnot B.empty) (bor (bbSq (61 : Int)) (bbSq (62 : Int)))) == (0 : Int))) && (!(attAny B S.turn 2 (fun i => if i = 0 then (61 : Int) else (62 : Int))))) && (!S.chk))
def cl3 (B : Bd) (S : Ps) : List Mv := bif cc3 B S then [castM B S (1 : Int) (60 : Int) (62 : Int)] else []
theorem cc3_turn {B : Bd} {S : Ps} (h : cc3 B S = true) : S.turn = 2 ∧ canC S.castle S.turn 1 = true := by
 unfold cc3 at h; simp only [Bool.and_eq_true, beq_iff_eq] at h; exact ⟨h.1.1.1.1, h.1.1.1.2⟩
theorem cl3_nil {B : Bd} {S : Ps} (h : S.turn ≠ 2) : cl3 B S = [] := by
 unfold cl3; cases e : cc3 B S
 ·rfl
 exact absurd (cc3_turn e).1 h
theorem cl3_one {B : Bd} {S : Ps} : (cl3 B S).length ≤ 1 := by unfold cl3; cases cc3 B S <;> simp
def cc4 (B : Bd) (S : Ps) : Bool := (((((S.turn == (2 : Int)) && (canC S.castle S.turn (2 : Int))) && ((band (bnot B.empty) (bor (bor (bbSq (57 : Int)) (bbSq (58 : Int))) (bbSq (59 : Int)))) == (0 : Int))) && (!(attAny B S.turn 2 (fun i => if i = 0 then (58 : Int) else (59 : Int))))) && (!S.chk))
def cl4 (B : Bd) (S : Ps) : List Mv := bif cc4 B S then [castM B S (2 : Int) (60 : Int) (58 : Int)] else []
theorem cc4_turn {B : Bd} {S : Ps} (h : cc4 B S = true) : S.turn = 2 ∧ canC S.castle S.turn 2 = true := by
 unfold cc4 at h; simp only [Bool.and_eq_true, beq_iff_eq] at h; exact ⟨h.1.1.1.1, h.1.1.1.2⟩
theorem cl4_nil {B : Bd} {S : Ps} (h : S.turn ≠ 2) : cl4 B S = [] := by
 unfold cl4; cases e : cc4 B S
 ·rfl
 exact absurd (cc4_turn e).1 h
theorem cl4_one {B : Bd} {S : Ps} : (cl4 B S).length ≤ 1 := by unfold cl4; cases cc4 B S <;> simp
def castL (B : Bd) (S : Ps) : List Mv := cl1 B S ++ cl2 B S ++ cl3 B S ++ cl4 B S
set_option maxHeartbeats 1600000 in
theorem c123 {c : GC} {p b : Nat} {vm : Value} {S : Ps} {w : World} (hp : At w p (.cells (psCells b vm S) 110 (0, 0))) {B : Bd} (hb : At w b (.cells (bdCells B) 135 (0, 0))) (hG : Glob c w) (hcs : S.castle.size ≤ 1000000) (hkW : ∀ sd, S.turn = 1 → canC S.castle S.turn sd = true → 1 ≤ pieceAt B 4 ∧ pieceAt B 4 ≤ 12) (hkB : ∀ sd, S.turn = 2 → canC S.castle S.turn sd = true → 1 ≤ pieceAt B 60 ∧ pieceAt B 60 ≤ 12) (hk : KingsOk B) (hT : S.turn = 1 ∨ S.turn = 2) :
  Calls Tryz.prog 123 [pz p].toArray w (fun e w' => ∃ g A, e = .returned (.slice (some ⟨g, 0, none⟩) (castL B S).length 2) ∧ Mod [] w w' ∧ At w' g (.cells A 181 (0, 0)) ∧ MvArrN 2 A (castL B S) ∧ w.heap.size ≤ g) := by
 have v0 : Mod [] w w := Mod.refl _ _
 refine enter (n := 211) Tryz.func123 rfl Tryz.ntmps123 rfl ?_
 refine zw ?_
 refine zs 1 [rz 0 p] ?_
 refine zx ?_
 refine reg_alloc zero181 181 (some 3) (by kernel_rfl) ?_
 intro b1 w2 hn3
 have hb4 : c.base ≤ b1 := Glob.lt hG hn3
 have hb5 := Nat.le_trans v0.size hn3.base
 have v6 := hn3.mod
 have hf7 := At.on hp v6
 have hf8 := At.on hb v6
 have z9 := Glob.on hG v6
 have v10 := zt v0 v6
 have hf11 := hn3.at_
 refine zx ?_
 refine zs 1 [rz 0 p, rz 3 b1, iz 4 0] ?_
 refine zz ?_
 refine w_seq ?_
 refine w_quiet (by kernel_rfl) (by kernel_rfl) ?_
 refine zqo 5 [rz 0 p, rz 3 b1, iz 4 0, (14, .string S.castle), rz 15 p] [.cell ⟨p, 1, none⟩ (.string S.castle)] (fun _ hC => At.cell (At.on hf7 hC) rfl) ?_
 refine zqk (some 16) (fun w_ hC => c66 (At.on hf7 hC) ) ?_
 refine zqk (some 17) (fun w_ hC => c68 S.castle S.turn 1 hcs) ?_
 refine zq 1 [rz 0 p, rz 3 b1, iz 4 0, (5, .bool (canC S.castle S.turn 1))] ?_
 refine q_out (by kernel_rfl) ?_
 intro w12 v13
 have hf14 := At.on hf7 v13
 have hf15 := At.on hf8 v13
 have hf16 := At.on hf11 v13
 have z17 := Glob.on z9 v13
 have v18 := zt v10 v13
 refine n_then ?_
 refine w_seq ?_
 refine w_quiet (by kernel_rfl) (by kernel_rfl) ?_
 refine zqo 5 [rz 0 p, rz 3 b1, iz 4 0, (5, .bool (canC S.castle S.turn 1)), (21, .string S.castle), rz 22 p] [.cell ⟨p, 1, none⟩ (.string S.castle)] (fun _ hC => At.cell (At.on hf14 hC) rfl) ?_
 refine zqk (some 23) (fun w_ hC => c66 (At.on hf14 hC) ) ?_
 refine zqk (some 24) (fun w_ hC => c68 S.castle S.turn 2 hcs) ?_
 refine zq 1 [rz 0 p, rz 3 b1, iz 4 0, (5, .bool (canC S.castle S.turn 1)), (6, .bool (canC S.castle S.turn 2))] ?_
 refine q_out (by kernel_rfl) ?_
 intro w19 v20
 have hf21 := At.on hf14 v20
 have hf22 := At.on hf15 v20
 have hf23 := At.on hf16 v20
 have z24 := Glob.on z17 v20
 have v25 := zt v18 v20
 refine n_then ?_
 refine w_cut (γ := Array Value) (fun _ => [(0, pz p), (3, pz b1), (4, .int .i64 ((((cl1 B S) : List Mv).length : Nat) : Int)), (5, .bool (canC S.castle S.turn 1)), (6, .bool (canC S.castle S.turn 2))]) (fun A w_ => Mod [b1] w19 w_ ∧ At w_ b1 (.cells A 181 (0, 0)) ∧ MvArrN 2 A (cl1 B S)) ?_ ?_
 ·have v31 : Mod [b1] w19 w19 := Mod.refl _ _
  refine w_cut (γ := Unit) (fun _ => [(0, pz p), (3, pz b1), (4, .int .i64 0), (5, .bool (canC S.castle S.turn 1)), (6, .bool (canC S.castle S.turn 2)), (60, .bool (((((S.turn == 1) && (canC S.castle S.turn 1)) && ((band (bnot B.empty) (bor (bbSq 5) (bbSq 6))) == 0)) && (!(attAny B S.turn 2 (fun i => if i = 0 then 5 else 6)))) && (!S.chk)))]) (fun _ w_ => Mod [] w19 w_) ?_ ?_
  ·have v34 : Mod [] w19 w19 := Mod.refl _ _
   refine w_tail1 26 25 [0, 1, 2, 3, 4, 5, 6, 7, 8, 9, 10, 11, 12, 13, 14, 15, 16, 17, 18, 19, 20, 21, 22, 23, 24] (by kernel_rfl) (by kernel_rfl) ?_
   refine zro 6 [rz 0 p, rz 3 b1, iz 4 0, (5, .bool (canC S.castle S.turn 1)), (6, .bool (canC S.castle S.turn 2)), (30, .bool (S.turn == 1))] [.cell ⟨p, 5, none⟩ (.int .i8 S.turn)] (fun _ hC => At.cell (At.on hf21 hC) rfl) ?_
   cases hc35 : (S.turn == (1 : Int))
   ·refine zr 19 [rz 0 p, rz 3 b1, iz 4 0, (5, .bool (canC S.castle S.turn 1)), (6, .bool (canC S.castle S.turn 2)), (48, .bool false), (49, undef)] ?_
    refine re_end (by kernel_rfl) (fun a ha w36 v37 => (?_ : EReg _ _ _ _ _ _ 26 25 _ w36) a ha)
    have v42 := zt v34 v37
    refine e_skip (some 50) (by kernel_rfl) v37 ?_
    intro w44 v45
    have v50 := zt v42 v45
    refine zs 10 [rz 0 p, rz 3 b1, iz 4 0, (5, .bool (canC S.castle S.turn 1)), (6, .bool (canC S.castle S.turn 2)), (60, .bool false)] ?_
    refine ze ?_
    refine only_n ?_
    exact zb () v50
   refine zr 3 [rz 0 p, rz 3 b1, iz 4 0, (5, .bool (canC S.castle S.turn 1)), (6, .bool (canC S.castle S.turn 2)), (33, .bool (canC S.castle S.turn 1))] ?_
   cases hc52 : (canC S.castle S.turn (1 : Int))
   ·refine zr 16 [rz 0 p, rz 3 b1, iz 4 0, (5, .bool false), (6, .bool (canC S.castle S.turn 2)), (48, .bool false), (49, undef)] ?_
    refine re_end (by kernel_rfl) (fun a ha w53 v54 => (?_ : EReg _ _ _ _ _ _ 26 25 _ w53) a ha)
    have v59 := zt v34 v54
    refine e_skip (some 50) (by kernel_rfl) v54 ?_
    intro w61 v62
    have v67 := zt v59 v62
    refine zs 10 [rz 0 p, rz 3 b1, iz 4 0, (5, .bool false), (6, .bool (canC S.castle S.turn 2)), (60, .bool false)] ?_
    refine ze ?_
    refine only_n ?_
    exact zb () v67
   refine zro 8 [rz 0 p, rz 3 b1, iz 4 0, (5, .bool true), (6, .bool (canC S.castle S.turn 2)), (33, .bool true), (41, .int .u64 (bnot B.empty))] [.cell ⟨p, 0, none⟩ (pz b), .cell ⟨b, 14, none⟩ (.int .u64 B.empty)] (fun _ hC => ⟨At.cell (At.on hf21 hC) rfl, At.cell (At.on hf22 hC) rfl⟩) ?_
   refine r_call 17 99 [.int .i8 5] (some 42) (.int .u64 (bbSq 5)) (by kernel_rfl) (by kernel_rfl) (fun w_ hC => c99 5 w_ (by omega) (by omega)) ?_
   refine r_call 18 99 [.int .i8 6] (some 43) (.int .u64 (bbSq 6)) (by kernel_rfl) (by kernel_rfl) (fun w_ hC => c99 6 w_ (by omega) (by omega)) ?_
   refine zr 5 [rz 0 p, rz 3 b1, iz 4 0, (5, .bool true), (6, .bool (canC S.castle S.turn 2)), (48, .bool ((band (bnot B.empty) (bor (bbSq 5) (bbSq 6))) == 0))] ?_
   cases hc69 : ((band (bnot B.empty) (bor (bbSq (5 : Int)) (bbSq (6 : Int)))) == (0 : Int))
   ·refine zr 1 [rz 0 p, rz 3 b1, iz 4 0, (5, .bool true), (6, .bool (canC S.castle S.turn 2)), (48, .bool false), (49, undef)] ?_
    refine re_end (by kernel_rfl) (fun a ha w70 v71 => (?_ : EReg _ _ _ _ _ _ 26 25 _ w70) a ha)
    have v76 := zt v34 v71
    refine e_skip (some 50) (by kernel_rfl) v71 ?_
    intro w78 v79
    have v84 := zt v76 v79
    refine zs 10 [rz 0 p, rz 3 b1, iz 4 0, (5, .bool true), (6, .bool (canC S.castle S.turn 2)), (60, .bool false)] ?_
    refine ze ?_
    refine only_n ?_
    exact zb () v84
   refine zr 1 [rz 0 p, rz 3 b1, iz 4 0, (5, .bool true), (6, .bool (canC S.castle S.turn 2)), (48, .bool true), rz 49 p] ?_
   refine re_end (by kernel_rfl) (fun a ha w86 v87 => (?_ : EReg _ _ _ _ _ _ 26 25 _ w86) a ha)
   have hf88 := At.on hf21 v87
   have hf89 := At.on hf22 v87
   have z91 := Glob.on z24 v87
   have v92 := zt v34 v87
   have v93 := Mod.trans v31 (Mod.of_nil v87)
   refine e_bslice (#[.int .i8 5, .int .i8 6]) 87 2 (some 50) (by kernel_rfl) v87 ?_
   intro b94 w95 hn96
   have hb97 : c.base ≤ b94 := Glob.lt z91 hn96
   have hb98 := Nat.le_trans v92.size hn96.base
   have hb99 := Nat.le_trans v93.size hn96.base
   have v100 := hn96.mod
   have hf101 := At.on hf88 v100
   have hf102 := At.on hf89 v100
   have z104 := Glob.on z91 v100
   have v105 := zt v92 v100
   have hf107 := hn96.at_
   intro w108 v109
   have hf110 := At.on hf101 v109
   have hf111 := At.on hf102 v109
   have hf113 := At.on hf107 v109
   have z114 := Glob.on z104 v109
   have v115 := zt v105 v109
   refine reg_call 110 [pz p, .slice (some ⟨b94, 0, none⟩) 2 2] (some 51) (by kernel_rfl) (c110 (n := 2) (S := S) hf110 hf111 hf113 z114 (fun i => if i = 0 then 5 else 6) cells2 (fun i h => (by by_cases hi : i = 0 <;> simp [hi])) (by assumption) (by omega)) ?_
   rintro _ w117 ⟨rfl, v118⟩; refine ⟨_, rfl, ?_⟩
   have hf119 := At.on hf110 v118
   have v124 := zt v115 v118
   refine zs 3 [rz 0 p, rz 3 b1, iz 4 0, (5, .bool true), (6, .bool (canC S.castle S.turn 2)), (54, .bool (!(attAny B S.turn 2 (fun i => if i = 0 then 5 else 6))))] ?_
   cases hc126 : (!(attAny B S.turn 2 (fun i => if i = 0 then (5 : Int) else (6 : Int))))
   ·refine zs 6 [rz 0 p, rz 3 b1, iz 4 0, (5, .bool true), (6, .bool (canC S.castle S.turn 2)), (60, .bool false)] ?_
    refine ze ?_
    refine only_n ?_
    exact zb () v124
   refine zo 6 [rz 0 p, rz 3 b1, iz 4 0, (5, .bool true), (6, .bool (canC S.castle S.turn 2)), (60, .bool (!S.chk))] [.cell ⟨p, 7, none⟩ (.bool S.chk)] (At.cell hf119 rfl) ?_
   refine ze ?_
   refine only_n ?_
   exact zb () v124
  intro _ w32 v33
  have hf127 := At.on hf21 v33
  have hf128 := At.on hf22 v33
  have hf129 := At.on hf23 v33
  have z130 := Glob.on z24 v33
  have v131 := zt v25 v33
  have v132 := Mod.trans v31 (Mod.of_nil v33)
  refine w_cond (b := (cc1 B S)) rfl (fun hc133 => ?_) (fun hc133 => ?_)
  ·refine zw ?_
   refine zs 1 [rz 0 p, rz 3 b1, iz 4 0, (5, .bool (canC S.castle S.turn 1)), (6, .bool (canC S.castle S.turn 2)), (61, .agg #[.pointer none, .pointer none, .string (⟨#[]⟩), .string (⟨#[]⟩), .map none, .slice none 0 0, .int .u64 0, .int .u16 0, .int .i8 4, .int .i8 6, .int .i8 0])] ?_
   refine reg_alloc (mvCells (.pointer none) (⟨0, 0, 0, 0⟩ : Mv)) 98 (some 7) (by kernel_rfl) ?_
   intro b134 w135 hn136
   have hb137 : c.base ≤ b134 := Glob.lt z130 hn136
   have hb138 := Nat.le_trans v131.size hn136.base
   have hb139 := Nat.le_trans v132.size hn136.base
   have v140 := hn136.mod
   have hf141 := At.on hf127 v140
   have hf142 := At.on hf128 v140
   have hf143 := At.on hf129 v140
   have z144 := Glob.on z130 v140
   have v146 := Mod.trans v132 (Mod.of_nil v140)
   have hf147 := hn136.at_
   refine reg_store b134 0 (.agg #[.pointer none, .pointer none, .string (⟨#[]⟩), .string (⟨#[]⟩), .map none, .slice none 0 0, .int .u64 0, .int .u16 0, .int .i8 4, .int .i8 6, .int .i8 0]) none (by kernel_rfl) hf147 (Nat.le_of_ble_eq_true rfl) rfl ?_
   intro w148 hu149
   have hf150 : At w148 b134 (.cells (mvCells (.pointer none) ⟨0, 4, 6, 0⟩) 98 (0, 0)) := hu149.at_
   have hf151 := At.keep hf141 hu149.mod (not_mem1 (At.ne hf141 hf147 rfl))
   have hf152 := At.keep hf142 hu149.mod (not_mem1 (At.ne hf142 hf147 rfl))
   have hf153 := At.keep hf143 hu149.mod (not_mem1 (At.ne hf143 hf147 rfl))
   have z154 := Glob.keep z144 hu149.mod (by simp <;> omega)
   have v156 := Mod.fresh' v146 hu149.mod (by simp <;> omega)
   refine zx ?_
   refine reg_call 136 [pz b134, .int .u16 1] (some 62) (by kernel_rfl) (c136 hf150 1) ?_
   rintro _ w157 ⟨rfl, v158, hf159⟩; refine ⟨_, rfl, ?_⟩
   have hf160 := At.keep hf151 v158 (not_mem1 (At.ne hf151 hf150 rfl))
   have hf161 := At.keep hf152 v158 (not_mem1 (At.ne hf152 hf150 rfl))
   have hf162 := At.keep hf153 v158 (not_mem1 (At.ne hf153 hf150 rfl))
   have z163 := Glob.keep z154 v158 (by simp <;> omega)
   have v165 := Mod.fresh' v156 v158 (by simp <;> omega)
   refine zx ?_
   refine zs 1 [rz 0 p, rz 3 b1, iz 4 0, (5, .bool (canC S.castle S.turn 1)), (6, .bool (canC S.castle S.turn 2)), rz 7 b134, rz 63 p] ?_
   have hp166 : 1 ≤ pieceAt B 4 ∧ pieceAt B (4 : Int) ≤ 12 := hkW _ (cc1_turn hc133).1 (cc1_turn hc133).2
   refine reg_call 135 [pz b134, pz p] (some 64) (by kernel_rfl) (c135 (M := (⟨(orTag 0 1), 4, 6, 0⟩ : Mv)) hf160 hf161 hf159 z163 (show 0 ≤ (4 : Int) ∧ (4 : Int) ≤ 63 from (by omega)) (show 0 ≤ (6 : Int) ∧ (6 : Int) ≤ 63 from (by omega)) hp166 (pColor_or hp166) (fun h => absurd rfl h) (fun h => absurd rfl h) (by omega) (by assumption) (by assumption)) ?_
   rintro _ w167 ⟨rfl, v168, hf169⟩; refine ⟨_, rfl, ?_⟩
   have hf172 := At.keep hf162 v168 (not_mem1 (At.ne hf162 hf159 rfl))
   have v175 := Mod.fresh' v165 v168 (by simp <;> omega)
   refine zz ?_
   refine w_seq ?_
   have h176 : ([] : List Mv).length < 2 := by decide
   refine w_region ?_
   refine zv 3 [rz 0 p, rz 3 b1, iz 4 0, (5, .bool (canC S.castle S.turn 1)), (6, .bool (canC S.castle S.turn 2)), (66, .agg (mvCells (.pointer none) ⟨(tg4 B S (⟨(orTag 0 1), 4, 6, 0⟩ : Mv)), 4, 6, 0⟩)), rz 67 b1] [.row ⟨b134, 0, none⟩ 11 (mvCells (.pointer none) ⟨(tg4 B S (⟨(orTag 0 1), 4, 6, 0⟩ : Mv)), 4, 6, 0⟩), .prop (0 ≤ (0 : Int) ∧ 0 < ((2 : Nat) : Int))] [.agg (mvCells (.pointer none) ⟨(tg4 B S (⟨(orTag 0 1), 4, 6, 0⟩ : Mv)), 4, 6, 0⟩)] (⟨At.row hf169 rfl, (zh (by omega))⟩) ?_
   refine reg_store b1 0 (.agg (mvCells (.pointer none) ⟨(tg4 B S (⟨(orTag 0 1), 4, 6, 0⟩ : Mv)), 4, 6, 0⟩)) none (by kernel_rfl) hf172 (by rw [(MvArrN.size MvArrN.zero2)]; show 0 + 11 ≤ 2 * 11; omega) rfl ?_
   intro w177 hu178
   have hf179 : At w177 b1 (.cells (storeRow zero181 0 (mvCells (.pointer none) ⟨(tg4 B S (⟨(orTag 0 1), 4, 6, 0⟩ : Mv)), 4, 6, 0⟩).toList) 181 (0, 0)) := hu178.at_
   have v185 := Mod.fresh' v175 hu178.mod (by simp <;> omega)
   have hx186 : MvArrN 2 (storeRow zero181 0 (mvCells (.pointer none) ⟨(tg4 B S (⟨(orTag 0 1), 4, 6, 0⟩ : Mv)), 4, 6, 0⟩).toList) ([] ++ [(⟨(tg4 B S (⟨(orTag 0 1), 4, 6, 0⟩ : Mv)), 4, 6, 0⟩ : Mv)]) := MvArrN.push MvArrN.zero2 h176 (by first | omega | rfl)
   refine zz ?_
   refine w_region ?_
   refine zs 3 [rz 0 p, rz 3 b1, iz 4 (IntKind.i64.wrap ((0 : Int) + 1)), (5, .bool (canC S.castle S.turn 1)), (6, .bool (canC S.castle S.turn 2))] ?_
   refine ze ?_
   have he187 : ([] ++ [(⟨(tg4 B S (⟨(orTag 0 1), 4, 6, 0⟩ : Mv)), 4, 6, 0⟩ : Mv)]) = (cl1 B S) := by simp only [cl1, hc133, cond_true, castM, List.nil_append, List.append_assoc]
   have hX188 : MvArrN 2 (storeRow zero181 0 (mvCells (.pointer none) ⟨(tg4 B S (⟨(orTag 0 1), 4, 6, 0⟩ : Mv)), 4, 6, 0⟩).toList) (cl1 B S) := he187 ▸ hx186
   obtain ⟨Aq189, hA190, hX188⟩ : ∃ A, At w177 b1 (.cells A 181 (0, 0)) ∧ MvArrN 2 A (cl1 B S) := ⟨_, hf179, hX188⟩
   
   rw [(show ((IntKind.i64.wrap ((0 : Int) + (1 : Int))) : Int) = ((((cl1 B S) : List Mv).length : Nat) : Int) from by rw [← he187, i64_in' (by omega) (by omega)]; simp only [List.length_append, List.length_cons, List.length_nil]; omega)]
   exact zb Aq189 ⟨v185, hA190, hX188⟩
  refine w_skip ?_
  have he191 : [] = (cl1 B S) := by simp only [cl1, hc133, cond_false, List.append_nil]
  have hX192 : MvArrN 2 zero181 (cl1 B S) := he191 ▸ MvArrN.zero2
  obtain ⟨Aq193, hA194, hX192⟩ : ∃ A, At w32 b1 (.cells A 181 (0, 0)) ∧ MvArrN 2 A (cl1 B S) := ⟨_, hf129, hX192⟩
  
  rw [(show ((0 : Int) : Int) = ((((cl1 B S) : List Mv).length : Nat) : Int) from by rw [← he191] <;> rfl)]
  exact zb Aq193 ⟨v132, hA194, hX192⟩
 rintro A26 w27 ⟨v28, hf29, hx30⟩
 have hf195 := At.keep hf21 v28 (not_mem1 (At.ne hf21 hf23 rfl))
 have hf196 := At.keep hf22 v28 (not_mem1 (At.ne hf22 hf23 rfl))
 have z197 := Glob.keep z24 v28 (by simp <;> omega)
 have v198 := Mod.fresh' v25 v28 (by simp <;> omega)
 refine w_cut (γ := Array Value) (fun _ => [(0, pz p), (3, pz b1), (4, .int .i64 ((((cl1 B S ++ cl2 B S) : List Mv).length : Nat) : Int)), (5, .bool (canC S.castle S.turn 1)), (6, .bool (canC S.castle S.turn 2))]) (fun A w_ => Mod [b1] w27 w_ ∧ At w_ b1 (.cells A 181 (0, 0)) ∧ MvArrN 2 A (cl1 B S ++ cl2 B S)) ?_ ?_
 ·have v204 : Mod [b1] w27 w27 := Mod.refl _ _
  refine w_cut (γ := Unit) (fun _ => [(0, pz p), (3, pz b1), (4, .int .i64 ((((cl1 B S) : List Mv).length : Nat) : Int)), (5, .bool (canC S.castle S.turn 1)), (6, .bool (canC S.castle S.turn 2)), (107, .bool (((((S.turn == 1) && (canC S.castle S.turn 2)) && ((band (bnot B.empty) (bor (bor (bbSq 1) (bbSq 2)) (bbSq 3))) == 0)) && (!(attAny B S.turn 2 (fun i => if i = 0 then 2 else 3)))) && (!S.chk)))]) (fun _ w_ => Mod [] w27 w_) ?_ ?_
  ·have v207 : Mod [] w27 w27 := Mod.refl _ _
   refine w_tail1 28 27 [0, 1, 2, 3, 4, 5, 6, 7, 8, 9, 10, 11, 12, 13, 14, 15, 16, 17, 18, 19, 20, 21, 22, 23, 24, 25, 26] (by kernel_rfl) (by kernel_rfl) ?_
   refine zro 6 [rz 0 p, rz 3 b1, iz 4 ((((cl1 B S) : List Mv).length : Nat) : Int), (5, .bool (canC S.castle S.turn 1)), (6, .bool (canC S.castle S.turn 2)), (75, .bool (S.turn == 1))] [.cell ⟨p, 5, none⟩ (.int .i8 S.turn)] (fun _ hC => At.cell (At.on hf195 hC) rfl) ?_
   cases hc208 : (S.turn == (1 : Int))
   ·refine zr 21 [rz 0 p, rz 3 b1, iz 4 ((((cl1 B S) : List Mv).length : Nat) : Int), (5, .bool (canC S.castle S.turn 1)), (6, .bool (canC S.castle S.turn 2)), (95, .bool false), (96, undef)] ?_
    refine re_end (by kernel_rfl) (fun a ha w209 v210 => (?_ : EReg _ _ _ _ _ _ 28 27 _ w209) a ha)
    have v215 := zt v207 v210
    refine e_skip (some 97) (by kernel_rfl) v210 ?_
    intro w217 v218
    have v223 := zt v215 v218
    refine zs 10 [rz 0 p, rz 3 b1, iz 4 ((((cl1 B S) : List Mv).length : Nat) : Int), (5, .bool (canC S.castle S.turn 1)), (6, .bool (canC S.castle S.turn 2)), (107, .bool false)] ?_
    refine ze ?_
    refine only_n ?_
    exact zb () v223
   refine zr 3 [rz 0 p, rz 3 b1, iz 4 ((((cl1 B S) : List Mv).length : Nat) : Int), (5, .bool (canC S.castle S.turn 1)), (6, .bool (canC S.castle S.turn 2)), (78, .bool (canC S.castle S.turn 2))] ?_
   cases hc225 : (canC S.castle S.turn (2 : Int))
   ·refine zr 18 [rz 0 p, rz 3 b1, iz 4 ((((cl1 B S) : List Mv).length : Nat) : Int), (5, .bool (canC S.castle S.turn 1)), (6, .bool false), (95, .bool false), (96, undef)] ?_
    refine re_end (by kernel_rfl) (fun a ha w226 v227 => (?_ : EReg _ _ _ _ _ _ 28 27 _ w226) a ha)
    have v232 := zt v207 v227
    refine e_skip (some 97) (by kernel_rfl) v227 ?_
    intro w234 v235
    have v240 := zt v232 v235
    refine zs 10 [rz 0 p, rz 3 b1, iz 4 ((((cl1 B S) : List Mv).length : Nat) : Int), (5, .bool (canC S.castle S.turn 1)), (6, .bool false), (107, .bool false)] ?_
    refine ze ?_
    refine only_n ?_
    exact zb () v240
   refine zro 8 [rz 0 p, rz 3 b1, iz 4 ((((cl1 B S) : List Mv).length : Nat) : Int), (5, .bool (canC S.castle S.turn 1)), (6, .bool true), (78, .bool true), (86, .int .u64 (bnot B.empty))] [.cell ⟨p, 0, none⟩ (pz b), .cell ⟨b, 14, none⟩ (.int .u64 B.empty)] (fun _ hC => ⟨At.cell (At.on hf195 hC) rfl, At.cell (At.on hf196 hC) rfl⟩) ?_
   refine r_call 17 99 [.int .i8 1] (some 87) (.int .u64 (bbSq 1)) (by kernel_rfl) (by kernel_rfl) (fun w_ hC => c99 1 w_ (by omega) (by omega)) ?_
   refine r_call 18 99 [.int .i8 2] (some 88) (.int .u64 (bbSq 2)) (by kernel_rfl) (by kernel_rfl) (fun w_ hC => c99 2 w_ (by omega) (by omega)) ?_
   refine zr 1 [rz 0 p, rz 3 b1, iz 4 ((((cl1 B S) : List Mv).length : Nat) : Int), (5, .bool (canC S.castle S.turn 1)), (6, .bool true), (78, .bool true), (86, .int .u64 (bnot B.empty)), (89, .int .u64 (bor (bbSq 1) (bbSq 2)))] ?_
   refine r_call 20 99 [.int .i8 3] (some 90) (.int .u64 (bbSq 3)) (by kernel_rfl) (by kernel_rfl) (fun w_ hC => c99 3 w_ (by omega) (by omega)) ?_
   refine zr 5 [rz 0 p, rz 3 b1, iz 4 ((((cl1 B S) : List Mv).length : Nat) : Int), (5, .bool (canC S.castle S.turn 1)), (6, .bool true), (95, .bool ((band (bnot B.empty) (bor (bor (bbSq 1) (bbSq 2)) (bbSq 3))) == 0))] ?_
   cases hc242 : ((band (bnot B.empty) (bor (bor (bbSq (1 : Int)) (bbSq (2 : Int))) (bbSq (3 : Int)))) == (0 : Int))
   ·refine zr 1 [rz 0 p, rz 3 b1, iz 4 ((((cl1 B S) : List Mv).length : Nat) : Int), (5, .bool (canC S.castle S.turn 1)), (6, .bool true), (95, .bool false), (96, undef)] ?_
    refine re_end (by kernel_rfl) (fun a ha w243 v244 => (?_ : EReg _ _ _ _ _ _ 28 27 _ w243) a ha)
    have v249 := zt v207 v244
    refine e_skip (some 97) (by kernel_rfl) v244 ?_
    intro w251 v252
    have v257 := zt v249 v252
    refine zs 10 [rz 0 p, rz 3 b1, iz 4 ((((cl1 B S) : List Mv).length : Nat) : Int), (5, .bool (canC S.castle S.turn 1)), (6, .bool true), (107, .bool false)] ?_
    refine ze ?_
    refine only_n ?_
    exact zb () v257
   refine zr 1 [rz 0 p, rz 3 b1, iz 4 ((((cl1 B S) : List Mv).length : Nat) : Int), (5, .bool (canC S.castle S.turn 1)), (6, .bool true), (95, .bool true), rz 96 p] ?_
   refine re_end (by kernel_rfl) (fun a ha w259 v260 => (?_ : EReg _ _ _ _ _ _ 28 27 _ w259) a ha)
   have hf261 := At.on hf195 v260
   have hf262 := At.on hf196 v260
   have z264 := Glob.on z197 v260
   have v265 := zt v207 v260
   have v266 := Mod.trans v204 (Mod.of_nil v260)
   refine e_bslice (#[.int .i8 2, .int .i8 3]) 87 2 (some 97) (by kernel_rfl) v260 ?_
   intro b267 w268 hn269
   have hb270 : c.base ≤ b267 := Glob.lt z264 hn269
   have hb271 := Nat.le_trans v265.size hn269.base
   have hb272 := Nat.le_trans v266.size hn269.base
   have v273 := hn269.mod
   have hf274 := At.on hf261 v273
   have hf275 := At.on hf262 v273
   have z277 := Glob.on z264 v273
   have v278 := zt v265 v273
   have hf280 := hn269.at_
   intro w281 v282
   have hf283 := At.on hf274 v282
   have hf284 := At.on hf275 v282
   have hf286 := At.on hf280 v282
   have z287 := Glob.on z277 v282
   have v288 := zt v278 v282
   refine reg_call 110 [pz p, .slice (some ⟨b267, 0, none⟩) 2 2] (some 98) (by kernel_rfl) (c110 (n := 2) (S := S) hf283 hf284 hf286 z287 (fun i => if i = 0 then 2 else 3) cells2 (fun i h => (by by_cases hi : i = 0 <;> simp [hi])) (by assumption) (by omega)) ?_
   rintro _ w290 ⟨rfl, v291⟩; refine ⟨_, rfl, ?_⟩
   have hf292 := At.on hf283 v291
   have v297 := zt v288 v291
   refine zs 3 [rz 0 p, rz 3 b1, iz 4 ((((cl1 B S) : List Mv).length : Nat) : Int), (5, .bool (canC S.castle S.turn 1)), (6, .bool true), (101, .bool (!(attAny B S.turn 2 (fun i => if i = 0 then 2 else 3))))] ?_
   cases hc299 : (!(attAny B S.turn 2 (fun i => if i = 0 then (2 : Int) else (3 : Int))))
   ·refine zs 6 [rz 0 p, rz 3 b1, iz 4 ((((cl1 B S) : List Mv).length : Nat) : Int), (5, .bool (canC S.castle S.turn 1)), (6, .bool true), (107, .bool false)] ?_
    refine ze ?_
    refine only_n ?_
    exact zb () v297
   refine zo 6 [rz 0 p, rz 3 b1, iz 4 ((((cl1 B S) : List Mv).length : Nat) : Int), (5, .bool (canC S.castle S.turn 1)), (6, .bool true), (107, .bool (!S.chk))] [.cell ⟨p, 7, none⟩ (.bool S.chk)] (At.cell hf292 rfl) ?_
   refine ze ?_
   refine only_n ?_
   exact zb () v297
  intro _ w205 v206
  have hf300 := At.on hf195 v206
  have hf301 := At.on hf196 v206
  have hf302 := At.on hf29 v206
  have z303 := Glob.on z197 v206
  have v304 := zt v198 v206
  have v305 := Mod.trans v204 (Mod.of_nil v206)
  refine w_cond (b := (cc2 B S)) rfl (fun hc306 => ?_) (fun hc306 => ?_)
  ·refine zw ?_
   refine zs 1 [rz 0 p, rz 3 b1, iz 4 ((((cl1 B S) : List Mv).length : Nat) : Int), (5, .bool (canC S.castle S.turn 1)), (6, .bool (canC S.castle S.turn 2)), (108, .agg #[.pointer none, .pointer none, .string (⟨#[]⟩), .string (⟨#[]⟩), .map none, .slice none 0 0, .int .u64 0, .int .u16 0, .int .i8 4, .int .i8 2, .int .i8 0])] ?_
   refine reg_alloc (mvCells (.pointer none) (⟨0, 0, 0, 0⟩ : Mv)) 98 (some 8) (by kernel_rfl) ?_
   intro b307 w308 hn309
   have hb310 : c.base ≤ b307 := Glob.lt z303 hn309
   have hb311 := Nat.le_trans v304.size hn309.base
   have hb312 := Nat.le_trans v305.size hn309.base
   have v313 := hn309.mod
   have hf314 := At.on hf300 v313
   have hf315 := At.on hf301 v313
   have hf316 := At.on hf302 v313
   have z317 := Glob.on z303 v313
   have v319 := Mod.trans v305 (Mod.of_nil v313)
   have hf320 := hn309.at_
   refine reg_store b307 0 (.agg #[.pointer none, .pointer none, .string (⟨#[]⟩), .string (⟨#[]⟩), .map none, .slice none 0 0, .int .u64 0, .int .u16 0, .int .i8 4, .int .i8 2, .int .i8 0]) none (by kernel_rfl) hf320 (Nat.le_of_ble_eq_true rfl) rfl ?_
   intro w321 hu322
   have hf323 : At w321 b307 (.cells (mvCells (.pointer none) ⟨0, 4, 2, 0⟩) 98 (0, 0)) := hu322.at_
   have hf324 := At.keep hf314 hu322.mod (not_mem1 (At.ne hf314 hf320 rfl))
   have hf325 := At.keep hf315 hu322.mod (not_mem1 (At.ne hf315 hf320 rfl))
   have hf326 := At.keep hf316 hu322.mod (not_mem1 (At.ne hf316 hf320 rfl))
   have z327 := Glob.keep z317 hu322.mod (by simp <;> omega)
   have v329 := Mod.fresh' v319 hu322.mod (by simp <;> omega)
   refine zx ?_
   refine reg_call 136 [pz b307, .int .u16 2] (some 109) (by kernel_rfl) (c136 hf323 2) ?_
   rintro _ w330 ⟨rfl, v331, hf332⟩; refine ⟨_, rfl, ?_⟩
   have hf333 := At.keep hf324 v331 (not_mem1 (At.ne hf324 hf323 rfl))
   have hf334 := At.keep hf325 v331 (not_mem1 (At.ne hf325 hf323 rfl))
   have hf335 := At.keep hf326 v331 (not_mem1 (At.ne hf326 hf323 rfl))
   have z336 := Glob.keep z327 v331 (by simp <;> omega)
   have v338 := Mod.fresh' v329 v331 (by simp <;> omega)
   refine zx ?_
   refine zs 1 [rz 0 p, rz 3 b1, iz 4 ((((cl1 B S) : List Mv).length : Nat) : Int), (5, .bool (canC S.castle S.turn 1)), (6, .bool (canC S.castle S.turn 2)), rz 8 b307, rz 110 p] ?_
   have hp339 : 1 ≤ pieceAt B 4 ∧ pieceAt B (4 : Int) ≤ 12 := hkW _ (cc2_turn hc306).1 (cc2_turn hc306).2
   refine reg_call 135 [pz b307, pz p] (some 111) (by kernel_rfl) (c135 (M := (⟨(orTag 0 2), 4, 2, 0⟩ : Mv)) hf333 hf334 hf332 z336 (show 0 ≤ (4 : Int) ∧ (4 : Int) ≤ 63 from (by omega)) (show 0 ≤ (2 : Int) ∧ (2 : Int) ≤ 63 from (by omega)) hp339 (pColor_or hp339) (fun h => absurd rfl h) (fun h => absurd rfl h) (by omega) (by assumption) (by assumption)) ?_
   rintro _ w340 ⟨rfl, v341, hf342⟩; refine ⟨_, rfl, ?_⟩
   have hf345 := At.keep hf335 v341 (not_mem1 (At.ne hf335 hf332 rfl))
   have v348 := Mod.fresh' v338 v341 (by simp <;> omega)
   refine zz ?_
   refine w_seq ?_
   have h349 : ((cl1 B S) : List Mv).length < 2 := Nat.lt_of_le_of_lt cl1_one (by omega)
   refine w_region ?_
   refine zv 3 [rz 0 p, rz 3 b1, iz 4 ((((cl1 B S) : List Mv).length : Nat) : Int), (5, .bool (canC S.castle S.turn 1)), (6, .bool (canC S.castle S.turn 2)), (113, .agg (mvCells (.pointer none) ⟨(tg4 B S (⟨(orTag 0 2), 4, 2, 0⟩ : Mv)), 4, 2, 0⟩)), (114, .pointer (some ⟨b1, (0 + ((((cl1 B S) : List Mv).length : Nat) : Int).toNat * 11), none⟩))] [.row ⟨b307, 0, none⟩ 11 (mvCells (.pointer none) ⟨(tg4 B S (⟨(orTag 0 2), 4, 2, 0⟩ : Mv)), 4, 2, 0⟩), .prop (0 ≤ ((((cl1 B S) : List Mv).length : Nat) : Int) ∧ ((((cl1 B S) : List Mv).length : Nat) : Int) < ((2 : Nat) : Int))] [.agg (mvCells (.pointer none) ⟨(tg4 B S (⟨(orTag 0 2), 4, 2, 0⟩ : Mv)), 4, 2, 0⟩)] (⟨At.row hf342 rfl, (zh (by omega))⟩) ?_
   refine reg_store b1 (0 + ((((cl1 B S) : List Mv).length : Nat) : Int).toNat * 11) (.agg (mvCells (.pointer none) ⟨(tg4 B S (⟨(orTag 0 2), 4, 2, 0⟩ : Mv)), 4, 2, 0⟩)) none (by kernel_rfl) hf345 (by rw [(MvArrN.size hx30)]; show (0 + ((((cl1 B S) : List Mv).length : Nat) : Int).toNat * 11) + 11 ≤ 2 * 11; omega) rfl ?_
   intro w350 hu351
   have hf352 : At w350 b1 (.cells (storeRow A26 (0 + ((((cl1 B S) : List Mv).length : Nat) : Int).toNat * 11) (mvCells (.pointer none) ⟨(tg4 B S (⟨(orTag 0 2), 4, 2, 0⟩ : Mv)), 4, 2, 0⟩).toList) 181 (0, 0)) := hu351.at_
   have v358 := Mod.fresh' v348 hu351.mod (by simp <;> omega)
   have hx359 : MvArrN 2 (storeRow A26 (0 + ((((cl1 B S) : List Mv).length : Nat) : Int).toNat * 11) (mvCells (.pointer none) ⟨(tg4 B S (⟨(orTag 0 2), 4, 2, 0⟩ : Mv)), 4, 2, 0⟩).toList) ((cl1 B S) ++ [(⟨(tg4 B S (⟨(orTag 0 2), 4, 2, 0⟩ : Mv)), 4, 2, 0⟩ : Mv)]) := MvArrN.push hx30 h349 (by first | omega | rfl)
   refine zz ?_
   refine w_region ?_
   refine zs 3 [rz 0 p, rz 3 b1, iz 4 (IntKind.i64.wrap (((((cl1 B S) : List Mv).length : Nat) : Int) + 1)), (5, .bool (canC S.castle S.turn 1)), (6, .bool (canC S.castle S.turn 2))] ?_
   refine ze ?_
   have he360 : ((cl1 B S) ++ [(⟨(tg4 B S (⟨(orTag 0 2), 4, 2, 0⟩ : Mv)), 4, 2, 0⟩ : Mv)]) = (cl1 B S ++ cl2 B S) := by simp only [cl2, hc306, cond_true, castM, List.nil_append, List.append_assoc]
   have hX361 : MvArrN 2 (storeRow A26 (0 + ((((cl1 B S) : List Mv).length : Nat) : Int).toNat * 11) (mvCells (.pointer none) ⟨(tg4 B S (⟨(orTag 0 2), 4, 2, 0⟩ : Mv)), 4, 2, 0⟩).toList) (cl1 B S ++ cl2 B S) := he360 ▸ hx359
   obtain ⟨Aq362, hA363, hX361⟩ : ∃ A, At w350 b1 (.cells A 181 (0, 0)) ∧ MvArrN 2 A (cl1 B S ++ cl2 B S) := ⟨_, hf352, hX361⟩
   
   rw [(show ((IntKind.i64.wrap (((((cl1 B S) : List Mv).length : Nat) : Int) + (1 : Int))) : Int) = ((((cl1 B S ++ cl2 B S) : List Mv).length : Nat) : Int) from by rw [← he360, i64_in' (by omega) (by omega)]; simp only [List.length_append, List.length_cons, List.length_nil]; omega)]
   exact zb Aq362 ⟨v358, hA363, hX361⟩
  refine w_skip ?_
  have he364 : (cl1 B S) = (cl1 B S ++ cl2 B S) := by simp only [cl2, hc306, cond_false, List.append_nil]
  have hX365 : MvArrN 2 A26 (cl1 B S ++ cl2 B S) := he364 ▸ hx30
  obtain ⟨Aq366, hA367, hX365⟩ : ∃ A, At w205 b1 (.cells A 181 (0, 0)) ∧ MvArrN 2 A (cl1 B S ++ cl2 B S) := ⟨_, hf302, hX365⟩
  
  rw [(show (((((cl1 B S) : List Mv).length : Nat) : Int) : Int) = ((((cl1 B S ++ cl2 B S) : List Mv).length : Nat) : Int) from by rw [← he364] <;> rfl)]
  exact zb Aq366 ⟨v305, hA367, hX365⟩
 rintro A199 w200 ⟨v201, hf202, hx203⟩
 have hf368 := At.keep hf195 v201 (not_mem1 (At.ne hf195 hf29 rfl))
 have hf369 := At.keep hf196 v201 (not_mem1 (At.ne hf196 hf29 rfl))
 have z370 := Glob.keep z197 v201 (by simp <;> omega)
 have v371 := Mod.fresh' v198 v201 (by simp <;> omega)
 refine w_cut (γ := Array Value) (fun _ => [(0, pz p), (3, pz b1), (4, .int .i64 ((((cl1 B S ++ cl2 B S ++ cl3 B S) : List Mv).length : Nat) : Int)), (6, .bool (canC S.castle S.turn 2))]) (fun A w_ => Mod [b1] w200 w_ ∧ At w_ b1 (.cells A 181 (0, 0)) ∧ MvArrN 2 A (cl1 B S ++ cl2 B S ++ cl3 B S)) ?_ ?_
 ·have v377 : Mod [b1] w200 w200 := Mod.refl _ _
  refine w_cut (γ := Unit) (fun _ => [(0, pz p), (3, pz b1), (4, .int .i64 ((((cl1 B S ++ cl2 B S) : List Mv).length : Nat) : Int)), (6, .bool (canC S.castle S.turn 2)), (152, .bool (((((S.turn == 2) && (canC S.castle S.turn 1)) && ((band (bnot B.empty) (bor (bbSq 61) (bbSq 62))) == 0)) && (!(attAny B S.turn 2 (fun i => if i = 0 then 61 else 62)))) && (!S.chk)))]) (fun _ w_ => Mod [] w200 w_) ?_ ?_
  ·have v380 : Mod [] w200 w200 := Mod.refl _ _
   refine w_tail1 26 25 [0, 1, 2, 3, 4, 5, 6, 7, 8, 9, 10, 11, 12, 13, 14, 15, 16, 17, 18, 19, 20, 21, 22, 23, 24] (by kernel_rfl) (by kernel_rfl) ?_
   refine zro 6 [rz 0 p, rz 3 b1, iz 4 ((((cl1 B S ++ cl2 B S) : List Mv).length : Nat) : Int), (5, .bool (canC S.castle S.turn 1)), (6, .bool (canC S.castle S.turn 2)), (122, .bool (S.turn == 2))] [.cell ⟨p, 5, none⟩ (.int .i8 S.turn)] (fun _ hC => At.cell (At.on hf368 hC) rfl) ?_
   cases hc381 : (S.turn == (2 : Int))
   ·refine zr 19 [rz 0 p, rz 3 b1, iz 4 ((((cl1 B S ++ cl2 B S) : List Mv).length : Nat) : Int), (6, .bool (canC S.castle S.turn 2)), (140, .bool false), (141, undef)] ?_
    refine re_end (by kernel_rfl) (fun a ha w382 v383 => (?_ : EReg _ _ _ _ _ _ 26 25 _ w382) a ha)
    have v388 := zt v380 v383
    refine e_skip (some 142) (by kernel_rfl) v383 ?_
    intro w390 v391
    have v396 := zt v388 v391
    refine zs 10 [rz 0 p, rz 3 b1, iz 4 ((((cl1 B S ++ cl2 B S) : List Mv).length : Nat) : Int), (6, .bool (canC S.castle S.turn 2)), (152, .bool false)] ?_
    refine ze ?_
    refine only_n ?_
    exact zb () v396
   refine zr 3 [rz 0 p, rz 3 b1, iz 4 ((((cl1 B S ++ cl2 B S) : List Mv).length : Nat) : Int), (6, .bool (canC S.castle S.turn 2)), (125, .bool (canC S.castle S.turn 1))] ?_
   cases hc398 : (canC S.castle S.turn (1 : Int))
   ·refine zr 16 [rz 0 p, rz 3 b1, iz 4 ((((cl1 B S ++ cl2 B S) : List Mv).length : Nat) : Int), (6, .bool (canC S.castle S.turn 2)), (140, .bool false), (141, undef)] ?_
    refine re_end (by kernel_rfl) (fun a ha w399 v400 => (?_ : EReg _ _ _ _ _ _ 26 25 _ w399) a ha)
    have v405 := zt v380 v400
    refine e_skip (some 142) (by kernel_rfl) v400 ?_
    intro w407 v408
    have v413 := zt v405 v408
    refine zs 10 [rz 0 p, rz 3 b1, iz 4 ((((cl1 B S ++ cl2 B S) : List Mv).length : Nat) : Int), (6, .bool (canC S.castle S.turn 2)), (152, .bool false)] ?_
    refine ze ?_
    refine only_n ?_
    exact zb () v413
   refine zro 8 [rz 0 p, rz 3 b1, iz 4 ((((cl1 B S ++ cl2 B S) : List Mv).length : Nat) : Int), (6, .bool (canC S.castle S.turn 2)), (125, .bool true), (133, .int .u64 (bnot B.empty))] [.cell ⟨p, 0, none⟩ (pz b), .cell ⟨b, 14, none⟩ (.int .u64 B.empty)] (fun _ hC => ⟨At.cell (At.on hf368 hC) rfl, At.cell (At.on hf369 hC) rfl⟩) ?_
   refine r_call 17 99 [.int .i8 61] (some 134) (.int .u64 (bbSq 61)) (by kernel_rfl) (by kernel_rfl) (fun w_ hC => c99 61 w_ (by omega) (by omega)) ?_
   refine r_call 18 99 [.int .i8 62] (some 135) (.int .u64 (bbSq 62)) (by kernel_rfl) (by kernel_rfl) (fun w_ hC => c99 62 w_ (by omega) (by omega)) ?_
   refine zr 5 [rz 0 p, rz 3 b1, iz 4 ((((cl1 B S ++ cl2 B S) : List Mv).length : Nat) : Int), (6, .bool (canC S.castle S.turn 2)), (140, .bool ((band (bnot B.empty) (bor (bbSq 61) (bbSq 62))) == 0))] ?_
   cases hc415 : ((band (bnot B.empty) (bor (bbSq (61 : Int)) (bbSq (62 : Int)))) == (0 : Int))
   ·refine zr 1 [rz 0 p, rz 3 b1, iz 4 ((((cl1 B S ++ cl2 B S) : List Mv).length : Nat) : Int), (6, .bool (canC S.castle S.turn 2)), (140, .bool false), (141, undef)] ?_
    refine re_end (by kernel_rfl) (fun a ha w416 v417 => (?_ : EReg _ _ _ _ _ _ 26 25 _ w416) a ha)
    have v422 := zt v380 v417
    refine e_skip (some 142) (by kernel_rfl) v417 ?_
    intro w424 v425
    have v430 := zt v422 v425
    refine zs 10 [rz 0 p, rz 3 b1, iz 4 ((((cl1 B S ++ cl2 B S) : List Mv).length : Nat) : Int), (6, .bool (canC S.castle S.turn 2)), (152, .bool false)] ?_
    refine ze ?_
    refine only_n ?_
    exact zb () v430
   refine zr 1 [rz 0 p, rz 3 b1, iz 4 ((((cl1 B S ++ cl2 B S) : List Mv).length : Nat) : Int), (6, .bool (canC S.castle S.turn 2)), (140, .bool true), rz 141 p] ?_
   refine re_end (by kernel_rfl) (fun a ha w432 v433 => (?_ : EReg _ _ _ _ _ _ 26 25 _ w432) a ha)
   have hf434 := At.on hf368 v433
   have hf435 := At.on hf369 v433
   have z437 := Glob.on z370 v433
   have v438 := zt v380 v433
   have v439 := Mod.trans v377 (Mod.of_nil v433)
   refine e_bslice (#[.int .i8 61, .int .i8 62]) 87 2 (some 142) (by kernel_rfl) v433 ?_
   intro b440 w441 hn442
   have hb443 : c.base ≤ b440 := Glob.lt z437 hn442
   have hb444 := Nat.le_trans v438.size hn442.base
   have hb445 := Nat.le_trans v439.size hn442.base
   have v446 := hn442.mod
   have hf447 := At.on hf434 v446
   have hf448 := At.on hf435 v446
   have z450 := Glob.on z437 v446
   have v451 := zt v438 v446
   have hf453 := hn442.at_
   intro w454 v455
   have hf456 := At.on hf447 v455
   have hf457 := At.on hf448 v455
   have hf459 := At.on hf453 v455
   have z460 := Glob.on z450 v455
   have v461 := zt v451 v455
   refine reg_call 110 [pz p, .slice (some ⟨b440, 0, none⟩) 2 2] (some 143) (by kernel_rfl) (c110 (n := 2) (S := S) hf456 hf457 hf459 z460 (fun i => if i = 0 then 61 else 62) cells2 (fun i h => (by by_cases hi : i = 0 <;> simp [hi])) (by assumption) (by omega)) ?_
   rintro _ w463 ⟨rfl, v464⟩; refine ⟨_, rfl, ?_⟩
   have hf465 := At.on hf456 v464
   have v470 := zt v461 v464
   refine zs 3 [rz 0 p, rz 3 b1, iz 4 ((((cl1 B S ++ cl2 B S) : List Mv).length : Nat) : Int), (6, .bool (canC S.castle S.turn 2)), (146, .bool (!(attAny B S.turn 2 (fun i => if i = 0 then 61 else 62))))] ?_
   cases hc472 : (!(attAny B S.turn 2 (fun i => if i = 0 then (61 : Int) else (62 : Int))))
   ·refine zs 6 [rz 0 p, rz 3 b1, iz 4 ((((cl1 B S ++ cl2 B S) : List Mv).length : Nat) : Int), (6, .bool (canC S.castle S.turn 2)), (152, .bool false)] ?_
    refine ze ?_
    refine only_n ?_
    exact zb () v470
   refine zo 6 [rz 0 p, rz 3 b1, iz 4 ((((cl1 B S ++ cl2 B S) : List Mv).length : Nat) : Int), (6, .bool (canC S.castle S.turn 2)), (152, .bool (!S.chk))] [.cell ⟨p, 7, none⟩ (.bool S.chk)] (At.cell hf465 rfl) ?_
   refine ze ?_
   refine only_n ?_
   exact zb () v470
  intro _ w378 v379
  have hf473 := At.on hf368 v379
  have hf474 := At.on hf369 v379
  have hf475 := At.on hf202 v379
  have z476 := Glob.on z370 v379
  have v477 := zt v371 v379
  have v478 := Mod.trans v377 (Mod.of_nil v379)
  refine w_cond (b := (cc3 B S)) rfl (fun hc479 => ?_) (fun hc479 => ?_)
  ·refine zw ?_
   refine zs 1 [rz 0 p, rz 3 b1, iz 4 ((((cl1 B S ++ cl2 B S) : List Mv).length : Nat) : Int), (6, .bool (canC S.castle S.turn 2)), (153, .agg #[.pointer none, .pointer none, .string (⟨#[]⟩), .string (⟨#[]⟩), .map none, .slice none 0 0, .int .u64 0, .int .u16 0, .int .i8 60, .int .i8 62, .int .i8 0])] ?_
   refine reg_alloc (mvCells (.pointer none) (⟨0, 0, 0, 0⟩ : Mv)) 98 (some 9) (by kernel_rfl) ?_
   intro b480 w481 hn482
   have hb483 : c.base ≤ b480 := Glob.lt z476 hn482
   have hb484 := Nat.le_trans v477.size hn482.base
   have hb485 := Nat.le_trans v478.size hn482.base
   have v486 := hn482.mod
   have hf487 := At.on hf473 v486
   have hf488 := At.on hf474 v486
   have hf489 := At.on hf475 v486
   have z490 := Glob.on z476 v486
   have v492 := Mod.trans v478 (Mod.of_nil v486)
   have hf493 := hn482.at_
   refine reg_store b480 0 (.agg #[.pointer none, .pointer none, .string (⟨#[]⟩), .string (⟨#[]⟩), .map none, .slice none 0 0, .int .u64 0, .int .u16 0, .int .i8 60, .int .i8 62, .int .i8 0]) none (by kernel_rfl) hf493 (Nat.le_of_ble_eq_true rfl) rfl ?_
   intro w494 hu495
   have hf496 : At w494 b480 (.cells (mvCells (.pointer none) ⟨0, 60, 62, 0⟩) 98 (0, 0)) := hu495.at_
   have hf497 := At.keep hf487 hu495.mod (not_mem1 (At.ne hf487 hf493 rfl))
   have hf498 := At.keep hf488 hu495.mod (not_mem1 (At.ne hf488 hf493 rfl))
   have hf499 := At.keep hf489 hu495.mod (not_mem1 (At.ne hf489 hf493 rfl))
   have z500 := Glob.keep z490 hu495.mod (by simp <;> omega)
   have v502 := Mod.fresh' v492 hu495.mod (by simp <;> omega)
   refine zx ?_
   refine reg_call 136 [pz b480, .int .u16 1] (some 154) (by kernel_rfl) (c136 hf496 1) ?_
   rintro _ w503 ⟨rfl, v504, hf505⟩; refine ⟨_, rfl, ?_⟩
   have hf506 := At.keep hf497 v504 (not_mem1 (At.ne hf497 hf496 rfl))
   have hf507 := At.keep hf498 v504 (not_mem1 (At.ne hf498 hf496 rfl))
   have hf508 := At.keep hf499 v504 (not_mem1 (At.ne hf499 hf496 rfl))
   have z509 := Glob.keep z500 v504 (by simp <;> omega)
   have v511 := Mod.fresh' v502 v504 (by simp <;> omega)
   refine zx ?_
   refine zs 1 [rz 0 p, rz 3 b1, iz 4 ((((cl1 B S ++ cl2 B S) : List Mv).length : Nat) : Int), (6, .bool (canC S.castle S.turn 2)), rz 9 b480, rz 155 p] ?_
   have hp512 : 1 ≤ pieceAt B 60 ∧ pieceAt B (60 : Int) ≤ 12 := hkB _ (cc3_turn hc479).1 (cc3_turn hc479).2
   refine reg_call 135 [pz b480, pz p] (some 156) (by kernel_rfl) (c135 (M := (⟨(orTag 0 1), 60, 62, 0⟩ : Mv)) hf506 hf507 hf505 z509 (show 0 ≤ (60 : Int) ∧ (60 : Int) ≤ 63 from (by omega)) (show 0 ≤ (62 : Int) ∧ (62 : Int) ≤ 63 from (by omega)) hp512 (pColor_or hp512) (fun h => absurd rfl h) (fun h => absurd rfl h) (by omega) (by assumption) (by assumption)) ?_
   rintro _ w513 ⟨rfl, v514, hf515⟩; refine ⟨_, rfl, ?_⟩
   have hf518 := At.keep hf508 v514 (not_mem1 (At.ne hf508 hf505 rfl))
   have v521 := Mod.fresh' v511 v514 (by simp <;> omega)
   refine zz ?_
   refine w_seq ?_
   have h522 : ((cl1 B S ++ cl2 B S) : List Mv).length < 2 := by
    have ht := (cc3_turn hc479).1
    rw [cl1_nil (by omega), cl2_nil (by omega)]; decide
   refine w_region ?_
   refine zv 3 [rz 0 p, rz 3 b1, iz 4 ((((cl1 B S ++ cl2 B S) : List Mv).length : Nat) : Int), (6, .bool (canC S.castle S.turn 2)), (158, .agg (mvCells (.pointer none) ⟨(tg4 B S (⟨(orTag 0 1), 60, 62, 0⟩ : Mv)), 60, 62, 0⟩)), (159, .pointer (some ⟨b1, (0 + ((((cl1 B S ++ cl2 B S) : List Mv).length : Nat) : Int).toNat * 11), none⟩))] [.row ⟨b480, 0, none⟩ 11 (mvCells (.pointer none) ⟨(tg4 B S (⟨(orTag 0 1), 60, 62, 0⟩ : Mv)), 60, 62, 0⟩), .prop (0 ≤ ((((cl1 B S ++ cl2 B S) : List Mv).length : Nat) : Int) ∧ ((((cl1 B S ++ cl2 B S) : List Mv).length : Nat) : Int) < ((2 : Nat) : Int))] [.agg (mvCells (.pointer none) ⟨(tg4 B S (⟨(orTag 0 1), 60, 62, 0⟩ : Mv)), 60, 62, 0⟩)] (⟨At.row hf515 rfl, (zh (by omega))⟩) ?_
   refine reg_store b1 (0 + ((((cl1 B S ++ cl2 B S) : List Mv).length : Nat) : Int).toNat * 11) (.agg (mvCells (.pointer none) ⟨(tg4 B S (⟨(orTag 0 1), 60, 62, 0⟩ : Mv)), 60, 62, 0⟩)) none (by kernel_rfl) hf518 (by rw [(MvArrN.size hx203)]; show (0 + ((((cl1 B S ++ cl2 B S) : List Mv).length : Nat) : Int).toNat * 11) + 11 ≤ 2 * 11; omega) rfl ?_
   intro w523 hu524
   have hf525 : At w523 b1 (.cells (storeRow A199 (0 + ((((cl1 B S ++ cl2 B S) : List Mv).length : Nat) : Int).toNat * 11) (mvCells (.pointer none) ⟨(tg4 B S (⟨(orTag 0 1), 60, 62, 0⟩ : Mv)), 60, 62, 0⟩).toList) 181 (0, 0)) := hu524.at_
   have v531 := Mod.fresh' v521 hu524.mod (by simp <;> omega)
   have hx532 : MvArrN 2 (storeRow A199 (0 + ((((cl1 B S ++ cl2 B S) : List Mv).length : Nat) : Int).toNat * 11) (mvCells (.pointer none) ⟨(tg4 B S (⟨(orTag 0 1), 60, 62, 0⟩ : Mv)), 60, 62, 0⟩).toList) ((cl1 B S ++ cl2 B S) ++ [(⟨(tg4 B S (⟨(orTag 0 1), 60, 62, 0⟩ : Mv)), 60, 62, 0⟩ : Mv)]) := MvArrN.push hx203 h522 (by first | omega | rfl)
   refine zz ?_
   refine w_region ?_
   refine zs 3 [rz 0 p, rz 3 b1, iz 4 (IntKind.i64.wrap (((((cl1 B S ++ cl2 B S) : List Mv).length : Nat) : Int) + 1)), (6, .bool (canC S.castle S.turn 2))] ?_
   refine ze ?_
   have he533 : ((cl1 B S ++ cl2 B S) ++ [(⟨(tg4 B S (⟨(orTag 0 1), 60, 62, 0⟩ : Mv)), 60, 62, 0⟩ : Mv)]) = (cl1 B S ++ cl2 B S ++ cl3 B S) := by simp only [cl3, hc479, cond_true, castM, List.nil_append, List.append_assoc]
   have hX534 : MvArrN 2 (storeRow A199 (0 + ((((cl1 B S ++ cl2 B S) : List Mv).length : Nat) : Int).toNat * 11) (mvCells (.pointer none) ⟨(tg4 B S (⟨(orTag 0 1), 60, 62, 0⟩ : Mv)), 60, 62, 0⟩).toList) (cl1 B S ++ cl2 B S ++ cl3 B S) := he533 ▸ hx532
   obtain ⟨Aq535, hA536, hX534⟩ : ∃ A, At w523 b1 (.cells A 181 (0, 0)) ∧ MvArrN 2 A (cl1 B S ++ cl2 B S ++ cl3 B S) := ⟨_, hf525, hX534⟩
   
   rw [(show ((IntKind.i64.wrap (((((cl1 B S ++ cl2 B S) : List Mv).length : Nat) : Int) + (1 : Int))) : Int) = ((((cl1 B S ++ cl2 B S ++ cl3 B S) : List Mv).length : Nat) : Int) from by rw [← he533, i64_in' (by omega) (by omega)]; simp only [List.length_append, List.length_cons, List.length_nil]; omega)]
   exact zb Aq535 ⟨v531, hA536, hX534⟩
  refine w_skip ?_
  have he537 : (cl1 B S ++ cl2 B S) = (cl1 B S ++ cl2 B S ++ cl3 B S) := by simp only [cl3, hc479, cond_false, List.append_nil]
  have hX538 : MvArrN 2 A199 (cl1 B S ++ cl2 B S ++ cl3 B S) := he537 ▸ hx203
  obtain ⟨Aq539, hA540, hX538⟩ : ∃ A, At w378 b1 (.cells A 181 (0, 0)) ∧ MvArrN 2 A (cl1 B S ++ cl2 B S ++ cl3 B S) := ⟨_, hf475, hX538⟩
  
  rw [(show (((((cl1 B S ++ cl2 B S) : List Mv).length : Nat) : Int) : Int) = ((((cl1 B S ++ cl2 B S ++ cl3 B S) : List Mv).length : Nat) : Int) from by rw [← he537] <;> rfl)]
  exact zb Aq539 ⟨v478, hA540, hX538⟩
 rintro A372 w373 ⟨v374, hf375, hx376⟩
 have hf541 := At.keep hf368 v374 (not_mem1 (At.ne hf368 hf202 rfl))
 have hf542 := At.keep hf369 v374 (not_mem1 (At.ne hf369 hf202 rfl))
 have z543 := Glob.keep z370 v374 (by simp <;> omega)
 have v544 := Mod.fresh' v371 v374 (by simp <;> omega)
 refine w_cut (γ := Array Value) (fun _ => [(3, pz b1), (4, .int .i64 ((((castL B S) : List Mv).length : Nat) : Int))]) (fun A w_ => Mod [b1] w373 w_ ∧ At w_ b1 (.cells A 181 (0, 0)) ∧ MvArrN 2 A (castL B S)) ?_ ?_
 ·have v550 : Mod [b1] w373 w373 := Mod.refl _ _
  refine w_cut (γ := Unit) (fun _ => [(0, pz p), (3, pz b1), (4, .int .i64 ((((cl1 B S ++ cl2 B S ++ cl3 B S) : List Mv).length : Nat) : Int)), (199, .bool (((((S.turn == 2) && (canC S.castle S.turn 2)) && ((band (bnot B.empty) (bor (bor (bbSq 57) (bbSq 58)) (bbSq 59))) == 0)) && (!(attAny B S.turn 2 (fun i => if i = 0 then 58 else 59)))) && (!S.chk)))]) (fun _ w_ => Mod [] w373 w_) ?_ ?_
  ·have v553 : Mod [] w373 w373 := Mod.refl _ _
   refine w_tail1 28 27 [0, 1, 2, 3, 4, 5, 6, 7, 8, 9, 10, 11, 12, 13, 14, 15, 16, 17, 18, 19, 20, 21, 22, 23, 24, 25, 26] (by kernel_rfl) (by kernel_rfl) ?_
   refine zro 6 [rz 0 p, rz 3 b1, iz 4 ((((cl1 B S ++ cl2 B S ++ cl3 B S) : List Mv).length : Nat) : Int), (6, .bool (canC S.castle S.turn 2)), (167, .bool (S.turn == 2))] [.cell ⟨p, 5, none⟩ (.int .i8 S.turn)] (fun _ hC => At.cell (At.on hf541 hC) rfl) ?_
   cases hc554 : (S.turn == (2 : Int))
   ·refine zr 21 [rz 0 p, rz 3 b1, iz 4 ((((cl1 B S ++ cl2 B S ++ cl3 B S) : List Mv).length : Nat) : Int), (187, .bool false), (188, undef)] ?_
    refine re_end (by kernel_rfl) (fun a ha w555 v556 => (?_ : EReg _ _ _ _ _ _ 28 27 _ w555) a ha)
    have v561 := zt v553 v556
    refine e_skip (some 189) (by kernel_rfl) v556 ?_
    intro w563 v564
    have v569 := zt v561 v564
    refine zs 10 [rz 0 p, rz 3 b1, iz 4 ((((cl1 B S ++ cl2 B S ++ cl3 B S) : List Mv).length : Nat) : Int), (199, .bool false)] ?_
    refine ze ?_
    refine only_n ?_
    exact zb () v569
   refine zr 3 [rz 0 p, rz 3 b1, iz 4 ((((cl1 B S ++ cl2 B S ++ cl3 B S) : List Mv).length : Nat) : Int), (170, .bool (canC S.castle S.turn 2))] ?_
   cases hc571 : (canC S.castle S.turn (2 : Int))
   ·refine zr 18 [rz 0 p, rz 3 b1, iz 4 ((((cl1 B S ++ cl2 B S ++ cl3 B S) : List Mv).length : Nat) : Int), (187, .bool false), (188, undef)] ?_
    refine re_end (by kernel_rfl) (fun a ha w572 v573 => (?_ : EReg _ _ _ _ _ _ 28 27 _ w572) a ha)
    have v578 := zt v553 v573
    refine e_skip (some 189) (by kernel_rfl) v573 ?_
    intro w580 v581
    have v586 := zt v578 v581
    refine zs 10 [rz 0 p, rz 3 b1, iz 4 ((((cl1 B S ++ cl2 B S ++ cl3 B S) : List Mv).length : Nat) : Int), (199, .bool false)] ?_
    refine ze ?_
    refine only_n ?_
    exact zb () v586
   refine zro 8 [rz 0 p, rz 3 b1, iz 4 ((((cl1 B S ++ cl2 B S ++ cl3 B S) : List Mv).length : Nat) : Int), (170, .bool true), (178, .int .u64 (bnot B.empty))] [.cell ⟨p, 0, none⟩ (pz b), .cell ⟨b, 14, none⟩ (.int .u64 B.empty)] (fun _ hC => ⟨At.cell (At.on hf541 hC) rfl, At.cell (At.on hf542 hC) rfl⟩) ?_
   refine r_call 17 99 [.int .i8 57] (some 179) (.int .u64 (bbSq 57)) (by kernel_rfl) (by kernel_rfl) (fun w_ hC => c99 57 w_ (by omega) (by omega)) ?_
   refine r_call 18 99 [.int .i8 58] (some 180) (.int .u64 (bbSq 58)) (by kernel_rfl) (by kernel_rfl) (fun w_ hC => c99 58 w_ (by omega) (by omega)) ?_
   refine zr 1 [rz 0 p, rz 3 b1, iz 4 ((((cl1 B S ++ cl2 B S ++ cl3 B S) : List Mv).length : Nat) : Int), (170, .bool true), (178, .int .u64 (bnot B.empty)), (181, .int .u64 (bor (bbSq 57) (bbSq 58)))] ?_
   refine r_call 20 99 [.int .i8 59] (some 182) (.int .u64 (bbSq 59)) (by kernel_rfl) (by kernel_rfl) (fun w_ hC => c99 59 w_ (by omega) (by omega)) ?_
   refine zr 5 [rz 0 p, rz 3 b1, iz 4 ((((cl1 B S ++ cl2 B S ++ cl3 B S) : List Mv).length : Nat) : Int), (187, .bool ((band (bnot B.empty) (bor (bor (bbSq 57) (bbSq 58)) (bbSq 59))) == 0))] ?_
   cases hc588 : ((band (bnot B.empty) (bor (bor (bbSq (57 : Int)) (bbSq (58 : Int))) (bbSq (59 : Int)))) == (0 : Int))
   ·refine zr 1 [rz 0 p, rz 3 b1, iz 4 ((((cl1 B S ++ cl2 B S ++ cl3 B S) : List Mv).length : Nat) : Int), (187, .bool false), (188, undef)] ?_
    refine re_end (by kernel_rfl) (fun a ha w589 v590 => (?_ : EReg _ _ _ _ _ _ 28 27 _ w589) a ha)
    have v595 := zt v553 v590
    refine e_skip (some 189) (by kernel_rfl) v590 ?_
    intro w597 v598
    have v603 := zt v595 v598
    refine zs 10 [rz 0 p, rz 3 b1, iz 4 ((((cl1 B S ++ cl2 B S ++ cl3 B S) : List Mv).length : Nat) : Int), (199, .bool false)] ?_
    refine ze ?_
    refine only_n ?_
    exact zb () v603
   refine zr 1 [rz 0 p, rz 3 b1, iz 4 ((((cl1 B S ++ cl2 B S ++ cl3 B S) : List Mv).length : Nat) : Int), (187, .bool true), rz 188 p] ?_
   refine re_end (by kernel_rfl) (fun a ha w605 v606 => (?_ : EReg _ _ _ _ _ _ 28 27 _ w605) a ha)
   have hf607 := At.on hf541 v606
   have hf608 := At.on hf542 v606
   have z610 := Glob.on z543 v606
   have v611 := zt v553 v606
   have v612 := Mod.trans v550 (Mod.of_nil v606)
   refine e_bslice (#[.int .i8 58, .int .i8 59]) 87 2 (some 189) (by kernel_rfl) v606 ?_
   intro b613 w614 hn615
   have hb616 : c.base ≤ b613 := Glob.lt z610 hn615
   have hb617 := Nat.le_trans v611.size hn615.base
   have hb618 := Nat.le_trans v612.size hn615.base
   have v619 := hn615.mod
   have hf620 := At.on hf607 v619
   have hf621 := At.on hf608 v619
   have z623 := Glob.on z610 v619
   have v624 := zt v611 v619
   have hf626 := hn615.at_
   intro w627 v628
   have hf629 := At.on hf620 v628
   have hf630 := At.on hf621 v628
   have hf632 := At.on hf626 v628
   have z633 := Glob.on z623 v628
   have v634 := zt v624 v628
   refine reg_call 110 [pz p, .slice (some ⟨b613, 0, none⟩) 2 2] (some 190) (by kernel_rfl) (c110 (n := 2) (S := S) hf629 hf630 hf632 z633 (fun i => if i = 0 then 58 else 59) cells2 (fun i h => (by by_cases hi : i = 0 <;> simp [hi])) (by assumption) (by omega)) ?_
   rintro _ w636 ⟨rfl, v637⟩; refine ⟨_, rfl, ?_⟩
   have hf638 := At.on hf629 v637
   have v643 := zt v634 v637
   refine zs 3 [rz 0 p, rz 3 b1, iz 4 ((((cl1 B S ++ cl2 B S ++ cl3 B S) : List Mv).length : Nat) : Int), (193, .bool (!(attAny B S.turn 2 (fun i => if i = 0 then 58 else 59))))] ?_
   cases hc645 : (!(attAny B S.turn 2 (fun i => if i = 0 then (58 : Int) else (59 : Int))))
   ·refine zs 6 [rz 0 p, rz 3 b1, iz 4 ((((cl1 B S ++ cl2 B S ++ cl3 B S) : List Mv).length : Nat) : Int), (199, .bool false)] ?_
    refine ze ?_
    refine only_n ?_
    exact zb () v643
   refine zo 6 [rz 0 p, rz 3 b1, iz 4 ((((cl1 B S ++ cl2 B S ++ cl3 B S) : List Mv).length : Nat) : Int), (199, .bool (!S.chk))] [.cell ⟨p, 7, none⟩ (.bool S.chk)] (At.cell hf638 rfl) ?_
   refine ze ?_
   refine only_n ?_
   exact zb () v643
  intro _ w551 v552
  have hf646 := At.on hf541 v552
  have hf647 := At.on hf542 v552
  have hf648 := At.on hf375 v552
  have z649 := Glob.on z543 v552
  have v650 := zt v544 v552
  have v651 := Mod.trans v550 (Mod.of_nil v552)
  refine w_cond (b := (cc4 B S)) rfl (fun hc652 => ?_) (fun hc652 => ?_)
  ·refine zw ?_
   refine zs 1 [rz 0 p, rz 3 b1, iz 4 ((((cl1 B S ++ cl2 B S ++ cl3 B S) : List Mv).length : Nat) : Int), (200, .agg #[.pointer none, .pointer none, .string (⟨#[]⟩), .string (⟨#[]⟩), .map none, .slice none 0 0, .int .u64 0, .int .u16 0, .int .i8 60, .int .i8 58, .int .i8 0])] ?_
   refine reg_alloc (mvCells (.pointer none) (⟨0, 0, 0, 0⟩ : Mv)) 98 (some 10) (by kernel_rfl) ?_
   intro b653 w654 hn655
   have hb656 : c.base ≤ b653 := Glob.lt z649 hn655
   have hb657 := Nat.le_trans v650.size hn655.base
   have hb658 := Nat.le_trans v651.size hn655.base
   have v659 := hn655.mod
   have hf660 := At.on hf646 v659
   have hf661 := At.on hf647 v659
   have hf662 := At.on hf648 v659
   have z663 := Glob.on z649 v659
   have v665 := Mod.trans v651 (Mod.of_nil v659)
   have hf666 := hn655.at_
   refine reg_store b653 0 (.agg #[.pointer none, .pointer none, .string (⟨#[]⟩), .string (⟨#[]⟩), .map none, .slice none 0 0, .int .u64 0, .int .u16 0, .int .i8 60, .int .i8 58, .int .i8 0]) none (by kernel_rfl) hf666 (Nat.le_of_ble_eq_true rfl) rfl ?_
   intro w667 hu668
   have hf669 : At w667 b653 (.cells (mvCells (.pointer none) ⟨0, 60, 58, 0⟩) 98 (0, 0)) := hu668.at_
   have hf670 := At.keep hf660 hu668.mod (not_mem1 (At.ne hf660 hf666 rfl))
   have hf671 := At.keep hf661 hu668.mod (not_mem1 (At.ne hf661 hf666 rfl))
   have hf672 := At.keep hf662 hu668.mod (not_mem1 (At.ne hf662 hf666 rfl))
   have z673 := Glob.keep z663 hu668.mod (by simp <;> omega)
   have v675 := Mod.fresh' v665 hu668.mod (by simp <;> omega)
   refine zx ?_
   refine reg_call 136 [pz b653, .int .u16 2] (some 201) (by kernel_rfl) (c136 hf669 2) ?_
   rintro _ w676 ⟨rfl, v677, hf678⟩; refine ⟨_, rfl, ?_⟩
   have hf679 := At.keep hf670 v677 (not_mem1 (At.ne hf670 hf669 rfl))
   have hf680 := At.keep hf671 v677 (not_mem1 (At.ne hf671 hf669 rfl))
   have hf681 := At.keep hf672 v677 (not_mem1 (At.ne hf672 hf669 rfl))
   have z682 := Glob.keep z673 v677 (by simp <;> omega)
   have v684 := Mod.fresh' v675 v677 (by simp <;> omega)
   refine zx ?_
   refine zs 1 [rz 3 b1, iz 4 ((((cl1 B S ++ cl2 B S ++ cl3 B S) : List Mv).length : Nat) : Int), rz 10 b653, rz 202 p] ?_
   have hp685 : 1 ≤ pieceAt B 60 ∧ pieceAt B (60 : Int) ≤ 12 := hkB _ (cc4_turn hc652).1 (cc4_turn hc652).2
   refine reg_call 135 [pz b653, pz p] (some 203) (by kernel_rfl) (c135 (M := (⟨(orTag 0 2), 60, 58, 0⟩ : Mv)) hf679 hf680 hf678 z682 (show 0 ≤ (60 : Int) ∧ (60 : Int) ≤ 63 from (by omega)) (show 0 ≤ (58 : Int) ∧ (58 : Int) ≤ 63 from (by omega)) hp685 (pColor_or hp685) (fun h => absurd rfl h) (fun h => absurd rfl h) (by omega) (by assumption) (by assumption)) ?_
   rintro _ w686 ⟨rfl, v687, hf688⟩; refine ⟨_, rfl, ?_⟩
   have hf691 := At.keep hf681 v687 (not_mem1 (At.ne hf681 hf678 rfl))
   have v694 := Mod.fresh' v684 v687 (by simp <;> omega)
   refine zz ?_
   refine w_seq ?_
   have h695 : ((cl1 B S ++ cl2 B S ++ cl3 B S) : List Mv).length < 2 := by
    have ht := (cc4_turn hc652).1
    rw [cl1_nil (by omega), cl2_nil (by omega)]; exact Nat.lt_of_le_of_lt (by simpa using cl3_one) (by omega : 1 < 2)
   refine w_region ?_
   refine zv 3 [rz 3 b1, iz 4 ((((cl1 B S ++ cl2 B S ++ cl3 B S) : List Mv).length : Nat) : Int), (205, .agg (mvCells (.pointer none) ⟨(tg4 B S (⟨(orTag 0 2), 60, 58, 0⟩ : Mv)), 60, 58, 0⟩)), (206, .pointer (some ⟨b1, (0 + ((((cl1 B S ++ cl2 B S ++ cl3 B S) : List Mv).length : Nat) : Int).toNat * 11), none⟩))] [.row ⟨b653, 0, none⟩ 11 (mvCells (.pointer none) ⟨(tg4 B S (⟨(orTag 0 2), 60, 58, 0⟩ : Mv)), 60, 58, 0⟩), .prop (0 ≤ ((((cl1 B S ++ cl2 B S ++ cl3 B S) : List Mv).length : Nat) : Int) ∧ ((((cl1 B S ++ cl2 B S ++ cl3 B S) : List Mv).length : Nat) : Int) < ((2 : Nat) : Int))] [.agg (mvCells (.pointer none) ⟨(tg4 B S (⟨(orTag 0 2), 60, 58, 0⟩ : Mv)), 60, 58, 0⟩)] (⟨At.row hf688 rfl, (zh (by omega))⟩) ?_
   refine reg_store b1 (0 + ((((cl1 B S ++ cl2 B S ++ cl3 B S) : List Mv).length : Nat) : Int).toNat * 11) (.agg (mvCells (.pointer none) ⟨(tg4 B S (⟨(orTag 0 2), 60, 58, 0⟩ : Mv)), 60, 58, 0⟩)) none (by kernel_rfl) hf691 (by rw [(MvArrN.size hx376)]; show (0 + ((((cl1 B S ++ cl2 B S ++ cl3 B S) : List Mv).length : Nat) : Int).toNat * 11) + 11 ≤ 2 * 11; omega) rfl ?_
   intro w696 hu697
   have hf698 : At w696 b1 (.cells (storeRow A372 (0 + ((((cl1 B S ++ cl2 B S ++ cl3 B S) : List Mv).length : Nat) : Int).toNat * 11) (mvCells (.pointer none) ⟨(tg4 B S (⟨(orTag 0 2), 60, 58, 0⟩ : Mv)), 60, 58, 0⟩).toList) 181 (0, 0)) := hu697.at_
   have v704 := Mod.fresh' v694 hu697.mod (by simp <;> omega)
   have hx705 : MvArrN 2 (storeRow A372 (0 + ((((cl1 B S ++ cl2 B S ++ cl3 B S) : List Mv).length : Nat) : Int).toNat * 11) (mvCells (.pointer none) ⟨(tg4 B S (⟨(orTag 0 2), 60, 58, 0⟩ : Mv)), 60, 58, 0⟩).toList) ((cl1 B S ++ cl2 B S ++ cl3 B S) ++ [(⟨(tg4 B S (⟨(orTag 0 2), 60, 58, 0⟩ : Mv)), 60, 58, 0⟩ : Mv)]) := MvArrN.push hx376 h695 (by first | omega | rfl)
   refine zz ?_
   refine w_region ?_
   refine zs 3 [rz 3 b1, iz 4 (IntKind.i64.wrap (((((cl1 B S ++ cl2 B S ++ cl3 B S) : List Mv).length : Nat) : Int) + 1))] ?_
   refine ze ?_
   have he706 : ((cl1 B S ++ cl2 B S ++ cl3 B S) ++ [(⟨(tg4 B S (⟨(orTag 0 2), 60, 58, 0⟩ : Mv)), 60, 58, 0⟩ : Mv)]) = (castL B S) := by simp only [cl4, castL, hc652, cond_true, castM, List.nil_append, List.append_assoc]
   have hX707 : MvArrN 2 (storeRow A372 (0 + ((((cl1 B S ++ cl2 B S ++ cl3 B S) : List Mv).length : Nat) : Int).toNat * 11) (mvCells (.pointer none) ⟨(tg4 B S (⟨(orTag 0 2), 60, 58, 0⟩ : Mv)), 60, 58, 0⟩).toList) (castL B S) := he706 ▸ hx705
   obtain ⟨Aq708, hA709, hX707⟩ : ∃ A, At w696 b1 (.cells A 181 (0, 0)) ∧ MvArrN 2 A (castL B S) := ⟨_, hf698, hX707⟩
   
   rw [(show ((IntKind.i64.wrap (((((cl1 B S ++ cl2 B S ++ cl3 B S) : List Mv).length : Nat) : Int) + (1 : Int))) : Int) = ((((castL B S) : List Mv).length : Nat) : Int) from by rw [← he706, i64_in' (by omega) (by omega)]; simp only [List.length_append, List.length_cons, List.length_nil]; omega)]
   exact zb Aq708 ⟨v704, hA709, hX707⟩
  refine w_skip ?_
  have he710 : (cl1 B S ++ cl2 B S ++ cl3 B S) = (castL B S) := by simp only [cl4, castL, hc652, cond_false, List.append_nil]
  have hX711 : MvArrN 2 A372 (castL B S) := he710 ▸ hx376
  obtain ⟨Aq712, hA713, hX711⟩ : ∃ A, At w551 b1 (.cells A 181 (0, 0)) ∧ MvArrN 2 A (castL B S) := ⟨_, hf648, hX711⟩
  
  rw [(show (((((cl1 B S ++ cl2 B S ++ cl3 B S) : List Mv).length : Nat) : Int) : Int) = ((((castL B S) : List Mv).length : Nat) : Int) from by rw [← he710] <;> rfl)]
  exact zb Aq712 ⟨v651, hA713, hX711⟩
 rintro A545 w546 ⟨v547, hf548, hx549⟩
 have v717 := Mod.fresh' v544 v547 (by simp <;> omega)
 refine w_seq ?_
 have hfit := MvArrN.fits hx549
 refine w_region ?_
 refine zo 3 [(2, .slice (some ⟨b1, 0, none⟩) (((((castL B S) : List Mv).length : Nat) : Int).toNat) 2)] [.prop (0 ≤ ((((castL B S) : List Mv).length : Nat) : Int) ∧ ((((castL B S) : List Mv).length : Nat) : Int) ≤ ((2 : Nat) : Int))] (zh (by omega)) ?_
 refine zz ?_
 refine w_ret ?_
 exact ret1 rfl rfl (⟨b1, _, rfl, v717, hf548, hx549, by omega⟩)
theorem run_eqInt {P : Program} {t : TypeId} {k : IntKind} (d : Nat) (h : P.underlying t = some (.int k)) (a b : Int) (w : World) : (Op.equalIn (d + 1) t (.int k a) (.int k b)).run P w = .ok (a == b) w := by
 simp [Op.equalIn, runU h]
theorem run_part {P : Program} {t : TypeId} {cs : Array Value} {off : Nat} {v : Value} (h : isAggT P t = some false) (hv : cs[off]? = some v) (w : World) : (part t cs off).run P w = .ok v w := by
 simp [part, runAgg h, hv]
theorem run_eq30 (a b c a' b' c' : Int) (w : World) :
  (Op.equal 30 (.agg #[.int .i64 a, .int .i64 b, .int .i64 c]) (.agg #[.int .i64 a', .int .i64 b', .int .i64 c'])).run Tryz.prog w = .ok ((a == a') && ((b == b') && (c == c'))) w := by
 have e3 := fun a b => run_eqInt (P := Tryz.prog) (t := 3) (k := .i64) 9998 Tryz.underlying3 a b w
 have hs : Tryz.prog.stoodInHeld 30 = false := by kernel_rfl
 have hp : isAggT Tryz.prog 3 = some false := by unfold isAggT; rw [Tryz.underlying3]
 simp only [Op.equal, Op.maxDepth]
 rw [Op.equalIn]
 simp only [Sem.run_bind, runU Tryz.underlying30, Result.andThen_ok]
 simp [hs, run_part hp, e3]
 by_cases h1 : a = a' <;> by_cases h2 : b = b' <;> by_cases h3 : c = c' <;> simp [h1, h2, h3]
section
variable {n : Nat} {D : List Deferred} {ops : Array Oper} {Q : Exit → Act → World → Prop} {w : World} {L : List (Nat × Value)}
def eq30At (n : Nat) (ops : List Oper) (k : Nat) (L : List (Nat × Value)) : Option (Value × Value × Option Nat) :=
 match ops[k]? with
 | some o => match wantedL ops L o, dstOk o.dst n with
  | some true, true => match o.op with
   | .binOp .eql 30 x y _ => match evL L x, evL L y with
    | some u, some v => some (u, v, o.dst)
    | _, _ => none
   | _ => none
  | _, _ => none
 | none => none
theorem eq30At_spec {k : Nat} {dst : Option Nat} {a b c a' b' c' : Int} (h : eq30At n ops.toList k L = some (.agg #[.int .i64 a, .int .i64 b, .int .i64 c], .agg #[.int .i64 a', .int .i64 b', .int .i64 c'], dst)) {act : Act} (ha : Hold n L D act) :
  ∃ o, ops.toList[k]? = some o ∧ o.dst = dst ∧ dstOk dst n = true ∧ Region.wanted o (yielded ops act.tmps) = true ∧ ∀ w, (execOp act.eval o).run Tryz.prog w = .ok (.value (.bool ((a == a') && ((b == b') && (c == c'))))) w := by
 unfold eq30At at h
 split at h
 ·rename_i o ho
  split at h
  ·rename_i hw hd
   split at h
   ·rename_i x y yt hop
    split at h
    ·rename_i u v hu hv
     simp only [Option.some.injEq, Prod.mk.injEq] at h
     obtain ⟨rfl, rfl, rfl⟩ := h
     refine ⟨o, ho, rfl, hd, wantedL_spec ha hw, fun w => ?_⟩
     obtain ⟨dst, op, ty, pos, af, g'⟩ := o
     simp only at hop
     subst hop
     simp only [execOp, ha.agrees _ _ hu, ha.agrees _ _ hv]
     simp [binOp, eqGuard, run_eq30]
    cases h
   cases h
  cases h
 cases h
theorem reg_eq30 {k : Nat} (a b c a' b' c' : Int) (dst : Option Nat) (h : eq30At n ops.toList k L = some (.agg #[.int .i64 a, .int .i64 b, .int .i64 c], .agg #[.int .i64 a', .int .i64 b', .int .i64 c'], dst))
  (hk : Reg Tryz.prog n D ops Q (k + 1) (setD dst (.bool ((a == a') && ((b == b') && (c == c')))) L) w) : Reg Tryz.prog n D ops Q k L w := by
 intro act ha
 obtain ⟨o, ho, hdst, hd, hw, hr⟩ := eq30At_spec (ops := ops) h ha
 rw [drop_cons ho]
 simp only [wpList, hw, if_true]
 refine .inl ?_
 simp only [Oper.wp, hr, Oper.upon]
 rw [hdst]
 exact hk _ (ha.setD hd _)
theorem q_eq30 {C : World → Prop} {K : Act → Prop} {k : Nat} {l : List Oper} (a b c a' b' c' : Int) (dst : Option Nat) (h : eq30At n ops.toList k L = some (.agg #[.int .i64 a, .int .i64 b, .int .i64 c], .agg #[.int .i64 a', .int .i64 b', .int .i64 c'], dst)) (hl : l[k]? = ops.toList[k]?)
  (hk : QReg Tryz.prog n D ops C K (l.drop (k + 1)) (setD dst (.bool ((a == a') && ((b == b') && (c == c')))) L)) : QReg Tryz.prog n D ops C K (l.drop k) L := by
 intro act ha
 obtain ⟨o, ho, hdst, hd, hw, hr⟩ := eq30At_spec (ops := ops) h ha
 rw [drop_cons (hl.trans ho)]
 simp only [wpQuiet, hw, if_true]
 refine ⟨_, fun w' _ => ?_, by rw [hdst]; exact hk _ (ha.setD hd _)⟩
 simp only [Oper.quietAt, hr, Oper.quietUpon, and_self]
end
theorem own_off {w : World} {b0 size n cap p : Nat} {e t : TypeId} {ao : Option Addr} {xs : List Value} {cs : Array Value} (h : Own w b0 e size ao n cap xs) (hp : At w p (.cells cs t (0, 0))) (ht : (t == e) = false) : p ∉ blk ao := fun hx => Own.sep h hp ht p hx (by simp)
def allL (B : Bd) (S : Ps) : List Mv := stdL B S ++ castL B S
def mvAt (l : List Mv) (i : Nat) : Mv := l.getD i ⟨0, 0, 0, 0⟩
theorem mvsL_at : ∀ (l : List Mv) (i : Nat), i < l.length → ∀ j, j < 11 → (mvsL l)[0 + i * 11 + j]? = (mvCells (.pointer none) (mvAt l i))[j]?
 | m :: l, 0, _, j, hj => by
  simp only [mvsL, List.flatMap_cons, mvAt, List.getD_cons_zero]
  rw [List.getElem?_append_left (by simp [mvCells]; omega)]
  simp
 | m :: l, i + 1, h, j, hj => by
  have := mvsL_at l i (by simpa using h) j hj
  simp only [mvsL, List.flatMap_cons, mvAt, List.getD_cons_succ] at this ⊢
  rw [List.getElem?_append_right (by simp [mvCells]; omega)]
  rw [← this]; congr 1; simp [mvCells]; omega
theorem own_mv {w : World} {b0 n cap g : Nat} {l : List Mv} {i : Nat} (h : Own w b0 98 11 (some ⟨g, 0, none⟩) n cap (mvsL l)) (hi : i < l.length) : (Ob.row ⟨g, 0 + i * 11, none⟩ 11 (mvCells (.pointer none) (mvAt l i))).holds w := by
 refine ⟨rfl, fun j hj => ?_⟩
 have e : (Addr.add ⟨g, 0 + i * 11, none⟩ j) = ⟨g, 0 + i * 11 + j, none⟩ := by unfold Addr.add; split <;> simp_all
 rw [e, ← mvsL_at l i hi j hj]
 have hlen := mvsL_len l
 have hlt : 0 + i * 11 + j < (mvsL l).length := by rw [hlen]; omega
 rw [List.getElem?_eq_getElem hlt]
 exact h.cell (List.getElem?_eq_getElem hlt)
theorem mvAt_mem {l : List Mv} {i : Nat} (h : i < l.length) : mvAt l i ∈ l := by
 unfold mvAt; rw [List.getD_eq_getElem?_getD, List.getElem?_eq_getElem h]; exact List.getElem_mem h
structure MvPre (B : Bd) (S : Ps) : Prop where
 len : (stdL B S).length ≤ 218
 pc : ∀ p s : Int, (1 ≤ p ∧ p ≤ 12) → (0 ≤ s ∧ s ≤ 63) → (band (Bd.of B p) (bbSq s) == (0 : Int)) = false → 1 ≤ pieceAt B s ∧ pieceAt B s ≤ 12
 cs : S.castle.size ≤ 1000000
 kW : ∀ sd, S.turn = 1 → canC S.castle S.turn sd = true → 1 ≤ pieceAt B 4 ∧ pieceAt B 4 ≤ 12
 kB : ∀ sd, S.turn = 2 → canC S.castle S.turn sd = true → 1 ≤ pieceAt B 60 ∧ pieceAt B 60 ≤ 12
 kings : KingsOk B
 turn : S.turn = 1 ∨ S.turn = 2
 ep : -1 ≤ S.ep ∧ S.ep ≤ 63
theorem castL_le {B : Bd} {S : Ps} : (castL B S).length ≤ 4 := by
 have h1 := cl1_one (B := B) (S := S); have h2 := cl2_one (B := B) (S := S); have h3 := cl3_one (B := B) (S := S); have h4 := cl4_one (B := B) (S := S)
 unfold castL; simp only [List.length_append]; omega
def Cache (w : World) (vm : Value) (B : Bd) (S : Ps) : Prop := vm = .slice none 0 0 ∨ ∃ g cap, vm = .slice (some ⟨g, 0, none⟩) (allL B S).length cap ∧ Own w 0 98 11 (some ⟨g, 0, none⟩) (allL B S).length cap (mvsL (allL B S))
theorem Cache.on {w w' : World} {vm : Value} {B : Bd} {S : Ps} (h : Cache w vm B S) (m : Mod [] w w') : Cache w' vm B S := by
 rcases h with h | ⟨g, cap, h, ho⟩
 ·exact .inl h
 exact .inr ⟨g, cap, h, ho.on m⟩
theorem allL_len {B : Bd} {S : Ps} (h : MvPre B S) : (allL B S).length ≤ 222 := by
 have := h.len; have := castL_le (B := B) (S := S); unfold allL; simp only [List.length_append]; omega
def eqM (M : Mv) (a b c : Int) : Bool := (M.s1 == a) && ((M.s2 == b) && (M.promo == c))
structure MvOk (M : Mv) : Prop where
 s1 : 0 ≤ M.s1 ∧ M.s1 ≤ 63
 s2 : 0 ≤ M.s2 ∧ M.s2 ≤ 63
 promo : 0 ≤ M.promo ∧ M.promo ≤ 5
theorem c111 {c : GC} {p b : Nat} {vm : Value} {S : Ps} {w : World} (hp : At w p (.cells (psCells b vm S) 110 (0, 0))) {B : Bd} (hb : At w b (.cells (bdCells B) 135 (0, 0))) (hG : Glob c w) (hpre : MvPre B S) :
  Calls Tryz.prog 111 [.agg (#[]), pz p, .bool false].toArray w (fun e w' => ∃ g cap, e = .returned (.slice (some ⟨g, 0, none⟩) (allL B S).length cap) ∧ Mod [] w w' ∧ Own w' w.heap.size 98 11 (some ⟨g, 0, none⟩) (allL B S).length cap (mvsL (allL B S))) := by
 have v0 : Mod [] w w := Mod.refl _ _
 refine enter (n := 15) Tryz.func111 rfl Tryz.ntmps111 rfl ?_
 refine zw ?_
 refine reg_alloc (#[]) 146 (some 3) (by kernel_rfl) ?_
 intro b1 w2 hn3
 have hb4 : c.base ≤ b1 := Glob.lt hG hn3
 have hb5 := Nat.le_trans v0.size hn3.base
 have v6 := hn3.mod
 have u7 := At.on hp v6
 have u8 := At.on hb v6
 have z9 := Glob.on hG v6
 have v10 := zt v0 v6
 refine zs 1 [rz 1 p, (2, .bool false)] ?_
 refine zx ?_
 refine zs 2 [rz 1 p, rz 8 p, (9, .bool false)] ?_
 refine reg_call 122 [pz p, .bool false] (some 10) (by kernel_rfl) (c122f (S := S) u7 u8 z9 hpre.len hpre.pc hpre.kings hpre.turn hpre.ep) ?_
 rintro _ w12 ⟨b14, rfl, v13, ho15⟩; refine ⟨_, rfl, ?_⟩
 have hb16 := (Own.lt ho15 b14 (by simp [blk])).1
 have hb17 := Nat.le_trans v10.size hb16
 have hb18 := Nat.le_trans (Glob.size z9) hb16
 replace ho15 := Own.fresh (b1 := w.heap.size) ho15 (by omega)
 have u19 := At.on u7 v13
 have u20 := At.on u8 v13
 have z22 := Glob.on z9 v13
 have v23 := zt v10 v13
 refine zs 1 [rz 1 p, (7, .slice (some ⟨b14, 0, none⟩) ((stdL B S).length) ((stdL B S).length))] ?_
 refine zx ?_
 refine zs 2 [(11, .slice (some ⟨b14, 0, none⟩) ((stdL B S).length) ((stdL B S).length)), rz 12 p] ?_
 refine reg_call 123 [pz p] (some 13) (by kernel_rfl) (c123 (S := S) u19 u20 z22 hpre.cs hpre.kW hpre.kB hpre.kings hpre.turn) ?_
 rintro _ w24 ⟨b26, A27, rfl, v25, u28, hx29, hb30⟩; refine ⟨_, rfl, ?_⟩
 have ho34 := Own.on ho15 v25
 have v36 := zt v23 v25
 have hz37 := Mod.size v36
 refine reg_append (some ⟨b14, 0, none⟩) ((stdL B S).length) ((stdL B S).length) ⟨b26, 0, none⟩ ((castL B S).length) 2 98 (some 14) 11 96 (b0 := w.heap.size) (xs := (mvsL (stdL B S))) (news := (mvsL (castL B S))) (by kernel_rfl) ho34 (by decide) (mvsL_len _) (MvArrN.cells hx29 u28) (oneCells_mem (oneCells_mvs _)) (by have := hpre.len; have := castL_le (B := B) (S := S); omega) (by omega) ?_
 intro ao38 cap39 w40 ho41 v42 hne43
 have v48 := Mod.fresh' v36 v42 (fun x hx => Or.inr (by have := (Own.lt ho34 x hx).1; omega))
 obtain ⟨g49, rfl, hb50⟩ := Own.get ho41 (hne43 (by simp))
 replace ho41 := Own.fresh (b1 := w.heap.size) ho41 (by omega)
 refine zs 1 [(6, .slice (some ⟨g49, 0, none⟩) ((stdL B S).length + (castL B S).length) cap39)] ?_
 refine zz ?_
 refine w_ret ?_
 exact ret1 rfl rfl (⟨g49, cap39, by simp only [allL, List.length_append], v48, Own.cast ho41 (by simp only [allL, List.length_append]) (by simp only [allL, mvsL_append])⟩)
theorem c93n {c : GC} {p b : Nat} {S : Ps} {w : World} (hp : At w p (.cells (psCells b (.slice none 0 0) S) 110 (0, 0))) {B : Bd} (hb : At w b (.cells (bdCells B) 135 (0, 0))) (hG : Glob c w) (hpre : MvPre B S) (hbase : c.base ≤ p) :
  Calls Tryz.prog 93 [.pointer (some ⟨p, 0, none⟩)].toArray w (fun e w' => ∃ vm' ao cap', e = .returned (.slice ao (allL B S).length cap') ∧ Mod [p] w w' ∧ At w' p (.cells (psCells b vm' S) 110 (0, 0)) ∧ Cache w' vm' B S ∧ Own w' w.heap.size 98 11 ao (allL B S).length cap' (mvsL (allL B S))) := by
 have v0 : Mod [p] w w := Mod.refl _ _
 refine enter (n := 24) Tryz.func93 rfl Tryz.ntmps93 rfl ?_
 refine zw ?_
 refine zs 1 [rz 0 p] ?_
 refine zz ?_
 refine w_seq ?_
 refine zw ?_
 refine zo 5 [rz 0 p, (7, .bool false)] [.cell ⟨p, 2, none⟩ (.slice none 0 0)] (At.cell hp rfl) ?_
 refine zz ?_
 refine w_false rfl ?_
 refine w_skip ?_
 refine zn ?_
 refine zs 3 [rz 0 p, rz 13 p, (14, .agg #[]), rz 15 p] ?_
 refine reg_call 111 [.agg #[], pz p, .bool false] (some 16) (by kernel_rfl) (c111 (S := S) hp hb hG hpre) ?_
 rintro _ w1 ⟨b3, cap4, rfl, v2, ho5⟩; refine ⟨_, rfl, ?_⟩
 replace ho5 := Own.fresh (b1 := 0) ho5 (by omega)
 have u6 := At.on hp v2
 have v9 := Mod.trans v0 (Mod.of_nil v2)
 refine zs 2 [rz 0 p, (16, .slice (some ⟨b3, 0, none⟩) ((allL B S).length) cap4), (18, .pointer (some ⟨p, 2, none⟩))] ?_
 refine reg_store p 2 (.slice (some ⟨b3, 0, none⟩) ((allL B S).length) cap4) none (by kernel_rfl) u6 (Nat.le_of_ble_eq_true rfl) rfl ?_
 intro w10 hu11
 have u12 : At w10 p (.cells (psCells b (.slice (some ⟨b3, 0, none⟩) ((allL B S).length) cap4) S) 110 (0, 0)) := hu11.at_
 have ho14 := Own.keep ho5 hu11.mod (Own.sep ho5 u6 rfl)
 have v16 := Mod.fresh' v9 hu11.mod (by simp <;> omega)
 refine zx ?_
 refine zo 4 [(22, .slice (some ⟨b3, 0, none⟩) ((allL B S).length) cap4)] [.cell ⟨p, 2, none⟩ (.slice (some ⟨b3, 0, none⟩) ((allL B S).length) cap4)] (At.cell u12 rfl) ?_
 have hz17 := Mod.size v16
 refine reg_append none 0 0 ⟨b3, 0, none⟩ ((allL B S).length) cap4 98 (some 23) 11 96 (b0 := w.heap.size) (xs := []) (news := (mvsL (allL B S))) (by kernel_rfl) (Own.nil _ _ _ _) (by decide) (mvsL_len _) (Own.cells' ho14) (oneCells_mem (oneCells_mvs _)) (by have := allL_len hpre; omega) (by omega) ?_
 intro ao18 cap19 w20 ho21 v22 hne23
 have u25 := At.on u12 v22
 have ho26 := Own.on ho14 v22
 have v28 := Mod.trans v16 (Mod.of_nil v22)
 refine zs 1 [(2, .slice ao18 (0 + (allL B S).length) cap19)] ?_
 refine zz ?_
 refine w_ret ?_
 exact ret1 rfl rfl (⟨_, ao18, cap19, by rw [Nat.zero_add], v28, u25, .inr ⟨_, _, rfl, ho26⟩, Own.cast ho21 (Nat.zero_add _) (List.nil_append _)⟩)
theorem c93c {c : GC} {p b g cap : Nat} {S : Ps} {B : Bd} {w : World} (hp : At w p (.cells (psCells b (.slice (some ⟨g, 0, none⟩) (allL B S).length cap) S) 110 (0, 0))) (hc : Own w 0 98 11 (some ⟨g, 0, none⟩) (allL B S).length cap (mvsL (allL B S))) (hG : Glob c w) (hpre : MvPre B S) :
  Calls Tryz.prog 93 [.pointer (some ⟨p, 0, none⟩)].toArray w (fun e w' => ∃ vm' ao cap', e = .returned (.slice ao (allL B S).length cap') ∧ Mod [p] w w' ∧ At w' p (.cells (psCells b vm' S) 110 (0, 0)) ∧ Cache w' vm' B S ∧ Own w' w.heap.size 98 11 ao (allL B S).length cap' (mvsL (allL B S))) := by
 have v0 : Mod [p] w w := Mod.refl _ _
 refine enter (n := 24) Tryz.func93 rfl Tryz.ntmps93 rfl ?_
 refine zw ?_
 refine zs 1 [rz 0 p] ?_
 refine zz ?_
 refine w_seq ?_
 refine zw ?_
 refine zo 5 [rz 0 p, (7, .bool true)] [.cell ⟨p, 2, none⟩ (.slice (some ⟨g, 0, none⟩) ((allL B S).length) cap)] (At.cell hp rfl) ?_
 refine zz ?_
 refine w_true rfl ?_
 refine zw ?_
 refine zo 4 [(11, .slice (some ⟨g, 0, none⟩) ((allL B S).length) cap)] [.cell ⟨p, 2, none⟩ (.slice (some ⟨g, 0, none⟩) ((allL B S).length) cap)] (At.cell hp rfl) ?_
 have hz1 := Mod.size v0
 refine reg_append none 0 0 ⟨g, 0, none⟩ ((allL B S).length) cap 98 (some 12) 11 96 (b0 := w.heap.size) (xs := []) (news := (mvsL (allL B S))) (by kernel_rfl) (Own.nil _ _ _ _) (by decide) (mvsL_len _) (Own.cells' hc) (oneCells_mem (oneCells_mvs _)) (by have := allL_len hpre; omega) (by omega) ?_
 intro ao2 cap3 w4 ho5 v6 hne7
 have u8 := At.on hp v6
 have ho9 := Own.on hc v6
 have v11 := Mod.trans v0 (Mod.of_nil v6)
 refine zs 1 [(2, .slice ao2 (0 + (allL B S).length) cap3)] ?_
 refine zz ?_
 refine w_ret ?_
 refine r_then ?_
 exact ret1 rfl rfl (⟨_, ao2, cap3, by rw [Nat.zero_add], v11, u8, .inr ⟨_, _, rfl, ho9⟩, Own.cast ho5 (Nat.zero_add _) (List.nil_append _)⟩)
theorem c93 {c : GC} {p b : Nat} {vm : Value} {S : Ps} {w : World} (hp : At w p (.cells (psCells b vm S) 110 (0, 0))) {B : Bd} (hb : At w b (.cells (bdCells B) 135 (0, 0))) (hG : Glob c w) (hpre : MvPre B S) (hbase : c.base ≤ p) (hca : Cache w vm B S) :
  Calls Tryz.prog 93 [pz p].toArray w (fun e w' => ∃ vm' ao cap', e = .returned (.slice ao (allL B S).length cap') ∧ Mod [p] w w' ∧ At w' p (.cells (psCells b vm' S) 110 (0, 0)) ∧ Cache w' vm' B S ∧ Own w' w.heap.size 98 11 ao (allL B S).length cap' (mvsL (allL B S))) := by
 rcases hca with rfl | ⟨g, cap, rfl, ho⟩
 ·exact c93n hp hb hG hpre hbase
 exact c93c hp ho hG hpre
theorem c31 {m : Nat} {pos : Value} {M : Mv} {w : World} (hm : At w m (.cells (mvCells pos M) 98 (0, 0))) (hr : MvOk M) :
  Calls Tryz.prog 31 [pz m].toArray w (fun e w' => e = .returned (.agg #[.int .i64 M.s1, .int .i64 M.s2, .int .i64 M.promo]) ∧ Mod [] w w') := by
 have v0 : Mod [] w w := Mod.refl _ _
 refine enter (n := 13) Tryz.func31 rfl Tryz.ntmps31 rfl ?_
 refine zw ?_
 refine reg_alloc (#[.int .i64 0, .int .i64 0, .int .i64 0]) 30 (some 2) (by kernel_rfl) ?_
 intro b1 w2 hn3
 have hb4 := Nat.le_trans v0.size hn3.base
 have v5 := hn3.mod
 have u6 := At.on hm v5
 have v7 := zt v0 v5
 have u8 := hn3.at_
 refine zx ?_
 refine zs 1 [rz 0 m, rz 2 b1, rz 3 m] ?_
 refine zk (some 4) (c58 u6 ) ?_
 intro w9 v10
 have u11 := At.on u6 v10
 have u12 := At.on u8 v10
 have v13 := zt v7 v10
 refine zs 2 [rz 0 m, rz 2 b1, iz 5 (IntKind.i64.wrap M.s1), rz 6 m] ?_
 refine zk (some 7) (c59 u11 ) ?_
 intro w14 v15
 have u16 := At.on u11 v15
 have u17 := At.on u12 v15
 have v18 := zt v13 v15
 refine zs 2 [rz 2 b1, iz 5 (IntKind.i64.wrap M.s1), iz 8 (IntKind.i64.wrap M.s2), rz 9 m] ?_
 refine zk (some 10) (c60 u16 ) ?_
 intro w19 v20
 have u22 := At.on u17 v20
 have v23 := zt v18 v20
 refine zs 1 [rz 2 b1, iz 5 (IntKind.i64.wrap M.s1), iz 8 (IntKind.i64.wrap M.s2), iz 11 (IntKind.i64.wrap M.promo)] ?_
 rw [(show ((IntKind.i64.wrap M.s1) : Int) = M.s1 from (by have := hr.s1; exact i64_in' (by omega) (by omega)))]
 rw [(show ((IntKind.i64.wrap M.s2) : Int) = M.s2 from (by have := hr.s2; exact i64_in' (by omega) (by omega)))]
 rw [(show ((IntKind.i64.wrap M.promo) : Int) = M.promo from (by have := hr.promo; exact i64_in' (by omega) (by omega)))]
 refine zs 1 [rz 2 b1, (12, .agg #[.int .i64 M.s1, .int .i64 M.s2, .int .i64 M.promo])] ?_
 refine reg_store b1 0 (.agg #[.int .i64 M.s1, .int .i64 M.s2, .int .i64 M.promo]) none (by kernel_rfl) u22 (Nat.le_of_ble_eq_true rfl) rfl ?_
 intro w24 hu25
 have u26 : At w24 b1 (.cells (#[.int .i64 M.s1, .int .i64 M.s2, .int .i64 M.promo]) 30 (0, 0)) := hu25.at_
 have v28 := Mod.fresh' v23 hu25.mod (by simp <;> omega)
 refine zz ?_
 refine w_ret ?_
 exact retc Tryz.results31 rfl (by kernel_rfl) (by kernel_rfl) (At.row u26 rfl) (⟨rfl, v28⟩)
theorem c57 {c : GC} {p b : Nat} {vm : Value} {S : Ps} {w : World} (hp : At w p (.cells (psCells b vm S) 110 (0, 0))) {B : Bd} (hb : At w b (.cells (bdCells B) 135 (0, 0))) (hG : Glob c w) (hpre : MvPre B S) (hbase : c.base ≤ p) (hca : Cache w vm B S) (x y z : Int) (hex : ∃ i, i < (allL B S).length ∧ eqM (mvAt (allL B S) i) x y z = true) (hr : ∀ M ∈ allL B S, MvOk M) :
  Calls Tryz.prog 57 [.pointer (some ⟨p, 0, none⟩), .agg #[.int .i64 x, .int .i64 y, .int .i64 z]].toArray w (fun e w' => ∃ q M vm', e = .returned (.pointer (some ⟨q, 0, none⟩)) ∧ Mod [p] w w' ∧ At w' p (.cells (psCells b vm' S) 110 (0, 0)) ∧ Cache w' vm' B S ∧ At w' q (.cells (mvCells (.pointer none) M) 98 (0, 0)) ∧ w.heap.size ≤ q ∧ M ∈ allL B S ∧ eqM M x y z = true) := by
 have v0 : Mod [p] w w := Mod.refl _ _
 have hpos : 0 < (allL B S).length := by obtain ⟨i, hi, _⟩ := hex; omega
 have hlen := allL_len hpre
 refine enter (n := 18) Tryz.func57 rfl Tryz.ntmps57 rfl ?_
 refine zw ?_
 refine reg_alloc (#[.int .i64 x, .int .i64 y, .int .i64 z]) 30 (some 3) (by kernel_rfl) ?_
 intro b1 w2 hn3
 have hb4 : c.base ≤ b1 := Glob.lt hG hn3
 have hb5 := Nat.le_trans v0.size hn3.base
 have v6 := hn3.mod
 have u7 := At.on hp v6
 have u8 := At.on hb v6
 have he9 := Cache.on hca v6
 have z10 := Glob.on hG v6
 have v11 := Mod.trans v0 (Mod.of_nil v6)
 have u12 := hn3.at_
 refine zs 1 [rz 0 p, rz 3 b1] ?_
 refine zz ?_
 refine w_seq ?_
 refine zw ?_
 refine zs 1 [rz 3 b1, rz 7 p] ?_
 refine reg_call 93 [pz p] (some 8) (by kernel_rfl) (c93 (S := S) u7 u8 z10 hpre hbase he9) ?_
 rintro _ w13 ⟨vm15, ao16, cap17, rfl, v14, u18, hca19, ho20⟩; refine ⟨_, rfl, ?_⟩
 have u22 := At.keep u12 v14 (not_mem1 (At.ne u12 u7 rfl))
 have z23 := Glob.keep z10 v14 (by simp <;> omega)
 have v24 := Mod.fresh' v11 v14 (by simp <;> omega)
 have v25 : Mod [] w13 w13 := Mod.refl _ _
 obtain ⟨g26, cur27, rfl, hb28, u29, ht30, hn31, hs32⟩ := Own.some ho20 hpos
 refine zs 2 [rz 3 b1, (8, .slice (some ⟨g26, 0, none⟩) ((allL B S).length) cap17), iz 9 (((allL B S).length : Nat) : Int), iz 10 0] ?_
 refine zz ?_
 refine w_block ?_
 refine w_loop (γ := Int) (fun g33 => (((allL B S).length : Int) - g33).toNat) (fun (g33 : Int) => [(3, pz b1), (8, .slice (some ⟨g26, 0, none⟩) ((allL B S).length) cap17), (9, .int .i64 (((allL B S).length : Nat) : Int)), (10, .int .i64 g33)]) (fun (g33 : Int) w_ => (0 ≤ g33 ∧ g33 ≤ ((allL B S).length : Int)) ∧ Mod [] w13 w_ ∧ (∀ i : Int, 0 ≤ i → i < g33 → eqM (mvAt (allL B S) i.toNat) x y z = false)) 0 (hold_keep [3, 8, 9, 10] (by kernel_rfl)) ⟨by constructor <;> (try simp only []) <;> omega, Mod.refl _ _, (fun i h0 h1 => absurd h1 (by omega))⟩ ?_
 rintro g33 w34 ⟨⟨h36, h37⟩, v35, hx38⟩
 have u40 := At.on u22 v35
 have u41 := At.on u18 v35
 have z42 := Glob.on z23 v35
 have v43 := Mod.trans v24 (Mod.of_nil v35)
 have v44 := zt v25 v35
 refine zw ?_
 refine zs 1 [rz 3 b1, (8, .slice (some ⟨g26, 0, none⟩) ((allL B S).length) cap17), iz 9 (((allL B S).length : Nat) : Int), iz 10 g33, (11, .bool (decide (g33 < (((allL B S).length : Nat) : Int))))] ?_
 refine zz ?_
 refine w_seq ?_
 refine zc (fun hc45 => ?_) fun hc45 => ?_
 ·have y45 := of_decide_eq_true hc45
  refine w_skip ?_
  refine n_then ?_
  refine w_seq ?_
  refine w_block ?_
  refine zw ?_
  refine zv 2 [rz 3 b1, (8, .slice (some ⟨g26, 0, none⟩) ((allL B S).length) cap17), iz 9 (((allL B S).length : Nat) : Int), iz 10 g33, (13, .agg (mvCells (.pointer none) (mvAt (allL B S) g33.toNat)))] [.prop (0 ≤ g33 ∧ g33 < (((allL B S).length : Nat) : Int)), .row ⟨g26, (0 + g33.toNat * 11), none⟩ 11 (mvCells (.pointer none) (mvAt (allL B S) g33.toNat))] [.agg (mvCells (.pointer none) (mvAt (allL B S) g33.toNat))] (⟨(zh (by omega)), (own_mv (Own.on ho20 v44) (by omega))⟩) ?_
  refine reg_alloc (mvCells (.pointer none) (⟨0, 0, 0, 0⟩ : Mv)) 98 (some 6) (by kernel_rfl) ?_
  intro b46 w47 hn48
  have hb49 : c.base ≤ b46 := Glob.lt z42 hn48
  have hb50 := Nat.le_trans v43.size hn48.base
  have hb51 := Nat.le_trans v44.size hn48.base
  have hb52 := Nat.le_trans v35.size hn48.base
  have v53 := hn48.mod
  have u55 := At.on u40 v53
  have u56 := At.on u41 v53
  have v58 := Mod.trans v43 (Mod.of_nil v53)
  have v59 := zt v44 v53
  have v60 := zt v35 v53
  have u61 := hn48.at_
  refine reg_store b46 0 (.agg (mvCells (.pointer none) (mvAt (allL B S) g33.toNat))) none (by kernel_rfl) u61 (Nat.le_of_ble_eq_true rfl) rfl ?_
  intro w62 hu63
  have u64 : At w62 b46 (.cells (mvCells (.pointer none) (mvAt (allL B S) g33.toNat)) 98 (0, 0)) := hu63.at_
  have u66 := At.keep u55 hu63.mod (not_mem1 (At.ne u55 u61 rfl))
  have u67 := At.keep u56 hu63.mod (not_mem1 (At.ne u56 u61 rfl))
  have v69 := Mod.fresh' v58 hu63.mod (by simp <;> omega)
  have v70 := Mod.fresh' v59 hu63.mod (by simp <;> omega)
  have v71 := Mod.fresh' v60 hu63.mod (by simp <;> omega)
  refine zz ?_
  refine w_seq ?_
  have hmem := mvAt_mem (l := allL B S) (i := g33.toNat) (by omega)
  have hok := hr _ hmem
  refine w_quiet (by kernel_rfl) (by kernel_rfl) ?_
  refine zqk (some 14) (fun w_ hC => c31 (M := (mvAt (allL B S) g33.toNat)) (At.on u64 hC) hok) ?_
  refine zqv 1 [rz 3 b1, rz 6 b46, (8, .slice (some ⟨g26, 0, none⟩) ((allL B S).length) cap17), iz 9 (((allL B S).length : Nat) : Int), iz 10 g33, (14, .agg #[.int .i64 ((mvAt (allL B S) g33.toNat).s1), .int .i64 ((mvAt (allL B S) g33.toNat).s2), .int .i64 ((mvAt (allL B S) g33.toNat).promo)]), (15, .agg (#[.int .i64 x, .int .i64 y, .int .i64 z]))] [.row ⟨b1, 0, none⟩ 3 (#[.int .i64 x, .int .i64 y, .int .i64 z])] [.agg (#[.int .i64 x, .int .i64 y, .int .i64 z])] (fun _ hC => At.row (At.on u66 hC) rfl) ?_
  refine q_eq30 ((mvAt (allL B S) g33.toNat).s1) ((mvAt (allL B S) g33.toNat).s2) ((mvAt (allL B S) g33.toNat).promo) x y z (some 16) (by kernel_rfl) (by kernel_rfl) ?_
  refine q_out (by kernel_rfl) ?_
  intro w72 v73
  have u76 := At.on u67 v73
  have u77 := At.on u64 v73
  have v79 := Mod.trans v69 (Mod.of_nil v73)
  have v80 := zt v70 v73
  have v81 := zt v71 v73
  refine n_then ?_
  refine zc (fun hc82 => ?_) fun hc82 => ?_
  ·refine zw ?_
   refine zs 1 [rz 4 b46] ?_
   refine zz ?_
   refine w_ret ?_
   refine r_block ?_
   refine r_then ?_
   refine r_then ?_
   refine r_block ?_
   refine r_then ?_
   exact ret1 rfl rfl (⟨b46, mvAt (allL B S) g33.toNat, _, rfl, v79, u76, Cache.on hca19 v80, u77, by omega, hmem, hc82⟩)
  refine w_skip ?_
  refine n_block ?_
  refine n_then ?_
  refine w_region ?_
  refine zs 2 [rz 3 b1, (8, .slice (some ⟨g26, 0, none⟩) ((allL B S).length) cap17), iz 9 (((allL B S).length : Nat) : Int), iz 10 (IntKind.i64.wrap (g33 + 1))] ?_
  refine ze ?_
  rw [zi (g33 + 1) (by omega) (by omega)]
  exact l_back (g33 + 1) [3, 8, 9, 10] (by kernel_rfl) (by omega) ⟨by constructor <;> (try simp only []) <;> omega, v81, (forall_step hx38 hc82)⟩
 have y45 := of_decide_eq_false hc45
 refine w_exit ?_
 refine x_then ?_
 refine x_then ?_
 refine x_hit ?_
 refine zn ?_
 refine zs 1 [(4, .pointer none)] ?_
 refine zz ?_
 refine w_ret ?_
 exact ret1 rfl rfl (by obtain ⟨i, hi, he⟩ := hex; have := hx38 (i : Int) (by omega) (by omega); rw [show ((i : Int)).toNat = i from rfl, he] at this; cases this)
end Go.Proofs.YtgnhellfhjoaaaaGreatDoor
