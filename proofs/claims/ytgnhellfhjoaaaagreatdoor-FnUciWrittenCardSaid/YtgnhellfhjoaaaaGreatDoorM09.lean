/-
  FnUciWritten: in every right position each legal move is written by the rules of the universal chess interface as the definition writes it, and what is written is read as the move (a part of the proof).
  Conditions: those of each theorem.
-/
import Derived.Test.YtgnhellfhjoaaaaGreatDoorM04
import Derived.Test.YtgnhellfhjoaaaaGreatDoorM08
import Derived.Test.YtgnhellfhjoaaaaGreatDoorRows
import Derived.ProofKit
import Derived.OpenShut
import Derived.Carry
import Derived.Test.YtgnhellfhjoaaaaGreatDoorTie
import Derived.Test.YtgnhellfhjoaaaaGreatDoorCards
import Derived.LaidMore
import Derived.Lay
import Derived.SevenTiedAt
import Derived.Stop.Joined
set_option linter.unusedVariables false
set_option linter.unusedSimpArgs false
namespace Go.Proofs.YtgnhellfhjoaaaaGreatDoor
open Go Go.RowKit Go.ChangeShapes Go.WideShapes Go.ChangeAt
set_option maxRecDepth 100000
theorem tab_cells {W : World} {nm : String} {g t e n fuel : Nat} {k : IntKind} {zs : List Int} {cs : Array Value} {p : List MemPlace} (ht : Tryz.prog.underlying t = some (.array n e)) (he : Tryz.prog.underlying e = some (.int k))
  (hc : Tryz.prog.cellsOf e = 1) (hz : zs.length = n) (hg : Tryz.prog.globalNamed nm = some g) (hv : W.var? Tryz.prog nm = some cs)
  (hd : DataW.trod (fun _ => ()) Tryz.prog W 0 (fun _ => true) false fuel t cs.toList = some (.agg (zs.map fun n => .lit (.int k n)), p)) : ∀ r, r < n → W.cell? ⟨g, r, none⟩ = some (.int k (zs.getD r 0)) := by
 intro r hr
 obtain ⟨xs, m, _, ex, _, hl, hel⟩ := DataW.trod_array ht hd
 have hE := hel r hr
 rw [hc, Nat.mul_one, List.getElem?_eq_getElem (by omega)] at hE
 obtain ⟨z, e1, e2, _⟩ := DataW.trod_int he hE
 have e3 : (xs.map (·.1)) = zs.map fun n => .lit (.int k n) := (DataW.agg.inj (Prod.mk.inj ex).1).symm
 have e4 : (xs.map (·.1))[r]? = (zs.map fun n => (DataW.lit (.int k n) : DataW Unit))[r]? := by rw [e3]
 rw [List.getElem?_map, List.getElem?_map, List.getElem?_eq_getElem (by omega : r < xs.length), List.getElem?_eq_getElem (by omega : r < zs.length), e2] at e4
 have hz : z = zs.getD r 0 := by
  simp only [Option.map_some, Option.some.injEq, DataW.lit.injEq, Lit.int.injEq, true_and] at e4
  rw [e4, List.getD, List.getElem?_eq_getElem (by omega : r < zs.length)]; rfl
 rw [World.var?_cell hg hv r, ← hz]
 have : cs.toList[r]? = some (.int k z) := by
  have h0 : ((cs.toList.drop r).take 1)[0]? = some (.int k z) := by rw [e1]; rfl
  simpa using h0
 simpa using this
theorem cell_lt {W : World} {b o : Nat} {v : Value} (h : W.cell? ⟨b, o, none⟩ = some v) : b < W.heap.size := by
 refine Classical.byContradiction fun hh => ?_
 have : W.heap[b]? = none := by rw [Array.getElem?_eq_none (by omega)]
 simp [World.cell?, this] at h
theorem lits_inj {k : IntKind} : ∀ {a b : List Int}, (a.map fun n => (DataW.lit (.int k n) : DataW Unit)) = (b.map fun n => .lit (.int k n)) → a = b
 | [], [], _ => rfl
 | [], _ :: _, h => by cases h
 | _ :: _, [], h => by cases h
 | x :: a, y :: b, h => by
  simp only [List.map_cons, List.cons.injEq, DataW.lit.injEq, Lit.int.injEq, true_and] at h
  rw [h.1, lits_inj h.2]
theorem sl_cells {W : World} {nm : String} {g t e n fuel : Nat} {k : IntKind} {zs : List Int} {cs : Array Value} {p : List MemPlace} (ht : Tryz.prog.underlying t = some (.slice e)) (he : Tryz.prog.underlying e = some (.int k))
  (hc : Tryz.prog.cellsOf e = 1) (hz : zs.length = n) (hn : 0 < n) (hg : Tryz.prog.globalNamed nm = some g) (hv : W.var? Tryz.prog nm = some cs)
  (hd : DataW.trod (fun _ => ()) Tryz.prog W 0 (fun _ => true) false fuel t cs.toList = some (.slice (zs.map fun n => .lit (.int k n)) [], p)) :
  ∃ b o, W.cell? ⟨g, 0, none⟩ = some (.slice (some ⟨b, o, none⟩) n n) ∧ b < W.heap.size ∧ ∀ r, r < n → W.cell? ⟨b, o + r, none⟩ = some (.int k (zs.getD r 0)) := by
 rcases open_ints ht he hc hd with ⟨_, hx⟩ | ⟨a, len, cap, ys, hcs, _, hle, _, hlen, hx, hcell, _⟩
 ·simp at hx
 simp only [if_true] at hlen
 have h1 := DataW.slice.inj (Prod.mk.inj hx).1
 have h3 : ys.drop len = [] := by have := h1.2; unfold lits at this; simpa using this.symm
 have h4 : cap ≤ len := by have := congrArg List.length h3; simp at this; omega
 have h5 : ys.take len = ys := List.take_of_length_le (by omega)
 have h2 : zs = ys := by
  have := h1.1; unfold lits at this; rw [h5] at this
  exact lits_inj this
 subst h2
 obtain ⟨b, o, rfl, hc2⟩ := _root_.Go.ints_at hcell (by omega)
 have e1 : len = n := by omega
 have e2 : cap = n := by omega
 subst e1
 refine ⟨b, o, ?_, cell_lt (hc2 0 (by omega)), fun r hr => hc2 r (by omega)⟩
 rw [World.var?_cell hg hv 0]
 have : cs.toList[0]? = some (.slice (some ⟨b, o, none⟩) len cap) := by rw [hcs]; rfl
 rw [e2] at this
 simpa using this
theorem tabs_eq : (Rows.laid_pub_fianchetto_pub_chess_bbFiles : DataW Unit) = .agg (fileTab.map fun n => .lit (.int .u64 n)) ∧ (Rows.laid_pub_fianchetto_pub_chess_bbRanks : DataW Unit) = .agg (rankTab.map fun n => .lit (.int .u64 n)) ∧
  (Rows.laid_pub_fianchetto_pub_chess_bbDiagonals : DataW Unit) = .agg (diagTab.map fun n => .lit (.int .u64 n)) ∧ (Rows.laid_pub_fianchetto_pub_chess_bbAntiDiagonals : DataW Unit) = .agg (antiTab.map fun n => .lit (.int .u64 n)) ∧
  (Rows.laid_pub_fianchetto_pub_chess_bbKnightMoves : DataW Unit) = .agg (knightTab.map fun n => .lit (.int .u64 n)) ∧ (Rows.laid_pub_fianchetto_pub_chess_bbKingMoves : DataW Unit) = .agg (kingTab.map fun n => .lit (.int .u64 n)) ∧
  (Rows.laid_pub_fianchetto_pub_chess_allPieces : DataW Unit) = .slice (([1, 2, 3, 4, 5, 6, 7, 8, 9, 10, 11, 12] : List Int).map fun n => .lit (.int .i8 n)) [] ∧
  (Rows.laid_pub_fianchetto_pub_chess_promoPieceTypes : DataW Unit) = .slice (([2, 3, 4, 5] : List Int).map fun n => .lit (.int .i8 n)) [] := ⟨rfl, rfl, rfl, rfl, rfl, rfl, rfl, rfl⟩
theorem ty_eqs : (Tryz.prog.globals[0]?).map (·.type) = some 137 ∧ (Tryz.prog.globals[1]?).map (·.type) = some 162 ∧ (Tryz.prog.globals[2]?).map (·.type) = some 162 ∧ (Tryz.prog.globals[3]?).map (·.type) = some 162 ∧
  (Tryz.prog.globals[4]?).map (·.type) = some 162 ∧ (Tryz.prog.globals[5]?).map (·.type) = some 171 ∧ (Tryz.prog.globals[6]?).map (·.type) = some 171 ∧ (Tryz.prog.globals[7]?).map (·.type) = some 178 := by
 refine ⟨?_, ?_, ?_, ?_, ?_, ?_, ?_, ?_⟩ <;> kernel_rfl
theorem k_nm0 : Tryz.prog.globalNamed "pub-fianchetto/pub/chess.allPieces" = some 0 := by kernel_rfl
theorem k_nm1 : Tryz.prog.globalNamed "pub-fianchetto/pub/chess.bbKnightMoves" = some 1 := by kernel_rfl
theorem k_nm2 : Tryz.prog.globalNamed "pub-fianchetto/pub/chess.bbKingMoves" = some 2 := by kernel_rfl
theorem k_nm3 : Tryz.prog.globalNamed "pub-fianchetto/pub/chess.bbDiagonals" = some 3 := by kernel_rfl
theorem k_nm4 : Tryz.prog.globalNamed "pub-fianchetto/pub/chess.bbAntiDiagonals" = some 4 := by kernel_rfl
theorem k_nm5 : Tryz.prog.globalNamed "pub-fianchetto/pub/chess.bbRanks" = some 5 := by kernel_rfl
theorem k_nm6 : Tryz.prog.globalNamed "pub-fianchetto/pub/chess.bbFiles" = some 6 := by kernel_rfl
theorem k_nm7 : Tryz.prog.globalNamed "pub-fianchetto/pub/chess.promoPieceTypes" = some 7 := by kernel_rfl
theorem k_un64 : Tryz.prog.underlying 162 = some (.array 64 133) := by kernel_rfl
theorem k_un8 : Tryz.prog.underlying 171 = some (.array 8 133) := by kernel_rfl
theorem k_un133 : Tryz.prog.underlying 133 = some (.int .u64) := by kernel_rfl
theorem k_cl133 : Tryz.prog.cellsOf 133 = 1 := by kernel_rfl
theorem k_un137 : Tryz.prog.underlying 137 = some (.slice 112) := by kernel_rfl
theorem k_un178 : Tryz.prog.underlying 178 = some (.slice 93) := by kernel_rfl
theorem k_un112 : Tryz.prog.underlying 112 = some (.int .i8) := by kernel_rfl
theorem k_un93 : Tryz.prog.underlying 93 = some (.int .i8) := by kernel_rfl
theorem k_cl112 : Tryz.prog.cellsOf 112 = 1 := by kernel_rfl
theorem k_cl93 : Tryz.prog.cellsOf 93 = 1 := by kernel_rfl
theorem laid_in {W : World} {n : String} {d : DataW Unit} : ∀ (l : List (String × DataW Unit)) (ps : List MemPlace), DataW.LaidVars Tryz.prog W l ps → (n, d) ∈ l →
  ∃ g t cs fuel p, Tryz.prog.globalNamed n = some g ∧ (Tryz.prog.globals[g]?).map (·.type) = some t ∧ W.var? Tryz.prog n = some cs ∧ DataW.trod (fun _ => ()) Tryz.prog W 0 (fun _ => true) false fuel t cs.toList = some (d, p)
 | [], _, _, hm => by cases hm
 | (x1, x2) :: l, _, h, hm => by
  obtain ⟨g, t, cs, fuel, p, q, h1, h2, h3, h4, h5, _⟩ := h
  rcases List.mem_cons.1 hm with e | e
  ·cases e; exact ⟨g, t, cs, fuel, p, h1, h2, h3, h4⟩
  ·exact laid_in l q h5 e
theorem laid_at {W : World} {l : List (String × DataW Unit)} (h : laidMet Tryz.prog l W) {n : String} {d : DataW Unit} (hm : (n, d) ∈ l) :
  ∃ g t cs fuel p, Tryz.prog.globalNamed n = some g ∧ (Tryz.prog.globals[g]?).map (·.type) = some t ∧ W.var? Tryz.prog n = some cs ∧ DataW.trod (fun _ => ()) Tryz.prog W 0 (fun _ => true) false fuel t cs.toList = some (d, p) := by
 obtain ⟨ps, h, _, _⟩ := h
 exact laid_in l ps h hm
theorem laid_tab {W : World} {l : List (String × DataW Unit)} (h : laidMet Tryz.prog l W) {nm : String} {g t n : Nat} {zs : List Int} (hm : (nm, .agg (zs.map fun n => .lit (.int .u64 n))) ∈ l)
  (hg : Tryz.prog.globalNamed nm = some g) (ht : (Tryz.prog.globals[g]?).map (·.type) = some t) (hu : Tryz.prog.underlying t = some (.array n 133)) (hz : zs.length = n) : ∀ r, r < n → W.cell? ⟨g, r, none⟩ = some (.int .u64 (zs.getD r 0)) := by
 obtain ⟨g', t', cs, fuel, p, h1, h2, h3, h4⟩ := laid_at h hm
 obtain rfl := Option.some.inj (hg.symm.trans h1)
 obtain rfl := Option.some.inj (ht.symm.trans h2)
 exact tab_cells hu k_un133 k_cl133 hz hg h3 h4
theorem laid_sl {W : World} {l : List (String × DataW Unit)} (h : laidMet Tryz.prog l W) {nm : String} {g t e n : Nat} {zs : List Int} (hm : (nm, .slice (zs.map fun n => .lit (.int .i8 n)) []) ∈ l)
  (hg : Tryz.prog.globalNamed nm = some g) (ht : (Tryz.prog.globals[g]?).map (·.type) = some t) (hu : Tryz.prog.underlying t = some (.slice e)) (he : Tryz.prog.underlying e = some (.int .i8)) (hc : Tryz.prog.cellsOf e = 1) (hz : zs.length = n) (hn : 0 < n) :
  ∃ b o, W.cell? ⟨g, 0, none⟩ = some (.slice (some ⟨b, o, none⟩) n n) ∧ b < W.heap.size ∧ ∀ r, r < n → W.cell? ⟨b, o + r, none⟩ = some (.int .i8 (zs.getD r 0)) := by
 obtain ⟨g', t', cs, fuel, p, h1, h2, h3, h4⟩ := laid_at h hm
 obtain rfl := Option.some.inj (hg.symm.trans h1)
 obtain rfl := Option.some.inj (ht.symm.trans h2)
 exact sl_cells hu he hc hz hn hg h3 h4
def laidAll : List (String × DataW Unit) := [("unicode/utf8.acceptRanges", Rows.laid_unicode_utf8_acceptRanges), ("pub-fianchetto/pub/chess.promoPieceTypes", Rows.laid_pub_fianchetto_pub_chess_promoPieceTypes), ("pub-fianchetto/pub/chess.bbFiles", Rows.laid_pub_fianchetto_pub_chess_bbFiles), ("pub-fianchetto/pub/chess.bbRanks", Rows.laid_pub_fianchetto_pub_chess_bbRanks), ("pub-fianchetto/pub/chess.bbDiagonals", Rows.laid_pub_fianchetto_pub_chess_bbDiagonals), ("pub-fianchetto/pub/chess.bbAntiDiagonals", Rows.laid_pub_fianchetto_pub_chess_bbAntiDiagonals), ("pub-fianchetto/pub/chess.bbKnightMoves", Rows.laid_pub_fianchetto_pub_chess_bbKnightMoves), ("pub-fianchetto/pub/chess.bbKingMoves", Rows.laid_pub_fianchetto_pub_chess_bbKingMoves), ("pub-fianchetto/pub/chess.allPieces", Rows.laid_pub_fianchetto_pub_chess_allPieces), ("unicode.CaseRanges", Rows.laid_unicode_CaseRanges), ("unicode/utf8.first", Rows.laid_unicode_utf8_first)]
theorem pcs12 : ∀ j, j < 12 → ([1, 2, 3, 4, 5, 6, 7, 8, 9, 10, 11, 12] : List Int).getD j 0 = (j : Int) + 1 := by decide
theorem pcs4 : ∀ j, j < 4 → ([2, 3, 4, 5] : List Int).getD j 0 = (j : Int) + 2 := by decide
theorem laid_glob {W : World} (h : laidMet Tryz.prog laidAll W) : ∃ c, Glob c W := by
 obtain ⟨q1, q2, q3, q4, q5, q6, q7, q8⟩ := tabs_eq
 obtain ⟨t0, t1, t2, t3, t4, t5, t6, t7⟩ := ty_eqs
 obtain ⟨b, o, s1, s2, s3⟩ := laid_sl h (nm := "pub-fianchetto/pub/chess.allPieces") (n := 12) (by rw [← q7]; simp [laidAll]) k_nm0 t0 k_un137 k_un112 k_cl112 rfl (by decide)
 obtain ⟨b', o', s1', s2', s3'⟩ := laid_sl h (nm := "pub-fianchetto/pub/chess.promoPieceTypes") (n := 4) (by rw [← q8]; simp [laidAll]) k_nm7 t7 k_un178 k_un93 k_cl93 rfl (by decide)
 refine ⟨⟨W.heap.size, b, o, b', o'⟩, ⟨Nat.le_refl _, cell_lt s1', s2, s2', s1, fun j hj => ?_, ?_, ?_, ?_, ?_, ?_, ?_, s1', fun j hj => ?_⟩⟩
 ·rw [s3 j hj, pcs12 j hj]
 ·exact laid_tab h (by rw [← q5]; simp [laidAll]) k_nm1 t1 k_un64 rfl
 ·exact laid_tab h (by rw [← q6]; simp [laidAll]) k_nm2 t2 k_un64 rfl
 ·exact laid_tab h (by rw [← q3]; simp [laidAll]) k_nm3 t3 k_un64 rfl
 ·exact laid_tab h (by rw [← q4]; simp [laidAll]) k_nm4 t4 k_un64 rfl
 ·exact laid_tab h (by rw [← q2]; simp [laidAll]) k_nm5 t5 k_un8 rfl
 ·exact laid_tab h (by rw [← q1]; simp [laidAll]) k_nm6 t6 k_un8 rfl
 rw [s3' j hj, pcs4 j hj]
theorem k_un24 : ∃ fs : Array Field, Tryz.prog.underlying 24 = some (.struct fs) ∧ (fs.map fun f => (f.type, f.offset)) = #[(22, 0), (3, 64), (3, 65), (3, 66), (3, 67), (3, 68)] := by
 refine ⟨_, rfl, ?_⟩
 kernel_rfl
theorem k_cl24 : Tryz.prog.cellsOf 24 = 69 := by kernel_rfl
theorem k_cl22 : Tryz.prog.cellsOf 22 = 64 := by kernel_rfl
theorem k_cl3 : Tryz.prog.cellsOf 3 = 1 := by kernel_rfl
theorem k_un22 : Tryz.prog.underlying 22 = some (.array 64 3) := by kernel_rfl
theorem k_un3 : Tryz.prog.underlying 3 = some (.int .i64) := by kernel_rfl
def rdI (cs : Array Value) (i : Nat) : Int := match cs[i]? with | some (.int _ z) => z | _ => 0
theorem open_pos {H : Type} {enc : TypeId × Value → H} {W : World} {base b0 : Nat} {r : Reach} {sp : Nat → Bool} {held : Bool} {v : Value} {d : DataW H} {p : List MemPlace} (hval : Value.okWide Tryz.prog W r b0 24 v)
  (hd : DataW.Trod enc Tryz.prog W base sp held 24 v d p) : ∃ P : SP, v = .agg (spCells P) := by
 obtain ⟨fs, hu, hf⟩ := k_un24
 obtain ⟨cs, rfl, hsz⟩ := okWide_struct hu hval
 rw [k_cl24] at hsz
 obtain ⟨fuel, hd⟩ := hd
 have hcs : (Value.agg cs).cells.toList = cs.toList := rfl
 rw [hcs] at hd
 obtain ⟨xs, n, _, _, _, hl, hel⟩ := DataW.trod_struct hu hd
 have hfs : ∀ i t o : Nat, (#[(22, 0), (3, 64), (3, 65), (3, 66), (3, 67), (3, 68)] : Array (Nat × Nat))[i]? = some (t, o) → ∃ f : Field, fs[i]? = some f ∧ f.type = t ∧ f.offset = o := by
  intro i t o h
  rw [← hf, Array.getElem?_map] at h
  cases hh : fs[i]? with
  | none => rw [hh] at h; cases h
  | some f => rw [hh] at h; simp only [Option.map_some, Option.some.injEq, Prod.mk.injEq] at h; exact ⟨f, rfl, h.1, h.2⟩
 have hfl : fs.size = 6 := by have := congrArg Array.size hf; simpa using this
 have one : ∀ i o : Nat, (#[(22, 0), (3, 64), (3, 65), (3, 66), (3, 67), (3, 68)] : Array (Nat × Nat))[i]? = some (3, o) → ∃ z, cs[o]? = some (.int .i64 z) := by
  intro i o h
  obtain ⟨f, h1, h2, h3⟩ := hfs i 3 o h
  have := hel i f h1
  have hi : i < xs.length := by rw [hl, hfl]; exact (Array.getElem?_eq_some_iff.1 h).1
  rw [h2, h3, k_cl3, List.getElem?_eq_getElem hi] at this
  obtain ⟨z, e1, _⟩ := DataW.trod_int k_un3 this
  exact ⟨z, by have := cell_of_cut e1; simpa using this⟩
 have brd : ∀ i, i < 64 → ∃ z, cs[i]? = some (.int .i64 z) := by
  intro i hi
  obtain ⟨f, h1, h2, h3⟩ := hfs 0 22 0 rfl
  have := hel 0 f h1
  rw [h2, h3, k_cl22, List.getElem?_eq_getElem (by omega)] at this
  obtain ⟨ys, m, _, _, _, hl2, hel2⟩ := DataW.trod_array k_un22 this
  have h4 := hel2 i hi
  rw [k_cl3, Nat.mul_one, List.getElem?_eq_getElem (by omega)] at h4
  obtain ⟨z, e1, _⟩ := DataW.trod_int k_un3 h4
  refine ⟨z, ?_⟩
  have := cell_of_cut e1
  rw [List.getElem?_take_of_lt hi] at this
  simpa using this
 have all : ∀ i, i < 69 → cs[i]? = some (.int .i64 (rdI cs i)) := by
  intro i hi
  have : ∃ z, cs[i]? = some (.int .i64 z) := by
   by_cases h : i < 64
   ·exact brd i h
   rcases (by omega : i = 64 ∨ i = 65 ∨ i = 66 ∨ i = 67 ∨ i = 68) with rfl | rfl | rfl | rfl | rfl
   ·exact one 1 64 rfl
   ·exact one 2 65 rfl
   ·exact one 3 66 rfl
   ·exact one 4 67 rfl
   exact one 5 68 rfl
  obtain ⟨z, hz⟩ := this
  unfold rdI; rw [hz]
 refine ⟨⟨rdI cs, rdI cs 64, rdI cs 65, rdI cs 66, rdI cs 67, rdI cs 68⟩, congrArg Value.agg (Array.ext_getElem? fun i => ?_)⟩
 by_cases h : i < 69
 ·rw [all i h]
  by_cases h2 : i < 64
  ·rw [spCells_bd _ h2]
  obtain ⟨j, rfl⟩ : ∃ j, i = 64 + j := ⟨i - 64, by omega⟩
  rw [spCells_tail]
  rcases (by omega : j = 0 ∨ j = 1 ∨ j = 2 ∨ j = 3 ∨ j = 4) with rfl | rfl | rfl | rfl | rfl <;> rfl
 rw [Array.getElem?_eq_none (by omega), Array.getElem?_eq_none (by rw [spCells_size]; omega)]
end Go.Proofs.YtgnhellfhjoaaaaGreatDoor
namespace Go.Proofs.YtgnhellfhjoaaaaGreatDoor
open Go Go.RowKit Go.ChangeShapes Go.WideShapes Go.ChangeAt
set_option maxRecDepth 100000
theorem own : ownKnob Tryz.prog.godebug = none := by kernel_rfl
theorem laidOut : laidOutB Tryz.prog = true := by kernel_rfl
theorem read24 : Tryz.prog.readableRec 24 = true := by kernel_rfl
theorem row24 : 24 < Tryz.prog.types.size := of_decide_eq_true (by kernel_rfl)
def posZero : Value := .agg (Array.replicate 69 (.int .i64 0))
theorem k_un4 : Tryz.prog.underlying 4 = some .bool := by kernel_rfl
theorem uci_lifted (os : Os) (started : os.Started) (H : Type) (enc : TypeId × Value → H) :
  ReturnsInHanded {} Tryz.checked os 7 .any (fun w args => (Rows.fnUciWrittenSpec.pre enc Tryz.prog Tryz.f7 [] false w args ∧ laidMetH Tryz.prog laidAll w) ∧ sizedMet enc Tryz.prog Tryz.f7 (OpenSpec.ofChange Rows.fnUciWrittenSpec) false w args)
   (Rows.fnUciWrittenSpec.post enc Tryz.prog Tryz.f7 false true false false) := by
 refine returnsInHanded_of_change_and (C := Tryz.checked) (X := fun w _ => laidMetH Tryz.prog laidAll w) (fun _ _ _ hh h => h.of_heap hh) own started (by kernel_rfl) Tryz.func7
  (ChangeSpec.witness_shaped (enc := enc) (C := Tryz.checked) (os := os) (X := fun w _ => laidMetH Tryz.prog laidAll w) false (World.laidAll Tryz.prog os laidAll) #[posZero, .int .i64 0] 8 (World.laidAll_os _ _ _)
   (World.shaped_of_ZipB (by kernel_rfl) (by kernel_rfl)) (by kernel_rfl) (by kernel_rfl) (by kernel_rfl)
   (by rw [MakeChecks.laidMetH_plain _ _ _ (by kernel_rfl)]; exact laidMet_laidAll _ (by kernel_rfl) (by kernel_rfl))) ?_
 intro W base args ds gs before hval0 hW _ _ hL _
 have hval : ∀ (j : Nat) t v, Tryz.f7.params[j]? = some t → args[j]? = some v → Value.okWide Tryz.prog W .any base t v := hval0
 have hW' := hW
 obtain ⟨p, q, hA0, hV, rfl, _, _⟩ := hW
 have hA : DataW.TrodAll enc Tryz.prog W 0 (fun _ => true) true Tryz.f7.params.toList args.toList ds p := hA0
 rw [Tryz.params7] at hA hval
 obtain ⟨v0, v1, d0, d1, p0, p1, rfl, rfl, rfl, h0, h1⟩ := trodAll_two hA
 obtain ⟨rfl, rfl⟩ := trodVars_none hV
 obtain ⟨x, rfl, rfl, rfl, wx⟩ := open_int k_un3 (hval 1 3 v1 rfl rfl) h1
 obtain ⟨P, rfl⟩ := open_pos (hval 0 24 v0 rfl rfl) h0
 rw [MakeChecks.laidMetH_plain _ _ _ (by kernel_rfl)] at hL
 obtain ⟨c, hG⟩ := laid_glob hL
 have hlt : ∀ x ∈ p0, x.block < W.heap.size := fun x hx => by simpa using hW'.lt x (by simp [hx])
 refine (c7 P x hG (fun m hR hm => plainU hR hm)).mono fun e W' ⟨he, hb⟩ => ?_
 subst he
 exact ⟨_, rfl, _, _, _, [], _, [], hW', trodAll_mk1 (shut_bool k_un4 _), trodAll_mk2 (Below.trod laidOut read24 row24 h0 hb.below hlt) (shut_int k_un3 wx), rfl, hb.below.frame _, fun h => by cases h⟩
theorem uci_said : Rows.FnUciWrittenSaid :=
 OpenClaim.holds_of_wide 7 Tryz.f7 rfl rfl rfl rfl rfl rfl rfl ⟨rfl, rfl, rfl, rfl, rfl⟩ rfl rfl rfl rfl rfl (by kernel_rfl) Tryz.func7 (by kernel_rfl)
  (of_decide_eq_true (by kernel_rfl)) (by unfold Func.isWrapper; first | (rw [if_pos (by decide +kernel)]; kernel_rfl) | (rw [if_neg (by decide +kernel)]; exact ⟨rfl, rfl⟩))
  (fun os started H enc _ => uci_lifted os started H enc)
theorem uci_card : Rows.FnUciWrittenCardSaid :=
 Claim7.holds_tied_plain_at .later [] [.data, .data, .data, .data, .data, .data, .data, .data, .data, .pinned, .pinned] true (true, "ce2801465da21b391576cf3bcdc9385af78ce6a858cc5da34dd9cf37235d50aa") false uci_said (fun _ h => by cases h) (by kernel_rfl) (fun _ h => by cases h) fnUciWritten_row_tie rfl ⟨rfl, rfl⟩ (by kernel_rfl) rfl
  (fun f fn hf hfn => by
   obtain rfl : f = 7 := Option.some.inj ((show Tryz.prog.funcNamed "pub-fianchetto/laws.FnUciWritten" = some 7 by kernel_rfl).symm.trans hf) |>.symm
   obtain rfl : fn = Tryz.f7 := (Option.some.inj (Tryz.func7.symm.trans hfn)).symm
   exact ⟨by kernel_rfl, fun j t ht => by
    rw [Tryz.params7] at ht
    have hm : t ∈ [24, 3] := by simpa using Array.mem_of_getElem? ht
    have hall : ([24, 3].all fun u => !Tryz.prog.wantsStandIn u) = true := by kernel_rfl
    exact (show Tryz.prog.wantsStandIn t = false by simpa using List.all_eq_true.1 hall t hm)⟩)
  (by kernel_rfl)
#print axioms uci_card
end Go.Proofs.YtgnhellfhjoaaaaGreatDoor
