/-
  FnSanMirror: what is written and read of a legal move is the same in the position seen from the other side, seen so (a part of the proof).
  Conditions: those of each theorem.
-/
import Derived.Test.YtgnhellfhjoaaaaGreatDoorE01
import Derived.Test.YtgnhellfhjoaaaaGreatDoorE02
set_option linter.unusedVariables false
set_option linter.unusedSimpArgs false
namespace Go.Proofs.YtgnhellfhjoaaaaGreatDoor
open Go Go.RowKit
open Go.Proofs.Tryz
set_option maxRecDepth 100000
def zeroBd:Bd:=⟨λ_=>0,0,0,0,0,0⟩
def bbAcc(f:Int->Int)(p:Int):Nat->Int
 |0=>0
 |n+1=>bif (f (n:Int) !=0)&&(p==f (n:Int)) then bor (shlU (bbAcc f p n) 1) 1 else shlU (bbAcc f p n) 1
theorem bbAcc_succ{f:Int->Int}{p j:Int}(h:0<=j):bbAcc f p (j+1).toNat=bif (f j !=0)&&(p==f j) then bor (shlU (bbAcc f p j.toNat) 1) 1 else shlU (bbAcc f p j.toNat) 1:=by
 have e:(j+1).toNat=j.toNat+1:=by omega
 rw [e];simp only [bbAcc];rw [show ((j.toNat:Nat):Int)=j from by omega]
def nbTo(f:Int->Int)(j:Int):Bd:={zeroBd with bb:=λk=>if 1<=k/\(k:Int)<=j then bbAcc f (k:Int) 64 else 0}
theorem nbTo_set{f:Int->Int}{j:Int}(h:0<=j):Bd.set (nbTo f j) (j+1).toNat (bbAcc f (j+1) 64)=nbTo f (j+1):=by
 simp only [Bd.set,nbTo];congr 1;funext k;by_cases e:k=(j+1).toNat
 ·subst e;rw [if_pos rfl,if_pos (by omega),show (((j+1).toNat:Nat):Int)=j+1 from by omega]
 rw [if_neg e];by_cases e2:1<=k/\(k:Int)<=j
 ·rw [if_pos e2,if_pos (by omega)]
 rw [if_neg e2,if_neg (by omega)]
def mkBoard(f:Int->Int):Bd:=kingsB (calcB (nbTo f 12))
def mpTo(g:Nat->Int)(j:Int):Int->Int:=λx=>if 0<=x/\x<j then g x.toNat else 0
theorem mpTo_hit{g:Nat->Int}{j:Int}(h:0<=j):(λx=>if x=j then g j.toNat else mpTo g j x)=mpTo g (j+1):=by
 funext x;unfold mpTo;by_cases e:x=j
 ·subst e;simp only [if_true];rw [if_pos (by omega)]
 rw [if_neg e];by_cases e2:0<=x/\x<j
 ·rw [if_pos e2,if_pos (by omega)]
 rw [if_neg e2,if_neg (by omega)]
theorem mpTo_miss{g:Nat->Int}{j:Int}(h:0<=j)(h0:g j.toNat=0):mpTo g j=mpTo g (j+1):=by
 rw [←mpTo_hit h];funext x;by_cases e:x=j
 ·subst e;simp only [if_true,h0];unfold mpTo;rw [if_neg (by omega)]
 rw [if_neg e]
def boardOf(g:Nat->Int):Bd:=mkBoard (mpTo g 64)
theorem c92{c:GC}{r:Nat}{f:Int->Int}{w:World}(hM:MapAt w r f)(hG:Glob c w):
  CQ 92 [.map (some r)] w (λe w'=>∃b,e=.returned (pz b)/\Mod [] w w'/\At w' b (.cells (bdCells (mkBoard f)) 135 (0,0))/\w.heap.size<=b):=by
 have v0:Mod [] w w:=Mod.refl _ _;refine en func92 ntmps92 ?_;refine zw<|yS 1<|zx<|yS 1<|zA (bdCells zeroBd) 135 (some 11) ?_;intro b1 w2 hn3;have hb4:c.base<=b1:=Glob.lt hG hn3;have hb5:=Nat.le_trans v0.size hn3.base;have v6:=hn3.mod;have he7:=MapAt.on hM v6;have z8:=Glob.on hG v6;have v9:=zt v0 v6;have hf10:=hn3.at_;refine yS 1<|zz<|w_seq<|zw<|yO 3 [.cell ⟨0,0,none⟩ (.slice (some ⟨c.ap,c.apo,none⟩) 12 12)] (z8.g0)<|zz<|w_block<|yP (γ:=Int) (λg11=>(12-g11).toNat) (λ(g11:Int)=>[(0,.map (some r)),(3,pz b1),(12,.slice (some ⟨c.ap,c.apo,none⟩) 12 12),(13,.int .i64 ((12:Nat):Int)),(14,.int .i64 g11)]) (λ(g11:Int) w_=>(0<=g11/\g11<=12)/\Mod [b1] w2 w_/\At w_ b1 (.cells (bdCells (nbTo f g11)) 135 (0,0))/\(True)) 0 ⟨by omega,Mod.refl _ _,hf10,trivial⟩ ?_;rintro g11 w12 ⟨⟨h14,h15⟩,v13,hf17,hx16⟩;have he18:=MapAt.keep he7 v13 (by simpa using MapAt.ne he7 hf10);have z19:=Glob.keep z8 v13 (by simp<;>omega);have v20:=Mod.fresh' v9 v13 (by simp<;>omega);refine zw<|yS 1<|zz<|w_seq<|yC (decide (g11<((12:Nat):Int))) (λhc21=>?_) λhc21=>?_
 ·have dhc21:=of_decide_eq_true hc21;refine w_skip<|n_then<|w_seq<|w_block<|zw<|yO 3 [.prop (0<=g11/\g11<((12:Nat):Int)),.cell ⟨c.ap,(c.apo+g11.toNat*1),none⟩ (.int .i8 (((g11.toNat*1:Nat):Int)+1))] (⟨(zh (by omega)),(z19.pieces (g11.toNat*1) (by omega))⟩)<|ze ?_;rw [(show ((((g11.toNat*1:Nat):Int)+1):Int)=(g11+1) from (by omega))];refine zn<|yS 1<|zz<|w_seq<|zw<|yS 1<|zz<|w_block<|yP (γ:=Int) (λg22=>(64-g22).toNat) (λ(g22:Int)=>[(0,.map (some r)),(3,pz b1),(5,.int .i8 (g11+1)),(6,.int .u64 (bbAcc f (g11+1) g22.toNat)),(12,.slice (some ⟨c.ap,c.apo,none⟩) 12 12),(13,.int .i64 ((12:Nat):Int)),(14,.int .i64 g11),(18,.int .i64 g22)]) (λ(g22:Int) w_=>(0<=g22/\g22<=64)/\Mod [] w12 w_/\(True)) 0 ⟨by omega,Mod.refl _ _,trivial⟩ ?_;rintro g22 w23 ⟨⟨h25,h26⟩,v24,hx27⟩;have hf28:=At.on hf17 v24;have he29:=MapAt.on he18 v24;have v32:=Mod.trans v13 (Mod.of_nil v24);refine zw<|yS 1<|zz<|w_seq<|yC (decide (g22<64)) (λhc33=>?_) λhc33=>?_
  ·have dhc33:=of_decide_eq_true hc33;refine w_skip<|n_then<|w_seq<|w_block<|zw<|yS 2<|zx<|yO 3 [.prop (0<=(1:Int))] (zh (by omega))<|zx<|zs 3 [(0,.map (some r)),rz 3 b1,(5,.int .i8 (g11+1)),(6,.int .u64 (shlU (bbAcc f (g11+1) g22.toNat) 1)),(12,.slice (some ⟨c.ap,c.apo,none⟩) 12 12),iz 13 ((12:Nat):Int),iz 14 g11,iz 18 g22,(24,.map (some r)),(26,.int .i8 (IntKind.i8.wrap g22))] ?_;rw [(show ((IntKind.i8.wrap g22):Int)=g22 from i8_in' (by omega) (by omega))];refine reg_look g22 (some 27) (by kernel_rfl) he29<|yS 5<|zz<|w_cut (γ:=Unit) (λ_=>[(0,.map (some r)),(3,pz b1),(5,.int .i8 (g11+1)),(6,.int .u64 (shlU (bbAcc f (g11+1) g22.toNat) 1)),(12,.slice (some ⟨c.ap,c.apo,none⟩) 12 12),(13,.int .i64 ((12:Nat):Int)),(14,.int .i64 g11),(18,.int .i64 g22),(35,.bool ((f g22 !=0)&&((g11+1)==(f g22))))]) (λ_ w_=>Mod [] w23 w_) ?_ ?_
   ·have v36:Mod [] w23 w23:=Mod.refl _ _;refine w_region<|yS 2<|yE 31 (.bool (f g22 !=(0:Int))) ?_;cases hc37:(f g22 !=(0:Int))
    ·exact yS 4<|ze<|zb () v36
    exact yS 4<|ze<|zb () v36
   intro _ w34 v35;have he39:=MapAt.on he29 v35;have v43:=zt v24 v35;refine yC ((f g22 !=0)&&((g11+1)==(f g22))) (λhc44=>?_) λhc44=>?_
   ·refine w_region<|yS 3<|ze<|n_block<|n_then<|w_region<|zs 2 [(0,.map (some r)),rz 3 b1,(5,.int .i8 (g11+1)),(6,.int .u64 (bor (shlU (bbAcc f (g11+1) g22.toNat) 1) 1)),(12,.slice (some ⟨c.ap,c.apo,none⟩) 12 12),iz 13 ((12:Nat):Int),iz 14 g11,iz 18 (IntKind.i64.wrap (g22+1))]<|ze ?_;rw [zi (g22+1) (by omega) (by omega)];rw [show ((bor (shlU (bbAcc f (g11+1) g22.toNat) (1:Int)) (1:Int)):Int)=bbAcc f (g11+1) (g22+1).toNat from by rw [bbAcc_succ (by omega),hc44];rfl];exact zl (g22+1) ⟨by omega,v43,trivial⟩
   refine w_skip<|n_block<|n_then<|w_region<|yS 2<|yW 18 (zi (g22+1) (by omega) (by omega))<|ze ?_;rw [show ((shlU (bbAcc f (g11+1) g22.toNat) (1:Int)):Int)=bbAcc f (g11+1) (g22+1).toNat from by rw [bbAcc_succ (by omega),hc44];rfl];exact zl (g22+1) ⟨by omega,v43,trivial⟩
  have dhc33:=of_decide_eq_false hc33;obtain rfl:g22=(64:Int):=by omega
  refine w_exit<|x_then<|x_then<|x_hit<|n_then<|w_region<|yS 3<|zC (some 42) (c100 hf28 (g11+1) (bbAcc f (g11+1) 64) (by omega)) ?_;rintro _ w45 ⟨rfl,v46,hf47⟩;refine ⟨_,rfl,?_⟩;have he48:=MapAt.keep he29 v46 (by simpa using MapAt.ne he29 hf28);have v51:=Mod.fresh' v32 v46 (by simp<;>omega);refine ze<|n_block<|n_then<|w_region<|yS 2<|yW 14 (zi (g11+1) (by omega) (by omega))<|ze ?_;have hf52:At w45 b1 (.cells (bdCells (nbTo f (g11+1))) 135 (0,0)):=at_cast hf47 (bd_eq (nbTo_set (by omega)));exact zl (g11+1) ⟨by omega,v51,hf52,trivial⟩
 have dhc21:=of_decide_eq_false hc21;obtain rfl:g11=(12:Int):=by omega
 refine w_exit<|x_then<|x_then<|x_hit<|zn<|yS 1<|zC (some 45) (c103n hf17) ?_;rintro _ w53 ⟨rfl,v54,hf55⟩;refine ⟨_,rfl,?_⟩;have he56:=MapAt.keep he18 v54 (by simpa using MapAt.ne he18 hf17);have v58:=Mod.fresh' v20 v54 (by simp<;>omega);exact zx<|yS 2<|zz<|w_ret<|y1 (⟨_,rfl,v58,hf55,by omega⟩)
theorem c56{c:GC}{w:World}(f:Nat->Int)(hG:Glob c w)(hf:∀i,i<64->0<=f i/\f i<=12):
  CQ 56 [.agg (bdArr f)] w (λe w'=>∃b,e=.returned (pz b)/\Mod [] w w'/\At w' b (.cells (bdCells (boardOf f)) 135 (0,0))/\w.heap.size<=b):=by
 have v0:Mod [] w w:=Mod.refl _ _;refine en func56 ntmps56 ?_;refine zw<|zA (bdArr f) 22 (some 1) ?_;intro b1 w2 hn3;have hb4:c.base<=b1:=Glob.lt hG hn3;have hb5:=Nat.le_trans v0.size hn3.base;have v6:=hn3.mod;have v8:=zt v0 v6;refine yS 1<|zx<|reg_mmk (some 6) (by kernel_rfl) ?_;intro r10 w11 v12 hM13 hb14;have hb15:=Nat.le_trans v8.size hb14;have hb16:=Nat.le_trans (Glob.size) hb14;have v19:=zt v8 v12;refine yS 1<|zz<|w_seq<|zw<|yV 2 [.row ⟨b1,0,none⟩ 64 (bdArr f)] [.agg (bdArr f)] (At.row ya (bdArr_size _))<|zz<|w_block ?_;have hM20:=hM13;have hz:(λ_=>0:Int->Int)=mpTo f 0:=by funext x;unfold mpTo;rw [if_neg (by omega)]
 refine yP (γ:=Int) (λg27=>(64-g27).toNat) (λg27=>[(3,.map (some r10)),(7,.agg (bdArr f)),(8,.int .i64 g27)]) (λ(g27:Int) w_=>(0<=g27/\g27<=64)/\Mod [r10] w11 w_/\MapAt w_ r10 (mpTo f g27)) 0 ⟨by constructor<;>omega,Mod.refl _ _,hz▸hM20⟩ ?_;rintro j21 w22 ⟨⟨h24,h25⟩,v23,hx26⟩;have v29:=Mod.fresh' v19 v23 (by simp<;>omega);refine zw<|yS 1<|zz<|w_seq<|yC (decide (j21<64)) (λhc30=>?_) λhc30=>?_
 ·have dhc30:=of_decide_eq_true hc30;refine w_skip<|n_then<|w_seq<|w_block<|w_seq ?_;have hfr:=hf j21.toNat (by omega);refine w_region<|yV 4 [.prop ((0<=j21/\j21<((64:Nat):Int))/\(bdArr f)[j21.toNat*1]?=some (.int .i64 (f j21.toNat)))] [.int .i64 (f j21.toNat)] (zh ⟨(by omega),bdArr_at (by omega)⟩)<|zz<|w_seq<|w_cut (γ:=Unit) (λ_=>[(3,.map (some r10)),(4,.int .i64 j21),(5,.int .i64 (f j21.toNat)),(7,.agg (bdArr f)),(8,.int .i64 j21),(17,.bool ((decide ((f j21.toNat)<0))||(decide ((f j21.toNat)>12))))]) (λ_ w_=>Mod [] w22 w_) ?_ ?_
  ·refine w_region<|yS 3<|yE 14 (.bool (decide ((f j21.toNat)<0))) ?_;cases hc34:(decide ((f j21.toNat)<0))
   ·exact yS 3<|ze<|zb () yt
   exact yS 3<|ze<|zb () yt
  intro _ w31 v32;have he35:=MapAt.on hx26 v32;have v38:=Mod.trans v23 (Mod.of_nil v32);have hc39:((decide ((f j21.toNat)<0))||(decide ((f j21.toNat)>12)))=false:=(by simp;omega);refine w_cond (b:=((decide ((f j21.toNat)<0))||(decide ((f j21.toNat)>12)))) (by kernel_rfl) (λhx=>absurd (hc39.symm.trans hx) (by decide)) (λ_=>?_);refine w_skip<|zn<|yS 2<|zz<|yC (decide ((f j21.toNat)>0)) (λhc40=>?_) λhc40=>?_
  ·have dhc40:=of_decide_eq_true hc40;refine w_region<|zs 5 [(3,.map (some r10)),(7,.agg (bdArr f)),iz 8 j21,(21,.map (some r10)),(23,.int .i8 (IntKind.i8.wrap j21)),(25,.int .i8 (IntKind.i8.wrap (f j21.toNat)))] ?_;rw [(show ((IntKind.i8.wrap j21):Int)=j21 from i8_in' (by omega) (by omega))];rw [(show ((IntKind.i8.wrap (f j21.toNat)):Int)=(f j21.toNat) from i8_in' (by omega) (by omega))];refine reg_mup j21 (f j21.toNat) none (by kernel_rfl) he35 (by unfold mpTo;rw [if_neg (by omega)]) (by omega) ?_;intro w41 v42 hM43;have v46:=Mod.fresh' v38 v42 (by simp<;>omega);exact ze<|n_block<|n_then<|w_region<|yS 2<|yW 8 (zi (j21+1) (by omega) (by omega))<|ze<|zl (j21+1) ⟨by constructor<;>omega,v46,(mpTo_hit (g:=f) (by omega)▸hM43)⟩
  have dhc40:=of_decide_eq_false hc40;exact w_skip<|n_block<|n_then<|w_region<|yS 2<|yW 8 (zi (j21+1) (by omega) (by omega))<|ze<|zl (j21+1) ⟨by constructor<;>omega,v38,(mpTo_miss (g:=f) (by omega) (by omega)▸he35)⟩
 have dhc30:=of_decide_eq_false hc30;obtain rfl:j21=64:=by omega
 refine w_exit<|x_then<|x_then<|x_hit<|zn<|yS 1<|zC (some 28) (c92 (f:=mpTo f 64) hx26 (yG w22)) ?_;rintro _ w47 ⟨b49,rfl,v48,hf50,hb51⟩;refine ⟨_,rfl,?_⟩;have hb52:=Nat.le_trans v29.size hb51;have he53:=MapAt.on hx26 v48;have v55:=zt v29 v48;exact yS 1<|zz<|w_ret<|y1 (⟨_,rfl,v55,hf50,by omega⟩)
theorem c55{c:GC}{b:Nat}{B:Bd}{w:World}(hb:At w b (.cells (bdCells B) 135 (0,0)))(hG:Glob c w)(t ep half full:Int)(cs:ByteArray)(hk:KingsOk B)(hT:t=1\/t=2):
  CQ 55 [pz b,.int .i8 t,.string cs,.int .i8 ep,.int .i64 half,.int .i64 full] w (λe w'=>∃p,e=.returned (pz p)/\Mod [] w w'/\At w' p (.cells (psCells b (.slice none 0 0) ⟨B,cs,half,full,t,ep,inChk B t⟩) 110 (0,0))/\At w' b (.cells (bdCells B) 135 (0,0))/\w.heap.size<=p):=by
 have v0:Mod [] w w:=Mod.refl _ _;refine en func55 ntmps55 ?_;refine zw<|yS 1<|zx<|yS 7<|zA (psCells b (.slice none 0 0) (⟨B,cs,half,full,t,ep,false⟩:Ps)) 110 (some 21) ?_;intro b1 w2 hn3;have hb4:c.base<=b1:=Glob.lt hG hn3;have hb5:=Nat.le_trans v0.size hn3.base;have v6:=hn3.mod;have hf7:=At.on hb v6;have z8:=Glob.on hG v6;have v9:=zt v0 v6;have hf10:=hn3.at_;refine yS 1<|zx<|yS 2<|zk (some 24) (c91 (S:=(⟨B,cs,half,full,t,ep,false⟩:Ps)) hf10 hf7 z8 hk hT) ?_;intro w11 v12;have hf13:=At.on hf7 v12;have hf14:=At.on hf10 v12;have v16:=zt v9 v12;refine yS 2<|zS b1 7 (.bool (inChk B t)) ?_;intro w17 hu18;have hf19:At w17 b1 (.cells (psCells b (.slice none 0 0) ({(⟨B,cs,half,full,t,ep,false⟩:Ps) with chk:=(inChk B t)})) 110 (0,0)):=hu18.at_;have hf20:=At.keep hf13 hu18.mod (not_mem1 (At.ne hf13 hf14 rfl));have v22:=Mod.fresh' v16 hu18.mod (by simp<;>omega);exact zx<|yS 2<|zz<|w_ret<|y1 (⟨_,rfl,v22,hf19,hf20,by omega⟩)
def cch:Nat->ByteArray
 |0=>⟨#[75]⟩|1=>⟨#[81]⟩|2=>⟨#[107]⟩|3=>⟨#[113]⟩|_=>⟨#[]⟩
theorem cch_cell{i:Nat}(h:i<4):(#[.string ⟨#[75]⟩,.string ⟨#[81]⟩,.string ⟨#[107]⟩,.string ⟨#[113]⟩]:Array Value)[i]?=some (.string (cch i)):=by
 rcases (by omega:i=0\/i=1\/i=2\/i=3) with rfl|rfl|rfl|rfl<;>rfl
theorem cch_size{i:Nat}(h:i<4):(cch i).size=1:=by
 rcases (by omega:i=0\/i=1\/i=2\/i=3) with rfl|rfl|rfl|rfl<;>rfl
def castBit(n:Int)(k:Nat):Bool:=bitsV .and .i64 (n.fdiv (2^(min k IntKind.i64.bits))) 1==1
def castAcc(n:Int):Nat->ByteArray
 |0=>⟨#[]⟩
 |k+1=>bif castBit n k then castAcc n k++cch k else castAcc n k
theorem castAcc_succ{n j:Int}(h:0<=j):castAcc n (j+1).toNat=bif castBit n j.toNat then castAcc n j.toNat++cch j.toNat else castAcc n j.toNat:=by
 have e:(j+1).toNat=j.toNat+1:=by omega
 rw [e];rfl
theorem castAcc_size(n:Int):∀k,k<=4->(castAcc n k).size<=k
 |0,_=>Nat.le_refl 0
 |k+1,h=>by
  have:=castAcc_size n k (by omega);simp only [castAcc];cases castBit n k
  ·simp only [cond_false];omega
  ·simp only [cond_true,ByteArray.size_append,cch_size (show k<4 by omega)];omega
def castStr(n:Int):ByteArray:=bif (castAcc n 4).toList==(⟨#[]⟩:ByteArray).toList then ⟨#[45]⟩ else castAcc n 4
theorem castStr_size(n:Int):(castStr n).size<=4:=by
 unfold castStr;cases ((castAcc n 4).toList==(⟨#[]⟩:ByteArray).toList)
 ·exact castAcc_size n 4 (by omega)
 show (1:Nat)<=4;omega
def turnOf(t:Int):Int:=bif t==1 then 2 else 1
theorem turnOf_or(t:Int):turnOf t=1\/turnOf t=2:=by unfold turnOf;cases (t==1)<;>simp
def psOf(P:SP):Ps:=⟨boardOf P.bd,castStr P.castle,P.half,P.full,turnOf P.turn,P.ep,inChk (boardOf P.bd) (turnOf P.turn)⟩
theorem lastK_range(f:Int->Bool):∀n:Nat,-1<=lastK f n/\lastK f n<(n:Int)\/lastK f n=-1
 |0=>.inr rfl
 |n+1=>by
  simp only [lastK];split
  ·left;omega
  ·rcases lastK_range f n with h|h
   ·left;omega
   ·right;exact h
theorem mkBoard_kings(f:Int->Int):KingsOk (mkBoard f):=by
 have h1:=lastK_range (λi=>occB ((calcB (nbTo f 12)).bb 1) i) 64;have h2:=lastK_range (λi=>!occB ((calcB (nbTo f 12)).bb 1) i&&occB ((calcB (nbTo f 12)).bb 7) i) 64;have e1:(mkBoard f).wk=lastK (λi=>occB ((calcB (nbTo f 12)).bb 1) i) 64:=rfl;have e2:(mkBoard f).bk=lastK (λi=>!occB ((calcB (nbTo f 12)).bb 1) i&&occB ((calcB (nbTo f 12)).bb 7) i) 64:=rfl;unfold KingsOk;rw [e1,e2];omega
structure SPok(P:SP):Prop where
 bd:∀i,i<64->0<=P.bd i/\P.bd i<=12
 turn:0<=P.turn/\P.turn<=1
 castle:0<=P.castle/\P.castle<=15
 ep:-1<=P.ep/\P.ep<=63
 half:0<=P.half
 full:0<=P.full
theorem c27{c:GC}{w:World}(P:SP)(hG:Glob c w)(hP:SPok P):
  CQ 27 [.agg (spCells P)] w (λe w'=>∃p b,e=.returned (pz p)/\Mod [] w w'/\At w' p (.cells (psCells b (.slice none 0 0) (psOf P)) 110 (0,0))/\At w' b (.cells (bdCells (boardOf P.bd)) 135 (0,0))/\w.heap.size<=p/\w.heap.size<=b):=by
 have v0:Mod [] w w:=Mod.refl _ _;have hp1:=hP.turn;have hp2:=hP.castle;have hp3:=hP.ep;have hp4:=hP.half;have hp5:=hP.full;refine en func27 ntmps27 ?_;refine zw<|zA (spCells P) 24 (some 1) ?_;intro b1 w2 hn3;have hb4:c.base<=b1:=Glob.lt hG hn3;have hb5:=Nat.le_trans v0.size hn3.base;have v6:=hn3.mod;have z7:=Glob.on hG v6;have v8:=zt v0 v6;refine yS 1<|zx<|yS 2<|zz<|w_cut (γ:=Int) (λg10=>[(1,pz b1),(3,.int .i8 g10),(4,.string (⟨#[]⟩))]) (λg10 w_=>Mod [] w2 w_/\g10=(turnOf P.turn)) ?_ ?_
 ·refine zw<|yO 3 [.cell ⟨b1,64,none⟩ (.int .i64 P.turn)] (yc (spCells_64 P))<|zz<|yC (P.turn==1) (λhc14=>?_) λhc14=>?_
  ·have dhc14:=eq_of_beq hc14;exact w_region<|yS 1<|ze<|zb 2 ⟨yt,(by simp only [turnOf,hc14,cond_true,cond_false])⟩
  have dhc14:=ne_of_beq_false hc14;exact w_skip<|zb 1 ⟨yt,(by simp only [turnOf,hc14,cond_true,cond_false])⟩
 rintro _ w11 ⟨v12,rfl⟩;have z16:=Glob.on z7 v12;have v17:=zt v8 v12;refine w_seq<|zw<|reg_bslice (#[.string (⟨#[75]⟩),.string (⟨#[81]⟩),.string (⟨#[107]⟩),.string (⟨#[113]⟩)]) 9 4 (some 10) (by kernel_rfl) ?_;intro b18 w19 hn20;have hb21:c.base<=b18:=Glob.lt z16 hn20;have hb22:=Nat.le_trans v17.size hn20.base;have v23:=hn20.mod;have v26:=zt v17 v23;refine yS 2<|zz<|w_block<|yP (γ:=Int) (λg28=>(4-g28).toNat) (λ(g28:Int)=>[(1,pz b1),(3,.int .i8 (turnOf P.turn)),(4,.string (castAcc P.castle g28.toNat)),(10,.slice (some ⟨b18,0,none⟩) 4 4),(11,.int .i64 ((4:Nat):Int)),(12,.int .i64 g28)]) (λ(g28:Int) w_=>(0<=g28/\g28<=4)/\Mod [] w19 w_/\(True)) 0 ⟨by omega,Mod.refl _ _,trivial⟩ ?_;rintro g28 w29 ⟨⟨h31,h32⟩,v30,hx33⟩;have v37:=zt v26 v30;refine zw<|yS 1<|zz<|w_seq<|yC (decide (g28<((4:Nat):Int))) (λhc38=>?_) λhc38=>?_
 ·have dhc38:=of_decide_eq_true hc38;refine w_skip<|n_then<|w_seq<|w_block<|zw<|yO 5 [.prop (0<=g28/\g28<((4:Nat):Int)),.cell ⟨b18,(0+g28.toNat*1),none⟩ (.string (cch ((0+g28.toNat*1))))] (⟨(zh (by omega)),yc (cch_cell (by omega))⟩)<|ze ?_;rw [show cch (0+g28.toNat*1)=cch g28.toNat from by rw [show 0+g28.toNat*1=g28.toNat from by omega]];refine zn<|yO 6 [.cell ⟨b1,65,none⟩ (.int .i64 P.castle),.prop (0<=g28)] (⟨yc (spCells_65 P),(zh (by omega))⟩)<|zz<|yC ((bitsV .and .i64 (P.castle.fdiv (2^(min g28.toNat IntKind.i64.bits))) 1)==1) (λhc39=>?_) λhc39=>?_
  ·have dhc39:=eq_of_beq hc39;have hs1:=castAcc_size P.castle g28.toNat (by omega);have hs2:=cch_size (i:=g28.toNat) (by omega);refine w_region<|yO 4 [.prop (((castAcc P.castle g28.toNat).size+(cch g28.toNat).size:Nat)<=9223372036854775807)] (zh (by omega))<|ze<|n_block<|n_then<|w_region<|zs 2 [rz 1 b1,(3,.int .i8 (turnOf P.turn)),(4,.string ((castAcc P.castle g28.toNat)++(cch g28.toNat))),(10,.slice (some ⟨b18,0,none⟩) 4 4),iz 11 ((4:Nat):Int),iz 12 (IntKind.i64.wrap (g28+1))]<|ze ?_;rw [zi (g28+1) (by omega) (by omega)];rw [show (((castAcc P.castle g28.toNat)++(cch g28.toNat)):ByteArray)=castAcc P.castle (g28+1).toNat from by rw [castAcc_succ (by omega),castBit,hc39];rfl];exact zl (g28+1) ⟨by omega,v30,trivial⟩
  have dhc39:=ne_of_beq_false hc39;refine w_skip<|n_block<|n_then<|w_region<|yS 2<|yW 12 (zi (g28+1) (by omega) (by omega))<|ze ?_;rw [show ((castAcc P.castle g28.toNat):ByteArray)=castAcc P.castle (g28+1).toNat from by rw [castAcc_succ (by omega),castBit,hc39];rfl];exact zl (g28+1) ⟨by omega,v30,trivial⟩
 have dhc38:=of_decide_eq_false hc38;obtain rfl:g28=4:=by omega
 refine w_exit<|x_then<|x_then<|x_hit<|n_then<|w_cut (γ:=ByteArray) (λg40=>[(1,pz b1),(3,.int .i8 (turnOf P.turn)),(4,.string g40)]) (λg40 w_=>Mod [] w29 w_/\g40=(castStr P.castle)) ?_ ?_
 ·refine zw<|yS 2<|zz<|yC ((castAcc P.castle 4).toList==(⟨#[]⟩:ByteArray).toList) (λhc44=>?_) λhc44=>?_
  ·exact w_region<|yS 1<|ze<|zb (⟨#[45]⟩) ⟨yt,(by simp only [castStr,hc44,cond_true,cond_false])⟩
  exact w_skip<|zb (castAcc P.castle 4) ⟨yt,(by simp only [castStr,hc44,cond_true,cond_false])⟩
 rintro _ w41 ⟨v42,rfl⟩;have v48:=zt v37 v42;refine w_seq<|w_cut (γ:=Unit) (λ_=>[(1,pz b1),(3,.int .i8 (turnOf P.turn)),(4,.string (castStr P.castle)),(66,.bool ((((((((decide (P.turn<0))||(decide (P.turn>1)))||(decide (P.castle<0)))||(decide (P.castle>15)))||(decide (P.ep<(-1))))||(decide (P.ep>63)))||(decide (P.half<0)))||(decide (P.full<0))))]) (λ_ w_=>Mod [] w41 w_) ?_ ?_
 ·refine w_region<|yO 4 [.cell ⟨b1,64,none⟩ (.int .i64 P.turn)] (yc (spCells_64 P))<|yE 32 (.bool (decide (P.turn<0))) ?_;cases hc52:(decide (P.turn<0))
  ·refine yO 5 [.cell ⟨b1,64,none⟩ (.int .i64 P.turn)] (yc (spCells_64 P))<|yE 37 (.bool (decide (P.turn>1))) ?_;cases hc53:(decide (P.turn>1))
   ·refine yO 5 [.cell ⟨b1,65,none⟩ (.int .i64 P.castle)] (yc (spCells_65 P))<|yE 42 (.bool (decide (P.castle<0))) ?_;cases hc54:(decide (P.castle<0))
    ·refine yO 5 [.cell ⟨b1,65,none⟩ (.int .i64 P.castle)] (yc (spCells_65 P))<|yE 47 (.bool (decide (P.castle>15))) ?_;cases hc55:(decide (P.castle>15))
     ·refine yO 5 [.cell ⟨b1,66,none⟩ (.int .i64 P.ep)] (yc (spCells_66 P))<|yE 52 (.bool (decide (P.ep<(-1)))) ?_;cases hc56:(decide (P.ep<(-1)))
      ·refine yO 5 [.cell ⟨b1,66,none⟩ (.int .i64 P.ep)] (yc (spCells_66 P))<|yE 57 (.bool (decide (P.ep>63))) ?_;cases hc57:(decide (P.ep>63))
       ·refine yO 5 [.cell ⟨b1,67,none⟩ (.int .i64 P.half)] (yc (spCells_67 P))<|yE 62 (.bool (decide (P.half<0))) ?_;cases hc58:(decide (P.half<0))
        ·exact yO 4 [.cell ⟨b1,68,none⟩ (.int .i64 P.full)] (yc (spCells_68 P))<|ze<|zb () yt
        exact yS 4<|ze<|zb () yt
       exact yS 9<|ze<|zb () yt
      exact yS 14<|ze<|zb () yt
     exact yS 19<|ze<|zb () yt
    exact yS 24<|ze<|zb () yt
   exact yS 29<|ze<|zb () yt
  exact yS 34<|ze<|zb () yt
 intro _ w49 v50;have v62:=zt v48 v50;have hc63:((((((((decide (P.turn<0))||(decide (P.turn>1)))||(decide (P.castle<0)))||(decide (P.castle>15)))||(decide (P.ep<(-1))))||(decide (P.ep>63)))||(decide (P.half<0)))||(decide (P.full<0)))=false:=(by simp only [Bool.or_eq_false_iff,decide_eq_false_iff_not];omega);refine w_cond (b:=((((((((decide (P.turn<0))||(decide (P.turn>1)))||(decide (P.castle<0)))||(decide (P.castle>15)))||(decide (P.ep<(-1))))||(decide (P.ep>63)))||(decide (P.half<0)))||(decide (P.full<0)))) (by kernel_rfl) (λhx=>absurd (hc63.symm.trans hx) (by decide)) (λ_=>?_);refine w_skip<|n_then<|w_seq<|w_tail1 12 2 [0,1,3,4,5,6,7,8,9,10,11] (by kernel_rfl) (by kernel_rfl)<|zrv 11 [(69,.agg (bdArr P.bd)),(71,.int .i8 (turnOf P.turn)),(72,.string (castStr P.castle)),(75,.int .i8 (IntKind.i8.wrap P.ep)),iz 77 P.half,iz 79 P.full] [.row ⟨b1,0,none⟩ 64 (bdArr P.bd),.cell ⟨b1,66,none⟩ (.int .i64 P.ep),.cell ⟨b1,67,none⟩ (.int .i64 P.half),.cell ⟨b1,68,none⟩ (.int .i64 P.full)] [.agg (bdArr P.bd),.int .i64 P.ep,.int .i64 P.half,.int .i64 P.full] (λ_ hC=>⟨(At.part (At.on ya hC) (bdArr_size _) (spCells_part P)),At.cell (At.on ya hC) (spCells_66 P),At.cell (At.on ya hC) (spCells_67 P),At.cell (At.on ya hC) (spCells_68 P)⟩)<|re_end (by kernel_rfl) (λa ha w64 v65=>(?_:EReg _ _ _ _ _ _ 12 2 _ w64) a ha);have v69:=zt v62 v65;refine e_call 56 [.agg (bdArr P.bd)] (some 70) (by kernel_rfl) v65 (c56 P.bd yg hP.bd) ?_;rintro _ w70 ⟨b72,rfl,v71,u73,hb74⟩;refine ⟨_,rfl,v71,?_⟩;have hb75:=Nat.le_trans v69.size hb74;have v79:=zt v69 v71;intro w80 v81;have u84:=At.on u73 v81;have v86:=zt v79 v81;rw [(show ((IntKind.i8.wrap P.ep):Int)=P.ep from i8_in' (by have:=hP.ep;omega) (by have:=hP.ep;omega))];refine zC (some 80) (c55 u84 yg (turnOf P.turn) P.ep P.half P.full (castStr P.castle) (mkBoard_kings _) (turnOf_or _)) ?_;rintro _ w87 ⟨p89,rfl,v88,u90,u91,hb92⟩;refine ⟨_,rfl,?_⟩;have hb93:=Nat.le_trans v86.size hb92;have u96:=At.on u84 v88;have v98:=zt v86 v88;exact yS 1<|ze<|only_n<|n_then<|w_ret<|y1 (⟨p89,b72,rfl,v98,u90,u96,by omega,by omega⟩)
theorem c29{c:GC}{p b:Nat}{vm:Value}{S:Ps}{w:World}(hp:At w p (.cells (psCells b vm S) 110 (0,0))){B:Bd}(hb:At w b (.cells (bdCells B) 135 (0,0)))(hG:Glob c w)(hpre:MvPre B S)(hbase:c.base<=p)(hca:Cache w vm B S)(x y z:Int)(hex:∃i,i<(allL B S).length/\eqM (mvAt (allL B S) i) x y z=true)(hr:∀M∈allL B S,MvOk M):
  CQ 29 [.pointer (some ⟨p,0,none⟩),.agg #[.int .i64 x,.int .i64 y,.int .i64 z]] w (λe w'=>∃q M vm',e=.returned (.pointer (some ⟨q,0,none⟩))/\Mod [p] w w'/\At w' p (.cells (psCells b vm' S) 110 (0,0))/\Cached w' vm' B S/\At w' q (.cells (mvCells (.pointer none) M) 98 (0,0))/\w.heap.size<=q/\M∈allL B S/\eqM M x y z=true):=by
 have v0:Mod [p] w w:=Mod.refl _ _;refine en func29 ntmps29 ?_;refine zw<|zA (#[.int .i64 x,.int .i64 y,.int .i64 z]) 30 (some 3) ?_;intro b1 w2 hn3;have hb4:c.base<=b1:=Glob.lt hG hn3;have hb5:=Nat.le_trans v0.size hn3.base;have v6:=hn3.mod;have he9:=Cache.on hca v6;have v11:=Mod.trans v0 (Mod.of_nil v6);refine yS 1<|zz<|w_seq<|zw<|yV 2 [.row ⟨b1,0,none⟩ 3 (#[.int .i64 x,.int .i64 y,.int .i64 z])] [.agg (#[.int .i64 x,.int .i64 y,.int .i64 z])] (At.row ya rfl)<|zC (some 8) (c57 (S:=S) ya ya yg hpre hbase he9 x y z hex hr) ?_;rintro _ w13 ⟨q15,M16,vm17,rfl,v14,u18,hca19,u20,hb21,hin22,heq23⟩;refine ⟨_,rfl,?_⟩;have hb24:=Nat.le_trans v11.size hb21;have v28:=Mod.fresh' v11 v14 (by simp<;>omega);exact yS 1<|zx<|yS 2<|zz<|yT<|zw<|yS 2<|zz<|w_ret<|r_then<|y1 (⟨q15,M16,vm17,rfl,v28,u18,hca19,u20,by omega,hin22,heq23⟩)
theorem c28_0{w:World}:
  CR 28 [.int .i64 0] w (.iface 89 (.agg #[])):=by
 refine en func28 ntmps28 ?_;exact zw<|yS 1<|zz<|w_seq<|zw<|yS 1<|zz<|w_block<|zw<|yS 2<|zz<|yT<|zw<|yS 3<|zz<|w_ret<|r_block<|r_then<|y1 (⟨rfl,yt⟩)
theorem c28_1{w:World}:
  CR 28 [.int .i64 1] w (.iface 90 (.agg #[])):=by
 refine en func28 ntmps28 ?_;exact zw<|yS 1<|zz<|w_seq<|zw<|yS 1<|zz<|w_block<|zw<|yS 2<|zz<|yF<|zw<|yS 2<|zz<|yT<|zw<|yS 3<|zz<|w_ret<|r_block<|r_then<|y1 (⟨rfl,yt⟩)
theorem c28_2{w:World}:
  CR 28 [.int .i64 2] w (.iface 91 (.agg #[])):=by
 refine en func28 ntmps28 ?_;exact zw<|yS 1<|zz<|w_seq<|zw<|yS 1<|zz<|w_block<|zw<|yS 2<|zz<|yF<|zw<|yS 2<|zz<|yF<|zw<|yS 2<|zz<|yT<|zw<|yS 3<|zz<|w_ret<|r_block<|r_then<|y1 (⟨rfl,yt⟩)
def noneIn(f:Nat->Bool)(n i:Nat):Bool:=(List.range i).all λj=>!(decide (n<=j)&&f j)
theorem noneIn_succ(f:Nat->Bool)(n i:Nat):noneIn f n (i+1)=(noneIn f n i&&!(decide (n<=i)&&f i)):=by
 simp [noneIn,List.range_succ,List.all_append]
theorem noneIn_le{f:Nat->Bool}{n i:Nat}(h:i<=n):noneIn f n i=true:=by
 simp only [noneIn,List.all_eq_true,List.mem_range];intro j hj;simp [show ¬n<=j by omega]
theorem carry_sub(x:BitVec 64)(n:Nat)(hn:n<64):∀i,i<=64->BitVec.carry i x (~~~ BitVec.twoPow 64 n) true=(decide (i<=n)||!noneIn x.getLsbD n i):=by
 intro i;induction i with
 |zero=>intro _;simp [BitVec.carry_zero]
 |succ i ih=>
  intro hi;rw [BitVec.carry_succ,ih (by omega),noneIn_succ];have hy:(~~~ BitVec.twoPow 64 n).getLsbD i=!decide (n=i):=by
   simp [BitVec.getLsbD_twoPow,hn];omega
  rw [hy];rcases Nat.lt_trichotomy i n with h|h|h
  ·simp [Bool.atLeastTwo,show i<=n by omega,show i+1<=n by omega,show ¬n=i by omega]
  ·subst h;simp [Bool.atLeastTwo,noneIn_le,show ¬i+1<=i by omega]
  ·simp [Bool.atLeastTwo,show ¬i<=n by omega,show ¬i+1<=n by omega,show ¬n=i by omega,show n<=i by omega];cases x.getLsbD i<;>cases noneIn x.getLsbD n i<;>rfl
theorem sub_twoPow(x:BitVec 64)(n:Nat)(hn:n<64)(i:Nat)(hi:i<64):(x-BitVec.twoPow 64 n).getLsbD i=(x.getLsbD i^^(decide (n<=i)&&noneIn x.getLsbD n i)):=by
 have e:x-BitVec.twoPow 64 n=x+~~~ BitVec.twoPow 64 n+BitVec.setWidth 64 (BitVec.ofBool true):=by
  rw [BitVec.sub_eq_add_neg,BitVec.neg_eq_not_add,←BitVec.add_assoc];rfl
 rw [e,BitVec.getLsbD_add_add_bool hi,carry_sub x n hn i (by omega)];have hy:(~~~ BitVec.twoPow 64 n).getLsbD i=!decide (n=i):=by
  simp [BitVec.getLsbD_twoPow,hn];omega
 rw [hy];rcases Nat.lt_trichotomy i n with h|h|h
 ·simp [show i<=n by omega,show ¬n<=i by omega,show ¬n=i by omega]
 ·subst h;simp [noneIn_le]
 simp [show ¬i<=n by omega,show n<=i by omega,show ¬n=i by omega]
theorem sub_two(x:BitVec 64)(k:Nat)(hk:k<64)(i:Nat)(hi:i<64):(x-BitVec.twoPow 64 (k+1)).getLsbD i=(x.getLsbD i^^(decide (k<i)&&noneIn x.getLsbD (k+1) i)):=by
 by_cases h:k+1<64
 ·rw [sub_twoPow x (k+1) h i hi];rfl
 have e:BitVec.twoPow 64 (k+1)=0#64:=by
  have:k=63:=by omega
  subst this;decide
 rw [e];simp [show ¬k<i by omega]
theorem rev_get(x:BitVec 64)(i:Nat)(hi:i<64):x.reverse.getLsbD i=x.getLsbD (63-i):=by
 rw [BitVec.getLsbD_reverse,BitVec.getMsbD_eq_getLsbD];simp [hi]
theorem rev_two(k:Nat)(hk:k<64):(BitVec.twoPow 64 k).reverse=BitVec.twoPow 64 (63-k):=by
 apply BitVec.eq_of_getLsbD_eq;intro i hi;rw [rev_get _ _ hi,BitVec.getLsbD_twoPow,BitVec.getLsbD_twoPow];simp [hk,show 63-k<64 by omega];omega
theorem two_two(k:Nat)(_:k<64):2#64*BitVec.twoPow 64 k=BitVec.twoPow 64 (k+1):=by
 apply BitVec.eq_of_toNat_eq;simp [BitVec.toNat_twoPow,Nat.pow_succ,Nat.mul_comm,Nat.shiftLeft_eq]
def lineV(o p m:BitVec 64):BitVec 64:=(((o&&&m)-2#64*p)^^^((o&&&m).reverse-2#64*p.reverse).reverse)&&&m
theorem lineV_get(o m:BitVec 64)(k i:Nat)(hk:k<64)(hi:i<64):
  (lineV o (BitVec.twoPow 64 k) m).getLsbD i=(m.getLsbD i&&(decide (i≠k)&&noneIn (λj=>o.getLsbD j&&m.getLsbD j) (min i k+1) (max i k))):=by
 unfold lineV;rw [rev_two k hk,two_two k hk,two_two (63-k) (by omega),BitVec.getLsbD_and,BitVec.getLsbD_xor,rev_get _ _ hi,sub_two _ k hk i hi,sub_two _ (63-k) (by omega) (63-i) (by omega),rev_get _ _ (by omega),
  show 63-(63-i)=i by omega]
 have hf:(o&&&m).getLsbD=λj=>o.getLsbD j&&m.getLsbD j:=by funext j;exact BitVec.getLsbD_and
 rcases Nat.lt_trichotomy i k with h|h|h
 ·have e:noneIn (o&&&m).reverse.getLsbD (63-k+1) (63-i)=noneIn (λj=>o.getLsbD j&&m.getLsbD j) (i+1) k:=by
   rw [Bool.eq_iff_iff];simp only [noneIn,List.all_eq_true,List.mem_range];constructor
   ·intro hh j hj;by_cases hj':i+1<=j
    ·have:=hh (63-j) (by omega);rw [rev_get _ _ (by omega),show 63-(63-j)=j by omega,BitVec.getLsbD_and] at this;simpa [show 63-k+1<=63-j by omega,hj'] using this
    simp [hj']
   intro hh j hj;by_cases hj':63-k+1<=j
   ·have:=hh (63-j) (by omega);rw [rev_get _ _ (by omega),BitVec.getLsbD_and];simpa [show i+1<=63-j by omega,hj'] using this
   simp [hj']
  simp only [e,show ¬k<i by omega,show 63-k<63-i by omega,Nat.min_eq_left (Nat.le_of_lt h),Nat.max_eq_right (Nat.le_of_lt h),show ¬i=k by omega,ne_eq,not_false_eq_true,decide_true];cases m.getLsbD i<;>cases (o&&&m).getLsbD i<;>simp
 ·subst h;simp
 simp only [hf,show k<i by omega,show ¬63-k<63-i by omega,Nat.min_eq_right (Nat.le_of_lt h),Nat.max_eq_left (Nat.le_of_lt h),show ¬i=k by omega,ne_eq,not_false_eq_true,decide_true];cases m.getLsbD i<;>cases o.getLsbD i<;>simp
abbrev V(x:Int):BitVec 64:=BitVec.ofInt 64 x
theorem wrap64(n:Int):IntKind.u64.wrap n=n%18446744073709551616:=by simp [IntKind.wrap,IntKind.bits,IntKind.signed]
def U64(x:Int):Prop:=0<=x/\x<18446744073709551616
theorem U64.wrap(n:Int):U64 (IntKind.u64.wrap n):=by rw [wrap64];unfold U64;omega
theorem U64.nat{x:Int}(h:U64 x):((V x).toNat:Int)=x:=by
 unfold U64 at h;rw [BitVec.toNat_ofInt];simp;omega
theorem V_wrap(n:Int):V (IntKind.u64.wrap n)=V n:=by
 apply BitVec.eq_of_toNat_eq;rw [wrap64,BitVec.toNat_ofInt,BitVec.toNat_ofInt];simp
theorem V_toNat(b:BitVec 64):V (b.toNat:Int)=b:=by
 apply BitVec.eq_of_toNat_eq;rw [BitVec.toNat_ofInt];have:=b.isLt;omega
theorem V_wrapNat(b:BitVec 64):V (IntKind.u64.wrap b.toNat)=b:=by rw [V_wrap,V_toNat]
theorem V_and(a b:Int):V (bitsV .and .u64 a b)=V a&&&V b:=V_wrapNat _
theorem V_or(a b:Int):V (bitsV .or .u64 a b)=V a|||V b:=V_wrapNat _
theorem V_xor(a b:Int):V (bitsV .xor .u64 a b)=V a^^^V b:=V_wrapNat _
theorem U_bits(op:BinOp)(a b:Int):U64 (bitsV op .u64 a b):=by
 unfold bitsV;split<;>first|exact U64.wrap _|(unfold U64;omega)
theorem V_band(a b:Int):V (band a b)=V a&&&V b:=V_and a b
theorem V_bor(a b:Int):V (bor a b)=V a|||V b:=V_or a b
theorem V_max:V (if IntKind.u64.signed then-1 else IntKind.u64.max)=BitVec.allOnes 64:=by decide
theorem V_bnot (a : Int) : V (bnot a) = ~~~ V a := by
 unfold bnot
 rw [V_xor, V_max]
 exact (BitVec.allOnes_xor (x := V a))
theorem V_sub(a b:Int):V (IntKind.u64.wrap (a-b))=V a-V b:=by
 rw [V_wrap,show V a=V (a-b)+V b from by rw [←BitVec.ofInt_add];congr 1;omega,BitVec.add_sub_cancel]
theorem V_two(a:Int):V (IntKind.u64.wrap (2*a))=2#64*V a:=by rw [V_wrap];exact BitVec.ofInt_mul ..
theorem V_shlN(x:Int)(k:Nat):V (x*2^k)=V x<<<k:=by
 apply BitVec.eq_of_toNat_eq;rw [BitVec.toNat_shiftLeft,BitVec.toNat_ofInt,BitVec.toNat_ofInt,Nat.shiftLeft_eq];apply Int.ofNat.inj;show ((((x*2^k)%((2^64:Nat):Int)).toNat:Nat):Int)=((((x%((2^64:Nat):Int)).toNat*2^k%2^64:Nat)):Int);rw [Int.natCast_emod,Int.natCast_mul,Int.toNat_of_nonneg (by omega),Int.toNat_of_nonneg (by omega)];show x*2^k%18446744073709551616=x%18446744073709551616*2^k%18446744073709551616
 conv=>lhs;rw [Int.mul_emod]
 conv=>rhs;rw [Int.mul_emod]
 simp
theorem V_shrN{x:Int}(h:U64 x)(k:Nat):V (x.fdiv (2^k))=V x>>>k:=by
 apply BitVec.eq_of_toNat_eq;rw [BitVec.toNat_ushiftRight,Nat.shiftRight_eq_div_pow];have e:=h.nat;generalize hn:(V x).toNat=n at*
 have hl:n<2^64:=by rw [←hn];exact (V x).isLt
 rw [←e,Int.fdiv_eq_ediv_of_nonneg _ (by exact Int.pow_nonneg (by decide))];have e2:(n:Int)/2^k=((n/2^k:Nat):Int):=by simp
 rw [e2];rw [show V ((n/2^k:Nat):Int)=BitVec.ofNat 64 (n/2^k) from BitVec.ofInt_natCast ..,BitVec.toNat_ofNat];exact Nat.mod_eq_of_lt (Nat.lt_of_le_of_lt (Nat.div_le_self _ _) hl)
theorem V_shlU(x:Int){k:Int}(h:k<=64):V (shlU x k)=V x<<<k.toNat:=by
 unfold shlU;rw [V_wrap,Nat.min_eq_left (by simp [IntKind.bits];omega),V_shlN]
theorem V_shrU{x k:Int}(hx:U64 x)(h:k<=64):V (shrU x k)=V x>>>k.toNat:=by
 unfold shrU;rw [Nat.min_eq_left (by simp [IntKind.bits];omega),V_shrN hx]
theorem U_band(a b:Int):U64 (band a b):=U_bits _ _ _
theorem U_bor(a b:Int):U64 (bor a b):=U_bits _ _ _
theorem U_bnot(a:Int):U64 (bnot a):=U_bits _ _ _
theorem V_inj{x y:Int}(hx:U64 x)(hy:U64 y)(h:V x=V y):x=y:=by
 rw [←hx.nat,←hy.nat,h]
theorem V_zero_iff{x:Int}(hx:U64 x):x=0↔∀i,i<64->(V x).getLsbD i=false:=by
 constructor
 ·rintro rfl i _;simp
 intro h;refine V_inj hx (by unfold U64;omega) (BitVec.eq_of_getLsbD_eq λi hi=>?_);rw [h i hi];simp
theorem revS_V{x:Int}(hx:U64 x)(m k:Int)(hk:k<=64):V (revS x m k)=((V x>>>k.toNat)&&&V m)|||((V x&&&V m)<<<k.toNat):=by
 have hk':min k.toNat IntKind.u64.bits=k.toNat:=Nat.min_eq_left (by simp [IntKind.bits];omega);unfold revS;rw [V_or,V_and,V_wrap,hk',V_shlN,V_and,V_shrN hx]
theorem U_revS(x m k:Int):U64 (revS x m k):=U_bits _ _ _
theorem rev_step(y:BitVec 64)(m:BitVec 64)(k:Nat)(i:Nat)(hi:i<64):
  (((y>>>k)&&&m)|||((y&&&m)<<<k)).getLsbD i=((y.getLsbD (k+i)&&m.getLsbD i)||(!decide (i<k)&&(y.getLsbD (i-k)&&m.getLsbD (i-k)))):=by
 simp only [BitVec.getLsbD_or,BitVec.getLsbD_and,BitVec.getLsbD_shiftLeft,BitVec.getLsbD_ushiftRight,hi,decide_true,Bool.true_and]
def swapMask(m:BitVec 64)(k:Nat):Bool:=(List.range 64).all λi=>m.getLsbD i==((i/k)%2==0)
theorem rev_swap(y:BitVec 64){m:BitVec 64}{k:Nat}(hm:swapMask m k=true)(hk:0<k)(i:Nat)(hi:i<64):
  (((y>>>k)&&&m)|||((y&&&m)<<<k)).getLsbD i=y.getLsbD (if (i/k)%2=0 then k+i else i-k):=by
 rw [rev_step y m k i hi];have hm':∀i,i<64->m.getLsbD i=((i/k)%2==0):=by
  intro i hi;have:=List.all_eq_true.1 hm i (List.mem_range.2 hi);exact eq_of_beq this
 by_cases h:(i/k)%2=0
 ·rw [hm' i hi];by_cases h2:i<k
  ·simp [h,h2]
  have e:(i-k)/k%2=1:=by
   have:i/k=(i-k)/k+1:=Nat.div_eq_sub_div hk (by omega);omega
  rw [hm' (i-k) (by omega)];simp [h,e]
 have hlt:¬i<k:=by
  intro hl;exact h (by rw [Nat.div_eq_of_lt hl])
 have e:(i-k)/k%2=0:=by
  have:i/k=(i-k)/k+1:=Nat.div_eq_sub_div hk (by omega);omega
 rw [hm' i hi,hm' (i-k) (by omega)];simp [h,e,hlt]
def revIdx(i k:Nat):Nat:=if (i/k)%2=0 then k+i else i-k
theorem revIdx_lt:∀i,i<64->∀k∈[1,2,4,8,16,32],revIdx i k<64:=by decide
theorem revIdx_all:∀i,i<64->revIdx (revIdx (revIdx (revIdx (revIdx (revIdx i 32) 16) 8) 4) 2) 1=63-i:=by decide
theorem rev64_V{x:Int}(hx:U64 x):V (rev64 x)=(V x).reverse:=by
 apply BitVec.eq_of_getLsbD_eq;intro i hi;have hl:=revIdx_lt;have s1:=revS_V hx (6148914691236517205) (1) (by decide);rw [show Int.toNat 1=1 from rfl] at s1;have s2:=revS_V (U_revS x 6148914691236517205 1) (3689348814741910323) (2) (by decide);rw [show Int.toNat 2=2 from rfl] at s2;have s3:=revS_V (U_revS (revS x 6148914691236517205 1) 3689348814741910323 2) (1085102592571150095) (4) (by decide);rw [show Int.toNat 4=4 from rfl] at s3;have s4:=revS_V (U_revS (revS (revS x 6148914691236517205 1) 3689348814741910323 2) 1085102592571150095 4) (71777214294589695) (8) (by decide);rw [show Int.toNat 8=8 from rfl] at s4;have s5:=revS_V (U_revS (revS (revS (revS x 6148914691236517205 1) 3689348814741910323 2) 1085102592571150095 4) 71777214294589695 8) (281470681808895) (16) (by decide);rw [show Int.toNat 16=16 from rfl] at s5;have u5:=U_revS (revS (revS (revS (revS x 6148914691236517205 1) 3689348814741910323 2) 1085102592571150095 4) 71777214294589695 8) 281470681808895 16;unfold rev64 revBytes;simp only [];generalize revS (revS (revS (revS (revS x 6148914691236517205 1) 3689348814741910323 2) 1085102592571150095 4) 71777214294589695 8) 281470681808895 16=y5 at*
 have e6:V (bitsV .or .u64 (y5.fdiv (2^(min (32:Int).toNat IntKind.u64.bits))) (IntKind.u64.wrap (y5*2^(min (32:Int).toNat IntKind.u64.bits))))=((V y5>>>32)&&&(4294967295#64))|||((V y5&&&4294967295#64)<<<32):=by
  rw [V_or,V_wrap,show min (32:Int).toNat IntKind.u64.bits=32 from by decide,V_shrN u5,V_shlN];apply BitVec.eq_of_getLsbD_eq;intro i hi;have hm:∀i,i<64->(4294967295#64).getLsbD i=decide (i<32):=by decide
  simp only [BitVec.getLsbD_or,BitVec.getLsbD_and,BitVec.getLsbD_shiftLeft,BitVec.getLsbD_ushiftRight,hi,decide_true,Bool.true_and,hm i hi];by_cases h:i<32
  ·simp [h]
  rw [BitVec.getLsbD_of_ge (V y5) (32+i) (by omega),hm (i-32) (by omega)];simp [h,show i-32<32 by omega]
 rw [e6,rev_swap _ (by decide) (by decide) i hi,←revIdx];rw [s5,rev_swap _ (by decide) (by decide) _ (hl _ hi 32 (by decide)),←revIdx];rw [s4,rev_swap _ (by decide) (by decide) _ (hl _ (hl _ hi 32 (by decide)) 16 (by decide)),←revIdx];rw [s3,rev_swap _ (by decide) (by decide) _ (hl _ (hl _ (hl _ hi 32 (by decide)) 16 (by decide)) 8 (by decide)),←revIdx];rw [s2,rev_swap _ (by decide) (by decide) _ (hl _ (hl _ (hl _ (hl _ hi 32 (by decide)) 16 (by decide)) 8 (by decide)) 4 (by decide)),←revIdx];rw [s1,rev_swap _ (by decide) (by decide) _ (hl _ (hl _ (hl _ (hl _ (hl _ hi 32 (by decide)) 16 (by decide)) 8 (by decide)) 4 (by decide)) 2 (by decide)),←revIdx];show (V x).getLsbD (revIdx (revIdx (revIdx (revIdx (revIdx (revIdx i 32) 16) 8) 4) 2) 1)=_;rw [revIdx_all i hi,rev_get _ _ hi]
theorem linA_V{o p m:Int}(hp:U64 p):V (linA o p m)=lineV (V o) (V p) (V m):=by
 unfold linA lineV;simp only [];rw [V_and,V_xor,V_sub,V_two,V_and,rev64_V (U64.wrap _),V_sub,V_two,rev64_V (U_bits _ _ _),rev64_V hp,V_and]
def sb(x:Int)(s:Nat):Bool:=(V x).getLsbD (63-s)
theorem i64w{x:Int}(h:-9223372036854775808<=x)(h':x<=9223372036854775807):IntKind.i64.wrap x=x:=by
 simp [IntKind.wrap,IntKind.bits,IntKind.signed];omega
theorem V_bbSq{sq:Int}(h:0<=sq/\sq<=63):V (bbSq sq)=BitVec.twoPow 64 (63-sq.toNat):=by
 obtain ⟨n,hn⟩:∃n:Nat,sq=n:=⟨sq.toNat,by omega⟩;subst hn;have hn:n<64:=by omega
 clear h;revert n;decide
theorem U_bbSq(sq:Int):U64 (bbSq sq):=U64.wrap _
theorem sb_bbSq{sq:Int}(h:0<=sq/\sq<=63){t:Nat}(ht:t<64):sb (bbSq sq) t=decide ((t:Int)=sq):=by
 unfold sb;rw [V_bbSq h,BitVec.getLsbD_twoPow];simp [show 63-sq.toNat<64 by omega];omega
theorem sb_band(a b:Int)(t:Nat):sb (band a b) t=(sb a t&&sb b t):=by unfold sb;rw [V_band,BitVec.getLsbD_and]
theorem sb_bor(a b:Int)(t:Nat):sb (bor a b) t=(sb a t||sb b t):=by unfold sb;rw [V_bor,BitVec.getLsbD_or]
theorem sb_bnot(a:Int){t:Nat}(ht:t<64):sb (bnot a) t=!sb a t:=by unfold sb;rw [V_bnot,BitVec.getLsbD_not];simp [show 63-t<64 by omega]
theorem sb_zero{x:Int}(hx:U64 x):x=0↔∀t,t<64->sb x t=false:=by
 rw [V_zero_iff hx];unfold sb;constructor
 ·intro h t ht;exact h _ (by omega)
 intro h i hi;have:=h (63-i) (by omega);rwa [show 63-(63-i)=i by omega] at this
theorem sb_ext{x y:Int}(hx:U64 x)(hy:U64 y)(h:∀t,t<64->sb x t=sb y t):x=y:=by
 refine V_inj hx hy (BitVec.eq_of_getLsbD_eq λi hi=>?_);have:=h (63-i) (by omega);unfold sb at this
 rwa [show 63-(63-i)=i by omega] at this
theorem ne_zero_sb{x:Int}(hx:U64 x):(x !=0)=(List.range 64).any (sb x):=by
 rw [Bool.eq_iff_iff,bne_iff_ne,ne_eq,sb_zero hx];simp only [List.any_eq_true,List.mem_range];constructor
 ·intro h;refine Classical.byContradiction λhn=>h λt ht=>?_;cases hh:sb x t
  ·rfl
  exact absurd ⟨t,ht,hh⟩ hn
 rintro ⟨t,ht,hh⟩ h;rw [h t ht] at hh;cases hh
theorem sb_shlU(x:Int){k:Nat}(h:k<=64){t:Nat}(ht:t<64):sb (shlU x (k:Int)) t=(decide (t+k<64)&&sb x (t+k)):=by
 unfold sb;rw [V_shlU x (by omega),BitVec.getLsbD_shiftLeft];simp only [Int.toNat_natCast,show 63-t<64 by omega,decide_true,Bool.true_and];by_cases hk:t+k<64
 ·simp [hk,show ¬63-t<k by omega,show 63-t-k=63-(t+k) by omega]
 simp [hk,show 63-t<k by omega]
theorem sb_shrU{x:Int}(hx:U64 x){k:Nat}(h:k<=64){t:Nat}(ht:t<64):sb (shrU x (k:Int)) t=(decide (k<=t)&&sb x (t-k)):=by
 unfold sb;rw [V_shrU hx (by omega),BitVec.getLsbD_ushiftRight];simp only [Int.toNat_natCast];by_cases hk:k<=t
 ·simp [hk,show k+(63-t)=63-(t-k) by omega]
 rw [BitVec.getLsbD_of_ge _ _ (by omega)];simp [hk]
theorem U_shlU(x k:Int):U64 (shlU x k):=U64.wrap _
theorem occB_sb{b:Int}(hb:U64 b){sq:Int}(h:0<=sq/\sq<=63):occB b sq=sb b sq.toNat:=by
 obtain ⟨n,hn⟩:∃n:Nat,sq=n:=⟨sq.toNat,by omega⟩;subst hn;have hn:n<64:=by omega
 have e1:IntKind.i64.wrap (IntKind.i64.wrap (n:Int)+1)=((n+1:Nat):Int):=by rw [i64w (x:=(n:Int)) (by omega) (by omega),i64w (by omega) (by omega)];omega
 have e2:bitsV .and .u64 (IntKind.u64.wrap ((n+1:Nat):Int)) 63=(((n+1)%64:Nat):Int):=by
  clear e1 h;revert n;decide
 have hm:(n+1)%64<64:=Nat.mod_lt _ (by decide);have e3:∀m:Nat,m<64->min (IntKind.u64.wrap (64-((m:Nat):Int))).toNat IntKind.u64.bits=64-m:=by decide
 have e4:∀m:Nat,m<64->min (((m:Nat):Int)).toNat IntKind.u64.bits=m:=by decide
 have e5:occB b n=((V b<<<((n+1)%64))|||(V b>>>(64-(n+1)%64))).getLsbD 0:=by
  unfold occB rotl;rw [e1,e2,e3 _ hm,e4 _ hm,Bool.eq_iff_iff,beq_iff_eq];have hV:V (bitsV .and .u64 (bitsV .or .u64 (IntKind.u64.wrap (b*2^((n+1)%64))) (b.fdiv (2^(64-(n+1)%64)))) 1)=((V b<<<((n+1)%64))|||(V b>>>(64-(n+1)%64)))&&&1#64:=by
   rw [V_and,V_or,V_wrap,V_shlN,V_shrN hb];rfl
  generalize ((V b<<<((n+1)%64))|||(V b>>>(64-(n+1)%64)))=y at*
  constructor
  ·intro h1;rw [h1] at hV;have:=congrArg (λz:BitVec 64=>z.getLsbD 0) hV;simp only [BitVec.getLsbD_and] at this;have e:(V 1).getLsbD 0=true:=by decide
   rw [e] at this;have:=this.symm;rw [Bool.and_eq_true] at this;exact this.1
  intro h1;refine V_inj (U_bits _ _ _) (by unfold U64;omega) ?_;rw [hV];apply BitVec.eq_of_getLsbD_eq;intro i hi;have e:∀i,i<64->(1#64).getLsbD i=decide (i=0):=by decide
  have e':∀i,i<64->(V 1).getLsbD i=decide (i=0):=by decide
  rw [BitVec.getLsbD_and,e i hi,e' i hi];by_cases h0:i=0
  ·subst h0;simp [h1]
  simp [h0]
 rw [e5];unfold sb;rw [BitVec.getLsbD_or,BitVec.getLsbD_shiftLeft,BitVec.getLsbD_ushiftRight];by_cases h0:n=63
 ·subst h0;simp
 simp only [show (n+1)%64=n+1 by omega,show 0<n+1 by omega,decide_true,Bool.not_true,Bool.false_and,Bool.and_false,Bool.false_or,Int.toNat_natCast,Nat.add_zero,show 64-(n+1)=63-n by omega]
def df(s t:Nat):Int:=((t%8:Nat):Int)-((s%8:Nat):Int)
def dr(s t:Nat):Int:=((t/8:Nat):Int)-((s/8:Nat):Int)
def sgn(n:Int):Int:=if n<0 then-1 else if n>0 then 1 else 0
def way(s t:Nat):Int:=sgn (df s t)+8*sgn (dr s t)
def gap(s t:Nat):Nat:=max (df s t).natAbs (dr s t).natAbs-1
def btw(s t:Nat):List Nat:=(List.range (gap s t)).map λ(k:Nat)=>((s:Int)+way s t*((k:Int)+1)).toNat
def strt(s t:Nat):Bool:=df s t==0||dr s t==0
def slnt(s t:Nat):Bool:=df s t==dr s t||df s t==-dr s t
def clr(o:Nat->Bool)(s t:Nat):Bool:=(btw s t).all λj=>!o j
def lineChk(m:Nat->Int)(al:Nat->Nat->Bool):Bool:=
 (List.range 64).all λs=>(List.range 64).all λt=>
  ((Nat.testBit (m s).toNat (63-t)&&!(Nat.beq t s))==(al s t&&!(Nat.beq t s)))&&
  (!(al s t)||(List.range 64).all λj=>((Nat.testBit (m s).toNat (63-j)&&(Nat.ble (min (63-t) (63-s)+1) (63-j)&&Nat.blt (63-j) (max (63-t) (63-s))))==(btw s t).contains j))
def alF(s t:Nat):Bool:=df s t==0
def alR(s t:Nat):Bool:=dr s t==0
def alD(s t:Nat):Bool:=df s t==-dr s t
def alA(s t:Nat):Bool:=df s t==dr s t
theorem chkF:lineChk (λs=>fileAt (sqFile s)) alF=true:=by decide+kernel
theorem chkR:lineChk (λs=>rankAt (sqRank s)) alR=true:=by decide+kernel
theorem chkD:lineChk (λs=>diagAt s) alA=true:=by decide+kernel
theorem chkA:lineChk (λs=>antiAt s) alD=true:=by decide+kernel
theorem U64.bit{x:Int}(h:U64 x)(i:Nat):x.toNat.testBit i=(V x).getLsbD i:=by
 have e:=h.nat;have:x.toNat=(V x).toNat:=by omega
 rw [this];rfl
theorem lineChk_get{m:Nat->Int}{al:Nat->Nat->Bool}(h:lineChk m al=true)(hm:∀s,s<64->U64 (m s)){s t:Nat}(hs:s<64)(ht:t<64):
  (sb (m s) t&&decide (t≠s))=(al s t&&decide (t≠s))/\
  (al s t=true->∀j,j<64->(sb (m s) j&&(decide (min (63-t) (63-s)+1<=63-j)&&decide (63-j<max (63-t) (63-s))))=(btw s t).contains j):=by
 have h1:=List.all_eq_true.1 (List.all_eq_true.1 h s (List.mem_range.2 hs)) t (List.mem_range.2 ht);rw [Bool.and_eq_true] at h1;obtain ⟨ha,hb⟩:=h1;have hbt:∀i,i<64->(m s).toNat.testBit (63-i)=sb (m s) i:=λi _=>(hm s hs).bit _;have hne:(!(Nat.beq t s))=decide (t≠s):=by
  by_cases e:t=s
  ·subst e;simp
  have:Nat.beq t s=false:=by
   cases hh:Nat.beq t s
   ·rfl
   exact absurd (Nat.eq_of_beq_eq_true hh) e
  simp [this,e]
 constructor
 ·have:=eq_of_beq ha
  rwa [hbt t ht,hne] at this
 intro hal j hj;rw [hal] at hb;simp only [Bool.not_true,Bool.false_or] at hb;have:=eq_of_beq (List.all_eq_true.1 hb j (List.mem_range.2 hj));rw [hbt j hj] at this;rw [←this];congr 1;congr 1
 ·rw [Bool.eq_iff_iff,decide_eq_true_iff];exact ⟨λh=>Nat.ble_eq_true_of_le h,λh=>Nat.le_of_ble_eq_true h⟩
 rw [Bool.eq_iff_iff,decide_eq_true_iff];exact ⟨λh=>Nat.ble_eq_true_of_le h,λh=>Nat.le_of_ble_eq_true h⟩
theorem line_get{m:Nat->Int}{al:Nat->Nat->Bool}(h:lineChk m al=true)(hm:∀s,s<64->U64 (m s))(o:Int){s t:Nat}(hs:s<64)(ht:t<64)(hB:al s t=true->∀j∈btw s t,j<64):
  sb (linA o (bbSq s) (m s)) t=(decide (t≠s)&&(al s t&&clr (sb o) s t)):=by
 obtain ⟨h1,h2⟩:=lineChk_get h hm hs ht;have e:sb (linA o (bbSq s) (m s)) t=(sb (m s) t&&(decide (63-t≠63-s)&&noneIn (λj=>(V o).getLsbD j&&(V (m s)).getLsbD j) (min (63-t) (63-s)+1) (max (63-t) (63-s)))):=by
  unfold sb;rw [linA_V (U_bbSq _),V_bbSq (by omega),lineV_get _ _ _ _ (by omega) (by omega)];rfl
 rw [e];have hd:decide (63-t≠63-s)=decide (t≠s):=by
  by_cases hh:t=s
  ·subst hh;simp
  simp [hh];omega
 rw [hd];cases hal:al s t
 ·rw [hal] at h1;simp only [Bool.false_and] at h1;simp only [Bool.false_and,Bool.and_false];rw [←Bool.and_assoc,h1,Bool.false_and]
 rw [hal] at h1;simp only [Bool.true_and] at h1;rw [←Bool.and_assoc,h1];congr 1;rw [Bool.true_and,Bool.eq_iff_iff];have h3:=h2 hal;unfold noneIn clr;simp only [List.all_eq_true,List.mem_range];constructor
 ·intro hh j hj;have hj':(btw s t).contains j=true:=List.contains_iff_mem.2 hj;by_cases hlt:j<64
  ·have h4:=h3 j hlt;rw [hj'] at h4;simp only [Bool.and_eq_true,decide_eq_true_eq] at h4;have h5:=hh (63-j) h4.2.2;simp only [h4.2.1,decide_true,Bool.true_and] at h5;have h6:(V (m s)).getLsbD (63-j)=true:=h4.1;rw [h6,Bool.and_true] at h5;exact h5
  exfalso;exact hlt (hB hal j hj)
 intro hh i hi;by_cases hle:min (63-t) (63-s)+1<=i
 ·simp only [hle,decide_true,Bool.true_and];cases ho:(V o).getLsbD i
  ·rfl
  cases hmm:(V (m s)).getLsbD i
  ·rfl
  exfalso;have h4:=h3 (63-i) (by omega);have e1:63-(63-i)=i:=by omega
  have e2:sb (m s) (63-i)=true:=by unfold sb;rw [e1];exact hmm
  rw [e1,e2] at h4;simp only [hle,hi,decide_true,Bool.true_and] at h4;have h5:=hh (63-i) (List.contains_iff_mem.1 h4.symm);have e3:sb o (63-i)=true:=by unfold sb;rw [e1];exact ho
  rw [e3] at h5;cases h5
 simp [hle]
def btwChk:Bool:=(List.range 64).all λs=>(List.range 64).all λt=>!(strt s t||slnt s t)||((btw s t).all (λj=>Nat.blt j 64)&&((btw s t).reverse==btw t s))
theorem btwChk_ok:btwChk=true:=by decide+kernel
theorem btw_get{s t:Nat}(hs:s<64)(ht:t<64)(h:strt s t=true\/slnt s t=true):(∀j∈btw s t,j<64)/\(btw s t).reverse=btw t s:=by
 have h1:=List.all_eq_true.1 (List.all_eq_true.1 btwChk_ok s (List.mem_range.2 hs)) t (List.mem_range.2 ht);have h2:(strt s t||slnt s t)=true:=by simpa using h
 rw [h2] at h1;simp only [Bool.not_true,Bool.false_or,Bool.and_eq_true] at h1;exact ⟨λj hj=>Nat.le_of_ble_eq_true (List.all_eq_true.1 h1.1 j hj),eq_of_beq h1.2⟩
theorem clr_symm{o:Nat->Bool}{s t:Nat}(hs:s<64)(ht:t<64)(h:strt s t=true\/slnt s t=true):clr o s t=clr o t s:=by
 unfold clr;rw [←(btw_get hs ht h).2,List.all_reverse]
def tabOk(l:List Int):Bool:=l.all λx=>decide (0<=x)&&decide (x<18446744073709551616)
theorem tab_get{l:List Int}(h:tabOk l=true)(i:Nat):U64 (l.getD i 0):=by
 rw [List.getD_eq_getElem?_getD];cases hh:l[i]? with
 |none=>show U64 0;unfold U64;omega
 |some x=>
  have:=List.all_eq_true.1 h x (List.mem_of_getElem? hh);simp only [Bool.and_eq_true,decide_eq_true_eq] at this;exact this
theorem U_knight(s:Int):U64 (knightAt s):=tab_get (by decide) _
theorem U_king(s:Int):U64 (kingAt s):=tab_get (by decide) _
theorem U_diag(s:Int):U64 (diagAt s):=tab_get (by decide) _
theorem U_anti(s:Int):U64 (antiAt s):=tab_get (by decide) _
theorem U_rank(s:Int):U64 (rankAt s):=tab_get (by decide) _
theorem U_file(s:Int):U64 (fileAt s):=tab_get (by decide) _
theorem al_strt{s t:Nat}:strt s t=(alF s t||alR s t):=rfl
theorem al_slnt{s t:Nat}:slnt s t=(alA s t||alD s t):=rfl
theorem sb_hvA(o:Int){s t:Nat}(hs:s<64)(ht:t<64):sb (hvA o s) t=(decide (t≠s)&&(strt s t&&clr (sb o) s t)):=by
 have e:sb (hvA o s) t=(sb (linA o (bbSq s) (rankAt (sqRank s))) t||sb (linA o (bbSq s) (fileAt (sqFile s))) t):=by
  unfold hvA sb;rw [V_or,BitVec.getLsbD_or]
 rw [e,line_get chkR (λ_ _=>U_rank _) o hs ht (λh=>(btw_get hs ht (Or.inl (by rw [al_strt,h,Bool.or_true]))).1),
  line_get chkF (λ_ _=>U_file _) o hs ht (λh=>(btw_get hs ht (Or.inl (by rw [al_strt,h,Bool.true_or]))).1),al_strt]
 cases decide (t≠s)<;>cases alF s t<;>cases alR s t<;>cases clr (sb o) s t<;>rfl
theorem sb_diaA(o:Int){s t:Nat}(hs:s<64)(ht:t<64):sb (diaA o s) t=(decide (t≠s)&&(slnt s t&&clr (sb o) s t)):=by
 have e:sb (diaA o s) t=(sb (linA o (bbSq s) (diagAt s)) t||sb (linA o (bbSq s) (antiAt s)) t):=by
  unfold diaA sb;rw [V_or,BitVec.getLsbD_or]
 rw [e,line_get chkD (λ_ _=>U_diag _) o hs ht (λh=>(btw_get hs ht (Or.inr (by rw [al_slnt,h,Bool.true_or]))).1),
  line_get chkA (λ_ _=>U_anti _) o hs ht (λh=>(btw_get hs ht (Or.inr (by rw [al_slnt,h,Bool.or_true]))).1),al_slnt]
 cases decide (t≠s)<;>cases alA s t<;>cases alD s t<;>cases clr (sb o) s t<;>rfl
def near(s t:Nat):Bool:=decide (df s t*df s t<=1)&&decide (dr s t*dr s t<=1)
def jump(s t:Nat):Bool:=df s t*df s t+dr s t*dr s t==5
def tabChk(m:Nat->Int)(al:Nat->Nat->Bool):Bool:=(List.range 64).all λs=>(List.range 64).all λt=>Nat.testBit (m s).toNat (63-t)==al s t
theorem chkKing:tabChk (λs=>kingAt s) (λs t=>near s t&&!(Nat.beq t s))=true:=by decide+kernel
theorem chkKnight:tabChk (λs=>knightAt s) jump=true:=by decide+kernel
theorem tabChk_get{m:Nat->Int}{al:Nat->Nat->Bool}(h:tabChk m al=true)(hm:∀s,s<64->U64 (m s)){s t:Nat}(hs:s<64)(ht:t<64):sb (m s) t=al s t:=by
 have h1:=eq_of_beq (List.all_eq_true.1 (List.all_eq_true.1 h s (List.mem_range.2 hs)) t (List.mem_range.2 ht));rw [(hm s hs).bit] at h1;exact h1
theorem sb_king{s t:Nat}(hs:s<64)(ht:t<64):sb (kingAt s) t=(near s t&&decide (t≠s)):=by
 rw [tabChk_get chkKing (λ_ _=>U_king _) hs ht];congr 1;by_cases e:t=s
 ·subst e;simp
 have:Nat.beq t s=false:=by
  cases hh:Nat.beq t s
  ·rfl
  exact absurd (Nat.eq_of_beq_eq_true hh) e
 simp [this,e]
theorem sb_knight{s t:Nat}(hs:s<64)(ht:t<64):sb (knightAt s) t=jump s t:=tabChk_get chkKnight (λ_ _=>U_knight _) hs ht
def kindOf(x:Int):Int:=if x>6 then x-6 else x
def sideOf(x:Int):Int:=if x>6 then 1 else 0
def occS(bd:Nat->Int):Nat->Bool:=λj=>bd j !=0
def hitS(bd:Nat->Int)(s t:Nat):Bool:=
 decide (s≠t)&&(bd s !=0&&(
  if kindOf (bd s)=1 then near s t
  else if kindOf (bd s)=5 then jump s t
  else if kindOf (bd s)=6 then df s t*df s t==1&&dr s t==1-2*sideOf (bd s)
  else if kindOf (bd s)=3 then strt s t&&clr (occS bd) s t
  else if kindOf (bd s)=4 then slnt s t&&clr (occS bd) s t
  else (strt s t||slnt s t)&&clr (occS bd) s t))
def attS(bd:Nat->Int)(sq:Nat)(by_:Int):Bool:=(List.range 64).any λi=>bd i !=0&&(sideOf (bd i)==by_&&hitS bd i sq)
structure BRep(B:Bd)(bd:Nat->Int):Prop where
 u:∀k,U64 (B.bb k)
 bit:∀k:Nat,1<=k->k<=12->∀s,s<64->sb (B.bb k) s=(bd s==(k:Int))
 uw:U64 B.white
 ub:U64 B.black
 ue:U64 B.empty
 white:∀s,s<64->sb B.white s=(decide (1<=bd s)&&decide (bd s<=6))
 black:∀s,s<64->sb B.black s=decide (7<=bd s)
 empty:∀s,s<64->sb B.empty s=(bd s==0)
 rng:∀s,s<64->0<=bd s/\bd s<=12
theorem BRep.of{B:Bd}{bd:Nat->Int}(h:BRep B bd){p:Int}(h0:1<=p)(h1:p<=12){s:Nat}(hs:s<64):sb (Bd.of B p) s=(bd s==p):=by
 unfold Bd.of;rw [if_pos ⟨h0,h1⟩,h.bit p.toNat (by omega) (by omega) s hs,show ((p.toNat:Nat):Int)=p by omega]
theorem BRep.uof{B:Bd}{bd:Nat->Int}(h:BRep B bd)(p:Int):U64 (Bd.of B p):=by
 unfold Bd.of;split
 ·exact h.u _
 unfold U64;omega
theorem BRep.pieceAt{B:Bd}{bd:Nat->Int}(h:BRep B bd){s:Nat}(hs:s<64):pieceAt B s=bd s:=by
 have hr:=h.rng s hs;have hb:∀i,i∈List.range 12->occB (B.of ((i:Int)+1)) s=(bd s==(i:Int)+1):=by
  intro i hi;have:=List.mem_range.1 hi;rw [occB_sb (h.uof _) (by omega),Int.toNat_natCast,h.of (by omega) (by omega) hs]
 unfold Go.Proofs.YtgnhellfhjoaaaaGreatDoor.pieceAt;split
 ·rename_i i hf;have hm:=List.mem_of_find?_eq_some hf;have:=List.find?_some hf;rw [hb i hm,beq_iff_eq] at this;exact this.symm
 rename_i hf;rw [List.find?_eq_none] at hf;by_cases h0:bd s=0
 ·exact h0.symm
 exfalso;have hm:(bd s-1).toNat∈List.range 12:=List.mem_range.2 (by omega);have:=hf _ hm;rw [hb _ hm] at this;apply this;rw [beq_iff_eq];omega
theorem BRep.occ{B:Bd}{bd:Nat->Int}(h:BRep B bd){s:Nat}(hs:s<64):sb (bnot B.empty) s=(bd s !=0):=by
 rw [sb_bnot _ hs,h.empty s hs];rfl
theorem clr_congr{o o':Nat->Bool}{s t:Nat}(hs:s<64)(ht:t<64)(hal:strt s t=true\/slnt s t=true)(h:∀j,j<64->o j=o' j):clr o s t=clr o' s t:=by
 unfold clr;have hb:=(btw_get hs ht hal).1;rw [Bool.eq_iff_iff,List.all_eq_true,List.all_eq_true];exact ⟨λhh j hj=>by rw [←h j (hb j hj)];exact hh j hj,λhh j hj=>by rw [h j (hb j hj)];exact hh j hj⟩
def symChk:Bool:=(List.range 64).all λs=>(List.range 64).all λt=>
 (strt s t==strt t s)&&((slnt s t==slnt t s)&&((near s t==near t s)&&((jump s t==jump t s)&&
 ((near s t==(decide (-1<=df s t)&&(decide (df s t<=1)&&(decide (-1<=dr s t)&&decide (dr s t<=1)))))&&
 ((!(near s t)||((strt s t||slnt s t)&&(btw s t).isEmpty))&&((df s t*df s t==1)==(df s t==1||df s t==-1)))))))
theorem symChk_ok:symChk=true:=by decide+kernel
structure Sym(s t:Nat):Prop where
 ystrt:strt s t=strt t s
 yslnt:slnt s t=slnt t s
 ynear:near s t=near t s
 yjump:jump s t=jump t s
 nearI:near s t=true↔(-1<=df s t/\df s t<=1/\-1<=dr s t/\dr s t<=1)
 nearB:near s t=true->(strt s t=true\/slnt s t=true)/\btw s t=[]
 one:df s t*df s t=1↔(df s t=1\/df s t=-1)
theorem sym{s t:Nat}(hs:s<64)(ht:t<64):Sym s t:=by
 have h1:=List.all_eq_true.1 (List.all_eq_true.1 symChk_ok s (List.mem_range.2 hs)) t (List.mem_range.2 ht);simp only [Bool.and_eq_true,beq_iff_eq] at h1;obtain ⟨a,b,c,d,e,f,g⟩:=h1;refine ⟨a,b,c,d,?_,?_,?_⟩
 ·rw [e];simp
 ·intro h;rw [h] at f;simpa using f
 have:=Bool.eq_iff_iff.1 g;simpa using this
theorem clr_nil{o:Nat->Bool}{s t:Nat}(h:btw s t=[]):clr o s t=true:=by unfold clr;rw [h];rfl
theorem any64{f:Nat->Bool}:(List.range 64).any f=true↔∃i,i<64/\f i=true:=by
 rw [List.any_eq_true];exact ⟨λ⟨i,h,h'⟩=>⟨i,List.mem_range.1 h,h'⟩,λ⟨i,h,h'⟩=>⟨i,List.mem_range.2 h,h'⟩⟩
theorem bandNe{a b:Int}:(band a b !=0)=true↔∃i,i<64/\sb a i=true/\sb b i=true:=by
 rw [ne_zero_sb (U_band a b),any64];simp only [sb_band,Bool.and_eq_true]
theorem nFileH:∀s,s<64->sb 18374403900871474942 s=decide (s%8≠7):=by decide
theorem nFileA:∀s,s<64->sb 9187201950435737471 s=decide (s%8≠0):=by decide
theorem nRank1:∀s,s<64->sb 72057594037927935 s=decide (8<=s):=by decide
theorem nRank8:∀s,s<64->sb 18446744073709551360 s=decide (s<56):=by decide
theorem band_bbSq{a:Int}{s:Nat}(hs:s<64):(band a (bbSq s) !=0)=sb a s:=by
 rw [Bool.eq_iff_iff,bandNe];constructor
 ·rintro ⟨i,hi,h1,h2⟩;rw [sb_bbSq (by omega) hi] at h2;have:i=s:=by have:=of_decide_eq_true h2;omega
  rw [←this];exact h1
 intro h;exact ⟨s,hs,h,by rw [sb_bbSq (by omega) hs];simp⟩
theorem sb_shl7(x:Int){t:Nat}(ht:t<64):sb (shlU x 7) t=(decide (t+7<64)&&sb x (t+7)):=sb_shlU x (k:=7) (by decide) ht
theorem sb_shl9(x:Int){t:Nat}(ht:t<64):sb (shlU x 9) t=(decide (t+9<64)&&sb x (t+9)):=sb_shlU x (k:=9) (by decide) ht
theorem sb_shr7{x:Int}(hx:U64 x){t:Nat}(ht:t<64):sb (shrU x 7) t=(decide (7<=t)&&sb x (t-7)):=sb_shrU hx (k:=7) (by decide) ht
theorem sb_shr9{x:Int}(hx:U64 x){t:Nat}(ht:t<64):sb (shrU x 9) t=(decide (9<=t)&&sb x (t-9)):=sb_shrU hx (k:=9) (by decide) ht
theorem sb_shl8(x:Int){t:Nat}(ht:t<64):sb (shl8 x) t=(decide (t+8<64)&&sb x (t+8)):=sb_shlU x (k:=8) (by decide) ht
theorem sb_shr8{x:Int}(hx:U64 x){t:Nat}(ht:t<64):sb (shr8 x) t=(decide (8<=t)&&sb x (t-8)):=sb_shrU hx (k:=8) (by decide) ht
def pawnHit(bd:Nat->Int)(p:Int)(up:Int)(i s:Nat):Prop:=bd i=p/\(df i s=1\/df i s=-1)/\dr i s=up
theorem pawnB{B:Bd}{bd:Nat->Int}(h:BRep B bd){s:Nat}(hs:s<64):
  (band (bor (shlU (band (band (B.bb 12) 18374403900871474942) 72057594037927935) 7) (shlU (band (band (B.bb 12) 9187201950435737471) 72057594037927935) 9)) (bbSq s) !=0)=true↔
  ∃i,i<64/\pawnHit bd 12 (-1) i s:=by
 rw [band_bbSq hs,sb_bor,sb_shl7 _ hs,sb_shl9 _ hs];unfold pawnHit df dr;constructor
 ·intro hh;simp only [Bool.or_eq_true,Bool.and_eq_true,decide_eq_true_eq,sb_band] at hh;rcases hh with ⟨hl,⟨⟨h1,h2⟩,h3⟩⟩|⟨hl,⟨⟨h1,h2⟩,h3⟩⟩
  ·rw [h.bit 12 (by decide) (by decide) _ hl,beq_iff_eq] at h1;rw [nFileH _ hl,decide_eq_true_eq] at h2;rw [nRank1 _ hl,decide_eq_true_eq] at h3;exact ⟨s+7,hl,h1,by omega,by omega⟩
  rw [h.bit 12 (by decide) (by decide) _ hl,beq_iff_eq] at h1;rw [nFileA _ hl,decide_eq_true_eq] at h2;rw [nRank1 _ hl,decide_eq_true_eq] at h3;exact ⟨s+9,hl,h1,by omega,by omega⟩
 rintro ⟨i,hi,h1,h2,h3⟩;simp only [Bool.or_eq_true,Bool.and_eq_true,decide_eq_true_eq,sb_band];rcases h2 with h2|h2
 ·have e:i=s+7:=by omega
  subst e;exact Or.inl ⟨hi,⟨by rw [h.bit 12 (by decide) (by decide) _ hi,h1];rfl,by rw [nFileH _ hi,decide_eq_true_eq];omega⟩,by rw [nRank1 _ hi,decide_eq_true_eq];omega⟩
 have e:i=s+9:=by omega
 subst e;exact Or.inr ⟨hi,⟨by rw [h.bit 12 (by decide) (by decide) _ hi,h1];rfl,by rw [nFileA _ hi,decide_eq_true_eq];omega⟩,by rw [nRank1 _ hi,decide_eq_true_eq];omega⟩
theorem pawnW{B:Bd}{bd:Nat->Int}(h:BRep B bd){s:Nat}(hs:s<64):
  (band (bor (shrU (band (band (B.bb 6) 18374403900871474942) 18446744073709551360) 9) (shrU (band (band (B.bb 6) 9187201950435737471) 18446744073709551360) 7)) (bbSq s) !=0)=true↔
  ∃i,i<64/\pawnHit bd 6 1 i s:=by
 rw [band_bbSq hs,sb_bor,sb_shr9 (U_band _ _) hs,sb_shr7 (U_band _ _) hs];unfold pawnHit df dr;constructor
 ·intro hh;simp only [Bool.or_eq_true,Bool.and_eq_true,decide_eq_true_eq,sb_band] at hh;rcases hh with ⟨hl,⟨⟨h1,h2⟩,h3⟩⟩|⟨hl,⟨⟨h1,h2⟩,h3⟩⟩
  ·have hlt:s-9<64:=by omega
   rw [h.bit 6 (by decide) (by decide) _ hlt,beq_iff_eq] at h1;rw [nFileH _ hlt,decide_eq_true_eq] at h2;rw [nRank8 _ hlt,decide_eq_true_eq] at h3;exact ⟨s-9,hlt,h1,by omega,by omega⟩
  have hlt:s-7<64:=by omega
  rw [h.bit 6 (by decide) (by decide) _ hlt,beq_iff_eq] at h1;rw [nFileA _ hlt,decide_eq_true_eq] at h2;rw [nRank8 _ hlt,decide_eq_true_eq] at h3;exact ⟨s-7,hlt,h1,by omega,by omega⟩
 rintro ⟨i,hi,h1,h2,h3⟩;simp only [Bool.or_eq_true,Bool.and_eq_true,decide_eq_true_eq,sb_band];rcases h2 with h2|h2
 ·have e:s=i+9:=by omega
  subst e;have e':i+9-9=i:=by omega
  rw [e'];exact Or.inl ⟨by omega,⟨by rw [h.bit 6 (by decide) (by decide) _ hi,h1];rfl,by rw [nFileH _ hi,decide_eq_true_eq];omega⟩,by rw [nRank8 _ hi,decide_eq_true_eq];omega⟩
 have e:s=i+7:=by omega
 subst e;have e':i+7-7=i:=by omega
 rw [e'];exact Or.inr ⟨by omega,⟨by rw [h.bit 6 (by decide) (by decide) _ hi,h1];rfl,by rw [nFileA _ hi,decide_eq_true_eq];omega⟩,by rw [nRank8 _ hi,decide_eq_true_eq];omega⟩
variable{B:Bd}{bd:Nat->Int}
theorem kind_cases{x:Int}(h:1<=x/\x<=12):kindOf x=x-6*sideOf x/\(sideOf x=0/\x<=6\/sideOf x=1/\7<=x):=by
 unfold kindOf sideOf;split<;>simp<;>omega
theorem hit_line{i s:Nat}(hi:i<64)(hs:s<64)(f:Nat->Nat->Bool)(hf:f i s=f s i)(hal:f s i=true->strt s i=true\/slnt s i=true):
  (f i s&&clr (occS bd) i s)=(f s i&&clr (occS bd) s i):=by
 rw [hf];cases hh:f s i
 ·rfl
 rw [clr_symm hs hi (hal hh)]
theorem hitS_eq{i s:Nat}(hi:i<64)(hs:s<64)(h0:bd i≠0):hitS bd i s=(decide (i≠s)&&(
  if kindOf (bd i)=1 then near s i
  else if kindOf (bd i)=5 then jump s i
  else if kindOf (bd i)=6 then df i s*df i s==1&&dr i s==1-2*sideOf (bd i)
  else if kindOf (bd i)=3 then strt s i&&clr (occS bd) s i
  else if kindOf (bd i)=4 then slnt s i&&clr (occS bd) s i
  else (strt s i||slnt s i)&&clr (occS bd) s i)):=by
 have y:=sym hs hi;have e0:(bd i !=0)=true:=bne_iff_ne.2 h0;unfold hitS;rw [e0,Bool.true_and,y.ynear,y.yjump];have e3:=hit_line (bd:=bd) hi hs strt y.ystrt.symm Or.inl;have e4:=hit_line (bd:=bd) hi hs slnt y.yslnt.symm Or.inr;have e2:=hit_line (bd:=bd) hi hs (λa b=>strt a b||slnt a b) (by simp only [y.ystrt,y.yslnt]) (by simp);rw [e2,e3,e4]
theorem clr_occ(h:BRep B bd){s i:Nat}(hs:s<64)(hi:i<64)(hal:strt s i=true\/slnt s i=true):clr (sb (bnot B.empty)) s i=clr (occS bd) s i:=
 clr_congr hs hi hal λ_ hj=>h.occ hj
theorem sb_hv(h:BRep B bd){s i:Nat}(hs:s<64)(hi:i<64):sb (hvA (bnot B.empty) s) i=(decide (i≠s)&&(strt s i&&clr (occS bd) s i)):=by
 rw [sb_hvA _ hs hi];cases hh:strt s i
 ·rfl
 rw [clr_occ h hs hi (Or.inl hh)]
theorem sb_dia(h:BRep B bd){s i:Nat}(hs:s<64)(hi:i<64):sb (diaA (bnot B.empty) s) i=(decide (i≠s)&&(slnt s i&&clr (occS bd) s i)):=by
 rw [sb_diaA _ hs hi];cases hh:slnt s i
 ·rfl
 rw [clr_occ h hs hi (Or.inr hh)]
structure Sees(bd:Nat->Int)(o:Int)(s i:Nat)(q r b n k:Int):Prop where
 hit:bd i≠0->sideOf (bd i)=o->(hitS bd i s=true↔
  (bd i=q/\i≠s/\(strt s i=true\/slnt s i=true)/\clr (occS bd) s i=true)\/(bd i=r/\i≠s/\strt s i=true/\clr (occS bd) s i=true)\/
  (bd i=b/\i≠s/\slnt s i=true/\clr (occS bd) s i=true)\/(bd i=n/\jump s i=true)\/pawnHit bd (6+6*o) (1-2*o) i s\/(bd i=k/\i≠s/\near s i=true))
theorem jump_ne{s:Nat}:jump s s=false:=by unfold jump df dr;simp
theorem sees(hr:∀s,s<64->0<=bd s/\bd s<=12){o:Int}{s i:Nat}(hs:s<64)(hi:i<64):Sees bd o s i (2+6*o) (3+6*o) (4+6*o) (5+6*o) (1+6*o):=by
 refine ⟨λh0 hsd=>?_⟩;have hx:=hr i hi;obtain ⟨hk,hk2⟩:=kind_cases (x:=bd i) (by omega);rw [hitS_eq hi hs h0,hsd] at*
 have y1:=(sym hi hs).one;have hne:∀(p:Prop),i≠s/\p↔p/\i≠s:=λp=>And.comm;have hc:bd i=1+6*o\/bd i=2+6*o\/bd i=3+6*o\/bd i=4+6*o\/bd i=5+6*o\/bd i=6+6*o:=by omega
 unfold pawnHit;rcases hc with e|e|e|e|e|e
 ·rw [show kindOf (bd i)=1 by omega];simp only [if_true,Bool.and_eq_true,decide_eq_true_eq];constructor
  ·rintro ⟨h1,h2⟩;exact Or.inr (Or.inr (Or.inr (Or.inr (Or.inr ⟨e,h1,h2⟩))))
  rintro (⟨h,_⟩|⟨h,_⟩|⟨h,_⟩|⟨h,_⟩|⟨h,_⟩|⟨_,h1,h2⟩)<;>first|exact ⟨h1,h2⟩|(exfalso;omega)
 ·rw [show kindOf (bd i)=2 by omega];simp only [show (2:Int)=1↔False by decide,show (2:Int)=5↔False by decide,show (2:Int)=6↔False by decide,show (2:Int)=3↔False by decide,show (2:Int)=4↔False by decide,if_false,Bool.and_eq_true,Bool.or_eq_true,decide_eq_true_eq];constructor
  ·rintro ⟨h1,h2,h3⟩;exact Or.inl ⟨e,h1,h2,h3⟩
  rintro (⟨_,h1,h2,h3⟩|⟨h,_⟩|⟨h,_⟩|⟨h,_⟩|⟨h,_⟩|⟨h,_⟩)<;>first|exact ⟨h1,h2,h3⟩|(exfalso;omega)
 ·rw [show kindOf (bd i)=3 by omega];simp only [show (3:Int)=1↔False by decide,show (3:Int)=5↔False by decide,show (3:Int)=6↔False by decide,if_true,if_false,Bool.and_eq_true,decide_eq_true_eq];constructor
  ·rintro ⟨h1,h2,h3⟩;exact Or.inr (Or.inl ⟨e,h1,h2,h3⟩)
  rintro (⟨h,_⟩|⟨_,h1,h2,h3⟩|⟨h,_⟩|⟨h,_⟩|⟨h,_⟩|⟨h,_⟩)<;>first|exact ⟨h1,h2,h3⟩|(exfalso;omega)
 ·rw [show kindOf (bd i)=4 by omega];simp only [show (4:Int)=1↔False by decide,show (4:Int)=5↔False by decide,show (4:Int)=6↔False by decide,show (4:Int)=3↔False by decide,if_true,if_false,Bool.and_eq_true,decide_eq_true_eq];constructor
  ·rintro ⟨h1,h2,h3⟩;exact Or.inr (Or.inr (Or.inl ⟨e,h1,h2,h3⟩))
  rintro (⟨h,_⟩|⟨h,_⟩|⟨_,h1,h2,h3⟩|⟨h,_⟩|⟨h,_⟩|⟨h,_⟩)<;>first|exact ⟨h1,h2,h3⟩|(exfalso;omega)
 ·rw [show kindOf (bd i)=5 by omega];simp only [show (5:Int)=1↔False by decide,if_true,if_false,Bool.and_eq_true,decide_eq_true_eq];constructor
  ·rintro ⟨h1,h2⟩;exact Or.inr (Or.inr (Or.inr (Or.inl ⟨e,h2⟩)))
  rintro (⟨h,_⟩|⟨h,_⟩|⟨h,_⟩|⟨_,h2⟩|⟨h,_⟩|⟨h,_⟩)<;>first|exact ⟨λhh=>(by rw [hh,jump_ne] at h2;cases h2),h2⟩|(exfalso;omega)
 rw [show kindOf (bd i)=6 by omega];simp only [show (6:Int)=1↔False by decide,show (6:Int)=5↔False by decide,if_true,if_false,Bool.and_eq_true,decide_eq_true_eq,beq_iff_eq];constructor
 ·rintro ⟨h1,h2,h3⟩;exact Or.inr (Or.inr (Or.inr (Or.inr (Or.inl ⟨e,y1.1 h2,h3⟩))))
 rintro (⟨h,_⟩|⟨h,_⟩|⟨h,_⟩|⟨h,_⟩|⟨_,h2,h3⟩|⟨h,_⟩)<;>first|(refine ⟨λhh=>?_,y1.2 h2,h3⟩;subst hh;unfold df at h2;omega)|(exfalso;omega)
theorem attS_iff(hr:∀s,s<64->0<=bd s/\bd s<=12){o:Int}(ho:o=0\/o=1){s:Nat}(hs:s<64):attS bd s o=true↔∃i,i<64/\(
  (bd i=2+6*o/\i≠s/\(strt s i=true\/slnt s i=true)/\clr (occS bd) s i=true)\/(bd i=3+6*o/\i≠s/\strt s i=true/\clr (occS bd) s i=true)\/
  (bd i=4+6*o/\i≠s/\slnt s i=true/\clr (occS bd) s i=true)\/(bd i=5+6*o/\jump s i=true)\/pawnHit bd (6+6*o) (1-2*o) i s\/(bd i=1+6*o/\i≠s/\near s i=true)):=by
 unfold attS;rw [any64];simp only [Bool.and_eq_true,bne_iff_ne,beq_iff_eq];constructor
 ·rintro ⟨i,hi,h0,h1,h2⟩;exact ⟨i,hi,((sees hr hs hi).hit h0 h1).1 h2⟩
 rintro ⟨i,hi,h⟩;have hb:1+6*o<=bd i/\bd i<=6+6*o:=by
  unfold pawnHit at h;rcases h with ⟨h,_⟩|⟨h,_⟩|⟨h,_⟩|⟨h,_⟩|⟨h,_⟩|⟨h,_⟩<;>omega
 have h0:bd i≠0:=by omega
 have h1:sideOf (bd i)=o:=by unfold sideOf;split<;>omega
 exact ⟨i,hi,h0,h1,((sees hr hs hi).hit h0 h1).2 h⟩
variable{B:Bd}{bd:Nat->Int}
theorem bif_true{a b:Bool}:(bif a then true else b)=true↔a=true\/b=true:=by cases a<;>simp
theorem bif_false{a b:Bool}:(bif a then false else b)=true↔a=false/\b=true:=by cases a<;>simp
theorem beqz_false{x:Int}:(x==0)=false↔(x !=0)=true:=by cases h:(x==0)<;>simp [bne,h]
theorem borNe{a b:Int}:(bor a b !=0)=true↔(∃i,i<64/\sb a i=true)\/∃i,i<64/\sb b i=true:=by
 rw [ne_zero_sb (U_bor a b),any64];simp only [sb_bor,Bool.or_eq_true];constructor
 ·rintro ⟨i,hi,h|h⟩
  ·exact Or.inl ⟨i,hi,h⟩
  exact Or.inr ⟨i,hi,h⟩
 rintro (⟨i,hi,h⟩|⟨i,hi,h⟩)
 ·exact ⟨i,hi,Or.inl h⟩
 exact ⟨i,hi,Or.inr h⟩
theorem ex6{P1 P2 P3 P4 P5 P6:Nat->Prop}:(∃i,i<64/\(P1 i\/P2 i\/P3 i\/P4 i\/P5 i\/P6 i))↔
  (∃i,i<64/\P1 i)\/(∃i,i<64/\P2 i)\/(∃i,i<64/\P3 i)\/(∃i,i<64/\P4 i)\/(∃i,i<64/\P5 i)\/(∃i,i<64/\P6 i):=by
 constructor
 ·rintro ⟨i,hi,h|h|h|h|h|h⟩
  ·exact Or.inl ⟨i,hi,h⟩
  ·exact Or.inr (Or.inl ⟨i,hi,h⟩)
  ·exact Or.inr (Or.inr (Or.inl ⟨i,hi,h⟩))
  ·exact Or.inr (Or.inr (Or.inr (Or.inl ⟨i,hi,h⟩)))
  ·exact Or.inr (Or.inr (Or.inr (Or.inr (Or.inl ⟨i,hi,h⟩))))
  exact Or.inr (Or.inr (Or.inr (Or.inr (Or.inr ⟨i,hi,h⟩))))
 rintro (⟨i,hi,h⟩|⟨i,hi,h⟩|⟨i,hi,h⟩|⟨i,hi,h⟩|⟨i,hi,h⟩|⟨i,hi,h⟩)
 ·exact ⟨i,hi,Or.inl h⟩
 ·exact ⟨i,hi,Or.inr (Or.inl h)⟩
 ·exact ⟨i,hi,Or.inr (Or.inr (Or.inl h))⟩
 ·exact ⟨i,hi,Or.inr (Or.inr (Or.inr (Or.inl h)))⟩
 ·exact ⟨i,hi,Or.inr (Or.inr (Or.inr (Or.inr (Or.inl h))))⟩
 exact ⟨i,hi,Or.inr (Or.inr (Or.inr (Or.inr (Or.inr h))))⟩
theorem q_test(h:BRep B bd){s:Nat}(hs:s<64){p:Int}(h1:1<=p)(h2:p<=12):
  (band (bor (diaA (bnot B.empty) s) (hvA (bnot B.empty) s)) (Bd.of B p) !=0)=true↔∃i,i<64/\(bd i=p/\i≠s/\(strt s i=true\/slnt s i=true)/\clr (occS bd) s i=true):=by
 rw [bandNe];constructor
 ·rintro ⟨i,hi,ha,hb⟩;rw [sb_bor,sb_dia h hs hi,sb_hv h hs hi] at ha;rw [h.of h1 h2 hi,beq_iff_eq] at hb;simp only [Bool.or_eq_true,Bool.and_eq_true,decide_eq_true_eq] at ha;rcases ha with ⟨a,b,c⟩|⟨a,b,c⟩
  ·exact ⟨i,hi,hb,a,Or.inr b,c⟩
  exact ⟨i,hi,hb,a,Or.inl b,c⟩
 rintro ⟨i,hi,hb,a,b,c⟩;refine ⟨i,hi,?_,by rw [h.of h1 h2 hi,beq_iff_eq];exact hb⟩;rw [sb_bor,sb_dia h hs hi,sb_hv h hs hi];simp only [Bool.or_eq_true,Bool.and_eq_true,decide_eq_true_eq];rcases b with b|b
 ·exact Or.inr ⟨a,b,c⟩
 exact Or.inl ⟨a,b,c⟩
theorem r_test(h:BRep B bd){s:Nat}(hs:s<64){p:Int}(h1:1<=p)(h2:p<=12):
  (band (hvA (bnot B.empty) s) (Bd.of B p) !=0)=true↔∃i,i<64/\(bd i=p/\i≠s/\strt s i=true/\clr (occS bd) s i=true):=by
 rw [bandNe];constructor
 ·rintro ⟨i,hi,ha,hb⟩;rw [sb_hv h hs hi] at ha;rw [h.of h1 h2 hi,beq_iff_eq] at hb;simp only [Bool.and_eq_true,decide_eq_true_eq] at ha;exact ⟨i,hi,hb,ha⟩
 rintro ⟨i,hi,hb,ha⟩;refine ⟨i,hi,?_,by rw [h.of h1 h2 hi,beq_iff_eq];exact hb⟩;rw [sb_hv h hs hi];simpa only [Bool.and_eq_true,decide_eq_true_eq] using ha
theorem b_test(h:BRep B bd){s:Nat}(hs:s<64){p:Int}(h1:1<=p)(h2:p<=12):
  (band (diaA (bnot B.empty) s) (Bd.of B p) !=0)=true↔∃i,i<64/\(bd i=p/\i≠s/\slnt s i=true/\clr (occS bd) s i=true):=by
 rw [bandNe];constructor
 ·rintro ⟨i,hi,ha,hb⟩;rw [sb_dia h hs hi] at ha;rw [h.of h1 h2 hi,beq_iff_eq] at hb;simp only [Bool.and_eq_true,decide_eq_true_eq] at ha;exact ⟨i,hi,hb,ha⟩
 rintro ⟨i,hi,hb,ha⟩;refine ⟨i,hi,?_,by rw [h.of h1 h2 hi,beq_iff_eq];exact hb⟩;rw [sb_dia h hs hi];simpa only [Bool.and_eq_true,decide_eq_true_eq] using ha
theorem n_test(h:BRep B bd){s:Nat}(hs:s<64){p:Int}(h1:1<=p)(h2:p<=12):
  (band (knightAt s) (Bd.of B p) !=0)=true↔∃i,i<64/\(bd i=p/\jump s i=true):=by
 rw [bandNe];constructor
 ·rintro ⟨i,hi,ha,hb⟩;rw [sb_knight hs hi] at ha;rw [h.of h1 h2 hi,beq_iff_eq] at hb;exact ⟨i,hi,hb,ha⟩
 rintro ⟨i,hi,hb,ha⟩;exact ⟨i,hi,by rw [sb_knight hs hi];exact ha,by rw [h.of h1 h2 hi,beq_iff_eq];exact hb⟩
theorem k_test(h:BRep B bd){s:Nat}(hs:s<64){p:Int}(h1:1<=p)(h2:p<=12):
  (band (kingAt s) (Bd.of B p) !=0)=true↔∃i,i<64/\(bd i=p/\i≠s/\near s i=true):=by
 rw [bandNe];constructor
 ·rintro ⟨i,hi,ha,hb⟩;rw [sb_king hs hi] at ha;rw [h.of h1 h2 hi,beq_iff_eq] at hb;simp only [Bool.and_eq_true,decide_eq_true_eq] at ha;exact ⟨i,hi,hb,ha.2,ha.1⟩
 rintro ⟨i,hi,hb,h3,h4⟩;refine ⟨i,hi,?_,by rw [h.of h1 h2 hi,beq_iff_eq];exact hb⟩;rw [sb_king hs hi];simp only [Bool.and_eq_true,decide_eq_true_eq];exact ⟨h4,h3⟩
theorem pawn_near{i s:Nat}(hi:i<64)(hs:s<64){p u:Int}(hu:u=1\/u=-1)(h:pawnHit bd p u i s):near s i=true/\i≠s:=by
 obtain ⟨_,h2,h3⟩:=h;constructor
 ·refine (sym hs hi).nearI.2 ?_;unfold df dr at*;omega
 rintro rfl;unfold df at h2;omega
theorem early(h:BRep B bd){s:Nat}(hs:s<64){X:Int}{o:Int}(ho:o=0\/o=1)(hX:∀i,i<64->sb X i=(decide (1+6*o<=bd i)&&decide (bd i<=6+6*o)))(ha:attS bd s o=true):
  (bor (band (bor (diaA (bnot B.empty) s) (hvA (bnot B.empty) s)) X) (band (knightAt s) X)==0)=false:=by
 rw [beqz_false,borNe];obtain ⟨i,hi,hh⟩:=(attS_iff h.rng ho hs).1 ha;have hXi:1+6*o<=bd i->bd i<=6+6*o->sb X i=true:=λa b=>by rw [hX i hi];simp [a,b]
 have line:sb X i=true->i≠s->(strt s i=true\/slnt s i=true)->clr (occS bd) s i=true->sb (band (bor (diaA (bnot B.empty) s) (hvA (bnot B.empty) s)) X) i=true:=by
  intro h1 h2 h3 h4;rw [sb_band,sb_bor,sb_dia h hs hi,sb_hv h hs hi,h1,h4];rcases h3 with h3|h3<;>simp [h2,h3]
 rcases hh with ⟨e,h2,h3,h4⟩|⟨e,h2,h3,h4⟩|⟨e,h2,h3,h4⟩|⟨e,h2⟩|hp|⟨e,h2,h3⟩
 ·exact Or.inl ⟨i,hi,line (hXi (by omega) (by omega)) h2 h3 h4⟩
 ·exact Or.inl ⟨i,hi,line (hXi (by omega) (by omega)) h2 (Or.inl h3) h4⟩
 ·exact Or.inl ⟨i,hi,line (hXi (by omega) (by omega)) h2 (Or.inr h3) h4⟩
 ·exact Or.inr ⟨i,hi,by rw [sb_band,sb_knight hs hi,h2,hXi (by omega) (by omega)];rfl⟩
 ·obtain ⟨hn,hne⟩:=pawn_near hi hs (by omega) hp;obtain ⟨hl,hb⟩:=(sym hs hi).nearB hn;exact Or.inl ⟨i,hi,line (hXi (by have:=hp.1;omega) (by have:=hp.1;omega)) hne hl (clr_nil hb)⟩
 obtain ⟨hl,hb⟩:=(sym hs hi).nearB h3;exact Or.inl ⟨i,hi,line (hXi (by omega) (by omega)) h2 hl (clr_nil hb)⟩
theorem att1_eq(h:BRep B bd){turn:Int}(hT:turn=1\/turn=2){s:Nat}(hs:s<64):att1 B turn s=attS bd s (if turn=1 then 1 else 0):=by
 rw [Bool.eq_iff_iff];rcases hT with rfl|rfl
 ·have hX:∀i,i<64->sb B.black i=(decide (1+6*(1:Int)<=bd i)&&decide (bd i<=6+6*(1:Int))):=λi hi=>by
   rw [h.black i hi];have:=h.rng i hi;simp [this.2]
  have he:=early h hs (o:=1) (Or.inr rfl) hX;unfold att1;simp only [show ((1:Int)==2)=false from rfl,show ((1:Int)==1)=true from rfl,cond_false,cond_true,if_true];rw [bif_false,bif_true,bif_true,bif_true,bif_true,bif_true];rw [show newP 2 (otherC 1)=8 from rfl,show newP 3 (otherC 1)=9 from rfl,show newP 4 (otherC 1)=10 from rfl,show newP 5 (otherC 1)=11 from rfl,show newP 1 (otherC 1)=7 from rfl];rw [q_test h hs (by decide) (by decide),r_test h hs (by decide) (by decide),b_test h hs (by decide) (by decide),n_test h hs (by decide) (by decide),k_test h hs (by decide) (by decide),pawnB h hs];rw [←ex6];have:=attS_iff h.rng (o:=1) (Or.inr rfl) hs;rw [show (2:Int)+6*1=8 from rfl,show (3:Int)+6*1=9 from rfl,show (4:Int)+6*1=10 from rfl,show (5:Int)+6*1=11 from rfl,show (6:Int)+6*1=12 from rfl,show (1:Int)+6*1=7 from rfl,show (1:Int)-2*1=-1 from rfl] at this;rw [←this];exact ⟨λhh=>hh.2,λhh=>⟨he hh,hh⟩⟩
 have hX:∀i,i<64->sb B.white i=(decide (1+6*(0:Int)<=bd i)&&decide (bd i<=6+6*(0:Int))):=λi hi=>h.white i hi;have he:=early h hs (o:=0) (Or.inl rfl) hX;unfold att1;simp only [show ((2:Int)==2)=true from rfl,show ((2:Int)==1)=false from rfl,cond_false,cond_true,show ((2:Int)=1)=False by decide,if_false];rw [bif_false,bif_true,bif_true,bif_true,bif_true,bif_true];rw [show newP 2 (otherC 2)=2 from rfl,show newP 3 (otherC 2)=3 from rfl,show newP 4 (otherC 2)=4 from rfl,show newP 5 (otherC 2)=5 from rfl,show newP 1 (otherC 2)=1 from rfl];rw [q_test h hs (by decide) (by decide),r_test h hs (by decide) (by decide),b_test h hs (by decide) (by decide),n_test h hs (by decide) (by decide),k_test h hs (by decide) (by decide),pawnW h hs];rw [←ex6];have:=attS_iff h.rng (o:=0) (Or.inl rfl) hs;rw [show (2:Int)+6*0=2 from rfl,show (3:Int)+6*0=3 from rfl,show (4:Int)+6*0=4 from rfl,show (5:Int)+6*0=5 from rfl,show (6:Int)+6*0=6 from rfl,show (1:Int)+6*0=1 from rfl,show (1:Int)-2*0=1 from rfl] at this;rw [←this];exact ⟨λhh=>hh.2,λhh=>⟨he hh,hh⟩⟩
def SPb(P:SP):Prop:=∀i,i<64->0<=P.bd i/\P.bd i<=12
def atS(f r:Int):Int:=if f<0\/f>7\/r<0\/r>7 then-1 else 8*r+f
theorem sideOf_or(x:Int):0<=sideOf x/\sideOf x<=1:=by unfold sideOf;split<;>omega
theorem df_int{s t:Int}(hs:0<=s)(ht:0<=t):df s.toNat t.toNat=t%8-s%8:=by unfold df;omega
theorem dr_int{s t:Int}(hs:0<=s)(ht:0<=t):dr s.toNat t.toNat=t/8-s/8:=by unfold dr;omega
def stepSq(s t:Nat)(k:Int):Int:=(s:Int)+way s t*(k+1)
theorem stepSq_succ(s t:Nat)(k:Int):stepSq s t k+way s t=stepSq s t (k+1):=by unfold stepSq;rw [Int.mul_add (way s t) (k+1) 1];omega
def stepChk:Bool:=(List.range 64).all λs=>(List.range 64).all λt=>!(strt s t||slnt s t)||(Nat.beq s t||((decide (stepSq s t (gap s t)=t))&&
 (List.range (gap s t)).all λ(k:Nat)=>decide (0<=stepSq s t k)&&(decide (stepSq s t k<64)&&decide (stepSq s t k≠t))))
theorem stepChk_ok:stepChk=true:=by decide+kernel
theorem step_get{s t:Nat}(hs:s<64)(ht:t<64)(hal:strt s t=true\/slnt s t=true)(hne:s≠t):
  stepSq s t (gap s t)=t/\∀k:Int,0<=k->k<gap s t->0<=stepSq s t k/\stepSq s t k<64/\stepSq s t k≠t:=by
 have h1:=List.all_eq_true.1 (List.all_eq_true.1 stepChk_ok s (List.mem_range.2 hs)) t (List.mem_range.2 ht);have h2:(strt s t||slnt s t)=true:=by simpa using hal
 have h3:Nat.beq s t=false:=by
  cases hh:Nat.beq s t
  ·rfl
  exact absurd (Nat.eq_of_beq_eq_true hh) hne
 rw [h2,h3] at h1;simp only [Bool.not_true,Bool.false_or,Bool.and_eq_true,decide_eq_true_eq] at h1;refine ⟨h1.1,λk h0 hk=>?_⟩;have:=List.all_eq_true.1 h1.2 k.toNat (List.mem_range.2 (by omega));simp only [Bool.and_eq_true,decide_eq_true_eq] at this;rw [show ((k.toNat:Nat):Int)=k by omega] at this;exact this
theorem clr_step{o:Nat->Bool}{s t:Nat}:clr o s t=(List.range (gap s t)).all λ(k:Nat)=>!o (stepSq s t k).toNat:=by
 unfold clr btw stepSq;rw [List.all_map];rfl
theorem way_small(s t:Nat):-9<=way s t/\way s t<=9:=by unfold way sgn;split<;>split<;>(try split)<;>(try split)<;>omega
structure AlHyp(bd:Nat->Int)(s t:Int):Prop where
 hs:0<=s/\s<=63
 ht:0<=t/\t<=63
 ne:s≠t
 z:bd s.toNat≠0
theorem hit_king{bd:Nat->Int}{s t:Int}(h:AlHyp bd s t)(hk:kindOf (bd s.toNat)=1):
  (decide ((t%8-s%8)*(t%8-s%8)<=1)&&decide ((t/8-s/8)*(t/8-s/8)<=1))=hitS bd s.toNat t.toNat:=by
 have e1:decide (s.toNat≠t.toNat)=true:=by have:=h.ne;have:=h.hs;have:=h.ht;rw [decide_eq_true_eq];omega
 unfold hitS;rw [e1,bne_iff_ne.2 h.z,if_pos hk];unfold near;rw [df_int h.hs.1 h.ht.1,dr_int h.hs.1 h.ht.1];rfl
theorem hit_knight{bd:Nat->Int}{s t:Int}(h:AlHyp bd s t)(hk:kindOf (bd s.toNat)=5):
  ((t%8-s%8)*(t%8-s%8)+(t/8-s/8)*(t/8-s/8)==5)=hitS bd s.toNat t.toNat:=by
 have e1:decide (s.toNat≠t.toNat)=true:=by have:=h.ne;have:=h.hs;have:=h.ht;rw [decide_eq_true_eq];omega
 unfold hitS;rw [e1,bne_iff_ne.2 h.z,hk,if_neg (by decide),if_pos rfl];unfold jump;rw [df_int h.hs.1 h.ht.1,dr_int h.hs.1 h.ht.1];rfl
theorem hit_pawn{bd:Nat->Int}{s t:Int}(h:AlHyp bd s t)(hk:kindOf (bd s.toNat)=6):
  (((t%8-s%8)*(t%8-s%8)==1)&&((t/8-s/8)==(1-2*(sideOf (bd s.toNat)))))=hitS bd s.toNat t.toNat:=by
 have e1:decide (s.toNat≠t.toNat)=true:=by have:=h.ne;have:=h.hs;have:=h.ht;rw [decide_eq_true_eq];omega
 unfold hitS;rw [e1,bne_iff_ne.2 h.z,hk,if_neg (by decide),if_neg (by decide),if_pos rfl];rw [df_int h.hs.1 h.ht.1,dr_int h.hs.1 h.ht.1];rfl
def alK(k:Int)(s t:Nat):Bool:=if k=3 then strt s t else if k=4 then slnt s t else strt s t||slnt s t
theorem hit_far{bd:Nat->Int}{s t:Int}(h:AlHyp bd s t)(h1:kindOf (bd s.toNat)≠1)(h5:kindOf (bd s.toNat)≠5)(h6:kindOf (bd s.toNat)≠6):
  hitS bd s.toNat t.toNat=(alK (kindOf (bd s.toNat)) s.toNat t.toNat&&clr (occS bd) s.toNat t.toNat):=by
 have e1:decide (s.toNat≠t.toNat)=true:=by have:=h.ne;have:=h.hs;have:=h.ht;rw [decide_eq_true_eq];omega
 unfold hitS alK;rw [e1,bne_iff_ne.2 h.z,if_neg h1,if_neg h5,if_neg h6];split
 ·rfl
 split<;>rfl
theorem alK_al{k:Int}{s t:Nat}(h:alK k s t=true):strt s t=true\/slnt s t=true:=by
 unfold alK at h;split at h
 ·exact Or.inl h
 split at h
 ·exact Or.inr h
 simpa using h
theorem hit_none{bd:Nat->Int}{s t:Int}(h:s=t\/bd s.toNat=0):false=hitS bd s.toNat t.toNat:=by
 unfold hitS;rcases h with rfl|h
 ·simp
 rw [h];simp
theorem strt_int{s t:Int}(hs:0<=s)(ht:0<=t):strt s.toNat t.toNat=(((t%8-s%8)==0)||((t/8-s/8)==0)):=by
 unfold strt;rw [df_int hs ht,dr_int hs ht]
theorem slnt_int{s t:Int}(hs:0<=s)(ht:0<=t):slnt s.toNat t.toNat=(((t%8-s%8)==(t/8-s/8))||((t%8-s%8)==(0-(t/8-s/8)))):=by
 unfold slnt;rw [df_int hs ht,dr_int hs ht,Int.zero_sub]
theorem way_int{s t:Int}(hs:0<=s)(ht:0<=t):sgn (t%8-s%8)+8*sgn (t/8-s/8)=way s.toNat t.toNat:=by
 unfold way;rw [df_int hs ht,dr_int hs ht]
theorem sgn_small(n:Int):-1<=sgn n/\sgn n<=1:=by unfold sgn;split<;>(try split)<;>omega
theorem c37(k s:Int)(w:World)(hk:-100<=k/\k<=100)(hs:-100<=s/\s<=100):
  CR 37 [.int .i64 k,.int .i64 s] w (.int .i64 (k+6*s)):=by
 refine en func37 ntmps37 ?_;exact zw<|yS 1<|zx<|yS 3<|yW 7 (zi (6*s) (by omega) (by omega))<|yS 1<|yW 8 (zi (k+(6*s)) (by omega) (by omega))<|yS 1<|zz<|w_ret<|ret1 rfl rfl (⟨ret_int (by omega),yt⟩)
theorem c38(x:Int)(w:World)(hx:0<=x/\x<=12):
  CR 38 [.int .i64 x] w (.int .i64 (kindOf x)):=by
 refine en func38 ntmps38 ?_;refine zw<|yS 1<|zz<|w_seq<|zw<|yS 2<|zz<|yC (decide (x>6)) (λhc1=>?_) λhc1=>?_
 ·have dhc1:=of_decide_eq_true hc1;exact zw<|yS 2<|yW 6 (zi (x-6) (by omega) (by omega))<|yS 1<|zz<|w_ret<|r_then<|ret1 rfl rfl (⟨ret_int (by unfold kindOf;split<;>omega),yt⟩)
 have dhc1:=of_decide_eq_false hc1;exact w_skip<|zn<|yS 2<|zz<|w_ret<|y1 (v:=.int .i64 x) (⟨ret_int (by unfold kindOf;split<;>omega),yt⟩)
theorem c45(x:Int)(w:World):
  CR 45 [.int .i64 x] w (.int .i64 (sideOf x)):=by
 refine en func45 ntmps45 ?_;refine zw<|yS 1<|zz<|w_seq<|zw<|yS 2<|zz<|yC (decide (x>6)) (λhc1=>?_) λhc1=>?_
 ·have dhc1:=of_decide_eq_true hc1;exact zw<|yS 1<|zz<|w_ret<|r_then<|ret1 rfl rfl (⟨ret_int (by unfold sideOf;split<;>omega),yt⟩)
 have dhc1:=of_decide_eq_false hc1;exact w_skip<|zn<|yS 1<|zz<|w_ret<|y1 (v:=.int .i64 0) (⟨ret_int (by unfold sideOf;split<;>omega),yt⟩)
theorem c77(x:Int)(w:World)(hx:0<=x):
  CR 77 [.int .i64 x] w (.int .i64 (x%8)):=by
 refine en func77 ntmps77 ?_;refine zw<|yS 1<|zx<|zo 2 [iz 4 (x.tmod (8:Int))] [.prop ((8:Int)≠0)] (show (8:Int)≠0 from (by omega)) ?_;rw [zm x 8 (by omega)];exact yS 1<|zz<|w_ret<|y1 (⟨rfl,yt⟩)
theorem c40(x:Int)(w:World)(hx:0<=x/\x<=4611686018427387904):
  CR 40 [.int .i64 x] w (.int .i64 (x/8)):=by
 refine en func40 ntmps40 ?_;refine zw<|yS 1<|zx<|zo 2 [iz 4 (IntKind.i64.wrap (x.tdiv (8:Int)))] [.prop ((8:Int)≠0)] (show (8:Int)≠0 from (by omega)) ?_;rw [(show ((IntKind.i64.wrap (x.tdiv (8:Int))):Int)=(x/8) from (by rw [Int.tdiv_eq_ediv_of_nonneg (by omega)];exact i64_in' (by omega) (by omega)))];exact yS 1<|zz<|w_ret<|y1 (⟨rfl,yt⟩)
theorem c39g(f r:Int)(w:World)(hf:-1000<=f/\f<=1000)(hr:-1000<=r/\r<=1000):
  CR 39 [.int .i64 f,.int .i64 r] w (.int .i64 (atS f r)):=by
 refine en func39 ntmps39 ?_;refine zw<|yS 1<|zz<|w_seq<|w_cut (γ:=Unit) (λ_=>[(0,.int .i64 f),(1,.int .i64 r),(18,.bool ((((decide (f<0))||(decide (f>7)))||(decide (r<0)))||(decide (r>7))))]) (λ_ w_=>Mod [] w w_) ?_ ?_
 ·refine w_region<|yS 3<|yE 7 (.bool (decide (f<0))) ?_;cases hc4:(decide (f<0))
  ·refine yS 4<|yE 11 (.bool (decide (f>7))) ?_;cases hc5:(decide (f>7))
   ·refine yS 4<|yE 15 (.bool (decide (r<0))) ?_;cases hc6:(decide (r<0))
    ·exact yS 3<|ze<|zb () yt
    exact yS 3<|ze<|zb () yt
   exact yS 7<|ze<|zb () yt
  exact yS 11<|ze<|zb () yt
 intro _ w1 v2;refine yC ((((decide (f<0))||(decide (f>7)))||(decide (r<0)))||(decide (r>7))) (λhc8=>?_) λhc8=>?_
 ·have dhc8:=hc8;simp only [zbq] at dhc8;exact zw<|yS 1<|zz<|w_ret<|r_then<|ret1 rfl rfl (⟨ret_int (by unfold atS;split<;>omega),yt⟩)
 have dhc8:=hc8;simp only [zbq] at dhc8;exact w_skip<|zn<|yS 2<|yW 20 (zi (8*r) (by omega) (by omega))<|yS 2<|yW 22 (zi ((8*r)+f) (by omega) (by omega))<|yS 1<|zz<|w_ret<|y1 (v:=.int .i64 ((8*r)+f)) (⟨ret_int (by unfold atS;split<;>omega),yt⟩)
theorem c39(f r:Int)(w:World)(hf:0<=f/\f<=7)(hr:0<=r/\r<=7):
  CR 39 [.int .i64 f,.int .i64 r] w (.int .i64 (8*r+f)):=
 (c39g f r w (by omega) (by omega)).mono λe w' h=>⟨h.1.trans (ret_int (by unfold atS;split<;>omega)),h.2⟩
theorem c83(n:Int)(w:World):
  CR 83 [.int .i64 n] w (.int .i64 (sgn n)):=by
 refine en func83 ntmps83 ?_;refine zw<|yS 1<|zz<|w_seq<|w_block<|zw<|yS 3<|zz<|yC (decide (n<0)) (λhc1=>?_) λhc1=>?_
 ·have dhc1:=of_decide_eq_true hc1;exact zw<|yS 1<|zz<|w_ret<|r_block<|r_then<|ret1 rfl rfl (⟨ret_int (by unfold sgn;split<;>(try split)<;>omega),yt⟩)
 have dhc1:=of_decide_eq_false hc1;refine zw<|yS 3<|zz<|yC (decide (n>0)) (λhc2=>?_) λhc2=>?_
 ·have dhc2:=of_decide_eq_true hc2;exact zw<|yS 1<|zz<|w_ret<|r_block<|r_then<|y1 (v:=.int .i64 1) (⟨ret_int (by unfold sgn;split<;>(try split)<;>omega),yt⟩)
 have dhc2:=of_decide_eq_false hc2;exact w_skip<|n_block<|zn<|yS 1<|zz<|w_ret<|y1 (v:=.int .i64 0) (⟨ret_int (by unfold sgn;split<;>(try split)<;>omega),yt⟩)
theorem c79(s:Int)(w:World)(hs:0<=s/\s<=1):
  CR 79 [.int .i64 s] w (.int .i64 (1-2*s)):=by
 refine en func79 ntmps79 ?_;exact zw<|yS 1<|zx<|yS 2<|yW 4 (zi (2*s) (by omega) (by omega))<|yS 1<|yW 5 (zi (1-(2*s)) (by omega) (by omega))<|yS 1<|zz<|w_ret<|y1 (⟨rfl,yt⟩)
def kingTo(bd:Nat->Int)(p:Int):Nat->Int
 |0=>-1
 |n+1=>if kingTo bd p n=-1 then (if bd n=p then (n:Int) else-1) else kingTo bd p n
def kingAtS(bd:Nat->Int)(side:Int):Int:=kingTo bd (1+6*side) 64
def countTo(bd:Nat->Int)(p:Int):Nat->Int
 |0=>0
 |n+1=>if bd n=p then countTo bd p n+1 else countTo bd p n
def countS(bd:Nat->Int)(p:Int):Int:=countTo bd p 64
theorem countTo_le(bd:Nat->Int)(p:Int):∀n:Nat,0<=countTo bd p n/\countTo bd p n<=n
 |0=>by simp [countTo]
 |n+1=>by have:=countTo_le bd p n;unfold countTo;split<;>omega
theorem countTo_succ{bd:Nat->Int}{p j:Int}(h:0<=j):countTo bd p (j+1).toNat=if bd j.toNat=p then countTo bd p j.toNat+1 else countTo bd p j.toNat:=by
 rw [show (j+1).toNat=j.toNat+1 by omega];rfl
theorem kingTo_none{bd:Nat->Int}{p:Int}:∀{n:Nat},(∀i:Int,0<=i->i<n->bd i.toNat≠p)->kingTo bd p n=-1
 |0,_=>rfl
 |n+1,h=>by
  unfold kingTo;have h2:=h n (by omega) (by omega);rw [Int.toNat_natCast] at h2;rw [if_pos (kingTo_none λi h0 h1=>h i h0 (by omega)),if_neg h2]
theorem kingTo_hit{bd:Nat->Int}{p k:Int}(h0:0<=k)(hn:∀i:Int,0<=i->i<k->bd i.toNat≠p)(hk:bd k.toNat=p):∀m:Nat,k<m->kingTo bd p m=k
 |0,h=>by omega
 |m+1,h=>by
  unfold kingTo;by_cases e:k<m
  ·rw [kingTo_hit h0 hn hk m e,if_neg (by omega)]
  ·have e2:k=m:=by omega
   subst e2;rw [kingTo_none (λi a b=>hn i a (by omega)),if_pos rfl,if_pos (by simpa using hk)]
theorem kingTo_range(bd:Nat->Int)(p:Int):∀n:Nat,-1<=kingTo bd p n/\kingTo bd p n<n
 |0=>by simp [kingTo]
 |n+1=>by have:=kingTo_range bd p n;unfold kingTo;split<;>(try split)<;>omega
theorem attS_hit{bd:Nat->Int}{sq:Nat}{o j:Int}(h0:0<=j)(h1:j<64)(h:(((bd j.toNat !=0)&&(sideOf (bd j.toNat)==o))&&hitS bd j.toNat sq)=true):true=attS bd sq o:=by
 refine (any64.2 ⟨j.toNat,by omega,?_⟩).symm;rw [Bool.and_eq_true,Bool.and_eq_true] at h;rw [h.1.1,h.1.2,h.2];rfl
theorem attS_miss{bd:Nat->Int}{sq:Nat}{o j:Int}(h1:¬j<64)(h:∀i:Int,0<=i->i<j->(((bd i.toNat !=0)&&(sideOf (bd i.toNat)==o))&&hitS bd i.toNat sq)=false):false=attS bd sq o:=by
 unfold attS
 symm
 rw [List.any_eq_false];intro i hi;have hi:=List.mem_range.1 hi;have:=h i (by omega) (by omega);rw [Int.toNat_natCast] at this;rw [←Bool.and_assoc,this];exact Bool.false_ne_true
def strtK(k:Int)(s t:Nat):Bool:=strt s t&&!(k==4)
def slntK(k:Int)(s t:Nat):Bool:=slnt s t&&!(k==3)
theorem alK_eq{k:Int}{s t:Nat}:alK k s t=(strtK k s t||slntK k s t):=by
 unfold alK strtK slntK;split
 ·rename_i h;subst h;simp
 split
 ·rename_i h;subst h;simp
 rename_i h h';rw [beq_eq_false_iff_ne.2 h,beq_eq_false_iff_ne.2 h'];simp
theorem sq_b{x:Int}(h:-100<=x/\x<=100):0<=x*x/\x*x<=10000:=by
 constructor
 ·rcases Int.le_total 0 x with h0|h0
  ·exact Int.mul_nonneg h0 h0
  exact Int.mul_nonneg_of_nonpos_of_nonpos h0 h0
 have h1:x.natAbs<=100:=by omega
 have h2:x*x=((x.natAbs*x.natAbs:Nat):Int):=Int.natAbs_mul_self.symm;have h3:=Nat.mul_le_mul h1 h1;omega
theorem sq_lo{x:Int}(h:-100<=x/\x<=100):-9223372036854775808<=x*x:=by have:=sq_b h;omega
theorem sq_hi{x:Int}(h:-100<=x/\x<=100):x*x<=9223372036854775807:=by have:=sq_b h;omega
theorem c50{w:World}(P:SP)(hB:SPb P)(s t:Int)(hs:0<=s/\s<=63)(ht:0<=t/\t<=63):
  CR 50 [.agg (spCells P),.int .i64 s,.int .i64 t] w (.bool (hitS P.bd s.toNat t.toNat)):=by
 have hbs:=hB s.toNat (by omega);refine en func50 ntmps50 ?_;refine zw<|zA (spCells P) 24 (some 3) fun b1 w2 hn3=>yS 1<|zx<|yS 1<|zk (some 14) (c77 t w2 (by omega)) fun w8 v9=>yS 1<|zk (some 16) (c77 s w8 (by omega)) fun w12 v13=>yS 1<|yW 17 (zi ((t%8)-(s%8)) (by omega) (by omega))<|yS 1<|zx<|yS 1<|zk (some 19) (c40 t w12 (by omega)) fun w16 v17=>yS 1<|zk (some 21) (c40 s w16 (by omega)) fun w20 v21=>yS 1<|yW 22 (zi ((t/8)-(s/8)) (by omega) (by omega))<|yS 1<|zz<|w_seq<|w_cut (γ:=Unit) (λ_=>[(1,.int .i64 s),(2,.int .i64 t),(3,pz b1),(7,.int .i64 ((t%8)-(s%8))),(8,.int .i64 ((t/8)-(s/8))),(32,.bool ((s==t)||((P.bd s.toNat)==0)))]) (λ_ w_=>Mod [] w20 w_) ?_ ?_
 ·refine w_region<|yS 4<|yE 26 (.bool (s==t)) ?_;cases hc27:(s==t)
  ·exact yO 4 [.prop (0<=s/\s<((64:Nat):Int)),.cell ⟨b1,(0+s.toNat*1),none⟩ (.int .i64 (P.bd s.toNat))] (⟨(zh (by omega)),yc (spCells_b0 P (by omega))⟩)<|yS 2<|ze<|zb () yt
  exact yS 6<|ze<|zb () yt
 intro _ w24 v25;refine yC ((s==t)||((P.bd s.toNat)==0)) (λhc30=>?_) λhc30=>?_
 ·have dhc30:=hc30;try simp only [zbq] at dhc30
  exact zw<|yS 1<|zz<|w_ret<|r_then<|y1 (v:=.bool false) (⟨ret_bool (hit_none (by omega)),yt⟩)
 have dhc30:=hc30;try simp only [zbq] at dhc30
 refine w_skip<|n_then<|w_cut (γ:=Unit) (λ_=>[(1,.int .i64 s),(2,.int .i64 t),(3,pz b1),(7,.int .i64 ((t%8)-(s%8))),(8,.int .i64 ((t/8)-(s/8))),(9,.bool ((((t%8)-(s%8))==0)||(((t/8)-(s/8))==0)))]) (λ_ w_=>Mod [] w24 w_) ?_ ?_
 ·refine w_region<|yS 3<|yE 35 (.bool (((t%8)-(s%8))==0)) ?_;cases hc34:(((t%8)-(s%8))==0)
  ·exact yS 4<|ze<|zb () yt
  exact yS 4<|ze<|zb () yt
 intro _ w31 v32;refine w_cut (γ:=Unit) (λ_=>[(1,.int .i64 s),(2,.int .i64 t),(3,pz b1),(7,.int .i64 ((t%8)-(s%8))),(8,.int .i64 ((t/8)-(s/8))),(9,.bool ((((t%8)-(s%8))==0)||(((t/8)-(s/8))==0))),(10,.bool ((((t%8)-(s%8))==((t/8)-(s/8)))||(((t%8)-(s%8))==(0-((t/8)-(s/8))))))]) (λ_ w_=>Mod [] w31 w_) ?_ ?_
 ·refine w_region<|yS 4<|yE 42 (.bool (((t%8)-(s%8))==((t/8)-(s/8)))) ?_;cases hc40:(((t%8)-(s%8))==((t/8)-(s/8)))
  ·exact yS 3<|yW 45 (zi (0-((t/8)-(s/8))) (by omega) (by omega))<|yS 3<|ze<|zb () yt
  exact yS 6<|ze<|zb () yt
 intro _ w37 v38;refine w_cut (γ:=Unit) (λ_=>[(1,.int .i64 s),(2,.int .i64 t),(3,pz b1),(7,.int .i64 ((t%8)-(s%8))),(8,.int .i64 ((t/8)-(s/8))),(9,.bool (strtK (kindOf (P.bd s.toNat)) s.toNat t.toNat)),(10,.bool (slntK (kindOf (P.bd s.toNat)) s.toNat t.toNat))]) (λ_ w_=>Mod [] w37 w_/\((kindOf (P.bd s.toNat))≠1/\(kindOf (P.bd s.toNat))≠5/\(kindOf (P.bd s.toNat))≠6)) ?_ ?_
 ·refine zw<|yO 4 [.prop (0<=s/\s<((64:Nat):Int)),.cell ⟨b1,(0+s.toNat*1),none⟩ (.int .i64 (P.bd s.toNat))] (⟨(zh (by omega)),yc (spCells_b0 P (by omega))⟩)<|zk (some 52) (c38 (P.bd s.toNat) w37 (by omega)) fun w46 v47=>zz<|w_block<|zw<|yS 2<|zz<|yC ((kindOf (P.bd s.toNat))==1) (λhc51=>?_) λhc51=>?_
  ·have dhc51:=eq_of_beq hc51;refine w_cut (γ:=Unit) (λ_=>[(6,.bool ((decide ((((t%8)-(s%8))*((t%8)-(s%8)))<=1))&&(decide ((((t/8)-(s/8))*((t/8)-(s/8)))<=1))))]) (λ_ w_=>Mod [] w46 w_) ?_ ?_
   ·refine w_region<|zs 3 [iz 8 ((t/8)-(s/8)),iz 57 (IntKind.i64.wrap (((t%8)-(s%8))*((t%8)-(s%8))))] ?_;rw [(show ((IntKind.i64.wrap (((t%8)-(s%8))*((t%8)-(s%8)))):Int)=(((t%8)-(s%8))*((t%8)-(s%8))) from (i64_in' (sq_lo (by omega)) (sq_hi (by omega))))];refine yS 2<|yE 59 (.bool (decide ((((t%8)-(s%8))*((t%8)-(s%8)))<=1))) ?_;cases hc55:(decide ((((t%8)-(s%8))*((t%8)-(s%8)))<=1))
    ·exact yS 6<|ze<|zb () yt
    refine zs 3 [(59,.bool true),iz 62 (IntKind.i64.wrap (((t/8)-(s/8))*((t/8)-(s/8))))] ?_;rw [(show ((IntKind.i64.wrap (((t/8)-(s/8))*((t/8)-(s/8)))):Int)=(((t/8)-(s/8))*((t/8)-(s/8))) from (i64_in' (sq_lo (by omega)) (sq_hi (by omega))))];exact yS 3<|ze<|zb () yt
   intro _ w52 v53;exact w_ret<|r_block<|r_then<|y1 (v:=.bool ((decide ((((t%8)-(s%8))*((t%8)-(s%8)))<=1))&&(decide ((((t/8)-(s/8))*((t/8)-(s/8)))<=1)))) (⟨ret_bool (hit_king ⟨hs,ht,by omega,by omega⟩ (eq_of_beq hc51)),yt⟩)
  have dhc51:=ne_of_beq_false hc51;refine zw<|yS 2<|zz<|yC ((kindOf (P.bd s.toNat))==5) (λhc59=>?_) λhc59=>?_
  ·have dhc59:=eq_of_beq hc59;refine zw<|zs 3 [iz 8 ((t/8)-(s/8)),iz 69 (IntKind.i64.wrap (((t%8)-(s%8))*((t%8)-(s%8))))] ?_;rw [(show ((IntKind.i64.wrap (((t%8)-(s%8))*((t%8)-(s%8)))):Int)=(((t%8)-(s%8))*((t%8)-(s%8))) from (i64_in' (sq_lo (by omega)) (sq_hi (by omega))))];refine zs 3 [iz 69 (((t%8)-(s%8))*((t%8)-(s%8))),iz 72 (IntKind.i64.wrap (((t/8)-(s/8))*((t/8)-(s/8))))] ?_;rw [(show ((IntKind.i64.wrap (((t/8)-(s/8))*((t/8)-(s/8)))):Int)=(((t/8)-(s/8))*((t/8)-(s/8))) from (i64_in' (sq_lo (by omega)) (sq_hi (by omega))))];refine zs 1 [iz 73 (IntKind.i64.wrap ((((t%8)-(s%8))*((t%8)-(s%8)))+(((t/8)-(s/8))*((t/8)-(s/8)))))] ?_;rw [zi ((((t%8)-(s%8))*((t%8)-(s%8)))+(((t/8)-(s/8))*((t/8)-(s/8)))) (by have:=sq_b (x:=t%8-s%8) (by omega);have:=sq_b (x:=t/8-s/8) (by omega);omega) (by have:=sq_b (x:=t%8-s%8) (by omega);have:=sq_b (x:=t/8-s/8) (by omega);omega)];exact yS 2<|zz<|w_ret<|r_block<|r_then<|y1 (v:=.bool (((((t%8)-(s%8))*((t%8)-(s%8)))+(((t/8)-(s/8))*((t/8)-(s/8))))==5)) (⟨ret_bool (hit_knight ⟨hs,ht,by omega,by omega⟩ (eq_of_beq hc59)),yt⟩)
  have dhc59:=ne_of_beq_false hc59;refine zw<|yS 2<|zz<|yC ((kindOf (P.bd s.toNat))==6) (λhc60=>?_) λhc60=>?_
  ·have dhc60:=eq_of_beq hc60;refine w_cut (γ:=Unit) (λ_=>[(6,.bool (((((t%8)-(s%8))*((t%8)-(s%8)))==1)&&(((t/8)-(s/8))==(1-2*(sideOf (P.bd s.toNat))))))]) (λ_ w_=>Mod [] w46 w_) ?_ ?_
   ·refine w_region<|zs 3 [iz 1 s,rz 3 b1,iz 8 ((t/8)-(s/8)),iz 79 (IntKind.i64.wrap (((t%8)-(s%8))*((t%8)-(s%8))))] ?_;rw [(show ((IntKind.i64.wrap (((t%8)-(s%8))*((t%8)-(s%8)))):Int)=(((t%8)-(s%8))*((t%8)-(s%8))) from (i64_in' (sq_lo (by omega)) (sq_hi (by omega))))];refine yS 2<|yE 81 (.bool ((((t%8)-(s%8))*((t%8)-(s%8)))==1)) ?_;cases hc64:((((t%8)-(s%8))*((t%8)-(s%8)))==1)
    ·exact yS 10<|ze<|zb () yt
    exact yO 5 [.prop (0<=s/\s<((64:Nat):Int)),.cell ⟨b1,(0+s.toNat*1),none⟩ (.int .i64 (P.bd s.toNat))] (⟨(zh (by omega)),yc (spCells_b0 P (by omega))⟩)<|zk (some 87) (c45 (P.bd s.toNat) w46) fun w65 v66=>zk (some 88) (c79 (sideOf (P.bd s.toNat)) w65 (by first|omega|exact sideOf_or _)) fun w70 v71=>yS 3<|ze<|zb () yt
   intro _ w61 v62;exact w_ret<|r_block<|r_then<|y1 (v:=.bool (((((t%8)-(s%8))*((t%8)-(s%8)))==1)&&(((t/8)-(s/8))==(1-2*(sideOf (P.bd s.toNat)))))) (⟨ret_bool (hit_pawn ⟨hs,ht,by omega,by omega⟩ (eq_of_beq hc60)),yt⟩)
  have dhc60:=ne_of_beq_false hc60;refine zw<|yS 2<|zz<|yC ((kindOf (P.bd s.toNat))==3) (λhc78=>?_) λhc78=>?_
  ·have dhc78:=eq_of_beq hc78;refine w_region<|yS 1<|ze<|n_block ?_;rw [show (((((t%8)-(s%8))==0)||(((t/8)-(s/8))==0)):Bool)=(strtK (kindOf (P.bd s.toNat)) s.toNat t.toNat) from (by unfold strtK;rw [strt_int hs.1 ht.1,eq_of_beq hc78];simp)];rw [show (false:Bool)=(slntK (kindOf (P.bd s.toNat)) s.toNat t.toNat) from (by unfold slntK;rw [slnt_int hs.1 ht.1,eq_of_beq hc78];simp)];exact zb () ⟨yt,⟨ne_of_beq_false hc51,ne_of_beq_false hc59,ne_of_beq_false hc60⟩⟩
  have dhc78:=ne_of_beq_false hc78;refine zw<|yS 2<|zz<|yC ((kindOf (P.bd s.toNat))==4) (λhc79=>?_) λhc79=>?_
  ·have dhc79:=eq_of_beq hc79;refine w_region<|yS 1<|ze<|n_block ?_;rw [show (false:Bool)=(strtK (kindOf (P.bd s.toNat)) s.toNat t.toNat) from (by unfold strtK;rw [strt_int hs.1 ht.1,eq_of_beq hc79];simp)];rw [show (((((t%8)-(s%8))==((t/8)-(s/8)))||(((t%8)-(s%8))==(0-((t/8)-(s/8))))):Bool)=(slntK (kindOf (P.bd s.toNat)) s.toNat t.toNat) from (by unfold slntK;rw [slnt_int hs.1 ht.1,eq_of_beq hc79];simp)];exact zb () ⟨yt,⟨ne_of_beq_false hc51,ne_of_beq_false hc59,ne_of_beq_false hc60⟩⟩
  have dhc79:=ne_of_beq_false hc79;refine w_skip<|n_block ?_;rw [show (((((t%8)-(s%8))==0)||(((t/8)-(s/8))==0)):Bool)=(strtK (kindOf (P.bd s.toNat)) s.toNat t.toNat) from (by unfold strtK;rw [strt_int hs.1 ht.1,hc79];exact (Bool.and_true _).symm)];rw [show (((((t%8)-(s%8))==((t/8)-(s/8)))||(((t%8)-(s%8))==(0-((t/8)-(s/8))))):Bool)=(slntK (kindOf (P.bd s.toNat)) s.toNat t.toNat) from (by unfold slntK;rw [slnt_int hs.1 ht.1,hc78];exact (Bool.and_true _).symm)];exact zb () ⟨yt,⟨ne_of_beq_false hc51,ne_of_beq_false hc59,ne_of_beq_false hc60⟩⟩
 rintro _ w43 ⟨v44,hcarry⟩;refine w_seq<|w_cut (γ:=Unit) (λ_=>[(1,.int .i64 s),(2,.int .i64 t),(3,pz b1),(7,.int .i64 ((t%8)-(s%8))),(8,.int .i64 ((t/8)-(s/8))),(100,.bool ((!(strtK (kindOf (P.bd s.toNat)) s.toNat t.toNat))&&(!(slntK (kindOf (P.bd s.toNat)) s.toNat t.toNat))))]) (λ_ w_=>Mod [] w43 w_) ?_ ?_
 ·refine w_region<|yS 3<|yE 97 (.bool (!(strtK (kindOf (P.bd s.toNat)) s.toNat t.toNat))) ?_;cases hc85:(!(strtK (kindOf (P.bd s.toNat)) s.toNat t.toNat))
  ·exact yS 3<|ze<|zb () yt
  exact yS 3<|ze<|zb () yt
 intro _ w82 v83;refine yC ((!(strtK (kindOf (P.bd s.toNat)) s.toNat t.toNat))&&(!(slntK (kindOf (P.bd s.toNat)) s.toNat t.toNat))) (λhc88=>?_) λhc88=>?_
 ·have dhc88:=hc88;try simp only [zbq] at dhc88
  have hfar:=hit_far ⟨hs,ht,by omega,by omega⟩ hcarry.1 hcarry.2.1 hcarry.2.2;rw [alK_eq] at hfar;rw [dhc88.1,dhc88.2] at hfar;exact zw<|yS 1<|zz<|w_ret<|r_then<|y1 (v:=.bool false) (⟨ret_bool (hfar.symm),yt⟩)
 have dhc88:=hc88;try simp only [zbq] at dhc88
 have hfar:=hit_far ⟨hs,ht,by omega,by omega⟩ hcarry.1 hcarry.2.1 hcarry.2.2;rw [alK_eq] at hfar;have hal0:(strtK (kindOf (P.bd s.toNat)) s.toNat t.toNat||slntK (kindOf (P.bd s.toNat)) s.toNat t.toNat)=true:=by cases hx1:strtK (kindOf (P.bd s.toNat)) s.toNat t.toNat<;>cases hx2:slntK (kindOf (P.bd s.toNat)) s.toNat t.toNat<;>simp_all
 rw [hal0] at hfar;have hal:=alK_al (alK_eq.trans hal0);obtain ⟨hend,hst⟩:=step_get (s:=s.toNat) (t:=t.toNat) (by omega) (by omega) hal (by omega);rw [show ((t.toNat:Nat):Int)=t by omega] at hend hst;have hws:=way_small s.toNat t.toNat;refine w_skip<|n_then<|w_seq ?_;have hsg1:=sgn_small (t%8-s%8);have hsg2:=sgn_small (t/8-s/8);refine w_region<|yS 1<|zk (some 102) (c83 ((t%8)-(s%8)) w82) fun w89 v90=>yS 1<|zk (some 104) (c83 ((t/8)-(s/8)) w89) fun w93 v94=>yS 1<|yW 105 (zi (8*(sgn ((t/8)-(s/8)))) (by omega) (by omega))<|yS 1<|yW 106 (zi ((sgn ((t%8)-(s%8)))+(8*(sgn ((t/8)-(s/8))))) (by omega) (by omega))<|yS 1<|ze ?_;rw [show ((sgn ((t%8)-(s%8)))+(8*(sgn ((t/8)-(s/8)))))=way s.toNat t.toNat from way_int hs.1 ht.1];refine n_then<|w_seq<|zw<|yS 3<|yW 109 (zi (s+(way s.toNat t.toNat)) (by omega) (by omega))<|yS 1<|ze ?_;rw [show (s+(way s.toNat t.toNat))=stepSq s.toNat t.toNat 0 from (by unfold stepSq;omega)];refine n_then<|w_block<|yP (γ:=Int) (λg97=>((gap s.toNat t.toNat:Int)-g97).toNat) (λ(g97:Int)=>[(2,.int .i64 t),(3,pz b1),(11,.int .i64 (way s.toNat t.toNat)),(12,.int .i64 (stepSq s.toNat t.toNat g97))]) (λ(g97:Int) w_=>(0<=g97/\g97<=(gap s.toNat t.toNat:Int))/\Mod [] w93 w_/\(∀i:Int,0<=i->i<g97->P.bd (stepSq s.toNat t.toNat i).toNat=0)) 0 ⟨by omega,Mod.refl _ _,(λi h0 h1=>absurd h1 (by omega))⟩ ?_;rintro g97 w98 ⟨⟨h100,h101⟩,v99,hx102⟩;refine w_seq<|zw<|yS 3<|zz<|yC ((stepSq s.toNat t.toNat g97) !=t) (λhc105=>?_) λhc105=>?_
 ·have dhc105:=hc105;try simp only [zbq] at dhc105
  have hlt:g97<(gap s.toNat t.toNat:Int):=by rcases Int.lt_or_eq_of_le (show g97<=(gap s.toNat t.toNat:Int) by omega) with h|h;exact h;(rw [h,hend] at hc105;simp at hc105)
  have hsq:=hst g97 (by omega) hlt;refine w_skip<|n_then<|w_seq<|w_block<|zw<|yO 4 [.prop (0<=(stepSq s.toNat t.toNat g97)/\(stepSq s.toNat t.toNat g97)<((64:Nat):Int)),.cell ⟨b1,(0+(stepSq s.toNat t.toNat g97).toNat*1),none⟩ (.int .i64 (P.bd ((stepSq s.toNat t.toNat g97).toNat)))] (⟨(zh (by omega)),yc (spCells_b0 P (by omega))⟩)<|yS 1<|zz<|yC ((P.bd ((stepSq s.toNat t.toNat g97).toNat)) !=0) (λhc106=>?_) λhc106=>?_
  ·have dhc106:=hc106;try simp only [zbq] at dhc106
   exact zw<|yS 1<|zz<|w_ret<|r_block<|r_then<|r_then<|r_block<|r_then<|y1 (v:=.bool false) (⟨ret_bool ((by rw [hfar,Bool.true_and,clr_step,eq_comm,List.all_eq_false];refine ⟨g97.toNat,List.mem_range.2 (by omega),?_⟩;rw [show ((g97.toNat:Nat):Int)=g97 by omega];simp only [occS,hc106];exact Bool.false_ne_true)),yt⟩)
  have dhc106:=hc106;try simp only [zbq] at dhc106
  refine w_skip<|n_block<|n_then<|w_region<|yS 3<|yW 115 (zi ((stepSq s.toNat t.toNat g97)+(way s.toNat t.toNat)) (by omega) (by omega))<|yS 1<|ze ?_;rw [stepSq_succ];exact zl (g97+1) ⟨by omega,v99,(forall_step hx102 (bne_eq_false_iff_eq.1 hc106))⟩
 have dhc105:=hc105;try simp only [zbq] at dhc105
 have hge:g97=(gap s.toNat t.toNat:Int):=by rcases Int.lt_or_eq_of_le (show g97<=(gap s.toNat t.toNat:Int) by omega) with h|h;(have h3:=(hst g97 (by omega) h).2.2;rw [bne_eq_false_iff_eq] at hc105;exact absurd hc105 h3);exact h
 exact w_exit<|x_then<|x_then<|x_hit<|zn<|yS 1<|zz<|w_ret<|y1 (v:=.bool true) (⟨ret_bool ((by rw [hfar,Bool.true_and,clr_step,eq_comm,List.all_eq_true];intro k hk;have hk:=List.mem_range.1 hk;have:=hx102 (k:Int) (by omega) (by omega);simp only [occS,this,bne_self_eq_false,Bool.not_false])),yt⟩)
theorem c23{w:World}(P:SP)(hB:SPb P)(sq o:Int)(hs:0<=sq/\sq<=63):
  CR 23 [.agg (spCells P),.int .i64 sq,.int .i64 o] w (.bool (attS P.bd sq.toNat o)):=by
 refine en func23 ntmps23 ?_;refine zw<|zA (spCells P) 24 (some 3) fun b1 w2 hn3=>yS 1<|zz<|w_seq<|zw<|yS 1<|zz<|w_block<|yP (γ:=Int) (λg8=>(64-g8).toNat) (λ(g8:Int)=>[(1,.int .i64 sq),(2,.int .i64 o),(3,pz b1),(7,.int .i64 g8)]) (λ(g8:Int) w_=>(0<=g8/\g8<=64)/\Mod [] w2 w_/\(∀i:Int,0<=i->i<g8->(((P.bd i.toNat !=0)&&(sideOf (P.bd i.toNat)==o))&&hitS P.bd i.toNat sq.toNat)=false)) 0 ⟨by omega,Mod.refl _ _,(λi h0 h1=>absurd h1 (by omega))⟩ ?_;rintro g8 w9 ⟨⟨h11,h12⟩,v10,hx13⟩;refine w_seq<|zw<|yS 2<|zz<|yC (decide (g8<64)) (λhc16=>?_) λhc16=>?_
 ·have dhc16:=of_decide_eq_true hc16;refine w_skip<|n_then<|w_seq<|w_block<|w_cut (γ:=Unit) (λ_=>[(1,.int .i64 sq),(2,.int .i64 o),(3,pz b1),(7,.int .i64 g8),(31,.bool ((((P.bd g8.toNat) !=0)&&((sideOf (P.bd g8.toNat))==o))&&(hitS P.bd g8.toNat sq.toNat)))]) (λ_ w_=>Mod [] w9 w_) ?_ ?_
  ·refine w_region<|yO 4 [.prop (0<=g8/\g8<((64:Nat):Int)),.cell ⟨b1,(0+g8.toNat*1),none⟩ (.int .i64 (P.bd g8.toNat))] (⟨(zh (by omega)),yc (spCells_b0 P (by omega))⟩)<|yS 2<|yE 17 (.bool ((P.bd g8.toNat) !=0)) ?_;cases hc20:((P.bd g8.toNat) !=0)
   ·exact yS 14<|ze<|zb () yt
   refine yO 4 [.prop (0<=g8/\g8<((64:Nat):Int)),.cell ⟨b1,(0+g8.toNat*1),none⟩ (.int .i64 (P.bd g8.toNat))] (⟨(zh (by omega)),yc (spCells_b0 P (by omega))⟩)<|zk (some 22) (c45 (P.bd g8.toNat) w9) fun w21 v22=>yS 4<|yE 26 (.bool ((sideOf (P.bd g8.toNat))==o)) ?_;cases hc26:((sideOf (P.bd g8.toNat))==o)
   ·exact yS 5<|ze<|zb () yt
   exact yV 3 [.row ⟨b1,0,none⟩ 69 (spCells P)] [.agg (spCells P)] (At.row ya (spCells_size P))<|zk (some 30) (c50 P hB g8 sq (by omega) (by omega)) fun w27 v28=>yS 1<|ze<|zb () yt
  intro _ w17 v18;refine yC ((((P.bd g8.toNat) !=0)&&((sideOf (P.bd g8.toNat))==o))&&(hitS P.bd g8.toNat sq.toNat)) (λhc35=>?_) λhc35=>?_
  ·have dhc35:=hc35;try simp only [zbq] at dhc35
   exact zw<|yS 1<|zz<|w_ret<|r_block<|r_then<|r_then<|r_block<|r_then<|y1 (v:=.bool true) (⟨ret_bool (attS_hit (by omega) (by omega) hc35),yt⟩)
  have dhc35:=hc35;try simp only [zbq] at dhc35
  exact w_skip<|n_block<|n_then<|w_region<|yS 2<|yW 11 (zi (g8+1) (by omega) (by omega))<|yS 1<|ze<|zl (g8+1) ⟨by omega,yt,(forall_step hx13 hc35)⟩
 have dhc16:=of_decide_eq_false hc16;exact w_exit<|x_then<|x_then<|x_hit<|zn<|yS 1<|zz<|w_ret<|y1 (v:=.bool false) (⟨ret_bool (attS_miss (j:=g8) (by omega) hx13),yt⟩)
theorem c22{w:World}(P:SP)(sd:Int)(hs:0<=sd/\sd<=1):
  CR 22 [.agg (spCells P),.int .i64 sd] w (.int .i64 (kingAtS P.bd sd)):=by
 refine en func22 ntmps22 ?_;refine zw<|zA (spCells P) 24 (some 2) fun b1 w2 hn3=>yS 1<|zz<|w_seq<|zw<|yS 1<|zz<|w_block<|yP (γ:=Int) (λg8=>(64-g8).toNat) (λ(g8:Int)=>[(1,.int .i64 sd),(2,pz b1),(5,.int .i64 g8)]) (λ(g8:Int) w_=>(0<=g8/\g8<=64)/\Mod [] w2 w_/\(∀i:Int,0<=i->i<g8->P.bd i.toNat≠1+6*sd)) 0 ⟨by omega,Mod.refl _ _,(λi h0 h1=>absurd h1 (by omega))⟩ ?_;rintro g8 w9 ⟨⟨h11,h12⟩,v10,hx13⟩;refine w_seq<|zw<|yS 2<|zz<|yC (decide (g8<64)) (λhc16=>?_) λhc16=>?_
 ·have dhc16:=of_decide_eq_true hc16;refine w_skip<|n_then<|w_seq<|w_block<|w_seq<|w_qt<|yQo 4 [.prop (0<=g8/\g8<((64:Nat):Int)),.cell ⟨b1,(0+g8.toNat*1),none⟩ (.int .i64 (P.bd g8.toNat))] (λ_ hC=>⟨(zh (by omega)),At.cell (At.on ya hC) (spCells_b0 P (by omega))⟩)<|yQ 1<|zqk (some 15) (λw_ hC=>c37 1 sd w_ (by omega) (by omega))<|yQ 1<|q_ot fun w17 v18=>n_then<|yC ((P.bd g8.toNat)==(1+6*sd)) (λhc22=>?_) λhc22=>?_
  ·have dhc22:=eq_of_beq hc22;exact zw<|yS 2<|zz<|w_ret<|r_block<|r_then<|r_then<|r_block<|r_then<|y1 (v:=.int .i64 g8) (⟨ret_int (by unfold kingAtS;exact (kingTo_hit (by omega) hx13 (eq_of_beq hc22) 64 (by omega)).symm),yt⟩)
  have dhc22:=ne_of_beq_false hc22;exact w_skip<|n_block<|n_then<|w_region<|yS 2<|yW 9 (zi (g8+1) (by omega) (by omega))<|yS 1<|ze<|zl (g8+1) ⟨by omega,yt,(forall_step hx13 (ne_of_beq_false hc22))⟩
 have dhc16:=of_decide_eq_false hc16;exact w_exit<|x_then<|x_then<|x_hit<|zn<|yS 1<|zz<|w_ret<|y1 (v:=.int .i64 (-1)) (⟨ret_int (by unfold kingAtS;exact (kingTo_none (n:=64) (λi h0 h1=>hx13 i h0 (by omega))).symm),yt⟩)
theorem c42{w:World}(P:SP)(k sd:Int)(hk:0<=k/\k<=12)(hs:0<=sd/\sd<=1):
  CR 42 [.agg (spCells P),.int .i64 k,.int .i64 sd] w (.int .i64 (countS P.bd (k+6*sd))):=by
 refine en func42 ntmps42 ?_;refine zw<|zA (spCells P) 24 (some 3) fun b1 w2 hn3=>yS 1<|zx<|yS 1<|zz<|w_seq<|zw<|yS 1<|zz<|w_block<|yP (γ:=Int) (λg8=>(64-g8).toNat) (λ(g8:Int)=>[(1,.int .i64 k),(2,.int .i64 sd),(3,pz b1),(7,.int .i64 (countTo P.bd (k+6*sd) g8.toNat)),(8,.int .i64 g8)]) (λ(g8:Int) w_=>(0<=g8/\g8<=64)/\Mod [] w2 w_/\(True)) 0 ⟨by omega,Mod.refl _ _,trivial⟩ ?_;rintro g8 w9 ⟨⟨h11,h12⟩,v10,hx13⟩;refine w_seq<|zw<|yS 2<|zz<|yC (decide (g8<64)) (λhc16=>?_) λhc16=>?_
 ·have dhc16:=of_decide_eq_true hc16;refine w_skip<|n_then<|w_cut (γ:=Int) (λg17=>[(1,.int .i64 k),(2,.int .i64 sd),(3,pz b1),(7,.int .i64 g17),(8,.int .i64 g8)]) (λg17 w_=>Mod [] w9 w_/\g17=(countTo P.bd (k+6*sd) (g8+1).toNat)) ?_ ?_
  ·refine w_block<|w_seq<|w_qt<|yQo 4 [.prop (0<=g8/\g8<((64:Nat):Int)),.cell ⟨b1,(0+g8.toNat*1),none⟩ (.int .i64 (P.bd g8.toNat))] (λ_ hC=>⟨(zh (by omega)),At.cell (At.on ya hC) (spCells_b0 P (by omega))⟩)<|yQ 2<|zqk (some 19) (λw_ hC=>c37 k sd w_ (by omega) (by omega))<|yQ 1<|q_ot fun w21 v22=>n_then<|yC ((P.bd g8.toNat)==(k+6*sd)) (λhc27=>?_) λhc27=>?_
   ·have dhc27:=eq_of_beq hc27;have hcb:=countTo_le P.bd (k+6*sd) g8.toNat;exact w_region<|yS 2<|yW 22 (zi ((countTo P.bd (k+6*sd) g8.toNat)+1) (by omega) (by omega))<|yS 1<|ze<|n_block<|zb ((countTo P.bd (k+6*sd) g8.toNat)+1) ⟨yt,(by rw [countTo_succ (by omega)];simp only [beq_iff_eq,beq_eq_false_iff_ne] at hc27;simp only [hc27,if_true,if_false])⟩
   have dhc27:=ne_of_beq_false hc27;have hcb:=countTo_le P.bd (k+6*sd) g8.toNat;exact w_skip<|n_block<|zb (countTo P.bd (k+6*sd) g8.toNat) ⟨yt,(by rw [countTo_succ (by omega)];simp only [beq_iff_eq,beq_eq_false_iff_ne] at hc27;simp only [hc27,if_true,if_false])⟩
  rintro _ w18 ⟨v19,rfl⟩;exact w_region<|yS 2<|yW 12 (zi (g8+1) (by omega) (by omega))<|yS 1<|ze<|zl (g8+1) ⟨by omega,yt,trivial⟩
 have dhc16:=of_decide_eq_false hc16;exact w_exit<|x_then<|x_then<|x_hit<|zn<|yS 2<|zz<|w_ret<|y1 (v:=.int .i64 (countTo P.bd (k+6*sd) g8.toNat)) (⟨ret_int (by rw [show g8=64 by omega];rfl),yt⟩)
def homeK(g:Int):Int:=56*(g/2)+4
def homeR(g:Int):Int:=if g%2=0 then 56*(g/2)+7 else 56*(g/2)
theorem home_rng{g:Int}(h:0<=g/\g<=3):(0<=homeK g/\homeK g<=63)/\(0<=homeR g/\homeR g<=63):=by
 unfold homeK homeR;split<;>omega
def pw2(g:Int):Int:=if g=0 then 1 else if g=1 then 2 else if g=2 then 4 else 8
theorem pw2_eq{g:Int}(h:0<=g/\g<=3):IntKind.i64.wrap (1*2^(min g.toNat IntKind.i64.bits))=pw2 g:=by
 rcases (by omega:g=0\/g=1\/g=2\/g=3) with rfl|rfl|rfl|rfl<;>rfl
theorem pw2_rng(g:Int):1<=pw2 g/\pw2 g<=8:=by unfold pw2;split<;>(try split)<;>(try split)<;>omega
def rightB(P:SP)(g:Int):Bool:=(castBit P.castle g.toNat&&(P.bd (homeK g).toNat==1+6*(g/2)))&&(P.bd (homeR g).toNat==3+6*(g/2))
def rightsTo(P:SP):Nat->Int
 |0=>0
 |n+1=>bif rightB P (n:Int) then rightsTo P n+pw2 (n:Int) else rightsTo P n
def rightsS(P:SP):Int:=rightsTo P 4
theorem rightsTo_rng(P:SP):∀n:Nat,0<=rightsTo P n/\rightsTo P n<=8*n
 |0=>by simp [rightsTo]
 |n+1=>by have:=rightsTo_rng P n;have:=pw2_rng n;unfold rightsTo;cases rightB P n<;>simp<;>omega
theorem rightsTo_succ{P:SP}{j:Int}(h:0<=j):rightsTo P (j+1).toNat=bif rightB P j then rightsTo P j.toNat+pw2 j else rightsTo P j.toNat:=by
 have e:rightsTo P (j.toNat+1)=bif rightB P (j.toNat:Int) then rightsTo P j.toNat+pw2 (j.toNat:Int) else rightsTo P j.toNat:=rfl
 rw [show (j+1).toNat=j.toNat+1 by omega,e,show ((j.toNat:Nat):Int)=j by omega]
def passedS(P:SP):Bool:=
 if P.ep<0\/63<P.ep then P.ep==(-1) else if P.ep/8≠5-3*P.turn\/P.bd P.ep.toNat≠0 then false else
 (P.bd (8*(P.ep/8-(1-2*P.turn))+P.ep%8).toNat==6+6*(1-P.turn))&&(P.bd (8*(P.ep/8+(1-2*P.turn))+P.ep%8).toNat==0)
structure ValidS(P:SP):Prop where
 bd:SPb P
 pawns:∀i,i<64->kindOf (P.bd i)=6->P.bd i≠0->i/8≠0/\i/8≠7
 turn:0<=P.turn/\P.turn<=1
 castle:0<=P.castle/\P.castle<=15
 half:0<=P.half
 full:1<=P.full
 kw:countS P.bd 1=1
 kb:countS P.bd 7=1
 rights:rightsS P=P.castle
 passed:passedS P=true
 safe:attS P.bd (kingAtS P.bd (1-P.turn)).toNat P.turn=false
theorem countTo_zero{bd:Nat->Int}{p:Int}:∀{n:Nat},kingTo bd p n=-1->countTo bd p n=0
 |0,_=>rfl
 |n+1,h=>by
  unfold kingTo at h;by_cases hk:kingTo bd p n=-1
  ·rw [if_pos hk] at h;by_cases hb:bd n=p
   ·rw [if_pos hb] at h;omega
   ·unfold countTo;rw [if_neg hb];exact countTo_zero hk
  ·rw [if_neg hk] at h;exact absurd h hk
theorem kingAt_one{bd:Nat->Int}{sd:Int}(h:countS bd (1+6*sd)=1):0<=kingAtS bd sd/\kingAtS bd sd<=63:=by
 have h1:=kingTo_range bd (1+6*sd) 64;have h2:kingTo bd (1+6*sd) 64≠-1:=λhh=>by have:=countTo_zero hh;unfold countS at h;omega
 unfold kingAtS;omega
theorem ret_two{a b a' b':Int}(h:a=a')(h':b=b'):Ending.returned (.tuple #[.int .i64 a,.int .i64 b])=.returned (.tuple #[.int .i64 a',.int .i64 b']):=by rw [h,h']
theorem c78{w:World}(r:Int)(h:0<=r/\r<=3):
  CR 78 [.int .i64 r] w (.tuple #[.int .i64 (homeK r),.int .i64 (homeR r)]):=by
 refine en func78 ntmps78 ?_;refine zw<|yS 2<|zx<|yO 2 [.prop ((2:Int)≠0)] (show (2:Int)≠0 from (by omega))<|yW 6 (zdw r 2 (by omega) (by omega))<|yS 1<|yW 7 (zi ((7:Int)*(r/(2:Int))) (by omega) (by omega))<|yS 1<|zz<|w_seq<|zw<|yO 2 [.prop ((2:Int)≠0)] (show (2:Int)≠0 from (by omega))<|yW 9 (zm r 2 (by omega))<|yS 1<|zz<|w_cond (b:=((r%(2:Int))==(0:Int))) (by kernel_rfl) (λhc1=>?_) (λhc1=>?_)
 ·have dhc1:=eq_of_beq hc1;exact zw<|yS 1<|zk (some 12) (c39 (4:Int) ((7:Int)*(r/(2:Int))) w (by omega) (by omega)) fun w2 v3=>yS 1<|zk (some 14) (c39 (7:Int) ((7:Int)*(r/(2:Int))) w2 (by omega) (by omega)) fun w5 v6=>yS 2<|zz<|w_ret<|r_then<|y2 (v:=.int .i64 (8*((7:Int)*(r/(2:Int)))+(4:Int))) (v':=.int .i64 (8*((7:Int)*(r/(2:Int)))+(7:Int))) (⟨ret_two (by unfold homeK;omega) (by unfold homeR;split<;>omega),yt⟩)
 have dhc1:=ne_of_beq_false hc1;exact w_skip<|zn<|yS 1<|zk (some 16) (c39 (4:Int) ((7:Int)*(r/(2:Int))) w (by omega) (by omega)) fun w8 v9=>yS 1<|zk (some 18) (c39 (0:Int) ((7:Int)*(r/(2:Int))) w8 (by omega) (by omega)) fun w11 v12=>yS 2<|zz<|w_ret<|y2 (v:=.int .i64 (8*((7:Int)*(r/(2:Int)))+(4:Int))) (v':=.int .i64 (8*((7:Int)*(r/(2:Int)))+(0:Int))) (⟨ret_two (by unfold homeK;omega) (by unfold homeR;split<;>omega),yt⟩)
theorem c43{w:World}(P:SP):
  CR 43 [.agg (spCells P)] w (.int .i64 (rightsS P)):=by
 refine en func43 ntmps43 ?_;refine zw<|zA (spCells P) 24 (some 1) fun b1 w2 hn3=>yS 1<|zx<|yS 1<|zz<|w_seq<|zw<|yS 1<|zz<|w_block<|yP (γ:=Int) (λg8=>(4-g8).toNat) (λ(g8:Int)=>[(1,.pointer (some ⟨b1,0,none⟩)),(3,.int .i64 (rightsTo P g8.toNat)),(4,.int .i64 g8)]) (λ(g8:Int) w_=>(0<=g8/\g8<=4)/\Mod [] w2 w_/\(True)) (0:Int) ⟨by omega,Mod.refl _ _,trivial⟩ ?_;rintro g8 w9 ⟨⟨h11,h12⟩,v10,hx13⟩;refine w_seq<|zw<|yS 2<|zz<|w_cond (b:=(decide (g8<(4:Int)))) (by kernel_rfl) (λhc16=>?_) (λhc16=>?_)
 ·have dhc16:=of_decide_eq_true hc16;refine w_skip<|n_then<|w_cut (γ:=Int) (λg17=>[(1,.pointer (some ⟨b1,0,none⟩)),(3,.int .i64 g17),(4,.int .i64 g8)]) (λg17 w_=>Mod [] w9 w_/\g17=(rightsTo P (g8+1).toNat)) ?_ ?_
  ·refine w_block<|zw<|yS 1<|zk (some 13) (c78 g8 (by omega)) ?_;intro w21 v22;have hhm:=home_rng (g:=g8) (by omega);have hrr:=rightsTo_rng P g8.toNat;have hpw:=pw2_rng g8;refine yS 5<|zz<|w_cut (γ:=Unit) (λ_=>[(1,.pointer (some ⟨b1,0,none⟩)),(3,.int .i64 (rightsTo P g8.toNat)),(4,.int .i64 g8),(41,.bool (((castBit P.castle g8.toNat)&&((P.bd ((homeK g8).toNat))==((1:Int)+6*(g8/(2:Int)))))&&((P.bd ((homeR g8).toNat))==((3:Int)+6*(g8/(2:Int))))))]) (λ_ w_=>Mod [] w21 w_) ?_ ?_
   ·refine w_qt<|yQv 7 [.cell ⟨b1,65,none⟩ (.int .i64 P.castle),.prop (0<=g8)] [.int .i64 P.castle] (λ_ hC=>⟨At.cell (At.on ya hC) (spCells_65 P),(zh (by omega))⟩)<|yEq 22 (.bool (castBit P.castle g8.toNat)) ?_;cases hc30:(castBit P.castle g8.toNat)
    ·have dhc30:=hc30;try simp only [zbq] at dhc30
     exact yQ 19<|q_ot fun w31 v32=>zb () yt
    have dhc30:=hc30;try simp only [zbq] at dhc30
    refine yQv 4 [.prop (0<=(homeK g8)/\(homeK g8)<((64:Nat):Int)),.cell ⟨b1,(0+(homeK g8).toNat*1),none⟩ (.int .i64 (P.bd ((homeK g8).toNat)))] [.int .i64 (P.bd ((homeK g8).toNat))] (λ_ hC=>⟨(zh (by omega)),At.cell (At.on ya hC) (spCells_b0 P (by omega))⟩)<|zqo 2 [rz 1 b1,iz 3 (rightsTo P g8.toNat),iz 4 g8,iz 6 (homeR g8),(22,.bool true),iz 26 (P.bd ((homeK g8).toNat)),iz 28 (IntKind.i64.wrap (g8.tdiv (2:Int)))] [.prop ((2:Int)≠0)] (λ_ hC=>(show (2:Int)≠0 from (by omega))) ?_;rw [zd g8 2 (by omega)];rw [zi (g8/(2:Int)) (by omega) (by omega)];refine zqk (some 29) (λw_ hC=>c37 (1:Int) (g8/(2:Int)) w_ (by omega) (by omega))<|yQ 3<|yEq 32 (.bool ((P.bd ((homeK g8).toNat))==((1:Int)+6*(g8/(2:Int))))) ?_;cases hc37:((P.bd ((homeK g8).toNat))==((1:Int)+6*(g8/(2:Int))))
    ·have dhc37:=hc37;simp only [zbq] at dhc37;exact yQ 9<|q_ot fun w38 v39=>zb () yt
    have dhc37:=hc37;simp only [zbq] at dhc37;refine yQv 4 [.prop (0<=(homeR g8)/\(homeR g8)<((64:Nat):Int)),.cell ⟨b1,(0+(homeR g8).toNat*1),none⟩ (.int .i64 (P.bd ((homeR g8).toNat)))] [.int .i64 (P.bd ((homeR g8).toNat))] (λ_ hC=>⟨(zh (by omega)),At.cell (At.on ya hC) (spCells_b0 P (by omega))⟩)<|zqo 2 [rz 1 b1,iz 3 (rightsTo P g8.toNat),iz 4 g8,(32,.bool true),iz 36 (P.bd ((homeR g8).toNat)),iz 38 (IntKind.i64.wrap (g8.tdiv (2:Int)))] [.prop ((2:Int)≠0)] (λ_ hC=>(show (2:Int)≠0 from (by omega))) ?_;rw [zd g8 2 (by omega)];rw [zi (g8/(2:Int)) (by omega) (by omega)];exact zqk (some 39) (λw_ hC=>c37 (3:Int) (g8/(2:Int)) w_ (by omega) (by omega))<|yQ 2<|q_ot fun w44 v45=>zb () yt
   intro _ w27 v28;refine w_cond (b:=(((castBit P.castle g8.toNat)&&((P.bd ((homeK g8).toNat))==((1:Int)+6*(g8/(2:Int)))))&&((P.bd ((homeR g8).toNat))==((3:Int)+6*(g8/(2:Int)))))) (by kernel_rfl) (λhc54=>?_) (λhc54=>?_)
   ·have dhc54:=hc54;simp only [zbq] at dhc54;refine w_region<|zv 3 [rz 1 b1,iz 4 g8,iz 42 (rightsTo P g8.toNat),iz 44 (IntKind.i64.wrap ((1:Int)*2^(min g8.toNat IntKind.i64.bits)))] [.prop (0<=g8)] [] (zh (by omega)) ?_;rw [(show ((IntKind.i64.wrap ((1:Int)*2^(min g8.toNat IntKind.i64.bits))):Int)=(pw2 g8) from (pw2_eq (by omega)))];exact yS 1<|yW 45 (zi ((rightsTo P g8.toNat)+(pw2 g8)) (by omega) (by omega))<|yS 1<|ze<|n_block<|zb ((rightsTo P g8.toNat)+(pw2 g8)) ⟨yt,(by rw [rightsTo_succ (by omega)];unfold rightB;simp only [hc54,cond_true,cond_false])⟩
   have dhc54:=hc54;simp only [zbq] at dhc54;exact w_skip<|n_block<|zb (rightsTo P g8.toNat) ⟨yt,(by rw [rightsTo_succ (by omega)];unfold rightB;simp only [hc54,cond_true,cond_false])⟩
  rintro _ w18 ⟨v19,rfl⟩;exact w_region<|yS 2<|yW 10 (zi (g8+(1:Int)) (by omega) (by omega))<|yS 1<|ze<|zl (g8+1) ⟨by omega,yt,trivial⟩
 have dhc16:=of_decide_eq_false hc16;exact w_exit<|x_then<|x_then<|x_hit<|zn<|yS 2<|zz<|w_ret<|y1 (v:=.int .i64 (rightsTo P g8.toNat)) (⟨ret_int (by rw [show g8=4 by omega];rfl),yt⟩)
theorem c44{w:World}(P:SP)(ht:0<=P.turn/\P.turn<=1):
  CR 44 [.agg (spCells P)] w (.bool (passedS P)):=by
 refine en func44 ntmps44 ?_;refine zw<|zA (spCells P) 24 (some 1) fun b1 w2 hn3=>yS 1<|zz<|w_seq<|w_cut (γ:=Unit) (λ_=>[(1,pz b1),(13,.bool ((decide (P.ep<0))||(decide (P.ep>63))))]) (λ_ w_=>Mod [] w2 w_) ?_ ?_
 ·refine w_region<|yO 4 [.cell ⟨b1,66,none⟩ (.int .i64 P.ep)] (yc (spCells_66 P))<|yE 9 (.bool (decide (P.ep<0))) ?_;cases hc11:(decide (P.ep<0))
  ·have dhc11:=hc11;try simp only [zbq] at dhc11
   exact yO 4 [.cell ⟨b1,66,none⟩ (.int .i64 P.ep)] (yc (spCells_66 P))<|ze<|zb () yt
  have dhc11:=hc11;try simp only [zbq] at dhc11
  exact yS 4<|ze<|zb () yt
 intro _ w8 v9;refine yC ((decide (P.ep<0))||(decide (P.ep>63))) (λhc14=>?_) λhc14=>?_
 ·have dhc14:=hc14;try simp only [zbq] at dhc14
  exact zw<|yO 4 [.cell ⟨b1,66,none⟩ (.int .i64 P.ep)] (yc (spCells_66 P))<|zz<|w_ret<|r_then<|y1 (⟨ret_bool (by unfold passedS;rw [if_pos (by omega)]),yt⟩)
 have dhc14:=hc14;try simp only [zbq] at dhc14
 refine w_skip<|zn<|yO 3 [.cell ⟨b1,64,none⟩ (.int .i64 P.turn)] (yc (spCells_64 P))<|yW 19 (zi (2*P.turn) (by omega) (by omega))<|yS 1<|yW 20 (zi (1-(2*P.turn)) (by omega) (by omega))<|yS 1<|zz<|w_seq<|w_qt<|yQo 2 [.cell ⟨b1,66,none⟩ (.int .i64 P.ep)] (λ_ hC=>At.cell (At.on ya hC) (spCells_66 P))<|zqk (some 23) (λw_ hC=>c77 P.ep w_ (by omega))<|yQo 2 [.cell ⟨b1,66,none⟩ (.int .i64 P.ep)] (λ_ hC=>At.cell (At.on ya hC) (spCells_66 P))<|zqk (some 26) (λw_ hC=>c40 P.ep w_ (by omega))<|yQ 2<|q_ot fun w15 v16=>n_then<|w_seq<|w_cut (γ:=Unit) (λ_=>[(1,pz b1),(3,.int .i64 (1-(2*P.turn))),(4,.int .i64 (P.ep%8)),(5,.int .i64 (P.ep/8)),(40,.bool (((P.ep/8) !=(5-(3*P.turn)))||((P.bd P.ep.toNat) !=0)))]) (λ_ w_=>Mod [] w15 w_) ?_ ?_
 ·refine w_region<|yO 4 [.cell ⟨b1,64,none⟩ (.int .i64 P.turn)] (yc (spCells_64 P))<|yW 30 (zi (3*P.turn) (by omega) (by omega))<|yS 1<|yW 31 (zi (5-(3*P.turn)) (by omega) (by omega))<|yS 2<|yE 33 (.bool ((P.ep/8) !=(5-(3*P.turn)))) ?_;cases hc22:((P.ep/8) !=(5-(3*P.turn)))
  ·have dhc22:=hc22;try simp only [zbq] at dhc22
   exact yO 5 [.cell ⟨b1,66,none⟩ (.int .i64 P.ep),.prop (0<=P.ep/\P.ep<((64:Nat):Int)),.cell ⟨b1,(0+P.ep.toNat*1),none⟩ (.int .i64 (P.bd P.ep.toNat))] (⟨yc (spCells_66 P),(zh (by omega)),yc (spCells_b0 P (by omega))⟩)<|yS 2<|ze<|zb () yt
  have dhc22:=hc22;try simp only [zbq] at dhc22
  exact yS 7<|ze<|zb () yt
 intro _ w19 v20;refine yC (((P.ep/8) !=(5-(3*P.turn)))||((P.bd P.ep.toNat) !=0)) (λhc25=>?_) λhc25=>?_
 ·have dhc25:=hc25;try simp only [zbq] at dhc25
  exact zw<|yS 1<|zz<|w_ret<|r_then<|y1 (v:=.bool false) (⟨ret_bool (by unfold passedS;rw [if_neg (by omega),if_pos (by omega)]),yt⟩)
 have dhc25:=hc25;try simp only [zbq] at dhc25
 refine w_skip<|n_then<|w_cut (γ:=Unit) (λ_=>[(2,.bool (((P.bd ((8*((P.ep/8)-(1-(2*P.turn)))+(P.ep%8)).toNat))==(6+6*(1-P.turn)))&&((P.bd ((8*((P.ep/8)+(1-(2*P.turn)))+(P.ep%8)).toNat))==0)))]) (λ_ w_=>Mod [] w19 w_) ?_ ?_
 ·refine w_qt<|zq 4 [rz 1 b1,iz 3 (1-(2*P.turn)),iz 4 (P.ep%8),iz 5 (P.ep/8),iz 41 (P.ep%8),iz 44 (IntKind.i64.wrap ((P.ep/8)-(1-(2*P.turn))))] ?_;rw [zi ((P.ep/8)-(1-(2*P.turn))) (by omega) (by omega)];refine zqk (some 45) (λw_ hC=>c39 (P.ep%8) ((P.ep/8)-(1-(2*P.turn))) w_ (by omega) (by omega))<|zqo 3 [rz 1 b1,iz 3 (1-(2*P.turn)),iz 4 (P.ep%8),iz 5 (P.ep/8),iz 48 (P.bd (0+(8*((P.ep/8)-(1-(2*P.turn)))+(P.ep%8)).toNat*1))] [.prop (0<=(8*((P.ep/8)-(1-(2*P.turn)))+(P.ep%8))/\(8*((P.ep/8)-(1-(2*P.turn)))+(P.ep%8))<((64:Nat):Int)),.cell ⟨b1,(0+(8*((P.ep/8)-(1-(2*P.turn)))+(P.ep%8)).toNat*1),none⟩ (.int .i64 (P.bd (0+(8*((P.ep/8)-(1-(2*P.turn)))+(P.ep%8)).toNat*1)))] (λ_ hC=>⟨(zh (by omega)),At.cell (At.on ya hC) (spCells_bd P (by omega))⟩) ?_;rw [(show ((0+(8*((P.ep/8)-(1-(2*P.turn)))+(P.ep%8)).toNat*1):Nat)=((8*((P.ep/8)-(1-(2*P.turn)))+(P.ep%8)).toNat) from (by omega))];refine zqo 3 [rz 1 b1,iz 3 (1-(2*P.turn)),iz 4 (P.ep%8),iz 5 (P.ep/8),iz 48 (P.bd ((8*((P.ep/8)-(1-(2*P.turn)))+(P.ep%8)).toNat)),iz 51 (IntKind.i64.wrap (1-P.turn))] [.cell ⟨b1,64,none⟩ (.int .i64 P.turn)] (λ_ hC=>At.cell (At.on ya hC) (spCells_64 P)) ?_;rw [zi (1-P.turn) (by omega) (by omega)];refine zqk (some 52) (λw_ hC=>c37 6 (1-P.turn) w_ (by omega) (by omega))<|yQ 2<|yEq 54 (.bool ((P.bd ((8*((P.ep/8)-(1-(2*P.turn)))+(P.ep%8)).toNat))==(6+6*(1-P.turn)))) ?_;cases hc29:((P.bd ((8*((P.ep/8)-(1-(2*P.turn)))+(P.ep%8)).toNat))==(6+6*(1-P.turn)))
  ·have dhc29:=hc29;try simp only [zbq] at dhc29
   exact yQ 11<|q_ot fun w30 v31=>zb () yt
  have dhc29:=hc29;try simp only [zbq] at dhc29
  refine zq 4 [rz 1 b1,(54,.bool true),iz 55 (P.ep%8),iz 58 (IntKind.i64.wrap ((P.ep/8)+(1-(2*P.turn))))] ?_;rw [zi ((P.ep/8)+(1-(2*P.turn))) (by omega) (by omega)];refine zqk (some 59) (λw_ hC=>c39 (P.ep%8) ((P.ep/8)+(1-(2*P.turn))) w_ (by omega) (by omega))<|zqo 3 [(54,.bool true),iz 62 (P.bd (0+(8*((P.ep/8)+(1-(2*P.turn)))+(P.ep%8)).toNat*1))] [.prop (0<=(8*((P.ep/8)+(1-(2*P.turn)))+(P.ep%8))/\(8*((P.ep/8)+(1-(2*P.turn)))+(P.ep%8))<((64:Nat):Int)),.cell ⟨b1,(0+(8*((P.ep/8)+(1-(2*P.turn)))+(P.ep%8)).toNat*1),none⟩ (.int .i64 (P.bd (0+(8*((P.ep/8)+(1-(2*P.turn)))+(P.ep%8)).toNat*1)))] (λ_ hC=>⟨(zh (by omega)),At.cell (At.on ya hC) (spCells_bd P (by omega))⟩) ?_;rw [(show ((0+(8*((P.ep/8)+(1-(2*P.turn)))+(P.ep%8)).toNat*1):Nat)=((8*((P.ep/8)+(1-(2*P.turn)))+(P.ep%8)).toNat) from (by omega))];exact yQ 3<|q_ot fun w34 v35=>zb () yt
 intro _ w26 v27;exact w_ret<|y1 (v:=.bool (((P.bd ((8*((P.ep/8)-(1-(2*P.turn)))+(P.ep%8)).toNat))==(6+6*(1-P.turn)))&&((P.bd ((8*((P.ep/8)+(1-(2*P.turn)))+(P.ep%8)).toNat))==0))) (⟨ret_bool (by unfold passedS;rw [if_neg (by omega),if_neg (by omega)]),yt⟩)
theorem c20{w:World}(P:SP):
  CQ 20 [.agg (spCells P)] w (λe w'=>∃v:Bool,e=.returned (.bool v)/\Mod [] w w'/\(v=true->ValidS P)):=by
 refine en func20 ntmps20 ?_;refine zw<|zA (spCells P) 24 (some 1) fun b1 w2 hn3=>yS 1<|zz<|w_seq<|zw<|yS 1<|zz<|w_block<|yP (γ:=Int) (λg8=>(64-g8).toNat) (λ(g8:Int)=>[(1,pz b1),(3,.int .i64 g8)]) (λ(g8:Int) w_=>(0<=g8/\g8<=64)/\Mod [] w2 w_/\(∀i:Int,0<=i->i<g8->(0<=P.bd i.toNat/\P.bd i.toNat<=12)/\(kindOf (P.bd i.toNat)=6->P.bd i.toNat≠0->i/8≠0/\i/8≠7))) 0 ⟨by omega,Mod.refl _ _,(λi h0 h1=>absurd h1 (by omega))⟩ ?_;rintro g8 w9 ⟨⟨h11,h12⟩,v10,hx13⟩;refine w_seq<|zw<|yS 2<|zz<|yC (decide (g8<64)) (λhc16=>?_) λhc16=>?_
 ·have dhc16:=of_decide_eq_true hc16;refine w_skip<|n_then<|w_seq<|w_block<|zw<|yO 4 [.prop (0<=g8/\g8<((64:Nat):Int)),.cell ⟨b1,(0+g8.toNat*1),none⟩ (.int .i64 (P.bd g8.toNat))] (⟨(zh (by omega)),yc (spCells_b0 P (by omega))⟩)<|yS 1<|zz<|w_cut (γ:=Unit) (λ_=>[(1,pz b1),(3,.int .i64 g8),(37,.bool (((decide ((P.bd g8.toNat)<0))||(decide ((P.bd g8.toNat)>12)))||((((kindOf (P.bd g8.toNat))==6)&&((P.bd g8.toNat) !=0))&&(((g8/8)==0)||((g8/8)==7)))))]) (λ_ w_=>Mod [] w9 w_) ?_ ?_
  ·refine w_region<|yS 3<|yE 15 (.bool (decide ((P.bd g8.toNat)<0))) ?_;cases hc20:(decide ((P.bd g8.toNat)<0))
   ·have dhc20:=hc20;try simp only [zbq] at dhc20
    refine yS 4<|yE 19 (.bool (decide ((P.bd g8.toNat)>12))) ?_;cases hc21:(decide ((P.bd g8.toNat)>12))
    ·have dhc21:=hc21;try simp only [zbq] at dhc21
     refine yS 1<|zk (some 21) (c38 (P.bd g8.toNat) w9 (by omega)) fun w22 v23=>yS 2<|yE 23 (.bool ((kindOf (P.bd g8.toNat))==6)) ?_;cases hc27:((kindOf (P.bd g8.toNat))==6)
     ·have dhc27:=hc27;try simp only [zbq] at dhc27
      exact yS 14<|ze<|zb () yt
     have dhc27:=hc27;try simp only [zbq] at dhc27
     refine yS 4<|yE 27 (.bool ((P.bd g8.toNat) !=0)) ?_;cases hc28:((P.bd g8.toNat) !=0)
     ·have dhc28:=hc28;try simp only [zbq] at dhc28
      exact yS 10<|ze<|zb () yt
     have dhc28:=hc28;try simp only [zbq] at dhc28
     refine yS 1<|zk (some 29) (c40 g8 w22 (by omega)) fun w29 v30=>yS 2<|yE 31 (.bool ((g8/8)==0)) ?_;cases hc34:((g8/8)==0)
     ·have dhc34:=hc34;try simp only [zbq] at dhc34
      exact yS 1<|zk (some 33) (c40 g8 w29 (by omega)) fun w35 v36=>yS 4<|ze<|zb () yt
     have dhc34:=hc34;try simp only [zbq] at dhc34
     exact yS 6<|ze<|zb () yt
    have dhc21:=hc21;try simp only [zbq] at dhc21
    exact yS 18<|ze<|zb () yt
   have dhc20:=hc20;try simp only [zbq] at dhc20
   exact yS 22<|ze<|zb () yt
  intro _ w17 v18;refine yC (((decide ((P.bd g8.toNat)<0))||(decide ((P.bd g8.toNat)>12)))||((((kindOf (P.bd g8.toNat))==6)&&((P.bd g8.toNat) !=0))&&(((g8/8)==0)||((g8/8)==7)))) (λhc43=>?_) λhc43=>?_
  ·have dhc43:=hc43;try simp only [zbq] at dhc43
   exact zw<|yS 1<|zz<|w_ret<|r_block<|r_then<|r_then<|r_block<|r_then<|y1 (⟨false,rfl,yt,λh=>absurd h (by decide)⟩)
  have dhc43:=hc43;try simp only [zbq] at dhc43
  exact w_skip<|n_block<|n_then<|w_region<|yS 2<|yW 8 (zi (g8+1) (by omega) (by omega))<|yS 1<|ze<|zl (g8+1) ⟨by omega,yt,(forall_step hx13 (by refine ⟨by omega,λa b=>?_⟩;have h1:=dhc43.2;simp only [a] at h1;simp at h1;omega))⟩
 have dhc16:=of_decide_eq_false hc16;have hsq:∀i:Nat,i<64->(0<=P.bd i/\P.bd i<=12)/\(kindOf (P.bd i)=6->P.bd i≠0->i/8≠0/\i/8≠7):=λi hi=>(by have:=hx13 (i:Int) (by omega) (by omega);rw [Int.toNat_natCast] at this;exact ⟨this.1,λa b=>(by have:=this.2 a b;omega)⟩);have hB:SPb P:=λi hi=>(hsq i hi).1;refine w_exit<|x_then<|x_then<|x_hit<|n_then<|w_seq<|w_cut (γ:=Unit) (λ_=>[(1,pz b1),(65,.bool ((((((P.turn !=0)&&(P.turn !=1))||(decide (P.castle<0)))||(decide (P.castle>15)))||(decide (P.half<0)))||(decide (P.full<1))))]) (λ_ w_=>Mod [] w9 w_) ?_ ?_
 ·refine w_region<|yO 4 [.cell ⟨b1,64,none⟩ (.int .i64 P.turn)] (yc (spCells_64 P))<|yE 41 (.bool (P.turn !=0)) ?_;cases hc47:(P.turn !=0)
  ·have dhc47:=hc47;try simp only [zbq] at dhc47
   refine yO 10 [.cell ⟨b1,65,none⟩ (.int .i64 P.castle)] (yc (spCells_65 P))<|yE 51 (.bool (decide (P.castle<0))) ?_;cases hc48:(decide (P.castle<0))
   ·have dhc48:=hc48;try simp only [zbq] at dhc48
    refine yO 5 [.cell ⟨b1,65,none⟩ (.int .i64 P.castle)] (yc (spCells_65 P))<|yE 56 (.bool (decide (P.castle>15))) ?_;cases hc49:(decide (P.castle>15))
    ·have dhc49:=hc49;try simp only [zbq] at dhc49
     refine yO 5 [.cell ⟨b1,67,none⟩ (.int .i64 P.half)] (yc (spCells_67 P))<|yE 61 (.bool (decide (P.half<0))) ?_;cases hc50:(decide (P.half<0))
     ·have dhc50:=hc50;try simp only [zbq] at dhc50
      exact yO 4 [.cell ⟨b1,68,none⟩ (.int .i64 P.full)] (yc (spCells_68 P))<|ze<|zb () yt
     have dhc50:=hc50;try simp only [zbq] at dhc50
     exact yS 4<|ze<|zb () yt
    have dhc49:=hc49;try simp only [zbq] at dhc49
    exact yS 9<|ze<|zb () yt
   have dhc48:=hc48;try simp only [zbq] at dhc48
   exact yS 14<|ze<|zb () yt
  have dhc47:=hc47;try simp only [zbq] at dhc47
  refine yO 5 [.cell ⟨b1,64,none⟩ (.int .i64 P.turn)] (yc (spCells_64 P))<|yE 46 (.bool (P.turn !=1)) ?_;cases hc51:(P.turn !=1)
  ·have dhc51:=hc51;try simp only [zbq] at dhc51
   refine yO 5 [.cell ⟨b1,65,none⟩ (.int .i64 P.castle)] (yc (spCells_65 P))<|yE 51 (.bool (decide (P.castle<0))) ?_;cases hc52:(decide (P.castle<0))
   ·have dhc52:=hc52;try simp only [zbq] at dhc52
    refine yO 5 [.cell ⟨b1,65,none⟩ (.int .i64 P.castle)] (yc (spCells_65 P))<|yE 56 (.bool (decide (P.castle>15))) ?_;cases hc53:(decide (P.castle>15))
    ·have dhc53:=hc53;try simp only [zbq] at dhc53
     refine yO 5 [.cell ⟨b1,67,none⟩ (.int .i64 P.half)] (yc (spCells_67 P))<|yE 61 (.bool (decide (P.half<0))) ?_;cases hc54:(decide (P.half<0))
     ·have dhc54:=hc54;try simp only [zbq] at dhc54
      exact yO 4 [.cell ⟨b1,68,none⟩ (.int .i64 P.full)] (yc (spCells_68 P))<|ze<|zb () yt
     have dhc54:=hc54;try simp only [zbq] at dhc54
     exact yS 4<|ze<|zb () yt
    have dhc53:=hc53;try simp only [zbq] at dhc53
    exact yS 9<|ze<|zb () yt
   have dhc52:=hc52;try simp only [zbq] at dhc52
   exact yS 14<|ze<|zb () yt
  have dhc51:=hc51;try simp only [zbq] at dhc51
  exact yS 19<|ze<|zb () yt
 intro _ w44 v45;refine yC ((((((P.turn !=0)&&(P.turn !=1))||(decide (P.castle<0)))||(decide (P.castle>15)))||(decide (P.half<0)))||(decide (P.full<1))) (λhc57=>?_) λhc57=>?_
 ·have dhc57:=hc57;try simp only [zbq] at dhc57
  exact zw<|yS 1<|zz<|w_ret<|r_then<|y1 (⟨false,rfl,yt,λh=>absurd h (by decide)⟩)
 have dhc57:=hc57;try simp only [zbq] at dhc57
 refine w_skip<|n_then<|w_seq<|w_cut (γ:=Unit) (λ_=>[(1,pz b1),(85,.bool (((((countS P.bd (1+6*0)) !=1)||((countS P.bd (1+6*1)) !=1))||((rightsS P) !=P.castle))||(!(passedS P))))]) (λ_ w_=>Mod [] w44 w_) ?_ ?_
 ·refine w_qt<|yQv 1 [.row ⟨b1,0,none⟩ 69 (spCells P)] [.agg (spCells P)] (λ_ hC=>(At.row (At.on ya hC) (spCells_size P)))<|zqk (some 67) (λw_ hC=>c42 P 1 0 (by omega) (by omega))<|yQ 2<|yEq 69 (.bool ((countS P.bd (1+6*0)) !=1)) ?_;cases hc61:((countS P.bd (1+6*0)) !=1)
  ·have dhc61:=hc61;try simp only [zbq] at dhc61
   refine yQv 1 [.row ⟨b1,0,none⟩ 69 (spCells P)] [.agg (spCells P)] (λ_ hC=>(At.row (At.on ya hC) (spCells_size P)))<|zqk (some 71) (λw_ hC=>c42 P 1 1 (by omega) (by omega))<|yQ 3<|yEq 74 (.bool ((countS P.bd (1+6*1)) !=1)) ?_;cases hc62:((countS P.bd (1+6*1)) !=1)
   ·have dhc62:=hc62;try simp only [zbq] at dhc62
    refine yQv 1 [.row ⟨b1,0,none⟩ 69 (spCells P)] [.agg (spCells P)] (λ_ hC=>(At.row (At.on ya hC) (spCells_size P)))<|zqk (some 76) (λw_ hC=>c43 P)<|yQo 5 [.cell ⟨b1,65,none⟩ (.int .i64 P.castle)] (λ_ hC=>At.cell (At.on ya hC) (spCells_65 P))<|yEq 81 (.bool ((rightsS P) !=P.castle)) ?_;cases hc63:((rightsS P) !=P.castle)
    ·have dhc63:=hc63;try simp only [zbq] at dhc63
     exact yQv 1 [.row ⟨b1,0,none⟩ 69 (spCells P)] [.agg (spCells P)] (λ_ hC=>(At.row (At.on ya hC) (spCells_size P)))<|zqk (some 83) (λw_ hC=>c44 P (by omega))<|yQ 2<|q_ot fun w64 v65=>zb () yt
    have dhc63:=hc63;try simp only [zbq] at dhc63
    exact yQ 4<|q_ot fun w68 v69=>zb () yt
   have dhc62:=hc62;try simp only [zbq] at dhc62
   exact yQ 11<|q_ot fun w72 v73=>zb () yt
  have dhc61:=hc61;try simp only [zbq] at dhc61
  exact yQ 16<|q_ot fun w76 v77=>zb () yt
 intro _ w58 v59;refine yC (((((countS P.bd (1+6*0)) !=1)||((countS P.bd (1+6*1)) !=1))||((rightsS P) !=P.castle))||(!(passedS P))) (λhc82=>?_) λhc82=>?_
 ·have dhc82:=hc82;try simp only [zbq] at dhc82
  exact zw<|yS 1<|zz<|w_ret<|r_then<|y1 (⟨false,rfl,yt,λh=>absurd h (by decide)⟩)
 have dhc82:=hc82;try simp only [zbq] at dhc82
 have hpa:passedS P=true:=dhc82.2;have hkw:countS P.bd 1=1:=(show countS P.bd (1+6*0)=1 from by omega);have hkb:countS P.bd 7=1:=(show countS P.bd (1+6*1)=1 from by omega);have hkt:0<=kingAtS P.bd (1-P.turn)/\kingAtS P.bd (1-P.turn)<=63:=kingAt_one (by rcases (by omega:P.turn=0\/P.turn=1) with h|h<;>rw [h]<;>first|exact (show countS P.bd (1+6*1)=1 from by omega)|exact (show countS P.bd (1+6*0)=1 from by omega));refine w_skip<|n_then<|w_seq<|w_qt<|zqv 5 [rz 1 b1,(86,.agg (spCells P)),(87,.agg (spCells P)),iz 90 (IntKind.i64.wrap (1-P.turn))] [.row ⟨b1,0,none⟩ 69 (spCells P),.row ⟨b1,0,none⟩ 69 (spCells P),.cell ⟨b1,64,none⟩ (.int .i64 P.turn)] [.agg (spCells P),.agg (spCells P),.int .i64 P.turn] (λ_ hC=>⟨(At.row (At.on ya hC) (spCells_size P)),(At.row (At.on ya hC) (spCells_size P)),At.cell (At.on ya hC) (spCells_64 P)⟩) ?_;rw [zi (1-P.turn) (by omega) (by omega)];exact zqk (some 91) (λw_ hC=>c22 P (1-P.turn) (by omega))<|yQo 2 [.cell ⟨b1,64,none⟩ (.int .i64 P.turn)] (λ_ hC=>At.cell (At.on ya hC) (spCells_64 P))<|zqk (some 94) (λw_ hC=>c23 P hB (kingAtS P.bd (1-P.turn)) P.turn (by omega))<|yQ 2<|q_ot fun w83 v84=>n_then<|w_ret<|y1 (v:=.bool (!(attS P.bd (kingAtS P.bd (1-P.turn)).toNat P.turn))) (⟨_,rfl,yt,λhv=>⟨λi hi=>(hsq i hi).1,λi hi=>(hsq i hi).2,by omega,by omega,by omega,by omega,hkw,hkb,by omega,hpa,by simpa only [Bool.not_eq_true'] using hv⟩⟩)
def upd(f:Nat->Int)(i:Nat)(v:Int):Nat->Int:=λj=>if j=i then v else f j
def zeroSP:SP:=⟨λ_=>0,0,0,0,0,0⟩
theorem sp_get(P:SP)(i:Nat):(spCells P)[i]?=if i<64 then some (.int .i64 (P.bd i)) else (spTail P)[i-64]?:=by
 split
 ·rename_i h;exact spCells_bd P h
 rename_i h;have:=spCells_tail P (i-64);rwa [show 64+(i-64)=i by omega] at this
theorem sp_ext{A:Array Value}{Q:SP}(h:∀i:Nat,A[i]?=(spCells Q)[i]?):A=spCells Q:=Array.ext_getElem? h
theorem spStore_bd(P:SP){i:Nat}(h:i<64)(v:Int):storeRow (spCells P) i [.int .i64 v]=spCells ⟨upd P.bd i v,P.turn,P.castle,P.ep,P.half,P.full⟩:=by
 show (spCells P).setIfInBounds i _=_;refine sp_ext λj=>?_;rw [Array.getElem?_setIfInBounds,sp_get,sp_get,spCells_size];by_cases e:i=j
 ·subst e;simp [h,upd,show i<69 by omega]
 rw [if_neg e];split
 ·simp [upd,show ¬j=i by omega]
 rfl
theorem spStore_f(P Q:SP){k:Nat}(hk:k<5)(v:Int)(hb:Q.bd=P.bd)(hq:∀j,j≠k->(spTail Q)[j]?=(spTail P)[j]?)(hv:(spTail Q)[k]?=some (.int .i64 v)):storeRow (spCells P) (64+k) [.int .i64 v]=spCells Q:=by
 show (spCells P).setIfInBounds (64+k) _=_;refine sp_ext λj=>?_;rw [Array.getElem?_setIfInBounds,sp_get,sp_get,spCells_size,hb];by_cases e:64+k=j
 ·subst e;simp only [if_true,show 64+k<69 by omega,show ¬64+k<64 by omega,if_false,show 64+k-64=k by omega,hv]
 rw [if_neg e];split
 ·rfl
 rename_i h;rw [hq (j-64) (by omega)]
theorem tail_other{a b c d e a' b' c' d' e':Value}(k:Nat)(h:∀j,j<5->j≠k->(#[a,b,c,d,e]:Array Value)[j]?=(#[a',b',c',d',e']:Array Value)[j]?):∀j,j≠k->(#[a,b,c,d,e]:Array Value)[j]?=(#[a',b',c',d',e']:Array Value)[j]?:=by
 intro j hj;by_cases h5:j<5
 ·exact h j h5 hj
 rw [Array.getElem?_eq_none (by simp;omega),Array.getElem?_eq_none (by simp;omega)]
theorem spStore_64(P:SP)(v:Int):storeRow (spCells P) 64 [.int .i64 v]=spCells ⟨P.bd,v,P.castle,P.ep,P.half,P.full⟩:=
 spStore_f P ⟨P.bd,v,P.castle,P.ep,P.half,P.full⟩ (k:=0) (by decide) v rfl (tail_other 0 λj h hj=>by rcases (by omega:j=1\/j=2\/j=3\/j=4) with rfl|rfl|rfl|rfl<;>rfl) rfl
theorem spStore_65(P:SP)(v:Int):storeRow (spCells P) 65 [.int .i64 v]=spCells ⟨P.bd,P.turn,v,P.ep,P.half,P.full⟩:=
 spStore_f P ⟨P.bd,P.turn,v,P.ep,P.half,P.full⟩ (k:=1) (by decide) v rfl (tail_other 1 λj h hj=>by rcases (by omega:j=0\/j=2\/j=3\/j=4) with rfl|rfl|rfl|rfl<;>rfl) rfl
theorem spStore_66(P:SP)(v:Int):storeRow (spCells P) 66 [.int .i64 v]=spCells ⟨P.bd,P.turn,P.castle,v,P.half,P.full⟩:=
 spStore_f P ⟨P.bd,P.turn,P.castle,v,P.half,P.full⟩ (k:=2) (by decide) v rfl (tail_other 2 λj h hj=>by rcases (by omega:j=0\/j=1\/j=3\/j=4) with rfl|rfl|rfl|rfl<;>rfl) rfl
theorem spStore_67(P:SP)(v:Int):storeRow (spCells P) 67 [.int .i64 v]=spCells ⟨P.bd,P.turn,P.castle,P.ep,v,P.full⟩:=
 spStore_f P ⟨P.bd,P.turn,P.castle,P.ep,v,P.full⟩ (k:=3) (by decide) v rfl (tail_other 3 λj h hj=>by rcases (by omega:j=0\/j=1\/j=2\/j=4) with rfl|rfl|rfl|rfl<;>rfl) rfl
theorem spStore_68(P:SP)(v:Int):storeRow (spCells P) 68 [.int .i64 v]=spCells ⟨P.bd,P.turn,P.castle,P.ep,P.half,v⟩:=
 spStore_f P ⟨P.bd,P.turn,P.castle,P.ep,P.half,v⟩ (k:=4) (by decide) v rfl (tail_other 4 λj h hj=>by rcases (by omega:j=0\/j=1\/j=2\/j=3) with rfl|rfl|rfl|rfl<;>rfl) rfl
theorem sp_bound(P:SP)(v:Int){i:Nat}(h:i<69):i+(Value.int .i64 v).cells.size<=(spCells P).size:=by
 rw [spCells_size];show i+1<=69;omega
theorem storeRow_whole:∀(vs:List Value) (cs:Array Value) (off:Nat),off+vs.length=cs.size->(storeRow cs off vs).toList=cs.toList.take off++vs:=by
 intro vs cs off h;have h1:=storeRow_take vs cs off (by omega);rw [List.take_of_length_le] at h1
 ·exact h1
 rw [Array.length_toList,storeRow_size];omega
theorem spStore_all(P Q:SP):storeRow (spCells P) 0 (spCells Q).toList=spCells Q:=by
 have h:=storeRow_whole (spCells Q).toList (spCells P) 0 (by rw [Array.length_toList,spCells_size,spCells_size]);exact Array.ext' (by rw [h];simp)
theorem sp_bound_all(P Q:SP):0+(Value.agg (spCells Q)).cells.size<=(spCells P).size:=by
 show 0+(spCells Q).size<=_;rw [spCells_size,spCells_size];exact Nat.le_refl _
theorem oneCells_ints:∀(l:List Value),(∀v∈l,v.oneCell'=true)->oneCells l=true
 |[],_=>rfl
 |v::r,h=>by unfold oneCells;rw [h v (by simp),oneCells_ints r λu hu=>h u (by simp [hu])];rfl
theorem sp_one(P:SP):oneCells (Value.agg (spCells P)).cells.toList=true:=by
 refine oneCells_ints _ λv hv=>?_;have hv:v∈(spCells P).toList:=hv;obtain ⟨i,hi⟩:=List.mem_iff_getElem?.1 hv;rw [Array.getElem?_toList,sp_get] at hi;split at hi
 ·cases hi;rfl
 rename_i h;have h5:i-64<5:=by
  refine Classical.byContradiction λhh=>?_;rw [Array.getElem?_eq_none (by show 5<=i-64;omega)] at hi;cases hi
 generalize i-64=j at hi h5;rcases (by omega:j=0\/j=1\/j=2\/j=3\/j=4) with rfl|rfl|rfl|rfl|rfl<;>cases hi<;>rfl
def takesI(bd:Nat->Int)(f t:Int):Bool:=(bd t.toNat !=0)||((kindOf (bd f.toNat)==6)&&((f%8) !=(t%8)))
def takesQ(bd:Nat->Int)(f t:Int):Int:=bif (bd t.toNat !=0) then t else bif ((kindOf (bd f.toNat)==6)&&((f%8) !=(t%8))) then 8*(f/8)+(t%8) else-1
theorem takes_rng{bd:Nat->Int}{f t:Int}(hf:0<=f/\f<=63)(ht:0<=t/\t<=63)(h:takesI bd f t=true):0<=takesQ bd f t/\takesQ bd f t<=63:=by
 unfold takesI at h;unfold takesQ;cases h1:(bd t.toNat !=0)
 ·rw [h1,Bool.false_or] at h;rw [h];simp only [cond_true,cond_false];omega
 simp only [cond_true];exact ht
def leftTo(castle f t:Int):Nat->Int
 |0=>castle
 |n+1=>bif (castBit (leftTo castle f t n) n&&(((f==homeK (n:Int))||(f==homeR (n:Int)))||(t==homeK (n:Int))||(t==homeR (n:Int)))) then leftTo castle f t n-pw2 (n:Int) else leftTo castle f t n
def leftS(castle f t:Int):Int:=leftTo castle f t 4
theorem leftTo_rng(castle f t:Int):∀n:Nat,castle-8*n<=leftTo castle f t n/\leftTo castle f t n<=castle
 |0=>by simp [leftTo]
 |n+1=>by
  have:=leftTo_rng castle f t n;have:=pw2_rng n;unfold leftTo;cases (castBit (leftTo castle f t n) n&&(((f==homeK (n:Int))||(f==homeR (n:Int)))||(t==homeK (n:Int))||(t==homeR (n:Int))))<;>simp<;>omega
theorem leftTo_succ{castle f t j:Int}(h:0<=j):leftTo castle f t (j+1).toNat=bif (castBit (leftTo castle f t j.toNat) j.toNat&&(((f==homeK j)||(f==homeR j))||(t==homeK j)||(t==homeR j))) then leftTo castle f t j.toNat-pw2 j else leftTo castle f t j.toNat:=by
 have e:leftTo castle f t (j.toNat+1)=bif (castBit (leftTo castle f t j.toNat) j.toNat&&(((f==homeK (j.toNat:Int))||(f==homeR (j.toNat:Int)))||(t==homeK (j.toNat:Int))||(t==homeR (j.toNat:Int)))) then leftTo castle f t j.toNat-pw2 (j.toNat:Int) else leftTo castle f t j.toNat:=rfl
 rw [show (j+1).toNat=j.toNat+1 by omega,e,show ((j.toNat:Nat):Int)=j by omega]
def mk1(bd:Nat->Int)(f t:Int):Nat->Int:=bif takesI bd f t then upd bd (takesQ bd f t).toNat 0 else bd
def mk2(bd:Nat->Int)(f t:Int):Nat->Int:=upd (upd (mk1 bd f t) f.toNat 0) t.toNat (bd f.toNat)
def mk3(bd:Nat->Int)(turn f t p:Int):Nat->Int:=bif p !=0 then upd (mk2 bd f t) t.toNat (p+6*turn) else mk2 bd f t
def castlesB(bd:Nat->Int)(f t:Int):Bool:=(kindOf (bd f.toNat)==1)&&((t==f+2)||(t==f-2))
def cornerS(f t:Int):Int:=bif decide (t<f) then 8*(f/8)+0 else 8*(f/8)+7
def mk4(bd:Nat->Int)(turn f t p:Int):Nat->Int:=bif castlesB bd f t then upd (upd (mk3 bd turn f t p) (cornerS f t).toNat 0) ((f+t)/2).toNat (3+6*turn) else mk3 bd turn f t p
def epS(bd:Nat->Int)(f t:Int):Int:=bif (kindOf (bd f.toNat)==6)&&((t==f+16)||(t==f-16)) then (f+t)/2 else-1
def halfS(bd:Nat->Int)(half f t:Int):Int:=bif (takesI bd f t||(kindOf (bd f.toNat)==6)) then 0 else IntKind.i64.wrap (half+1)
def madeS(P:SP)(f t p:Int):SP:=⟨mk4 P.bd P.turn f t p,1-P.turn,leftS P.castle f t,epS P.bd f t,halfS P.bd P.half f t,IntKind.i64.wrap (P.full+P.turn)⟩
theorem corner_rng{f t:Int}(hf:0<=f/\f<=63):0<=cornerS f t/\cornerS f t<=63:=by
 unfold cornerS;cases decide (t<f)<;>simp only [cond_true,cond_false]<;>omega
theorem ret_ib{a a':Int}{b b':Bool}(h:a=a')(h':b=b'):Ending.returned (.tuple #[.int .i64 a,.bool b])=.returned (.tuple #[.int .i64 a',.bool b']):=by rw [h,h']
theorem sp_cast{P Q:SP}(h:P=Q):Obj.cells (spCells P) 24 (0,0)=.cells (spCells Q) 24 (0,0):=by rw [h]
theorem c36{w:World}(P:SP)(hB:SPb P)(f t p:Int)(hf:0<=f/\f<=63)(ht:0<=t/\t<=63):
  CR 36 [.agg (spCells P),.agg #[.int .i64 f,.int .i64 t,.int .i64 p]] w (.tuple #[.int .i64 (takesQ P.bd f t),.bool (takesI P.bd f t)]):=by
 have hB1:=hB f.toNat (by omega);refine en func36 ntmps36 ?_;refine zw<|zA (spCells P) 24 (some 2) fun b1 w2 hn3=>zA (#[.int .i64 f,.int .i64 t,.int .i64 p]) 30 (some 3) fun b8 w9 hn10=>yS 2<|zz<|w_seq<|zw<|yO 5 [.cell ⟨b8,1,none⟩ (.int .i64 t),.prop (0<=t/\t<((64:Nat):Int)),.cell ⟨b1,(0+t.toNat*1),none⟩ (.int .i64 (P.bd t.toNat))] (⟨yc rfl,(zh (by omega)),yc (spCells_b0 P (by omega))⟩)<|yS 1<|zz<|yC ((P.bd t.toNat) !=0) (λhc16=>?_) λhc16=>?_
 ·have dhc16:=hc16;try simp only [zbq] at dhc16
  exact zw<|yL 4 b8 1<|zz<|w_ret<|r_then<|y2 (v:=.int .i64 t) (v':=.bool true) (⟨ret_ib (by unfold takesQ;simp only [hc16,cond_true,cond_false]) (by unfold takesI;simp only [hc16,Bool.true_or,Bool.false_or]),yt⟩)
 have dhc16:=hc16;try simp only [zbq] at dhc16
 refine w_skip<|n_then<|w_seq<|w_cut (γ:=Unit) (λ_=>[(3,pz b8),(29,.bool (((kindOf (P.bd f.toNat))==6)&&((f%8) !=(t%8))))]) (λ_ w_=>Mod [] w9 w_) ?_ ?_
 ·refine w_qt<|yQo 5 [.cell ⟨b8,0,none⟩ (.int .i64 f),.prop (0<=f/\f<((64:Nat):Int)),.cell ⟨b1,(0+f.toNat*1),none⟩ (.int .i64 (P.bd f.toNat))] (λ_ hC=>⟨At.cell (At.on ya hC) rfl,(zh (by omega)),At.cell (At.on ya hC) (spCells_b0 P (by omega))⟩)<|zqk (some 19) (λw_ hC=>c38 (P.bd f.toNat) w_ (by omega))<|yQ 2<|yEq 21 (.bool ((kindOf (P.bd f.toNat))==6)) ?_;cases hc20:((kindOf (P.bd f.toNat))==6)
  ·have dhc20:=hc20;try simp only [zbq] at dhc20
   exact yQ 8<|q_ot fun w21 v22=>zb () yt
  have dhc20:=hc20;try simp only [zbq] at dhc20
  exact yQo 2 [.cell ⟨b8,0,none⟩ (.int .i64 f)] (λ_ hC=>At.cell (At.on ya hC) rfl)<|zqk (some 24) (λw_ hC=>c77 f w_ (by omega))<|yQo 2 [.cell ⟨b8,1,none⟩ (.int .i64 t)] (λ_ hC=>At.cell (At.on ya hC) rfl)<|zqk (some 27) (λw_ hC=>c77 t w_ (by omega))<|yQ 2<|q_ot fun w26 v27=>zb () yt
 intro _ w17 v18;refine yC (((kindOf (P.bd f.toNat))==6)&&((f%8) !=(t%8))) (λhc34=>?_) λhc34=>?_
 ·have dhc34:=hc34;try simp only [zbq] at dhc34
  exact w_seq<|w_qt<|yQo 2 [.cell ⟨b8,1,none⟩ (.int .i64 t)] (λ_ hC=>At.cell (At.on ya hC) rfl)<|zqk (some 32) (λw_ hC=>c77 t w_ (by omega))<|yQo 2 [.cell ⟨b8,0,none⟩ (.int .i64 f)] (λ_ hC=>At.cell (At.on ya hC) rfl)<|zqk (some 35) (λw_ hC=>c40 f w_ (by omega))<|zqk (some 36) (λw_ hC=>c39 (t%8) (f/8) w_ (by omega) (by omega))<|yQ 2<|q_ot fun w35 v36=>n_then<|w_ret<|r_then<|y2 (v:=.int .i64 (8*(f/8)+(t%8))) (v':=.bool true) (⟨ret_ib (by unfold takesQ;simp only [hc16,hc34,cond_true,cond_false]) (by unfold takesI;simp only [hc16,hc34,Bool.true_or,Bool.false_or]),yt⟩)
 have dhc34:=hc34;try simp only [zbq] at dhc34
 exact w_skip<|zn<|yS 2<|zz<|w_ret<|y2 (v:=.int .i64 (-1)) (v':=.bool false) (⟨ret_ib (by unfold takesQ;simp only [hc16,hc34,cond_true,cond_false]) (by unfold takesI;simp only [hc16,hc34,Bool.true_or,Bool.false_or]),yt⟩)
theorem c41{w:World}(castle f t p:Int)(hc:0<=castle/\castle<=15):
  CR 41 [.int .i64 castle,.agg #[.int .i64 f,.int .i64 t,.int .i64 p]] w (.int .i64 (leftS castle f t)):=by
 refine en func41 ntmps41 ?_;refine zw<|zA (#[.int .i64 f,.int .i64 t,.int .i64 p]) 30 (some 3) fun b1 w2 hn3=>yS 1<|zz<|w_seq<|zw<|yS 1<|zz<|w_block<|yP (γ:=Int) (λg8=>(4-g8).toNat) (λ(g8:Int)=>[(0,.int .i64 (leftTo castle f t g8.toNat)),(3,pz b1),(5,.int .i64 g8)]) (λ(g8:Int) w_=>(0<=g8/\g8<=4)/\Mod [] w2 w_/\(True)) 0 ⟨by omega,Mod.refl _ _,trivial⟩ ?_;rintro g8 w9 ⟨⟨h11,h12⟩,v10,hx13⟩;refine w_seq<|zw<|yS 2<|zz<|yC (decide (g8<4)) (λhc16=>?_) λhc16=>?_
 ·have dhc16:=of_decide_eq_true hc16;refine w_skip<|n_then<|w_cut (γ:=Int) (λg17=>[(0,.int .i64 g17),(3,pz b1),(5,.int .i64 g8)]) (λg17 w_=>Mod [] w9 w_/\g17=(leftTo castle f t (g8+1).toNat)) ?_ ?_
  ·refine w_block<|zw<|yS 1<|zk (some 14) (c78 g8 (by omega)) ?_;intro w21 v22;have hhm:=home_rng (g:=g8) (by omega);have hrr:=leftTo_rng castle f t g8.toNat;have hpw:=pw2_rng g8;refine yS 5<|zz<|w_cut (γ:=Unit) (λ_=>[(0,.int .i64 (leftTo castle f t g8.toNat)),(3,pz b1),(5,.int .i64 g8),(45,.bool ((castBit (leftTo castle f t g8.toNat) g8.toNat)&&((((f==(homeK g8))||(f==(homeR g8)))||(t==(homeK g8)))||(t==(homeR g8)))))]) (λ_ w_=>Mod [] w21 w_) ?_ ?_
   ·refine w_region<|yO 6 [.prop (0<=g8)] (zh (by omega))<|yE 22 (.bool (castBit (leftTo castle f t g8.toNat) g8.toNat)) ?_;cases hc30:(castBit (leftTo castle f t g8.toNat) g8.toNat)
    ·have dhc30:=hc30;try simp only [zbq] at dhc30
     exact yS 23<|ze<|zb () yt
    have dhc30:=hc30;try simp only [zbq] at dhc30
    refine yL 5 b1 0<|yE 27 (.bool (f==(homeK g8))) ?_;cases hc31:(f==(homeK g8))
    ·have dhc31:=hc31;try simp only [zbq] at dhc31
     refine yL 6 b1 0<|yE 33 (.bool (f==(homeR g8))) ?_;cases hc32:(f==(homeR g8))
     ·have dhc32:=hc32;try simp only [zbq] at dhc32
      refine yL 6 b1 1<|yE 39 (.bool (t==(homeK g8))) ?_;cases hc33:(t==(homeK g8))
      ·have dhc33:=hc33;try simp only [zbq] at dhc33
       exact yL 6 b1 1<|ze<|zb () yt
      have dhc33:=hc33;try simp only [zbq] at dhc33
      exact yS 6<|ze<|zb () yt
     have dhc32:=hc32;try simp only [zbq] at dhc32
     exact yS 12<|ze<|zb () yt
    have dhc31:=hc31;try simp only [zbq] at dhc31
    exact yS 18<|ze<|zb () yt
   intro _ w27 v28;refine yC ((castBit (leftTo castle f t g8.toNat) g8.toNat)&&((((f==(homeK g8))||(f==(homeR g8)))||(t==(homeK g8)))||(t==(homeR g8)))) (λhc38=>?_) λhc38=>?_
   ·have dhc38:=hc38;try simp only [zbq] at dhc38
    refine w_region<|zo 3 [rz 3 b1,iz 5 g8,iz 46 (leftTo castle f t g8.toNat),iz 48 (IntKind.i64.wrap (1*2^(min g8.toNat IntKind.i64.bits)))] [.prop (0<=g8)] (zh (by omega)) ?_;rw [(show ((IntKind.i64.wrap (1*2^(min g8.toNat IntKind.i64.bits))):Int)=(pw2 g8) from (pw2_eq (by omega)))];exact yS 1<|yW 49 (zi ((leftTo castle f t g8.toNat)-(pw2 g8)) (by omega) (by omega))<|yS 1<|ze<|n_block<|zb ((leftTo castle f t g8.toNat)-(pw2 g8)) ⟨yt,(by rw [leftTo_succ (by omega)];simp only [hc38,cond_true,cond_false])⟩
   have dhc38:=hc38;try simp only [zbq] at dhc38
   exact w_skip<|n_block<|zb (leftTo castle f t g8.toNat) ⟨yt,(by rw [leftTo_succ (by omega)];simp only [hc38,cond_true,cond_false])⟩
  rintro _ w18 ⟨v19,rfl⟩;exact w_region<|yS 2<|yW 11 (zi (g8+1) (by omega) (by omega))<|yS 1<|ze<|zl (g8+1) ⟨by omega,yt,trivial⟩
 have dhc16:=of_decide_eq_false hc16;exact w_exit<|x_then<|x_then<|x_hit<|zn<|yS 2<|zz<|w_ret<|ret1 rfl rfl (⟨ret_int (by rw [show g8=4 by omega];rfl),yt⟩)
theorem c19{w:World}(P:SP)(hB:SPb P)(f t p:Int)(hf:0<=f/\f<=63)(ht:0<=t/\t<=63)(hp:0<=p/\p<=6)(hT:0<=P.turn/\P.turn<=1)(hc:0<=P.castle/\P.castle<=15):
  CR 19 [.agg (spCells P),.agg #[.int .i64 f,.int .i64 t,.int .i64 p]] w (.agg (spCells (madeS P f t p))):=by
 have v0:Mod [] w w:=Mod.refl _ _;have hB1:=hB f.toNat (by omega);refine en func19 ntmps19 ?_;refine zw<|zA (spCells P) 24 (some 2) ?_;intro b1 w2 hn3;have v5:=hn3.mod;have v6:=Mod.trans v0 (Mod.of_nil v5);refine zA (#[.int .i64 f,.int .i64 t,.int .i64 p]) 30 (some 3) ?_;intro b8 w9 hn10;have v12:=hn10.mod;have u13:=At.on (yA w2 b1) v12;have v14:=Mod.trans v6 (Mod.of_nil v12);have u15:=hn10.at_;refine zA (spCells zeroSP) 24 (some 4) ?_;intro b16 w17 hn18;have ne19:b1≠b16:=hn18.ne u13;have hb20:=Nat.le_trans v14.size hn18.base;have v21:=hn18.mod;have u22:=At.on u13 v21;have u23:=At.on u15 v21;have v24:=Mod.trans v14 (Mod.of_nil v21);have u25:=hn18.at_;refine zx<|yV 5 [.cell ⟨b8,0,none⟩ (.int .i64 f),.prop (0<=f/\f<((64:Nat):Int)),.cell ⟨b1,(0+f.toNat*1),none⟩ (.int .i64 (P.bd f.toNat))] [.int .i64 f,.int .i64 (P.bd f.toNat)] (⟨At.cell u23 rfl,(zh (by omega)),At.cell u22 (spCells_b0 P (by omega))⟩)<|yS 1<|reg_end (by kernel_rfl)<|zn<|yV 2 [.row ⟨b1,0,none⟩ 69 (spCells P),.row ⟨b8,0,none⟩ 3 (#[.int .i64 f,.int .i64 t,.int .i64 p])] [.agg (spCells P),.agg (#[.int .i64 f,.int .i64 t,.int .i64 p])] (⟨(At.row u22 (spCells_size P)),At.row u23 rfl⟩)<|zk (some 18) (c36 P hB f t p (by omega) (by omega)) ?_;intro w26 v27;have u28:=At.on u22 v27;have u29:=At.on u23 v27;have u30:=At.on u25 v27;have v31:=Mod.trans v24 (Mod.of_nil v27);refine yS 5<|reg_end (by kernel_rfl)<|zn<|yV 1 [.row ⟨b1,0,none⟩ 69 (spCells P)] [.agg (spCells P)] (At.row u28 (spCells_size P))<|reg_alloc (spCells zeroSP) 24 (some 8) (by kernel_rfl) ?_;intro b32 w33 hn34;have ne35:b1≠b32:=hn34.ne u28;have ne36:b16≠b32:=hn34.ne u30;have hb37:=Nat.le_trans v31.size hn34.base;have v38:=hn34.mod;have u39:=At.on u28 v38;have u40:=At.on u29 v38;have u41:=At.on u30 v38;have v42:=Mod.trans v31 (Mod.of_nil v38);have u43:=hn34.at_;refine reg_store b32 0 (.agg (spCells P)) none (by kernel_rfl) u43 (sp_bound_all zeroSP _) (sp_one P) ?_;intro w44 hu45;have u46:At w44 b32 (.cells (spCells P) 24 (0,0)):=at_cast hu45.at_ (congrArg (λA=>Obj.cells A 24 (0,0)) (spStore_all zeroSP P));have u47:=At.keep u39 hu45.mod (not_mem1 ne35);have u48:=At.keep u40 hu45.mod (not_mem1 (At.ne u40 u43 rfl));have u49:=At.keep u41 hu45.mod (not_mem1 ne36);have v50:=Mod.fresh' v42 hu45.mod (by simp<;>omega);refine zz<|w_cut (γ:=Unit) (λ_=>[(2,.pointer (some ⟨b1,0,none⟩)),(3,.pointer (some ⟨b8,0,none⟩)),(4,.pointer (some ⟨b16,0,none⟩)),(5,.int .i64 (P.bd f.toNat)),(7,.bool (takesI P.bd f t)),(8,.pointer (some ⟨b32,0,none⟩))]) (λ_ w_=>Mod [b32] w44 w_/\At w_ b32 (.cells (spCells (⟨(mk1 P.bd f t),P.turn,P.castle,P.ep,P.half,P.full⟩:SP)) 24 (0,0))) ?_ ?_
 ·have v54:Mod [b32] w44 w44:=Mod.refl _ _;refine zw<|yS 1<|reg_end (by kernel_rfl)<|n_then<|w_cond (b:=(takesI P.bd f t)) (by kernel_rfl) (λhc55=>?_) (λhc55=>?_)
  ·have dhc55:=hc55;try simp only [zbq] at dhc55
   have htq:=takes_rng hf ht hc55;refine w_region<|yV 3 [.prop (0<=(takesQ P.bd f t)/\(takesQ P.bd f t)<((64:Nat):Int))] [] (zh (by omega))<|reg_store b32 (0+(takesQ P.bd f t).toNat*1) (.int .i64 (0:Int)) none (by kernel_rfl) u46 (sp_bound P (0:Int) (by omega)) rfl ?_;intro w56 hu57;have u58:At w56 b32 (.cells (spCells (⟨(upd P.bd (0+(takesQ P.bd f t).toNat*1) (0:Int)),P.turn,P.castle,P.ep,P.half,P.full⟩:SP)) 24 (0,0)):=at_cast hu57.at_ (congrArg (λA=>Obj.cells A 24 (0,0)) (spStore_bd P (by omega) (0:Int)));have v63:=Mod.fresh' v54 hu57.mod (by simp<;>omega);exact ze<|zb () ⟨v63,at_cast u58 (sp_cast (by unfold mk1;simp only [hc55,cond_true,cond_false,Nat.zero_add,Nat.mul_one]))⟩
  have dhc55:=hc55;try simp only [zbq] at dhc55
  exact w_skip<|c_back () [2,3,4,5,7,8] (by kernel_rfl) ⟨v54,at_cast u46 (sp_cast (by unfold mk1;simp only [hc55,cond_true,cond_false,Nat.zero_add,Nat.mul_one]))⟩
 rintro _ w51 ⟨v52,u53⟩;have u64:=At.keep u47 v52 (not_mem1 ne35);have u65:=At.keep u48 v52 (not_mem1 (At.ne u48 u46 rfl));have u66:=At.keep u49 v52 (not_mem1 ne36);have v67:=Mod.fresh' v50 v52 (by simp<;>omega);refine zw<|yV 4 [.cell ⟨b8,0,none⟩ (.int .i64 f),.prop (0<=f/\f<((64:Nat):Int))] [.int .i64 f] (⟨At.cell u65 rfl,(zh (by omega))⟩)<|reg_store b32 (0+f.toNat*1) (.int .i64 (0:Int)) none (by kernel_rfl) u53 (sp_bound (⟨(mk1 P.bd f t),P.turn,P.castle,P.ep,P.half,P.full⟩:SP) (0:Int) (by omega)) rfl ?_;intro w68 hu69;have u70:At w68 b32 (.cells (spCells (⟨(upd (mk1 P.bd f t) (0+f.toNat*1) (0:Int)),P.turn,P.castle,P.ep,P.half,P.full⟩:SP)) 24 (0,0)):=at_cast hu69.at_ (congrArg (λA=>Obj.cells A 24 (0,0)) (spStore_bd (⟨(mk1 P.bd f t),P.turn,P.castle,P.ep,P.half,P.full⟩:SP) (by omega) (0:Int)));have u71:=At.keep u64 hu69.mod (not_mem1 ne35);have u72:=At.keep u65 hu69.mod (not_mem1 (At.ne u65 u53 rfl));have u73:=At.keep u66 hu69.mod (not_mem1 ne36);have v74:=Mod.fresh' v67 hu69.mod (by simp<;>omega);refine reg_end (by kernel_rfl)<|zn<|yV 5 [.cell ⟨b8,1,none⟩ (.int .i64 t),.prop (0<=t/\t<((64:Nat):Int))] [.int .i64 t] (⟨At.cell u72 rfl,(zh (by omega))⟩)<|reg_store b32 (0+t.toNat*1) (.int .i64 (P.bd f.toNat)) none (by kernel_rfl) u70 (sp_bound (⟨(upd (mk1 P.bd f t) (0+f.toNat*1) (0:Int)),P.turn,P.castle,P.ep,P.half,P.full⟩:SP) (P.bd f.toNat) (by omega)) rfl ?_;intro w75 hu76;have u77:At w75 b32 (.cells (spCells (⟨(upd (upd (mk1 P.bd f t) (0+f.toNat*1) (0:Int)) (0+t.toNat*1) (P.bd f.toNat)),P.turn,P.castle,P.ep,P.half,P.full⟩:SP)) 24 (0,0)):=at_cast hu76.at_ (congrArg (λA=>Obj.cells A 24 (0,0)) (spStore_bd (⟨(upd (mk1 P.bd f t) (0+f.toNat*1) (0:Int)),P.turn,P.castle,P.ep,P.half,P.full⟩:SP) (by omega) (P.bd f.toNat)));have u78:=At.keep u71 hu76.mod (not_mem1 ne35);have u79:=At.keep u72 hu76.mod (not_mem1 (At.ne u72 u70 rfl));have u80:=At.keep u73 hu76.mod (not_mem1 ne36);have v81:=Mod.fresh' v74 hu76.mod (by simp<;>omega);refine zz<|w_cut (γ:=Unit) (λ_=>[(2,.pointer (some ⟨b1,0,none⟩)),(3,.pointer (some ⟨b8,0,none⟩)),(4,.pointer (some ⟨b16,0,none⟩)),(5,.int .i64 (P.bd f.toNat)),(7,.bool (takesI P.bd f t)),(8,.pointer (some ⟨b32,0,none⟩))]) (λ_ w_=>Mod [b32] w75 w_/\At w_ b32 (.cells (spCells (⟨(mk3 P.bd P.turn f t p),P.turn,P.castle,P.ep,P.half,P.full⟩:SP)) 24 (0,0))) ?_ ?_
 ·have v85:Mod [b32] w75 w75:=Mod.refl _ _;refine zw<|yL 3 b8 2<|reg_end (by kernel_rfl)<|n_then<|w_cond (b:=(p !=(0:Int))) (by kernel_rfl) (λhc86=>?_) (λhc86=>?_)
  ·have dhc86:=hc86;simp only [zbq] at dhc86;refine w_tail 8 (by kernel_rfl) (by kernel_rfl)<|yQv 6 [.cell ⟨b8,1,none⟩ (.int .i64 t),.cell ⟨b8,2,none⟩ (.int .i64 p),.cell ⟨b1,64,none⟩ (.int .i64 P.turn)] [.int .i64 t,.int .i64 p,.int .i64 P.turn] (λ_ hC=>⟨At.cell (At.on u79 hC) rfl,At.cell (At.on u79 hC) rfl,At.cell (At.on u78 hC) (spCells_64 P)⟩)<|zqk (some 44) (λw_ hC=>c37 p P.turn w_ (by omega) (by omega))<|yQ 1<|q_end (by kernel_rfl) (λa ha w87 v88=>(?_:Reg _ _ _ _ _ 8 _ w87) a ha);have u92:=At.on u77 v88;have v94:=Mod.trans v85 (Mod.of_nil v88);refine yV 1 [.prop (0<=t/\t<((64:Nat):Int))] [] (zh (by omega))<|reg_store b32 (0+t.toNat*1) (.int .i64 (p+6*P.turn)) none (by kernel_rfl) u92 (sp_bound (⟨(upd (upd (mk1 P.bd f t) (0+f.toNat*1) (0:Int)) (0+t.toNat*1) (P.bd f.toNat)),P.turn,P.castle,P.ep,P.half,P.full⟩:SP) (p+6*P.turn) (by omega)) rfl ?_;intro w95 hu96;have u97:At w95 b32 (.cells (spCells (⟨(upd (upd (upd (mk1 P.bd f t) (0+f.toNat*1) (0:Int)) (0+t.toNat*1) (P.bd f.toNat)) (0+t.toNat*1) (p+6*P.turn)),P.turn,P.castle,P.ep,P.half,P.full⟩:SP)) 24 (0,0)):=at_cast hu96.at_ (congrArg (λA=>Obj.cells A 24 (0,0)) (spStore_bd (⟨(upd (upd (mk1 P.bd f t) (0+f.toNat*1) (0:Int)) (0+t.toNat*1) (P.bd f.toNat)),P.turn,P.castle,P.ep,P.half,P.full⟩:SP) (by omega) (p+6*P.turn)));have v102:=Mod.fresh' v94 hu96.mod (by simp<;>omega);exact ze<|zb () ⟨v102,at_cast u97 (sp_cast (by unfold mk3 mk2;simp only [hc86,cond_true,cond_false,Nat.zero_add,Nat.mul_one]))⟩
  have dhc86:=hc86;simp only [zbq] at dhc86;exact w_skip<|zb () ⟨v85,at_cast u77 (sp_cast (by unfold mk3 mk2;simp only [hc86,cond_true,cond_false,Nat.zero_add,Nat.mul_one]))⟩
 rintro _ w82 ⟨v83,u84⟩;have u103:=At.keep u78 v83 (not_mem1 ne35);have u104:=At.keep u79 v83 (not_mem1 (At.ne u79 u77 rfl));have u105:=At.keep u80 v83 (not_mem1 ne36);have v106:=Mod.fresh' v81 v83 (by simp<;>omega);refine w_cut (γ:=Unit) (λ_=>[(2,.pointer (some ⟨b1,0,none⟩)),(3,.pointer (some ⟨b8,0,none⟩)),(4,.pointer (some ⟨b16,0,none⟩)),(5,.int .i64 (P.bd f.toNat)),(7,.bool (takesI P.bd f t)),(8,.pointer (some ⟨b32,0,none⟩))]) (λ_ w_=>Mod [b32] w82 w_/\At w_ b32 (.cells (spCells (⟨(mk4 P.bd P.turn f t p),P.turn,P.castle,P.ep,P.half,P.full⟩:SP)) 24 (0,0))) ?_ ?_
 ·have v110:Mod [b32] w82 w82:=Mod.refl _ _;refine w_cut (γ:=Unit) (λ_=>[(2,.pointer (some ⟨b1,0,none⟩)),(3,.pointer (some ⟨b8,0,none⟩)),(4,.pointer (some ⟨b16,0,none⟩)),(5,.int .i64 (P.bd f.toNat)),(7,.bool (takesI P.bd f t)),(8,.pointer (some ⟨b32,0,none⟩)),(65,.bool (((kindOf (P.bd f.toNat))==(1:Int))&&((t==(f+(2:Int)))||(t==(f-(2:Int))))))]) (λ_ w_=>Mod [] w82 w_) ?_ ?_
  ·have v113:Mod [] w82 w82:=Mod.refl _ _;refine w_region<|yS 1<|zk (some 48) (c38 (P.bd f.toNat) w82 (by omega)) ?_;intro w114 v115;have u117:=At.on u104 v115;have v120:=Mod.trans v113 (Mod.of_nil v115);refine yS 2<|yE 50 (.bool ((kindOf (P.bd f.toNat))==(1:Int))) ?_;cases hc122:((kindOf (P.bd f.toNat))==(1:Int))
   ·have dhc122:=hc122;simp only [zbq] at dhc122;exact yS 15<|ze<|zb () v120
   have dhc122:=hc122;simp only [zbq] at dhc122;refine yV 5 [.cell ⟨b8,1,none⟩ (.int .i64 t),.cell ⟨b8,0,none⟩ (.int .i64 f)] [.int .i64 t,.int .i64 f] (⟨At.cell u117 rfl,At.cell u117 rfl⟩)<|yW 55 (zi (f+(2:Int)) (by omega) (by omega))<|yS 2<|yE 57 (.bool (t==(f+(2:Int)))) ?_;cases hc123:(t==(f+(2:Int)))
   ·have dhc123:=hc123;simp only [zbq] at dhc123;exact yV 5 [.cell ⟨b8,1,none⟩ (.int .i64 t),.cell ⟨b8,0,none⟩ (.int .i64 f)] [.int .i64 t,.int .i64 f] (⟨At.cell u117 rfl,At.cell u117 rfl⟩)<|yW 62 (zi (f-(2:Int)) (by omega) (by omega))<|yS 3<|ze<|zb () v120
   have dhc123:=hc123;simp only [zbq] at dhc123;exact yS 8<|ze<|zb () v120
  intro _ w111 v112;have u124:=At.on u103 v112;have u125:=At.on u104 v112;have u127:=At.on u84 v112;have v129:=Mod.trans v110 (Mod.of_nil v112);refine w_cond (b:=(((kindOf (P.bd f.toNat))==(1:Int))&&((t==(f+(2:Int)))||(t==(f-(2:Int)))))) (by kernel_rfl) (λhc130=>?_) (λhc130=>?_)
  ·have dhc130:=hc130;simp only [zbq] at dhc130;have hcr:=corner_rng (t:=t) hf;refine zw<|yL 2 b8 0<|zk (some 68) (c40 f w111 (by omega)) ?_;intro w131 v132;have u133:=At.on u124 v132;have u134:=At.on u125 v132;have u136:=At.on u127 v132;have v138:=Mod.trans v129 (Mod.of_nil v132);refine zk (some 69) (c39 (7:Int) (f/8) w131 (by omega) (by omega)) ?_;intro w139 v140;have u141:=At.on u133 v140;have u142:=At.on u134 v140;have u144:=At.on u136 v140;have v146:=Mod.trans v138 (Mod.of_nil v140);refine yS 1<|zz<|w_cut (γ:=Int) (λg147=>[(2,.pointer (some ⟨b1,0,none⟩)),(3,.pointer (some ⟨b8,0,none⟩)),(4,.pointer (some ⟨b16,0,none⟩)),(5,.int .i64 (P.bd f.toNat)),(7,.bool (takesI P.bd f t)),(8,.pointer (some ⟨b32,0,none⟩)),(9,.int .i64 g147)]) (λg147 w_=>Mod [] w139 w_/\g147=(cornerS f t)) ?_ ?_
   ·have v150:Mod [] w139 w139:=Mod.refl _ _;refine zw<|yV 5 [.cell ⟨b8,1,none⟩ (.int .i64 t),.cell ⟨b8,0,none⟩ (.int .i64 f)] [.int .i64 t,.int .i64 f] (⟨At.cell u142 rfl,At.cell u142 rfl⟩)<|zz<|w_cond (b:=(decide (t<f))) (by kernel_rfl) (λhc151=>?_) (λhc151=>?_)
    ·have dhc151:=of_decide_eq_true hc151;refine w_region<|yL 2 b8 0<|zk (some 77) (c40 f w139 (by omega)) ?_;intro w152 v153;have v160:=Mod.trans v150 (Mod.of_nil v153);refine zk (some 78) (c39 (0:Int) (f/8) w152 (by omega) (by omega)) ?_;intro w161 v162;have v169:=Mod.trans v160 (Mod.of_nil v162);exact yS 1<|ze<|zb (8*(f/8)+(0:Int)) ⟨v169,(by unfold cornerS;simp only [hc151,cond_true,cond_false])⟩
    have dhc151:=of_decide_eq_false hc151;exact w_skip<|c_back (8*(f/8)+(7:Int)) [2,3,4,5,7,8,9] (by kernel_rfl) ⟨v150,(by unfold cornerS;simp only [hc151,cond_true,cond_false])⟩
   rintro _ w148 ⟨v149,rfl⟩;have u170:=At.on u141 v149;have u171:=At.on u142 v149;have u173:=At.on u144 v149;have v175:=Mod.trans v146 (Mod.of_nil v149);refine zw<|yV 3 [.prop (0<=(cornerS f t)/\(cornerS f t)<((64:Nat):Int))] [] (zh (by omega))<|reg_store b32 (0+(cornerS f t).toNat*1) (.int .i64 (0:Int)) none (by kernel_rfl) u173 (sp_bound (⟨(mk3 P.bd P.turn f t p),P.turn,P.castle,P.ep,P.half,P.full⟩:SP) (0:Int) (by omega)) rfl ?_;intro w176 hu177;have u178:At w176 b32 (.cells (spCells (⟨(upd (mk3 P.bd P.turn f t p) (0+(cornerS f t).toNat*1) (0:Int)),P.turn,P.castle,P.ep,P.half,P.full⟩:SP)) 24 (0,0)):=at_cast hu177.at_ (congrArg (λA=>Obj.cells A 24 (0,0)) (spStore_bd (⟨(mk3 P.bd P.turn f t p),P.turn,P.castle,P.ep,P.half,P.full⟩:SP) (by omega) (0:Int)));have u179:=At.keep u170 hu177.mod (not_mem1 ne35);have u180:=At.keep u171 hu177.mod (not_mem1 (At.ne u171 u173 rfl));have v183:=Mod.fresh' v175 hu177.mod (by simp<;>omega);refine reg_end (by kernel_rfl)<|n_then<|w_tail 10 (by kernel_rfl) (by kernel_rfl)<|q_seg 5 [(2,.pointer (some ⟨b1,0,none⟩)),(3,.pointer (some ⟨b8,0,none⟩)),(4,.pointer (some ⟨b16,0,none⟩)),(5,.int .i64 (P.bd f.toNat)),(7,.bool (takesI P.bd f t)),(8,.pointer (some ⟨b32,0,none⟩)),(86,.int .i64 (IntKind.i64.wrap (f+t)))] [.cell ⟨b8,0,none⟩ (.int .i64 f),.cell ⟨b8,1,none⟩ (.int .i64 t)] [.int .i64 f,.int .i64 t] [2,3,4,5,7,8,86] (by kernel_rfl) (λ_ hC=>⟨At.cell (At.on u180 hC) rfl,At.cell (At.on u180 hC) rfl⟩) ?_;rw [zi (f+t) (by omega) (by omega)];refine zqo 1 [rz 2 b1,rz 3 b8,rz 4 b16,iz 5 (P.bd f.toNat),(7,.bool (takesI P.bd f t)),rz 8 b32,iz 87 (IntKind.i64.wrap ((f+t).tdiv (2:Int)))] [.prop ((2:Int)≠0)] (λ_ hC=>(show (2:Int)≠0 from (by omega))) ?_;rw [zd (f+t) 2 (by omega)];rw [zi ((f+t)/(2:Int)) (by omega) (by omega)];refine yQv 2 [.cell ⟨b1,64,none⟩ (.int .i64 P.turn)] [.int .i64 P.turn] (λ_ hC=>At.cell (At.on u179 hC) (spCells_64 P))<|zqk (some 90) (λw_ hC=>c37 (3:Int) P.turn w_ (by omega) (by omega))<|yQ 1<|q_end (by kernel_rfl) (λa ha w184 v185=>(?_:Reg _ _ _ _ _ 10 _ w184) a ha);have u189:=At.on u178 v185;have v191:=Mod.trans v183 (Mod.of_nil v185);refine yO 1 [.prop (0<=((f+t)/(2:Int))/\((f+t)/(2:Int))<((64:Nat):Int))] (show 0<=((f+t)/(2:Int))/\((f+t)/(2:Int))<((64:Nat):Int) from (by omega))<|reg_store b32 (0+((f+t)/(2:Int)).toNat*1) (.int .i64 ((3:Int)+6*P.turn)) none (by kernel_rfl) u189 (sp_bound (⟨(upd (mk3 P.bd P.turn f t p) (0+(cornerS f t).toNat*1) (0:Int)),P.turn,P.castle,P.ep,P.half,P.full⟩:SP) ((3:Int)+6*P.turn) (by omega)) rfl ?_;intro w192 hu193;have u194:At w192 b32 (.cells (spCells (⟨(upd (upd (mk3 P.bd P.turn f t p) (0+(cornerS f t).toNat*1) (0:Int)) (0+((f+t)/(2:Int)).toNat*1) ((3:Int)+6*P.turn)),P.turn,P.castle,P.ep,P.half,P.full⟩:SP)) 24 (0,0)):=at_cast hu193.at_ (congrArg (λA=>Obj.cells A 24 (0,0)) (spStore_bd (⟨(upd (mk3 P.bd P.turn f t p) (0+(cornerS f t).toNat*1) (0:Int)),P.turn,P.castle,P.ep,P.half,P.full⟩:SP) (by omega) ((3:Int)+6*P.turn)))
   have v199:=Mod.fresh' v191 hu193.mod (by simp<;>omega);exact ze<|zb () ⟨v199,at_cast u194 (sp_cast (by unfold mk4 castlesB;simp only [hc130,cond_true,cond_false,Nat.zero_add,Nat.mul_one]))⟩
  have dhc130:=hc130;simp only [zbq] at dhc130;have hcr:=corner_rng (t:=t) hf;exact w_skip<|c_back () [2,3,4,5,7,8] (by kernel_rfl) ⟨v129,at_cast u127 (sp_cast (by unfold mk4 castlesB;simp only [hc130,cond_true,cond_false,Nat.zero_add,Nat.mul_one]))⟩
 rintro _ w107 ⟨v108,u109⟩;have u200:=At.keep u103 v108 (not_mem1 ne35);have u201:=At.keep u104 v108 (not_mem1 (At.ne u104 u84 rfl));have u202:=At.keep u105 v108 (not_mem1 ne36);have v203:=Mod.fresh' v106 v108 (by simp<;>omega);refine zw<|yV 3 [.cell ⟨b1,65,none⟩ (.int .i64 P.castle),.row ⟨b8,0,none⟩ 3 (#[.int .i64 f,.int .i64 t,.int .i64 p])] [.int .i64 P.castle,.agg (#[.int .i64 f,.int .i64 t,.int .i64 p])] (⟨At.cell u200 (spCells_65 P),At.row u201 rfl⟩)<|zk (some 96) (c41 P.castle f t p (by omega)) ?_;intro w204 v205;have u206:=At.on u200 v205;have u207:=At.on u201 v205;have u208:=At.on u202 v205;have u209:=At.on u109 v205;have v210:=Mod.trans v203 (Mod.of_nil v205);refine yS 1<|reg_store b32 65 (.int .i64 (leftS P.castle f t)) none (by kernel_rfl) u209 (sp_bound (⟨(mk4 P.bd P.turn f t p),P.turn,P.castle,P.ep,P.half,P.full⟩:SP) (leftS P.castle f t) (by omega)) rfl ?_;intro w211 hu212;have u213:At w211 b32 (.cells (spCells (⟨(mk4 P.bd P.turn f t p),P.turn,(leftS P.castle f t),P.ep,P.half,P.full⟩:SP)) 24 (0,0)):=at_cast hu212.at_ (congrArg (λA=>Obj.cells A 24 (0,0)) (spStore_65 (⟨(mk4 P.bd P.turn f t p),P.turn,P.castle,P.ep,P.half,P.full⟩:SP) (leftS P.castle f t)));have u214:=At.keep u206 hu212.mod (not_mem1 ne35);have u215:=At.keep u207 hu212.mod (not_mem1 (At.ne u207 u209 rfl));have u216:=At.keep u208 hu212.mod (not_mem1 ne36);have v217:=Mod.fresh' v210 hu212.mod (by simp<;>omega);refine reg_end (by kernel_rfl)<|zn<|yS 1<|reg_store b32 66 (.int .i64 (-1:Int)) none (by kernel_rfl) u213 (sp_bound (⟨(mk4 P.bd P.turn f t p),P.turn,(leftS P.castle f t),P.ep,P.half,P.full⟩:SP) (-1:Int) (by omega)) rfl ?_;intro w218 hu219;have u220:At w218 b32 (.cells (spCells (⟨(mk4 P.bd P.turn f t p),P.turn,(leftS P.castle f t),(-1:Int),P.half,P.full⟩:SP)) 24 (0,0)):=at_cast hu219.at_ (congrArg (λA=>Obj.cells A 24 (0,0)) (spStore_66 (⟨(mk4 P.bd P.turn f t p),P.turn,(leftS P.castle f t),P.ep,P.half,P.full⟩:SP) (-1:Int)));have u221:=At.keep u214 hu219.mod (not_mem1 ne35);have u222:=At.keep u215 hu219.mod (not_mem1 (At.ne u215 u213 rfl));have u223:=At.keep u216 hu219.mod (not_mem1 ne36);have v224:=Mod.fresh' v217 hu219.mod (by simp<;>omega);refine zz<|w_cut (γ:=Unit) (λ_=>[(2,.pointer (some ⟨b1,0,none⟩)),(4,.pointer (some ⟨b16,0,none⟩)),(5,.int .i64 (P.bd f.toNat)),(7,.bool (takesI P.bd f t)),(8,.pointer (some ⟨b32,0,none⟩))]) (λ_ w_=>Mod [b32] w218 w_/\At w_ b32 (.cells (spCells (⟨(mk4 P.bd P.turn f t p),P.turn,(leftS P.castle f t),(epS P.bd f t),P.half,P.full⟩:SP)) 24 (0,0))) ?_ ?_
 ·have v228:Mod [b32] w218 w218:=Mod.refl _ _;refine w_cut (γ:=Unit) (λ_=>[(2,.pointer (some ⟨b1,0,none⟩)),(3,.pointer (some ⟨b8,0,none⟩)),(4,.pointer (some ⟨b16,0,none⟩)),(5,.int .i64 (P.bd f.toNat)),(7,.bool (takesI P.bd f t)),(8,.pointer (some ⟨b32,0,none⟩)),(117,.bool (((kindOf (P.bd f.toNat))==(6:Int))&&((t==(f+(16:Int)))||(t==(f-(16:Int))))))]) (λ_ w_=>Mod [] w218 w_) ?_ ?_
  ·have v231:Mod [] w218 w218:=Mod.refl _ _;refine w_region<|yS 1<|zk (some 100) (c38 (P.bd f.toNat) w218 (by omega)) ?_;intro w232 v233;have u235:=At.on u222 v233;have v238:=Mod.trans v231 (Mod.of_nil v233);refine yS 2<|yE 102 (.bool ((kindOf (P.bd f.toNat))==(6:Int))) ?_;cases hc240:((kindOf (P.bd f.toNat))==(6:Int))
   ·have dhc240:=hc240;simp only [zbq] at dhc240;exact yS 15<|ze<|zb () v238
   have dhc240:=hc240;simp only [zbq] at dhc240;refine yV 5 [.cell ⟨b8,1,none⟩ (.int .i64 t),.cell ⟨b8,0,none⟩ (.int .i64 f)] [.int .i64 t,.int .i64 f] (⟨At.cell u235 rfl,At.cell u235 rfl⟩)<|yW 107 (zi (f+(16:Int)) (by omega) (by omega))<|yS 2<|yE 109 (.bool (t==(f+(16:Int)))) ?_;cases hc241:(t==(f+(16:Int)))
   ·have dhc241:=hc241;simp only [zbq] at dhc241;exact yV 5 [.cell ⟨b8,1,none⟩ (.int .i64 t),.cell ⟨b8,0,none⟩ (.int .i64 f)] [.int .i64 t,.int .i64 f] (⟨At.cell u235 rfl,At.cell u235 rfl⟩)<|yW 114 (zi (f-(16:Int)) (by omega) (by omega))<|yS 3<|ze<|zb () v238
   have dhc241:=hc241;simp only [zbq] at dhc241;exact yS 8<|ze<|c_back () [2,3,4,5,7,8,117] (by kernel_rfl) v238
  intro _ w229 v230;have u243:=At.on u222 v230;have u245:=At.on u220 v230;have v247:=Mod.trans v228 (Mod.of_nil v230);refine w_cond (b:=(((kindOf (P.bd f.toNat))==(6:Int))&&((t==(f+(16:Int)))||(t==(f-(16:Int)))))) (by kernel_rfl) (λhc248=>?_) (λhc248=>?_)
  ·have dhc248:=hc248;simp only [zbq] at dhc248;refine w_region<|yV 5 [.cell ⟨b8,0,none⟩ (.int .i64 f),.cell ⟨b8,1,none⟩ (.int .i64 t)] [.int .i64 f,.int .i64 t] (⟨At.cell u243 rfl,At.cell u243 rfl⟩)<|yW 122 (zi (f+t) (by omega) (by omega))<|yO 1 [.prop ((2:Int)≠0)] (show (2:Int)≠0 from (by omega))<|yW 123 (zdw (f+t) 2 (by omega) (by omega))<|yS 1<|reg_store b32 66 (.int .i64 ((f+t)/(2:Int))) none (by kernel_rfl) u245 (sp_bound (⟨(mk4 P.bd P.turn f t p),P.turn,(leftS P.castle f t),(-1:Int),P.half,P.full⟩:SP) ((f+t)/(2:Int)) (by omega)) rfl ?_;intro w249 hu250;have u251:At w249 b32 (.cells (spCells (⟨(mk4 P.bd P.turn f t p),P.turn,(leftS P.castle f t),((f+t)/(2:Int)),P.half,P.full⟩:SP)) 24 (0,0)):=at_cast hu250.at_ (congrArg (λA=>Obj.cells A 24 (0,0)) (spStore_66 (⟨(mk4 P.bd P.turn f t p),P.turn,(leftS P.castle f t),(-1:Int),P.half,P.full⟩:SP) ((f+t)/(2:Int))));have v256:=Mod.fresh' v247 hu250.mod (by simp<;>omega);exact ze<|zb () ⟨v256,at_cast u251 (sp_cast (by unfold epS;simp only [hc248,cond_true,cond_false,Nat.zero_add,Nat.mul_one]))⟩
  have dhc248:=hc248;simp only [zbq] at dhc248;exact w_skip<|c_back () [2,4,5,7,8] (by kernel_rfl) ⟨v247,at_cast u245 (sp_cast (by unfold epS;simp only [hc248,cond_true,cond_false,Nat.zero_add,Nat.mul_one]))⟩
 rintro _ w225 ⟨v226,u227⟩;have u257:=At.keep u221 v226 (not_mem1 ne35);have u259:=At.keep u223 v226 (not_mem1 ne36);have v260:=Mod.fresh' v224 v226 (by simp<;>omega);refine zw<|yV 3 [.cell ⟨b32,67,none⟩ (.int .i64 P.half)] [.int .i64 P.half] (At.cell u227 (spCells_67 (⟨(mk4 P.bd P.turn f t p),P.turn,(leftS P.castle f t),(epS P.bd f t),P.half,P.full⟩:SP)))<|yS 1<|reg_store b32 67 (.int .i64 (IntKind.i64.wrap (P.half+(1:Int)))) none (by kernel_rfl) u227 (sp_bound (⟨(mk4 P.bd P.turn f t p),P.turn,(leftS P.castle f t),(epS P.bd f t),P.half,P.full⟩:SP) (IntKind.i64.wrap (P.half+(1:Int))) (by omega)) rfl ?_;intro w261 hu262;have u263:At w261 b32 (.cells (spCells (⟨(mk4 P.bd P.turn f t p),P.turn,(leftS P.castle f t),(epS P.bd f t),(IntKind.i64.wrap (P.half+(1:Int))),P.full⟩:SP)) 24 (0,0)):=at_cast hu262.at_ (congrArg (λA=>Obj.cells A 24 (0,0)) (spStore_67 (⟨(mk4 P.bd P.turn f t p),P.turn,(leftS P.castle f t),(epS P.bd f t),P.half,P.full⟩:SP) (IntKind.i64.wrap (P.half+(1:Int)))));have u264:=At.keep u257 hu262.mod (not_mem1 ne35);have u266:=At.keep u259 hu262.mod (not_mem1 ne36);have v267:=Mod.fresh' v260 hu262.mod (by simp<;>omega);refine zz<|w_cut (γ:=Unit) (λ_=>[(2,.pointer (some ⟨b1,0,none⟩)),(4,.pointer (some ⟨b16,0,none⟩)),(8,.pointer (some ⟨b32,0,none⟩))]) (λ_ w_=>Mod [b32] w261 w_/\At w_ b32 (.cells (spCells (⟨(mk4 P.bd P.turn f t p),P.turn,(leftS P.castle f t),(epS P.bd f t),(halfS P.bd P.half f t),P.full⟩:SP)) 24 (0,0))) ?_ ?_
 ·have v271:Mod [b32] w261 w261:=Mod.refl _ _;refine w_cut (γ:=Unit) (λ_=>[(2,.pointer (some ⟨b1,0,none⟩)),(4,.pointer (some ⟨b16,0,none⟩)),(8,.pointer (some ⟨b32,0,none⟩)),(134,.bool ((takesI P.bd f t)||((kindOf (P.bd f.toNat))==(6:Int))))]) (λ_ w_=>Mod [] w261 w_) ?_ ?_
  ·have v274:Mod [] w261 w261:=Mod.refl _ _;refine w_region<|yS 2<|yE 130 (.bool (takesI P.bd f t)) ?_;cases hc275:(takesI P.bd f t)
   ·have dhc275:=hc275;try simp only [zbq] at dhc275
    refine yS 1<|zk (some 132) (c38 (P.bd f.toNat) w261 (by omega)) ?_;intro w276 v277;have v282:=Mod.trans v274 (Mod.of_nil v277);exact yS 2<|ze<|zb () v282
   have dhc275:=hc275;try simp only [zbq] at dhc275
   exact yS 4<|ze<|c_back () [2,4,8,134] (by kernel_rfl) v274
  intro _ w272 v273;have u287:=At.on u263 v273;have v289:=Mod.trans v271 (Mod.of_nil v273);refine w_cond (b:=((takesI P.bd f t)||((kindOf (P.bd f.toNat))==(6:Int)))) (by kernel_rfl) (λhc290=>?_) (λhc290=>?_)
  ·have dhc290:=hc290;simp only [zbq] at dhc290;refine w_region<|yS 1<|reg_store b32 67 (.int .i64 (0:Int)) none (by kernel_rfl) u287 (sp_bound (⟨(mk4 P.bd P.turn f t p),P.turn,(leftS P.castle f t),(epS P.bd f t),(IntKind.i64.wrap (P.half+(1:Int))),P.full⟩:SP) (0:Int) (by omega)) rfl ?_;intro w291 hu292;have u293:At w291 b32 (.cells (spCells (⟨(mk4 P.bd P.turn f t p),P.turn,(leftS P.castle f t),(epS P.bd f t),(0:Int),P.full⟩:SP)) 24 (0,0)):=at_cast hu292.at_ (congrArg (λA=>Obj.cells A 24 (0,0)) (spStore_67 (⟨(mk4 P.bd P.turn f t p),P.turn,(leftS P.castle f t),(epS P.bd f t),(IntKind.i64.wrap (P.half+(1:Int))),P.full⟩:SP) (0:Int)));have v298:=Mod.fresh' v289 hu292.mod (by simp<;>omega);exact reg_end (by kernel_rfl)<|c_back () [2,4,8] (by kernel_rfl) ⟨v298,at_cast u293 (sp_cast (by unfold halfS;simp only [hc290,cond_true,cond_false,Nat.zero_add,Nat.mul_one]))⟩
  have dhc290:=hc290;simp only [zbq] at dhc290;exact w_skip<|c_back () [2,4,8] (by kernel_rfl) ⟨v289,at_cast u287 (sp_cast (by unfold halfS;simp only [hc290,cond_true,cond_false,Nat.zero_add,Nat.mul_one]))⟩
 rintro _ w268 ⟨v269,u270⟩;have u299:=At.keep u264 v269 (not_mem1 ne35);have u301:=At.keep u266 v269 (not_mem1 ne36);have v302:=Mod.fresh' v267 v269 (by simp<;>omega);refine zw<|yV 5 [.cell ⟨b32,68,none⟩ (.int .i64 P.full),.cell ⟨b1,64,none⟩ (.int .i64 P.turn)] [.int .i64 P.full,.int .i64 P.turn] (⟨At.cell u270 (spCells_68 (⟨(mk4 P.bd P.turn f t p),P.turn,(leftS P.castle f t),(epS P.bd f t),(halfS P.bd P.half f t),P.full⟩:SP)),At.cell u299 (spCells_64 P)⟩)<|yS 1<|reg_store b32 68 (.int .i64 (IntKind.i64.wrap (P.full+P.turn))) none (by kernel_rfl) u270 (sp_bound (⟨(mk4 P.bd P.turn f t p),P.turn,(leftS P.castle f t),(epS P.bd f t),(halfS P.bd P.half f t),P.full⟩:SP) (IntKind.i64.wrap (P.full+P.turn)) (by omega)) rfl ?_;intro w303 hu304;have u305:At w303 b32 (.cells (spCells (⟨(mk4 P.bd P.turn f t p),P.turn,(leftS P.castle f t),(epS P.bd f t),(halfS P.bd P.half f t),(IntKind.i64.wrap (P.full+P.turn))⟩:SP)) 24 (0,0)):=at_cast hu304.at_ (congrArg (λA=>Obj.cells A 24 (0,0)) (spStore_68 (⟨(mk4 P.bd P.turn f t p),P.turn,(leftS P.castle f t),(epS P.bd f t),(halfS P.bd P.half f t),P.full⟩:SP) (IntKind.i64.wrap (P.full+P.turn))));have u306:=At.keep u299 hu304.mod (not_mem1 ne35);have u308:=At.keep u301 hu304.mod (not_mem1 ne36);have v309:=Mod.fresh' v302 hu304.mod (by simp<;>omega);refine reg_end (by kernel_rfl)<|zn<|yV 3 [.cell ⟨b1,64,none⟩ (.int .i64 P.turn)] [.int .i64 P.turn] (At.cell u306 (spCells_64 P))<|yW 144 (zi ((1:Int)-P.turn) (by omega) (by omega))<|yS 1<|reg_store b32 64 (.int .i64 ((1:Int)-P.turn)) none (by kernel_rfl) u305 (sp_bound (⟨(mk4 P.bd P.turn f t p),P.turn,(leftS P.castle f t),(epS P.bd f t),(halfS P.bd P.half f t),(IntKind.i64.wrap (P.full+P.turn))⟩:SP) ((1:Int)-P.turn) (by omega)) rfl ?_;intro w310 hu311;have u312:At w310 b32 (.cells (spCells (⟨(mk4 P.bd P.turn f t p),((1:Int)-P.turn),(leftS P.castle f t),(epS P.bd f t),(halfS P.bd P.half f t),(IntKind.i64.wrap (P.full+P.turn))⟩:SP)) 24 (0,0)):=at_cast hu311.at_ (congrArg (λA=>Obj.cells A 24 (0,0)) (spStore_64 (⟨(mk4 P.bd P.turn f t p),P.turn,(leftS P.castle f t),(epS P.bd f t),(halfS P.bd P.half f t),(IntKind.i64.wrap (P.full+P.turn))⟩:SP) ((1:Int)-P.turn)));have u315:=At.keep u308 hu311.mod (not_mem1 ne36);have v316:=Mod.fresh' v309 hu311.mod (by simp<;>omega);refine reg_end (by kernel_rfl)<|zn<|yV 1 [.row ⟨b32,0,none⟩ 69 (spCells (⟨(mk4 P.bd P.turn f t p),((1:Int)-P.turn),(leftS P.castle f t),(epS P.bd f t),(halfS P.bd P.half f t),(IntKind.i64.wrap (P.full+P.turn))⟩:SP))] [.agg (spCells (⟨(mk4 P.bd P.turn f t p),((1:Int)-P.turn),(leftS P.castle f t),(epS P.bd f t),(halfS P.bd P.half f t),(IntKind.i64.wrap (P.full+P.turn))⟩:SP))] (At.row u312 (spCells_size (⟨(mk4 P.bd P.turn f t p),((1:Int)-P.turn),(leftS P.castle f t),(epS P.bd f t),(halfS P.bd P.half f t),(IntKind.i64.wrap (P.full+P.turn))⟩:SP)))<|reg_store b16 0 (.agg (spCells (⟨(mk4 P.bd P.turn f t p),((1:Int)-P.turn),(leftS P.castle f t),(epS P.bd f t),(halfS P.bd P.half f t),(IntKind.i64.wrap (P.full+P.turn))⟩:SP))) none (by kernel_rfl) u315 (sp_bound_all zeroSP _) (sp_one (⟨(mk4 P.bd P.turn f t p),((1:Int)-P.turn),(leftS P.castle f t),(epS P.bd f t),(halfS P.bd P.half f t),(IntKind.i64.wrap (P.full+P.turn))⟩:SP)) ?_
 intro w317 hu318;have u319:At w317 b16 (.cells (spCells (⟨(mk4 P.bd P.turn f t p),((1:Int)-P.turn),(leftS P.castle f t),(epS P.bd f t),(halfS P.bd P.half f t),(IntKind.i64.wrap (P.full+P.turn))⟩:SP)) 24 (0,0)):=at_cast hu318.at_ (congrArg (λA=>Obj.cells A 24 (0,0)) (spStore_all zeroSP (⟨(mk4 P.bd P.turn f t p),((1:Int)-P.turn),(leftS P.castle f t),(epS P.bd f t),(halfS P.bd P.half f t),(IntKind.i64.wrap (P.full+P.turn))⟩:SP)));have v323:=Mod.fresh' v316 hu318.mod (by simp<;>omega);exact zz<|w_ret<|retc results19 rfl (by kernel_rfl) (by kernel_rfl) ((At.row u319 (spCells_size (⟨(mk4 P.bd P.turn f t p),((1:Int)-P.turn),(leftS P.castle f t),(epS P.bd f t),(halfS P.bd P.half f t),(IntKind.i64.wrap (P.full+P.turn))⟩:SP)))) (⟨rfl,v323⟩)
theorem append_where{P:Program}{w w':World}{t ty e:TypeId}{i:TypeInfo}{z:Value}{size bytes:Nat}(ht:P.underlying t=some (.slice e))(hi:P.info? e=some i)(hz:i.zero=some z)
  (hsize:i.size=size)(hby:i.bytes=bytes){b0 l cap:Nat}{ao:Option Addr}{xs:List Value}(hown:Own w b0 e size ao l cap xs)
  {a:Addr}{m c:Nat}{news:List Value}(hl:news.length=m*size)(hnews:∀j u,news[j]?=some u->w.cell? (a.add j)=some u)(h1:∀u∈news,u.oneCell'=true)
  (h63:l+m<=maxLen)(hbytes:(l+m)*bytes<=140737488355328){ao':Option Addr}{n' cap':Nat}
  (hrun:(Builtin.append_ #[t,t] ty #[.slice ao l cap,.slice (some a) m c]).run P w=.ok (.slice ao' n' cap') w')(hnil:Value.slice ao' n' cap'=.slice none 0 0↔Value.slice ao l cap=.slice none 0 0/\m=0):
  ao'=ao\/∀x∈blk ao',w.heap.size<=x:=by
 subst hsize;subst hby;have hsmall:l+m<=9223372036854775807:=by simp only [maxLen] at h63;omega
 rcases hown.ow.2 with ⟨hv,h0⟩|⟨g,cap2,cur,hv,hbg,hg,hnc,hcm,hcs,htake⟩
 ·simp only [Value.slice.injEq] at hv;obtain ⟨rfl,rfl,rfl⟩:=hv;by_cases hm:m=0
  ·have:=hnil.2 ⟨rfl,hm⟩;simp only [Value.slice.injEq] at this;exact Or.inl this.1
  have hr:=run_append_nil (P:=P) w t ty e i z ht hi hz a m c news hl hnews (by omega) (by omega) (by simp only [Nat.zero_add] at hbytes;omega);rw [hr] at hrun;cases hrun;exact Or.inr λx hx=>by simp [blk] at hx;omega
 simp only [Value.slice.injEq,true_and] at hv;obtain ⟨rfl,rfl⟩:=hv;by_cases hroom:l+m<=cap
 ·have hfit:l*i.size+news.length<=cur.size:=by rw [hl,hcs,←Nat.add_mul];exact Nat.mul_le_mul_right _ hroom
  have hr:=run_append_room (P:=P) w t ty e i ht hi g l cap cur hg a m c news hl hnews h1 hroom hfit;rw [hr] at hrun;cases hrun;exact Or.inl rfl
 have hr:=run_append_grow (P:=P) w t ty e i z ht hi hz ⟨g,0,none⟩ l cap xs hown.ow.1 (Own.cells' hown) a m c news hl hnews (by omega) (by omega) (growslice_fits (by omega) hbytes);rw [hr] at hrun;cases hrun;exact Or.inr λx hx=>by simp [blk] at hx;omega
section
variable{P:Program}{n:Nat}{D:List Deferred}{ops:Array Oper}{Q:Exit->Act->World->Prop}{w:World}{L:List (Nat×Value)}
theorem reg_append2{k:Nat}(ao:Option Addr)(l cap:Nat)(a:Addr)(m c:Nat)(e:TypeId)(dst:Option Nat)(size bytes:Nat)(h:appendAt P n ops.toList k L=some (.slice ao l cap,.slice (some a) m c,e,dst,size,bytes,size))
  {b0:Nat}{xs news:List Value}(hown:Own w b0 e size ao l cap xs)(hs:0<size)(hl:news.length=m*size)(hnews:∀j u,news[j]?=some u->w.cell? (a.add j)=some u)(h1:∀u∈news,u.oneCell'=true)
  (hb:(l+m)*(bytes+1)<=140737488355328)(hbase:b0<=w.heap.size)
  (hk:∀ao' cap' w',Own w' b0 e size ao' (l+m) cap' (xs++news)->Mod (blk ao) w w'->(ao'=ao\/∀x∈blk ao',w.heap.size<=x)->Reg P n D ops Q (k+1) (setD dst (.slice ao' (l+m) cap') L) w'):Reg P n D ops Q k L w:=by
 intro act ha;unfold appendAt at h;split at h
 case h_2=>cases h
 rename_i o ho;split at h
 case h_2=>cases h
 rename_i hw hd;split at h
 case h_2=>cases h
 rename_i cc hop;split at h
 case h_2=>cases h
 rename_i s x t t' hc hargs hts;split at h
 case isFalse=>cases h
 rename_i ht;subst ht;split at h
 case h_2=>cases h
 rename_i u v e' hs' hx hu;split at h
 case h_2=>cases h
 rename_i i hi;split at h
 case h_2=>cases h
 rename_i z hz;simp only [Option.some.injEq,Prod.mk.injEq] at h;obtain ⟨rfl,rfl,rfl,rfl,hsz,hby,hzs⟩:=h;rw [drop_cons ho];simp only [wpList,wantedL_spec ha hw,if_true];refine .inl ?_;have hm:(l+m)*bytes<=140737488355328:=Nat.le_trans (Nat.mul_le_mul_left _ (by omega)) hb;have hlm:l+m<=maxLen:=by
  have:l+m<=(l+m)*(bytes+1):=Nat.le_mul_of_pos_right _ (by omega);simp only [maxLen];omega
 obtain ⟨v',w',hrun,h2,h3,hnil⟩:=run_append_own (P:=P) w b0 t o.type e' i z size bytes hu hi hz hsz hby hzs hs _ l xs hown.ow a m c news hl hnews h1 hlm hm hbase;have hr:(execOp act.eval o).run P w=.ok (.value v') w':=by
  obtain ⟨dst,op,ty,pos,af,g'⟩:=o;simp only at hop;subst hop;obtain ⟨callee,args,ts⟩:=cc;simp only at hc hargs hts;subst hc;obtain rfl:args=#[s,x]:=by apply Array.ext';simpa using hargs
  obtain rfl:ts=#[t,t]:=by apply Array.ext';simpa using hts
  simp only [execOp,resolve,invoke,builtin,Sem.run_bind,Sem.run_pure,Result.andThen_ok,List.map_toArray,List.map_cons,List.map_nil,ha.agrees _ _ hs',ha.agrees _ _ hx,hrun]
 simp only [Oper.wp,hr,Oper.upon];have hform:∃ao' cap',v'=.slice ao' (l+m) cap':=by
  rcases h2.2 with ⟨hv,h0⟩|⟨g,cap',cur,hv,_⟩
  ·exact ⟨none,0,by rw [hv,h0]⟩
  exact ⟨_,_,hv⟩
 obtain ⟨ao',cap',rfl⟩:=hform;exact hk ao' cap' w' ⟨h2⟩ (Mod.of_grown h3) (append_where hu hi hz hsz hby hown hl hnews h1 hlm hm hrun hnil) _ (ha.setD hd _)
end
structure Sm where
 f:Int
 t:Int
 p:Int
structure GI where
 i:Int
 l:List Int
 ao:Option Addr
 cap:Nat
structure GS where
 i:Int
 l:List Sm
 ao:Option Addr
 cap:Nat
def ints(l:List Int):List Value:=l.flatMap λx=>[.int .i64 x]
def pairs(l:List (Int×Int)):List Value:=l.flatMap λd=>[.int .i64 d.1,.int .i64 d.2]
def smV(m:Sm):List Value:=[.int .i64 m.f,.int .i64 m.t,.int .i64 m.p]
def sms(l:List Sm):List Value:=l.flatMap smV
theorem flat_len{α:Type}{f:α->List Value}{k:Nat}(h:∀x,(f x).length=k):∀l:List α,(l.flatMap f).length=l.length*k
 |[]=>by simp
 |x::r=>by simp [List.flatMap_cons,h,flat_len h r,Nat.add_mul];omega
theorem flat_get{α:Type}{f:α->List Value}{k:Nat}(h:∀x,(f x).length=k):∀(l:List α) (i j:Nat) (d:α),i<l.length->j<k->(l.flatMap f)[i*k+j]?=(f (l.getD i d))[j]?
 |[],_,_,_,h0,_=>by simp at h0
 |x::r,0,j,d,_,hj=>by
  rw [List.flatMap_cons,Nat.zero_mul,Nat.zero_add,List.getElem?_append_left (by rw [h];exact hj)];rfl
 |x::r,i+1,j,d,h0,hj=>by
  rw [List.flatMap_cons,List.getElem?_append_right (by rw [h,Nat.add_mul];omega),h,show (i+1)*k+j-k=i*k+j by rw [Nat.add_mul];omega];rw [flat_get h r i j d (by simpa using h0) hj];rfl
theorem flat_one{α:Type}{f:α->List Value}(h:∀x,∀u∈f x,u.oneCell'=true)(l:List α):∀u∈l.flatMap f,u.oneCell'=true:=by
 intro u hu;obtain ⟨x,_,hx⟩:=List.mem_flatMap.1 hu;exact h x u hx
theorem ints_len(l:List Int):(ints l).length=l.length*1:=flat_len (f:=λx=>[Value.int .i64 x]) (k:=1) (λ_=>rfl) l
theorem pairs_len(l:List (Int×Int)):(pairs l).length=l.length*2:=flat_len (f:=λd:Int×Int=>[Value.int .i64 d.1,.int .i64 d.2]) (k:=2) (λ_=>rfl) l
theorem sms_len(l:List Sm):(sms l).length=l.length*3:=flat_len (f:=smV) (k:=3) (λ_=>rfl) l
theorem ints_one(l:List Int):∀u∈ints l,u.oneCell'=true:=flat_one (λx u hu=>by rw [List.mem_singleton.1 hu];rfl) l
theorem pairs_one(l:List (Int×Int)):∀u∈pairs l,u.oneCell'=true:=flat_one (λx u hu=>by simp at hu;rcases hu with rfl|rfl<;>rfl) l
theorem sms_one(l:List Sm):∀u∈sms l,u.oneCell'=true:=flat_one (λx u hu=>by simp [smV] at hu;rcases hu with rfl|rfl|rfl<;>rfl) l
theorem ints_append(a b:List Int):ints (a++b)=ints a++ints b:=List.flatMap_append ..
theorem sms_append(a b:List Sm):sms (a++b)=sms a++sms b:=List.flatMap_append ..
theorem pairs_append(a b:List (Int×Int)):pairs (a++b)=pairs a++pairs b:=List.flatMap_append ..
theorem ints_at{l:List Int}{i:Int}(h0:0<=i)(h:i<(l.length:Int)):(ints l)[0+i.toNat*1]?=some (.int .i64 (l.getD i.toNat 0)):=by
 have:=flat_get (f:=λx=>[Value.int .i64 x]) (k:=1) (λ_=>rfl) l i.toNat 0 0 (by omega) (by omega);rw [Nat.zero_add];exact this
theorem pairs_at{l:List (Int×Int)}{i:Int}(h0:0<=i)(h:i<(l.length:Int)):(pairs l)[0+i.toNat*2]?=some (.int .i64 (l.getD i.toNat (0,0)).1)/\(pairs l)[0+i.toNat*2+1]?=some (.int .i64 (l.getD i.toNat (0,0)).2):=by
 have h1:=flat_get (f:=λd:Int×Int=>[Value.int .i64 d.1,.int .i64 d.2]) (k:=2) (λ_=>rfl) l i.toNat 0 (0,0) (by omega) (by omega);have h2:=flat_get (f:=λd:Int×Int=>[Value.int .i64 d.1,.int .i64 d.2]) (k:=2) (λ_=>rfl) l i.toNat 1 (0,0) (by omega) (by omega);rw [Nat.zero_add];exact ⟨h1,h2⟩
def smAt(l:List Sm)(i:Int):Sm:=l.getD i.toNat ⟨0,0,0⟩
theorem smAt_mem{l:List Sm}{i:Int}(h0:0<=i)(h:i<(l.length:Int)):smAt l i∈l:=by
 unfold smAt;rw [List.getD_eq_getElem?_getD,List.getElem?_eq_getElem (by omega)];exact List.getElem_mem _
theorem sms_at{l:List Sm}{i:Int}(h0:0<=i)(h:i<(l.length:Int)):(sms l)[0+i.toNat*3]?=some (.int .i64 (smAt l i).f)/\(sms l)[0+i.toNat*3+1]?=some (.int .i64 (smAt l i).t)/\(sms l)[0+i.toNat*3+2]?=some (.int .i64 (smAt l i).p):=by
 have h1:=flat_get (f:=smV) (k:=3) (λ_=>rfl) l i.toNat 0 ⟨0,0,0⟩ (by omega) (by omega);have h2:=flat_get (f:=smV) (k:=3) (λ_=>rfl) l i.toNat 1 ⟨0,0,0⟩ (by omega) (by omega);have h3:=flat_get (f:=smV) (k:=3) (λ_=>rfl) l i.toNat 2 ⟨0,0,0⟩ (by omega) (by omega);rw [Nat.zero_add];exact ⟨h1,h2,h3⟩
theorem own_sm{w:World}{b0 n cap g:Nat}{l:List Sm}{i:Int}(h:Own w b0 30 3 (some ⟨g,0,none⟩) n cap (sms l))(h0:0<=i)(hi:i<(l.length:Int)):(Ob.row ⟨g,0+i.toNat*3,none⟩ 3 #[.int .i64 (smAt l i).f,.int .i64 (smAt l i).t,.int .i64 (smAt l i).p]).holds w:=by
 obtain ⟨h1,h2,h3⟩:=sms_at h0 hi;refine ⟨rfl,λj hj=>?_⟩;rw [add_none];rcases (by omega:j=0\/j=1\/j=2) with rfl|rfl|rfl
 ·rw [Nat.add_zero,Own.cell h h1];rfl
 ·rw [Own.cell h h2];rfl
 rw [Own.cell h h3];rfl
theorem at_cells{w:World}{q:Nat}{t:TypeId}{l:List Value}(h:At w q (.cells l.toArray t (0,0))):∀j u,l[j]?=some u->w.cell? (Addr.add ⟨q,0,none⟩ j)=some u:=by
 intro j u hu;rw [add_none,Nat.zero_add];exact h.cell (by simpa using hu)
theorem Own.base{w:World}{b0 b1 size n cap:Nat}{e:TypeId}{ao:Option Addr}{xs:List Value}(h:Own w b0 e size ao n cap xs)(hb:b1<=b0):Own w b1 e size ao n cap xs:=by
 refine ⟨h.ow.1,?_⟩;rcases h.ow.2 with hn|⟨g',cap',cur,hv,hg,rest⟩
 ·exact .inl hn
 exact .inr ⟨g',cap',cur,hv,Nat.le_trans hb hg,rest⟩
theorem blk_none:∀x∈blk none,False:=λx hx=>by simp [blk] at hx
theorem acc_where{S:List Nat}{wb w:World}{ao ao':Option Addr}(hx:∀x∈blk ao,x∈S\/wb.heap.size<=x)(m:Mod S wb w)(hd:ao'=ao\/∀x∈blk ao',w.heap.size<=x):∀x∈blk ao',x∈S\/wb.heap.size<=x:=by
 intro x hx';rcases hd with rfl|hd
 ·exact hx x hx'
 exact Or.inr (Nat.le_trans m.size (hd x hx'))
theorem own_type{w:World}{b0 b1 size size' n n' cap cap':Nat}{e t:TypeId}{ao ao':Option Addr}{xs ys:List Value}(h:Own w b0 e size ao n cap xs)(k:Own w b1 t size' ao' n' cap' ys)(ht:(t==e)=false):∀x∈blk ao,x∉blk ao':=by
 intro x hx hx';rcases h.ow.2 with ⟨hv,_⟩|⟨g,_,cur,hv,_,hg,_⟩
 ·simp only [Value.slice.injEq] at hv;rw [hv.1] at hx;exact blk_none x hx
 rcases k.ow.2 with ⟨kv,_⟩|⟨g',_,cur',kv,_,hg',_⟩
 ·simp only [Value.slice.injEq] at kv;rw [kv.1] at hx';exact blk_none x hx'
 simp only [Value.slice.injEq] at hv kv;rw [hv.1] at hx;rw [kv.1] at hx';simp [blk] at hx hx';subst hx;subst hx';rw [hg] at hg';cases hg';simp at ht
section
variable{P:Program}{n:Nat}{D:List Deferred}{ops:Array Oper}{Q:Exit->Act->World->Prop}{w:World}{L:List (Nat×Value)}
def bslice0At(P:Program)(n:Nat)(ops:List Oper)(k:Nat)(L:List (Nat×Value)):Option (TypeId×Option Nat):=
 match ops[k]? with
 |some o=>match wantedL ops L o,dstOk o.dst n with
  |some true,true=>match o.op with
   |.buildSlice t 0 ps=>match ps.toList,P.underlying t with
    |[],some (.slice e)=>match P.info? e with
     |some _=>some (e,o.dst)
     |none=>none
    |_,_=>none
   |_=>none
  |_,_=>none
 |none=>none
theorem reg_bslice0{k:Nat}(e:TypeId)(dst:Option Nat)(h:bslice0At P n ops.toList k L=some (e,dst))
  (hk:∀b w',New w w' b (.cells #[] e (0,0))->Reg P n D ops Q (k+1) (setD dst (.slice (some ⟨b,0,none⟩) 0 0) L) w'):Reg P n D ops Q k L w:=by
 intro a ha;unfold bslice0At at h;split at h
 case h_2=>cases h
 rename_i o ho;split at h
 case h_2=>cases h
 rename_i hw hd;split at h
 case h_2=>cases h
 rename_i t ps hop;split at h
 case h_2=>cases h
 rename_i e' hps hu;split at h
 case h_2=>cases h
 rename_i i hi;simp only [Option.some.injEq,Prod.mk.injEq] at h;obtain ⟨rfl,rfl⟩:=h;have hr:(execOp a.eval o).run P w=.ok (.value (.slice (some ⟨w.heap.size,0,none⟩) 0 0)) (w.alloc (.cells #[] e' (0,0))):=by
  obtain ⟨dst,op,ty,pos,af,g'⟩:=o;simp only at hop;subst hop;obtain rfl:ps=#[]:=by apply Array.ext';simpa using hps
  have hsz:(sizeOf e').run P w=.ok i.size w:=by simp [sizeOf,typeInfo,hi]
  simp [execOp,Instr.buildSlice,runU hu,hsz,Instr.fill,newRow,show (Array.range 0:Array Nat)=#[] from rfl]
 rw [drop_cons ho];simp only [wpList,wantedL_spec ha hw,if_true];refine .inl ?_;simp only [Oper.wp,hr,Oper.upon];exact hk _ _ (New.alloc w _) _ (ha.setD hd _)
theorem reg_append_own{k:Nat}(ao:Option Addr)(l cap:Nat)(ao2:Option Addr)(m cap2:Nat)(e:TypeId)(dst:Option Nat)(size bytes:Nat)(h:appendAt P n ops.toList k L=some (.slice ao l cap,.slice ao2 m cap2,e,dst,size,bytes,size))
  {b0 b1:Nat}{xs news:List Value}(hown:Own w b0 e size ao l cap xs)(hown2:Own w b1 e size ao2 m cap2 news)(hs:0<size)(h1:∀u∈news,u.oneCell'=true)
  (hb:(l+m)*(bytes+1)<=140737488355328)(hbase:b0<=w.heap.size)
  (hk:∀ao' cap' w',Own w' b0 e size ao' (l+m) cap' (xs++news)->Mod (blk ao) w w'->(ao'=ao\/∀x∈blk ao',w.heap.size<=x)->Reg P n D ops Q (k+1) (setD dst (.slice ao' (l+m) cap') L) w'):Reg P n D ops Q k L w:=by
 rcases hown2.ow.2 with ⟨hv,h0⟩|⟨g,cap3,cur,hv,_⟩
 ·simp only [Value.slice.injEq] at hv;obtain ⟨rfl,rfl,rfl⟩:=hv;have hn:news=[]:=List.eq_nil_of_length_eq_zero (by have:=hown2.ow.1;simpa using this);subst hn;have hle:l<=cap:=by
   rcases hown.ow.2 with ⟨hv,h0⟩|⟨g,cap',cur,hv,_,_,hc,_⟩
   ·simp only [Value.slice.injEq] at hv;omega
   simp only [Value.slice.injEq] at hv;omega
  exact reg_append_nil ao l cap e dst size bytes size h hle<|hk ao cap w (Own.cast hown (Nat.add_zero _).symm (List.append_nil _).symm) (Mod.refl _ _) (Or.inl rfl)
 simp only [Value.slice.injEq,true_and] at hv;obtain ⟨rfl,rfl⟩:=hv;exact reg_append2 ao l cap ⟨g,0,none⟩ m cap2 e dst size bytes h hown hs hown2.ow.1 (Own.cells' hown2) h1 hb hbase hk
end
def FlatI{α:Type}(base:List Sm)(M:List α)(f:α->List Sm)(i:Int)(l:List Sm):Prop:=l=base++(M.take i.toNat).flatMap f
theorem FlatI.zero{α:Type}{base:List Sm}{M:List α}{f:α->List Sm}:FlatI base M f 0 base:=by unfold FlatI;simp
theorem FlatI.step{α:Type}{base:List Sm}{M:List α}{f:α->List Sm}{i:Int}{l l':List Sm}(h:FlatI base M f i l)(h0:0<=i)(h1:i<(M.length:Int))(d:α)(hl:l'=l++f (M.getD i.toNat d)):FlatI base M f (i+1) l':=by
 unfold FlatI at*
 rw [hl,h,show (i+1).toNat=i.toNat+1 by omega,List.take_succ_eq_append_getElem (by omega),List.flatMap_append,List.getD_eq_getElem?_getD,List.getElem?_eq_getElem (by omega),List.append_assoc];simp
theorem FlatI.fin{α:Type}{base:List Sm}{M:List α}{f:α->List Sm}{i:Int}{l:List Sm}(h:FlatI base M f i l)(h0:0<=i)(h1:¬i<(M.length:Int)):l=base++M.flatMap f:=by
 unfold FlatI at h;rw [h,List.take_of_length_le (by omega)]
theorem flat_le{α β:Type}{f:α->List β}{c:Nat}(hc:∀x,(f x).length<=c):∀M:List α,(M.flatMap f).length<=c*M.length
 |[]=>by simp
 |x::r=>by have:=flat_le hc r;have:=hc x;simp only [List.flatMap_cons,List.length_append,List.length_cons,Nat.mul_add,Nat.mul_one];omega
theorem FlatI.len{α:Type}{base:List Sm}{M:List α}{f:α->List Sm}{i:Int}{l:List Sm}{c:Nat}(h:FlatI base M f i l)(hc:∀x,(f x).length<=c):l.length<=base.length+c*M.length:=by
 unfold FlatI at h;rw [h,List.length_append];have h1:=flat_le hc (M.take i.toNat);have h2:(M.take i.toNat).length<=M.length:=by rw [List.length_take];omega
 have h3:=Nat.mul_le_mul_left c h2;omega
end Go.Proofs.YtgnhellfhjoaaaaGreatDoor
