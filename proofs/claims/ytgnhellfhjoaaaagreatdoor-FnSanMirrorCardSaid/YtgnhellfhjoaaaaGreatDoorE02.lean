/-
  FnSanMirror: what is written and read of a legal move is the same in the position seen from the other side, seen so (a part of the proof).
  Conditions: those of each theorem.
-/
import Derived.Test.YtgnhellfhjoaaaaGreatDoorE01
import Derived.Shelf.Strings.Builder1
import Derived.Shelf.Strings.Builder2
import Derived.Shelf.Strings.OnBuilder
import Derived.Shelf.Small.Utf8
import Derived.Shelf.Strings.BuilderF
import Derived.Shelf.Strings.BuilderK
import Derived.Shelf.Strings.Builder2Cap
import Derived.Shelf.Unicode.Latin
import Derived.Shelf.Unicode.Decode
import Derived.Shelf.Unicode.DecodeSlow
import Derived.Shelf.Unicode.DecodeAny
import Derived.Shelf.Unicode.CaseLookup
import Derived.Shelf.Unicode.CaseConvert
import Derived.Shelf.Unicode.CaseTo
import Derived.Shelf.Unicode.CaseLaid
import Derived.Test.YtgnhellfhjoaaaaGreatDoorProg
import Derived.MapKept
set_option linter.unusedVariables false
set_option linter.unusedSimpArgs false
namespace Go.Proofs.YtgnhellfhjoaaaaGreatDoor
open Go Go.RowKit
open Go.Proofs.Tryz
set_option maxRecDepth 100000
def mvBB(M:Mv)(x:Int):Int:=
 bif occB x M.s1 then bor (band (band x (bnot (bbSq M.s2))) (bnot (bbSq M.s1))) (bbSq M.s2) else band x (bnot (bbSq M.s2))
def updTo(B:Bd)(M:Mv)(j:Int):Bd:={B with bb:=λk=>if 1<=k/\(k:Int)<=j then mvBB M (B.bb k) else B.bb k}
theorem Bd.of_nat{B:Bd}{j:Int}(h:0<=j)(h':j<12):B.of (j+1)=B.bb (j+1).toNat:=by
 unfold Bd.of;rw [if_pos (by omega)]
theorem of_updTo{B:Bd}{M:Mv}{j:Int}(h:0<=j)(h':j<((12:Nat):Int)):Bd.of (updTo B M j) (j+1)=Bd.of B (j+1):=by
 have h':j<12:=h';rw [Bd.of_nat h h',Bd.of_nat h h'];show (if _ then _ else _)=_;rw [if_neg (by omega)]
theorem of_set{B:Bd}{j v:Int}(h:0<=j)(h':j<((12:Nat):Int)):Bd.of (Bd.set B (j+1).toNat v) (j+1)=v:=by
 have h':j<12:=h';rw [Bd.of_nat h h'];simp [Bd.set]
theorem updTo_set{B:Bd}{M:Mv}{j:Int}(h:0<=j)(h':j<((12:Nat):Int)):Bd.set (updTo B M j) (j+1).toNat (mvBB M (Bd.of B (j+1)))=updTo B M (j+1):=by
 have h':j<12:=h';rw [Bd.of_nat h h'];simp only [Bd.set,updTo];congr 1;funext k;by_cases e:k=(j+1).toNat
 ·subst e;rw [if_pos rfl,if_pos (by omega)]
 rw [if_neg e];by_cases e2:1<=k/\(k:Int)<=j
 ·rw [if_pos e2,if_pos (by omega)]
 rw [if_neg e2,if_neg (by omega)]
theorem set_set{B:Bd}{k:Nat}{u v:Int}:Bd.set (Bd.set B k u) k v=Bd.set B k v:=by
 simp only [Bd.set];congr 1;funext j;by_cases e:j=k<;>simp [e]
def shl8(x:Int):Int:=IntKind.u64.wrap (x*2^(min (8:Int).toNat IntKind.u64.bits))
def shr8(x:Int):Int:=x.fdiv (2^(min (8:Int).toNat IntKind.u64.bits))
def updPromo(M:Mv)(p1:Int)(B:Bd):Bd:=
 bif M.promo !=0 then
  Bd.set (Bd.set B p1.toNat (band (Bd.of B p1) (bnot (bbSq M.s2)))) (newP M.promo (pColor p1)).toNat
   (bor (Bd.of (Bd.set B p1.toNat (band (Bd.of B p1) (bnot (bbSq M.s2)))) (newP M.promo (pColor p1))) (bbSq M.s2))
 else B
def updEP(M:Mv)(p1:Int)(B:Bd):Bd:=
 bif hasTag M 8 then (bif pColor p1==1 then Bd.set B 12 (band (bnot (shl8 (bbSq M.s2))) (B.bb 12)) else Bd.set B 6 (band (bnot (shr8 (bbSq M.s2))) (B.bb 6))) else B
def rook(B:Bd)(k:Nat)(a b:Int):Bd:=Bd.set B k (bor (band (B.bb k) (bnot (bbSq a))) (bbSq b))
def updCastle(M:Mv)(p1:Int)(B:Bd):Bd:=
 bif (pColor p1==1)&&(hasTag M 1) then rook B 3 7 5 else
 bif (pColor p1==1)&&(hasTag M 2) then rook B 3 0 3 else
 bif (pColor p1==2)&&(hasTag M 1) then rook B 9 63 61 else
 bif (pColor p1==2)&&(hasTag M 2) then rook B 9 56 59 else B
def updB(B:Bd)(M:Mv):Bd:=moveK (calcB (updCastle M (pieceAt B M.s1) (updEP M (pieceAt B M.s1) (updPromo M (pieceAt B M.s1) (updTo B M 12))))) M
theorem c75{c:GC}{b:Nat}{B:Bd}{w:World}(hb:At w b (.cells (bdCells B) 135 (0,0))){m:Nat}{pos:Value}{M:Mv}(hm:At w m (.cells (mvCells pos M) 98 (0,0)))(hG:Glob c w)(hs:0<=M.s1/\M.s1<=63)(hs2:0<=M.s2/\M.s2<=63)(hp1:1<=pieceAt B M.s1/\pieceAt B M.s1<=12)(hcol:pColor (pieceAt B M.s1)=1\/pColor (pieceAt B M.s1)=2)(hpro:M.promo≠0->1<=M.promo/\M.promo<=6)(hnew:M.promo≠0->1<=newP M.promo (pColor (pieceAt B M.s1))/\newP M.promo (pColor (pieceAt B M.s1))<=12)(hbase:c.base<=b):
  CQ 75 [.pointer (some ⟨b,0,none⟩),.pointer (some ⟨m,0,none⟩)] w (λe w'=>e=.returned (.tuple #[])/\Mod [b] w w'/\At w' b (.cells (bdCells (updB B M)) 135 (0,0))):=by
 have v0:Mod [b] w w:=Mod.refl _ _;refine en func75 ntmps75 ?_;refine zw<|yL 5 m 8<|zk (some 18) (c72 hb hG M.s1) ?_;intro w1 v2;have hf3:=At.on hb v2;have hf4:=At.on hm v2;have z5:=Glob.on hG v2;have v6:=Mod.trans v0 (Mod.of_nil v2);refine yS 1<|zx<|yL 4 m 8<|zk (some 23) (c99 M.s1 w1 (by omega) (by omega)) ?_;intro w7 v8;have hf9:=At.on hf3 v8;have hf10:=At.on hf4 v8;have z11:=Glob.on z5 v8;have v12:=Mod.trans v6 (Mod.of_nil v8);refine yS 1<|zx<|yL 4 m 9<|zk (some 28) (c99 M.s2 w7 (by omega) (by omega)) ?_;intro w13 v14;have hf15:=At.on hf9 v14;have hf16:=At.on hf10 v14;have z17:=Glob.on z11 v14;have v18:=Mod.trans v12 (Mod.of_nil v14);refine yS 1<|zz<|w_seq<|zw<|yO 3 [.cell ⟨0,0,none⟩ (.slice (some ⟨c.ap,c.apo,none⟩) 12 12)] (z17.g0)<|zz<|w_block<|yP (γ:=Int) (λg19=>(12-g19).toNat) (λ(g19:Int)=>[(0,pz b),(1,pz m),(4,.int .i8 (pieceAt B M.s1)),(5,.int .u64 (bbSq M.s1)),(6,.int .u64 (bbSq M.s2)),(29,.slice (some ⟨c.ap,c.apo,none⟩) 12 12),(30,.int .i64 ((12:Nat):Int)),(31,.int .i64 g19)]) (λ(g19:Int) w_=>(0<=g19/\g19<=12)/\Mod [b] w13 w_/\At w_ b (.cells (bdCells (updTo B M g19)) 135 (0,0))/\(True)) 0 ⟨by omega,Mod.refl _ _,hf15,trivial⟩ ?_;rintro g19 w20 ⟨⟨h22,h23⟩,v21,hf25,hx24⟩;have hf26:=At.keep hf16 v21 (not_mem1 (At.ne hf16 hf15 rfl));have z27:=Glob.keep z17 v21 (by simp<;>omega);have v28:=Mod.fresh' v18 v21 (by simp<;>omega);refine zw<|yS 1<|zz<|w_seq<|yC (decide (g19<((12:Nat):Int))) (λhc29=>?_) λhc29=>?_
 ·have y29:=of_decide_eq_true hc29;refine w_skip<|n_then<|w_seq<|w_block<|zw<|yO 3 [.prop (0<=g19/\g19<((12:Nat):Int)),.cell ⟨c.ap,(c.apo+g19.toNat*1),none⟩ (.int .i8 (((g19.toNat*1:Nat):Int)+1))] (⟨(zh (by omega)),(z27.pieces (g19.toNat*1) (by omega))⟩)<|ze ?_;rw [(show ((((g19.toNat*1:Nat):Int)+1):Int)=(g19+1) from (by omega))];refine zn<|yS 2<|zk (some 37) (c97 hf25 (g19+1)) fun w30 v31=>yS 1<|ze ?_;rw [(show ((Bd.of (updTo B M g19) (g19+1)):Int)=(Bd.of B (g19+1)) from (of_updTo (by omega) (by omega)))];refine zn<|yS 6<|reg_call 100 [pz b,.int .i8 (g19+1),.int .u64 (band (Bd.of B (g19+1)) (bnot (bbSq M.s2)))] (some 44) (by kernel_rfl) (c100 ya (g19+1) (band (Bd.of B (g19+1)) (bnot (bbSq M.s2))) (by omega)) ?_;rintro _ w37 ⟨rfl,v38,hf39⟩;refine ⟨_,rfl,?_⟩;refine zx<|yL 5 m 8<|zk (some 50) (c98 (Bd.of B (g19+1)) M.s1 w37) ?_;intro w44 v45;have hf47:=At.on hf39 v45;refine zz<|zc (λhc51=>?_) λhc51=>?_
  ·refine zw<|yS 2<|zk (some 53) (c97 hf47 (g19+1)) fun w52 v53=>yS 1<|ze ?_;rw [(show ((Bd.of (Bd.set (updTo B M g19) (g19+1).toNat (band (Bd.of B (g19+1)) (bnot (bbSq M.s2)))) (g19+1)):Int)=(band (Bd.of B (g19+1)) (bnot (bbSq M.s2))) from (of_set (by omega) (by omega)))];refine n_then<|w_region<|yS 8<|reg_call 100 [pz b,.int .i8 (g19+1),.int .u64 (bor (band (band (Bd.of B (g19+1)) (bnot (bbSq M.s2))) (bnot (bbSq M.s1))) (bbSq M.s2))] (some 62) (by kernel_rfl) (c100 ya (g19+1) (bor (band (band (Bd.of B (g19+1)) (bnot (bbSq M.s2))) (bnot (bbSq M.s1))) (bbSq M.s2)) (by omega)) ?_;rintro _ w59 ⟨rfl,v60,hf61⟩;refine ⟨_,rfl,?_⟩;refine ze<|n_block<|n_then<|w_region<|yS 2<|yW 31 (zi (g19+1) (by omega) (by omega))<|ze ?_;have hf66:At w59 b (.cells (bdCells (updTo B M (g19+1))) 135 (0,0)):=at_cast hf61 (bd_eq (by rw [←updTo_set (by omega) (by omega),mvBB,hc51,set_set];rfl));exact zl (g19+1) ⟨by omega,yt,hf66,trivial⟩
  refine w_skip<|n_block<|n_then<|w_region<|yS 2<|yW 31 (zi (g19+1) (by omega) (by omega))<|ze ?_;have hf67:At w44 b (.cells (bdCells (updTo B M (g19+1))) 135 (0,0)):=at_cast hf47 (bd_eq (by rw [←updTo_set (by omega) (by omega),mvBB,hc51];rfl));exact zl (g19+1) ⟨by omega,yt,hf67,trivial⟩
 have y29:=of_decide_eq_false hc29;obtain rfl:g19=(12:Int):=by omega
 refine w_exit<|x_then<|x_then<|x_hit<|n_then<|w_cut (γ:=Unit) (λ_=>[(0,pz b),(1,pz m),(4,.int .i8 (pieceAt B M.s1))]) (λ_ w_=>Mod [b] w20 w_/\At w_ b (.cells (bdCells (updPromo M (pieceAt B M.s1) (updTo B M 12))) 135 (0,0))) ?_ ?_
 ·refine zw<|yL 5 m 10<|zz<|yC (M.promo !=0) (λhc72=>?_) λhc72=>?_
  ·refine w_seq ?_;have hpa:=hpro (bne_iff_ne.1 hc72);have hpb:=hnew (bne_iff_ne.1 hc72);refine w_qt<|yQo 5 [.cell ⟨m,10,none⟩ (.int .i8 M.promo)] (λ_ hC=>At.cell (At.on hf26 hC) rfl)<|zqk (some 74) (λw_ hC=>c102 (pieceAt B M.s1) w_)<|zqk (some 75) (λw_ hC=>c101 (Glob.on z27 hC) M.promo (pColor (pieceAt B M.s1)) (by omega) (by assumption))<|yQ 1<|q_ot ?_;intro w73 v74;have hf76:=At.on hf25 v74;refine zn<|yS 2<|zk (some 78) (c97 hf76 (pieceAt B M.s1)) fun w81 v82=>yS 1<|zx<|yS 6<|reg_call 100 [pz b,.int .i8 (pieceAt B M.s1),.int .u64 (band (Bd.of (updTo B M 12) (pieceAt B M.s1)) (bnot (bbSq M.s2)))] (some 85) (by kernel_rfl) (c100 ya (pieceAt B M.s1) (band (Bd.of (updTo B M 12) (pieceAt B M.s1)) (bnot (bbSq M.s2))) (by omega)) ?_;rintro _ w89 ⟨rfl,v90,hf91⟩;refine ⟨_,rfl,?_⟩;refine zx<|yS 2<|zk (some 88) (c97 hf91 (newP M.promo (pColor (pieceAt B M.s1)))) fun w97 v98=>yS 1<|zz<|w_region<|yS 5<|reg_call 100 [pz b,.int .i8 (newP M.promo (pColor (pieceAt B M.s1))),.int .u64 (bor (Bd.of (Bd.set (updTo B M 12) (pieceAt B M.s1).toNat (band (Bd.of (updTo B M 12) (pieceAt B M.s1)) (bnot (bbSq M.s2)))) (newP M.promo (pColor (pieceAt B M.s1)))) (bbSq M.s2))] (some 94) (by kernel_rfl) (c100 ya (newP M.promo (pColor (pieceAt B M.s1))) (bor (Bd.of (Bd.set (updTo B M 12) (pieceAt B M.s1).toNat (band (Bd.of (updTo B M 12) (pieceAt B M.s1)) (bnot (bbSq M.s2)))) (newP M.promo (pColor (pieceAt B M.s1)))) (bbSq M.s2)) (by omega)) ?_;rintro _ w105 ⟨rfl,v106,hf107⟩;refine ⟨_,rfl,?_⟩;exact ze<|zb () ⟨yt,at_cast hf107 (bd_eq (by simp only [updPromo,hc72,cond_true,cond_false];try rfl))⟩
  exact w_skip<|zb () ⟨yt,at_cast hf25 (bd_eq (by simp only [updPromo,hc72,cond_true,cond_false];try rfl))⟩
 rintro _ w68 ⟨v69,hf70⟩;have hf113:=At.keep hf26 v69 (not_mem1 (At.ne hf26 hf25 rfl));have v115:=Mod.fresh' v28 v69 (by simp<;>omega);refine w_cut (γ:=Unit) (λ_=>[(0,pz b),(1,pz m),(4,.int .i8 (pieceAt B M.s1))]) (λ_ w_=>Mod [b] w68 w_/\At w_ b (.cells (bdCells (updEP M (pieceAt B M.s1) (updPromo M (pieceAt B M.s1) (updTo B M 12)))) 135 (0,0))) ?_ ?_
 ·have v120:Mod [b] w68 w68:=Mod.refl _ _;refine zw<|yS 1<|zk (some 96) (c74 hf113 8) ?_;intro w121 v122;have v128:=Mod.trans v120 (Mod.of_nil v122);refine zz<|zc (λhc129=>?_) λhc129=>?_
  ·refine zw<|yS 1<|zk (some 98) (c102 (pieceAt B M.s1) w121) ?_;intro w130 v131;have v137:=Mod.trans v128 (Mod.of_nil v131);refine yS 1<|zz<|yC ((pColor (pieceAt B M.s1))==1) (λhc138=>?_) λhc138=>?_
   ·have y138:=eq_of_beq hc138;refine w_tail 15 (by kernel_rfl) (by kernel_rfl)<|yQo 5 [.cell ⟨m,9,none⟩ (.int .i8 M.s2)] (λ_ hC=>At.cell (At.on ya hC) rfl)<|zqk (some 105) (λw_ hC=>c99 M.s2 w_ (by omega) (by omega))<|yQo 9 [.prop (0<=(8:Int)),.cell ⟨b,11,none⟩ (.int .u64 ((updPromo M (pieceAt B M.s1) (updTo B M 12)).bb 12))] (λ_ hC=>⟨(zh (by omega)),At.cell (At.on ya hC) rfl⟩)<|q_end (by kernel_rfl) (λa ha w139 v140=>(?_:Reg _ _ _ _ _ 15 _ w139) a ha);have v146:=Mod.trans v137 (Mod.of_nil v140);refine zS b 11 (.int .u64 (band (bnot (shl8 (bbSq M.s2))) ((updPromo M (pieceAt B M.s1) (updTo B M 12)).bb 12))) ?_;intro w147 hu148;have hf149:At w147 b (.cells (bdCells ((updPromo M (pieceAt B M.s1) (updTo B M 12)).set 12 (band (bnot (shl8 (bbSq M.s2))) ((updPromo M (pieceAt B M.s1) (updTo B M 12)).bb 12)))) 135 (0,0)):=hu148.at_;have v154:=Mod.fresh' v146 hu148.mod (by simp<;>omega);exact ze<|zb () ⟨v154,at_cast hf149 (bd_eq (by simp only [updEP,hc129,hc138,cond_true,cond_false];try rfl))⟩
   have y138:=ne_of_beq_false hc138;refine w_tail 15 (by kernel_rfl) (by kernel_rfl)<|yQo 5 [.cell ⟨m,9,none⟩ (.int .i8 M.s2)] (λ_ hC=>At.cell (At.on ya hC) rfl)<|zqk (some 120) (λw_ hC=>c99 M.s2 w_ (by omega) (by omega))<|yQo 9 [.prop (0<=(8:Int)),.cell ⟨b,5,none⟩ (.int .u64 ((updPromo M (pieceAt B M.s1) (updTo B M 12)).bb 6))] (λ_ hC=>⟨(zh (by omega)),At.cell (At.on ya hC) rfl⟩)<|q_end (by kernel_rfl) (λa ha w155 v156=>(?_:Reg _ _ _ _ _ 15 _ w155) a ha);have v162:=Mod.trans v137 (Mod.of_nil v156);refine zS b 5 (.int .u64 (band (bnot (shr8 (bbSq M.s2))) ((updPromo M (pieceAt B M.s1) (updTo B M 12)).bb 6))) ?_;intro w163 hu164;have hf165:At w163 b (.cells (bdCells ((updPromo M (pieceAt B M.s1) (updTo B M 12)).set 6 (band (bnot (shr8 (bbSq M.s2))) ((updPromo M (pieceAt B M.s1) (updTo B M 12)).bb 6)))) 135 (0,0)):=hu164.at_;have v170:=Mod.fresh' v162 hu164.mod (by simp<;>omega);exact ze<|zb () ⟨v170,at_cast hf165 (bd_eq (by simp only [updEP,hc129,hc138,cond_true,cond_false];try rfl))⟩
  exact w_skip<|zb () ⟨v128,at_cast ya (bd_eq (by simp only [updEP,hc129,cond_true,cond_false];try rfl))⟩
 rintro _ w117 ⟨v118,hf119⟩;have hf171:=At.keep hf113 v118 (not_mem1 (At.ne hf113 hf70 rfl));have v173:=Mod.fresh' v115 v118 (by simp<;>omega);refine w_cut (γ:=Unit) (λ_=>[(0,pz b),(1,pz m)]) (λ_ w_=>Mod [b] w117 w_/\At w_ b (.cells (bdCells (updCastle M (pieceAt B M.s1) (updEP M (pieceAt B M.s1) (updPromo M (pieceAt B M.s1) (updTo B M 12))))) 135 (0,0))) ?_ ?_
 ·have v178:Mod [b] w117 w117:=Mod.refl _ _;refine w_block<|w_cut (γ:=Unit) (λ_=>[(0,pz b),(1,pz m),(4,.int .i8 (pieceAt B M.s1)),(130,.bool (((pColor (pieceAt B M.s1))==1)&&(hasTag M 1)))]) (λ_ w_=>Mod [] w117 w_) ?_ ?_
  ·refine w_region<|yS 1<|zk (some 132) (c102 (pieceAt B M.s1) w117) fun w182 v183=>yS 2<|yE 134 (.bool ((pColor (pieceAt B M.s1))==(1:Int))) ?_;cases hc190:((pColor (pieceAt B M.s1))==(1:Int))
   ·exact yS 4<|ze<|zb () yt
   exact yS 1<|zk (some 136) (c74 (yA w182 m) 1) fun w191 v192=>yS 2<|ze<|zb () yt
  intro _ w179 v180;have hf199:=At.on hf171 v180;have hf200:=At.on hf119 v180;have v204:=Mod.trans v178 (Mod.of_nil v180);refine yC (((pColor (pieceAt B M.s1))==1)&&(hasTag M 1)) (λhc205=>?_) λhc205=>?_
  ·refine w_tail 12 (by kernel_rfl) (by kernel_rfl)<|yQo 5 [.cell ⟨b,2,none⟩ (.int .u64 ((updEP M (pieceAt B M.s1) (updPromo M (pieceAt B M.s1) (updTo B M 12))).bb 3))] (λ_ hC=>At.cell (At.on hf200 hC) rfl)<|zqk (some 143) (λw_ hC=>c99 7 w_ (by omega) (by omega))<|yQ 2<|zqk (some 146) (λw_ hC=>c99 5 w_ (by omega) (by omega))<|yQ 3<|q_end (by kernel_rfl) (λa ha w206 v207=>(?_:Reg _ _ _ _ _ 12 _ w206) a ha);have v213:=Mod.trans v204 (Mod.of_nil v207);refine zS b 2 (.int .u64 (bor (band ((updEP M (pieceAt B M.s1) (updPromo M (pieceAt B M.s1) (updTo B M 12))).bb 3) (bnot (bbSq 7))) (bbSq 5))) ?_;intro w214 hu215;have hf216:At w214 b (.cells (bdCells ((updEP M (pieceAt B M.s1) (updPromo M (pieceAt B M.s1) (updTo B M 12))).set 3 (bor (band ((updEP M (pieceAt B M.s1) (updPromo M (pieceAt B M.s1) (updTo B M 12))).bb 3) (bnot (bbSq 7))) (bbSq 5)))) 135 (0,0)):=hu215.at_;have v221:=Mod.fresh' v213 hu215.mod (by simp<;>omega);exact ze<|n_block<|zb () ⟨v221,at_cast hf216 (bd_eq (by simp only [updCastle,rook,hc205,cond_true,cond_false];try rfl))⟩
  refine w_cut (γ:=Unit) (λ_=>[(0,pz b),(1,pz m),(4,.int .i8 (pieceAt B M.s1)),(150,.bool (((pColor (pieceAt B M.s1))==1)&&(hasTag M 2)))]) (λ_ w_=>Mod [] w179 w_) ?_ ?_
  ·have v224:Mod [] w179 w179:=Mod.refl _ _;refine w_region<|yS 1<|zk (some 152) (c102 (pieceAt B M.s1) w179) ?_;intro w225 v226;have v230:=zt v224 v226;refine yS 2<|yE 154 (.bool ((pColor (pieceAt B M.s1))==(1:Int))) ?_;cases hc233:((pColor (pieceAt B M.s1))==(1:Int))
   ·exact yS 4<|ze<|zb () v230
   refine yS 1<|zk (some 156) (c74 (yA w225 m) 2) ?_;intro w234 v235;have v239:=zt v230 v235;exact yS 2<|ze<|zb () v239
  intro _ w222 v223;have hf242:=At.on hf199 v223;have hf243:=At.on hf200 v223;have v247:=Mod.trans v204 (Mod.of_nil v223);refine yC (((pColor (pieceAt B M.s1))==1)&&(hasTag M 2)) (λhc248=>?_) λhc248=>?_
  ·refine w_tail 12 (by kernel_rfl) (by kernel_rfl)<|yQo 5 [.cell ⟨b,2,none⟩ (.int .u64 ((updEP M (pieceAt B M.s1) (updPromo M (pieceAt B M.s1) (updTo B M 12))).bb 3))] (λ_ hC=>At.cell (At.on hf243 hC) rfl)<|zqk (some 163) (λw_ hC=>c99 0 w_ (by omega) (by omega))<|yQ 2<|zqk (some 166) (λw_ hC=>c99 3 w_ (by omega) (by omega))<|yQ 3<|q_end (by kernel_rfl) (λa ha w249 v250=>(?_:Reg _ _ _ _ _ 12 _ w249) a ha);have hf252:=At.on hf243 v250;have v256:=Mod.trans v247 (Mod.of_nil v250);refine zS b 2 (.int .u64 (bor (band ((updEP M (pieceAt B M.s1) (updPromo M (pieceAt B M.s1) (updTo B M 12))).bb 3) (bnot (bbSq 0))) (bbSq 3))) ?_;intro w257 hu258;have hf259:At w257 b (.cells (bdCells ((updEP M (pieceAt B M.s1) (updPromo M (pieceAt B M.s1) (updTo B M 12))).set 3 (bor (band ((updEP M (pieceAt B M.s1) (updPromo M (pieceAt B M.s1) (updTo B M 12))).bb 3) (bnot (bbSq 0))) (bbSq 3)))) 135 (0,0)):=hu258.at_;have v264:=Mod.fresh' v256 hu258.mod (by simp<;>omega);exact ze<|n_block<|zb () ⟨v264,at_cast hf259 (bd_eq (by simp only [updCastle,rook,hc205,hc248,cond_true,cond_false];try rfl))⟩
  refine w_cut (γ:=Unit) (λ_=>[(0,pz b),(1,pz m),(4,.int .i8 (pieceAt B M.s1)),(170,.bool (((pColor (pieceAt B M.s1))==2)&&(hasTag M 1)))]) (λ_ w_=>Mod [] w222 w_) ?_ ?_
  ·have v267:Mod [] w222 w222:=Mod.refl _ _;refine w_region<|yS 1<|zk (some 172) (c102 (pieceAt B M.s1) w222) ?_;intro w268 v269;have hf270:=At.on hf242 v269;have v273:=zt v267 v269;refine yS 2<|yE 174 (.bool ((pColor (pieceAt B M.s1))==(2:Int))) ?_;cases hc276:((pColor (pieceAt B M.s1))==(2:Int))
   ·exact yS 4<|ze<|zb () v273
   refine yS 1<|zk (some 176) (c74 hf270 1) ?_;intro w277 v278;have v282:=zt v273 v278;exact yS 2<|ze<|zb () v282
  intro _ w265 v266;have hf285:=At.on hf242 v266;have hf286:=At.on hf243 v266;have v290:=Mod.trans v247 (Mod.of_nil v266);refine yC (((pColor (pieceAt B M.s1))==2)&&(hasTag M 1)) (λhc291=>?_) λhc291=>?_
  ·refine w_tail 12 (by kernel_rfl) (by kernel_rfl)<|yQo 5 [.cell ⟨b,8,none⟩ (.int .u64 ((updEP M (pieceAt B M.s1) (updPromo M (pieceAt B M.s1) (updTo B M 12))).bb 9))] (λ_ hC=>At.cell (At.on hf286 hC) rfl)<|zqk (some 183) (λw_ hC=>c99 63 w_ (by omega) (by omega))<|yQ 2<|zqk (some 186) (λw_ hC=>c99 61 w_ (by omega) (by omega))<|yQ 3<|q_end (by kernel_rfl) (λa ha w292 v293=>(?_:Reg _ _ _ _ _ 12 _ w292) a ha);have hf295:=At.on hf286 v293;have v299:=Mod.trans v290 (Mod.of_nil v293);refine zS b 8 (.int .u64 (bor (band ((updEP M (pieceAt B M.s1) (updPromo M (pieceAt B M.s1) (updTo B M 12))).bb 9) (bnot (bbSq 63))) (bbSq 61))) ?_;intro w300 hu301;have hf302:At w300 b (.cells (bdCells ((updEP M (pieceAt B M.s1) (updPromo M (pieceAt B M.s1) (updTo B M 12))).set 9 (bor (band ((updEP M (pieceAt B M.s1) (updPromo M (pieceAt B M.s1) (updTo B M 12))).bb 9) (bnot (bbSq 63))) (bbSq 61)))) 135 (0,0)):=hu301.at_;have v307:=Mod.fresh' v299 hu301.mod (by simp<;>omega);exact ze<|n_block<|zb () ⟨v307,at_cast hf302 (bd_eq (by simp only [updCastle,rook,hc205,hc248,hc291,cond_true,cond_false];try rfl))⟩
  refine w_cut (γ:=Unit) (λ_=>[(0,pz b),(1,pz m),(190,.bool (((pColor (pieceAt B M.s1))==2)&&(hasTag M 2)))]) (λ_ w_=>Mod [] w265 w_) ?_ ?_
  ·have v310:Mod [] w265 w265:=Mod.refl _ _;refine w_region<|yS 1<|zk (some 192) (c102 (pieceAt B M.s1) w265) ?_;intro w311 v312;have hf313:=At.on hf285 v312;have v316:=zt v310 v312;refine yS 2<|yE 194 (.bool ((pColor (pieceAt B M.s1))==(2:Int))) ?_;cases hc319:((pColor (pieceAt B M.s1))==(2:Int))
   ·exact yS 4<|ze<|zb () v316
   refine yS 1<|zk (some 196) (c74 hf313 2) ?_;intro w320 v321;have v325:=zt v316 v321;exact yS 2<|ze<|zb () v325
  intro _ w308 v309;have hf329:=At.on hf286 v309;have v333:=Mod.trans v290 (Mod.of_nil v309);refine yC (((pColor (pieceAt B M.s1))==2)&&(hasTag M 2)) (λhc334=>?_) λhc334=>?_
  ·refine w_tail 12 (by kernel_rfl) (by kernel_rfl)<|yQo 5 [.cell ⟨b,8,none⟩ (.int .u64 ((updEP M (pieceAt B M.s1) (updPromo M (pieceAt B M.s1) (updTo B M 12))).bb 9))] (λ_ hC=>At.cell (At.on hf329 hC) rfl)<|zqk (some 203) (λw_ hC=>c99 56 w_ (by omega) (by omega))<|yQ 2<|zqk (some 206) (λw_ hC=>c99 59 w_ (by omega) (by omega))<|yQ 3<|q_end (by kernel_rfl) (λa ha w335 v336=>(?_:Reg _ _ _ _ _ 12 _ w335) a ha);have hf338:=At.on hf329 v336;have v342:=Mod.trans v333 (Mod.of_nil v336);refine zS b 8 (.int .u64 (bor (band ((updEP M (pieceAt B M.s1) (updPromo M (pieceAt B M.s1) (updTo B M 12))).bb 9) (bnot (bbSq 56))) (bbSq 59))) ?_;intro w343 hu344;have hf345:At w343 b (.cells (bdCells ((updEP M (pieceAt B M.s1) (updPromo M (pieceAt B M.s1) (updTo B M 12))).set 9 (bor (band ((updEP M (pieceAt B M.s1) (updPromo M (pieceAt B M.s1) (updTo B M 12))).bb 9) (bnot (bbSq 56))) (bbSq 59)))) 135 (0,0)):=hu344.at_;have v350:=Mod.fresh' v342 hu344.mod (by simp<;>omega);exact ze<|n_block<|zb () ⟨v350,at_cast hf345 (bd_eq (by simp only [updCastle,rook,hc205,hc248,hc291,hc334,cond_true,cond_false];try rfl))⟩
  exact w_skip<|n_block<|zb () ⟨v333,at_cast hf329 (bd_eq (by simp only [updCastle,rook,hc205,hc248,hc291,hc334,cond_true,cond_false];try rfl))⟩
 rintro _ w175 ⟨v176,hf177⟩;have hf351:=At.keep hf171 v176 (not_mem1 (At.ne hf171 hf119 rfl));have v353:=Mod.fresh' v173 v176 (by simp<;>omega);refine w_region<|yS 2<|zC (some 212) (c103m hf177 hf351) ?_;rintro _ w355 ⟨rfl,v356,hf357⟩;refine ⟨_,rfl,?_⟩;have v360:=Mod.fresh' v353 v356 (by simp<;>omega);exact ze<|end0 results75 (⟨rfl,v360,hf357⟩)
def shlU(x k:Int):Int:=IntKind.u64.wrap (x*2^(min k.toNat IntKind.u64.bits))
def shrU(x k:Int):Int:=x.fdiv (2^(min k.toNat IntKind.u64.bits))
theorem rank_ok{sq:Int}(h:0<=sq/\sq<=63):0<=sqRank sq/\sqRank sq<=7:=by
 unfold sqRank;have e:sq.tdiv 8=sq/8:=Int.tdiv_eq_ediv_of_nonneg h.1;rw [e,i8_in' (by omega) (by omega)];omega
theorem file_ok{sq:Int}(h:0<=sq/\sq<=63):0<=sqFile sq/\sqFile sq<=7:=by
 unfold sqFile;have e:sq.tmod 8=sq%8:=Int.tmod_eq_emod_of_nonneg h.1;rw [e];omega
theorem otherC_or{c:Int}(h:c=1\/c=2):otherC c=1\/otherC c=2:=by unfold otherC;rcases h with rfl|rfl<;>simp
def att1(B:Bd)(turn sq:Int):Bool:=
 bif bor (band (bor (diaA (bnot B.empty) sq) (hvA (bnot B.empty) sq)) (bif turn==2 then B.white else B.black)) (band (knightAt sq) (bif turn==2 then B.white else B.black))==0 then false else
 bif band (bor (diaA (bnot B.empty) sq) (hvA (bnot B.empty) sq)) (Bd.of B (newP 2 (otherC turn))) !=0 then true else
 bif band (hvA (bnot B.empty) sq) (Bd.of B (newP 3 (otherC turn))) !=0 then true else
 bif band (diaA (bnot B.empty) sq) (Bd.of B (newP 4 (otherC turn))) !=0 then true else
 bif band (knightAt sq) (Bd.of B (newP 5 (otherC turn))) !=0 then true else
 bif turn==1 then
  (bif band (bor (shlU (band (band (B.bb 12) 18374403900871474942) 72057594037927935) 7) (shlU (band (band (B.bb 12) 9187201950435737471) 72057594037927935) 9)) (bbSq sq) !=0 then true
   else band (kingAt sq) (Bd.of B (newP 1 (otherC turn))) !=0)
 else
  (bif band (bor (shrU (band (band (B.bb 6) 18374403900871474942) 18446744073709551360) 9) (shrU (band (band (B.bb 6) 9187201950435737471) 18446744073709551360) 7)) (bbSq sq) !=0 then true
   else band (kingAt sq) (Bd.of B (newP 1 (otherC turn))) !=0)
def attAny(B:Bd)(turn:Int)(n:Nat)(f:Nat->Int):Bool:=(List.range n).any λi=>att1 B turn (f i)
theorem attAny_one{B:Bd}{turn k:Int}:attAny B turn 1 (λ_=>k)=att1 B turn k:=by simp [attAny,List.range_succ]
theorem attAny_hit{B:Bd}{turn j:Int}{n:Nat}{f:Nat->Int}(h0:0<=j)(h1:j<(n:Int))(hy:att1 B turn (f j.toNat)=true):true=attAny B turn n f:=by
 unfold attAny;symm;rw [List.any_eq_true];exact ⟨j.toNat,by simp;omega,hy⟩
theorem attAny_miss{B:Bd}{turn j:Int}{n:Nat}{f:Nat->Int}(h1:¬j<(n:Int))(hn:∀i:Int,0<=i->i<j->att1 B turn (f i.toNat)=false):false=attAny B turn n f:=by
 unfold attAny;symm;rw [List.any_eq_false];intro i hi;have:=hn (i:Int) (by omega) (by simp at hi;omega);simpa using this
theorem c110{c:GC}{p b:Nat}{vm:Value}{S:Ps}{w:World}(hp:At w p (.cells (psCells b vm S) 110 (0,0))){B:Bd}(hb:At w b (.cells (bdCells B) 135 (0,0))){q n cap:Nat}{cs:Array Value}(hq:At w q (.cells cs 87 (0,0)))(hG:Glob c w)(f:Nat->Int)(hcs:∀i,i<n->cs[i]?=some (.int .i8 (f i)))(hf:∀i,i<n->0<=f i/\f i<=63)(hT:S.turn=1\/S.turn=2)(hn:n<=2):
  CR 110 [pz p,.slice (some ⟨q,0,none⟩) n cap] w (.bool (attAny B S.turn n f)):=by
 have hoc:=otherC_or hT;refine en func110 ntmps110 ?_;refine zw<|yS 1<|zx<|yS 1<|zk (some 21) (c66 hp) fun w1 v2=>zk (some 22) (c70 S.turn w1) fun w8 v9=>yS 1<|zx<|yO 9 [.cell ⟨p,0,none⟩ (pz b),.cell ⟨b,14,none⟩ (.int .u64 B.empty)] (⟨yc rfl,yc rfl⟩)<|zz<|w_seq<|zw<|yS 3<|zz<|w_block<|yP (γ:=Int) (λg15=>((n:Int)-g15).toNat) (λ(g15:Int)=>[(0,pz p),(5,.int .i8 (otherC S.turn)),(6,.int .u64 (bnot B.empty)),(31,.slice (some ⟨q,0,none⟩) n cap),(32,.int .i64 ((n:Nat):Int)),(33,.int .i64 g15)]) (λ(g15:Int) w_=>(0<=g15/\g15<=(n:Int))/\Mod [] w8 w_/\(∀i:Int,0<=i->i<g15->att1 B S.turn (f i.toNat)=false)) 0 ⟨by omega,Mod.refl _ _,(λi h0 h1=>absurd h1 (by omega))⟩ ?_;rintro g15 w16 ⟨⟨h18,h19⟩,v17,hx20⟩;refine zw<|yS 1<|zz<|w_seq<|yC (decide (g15<((n:Nat):Int))) (λhc26=>?_) λhc26=>?_
 ·have dhc26:=of_decide_eq_true hc26;refine w_skip<|n_then<|w_seq<|w_block<|zw<|yO 3 [.prop (0<=g15/\g15<((n:Nat):Int)),.cell ⟨q,(0+g15.toNat*1),none⟩ (.int .i8 (f (0+g15.toNat*1)))] (⟨(zh (by omega)),yc (hcs (0+g15.toNat*1) (by omega))⟩)<|ze ?_;rw [(show ((f (0+g15.toNat*1)):Int)=(f g15.toNat) from (by rw [show 0+g15.toNat*1=g15.toNat from by omega]))];have hsq:=hf g15.toNat (by omega);refine zn<|yO 8 [.cell ⟨p,0,none⟩ (pz b),.cell ⟨b,13,none⟩ (.int .u64 B.black)] (⟨yc rfl,yc rfl⟩)<|zz<|w_cut (γ:=Int) (λg27=>[(0,pz p),(5,.int .i8 (otherC S.turn)),(6,.int .u64 (bnot B.empty)),(8,.int .i8 (f g15.toNat)),(9,.int .u64 g27),(31,.slice (some ⟨q,0,none⟩) n cap),(32,.int .i64 ((n:Nat):Int)),(33,.int .i64 g15)]) (λg27 w_=>Mod [] w16 w_/\g27=(bif S.turn==2 then B.white else B.black)) ?_ ?_
  ·refine zw<|yS 1<|zk (some 45) (c66 (yA w16 p)) fun w31 v32=>yS 1<|zz<|yC (S.turn==2) (λhc40=>?_) λhc40=>?_
   ·have dhc40:=eq_of_beq hc40;exact w_region<|yO 8 [.cell ⟨p,0,none⟩ (pz b),.cell ⟨b,12,none⟩ (.int .u64 B.white)] (⟨yc rfl,yc rfl⟩)<|ze<|zb B.white ⟨yt,(by simp only [hc40,cond_true,cond_false])⟩
   have dhc40:=ne_of_beq_false hc40;exact w_skip<|zb B.black ⟨yt,(by simp only [hc40,cond_true,cond_false])⟩
  rintro _ w28 ⟨v29,rfl⟩;refine w_seq<|w_seq<|w_qt<|yQ 2<|zqk (some 56) (λw_ hC=>c120 (bnot B.empty) (f g15.toNat) w_ (Glob.on yg hC) (by omega) (by omega))<|yQ 2<|zqk (some 59) (λw_ hC=>c121 (bnot B.empty) (f g15.toNat) w_ (Glob.on yg hC) (by omega) (by omega) (rank_ok (by omega)) (file_ok (by omega)))<|yQo 10 [.prop (0<=(f g15.toNat)/\(f g15.toNat)<((64:Nat):Int)),.cell ⟨1,(0+(f g15.toNat).toNat*1),none⟩ (.int .u64 (knightAt (f g15.toNat)))] (λ_ hC=>⟨(zh (by omega)),((Glob.on yg hC).knight (0+(f g15.toNat).toNat*1) (by omega))⟩)<|q_ot fun w47 v48=>n_then<|yC ((bor (band (bor (diaA (bnot B.empty) (f g15.toNat)) (hvA (bnot B.empty) (f g15.toNat))) (bif S.turn==2 then B.white else B.black)) (band (knightAt (f g15.toNat)) (bif S.turn==2 then B.white else B.black)))==0) (λhc55=>?_) λhc55=>?_
  ·have dhc55:=eq_of_beq hc55;exact w_exit<|x_then<|x_hit<|n_then<|w_region<|yS 2<|yW 33 (zi (g15+1) (by omega) (by omega))<|ze<|zl (g15+1) ⟨by omega,yt,(forall_step hx20 (by simp only [att1,hc55,cond_true,cond_false]))⟩
  have dhc55:=ne_of_beq_false hc55;refine w_skip<|n_then<|w_seq<|w_qt<|yQo 5 [.cell ⟨p,0,none⟩ (pz b)] (λ_ hC=>At.cell (At.on ya hC) rfl)<|zqk (some 75) (λw_ hC=>c101 (Glob.on yg hC) 2 (otherC S.turn) (by omega) (by assumption))<|zqk (some 76) (λw_ hC=>c97 (At.on (yA w47 b) hC) (newP 2 (otherC S.turn)))<|yQ 1<|q_ot fun w56 v57=>zn<|yS 2<|zk (some 79) (c120 (bnot B.empty) (f g15.toNat) w56 yg (by omega) (by omega)) fun w64 v65=>yS 2<|zk (some 82) (c121 (bnot B.empty) (f g15.toNat) w64 yg (by omega) (by omega) (rank_ok (by omega)) (file_ok (by omega))) fun w72 v73=>yS 4<|zz<|w_seq<|zw<|yS 2<|zz<|yC ((band (bor (diaA (bnot B.empty) (f g15.toNat)) (hvA (bnot B.empty) (f g15.toNat))) (Bd.of B (newP 2 (otherC S.turn)))) !=0) (λhc80=>?_) λhc80=>?_
  ·exact zw<|yS 1<|zz<|w_ret<|r_then<|r_block<|r_then<|r_then<|r_block<|r_then<|y1 (v:=.bool true) (⟨ret_bool (attAny_hit (by omega) (by assumption) (by simp only [att1,hc55,hc80,cond_true,cond_false])),yt⟩)
  refine w_skip<|n_then<|w_seq<|w_qt<|yQo 5 [.cell ⟨p,0,none⟩ (pz b)] (λ_ hC=>At.cell (At.on ya hC) rfl)<|zqk (some 93) (λw_ hC=>c101 (Glob.on yg hC) 3 (otherC S.turn) (by omega) (by assumption))<|zqk (some 94) (λw_ hC=>c97 (At.on (yA w72 b) hC) (newP 3 (otherC S.turn)))<|yQ 1<|q_ot fun w81 v82=>zn<|yS 2<|zk (some 97) (c121 (bnot B.empty) (f g15.toNat) w81 yg (by omega) (by omega) (rank_ok (by omega)) (file_ok (by omega))) fun w89 v90=>yS 3<|zz<|w_seq<|zw<|yS 2<|zz<|yC ((band (hvA (bnot B.empty) (f g15.toNat)) (Bd.of B (newP 3 (otherC S.turn)))) !=0) (λhc97=>?_) λhc97=>?_
  ·exact zw<|yS 1<|zz<|w_ret<|r_then<|r_block<|r_then<|r_then<|r_block<|r_then<|y1 (v:=.bool true) (⟨ret_bool (attAny_hit (by omega) (by assumption) (by simp only [att1,hc55,hc80,hc97,cond_true,cond_false])),yt⟩)
  refine w_skip<|n_then<|w_seq<|w_qt<|yQo 5 [.cell ⟨p,0,none⟩ (pz b)] (λ_ hC=>At.cell (At.on ya hC) rfl)<|zqk (some 107) (λw_ hC=>c101 (Glob.on yg hC) 4 (otherC S.turn) (by omega) (by assumption))<|zqk (some 108) (λw_ hC=>c97 (At.on (yA w89 b) hC) (newP 4 (otherC S.turn)))<|yQ 1<|q_ot fun w98 v99=>zn<|yS 2<|zk (some 111) (c120 (bnot B.empty) (f g15.toNat) w98 yg (by omega) (by omega)) fun w106 v107=>yS 3<|zz<|w_seq<|zw<|yS 2<|zz<|yC ((band (diaA (bnot B.empty) (f g15.toNat)) (Bd.of B (newP 4 (otherC S.turn)))) !=0) (λhc114=>?_) λhc114=>?_
  ·exact zw<|yS 1<|zz<|w_ret<|r_then<|r_block<|r_then<|r_then<|r_block<|r_then<|y1 (v:=.bool true) (⟨ret_bool (attAny_hit (by omega) (by assumption) (by simp only [att1,hc55,hc80,hc97,hc114,cond_true,cond_false])),yt⟩)
  refine w_skip<|n_then<|w_seq<|w_qt<|yQo 5 [.cell ⟨p,0,none⟩ (pz b)] (λ_ hC=>At.cell (At.on ya hC) rfl)<|zqk (some 121) (λw_ hC=>c101 (Glob.on yg hC) 5 (otherC S.turn) (by omega) (by assumption))<|zqk (some 122) (λw_ hC=>c97 (At.on (yA w106 b) hC) (newP 5 (otherC S.turn)))<|yQ 1<|q_ot fun w115 v116=>zn<|yO 6 [.prop (0<=(f g15.toNat)/\(f g15.toNat)<((64:Nat):Int)),.cell ⟨1,(0+(f g15.toNat).toNat*1),none⟩ (.int .u64 (knightAt (f g15.toNat)))] (⟨(zh (by omega)),(Glob.knight (0+(f g15.toNat).toNat*1) (by omega))⟩)<|zz<|w_seq<|zw<|yS 2<|zz<|yC ((band (knightAt (f g15.toNat)) (Bd.of B (newP 5 (otherC S.turn)))) !=0) (λhc123=>?_) λhc123=>?_
  ·exact zw<|yS 1<|zz<|w_ret<|r_then<|r_block<|r_then<|r_then<|r_block<|r_then<|y1 (v:=.bool true) (⟨ret_bool (attAny_hit (by omega) (by assumption) (by simp only [att1,hc55,hc80,hc97,hc114,hc123,cond_true,cond_false])),yt⟩)
  refine w_skip<|n_then<|w_seq<|zw<|yS 1<|zk (some 131) (c66 (yA w115 p)) fun w124 v125=>yS 1<|zz<|yC (S.turn==1) (λhc132=>?_) λhc132=>?_
  ·have dhc132:=eq_of_beq hc132;refine zw<|yO 11 [.cell ⟨p,0,none⟩ (pz b),.cell ⟨b,11,none⟩ (.int .u64 (B.bb 12)),.prop (0<=(7:Int))] (⟨yc rfl,yc rfl,(zh (by omega))⟩)<|zx<|yO 11 [.cell ⟨p,0,none⟩ (pz b),.cell ⟨b,11,none⟩ (.int .u64 (B.bb 12)),.prop (0<=(9:Int))] (⟨yc rfl,yc rfl,(zh (by omega))⟩)<|zx<|yS 4<|zk (some 157) (c99 (f g15.toNat) w124 (by omega) (by omega)) fun w133 v134=>yS 2<|zx<|yS 2<|zz<|yC ((band (bor (shlU (band (band (B.bb 12) 18374403900871474942) 72057594037927935) 7) (shlU (band (band (B.bb 12) 9187201950435737471) 72057594037927935) 9)) (bbSq (f g15.toNat))) !=0) (λhc141=>?_) λhc141=>?_
   ·exact zw<|yS 1<|zz<|w_ret<|r_then<|r_block<|r_then<|r_then<|r_block<|r_then<|y1 (v:=.bool true) (⟨ret_bool (attAny_hit (by omega) (by assumption) (by simp only [att1,hc55,hc80,hc97,hc114,hc123,hc132,hc141,cond_true,cond_false])),yt⟩)
   refine w_skip<|n_then<|w_seq<|w_qt<|yQo 5 [.cell ⟨p,0,none⟩ (pz b)] (λ_ hC=>At.cell (At.on ya hC) rfl)<|zqk (some 194) (λw_ hC=>c101 (Glob.on yg hC) 1 (otherC S.turn) (by omega) (by assumption))<|zqk (some 195) (λw_ hC=>c97 (At.on (yA w133 b) hC) (newP 1 (otherC S.turn)))<|yQ 1<|q_ot fun w142 v143=>zn<|yO 6 [.prop (0<=(f g15.toNat)/\(f g15.toNat)<((64:Nat):Int)),.cell ⟨2,(0+(f g15.toNat).toNat*1),none⟩ (.int .u64 (kingAt (f g15.toNat)))] (⟨(zh (by omega)),(Glob.king (0+(f g15.toNat).toNat*1) (by omega))⟩)<|zx<|yS 2<|zz<|yC ((band (kingAt (f g15.toNat)) (Bd.of B (newP 1 (otherC S.turn)))) !=0) (λhc150=>?_) λhc150=>?_
   ·exact zw<|yS 1<|zz<|w_ret<|r_block<|r_then<|r_then<|r_block<|r_then<|y1 (v:=.bool true) (⟨ret_bool (attAny_hit (by omega) (by assumption) (by simp only [att1,hc55,hc80,hc97,hc114,hc123,hc132,hc141,hc150,cond_true,cond_false])),yt⟩)
   exact w_skip<|n_block<|n_then<|w_region<|yS 2<|yW 33 (zi (g15+1) (by omega) (by omega))<|ze<|zl (g15+1) ⟨by omega,yt,(forall_step hx20 (by simp only [att1,hc55,hc80,hc97,hc114,hc123,hc132,hc141,hc150,cond_true,cond_false]))⟩
  have dhc132:=ne_of_beq_false hc132;refine zw<|yO 11 [.cell ⟨p,0,none⟩ (pz b),.cell ⟨b,5,none⟩ (.int .u64 (B.bb 6)),.prop (0<=(9:Int))] (⟨yc rfl,yc rfl,(zh (by omega))⟩)<|zx<|yO 11 [.cell ⟨p,0,none⟩ (pz b),.cell ⟨b,5,none⟩ (.int .u64 (B.bb 6)),.prop (0<=(7:Int))] (⟨yc rfl,yc rfl,(zh (by omega))⟩)<|zx<|yS 4<|zk (some 185) (c99 (f g15.toNat) w124 (by omega) (by omega)) fun w151 v152=>yS 2<|zx<|yS 2<|zz<|yC ((band (bor (shrU (band (band (B.bb 6) 18374403900871474942) 18446744073709551360) 9) (shrU (band (band (B.bb 6) 9187201950435737471) 18446744073709551360) 7)) (bbSq (f g15.toNat))) !=0) (λhc159=>?_) λhc159=>?_
  ·exact zw<|yS 1<|zz<|w_ret<|r_then<|r_block<|r_then<|r_then<|r_block<|r_then<|y1 (v:=.bool true) (⟨ret_bool (attAny_hit (by omega) (by assumption) (by simp only [att1,hc55,hc80,hc97,hc114,hc123,hc132,hc159,cond_true,cond_false])),yt⟩)
  refine w_skip<|n_then<|w_seq<|w_qt<|yQo 5 [.cell ⟨p,0,none⟩ (pz b)] (λ_ hC=>At.cell (At.on ya hC) rfl)<|zqk (some 194) (λw_ hC=>c101 (Glob.on yg hC) 1 (otherC S.turn) (by omega) (by assumption))<|zqk (some 195) (λw_ hC=>c97 (At.on (yA w151 b) hC) (newP 1 (otherC S.turn)))<|yQ 1<|q_ot fun w160 v161=>zn<|yO 6 [.prop (0<=(f g15.toNat)/\(f g15.toNat)<((64:Nat):Int)),.cell ⟨2,(0+(f g15.toNat).toNat*1),none⟩ (.int .u64 (kingAt (f g15.toNat)))] (⟨(zh (by omega)),(Glob.king (0+(f g15.toNat).toNat*1) (by omega))⟩)<|zx<|yS 2<|zz<|yC ((band (kingAt (f g15.toNat)) (Bd.of B (newP 1 (otherC S.turn)))) !=0) (λhc168=>?_) λhc168=>?_
  ·exact zw<|yS 1<|zz<|w_ret<|r_block<|r_then<|r_then<|r_block<|r_then<|y1 (v:=.bool true) (⟨ret_bool (attAny_hit (by omega) (by assumption) (by simp only [att1,hc55,hc80,hc97,hc114,hc123,hc132,hc159,hc168,cond_true,cond_false])),yt⟩)
  exact w_skip<|n_block<|n_then<|w_region<|yS 2<|yW 33 (zi (g15+1) (by omega) (by omega))<|ze<|zl (g15+1) ⟨by omega,yt,(forall_step hx20 (by simp only [att1,hc55,hc80,hc97,hc114,hc123,hc132,hc159,hc168,cond_true,cond_false]))⟩
 have dhc26:=of_decide_eq_false hc26;exact w_exit<|x_then<|x_then<|x_hit<|zn<|yS 1<|zz<|w_ret<|y1 (v:=.bool false) (⟨ret_bool (attAny_miss (by assumption) hx20),yt⟩)
theorem cells1{a:Int}:∀i,i<1->(#[.int .i8 a]:Array Value)[i]?=some (.int .i8 ((λ(_:Nat)=>a) i)):=by
 intro i h;obtain rfl:i=0:=by omega
 rfl
theorem cells2{a b:Int}:∀i,i<2->(#[.int .i8 a,.int .i8 b]:Array Value)[i]?=some (.int .i8 ((λi=>if i=0 then a else b) i)):=by
 intro i h;rcases (by omega:i=0\/i=1) with rfl|rfl<;>rfl
def epBB(ep:Int):Int:=bif ep !=(-1) then bbSq ep else 0
def pawnMv(B:Bd)(S:Ps)(sq:Int):Int:=
 bif S.turn==1 then
  bor (bor (bor (band (shrU (band (band (bbSq sq) 18374403900871474942) 18446744073709551360) 9) (bor B.black (epBB S.ep)))
   (band (shrU (band (band (bbSq sq) 9187201950435737471) 18446744073709551360) 7) (bor B.black (epBB S.ep))))
   (band (shr8 (band (bbSq sq) 18446744073709551360)) B.empty))
   (band (shr8 (band (band (shr8 (band (bbSq sq) 18446744073709551360)) B.empty) 280375465082880)) B.empty)
 else
  bor (bor (bor (band (shlU (band (band (bbSq sq) 18374403900871474942) 72057594037927935) 7) (bor B.white (epBB S.ep)))
   (band (shlU (band (band (bbSq sq) 9187201950435737471) 72057594037927935) 9) (bor B.white (epBB S.ep))))
   (band (shl8 (band (bbSq sq) 72057594037927935)) B.empty))
   (band (shl8 (band (band (shl8 (band (bbSq sq) 72057594037927935)) B.empty) 16711680)) B.empty)
def possMv(B:Bd)(S:Ps)(pt sq:Int):Int:=
 bif pt==1 then kingAt sq else bif pt==2 then bor (diaA (bnot B.empty) sq) (hvA (bnot B.empty) sq) else
 bif pt==3 then hvA (bnot B.empty) sq else bif pt==4 then diaA (bnot B.empty) sq else
 bif pt==5 then knightAt sq else bif pt==6 then pawnMv B S sq else 0
def kingSq(B:Bd)(turn:Int):Int:=bif turn==2 then B.bk else B.wk
def inChk(B:Bd)(turn:Int):Bool:=bif kingSq B turn==(-1) then false else att1 B turn (kingSq B turn)
def tg1(B:Bd)(S:Ps)(M:Mv):Int:=
 bif occd B M.s2 then orTag M.tags 4 else bif (M.s2==S.ep)&&(pType (pieceAt B M.s1)==6) then orTag M.tags 8 else M.tags
def kingHome(p s1:Int):Bool:=((p==1)&&(s1==4))||((p==7)&&(s1==60))
def tg2(B:Bd)(S:Ps)(M:Mv):Int:=
 bif kingHome (pieceAt B M.s1) M.s1 then
  (bif M.s2==2 then orTag (tg1 B S M) 2 else bif M.s2==58 then orTag (tg1 B S M) 2 else
   bif M.s2==6 then orTag (tg1 B S M) 1 else bif M.s2==62 then orTag (tg1 B S M) 1 else tg1 B S M)
 else tg1 B S M
def nextB(B:Bd)(S:Ps)(M:Mv):Bd:=updB B ⟨tg2 B S M,M.s1,M.s2,M.promo⟩
def tg3(B:Bd)(S:Ps)(M:Mv):Int:=bif inChk (nextB B S M) S.turn then orTag (tg2 B S M) 32 else tg2 B S M
def tg4(B:Bd)(S:Ps)(M:Mv):Int:=bif inChk (nextB B S M) (otherC S.turn) then orTag (tg3 B S M) 16 else tg3 B S M
def KingsOk(B:Bd):Prop:=(-1<=B.wk/\B.wk<=63)/\(-1<=B.bk/\B.bk<=63)
theorem updB_kings{B:Bd}{M:Mv}(h:KingsOk B)(h2:0<=M.s2/\M.s2<=63):KingsOk (updB B M):=by
 have key:∀X:Bd,(X.wk=B.wk/\X.bk=B.bk)->KingsOk (moveK (calcB X) M):=by
  intro X ⟨h1,h3⟩;obtain ⟨ha,hb⟩:=h;unfold moveK KingsOk calcB;simp only [h1,h3];split
  ·exact ⟨by constructor<;>(dsimp only;omega),hb⟩
  split
  ·exact ⟨by simpa [h1] using ha,by constructor<;>(dsimp only;omega)⟩
  exact ⟨by simpa [h1] using ha,by simpa [h3] using hb⟩
 refine key _ ?_;have c1:∀(p1:Int) (X:Bd),(updPromo M p1 X).wk=X.wk/\(updPromo M p1 X).bk=X.bk:=by intro p1 X;unfold updPromo;cases (M.promo !=0)<;>exact ⟨rfl,rfl⟩
 have c2:∀(p1:Int) (X:Bd),(updEP M p1 X).wk=X.wk/\(updEP M p1 X).bk=X.bk:=by intro p1 X;unfold updEP;cases (hasTag M 8)<;>cases (pColor p1==1)<;>exact ⟨rfl,rfl⟩
 have c3:∀(p1:Int) (X:Bd),(updCastle M p1 X).wk=X.wk/\(updCastle M p1 X).bk=X.bk:=by
  intro p1 X;unfold updCastle;cases (pColor p1==1)<;>cases (pColor p1==2)<;>cases (hasTag M 1)<;>cases (hasTag M 2)<;>exact ⟨rfl,rfl⟩
 exact ⟨(c3 _ _).1.trans ((c2 _ _).1.trans (c1 _ _).1),(c3 _ _).2.trans ((c2 _ _).2.trans (c1 _ _).2)⟩
theorem mv_eq{pos:Value}{M M':Mv}(h:M=M'):Obj.cells (mvCells pos M) 98 (0,0)=.cells (mvCells pos M') 98 (0,0):=by rw [h]
theorem tags_eq{a a' b c d:Int}(h:a=a'):(⟨a,b,c,d⟩:Mv)=⟨a',b,c,d⟩:=by rw [h]
theorem king_bounds{B:Bd}{turn:Int}(h:KingsOk B)(hk:(kingSq B turn==-1)=false):0<=kingSq B turn/\kingSq B turn<=63:=by
 have:=ne_of_beq_false hk;unfold kingSq at*;unfold KingsOk at h;cases e:(turn==2)<;>simp only [e,cond_true,cond_false] at*<;>omega
theorem c143{p b:Nat}{vm:Value}{S:Ps}{w:World}(hp:At w p (.cells (psCells b vm S) 110 (0,0))){B:Bd}(hb:At w b (.cells (bdCells B) 135 (0,0)))(sq:Int)(h:0<=sq/\sq<=63)(he:-1<=S.ep/\S.ep<=63):
  CR 143 [pz p,.int .i8 sq] w (.int .u64 (pawnMv B S sq)):=by
 refine en func143 ntmps143 ?_;refine zw<|yS 1<|zx<|yS 1<|zk (some 16) (c99 sq w (by omega) (by omega)) fun w1 v2=>yS 1<|zx<|yS 1<|zz<|w_cut (γ:=Int) (λg6=>[(0,pz p),(5,.int .u64 (bbSq sq)),(6,.int .u64 g6)]) (λg6 w_=>Mod [] w1 w_/\g6=(epBB S.ep)) ?_ ?_
 ·refine zw<|yL 5 p 6<|zz<|yC (S.ep !=(-1:Int)) (λhc10=>?_) λhc10=>?_
  ·have hne:=bne_iff_ne.1 hc10;exact w_region<|yL 4 p 6<|zk (some 26) (c99 S.ep w1 (by omega) (by omega)) fun w11 v12=>yS 1<|ze<|zb (bbSq S.ep) ⟨yt,(by simp only [epBB,hc10,cond_true,cond_false])⟩
  exact w_skip<|zb 0 ⟨yt,(by simp only [epBB,hc10,cond_true,cond_false])⟩
 rintro _ w7 ⟨v8,rfl⟩;refine w_seq<|zw<|yS 1<|zk (some 28) (c66 (yA w7 p)) fun w20 v21=>yS 1<|zz<|yC (S.turn==1) (λhc25=>?_) λhc25=>?_
 ·have dhc25:=eq_of_beq hc25;exact zw<|yO 15 [.prop (0<=(9:Int)),.cell ⟨p,0,none⟩ (pz b),.cell ⟨b,13,none⟩ (.int .u64 B.black)] (⟨(zh (by omega)),yc rfl,yc rfl⟩)<|zx<|yO 15 [.prop (0<=(7:Int)),.cell ⟨p,0,none⟩ (pz b),.cell ⟨b,13,none⟩ (.int .u64 B.black)] (⟨(zh (by omega)),yc rfl,yc rfl⟩)<|zx<|yO 12 [.prop (0<=(8:Int)),.cell ⟨p,0,none⟩ (pz b),.cell ⟨b,14,none⟩ (.int .u64 B.empty)] (⟨(zh (by omega)),yc rfl,yc rfl⟩)<|zx<|yO 12 [.prop (0<=(8:Int)),.cell ⟨p,0,none⟩ (pz b),.cell ⟨b,14,none⟩ (.int .u64 B.empty)] (⟨(zh (by omega)),yc rfl,yc rfl⟩)<|zx<|yS 8<|zz<|w_ret<|r_then<|y1 (v:=.int .u64 (bor (bor (bor (band (shrU (band (band (bbSq sq) 18374403900871474942) 18446744073709551360) 9) (bor B.black (epBB S.ep))) (band (shrU (band (band (bbSq sq) 9187201950435737471) 18446744073709551360) 7) (bor B.black (epBB S.ep)))) (band (shr8 (band (bbSq sq) 18446744073709551360)) B.empty)) (band (shr8 (band (band (shr8 (band (bbSq sq) 18446744073709551360)) B.empty) 280375465082880)) B.empty))) (⟨ret_int (by simp only [pawnMv,hc25,cond_true,cond_false]),yt⟩)
 have dhc25:=ne_of_beq_false hc25;exact w_skip<|zn<|yO 15 [.prop (0<=(7:Int)),.cell ⟨p,0,none⟩ (pz b),.cell ⟨b,12,none⟩ (.int .u64 B.white)] (⟨(zh (by omega)),yc rfl,yc rfl⟩)<|zx<|yO 15 [.prop (0<=(9:Int)),.cell ⟨p,0,none⟩ (pz b),.cell ⟨b,12,none⟩ (.int .u64 B.white)] (⟨(zh (by omega)),yc rfl,yc rfl⟩)<|zx<|yO 12 [.prop (0<=(8:Int)),.cell ⟨p,0,none⟩ (pz b),.cell ⟨b,14,none⟩ (.int .u64 B.empty)] (⟨(zh (by omega)),yc rfl,yc rfl⟩)<|zx<|yO 12 [.prop (0<=(8:Int)),.cell ⟨p,0,none⟩ (pz b),.cell ⟨b,14,none⟩ (.int .u64 B.empty)] (⟨(zh (by omega)),yc rfl,yc rfl⟩)<|zx<|yS 8<|zz<|w_ret<|y1 (v:=.int .u64 (bor (bor (bor (band (shlU (band (band (bbSq sq) 18374403900871474942) 72057594037927935) 7) (bor B.white (epBB S.ep))) (band (shlU (band (band (bbSq sq) 9187201950435737471) 72057594037927935) 9) (bor B.white (epBB S.ep)))) (band (shl8 (band (bbSq sq) 72057594037927935)) B.empty)) (band (shl8 (band (band (shl8 (band (bbSq sq) 72057594037927935)) B.empty) 16711680)) B.empty))) (⟨ret_int (by simp only [pawnMv,hc25,cond_true,cond_false]),yt⟩)
theorem c134{c:GC}{p b:Nat}{vm:Value}{S:Ps}{w:World}(hp:At w p (.cells (psCells b vm S) 110 (0,0))){B:Bd}(hb:At w b (.cells (bdCells B) 135 (0,0)))(hG:Glob c w)(pt sq:Int)(h:0<=sq/\sq<=63)(he:-1<=S.ep/\S.ep<=63):
  CR 134 [pz p,.int .i8 pt,.int .i8 sq] w (.int .u64 (possMv B S pt sq)):=by
 refine en func134 ntmps134 ?_;refine zw<|yS 1<|zz<|w_seq<|zw<|yS 1<|zz<|w_block<|zw<|yS 2<|zz<|yC (pt==1) (λhc1=>?_) λhc1=>?_
 ·have dhc1:=eq_of_beq hc1;exact zw<|yO 4 [.prop (0<=sq/\sq<((64:Nat):Int)),.cell ⟨2,(0+sq.toNat*1),none⟩ (.int .u64 (kingAt sq))] (⟨(zh (by omega)),(hG.king (0+sq.toNat*1) (by omega))⟩)<|zz<|w_ret<|r_block<|r_then<|ret1 rfl rfl (⟨ret_int (by simp only [possMv,hc1,cond_true,cond_false]),yt⟩)
 have dhc1:=ne_of_beq_false hc1;refine zw<|yS 2<|zz<|yC (pt==2) (λhc2=>?_) λhc2=>?_
 ·have dhc2:=eq_of_beq hc2;exact w_seq<|w_qt<|yQo 9 [.cell ⟨p,0,none⟩ (pz b),.cell ⟨b,14,none⟩ (.int .u64 B.empty)] (λ_ hC=>⟨At.cell (At.on hp hC) rfl,At.cell (At.on hb hC) rfl⟩)<|zqk (some 24) (λw_ hC=>c120 (bnot B.empty) sq w_ (Glob.on hG hC) (by omega) (by omega))<|yQo 9 [.cell ⟨p,0,none⟩ (pz b),.cell ⟨b,14,none⟩ (.int .u64 B.empty)] (λ_ hC=>⟨At.cell (At.on hp hC) rfl,At.cell (At.on hb hC) rfl⟩)<|zqk (some 34) (λw_ hC=>c121 (bnot B.empty) sq w_ (Glob.on hG hC) (by omega) (by omega) (rank_ok (by omega)) (file_ok (by omega)))<|yQ 2<|q_ot fun w3 v4=>n_then<|w_ret<|r_block<|r_then<|y1 (v:=.int .u64 (bor (diaA (bnot B.empty) sq) (hvA (bnot B.empty) sq))) (⟨ret_int (by simp only [possMv,hc1,hc2,cond_true,cond_false]),yt⟩)
 have dhc2:=ne_of_beq_false hc2;refine zw<|yS 2<|zz<|yC (pt==3) (λhc9=>?_) λhc9=>?_
 ·have dhc9:=eq_of_beq hc9;exact zw<|yO 9 [.cell ⟨p,0,none⟩ (pz b),.cell ⟨b,14,none⟩ (.int .u64 B.empty)] (⟨At.cell hp rfl,At.cell hb rfl⟩)<|zk (some 47) (c121 (bnot B.empty) sq w hG (by omega) (by omega) (rank_ok (by omega)) (file_ok (by omega))) fun w10 v11=>yS 1<|zz<|w_ret<|r_block<|r_then<|y1 (v:=.int .u64 (hvA (bnot B.empty) sq)) (⟨ret_int (by simp only [possMv,hc1,hc2,hc9,cond_true,cond_false]),yt⟩)
 have dhc9:=ne_of_beq_false hc9;refine zw<|yS 2<|zz<|yC (pt==4) (λhc16=>?_) λhc16=>?_
 ·have dhc16:=eq_of_beq hc16;exact zw<|yO 9 [.cell ⟨p,0,none⟩ (pz b),.cell ⟨b,14,none⟩ (.int .u64 B.empty)] (⟨At.cell hp rfl,At.cell hb rfl⟩)<|zk (some 59) (c120 (bnot B.empty) sq w hG (by omega) (by omega)) fun w17 v18=>yS 1<|zz<|w_ret<|r_block<|r_then<|y1 (v:=.int .u64 (diaA (bnot B.empty) sq)) (⟨ret_int (by simp only [possMv,hc1,hc2,hc9,hc16,cond_true,cond_false]),yt⟩)
 have dhc16:=ne_of_beq_false hc16;refine zw<|yS 2<|zz<|yC (pt==5) (λhc23=>?_) λhc23=>?_
 ·have dhc23:=eq_of_beq hc23;exact zw<|yO 4 [.prop (0<=sq/\sq<((64:Nat):Int)),.cell ⟨1,(0+sq.toNat*1),none⟩ (.int .u64 (knightAt sq))] (⟨(zh (by omega)),(hG.knight (0+sq.toNat*1) (by omega))⟩)<|zz<|w_ret<|r_block<|r_then<|y1 (v:=.int .u64 (knightAt sq)) (⟨ret_int (by simp only [possMv,hc1,hc2,hc9,hc16,hc23,cond_true,cond_false]),yt⟩)
 have dhc23:=ne_of_beq_false hc23;refine zw<|yS 2<|zz<|yC (pt==6) (λhc24=>?_) λhc24=>?_
 ·have dhc24:=eq_of_beq hc24;refine zw<|yS 2<|zC (some 69) (c143 hp hb sq (by omega) (by omega)) ?_;rintro _ w25 ⟨rfl,v26⟩;refine ⟨_,rfl,?_⟩;exact yS 1<|zz<|w_ret<|r_block<|r_then<|y1 (v:=.int .u64 (pawnMv B S sq)) (⟨ret_int (by simp only [possMv,hc1,hc2,hc9,hc16,hc23,hc24,cond_true,cond_false]),yt⟩)
 have dhc24:=ne_of_beq_false hc24;exact w_skip<|n_block<|zn<|yS 1<|zz<|w_ret<|y1 (v:=.int .u64 0) (⟨ret_int (by simp only [possMv,hc1,hc2,hc9,hc16,hc23,hc24,cond_true,cond_false]),yt⟩)
theorem c91{c:GC}{p b:Nat}{vm:Value}{S:Ps}{w:World}(hp:At w p (.cells (psCells b vm S) 110 (0,0))){B:Bd}(hb:At w b (.cells (bdCells B) 135 (0,0)))(hG:Glob c w)(hk:KingsOk B)(hT:S.turn=1\/S.turn=2):
  CR 91 [pz p] w (.bool (inChk B S.turn)):=by
 refine en func91 ntmps91 ?_;refine zw<|yS 1<|zx<|yO 8 [.cell ⟨p,0,none⟩ (pz b),.cell ⟨b,15,none⟩ (.int .i8 B.wk)] (⟨At.cell hp rfl,At.cell hb rfl⟩)<|zz<|w_cut (γ:=Int) (λg1=>[(0,pz p),(3,.int .i8 g1)]) (λg1 w_=>Mod [] w w_/\g1=(kingSq B S.turn)) ?_ ?_
 ·refine zw<|yS 1<|zk (some 12) (c66 hp) fun w5 v6=>yS 1<|zz<|yC (S.turn==2) (λhc12=>?_) λhc12=>?_
  ·have dhc12:=eq_of_beq hc12;exact w_region<|yO 8 [.cell ⟨p,0,none⟩ (pz b),.cell ⟨b,16,none⟩ (.int .i8 B.bk)] (⟨yc rfl,yc rfl⟩)<|ze<|zb B.bk ⟨yt,(by simp only [kingSq,hc12,cond_true,cond_false])⟩
  have dhc12:=ne_of_beq_false hc12;exact w_skip<|zb B.wk ⟨yt,(by simp only [kingSq,hc12,cond_true,cond_false])⟩
 rintro _ w2 ⟨v3,rfl⟩;refine w_seq<|zw<|yS 2<|zz<|yC ((kingSq B S.turn)==(-1)) (λhc17=>?_) λhc17=>?_
 ·have dhc17:=eq_of_beq hc17;exact zw<|yS 1<|zz<|w_ret<|r_then<|ret1 rfl rfl (⟨ret_bool (by simp only [inChk,hc17,attAny_one,cond_true,cond_false]),yt⟩)
 have dhc17:=ne_of_beq_false hc17;refine w_skip<|n_then<|w_seq ?_;have hkb:=king_bounds hk hc17;refine w_region<|yS 2<|reg_bslice (#[.int .i8 (kingSq B S.turn)]) 87 1 (some 25) (by kernel_rfl) fun b18 w19 hn20=>reg_call 110 [pz p,.slice (some ⟨b18,0,none⟩) 1 1] (some 26) (by kernel_rfl) (c110 (n:=1) (S:=S) ya ya ya yg (λ_=>(kingSq B S.turn)) cells1 (λi h=>(by omega)) (by assumption) (by omega)) ?_;rintro _ w29 ⟨rfl,v30⟩;refine ⟨_,rfl,?_⟩;exact yS 1<|zz<|w_ret<|y1 (v:=.bool (attAny B S.turn 1 (λ_=>(kingSq B S.turn)))) (⟨ret_bool (by simp only [inChk,hc17,attAny_one,cond_true,cond_false]),yt⟩)
theorem c135{c:GC}{p b:Nat}{vm:Value}{S:Ps}{w:World}(hp:At w p (.cells (psCells b vm S) 110 (0,0))){B:Bd}(hb:At w b (.cells (bdCells B) 135 (0,0))){m:Nat}{pos:Value}{M:Mv}(hm:At w m (.cells (mvCells pos M) 98 (0,0)))(hG:Glob c w)(hs:0<=M.s1/\M.s1<=63)(hs2:0<=M.s2/\M.s2<=63)(hp1:1<=pieceAt B M.s1/\pieceAt B M.s1<=12)(hcol:pColor (pieceAt B M.s1)=1\/pColor (pieceAt B M.s1)=2)(hpro:M.promo≠0->1<=M.promo/\M.promo<=6)(hnew:M.promo≠0->1<=newP M.promo (pColor (pieceAt B M.s1))/\newP M.promo (pColor (pieceAt B M.s1))<=12)(hbase:c.base<=m)(hk:KingsOk B)(hT:S.turn=1\/S.turn=2):
  CQ 135 [.pointer (some ⟨m,0,none⟩),.pointer (some ⟨p,0,none⟩)] w (λe w'=>e=.returned (.tuple #[])/\Mod [m] w w'/\At w' m (.cells (mvCells pos ⟨tg4 B S M,M.s1,M.s2,M.promo⟩) 98 (0,0))):=by
 have v0:Mod [m] w w:=Mod.refl _ _;have hoc:=otherC_or hT;have hkn:KingsOk (nextB B S M):=updB_kings hk hs2;refine en func135 ntmps135 ?_;refine w_seq<|w_qt<|yQo 8 [.cell ⟨p,0,none⟩ (pz b),.cell ⟨m,8,none⟩ (.int .i8 M.s1)] (λ_ hC=>⟨At.cell (At.on hp hC) rfl,At.cell (At.on hm hC) rfl⟩)<|zqk (some 14) (λw_ hC=>c72 (At.on hb hC) (Glob.on hG hC) M.s1)<|yQ 1<|q_ot ?_;intro w1 v2;have hf3:=At.on hp v2;have hf4:=At.on hb v2;have hf5:=At.on hm v2;have z6:=Glob.on hG v2;have v7:=Mod.trans v0 (Mod.of_nil v2);refine n_then<|w_cut (γ:=Unit) (λ_=>[(0,pz m),(1,pz p),(4,.int .i8 (pieceAt B M.s1))]) (λ_ w_=>Mod [m] w1 w_/\At w_ m (.cells (mvCells pos ⟨(tg1 B S M),M.s1,M.s2,M.promo⟩) 98 (0,0))) ?_ ?_
 ·refine w_seq<|w_qt<|yQo 8 [.cell ⟨p,0,none⟩ (pz b),.cell ⟨m,9,none⟩ (.int .i8 M.s2)] (λ_ hC=>⟨At.cell (At.on hf3 hC) rfl,At.cell (At.on hf5 hC) rfl⟩)<|zqk (some 23) (λw_ hC=>c144 (At.on hf4 hC) M.s2)<|q_ot fun w12 v13=>n_then<|zc (λhc20=>?_) λhc20=>?_
  ·refine w_region<|yS 1<|reg_call 136 [pz m,.int .u16 4] (some 25) (by kernel_rfl) (c136 ya 4) ?_;rintro _ w21 ⟨rfl,v22,hf23⟩;refine ⟨_,rfl,?_⟩;exact ze<|zb () ⟨yt,at_cast hf23 (mv_eq (tags_eq (by simp only [tg1,hc20,cond_true,cond_false])))⟩
  refine w_cut (γ:=Unit) (λ_=>[(0,pz m),(1,pz p),(4,.int .i8 (pieceAt B M.s1)),(39,.bool ((M.s2==S.ep)&&((pType (pieceAt B M.s1))==6)))]) (λ_ w_=>Mod [] w12 w_) ?_ ?_
  ·refine w_qt<|yQo 10 [.cell ⟨m,9,none⟩ (.int .i8 M.s2),.cell ⟨p,6,none⟩ (.int .i8 S.ep)] (λ_ hC=>⟨At.cell (At.on ya hC) rfl,At.cell (At.on ya hC) rfl⟩)<|yEq 35 (.bool (M.s2==S.ep)) ?_;cases hc32:(M.s2==S.ep)
   ·exact yQ 4<|q_ot fun w33 v34=>zb () yt
   exact yQ 1<|zqk (some 37) (λw_ hC=>c73 (pieceAt B M.s1) w_)<|yQ 2<|q_ot fun w41 v42=>zb () yt
  intro _ w29 v30;refine yC ((M.s2==S.ep)&&((pType (pieceAt B M.s1))==6)) (λhc55=>?_) λhc55=>?_
  ·refine w_region<|yS 1<|reg_call 136 [pz m,.int .u16 8] (some 41) (by kernel_rfl) (c136 ya 8) ?_;rintro _ w56 ⟨rfl,v57,hf58⟩;refine ⟨_,rfl,?_⟩;exact ze<|zb () ⟨yt,at_cast hf58 (mv_eq (tags_eq (by simp only [tg1,hc20,hc55,cond_true,cond_false])))⟩
  exact w_skip<|zb () ⟨yt,at_cast ya (mv_eq (tags_eq (by simp only [tg1,hc20,hc55,cond_true,cond_false])))⟩
 rintro _ w8 ⟨v9,hf10⟩;have hf64:=At.keep hf3 v9 (not_mem1 (At.ne hf3 hf5 rfl));have hf65:=At.keep hf4 v9 (not_mem1 (At.ne hf4 hf5 rfl));have z66:=Glob.keep z6 v9 (by simp<;>omega);have v67:=Mod.fresh' v7 v9 (by simp<;>omega);refine w_cut (γ:=Unit) (λ_=>[(0,pz m),(1,pz p)]) (λ_ w_=>Mod [m] w8 w_/\At w_ m (.cells (mvCells pos ⟨(tg2 B S M),M.s1,M.s2,M.promo⟩) 98 (0,0))) ?_ ?_
 ·have v71:Mod [m] w8 w8:=Mod.refl _ _;refine w_cut (γ:=Unit) (λ_=>[(0,pz m),(1,pz p),(61,.bool ((((pieceAt B M.s1)==1)&&(M.s1==4))||(((pieceAt B M.s1)==7)&&(M.s1==60))))]) (λ_ w_=>Mod [] w8 w_) ?_ ?_
  ·have v74:Mod [] w8 w8:=Mod.refl _ _;refine w_region<|yS 3<|yE 44 (.bool ((pieceAt B M.s1)==1)) ?_;cases hc75:((pieceAt B M.s1)==1)
   ·refine yS 10<|yE 54 (.bool ((pieceAt B M.s1)==7)) ?_;cases hc76:((pieceAt B M.s1)==7)
    ·exact yS 7<|ze<|zb () v74
    exact yL 7 m 8<|ze<|zb () v74
   refine yL 7 m 8<|yE 51 (.bool (M.s1==4)) ?_;cases hc77:(M.s1==4)
   ·refine yS 3<|yE 54 (.bool ((pieceAt B M.s1)==7)) ?_;cases hc78:((pieceAt B M.s1)==7)
    ·exact yS 7<|ze<|zb () v74
    exact yL 7 m 8<|ze<|zb () v74
   exact yS 10<|ze<|zb () v74
  intro _ w72 v73;have hf81:=At.on hf10 v73;have v84:=Mod.trans v71 (Mod.of_nil v73);refine yC ((((pieceAt B M.s1)==1)&&(M.s1==4))||(((pieceAt B M.s1)==7)&&(M.s1==60))) (λhc85=>?_) λhc85=>?_
  ·refine zw<|yL 4 m 9<|zz<|w_block<|w_seq<|zw<|yS 2<|zz<|yC (M.s2==2) (λhc86=>?_) λhc86=>?_
   ·have dhc86:=eq_of_beq hc86;refine w_skip<|n_then<|w_cond (b:=(M.s2==2)) (by kernel_rfl) (λ_=>?_) (λhx=>absurd (hc86.symm.trans hx) (by decide));refine w_region<|yS 1<|zC (some 70) (c136 hf81 2) ?_;rintro _ w87 ⟨rfl,v88,hf89⟩;refine ⟨_,rfl,?_⟩;have v94:=Mod.fresh' v84 v88 (by simp<;>omega);exact ze<|n_block<|zb () ⟨v94,at_cast hf89 (mv_eq (tags_eq (by simp only [tg2,kingHome,hc85,hc86,cond_true,cond_false])))⟩
   have dhc86:=ne_of_beq_false hc86;refine w_region<|yS 2<|zz<|yC (M.s2==58) (λhc95=>?_) λhc95=>?_
   ·have dhc95:=eq_of_beq hc95;refine w_region<|yS 1<|zC (some 70) (c136 hf81 2) ?_;rintro _ w96 ⟨rfl,v97,hf98⟩;refine ⟨_,rfl,?_⟩;have v103:=Mod.fresh' v84 v97 (by simp<;>omega);exact ze<|n_block<|zb () ⟨v103,at_cast hf98 (mv_eq (tags_eq (by simp only [tg2,kingHome,hc85,hc86,hc95,cond_true,cond_false])))⟩
   have dhc95:=ne_of_beq_false hc95;refine w_seq<|zw<|yS 2<|zz<|yC (M.s2==6) (λhc104=>?_) λhc104=>?_
   ·have dhc104:=eq_of_beq hc104;refine w_skip<|n_then<|w_cond (b:=(M.s2==6)) (by kernel_rfl) (λ_=>?_) (λhx=>absurd (hc104.symm.trans hx) (by decide));refine w_region<|yS 1<|zC (some 75) (c136 hf81 1) ?_;rintro _ w105 ⟨rfl,v106,hf107⟩;refine ⟨_,rfl,?_⟩;have v112:=Mod.fresh' v84 v106 (by simp<;>omega);exact ze<|n_block<|zb () ⟨v112,at_cast hf107 (mv_eq (tags_eq (by simp only [tg2,kingHome,hc85,hc86,hc95,hc104,cond_true,cond_false])))⟩
   have dhc104:=ne_of_beq_false hc104;refine w_region<|yS 2<|zz<|yC (M.s2==62) (λhc113=>?_) λhc113=>?_
   ·have dhc113:=eq_of_beq hc113;refine w_region<|yS 1<|zC (some 75) (c136 hf81 1) ?_;rintro _ w114 ⟨rfl,v115,hf116⟩;refine ⟨_,rfl,?_⟩;have v121:=Mod.fresh' v84 v115 (by simp<;>omega);exact ze<|n_block<|zb () ⟨v121,at_cast hf116 (mv_eq (tags_eq (by simp only [tg2,kingHome,hc85,hc86,hc95,hc104,hc113,cond_true,cond_false])))⟩
   have dhc113:=ne_of_beq_false hc113;exact w_skip<|n_block<|zb () ⟨v84,at_cast hf81 (mv_eq (tags_eq (by simp only [tg2,kingHome,hc85,hc86,hc95,hc104,hc113,cond_true,cond_false])))⟩
  exact w_skip<|zb () ⟨v84,at_cast hf81 (mv_eq (tags_eq (by simp only [tg2,kingHome,hc85,cond_true,cond_false])))⟩
 rintro _ w68 ⟨v69,hf70⟩;have hf122:=At.keep hf64 v69 (not_mem1 (At.ne hf64 hf10 rfl));have hf123:=At.keep hf65 v69 (not_mem1 (At.ne hf65 hf10 rfl));have z124:=Glob.keep z66 v69 (by simp<;>omega);have v125:=Mod.fresh' v67 v69 (by simp<;>omega);refine zw<|yS 1<|zC (some 77) (c145 hf122 hf123) ?_;rintro _ w126 ⟨b128,b129,rfl,v127,hf130,hf131,hb132,hb133⟩;refine ⟨_,rfl,?_⟩;have hb134:=Nat.le_trans v125.size hb132;have hb135:=Nat.le_trans v125.size hb133;have hb136:=Nat.le_trans (z124.size) hb132;have hb137:=Nat.le_trans (z124.size) hb133;have ne138:p≠b128:=(by have:=At.lt hf122;omega);have ne139:b≠b129:=(by have:=At.lt hf123;omega);have hf142:=At.on hf70 v127;have z143:=Glob.on z124 v127;have v144:=Mod.trans v125 (Mod.of_nil v127);refine yS 1<|zx<|yL 5 b128 0<|zC (some 83) (c75 (M:=(⟨(tg2 B S M),M.s1,M.s2,M.promo⟩:Mv)) hf131 hf142 z143 (by assumption) (by assumption) (by assumption) (by assumption) (by assumption) (by assumption) (by omega)) ?_;rintro _ w145 ⟨rfl,v146,hf147⟩;refine ⟨_,rfl,?_⟩;have hf150:=At.keep hf142 v146 (not_mem1 (At.ne hf142 hf131 rfl));have hf151:=At.keep hf130 v146 (not_mem1 (At.ne hf130 hf131 rfl));have z152:=Glob.keep z143 v146 (by simp<;>omega);have v153:=Mod.fresh' v144 v146 (by simp<;>omega);refine zz<|w_cut (γ:=Unit) (λ_=>[(0,pz m),(5,pz b128)]) (λ_ w_=>Mod [m] w145 w_/\At w_ m (.cells (mvCells pos ⟨(tg3 B S M),M.s1,M.s2,M.promo⟩) 98 (0,0))) ?_ ?_
 ·have v157:Mod [m] w145 w145:=Mod.refl _ _;refine zw<|yS 1<|zk (some 85) (c91 (S:=S) hf151 hf147 z152 (by assumption) (by assumption)) ?_;intro w158 v159;have hf162:=At.on hf150 v159;have v167:=Mod.trans v157 (Mod.of_nil v159);refine zz<|zc (λhc168=>?_) λhc168=>?_
  ·refine w_region<|yS 1<|zC (some 87) (c136 hf162 32) ?_;rintro _ w169 ⟨rfl,v170,hf171⟩;refine ⟨_,rfl,?_⟩;have v178:=Mod.fresh' v167 v170 (by simp<;>omega);exact ze<|zb () ⟨v178,at_cast hf171 (mv_eq (tags_eq (by simp only [tg3,nextB,hc168,cond_true,cond_false])))⟩
  exact w_skip<|zb () ⟨v167,at_cast hf162 (mv_eq (tags_eq (by simp only [tg3,nextB,hc168,cond_true,cond_false])))⟩
 rintro _ w154 ⟨v155,hf156⟩;have hf181:=At.keep hf151 v155 (not_mem1 (At.ne hf151 hf150 rfl));have hf182:=At.keep hf147 v155 (not_mem1 (At.ne hf147 hf150 rfl));have z183:=Glob.keep z152 v155 (by simp<;>omega);have v184:=Mod.fresh' v153 v155 (by simp<;>omega);refine zw<|yL 5 b128 5<|zk (some 93) (c70 S.turn w154) ?_;intro w185 v186;have hf189:=At.on hf181 v186;have hf190:=At.on hf182 v186;have hf191:=At.on hf156 v186;have z192:=Glob.on z183 v186;have v193:=Mod.trans v184 (Mod.of_nil v186);refine yS 2<|zS b128 5 (.int .i8 (otherC S.turn)) ?_;intro w194 hu195;have hf196:At w194 b128 (.cells (psCells b129 (.slice none 0 0) ({S with turn:=(otherC S.turn)})) 110 (0,0)):=hu195.at_;have hf199:=At.keep hf190 hu195.mod (not_mem1 (At.ne hf190 hf189 rfl));have hf200:=At.keep hf191 hu195.mod (not_mem1 (At.ne hf191 hf189 rfl));have z201:=Glob.keep z192 hu195.mod (by simp<;>omega);have v202:=Mod.fresh' v193 hu195.mod (by simp<;>omega);refine zx<|yS 1<|zk (some 97) (c91 (S:={S with turn:=(otherC S.turn)}) hf196 hf199 z201 (by assumption) (by assumption)) ?_;intro w203 v204;have hf208:=At.on hf200 v204;have v211:=Mod.trans v202 (Mod.of_nil v204);refine zz<|zc (λhc212=>?_) λhc212=>?_
 ·refine w_region<|yS 1<|zC (some 99) (c136 hf208 16) ?_;rintro _ w213 ⟨rfl,v214,hf215⟩;refine ⟨_,rfl,?_⟩;have v221:=Mod.fresh' v211 v214 (by simp<;>omega);exact ze<|end0 results135 (⟨rfl,v221,at_cast hf215 (mv_eq (tags_eq (by simp only [tg4,(show inChk (nextB B S M) (otherC S.turn)=true from hc212),cond_true,cond_false])))⟩)
 exact w_skip<|end0 results135 (⟨rfl,v211,at_cast hf208 (mv_eq (tags_eq (by simp only [tg4,(show inChk (nextB B S M) (otherC S.turn)=false from hc212),cond_true,cond_false])))⟩)
def mvsL(l:List Mv):List Value:=l.flatMap λm=>(mvCells (.pointer none) m).toList
theorem mvsL_len:∀(l:List Mv),(mvsL l).length=l.length*11
 |[]=>rfl
 |m::l=>by
  have:=mvsL_len l;simp only [mvsL,List.flatMap_cons,List.length_append,List.length_cons] at this⊢;rw [this];simp [mvCells];omega
theorem mvsL_append(l l':List Mv):mvsL (l++l')=mvsL l++mvsL l':=by simp [mvsL]
theorem oneCells_append:∀(a b:List Value),oneCells (a++b)=(oneCells a&&oneCells b)
 |[],b=>by simp [oneCells]
 |v::a,b=>by simp [oneCells,oneCells_append a b,Bool.and_assoc]
theorem oneCells_mvs:∀(l:List Mv),oneCells (mvsL l)=true
 |[]=>rfl
 |m::l=>by
  have:=oneCells_mvs l;simp only [mvsL,List.flatMap_cons] at this⊢;rw [oneCells_append,this];rfl
theorem storeRow_take:∀(vs:List Value) (cs:Array Value) (off:Nat),off+vs.length<=cs.size->(storeRow cs off vs).toList.take (off+vs.length)=cs.toList.take off++vs
 |[],cs,off,h=>by simp [storeRow]
 |v::r,cs,off,h=>by
  simp only [List.length_cons] at h;have hlt:off<cs.toList.length:=by simp;omega
  rw [storeRow,List.length_cons,show off+(r.length+1)=off+1+r.length by omega,storeRow_take r _ (off+1) (by simp;omega)];rw [Array.toList_setIfInBounds,List.take_succ_eq_append_getElem (by simpa using hlt),List.take_set_of_le (by omega)];simp
structure MvArr(A:Array Value)(l:List Mv):Prop where
 size:A.size=2398
 take:A.toList.take (l.length*11)=mvsL l
theorem MvArr.push{A:Array Value}{l:List Mv}{m:Mv}{off:Nat}(h:MvArr A l)(hl:l.length<218)(ho:off=l.length*11):MvArr (storeRow A off (mvCells (.pointer none) m).toList) (l++[m]):=by
 subst ho;refine ⟨by rw [storeRow_size];exact h.size,?_⟩;have hs:=h.size;have e:(l++[m]).length*11=l.length*11+(mvCells (.pointer none) m).toList.length:=by simp [mvCells];omega
 rw [e,storeRow_take _ _ _ (by simp [mvCells];omega),h.take,mvsL_append];simp [mvsL]
theorem MvArr.row{A:Array Value}{l:List Mv}{w:World}{b:Nat}{t:TypeId}{fr:Nat×Nat}(h:MvArr A l)(hl:l.length<=218)(ha:At w b (.cells A t fr)):(Ob.row ⟨b,0,none⟩ (l.length*11) (mvsL l).toArray).holds w:=by
 refine At.part ha (by simp [mvsL_len]) λj hj=>?_;have:=h.take;rw [←this];simp [List.getElem?_take,hj]
noncomputable def zero176:Array Value:=match prog.info? 176 with|some i=>(match i.zero with|some z=>z.cells|none=>#[])|none=>#[]
theorem MvArr.zero:MvArr zero176 []:=⟨by kernel_rfl,rfl⟩
def fm{α:Type}(f:Int->List α)(n:Nat):List α:=(List.range n).flatMap λ(k:Nat)=>f (k:Int)
theorem fm_succ{α:Type}{f:Int->List α}{j:Int}(h:0<=j):fm f (j+1).toNat=fm f j.toNat++f j:=by
 have e:(j+1).toNat=j.toNat+1:=by omega
 unfold fm;rw [e,List.range_succ,List.flatMap_append];simp [Int.toNat_of_nonneg h]
theorem fm_mono{α:Type}{f:Int->List α}{a b:Nat}(h:a<=b):(fm f a).length<=(fm f b).length:=by
 obtain ⟨d,rfl⟩:=Nat.le.dest h;unfold fm;rw [List.range_add,List.flatMap_append,List.length_append];omega
theorem fm_le{α:Type}{f:Int->List α}{j:Int}{n:Nat}(h:0<=j)(hn:j<n):(fm f j.toNat).length+(f j).length<=(fm f n).length:=by
 have:=fm_mono (f:=f) (a:=(j+1).toNat) (b:=n) (by omega);rw [fm_succ h,List.length_append] at this;exact this
def allowed(B:Bd)(turn:Int):Int:=bif turn==2 then bnot B.black else bnot B.white
def isPromo(p s2:Int):Bool:=((p==6)&&(sqRank s2==7))||((p==12)&&(sqRank s2==0))
def promoT(B:Bd)(S:Ps)(s1 s2:Int):Nat->Int
 |0=>0
 |k+1=>tg4 B S ⟨promoT B S s1 s2 k,s1,s2,(k:Int)+2⟩
def keepM(m:Mv):List Mv:=bif hasTag m 32 then [] else [m]
def promoF(B:Bd)(S:Ps)(s1 s2 k:Int):List Mv:=keepM ⟨tg4 B S ⟨promoT B S s1 s2 k.toNat,s1,s2,k+2⟩,s1,s2,k+2⟩
def plainM(B:Bd)(S:Ps)(s1 s2:Int):Mv:=⟨tg4 B S ⟨0,s1,s2,0⟩,s1,s2,0⟩
def dest(B:Bd)(S:Ps)(p s1:Int):Int:=band (possMv B S (pType p) s1) (allowed B S.turn)
def s2F(B:Bd)(S:Ps)(p s1 s2:Int):List Mv:=
 bif band (dest B S p s1) (bbSq s2)==0 then [] else bif isPromo p s2 then fm (promoF B S s1 s2) 4 else keepM (plainM B S s1 s2)
def s1F(B:Bd)(S:Ps)(p s1:Int):List Mv:=
 bif band (Bd.of B p) (bbSq s1)==0 then [] else bif dest B S p s1==0 then [] else fm (s2F B S p s1) 64
def pF(B:Bd)(S:Ps)(j:Int):List Mv:=
 bif S.turn !=pColor (j+1) then [] else bif Bd.of B (j+1)==0 then [] else fm (s1F B S (j+1)) 64
def stdL(B:Bd)(S:Ps):List Mv:=fm (pF B S) 12
theorem pColor_or{p:Int}(h:1<=p/\p<=12):pColor p=1\/pColor p=2:=by unfold pColor;split<;>(try split)<;>omega
theorem newP_ok{t c:Int}(h:1<=t/\t<=6)(hc:c=1\/c=2):1<=newP t c/\newP t c<=12:=by unfold newP;omega
theorem own_of_at{w:World}{g b0 size n:Nat}{e:TypeId}{xs:List Value}(h:At w g (.cells xs.toArray e (0,0)))(hb:b0<=g)(hl:xs.length=n*size)(hn:n<=1000):Own w b0 e size (some ⟨g,0,none⟩) n n xs:=
 ⟨hl,.inr ⟨g,n,xs.toArray,rfl,hb,h.e,Nat.le_refl _,by simp only [maxLen];omega,by simpa using hl,by simp [←hl]⟩⟩
theorem promoT_succ{B:Bd}{S:Ps}{s1 s2 k:Int}(h:0<=k):promoT B S s1 s2 (k+1).toNat=tg4 B S ⟨promoT B S s1 s2 k.toNat,s1,s2,k+2⟩:=by
 have e:(k+1).toNat=k.toNat+1:=by omega
 rw [e];simp only [promoT];rw [show ((k.toNat:Nat):Int)=k from by omega]
set_option maxHeartbeats 800000 in
theorem c122f{c:GC}{p b:Nat}{vm:Value}{S:Ps}{w:World}(hp:At w p (.cells (psCells b vm S) 110 (0,0))){B:Bd}(hb:At w b (.cells (bdCells B) 135 (0,0)))(hG:Glob c w)(hLen:(stdL B S).length<=218)(hpc:∀p s:Int,(1<=p/\p<=12)->(0<=s/\s<=63)->(band (Bd.of B p) (bbSq s)==0)=false->1<=pieceAt B s/\pieceAt B s<=12)(hk:KingsOk B)(hT:S.turn=1\/S.turn=2)(he:-1<=S.ep/\S.ep<=63):
  CQ 122 [pz p,.bool false] w (λe w'=>∃g,e=.returned (.slice (some ⟨g,0,none⟩) (stdL B S).length (stdL B S).length)/\Mod [] w w'/\Own w' w.heap.size 98 11 (some ⟨g,0,none⟩) (stdL B S).length (stdL B S).length (mvsL (stdL B S))):=by
 have v0:Mod [] w w:=Mod.refl _ _;refine en func122 ntmps122 ?_;refine zw<|yS 1<|zx<|zA zero176 176 (some 5) ?_;intro b1 w2 hn3;have hb4:c.base<=b1:=Glob.lt hG hn3;have hb5:=Nat.le_trans v0.size hn3.base;have v6:=hn3.mod;have v10:=zt v0 v6;refine zx<|yS 1<|zx<|zA (mvCells (.pointer none) (⟨0,0,0,0⟩:Mv)) 98 (some 7) ?_;intro b12 w13 hn14;have hb15:c.base<=b12:=Glob.lt (yG w2) hn14;have hb16:=Nat.le_trans v10.size hn14.base;have v17:=hn14.mod;have z21:=Glob.on (yG w2) v17;have v22:=zt v10 v17;refine zx<|yO 9 [.cell ⟨p,0,none⟩ (pz b),.cell ⟨b,12,none⟩ (.int .u64 B.white)] (⟨yc rfl,yc rfl⟩)<|zz<|w_cut (γ:=Int) (λg24=>[(0,pz p),(1,.bool false),(5,pz b1),(6,.int .i64 0),(7,pz b12),(8,.int .u64 g24)]) (λg24 w_=>Mod [] w13 w_/\g24=(allowed B S.turn)) ?_ ?_
 ·refine zw<|yS 1<|zk (some 29) (c66 (yA w13 p)) fun w28 v29=>yS 1<|zz<|yC (S.turn==2) (λhc37=>?_) λhc37=>?_
  ·have dhc37:=eq_of_beq hc37;exact w_region<|yO 9 [.cell ⟨p,0,none⟩ (pz b),.cell ⟨b,13,none⟩ (.int .u64 B.black)] (⟨yc rfl,yc rfl⟩)<|ze<|zb (bnot B.black) ⟨yt,(by simp only [allowed,hc37,cond_true,cond_false])⟩
  have dhc37:=ne_of_beq_false hc37;exact w_skip<|zb (bnot B.white) ⟨yt,(by simp only [allowed,hc37,cond_true,cond_false])⟩
 rintro _ w25 ⟨v26,rfl⟩;have z42:=Glob.on z21 v26;have v43:=zt v22 v26;refine w_seq<|zw<|yO 3 [.cell ⟨0,0,none⟩ (.slice (some ⟨c.ap,c.apo,none⟩) 12 12)] (z42.g0)<|zz<|w_block ?_;have he55:[]=fm (pF B S) (0:Int).toNat:=by simp [fm]
 refine yP (γ:=Int×Array Value×Mv) (λq47=>(12-q47.1).toNat) (λq47=>[(0,pz p),(1,.bool false),(5,pz b1),(6,.int .i64 (((fm (pF B S) q47.1.toNat).length:Nat):Int)),(7,pz b12),(8,.int .u64 (allowed B S.turn)),(39,.slice (some ⟨c.ap,c.apo,none⟩) 12 12),(40,.int .i64 ((12:Nat):Int)),(41,.int .i64 q47.1)]) (λ(q47:Int×Array Value×Mv) w_=>(0<=q47.1/\q47.1<=12)/\Mod [b1,b12] w25 w_/\At w_ b1 (.cells q47.2.1 176 (0,0))/\At w_ b12 (.cells (mvCells (.pointer none) q47.2.2) 98 (0,0))/\MvArr q47.2.1 (fm (pF B S) q47.1.toNat)) (0,zero176,(⟨0,0,0,0⟩:Mv)) ⟨by constructor<;>dsimp only<;>omega,Mod.refl _ _,ya,ya,he55▸MvArr.zero⟩ ?_;rintro ⟨g44,A45,M46⟩ w48 ⟨⟨h50,h51⟩,v49,hf52,hf53,hx54⟩;replace h50:0<=g44:=h50;replace h51:g44<=12:=h51;replace hf52:At w48 b1 (.cells A45 176 (0,0)):=hf52;replace hf53:At w48 b12 (.cells (mvCells (.pointer none) M46) 98 (0,0)):=hf53;replace hx54:MvArr A45 (fm (pF B S) g44.toNat):=hx54;have z58:=Glob.keep z42 v49 (by simp<;>omega);have v59:=Mod.fresh' v43 v49 (by simp<;>omega);refine zw<|yS 1<|zz<|w_seq<|yC (decide (g44<((12:Nat):Int))) (λhc60=>?_) λhc60=>?_
 ·have dhc60:=of_decide_eq_true hc60;refine w_skip<|n_then<|w_seq<|w_block<|zw<|yO 3 [.prop (0<=g44/\g44<((12:Nat):Int)),.cell ⟨c.ap,(c.apo+g44.toNat*1),none⟩ (.int .i8 (((g44.toNat*1:Nat):Int)+1))] (⟨(zh (by omega)),(z58.pieces (g44.toNat*1) (by omega))⟩)<|ze ?_;rw [(show ((((g44.toNat*1:Nat):Int)+1):Int)=(g44+1) from (by omega))];refine n_then<|w_seq<|zw<|yS 1<|zk (some 46) (c66 (yA w48 p)) fun w61 v62=>yS 1<|zk (some 48) (c102 (g44+1) w61) fun w70 v71=>yS 1<|zz<|yC (S.turn !=(pColor (g44+1))) (λhc79=>?_) λhc79=>?_
  ·refine w_exit<|x_then<|x_hit<|n_then<|w_region<|yS 2<|yW 41 (zi (g44+1) (by omega) (by omega))<|ze ?_;have he80:fm (pF B S) g44.toNat=fm (pF B S) (g44+1).toNat:=by rw [fm_succ (by omega)];simp only [pF,hc79,cond_true,cond_false,Bool.not_true,Bool.not_false,List.append_nil]
   rw [he80];have hX82:MvArr A45 (fm (pF B S) (g44+1).toNat):=he80▸hx54;have hM83:At w70 b12 (.cells (mvCells (.pointer none) M46) 98 (0,0)):=ya;obtain ⟨Aq84,hA81,hX82⟩:∃A,At w70 b1 (.cells A 176 (0,0))/\MvArr A (fm (pF B S) (g44+1).toNat):=⟨_,ya,hX82⟩;exact zl ((g44+1),Aq84,M46) ⟨by constructor<;>dsimp only<;>omega,yt,hA81,hM83,hX82⟩ (hlt:=(by dsimp only;omega))
  refine w_skip<|zn<|yL 5 p 0<|zk (some 55) (c97 (yA w70 b) (g44+1)) fun w85 v86=>yS 1<|zz<|w_seq<|zw<|yS 2<|zz<|yC ((Bd.of B (g44+1))==0) (λhc94=>?_) λhc94=>?_
  ·have dhc94:=eq_of_beq hc94;refine w_exit<|x_then<|x_hit<|n_then<|w_region<|yS 2<|yW 41 (zi (g44+1) (by omega) (by omega))<|ze ?_;have he95:fm (pF B S) g44.toNat=fm (pF B S) (g44+1).toNat:=by rw [fm_succ (by omega)];simp only [pF,hc79,hc94,cond_true,cond_false,Bool.not_true,Bool.not_false,List.append_nil]
   rw [he95];have hX97:MvArr A45 (fm (pF B S) (g44+1).toNat):=he95▸hx54;have hM98:At w85 b12 (.cells (mvCells (.pointer none) M46) 98 (0,0)):=ya;obtain ⟨Aq99,hA96,hX97⟩:∃A,At w85 b1 (.cells A 176 (0,0))/\MvArr A (fm (pF B S) (g44+1).toNat):=⟨_,ya,hX97⟩;exact zl ((g44+1),Aq99,M46) ⟨by constructor<;>dsimp only<;>omega,yt,hA96,hM98,hX97⟩ (hlt:=(by dsimp only;omega))
  have dhc94:=ne_of_beq_false hc94;refine w_skip<|n_then<|w_seq ?_;have hb100:(fm (pF B S) g44.toNat).length+(fm (s1F B S (g44+1)) 64).length<=218:=by
   have hh:=fm_le (f:=pF B S) (n:=12) (j:=g44) (by omega) (by omega);simp only [pF,hc79,hc94,cond_true,cond_false] at hh;exact Nat.le_trans hh hLen
  refine w_region<|yS 1<|zz<|w_block ?_;have he112:fm (pF B S) g44.toNat=fm (pF B S) g44.toNat++fm (s1F B S (g44+1)) (0:Int).toNat:=by simp [fm]
  rw [he112];refine yP (γ:=Int×Array Value×Mv) (λq104=>(64-q104.1).toNat) (λq104=>[(0,pz p),(1,.bool false),(5,pz b1),(6,.int .i64 (((fm (pF B S) g44.toNat++fm (s1F B S (g44+1)) q104.1.toNat).length:Nat):Int)),(7,pz b12),(8,.int .u64 (allowed B S.turn)),(10,.int .i8 (g44+1)),(11,.int .u64 (Bd.of B (g44+1))),(39,.slice (some ⟨c.ap,c.apo,none⟩) 12 12),(40,.int .i64 ((12:Nat):Int)),(41,.int .i64 g44),(58,.int .i64 q104.1)]) (λ(q104:Int×Array Value×Mv) w_=>(0<=q104.1/\q104.1<=64)/\Mod [b1,b12] w85 w_/\At w_ b1 (.cells q104.2.1 176 (0,0))/\At w_ b12 (.cells (mvCells (.pointer none) q104.2.2) 98 (0,0))/\MvArr q104.2.1 (fm (pF B S) g44.toNat++fm (s1F B S (g44+1)) q104.1.toNat)) (0,A45,M46) ⟨by constructor<;>dsimp only<;>omega,Mod.refl _ _,ya,ya,he112▸hx54⟩ ?_;rintro ⟨g101,A102,M103⟩ w105 ⟨⟨h107,h108⟩,v106,hf109,hf110,hx111⟩;replace h107:0<=g101:=h107;replace h108:g101<=64:=h108;replace hf109:At w105 b1 (.cells A102 176 (0,0)):=hf109;replace hf110:At w105 b12 (.cells (mvCells (.pointer none) M103) 98 (0,0)):=hf110;replace hx111:MvArr A102 (fm (pF B S) g44.toNat++fm (s1F B S (g44+1)) g101.toNat):=hx111;refine zw<|yS 1<|zz<|w_seq<|yC (decide (g101<64)) (λhc118=>?_) λhc118=>?_
  ·have dhc118:=of_decide_eq_true hc118;refine w_skip<|n_then<|w_seq<|w_block<|zw<|yS 2<|zz<|w_seq<|zw<|zs 3 [rz 0 p,(1,.bool false),rz 5 b1,iz 6 (((fm (pF B S) g44.toNat++fm (s1F B S (g44+1)) g101.toNat).length:Nat):Int),rz 7 b12,(8,.int .u64 (allowed B S.turn)),(10,.int .i8 (g44+1)),(11,.int .u64 (Bd.of B (g44+1))),iz 12 g101,(39,.slice (some ⟨c.ap,c.apo,none⟩) 12 12),iz 40 ((12:Nat):Int),iz 41 g44,iz 58 g101,(61,.int .u64 (Bd.of B (g44+1))),(63,.int .i8 (IntKind.i8.wrap g101))] ?_;rw [(show ((IntKind.i8.wrap g101):Int)=g101 from i8_in' (by omega) (by omega))];refine zk (some 64) (c99 g101 w105 (by omega) (by omega)) fun w119 v120=>yS 2<|zz<|yC ((band (Bd.of B (g44+1)) (bbSq g101))==0) (λhc129=>?_) λhc129=>?_
   ·have dhc129:=eq_of_beq hc129;refine w_exit<|x_then<|x_hit<|n_then<|w_region<|yS 2<|yW 58 (zi (g101+1) (by omega) (by omega))<|ze ?_;have he130:fm (pF B S) g44.toNat++fm (s1F B S (g44+1)) g101.toNat=fm (pF B S) g44.toNat++fm (s1F B S (g44+1)) (g101+1).toNat:=by rw [fm_succ (by omega),←List.append_assoc];simp only [s1F,dest,hc79,hc94,hc129,cond_true,cond_false,Bool.not_true,Bool.not_false,List.append_nil]
    rw [he130];have hX132:MvArr A102 (fm (pF B S) g44.toNat++fm (s1F B S (g44+1)) (g101+1).toNat):=he130▸hx111;have hM133:At w119 b12 (.cells (mvCells (.pointer none) M103) 98 (0,0)):=ya;obtain ⟨Aq134,hA131,hX132⟩:∃A,At w119 b1 (.cells A 176 (0,0))/\MvArr A (fm (pF B S) g44.toNat++fm (s1F B S (g44+1)) (g101+1).toNat):=⟨_,ya,hX132⟩;exact zl ((g101+1),Aq134,M103) ⟨by constructor<;>dsimp only<;>omega,yt,hA131,hM133,hX132⟩ (hlt:=(by dsimp only;omega))
   have dhc129:=ne_of_beq_false hc129;refine w_skip<|zn<|yS 2<|zk (some 69) (c73 (g44+1) w119) fun w135 v136=>zs 2 [rz 0 p,(1,.bool false),rz 5 b1,iz 6 (((fm (pF B S) g44.toNat++fm (s1F B S (g44+1)) g101.toNat).length:Nat):Int),rz 7 b12,(8,.int .u64 (allowed B S.turn)),(10,.int .i8 (g44+1)),(11,.int .u64 (Bd.of B (g44+1))),iz 12 g101,(39,.slice (some ⟨c.ap,c.apo,none⟩) 12 12),iz 40 ((12:Nat):Int),iz 41 g44,iz 58 g101,rz 67 p,(69,.int .i8 (pType (g44+1))),(71,.int .i8 (IntKind.i8.wrap g101))] ?_;rw [(show ((IntKind.i8.wrap g101):Int)=g101 from i8_in' (by omega) (by omega))];refine zk (some 72) (c134 (yA w135 p) (yA w135 b) (yG w135) (pType (g44+1)) g101 (by omega) (by assumption)) fun w145 v146=>yS 3<|zz<|w_seq<|zw<|yS 2<|zz<|yC ((band (possMv B S (pType (g44+1)) g101) (allowed B S.turn))==0) (λhc155=>?_) λhc155=>?_
   ·have dhc155:=eq_of_beq hc155;refine w_exit<|x_then<|x_hit<|n_then<|w_region<|yS 2<|yW 58 (zi (g101+1) (by omega) (by omega))<|ze ?_;have he156:fm (pF B S) g44.toNat++fm (s1F B S (g44+1)) g101.toNat=fm (pF B S) g44.toNat++fm (s1F B S (g44+1)) (g101+1).toNat:=by rw [fm_succ (by omega),←List.append_assoc];simp only [s1F,dest,hc79,hc94,hc129,hc155,cond_true,cond_false,Bool.not_true,Bool.not_false,List.append_nil]
    rw [he156];have hX158:MvArr A102 (fm (pF B S) g44.toNat++fm (s1F B S (g44+1)) (g101+1).toNat):=he156▸hx111;have hM159:At w145 b12 (.cells (mvCells (.pointer none) M103) 98 (0,0)):=ya;obtain ⟨Aq160,hA157,hX158⟩:∃A,At w145 b1 (.cells A 176 (0,0))/\MvArr A (fm (pF B S) g44.toNat++fm (s1F B S (g44+1)) (g101+1).toNat):=⟨_,ya,hX158⟩;exact zl ((g101+1),Aq160,M103) ⟨by constructor<;>dsimp only<;>omega,yt,hA157,hM159,hX158⟩ (hlt:=(by dsimp only;omega))
   have dhc155:=ne_of_beq_false hc155;refine w_skip<|n_then<|w_seq ?_;have hb161:(fm (pF B S) g44.toNat).length+(fm (s1F B S (g44+1)) g101.toNat).length+(fm (s2F B S (g44+1) g101) 64).length<=218:=by
    have hh:=fm_le (f:=s1F B S (g44+1)) (n:=64) (j:=g101) (by omega) (by omega);simp only [s1F,dest,hc79,hc94,hc129,hc155,cond_true,cond_false] at hh;have h2:=hb100;omega
   refine w_region<|yS 1<|zz<|w_block ?_;have he173:fm (pF B S) g44.toNat++fm (s1F B S (g44+1)) g101.toNat=fm (pF B S) g44.toNat++fm (s1F B S (g44+1)) g101.toNat++fm (s2F B S (g44+1) g101) (0:Int).toNat:=by simp [fm]
   rw [he173];refine yP (γ:=Int×Array Value×Mv) (λq165=>(64-q165.1).toNat) (λq165=>[(0,pz p),(1,.bool false),(5,pz b1),(6,.int .i64 (((fm (pF B S) g44.toNat++fm (s1F B S (g44+1)) g101.toNat++fm (s2F B S (g44+1) g101) q165.1.toNat).length:Nat):Int)),(7,pz b12),(8,.int .u64 (allowed B S.turn)),(10,.int .i8 (g44+1)),(11,.int .u64 (Bd.of B (g44+1))),(12,.int .i64 g101),(13,.int .u64 (band (possMv B S (pType (g44+1)) g101) (allowed B S.turn))),(39,.slice (some ⟨c.ap,c.apo,none⟩) 12 12),(40,.int .i64 ((12:Nat):Int)),(41,.int .i64 g44),(58,.int .i64 g101),(77,.int .i64 q165.1)]) (λ(q165:Int×Array Value×Mv) w_=>(0<=q165.1/\q165.1<=64)/\Mod [b1,b12] w145 w_/\At w_ b1 (.cells q165.2.1 176 (0,0))/\At w_ b12 (.cells (mvCells (.pointer none) q165.2.2) 98 (0,0))/\MvArr q165.2.1 (fm (pF B S) g44.toNat++fm (s1F B S (g44+1)) g101.toNat++fm (s2F B S (g44+1) g101) q165.1.toNat)) (0,A102,M103) ⟨by constructor<;>dsimp only<;>omega,Mod.refl _ _,ya,ya,he173▸hx111⟩ ?_;rintro ⟨g162,A163,M164⟩ w166 ⟨⟨h168,h169⟩,v167,hf170,hf171,hx172⟩;replace h168:0<=g162:=h168;replace h169:g162<=64:=h169;replace hf170:At w166 b1 (.cells A163 176 (0,0)):=hf170;replace hf171:At w166 b12 (.cells (mvCells (.pointer none) M164) 98 (0,0)):=hf171;replace hx172:MvArr A163 (fm (pF B S) g44.toNat++fm (s1F B S (g44+1)) g101.toNat++fm (s2F B S (g44+1) g101) g162.toNat):=hx172;refine zw<|yS 1<|zz<|w_seq<|yC (decide (g162<64)) (λhc180=>?_) λhc180=>?_
   ·have dhc180:=of_decide_eq_true hc180;refine w_skip<|n_then<|w_seq<|w_block<|zw<|yS 2<|zz<|w_seq<|zw<|zs 3 [rz 0 p,(1,.bool false),rz 5 b1,iz 6 (((fm (pF B S) g44.toNat++fm (s1F B S (g44+1)) g101.toNat++fm (s2F B S (g44+1) g101) g162.toNat).length:Nat):Int),rz 7 b12,(8,.int .u64 (allowed B S.turn)),(10,.int .i8 (g44+1)),(11,.int .u64 (Bd.of B (g44+1))),iz 12 g101,(13,.int .u64 (band (possMv B S (pType (g44+1)) g101) (allowed B S.turn))),iz 14 g162,(39,.slice (some ⟨c.ap,c.apo,none⟩) 12 12),iz 40 ((12:Nat):Int),iz 41 g44,iz 58 g101,iz 77 g162,(80,.int .u64 (band (possMv B S (pType (g44+1)) g101) (allowed B S.turn))),(82,.int .i8 (IntKind.i8.wrap g162))] ?_;rw [(show ((IntKind.i8.wrap g162):Int)=g162 from i8_in' (by omega) (by omega))];refine zk (some 83) (c99 g162 w166 (by omega) (by omega)) ?_;intro w181 v182;have hf185:=At.on hf170 v182;have hf186:=At.on hf171 v182;have v191:=Mod.trans v167 (Mod.of_nil v182);refine yS 2<|zz<|yC ((band (band (possMv B S (pType (g44+1)) g101) (allowed B S.turn)) (bbSq g162))==0) (λhc192=>?_) λhc192=>?_
    ·have dhc192:=eq_of_beq hc192;refine w_exit<|x_then<|x_hit<|n_then<|w_region<|yS 2<|yW 77 (zi (g162+1) (by omega) (by omega))<|ze ?_;have he193:fm (pF B S) g44.toNat++fm (s1F B S (g44+1)) g101.toNat++fm (s2F B S (g44+1) g101) g162.toNat=fm (pF B S) g44.toNat++fm (s1F B S (g44+1)) g101.toNat++fm (s2F B S (g44+1) g101) (g162+1).toNat:=by rw [fm_succ (by omega),←List.append_assoc];simp only [s2F,dest,isPromo,keepM,plainM,hc79,hc94,hc129,hc155,hc192,cond_true,cond_false,Bool.not_true,Bool.not_false,List.append_nil]
     rw [he193];have hX195:MvArr A163 (fm (pF B S) g44.toNat++fm (s1F B S (g44+1)) g101.toNat++fm (s2F B S (g44+1) g101) (g162+1).toNat):=he193▸hx172;have hM196:At w181 b12 (.cells (mvCells (.pointer none) M164) 98 (0,0)):=hf186;obtain ⟨Aq197,hA194,hX195⟩:∃A,At w181 b1 (.cells A 176 (0,0))/\MvArr A (fm (pF B S) g44.toNat++fm (s1F B S (g44+1)) g101.toNat++fm (s2F B S (g44+1) g101) (g162+1).toNat):=⟨_,hf185,hX195⟩;exact zl ((g162+1),Aq197,M164) ⟨by constructor<;>dsimp only<;>omega,v191,hA194,hM196,hX195⟩ (hlt:=(by dsimp only;omega))
    have dhc192:=ne_of_beq_false hc192;refine w_skip<|zn<|zs 3 [rz 0 p,(1,.bool false),rz 5 b1,iz 6 (((fm (pF B S) g44.toNat++fm (s1F B S (g44+1)) g101.toNat++fm (s2F B S (g44+1) g101) g162.toNat).length:Nat):Int),rz 7 b12,(8,.int .u64 (allowed B S.turn)),(10,.int .i8 (g44+1)),(11,.int .u64 (Bd.of B (g44+1))),iz 12 g101,(13,.int .u64 (band (possMv B S (pType (g44+1)) g101) (allowed B S.turn))),iz 14 g162,(39,.slice (some ⟨c.ap,c.apo,none⟩) 12 12),iz 40 ((12:Nat):Int),iz 41 g44,iz 58 g101,iz 77 g162,(87,.int .i8 (IntKind.i8.wrap g101)),(88,.pointer (some ⟨b12,8,none⟩))] ?_;rw [(show ((IntKind.i8.wrap g101):Int)=g101 from i8_in' (by omega) (by omega))];refine zS b12 8 (.int .i8 g101) ?_;intro w198 hu199;have hf200:At w198 b12 (.cells (mvCells (.pointer none) ⟨M164.tags,g101,M164.s2,M164.promo⟩) 98 (0,0)):=hu199.at_;have hf203:=At.keep hf185 hu199.mod (not_mem1 (At.ne hf185 hf186 rfl));have v208:=Mod.fresh' v191 hu199.mod (by simp<;>omega);refine zx<|zs 3 [rz 0 p,(1,.bool false),rz 5 b1,iz 6 (((fm (pF B S) g44.toNat++fm (s1F B S (g44+1)) g101.toNat++fm (s2F B S (g44+1) g101) g162.toNat).length:Nat):Int),rz 7 b12,(8,.int .u64 (allowed B S.turn)),(10,.int .i8 (g44+1)),(11,.int .u64 (Bd.of B (g44+1))),iz 12 g101,(13,.int .u64 (band (possMv B S (pType (g44+1)) g101) (allowed B S.turn))),iz 14 g162,(39,.slice (some ⟨c.ap,c.apo,none⟩) 12 12),iz 40 ((12:Nat):Int),iz 41 g44,iz 58 g101,iz 77 g162,(90,.int .i8 (IntKind.i8.wrap g162)),(91,.pointer (some ⟨b12,9,none⟩))] ?_;rw [(show ((IntKind.i8.wrap g162):Int)=g162 from i8_in' (by omega) (by omega))];refine zS b12 9 (.int .i8 g162) ?_;intro w209 hu210;have hf211:At w209 b12 (.cells (mvCells (.pointer none) ⟨M164.tags,g101,g162,M164.promo⟩) 98 (0,0)):=hu210.at_;have hf214:=At.keep hf203 hu210.mod (not_mem1 (At.ne hf203 hf200 rfl));have v219:=Mod.fresh' v208 hu210.mod (by simp<;>omega);refine zx<|yS 1<|zS b12 7 (.int .u16 0) ?_;intro w220 hu221;have hf222:At w220 b12 (.cells (mvCells (.pointer none) ⟨0,g101,g162,M164.promo⟩) 98 (0,0)):=hu221.at_;have hf225:=At.keep hf214 hu221.mod (not_mem1 (At.ne hf214 hf211 rfl));have v230:=Mod.fresh' v219 hu221.mod (by simp<;>omega);refine zz<|w_cut (γ:=Unit) (λ_=>[(0,pz p),(1,.bool false),(5,pz b1),(6,.int .i64 (((fm (pF B S) g44.toNat++fm (s1F B S (g44+1)) g101.toNat++fm (s2F B S (g44+1) g101) g162.toNat).length:Nat):Int)),(7,pz b12),(8,.int .u64 (allowed B S.turn)),(10,.int .i8 (g44+1)),(11,.int .u64 (Bd.of B (g44+1))),(12,.int .i64 g101),(13,.int .u64 (band (possMv B S (pType (g44+1)) g101) (allowed B S.turn))),(39,.slice (some ⟨c.ap,c.apo,none⟩) 12 12),(40,.int .i64 ((12:Nat):Int)),(41,.int .i64 g44),(58,.int .i64 g101),(77,.int .i64 g162),(110,.bool ((((g44+1)==6)&&((sqRank (IntKind.i8.wrap g162))==7))||(((g44+1)==12)&&((sqRank (IntKind.i8.wrap g162))==0))))]) (λ_ w_=>Mod [] w220 w_) ?_ ?_
    ·refine w_region<|yS 3<|yE 95 (.bool ((g44+1)==6)) ?_;cases hc234:((g44+1)==6)
     ·refine yS 9<|yE 104 (.bool ((g44+1)==12)) ?_;cases hc235:((g44+1)==12)
      ·exact yS 6<|ze<|zb () yt
      exact yS 2<|zk (some 107) (c132 (IntKind.i8.wrap g162) w220) fun w236 v237=>yS 3<|ze<|zb () yt
     refine yS 2<|zk (some 98) (c132 (IntKind.i8.wrap g162) w220) fun w247 v248=>yS 3<|yE 101 (.bool ((sqRank (IntKind.i8.wrap g162))==7)) ?_;cases hc258:((sqRank (IntKind.i8.wrap g162))==7)
     ·refine yS 3<|yE 104 (.bool ((g44+1)==12)) ?_;cases hc259:((g44+1)==12)
      ·exact yS 6<|ze<|zb () yt
      exact yS 2<|zk (some 107) (c132 (IntKind.i8.wrap g162) w247) fun w260 v261=>yS 3<|ze<|zb () yt
     exact yS 9<|ze<|zb () yt
    intro _ w231 v232;have hf273:=At.on hf225 v232;have hf274:=At.on hf222 v232;have v279:=Mod.trans v230 (Mod.of_nil v232);rw [(show ((IntKind.i8.wrap g162):Int)=g162 from i8_in' (by omega) (by omega))];refine zc (λhc280=>?_) λhc280=>?_
    ·refine w_seq ?_;have hb281:(fm (pF B S) g44.toNat).length+(fm (s1F B S (g44+1)) g101.toNat).length+(fm (s2F B S (g44+1) g101) g162.toNat).length+(fm (promoF B S g101 g162) 4).length<=218:=by
      have hh:=fm_le (f:=s2F B S (g44+1) g101) (n:=64) (j:=g162) (by omega) (by omega);have e:s2F B S (g44+1) g101 g162=fm (promoF B S g101 g162) 4:=by simp only [s2F,dest,isPromo,hc79,hc94,hc129,hc155,hc192,hc280,cond_true,cond_false]
      rw [e] at hh;omega
     refine w_region<|yO 3 [.cell ⟨7,0,none⟩ (.slice (some ⟨c.pp,c.ppo,none⟩) 4 4)] (Glob.g7)<|zz<|w_block ?_;have he293:fm (pF B S) g44.toNat++fm (s1F B S (g44+1)) g101.toNat++fm (s2F B S (g44+1) g101) g162.toNat=fm (pF B S) g44.toNat++fm (s1F B S (g44+1)) g101.toNat++fm (s2F B S (g44+1) g101) g162.toNat++fm (promoF B S g101 g162) (0:Int).toNat:=by simp [fm]
     rw [he293];refine yP (γ:=Int×Array Value×Int) (λq285=>(4-q285.1).toNat) (λq285=>[(0,pz p),(1,.bool false),(5,pz b1),(6,.int .i64 (((fm (pF B S) g44.toNat++fm (s1F B S (g44+1)) g101.toNat++fm (s2F B S (g44+1) g101) g162.toNat++fm (promoF B S g101 g162) q285.1.toNat).length:Nat):Int)),(7,pz b12),(8,.int .u64 (allowed B S.turn)),(10,.int .i8 (g44+1)),(11,.int .u64 (Bd.of B (g44+1))),(12,.int .i64 g101),(13,.int .u64 (band (possMv B S (pType (g44+1)) g101) (allowed B S.turn))),(39,.slice (some ⟨c.ap,c.apo,none⟩) 12 12),(40,.int .i64 ((12:Nat):Int)),(41,.int .i64 g44),(58,.int .i64 g101),(77,.int .i64 g162),(111,.slice (some ⟨c.pp,c.ppo,none⟩) 4 4),(112,.int .i64 ((4:Nat):Int)),(113,.int .i64 q285.1)]) (λ(q285:Int×Array Value×Int) w_=>(0<=q285.1/\q285.1<=4)/\Mod [b1,b12] w231 w_/\At w_ b1 (.cells q285.2.1 176 (0,0))/\At w_ b12 (.cells (mvCells (.pointer none) ⟨(promoT B S g101 g162 q285.1.toNat),g101,g162,q285.2.2⟩) 98 (0,0))/\MvArr q285.2.1 (fm (pF B S) g44.toNat++fm (s1F B S (g44+1)) g101.toNat++fm (s2F B S (g44+1) g101) g162.toNat++fm (promoF B S g101 g162) q285.1.toNat)) (0,A163,M164.promo) ⟨by constructor<;>dsimp only<;>omega,Mod.refl _ _,hf273,hf274,he293▸hx172⟩ ?_;rintro ⟨g282,A283,M284⟩ w286 ⟨⟨h288,h289⟩,v287,hf290,hf291,hx292⟩;replace h288:0<=g282:=h288;replace h289:g282<=4:=h289;replace hf290:At w286 b1 (.cells A283 176 (0,0)):=hf290;replace hf291:At w286 b12 (.cells (mvCells (.pointer none) ⟨(promoT B S g101 g162 g282.toNat),g101,g162,M284⟩) 98 (0,0)):=hf291;replace hx292:MvArr A283 (fm (pF B S) g44.toNat++fm (s1F B S (g44+1)) g101.toNat++fm (s2F B S (g44+1) g101) g162.toNat++fm (promoF B S g101 g162) g282.toNat):=hx292;refine zw<|yS 1<|zz<|w_seq<|yC (decide (g282<((4:Nat):Int))) (λhc301=>?_) λhc301=>?_
     ·have dhc301:=of_decide_eq_true hc301;refine w_skip<|n_then<|w_seq<|w_block<|zw<|yO 3 [.prop (0<=g282/\g282<((4:Nat):Int)),.cell ⟨c.pp,(c.ppo+g282.toNat*1),none⟩ (.int .i8 (((g282.toNat*1:Nat):Int)+2))] (⟨(zh (by omega)),(Glob.promo (g282.toNat*1) (by omega))⟩)<|ze ?_;rw [(show ((((g282.toNat*1:Nat):Int)+2):Int)=(g282+2) from (by omega))];refine zn<|yS 2<|reg_store b12 10 (.int .i8 (g282+2)) none (by kernel_rfl) hf291 (Nat.le_of_ble_eq_true rfl) rfl fun w302 hu303=>zx<|yS 1 ?_;have hq314:0<=g101/\g101<=63:=by omega
      have hq315:0<=g162/\g162<=63:=by omega
      have hq316:=hpc (g44+1) g101 (by omega) (by omega) hc129;refine reg_call 135 [pz b12,pz p] (some 120) (by kernel_rfl) (c135 (M:=(⟨(promoT B S g101 g162 g282.toNat),g101,g162,(g282+2)⟩:Mv)) ya ya ya yg hq314 hq315 hq316 (pColor_or hq316) (λ_=>(show 1<=(g282+2)/\(g282+2)<=6 from (by omega))) (λ_=>newP_ok (show 1<=(g282+2)/\(g282+2)<=6 from (by omega)) (pColor_or hq316)) (by omega) (by assumption) (by assumption)) ?_;rintro _ w317 ⟨rfl,v318,hf319⟩;refine ⟨_,rfl,?_⟩;refine zx<|zk (some 121) (c74 hf319 32) fun w329 v330=>yS 1<|zz<|yC (!(hasTag (⟨(tg4 B S (⟨(promoT B S g101 g162 g282.toNat),g101,g162,(g282+2)⟩:Mv)),g101,g162,(g282+2)⟩:Mv) 32)) (λhc341=>?_) λhc341=>?_
      ·have nhc341:(hasTag (⟨(tg4 B S (⟨(promoT B S g101 g162 g282.toNat),g101,g162,(g282+2)⟩:Mv)),g101,g162,(g282+2)⟩:Mv) 32)=false:=by simpa using hc341
       refine w_seq ?_;have hh:=fm_le (f:=promoF B S g101 g162) (n:=4) (j:=g282) (by omega) (by omega);have he:(promoF B S g101 g162 g282).length=1:=by simp only [promoF,keepM,nhc341,cond_false];rfl
       rw [he] at hh;have hlt:(fm (pF B S) g44.toNat++fm (s1F B S (g44+1)) g101.toNat++fm (s2F B S (g44+1) g101) g162.toNat++fm (promoF B S g101 g162) g282.toNat).length<218:=by simp only [List.length_append];omega
       refine w_region<|yV 3 [.row ⟨b12,0,none⟩ 11 (mvCells (.pointer none) ⟨(tg4 B S (⟨(promoT B S g101 g162 g282.toNat),g101,g162,(g282+2)⟩:Mv)),g101,g162,(g282+2)⟩),.prop (0<=(((fm (pF B S) g44.toNat++fm (s1F B S (g44+1)) g101.toNat++fm (s2F B S (g44+1) g101) g162.toNat++fm (promoF B S g101 g162) g282.toNat).length:Nat):Int)/\(((fm (pF B S) g44.toNat++fm (s1F B S (g44+1)) g101.toNat++fm (s2F B S (g44+1) g101) g162.toNat++fm (promoF B S g101 g162) g282.toNat).length:Nat):Int)<((218:Nat):Int))] [.agg (mvCells (.pointer none) ⟨(tg4 B S (⟨(promoT B S g101 g162 g282.toNat),g101,g162,(g282+2)⟩:Mv)),g101,g162,(g282+2)⟩)] (⟨At.row ya rfl,(zh (by omega))⟩)<|reg_store b1 (0+(((fm (pF B S) g44.toNat++fm (s1F B S (g44+1)) g101.toNat++fm (s2F B S (g44+1) g101) g162.toNat++fm (promoF B S g101 g162) g282.toNat).length:Nat):Int).toNat*11) (.agg (mvCells (.pointer none) ⟨(tg4 B S (⟨(promoT B S g101 g162 g282.toNat),g101,g162,(g282+2)⟩:Mv)),g101,g162,(g282+2)⟩)) none (by kernel_rfl) ya (by rw [(MvArr.size hx292)];show (0+(((fm (pF B S) g44.toNat++fm (s1F B S (g44+1)) g101.toNat++fm (s2F B S (g44+1) g101) g162.toNat++fm (promoF B S g101 g162) g282.toNat).length:Nat):Int).toNat*11)+11<=2398;omega) rfl ?_;intro w342 hu343;have hx354:MvArr (storeRow A283 (0+(((fm (pF B S) g44.toNat++fm (s1F B S (g44+1)) g101.toNat++fm (s2F B S (g44+1) g101) g162.toNat++fm (promoF B S g101 g162) g282.toNat).length:Nat):Int).toNat*11) (mvCells (.pointer none) ⟨(tg4 B S (⟨(promoT B S g101 g162 g282.toNat),g101,g162,(g282+2)⟩:Mv)),g101,g162,(g282+2)⟩).toList) (fm (pF B S) g44.toNat++fm (s1F B S (g44+1)) g101.toNat++fm (s2F B S (g44+1) g101) g162.toNat++fm (promoF B S g101 g162) g282.toNat++[(⟨(tg4 B S (⟨(promoT B S g101 g162 g282.toNat),g101,g162,(g282+2)⟩:Mv)),g101,g162,(g282+2)⟩:Mv)]):=MvArr.push hx292 (by simp only [List.length_append];omega) (by omega);refine zx<|zs 3 [rz 0 p,(1,.bool false),rz 5 b1,iz 6 (IntKind.i64.wrap ((((fm (pF B S) g44.toNat++fm (s1F B S (g44+1)) g101.toNat++fm (s2F B S (g44+1) g101) g162.toNat++fm (promoF B S g101 g162) g282.toNat).length:Nat):Int)+1)),rz 7 b12,(8,.int .u64 (allowed B S.turn)),(10,.int .i8 (g44+1)),(11,.int .u64 (Bd.of B (g44+1))),iz 12 g101,(13,.int .u64 (band (possMv B S (pType (g44+1)) g101) (allowed B S.turn))),(39,.slice (some ⟨c.ap,c.apo,none⟩) 12 12),iz 40 ((12:Nat):Int),iz 41 g44,iz 58 g101,iz 77 g162,(111,.slice (some ⟨c.pp,c.ppo,none⟩) 4 4),iz 112 ((4:Nat):Int),iz 113 g282]<|ze ?_;rw [(show ((IntKind.i64.wrap ((((fm (pF B S) g44.toNat++fm (s1F B S (g44+1)) g101.toNat++fm (s2F B S (g44+1) g101) g162.toNat++fm (promoF B S g101 g162) g282.toNat).length:Nat):Int)+1)):Int)=((((fm (pF B S) g44.toNat++fm (s1F B S (g44+1)) g101.toNat++fm (s2F B S (g44+1) g101) g162.toNat++fm (promoF B S g101 g162) g282.toNat++[(⟨(tg4 B S (⟨(promoT B S g101 g162 g282.toNat),g101,g162,(g282+2)⟩:Mv)),g101,g162,(g282+2)⟩:Mv)])).length:Nat):Int) from (by rw [i64_in' (by omega) (by omega)];simp only [List.length_append,List.length_cons,List.length_nil];omega))]
       refine zn<|yS 1<|zz<|yF<|w_skip<|n_block<|n_then<|w_region<|zs 2 [rz 0 p,(1,.bool false),rz 5 b1,iz 6 ((((fm (pF B S) g44.toNat++fm (s1F B S (g44+1)) g101.toNat++fm (s2F B S (g44+1) g101) g162.toNat++fm (promoF B S g101 g162) g282.toNat++[(⟨(tg4 B S (⟨(promoT B S g101 g162 g282.toNat),g101,g162,(g282+2)⟩:Mv)),g101,g162,(g282+2)⟩:Mv)])).length:Nat):Int),rz 7 b12,(8,.int .u64 (allowed B S.turn)),(10,.int .i8 (g44+1)),(11,.int .u64 (Bd.of B (g44+1))),iz 12 g101,(13,.int .u64 (band (possMv B S (pType (g44+1)) g101) (allowed B S.turn))),(39,.slice (some ⟨c.ap,c.apo,none⟩) 12 12),iz 40 ((12:Nat):Int),iz 41 g44,iz 58 g101,iz 77 g162,(111,.slice (some ⟨c.pp,c.ppo,none⟩) 4 4),iz 112 ((4:Nat):Int),iz 113 (IntKind.i64.wrap (g282+1))]<|ze ?_;rw [zi (g282+1) (by omega) (by omega)];have he355:(fm (pF B S) g44.toNat++fm (s1F B S (g44+1)) g101.toNat++fm (s2F B S (g44+1) g101) g162.toNat++fm (promoF B S g101 g162) g282.toNat++[(⟨(tg4 B S (⟨(promoT B S g101 g162 g282.toNat),g101,g162,(g282+2)⟩:Mv)),g101,g162,(g282+2)⟩:Mv)])=fm (pF B S) g44.toNat++fm (s1F B S (g44+1)) g101.toNat++fm (s2F B S (g44+1) g101) g162.toNat++fm (promoF B S g101 g162) (g282+1).toNat:=by rw [fm_succ (by omega),←List.append_assoc];simp only [promoF,keepM,hc79,hc94,hc129,hc155,hc192,hc280,hc341,nhc341,cond_true,cond_false,Bool.not_true,Bool.not_false,List.append_nil]
       rw [he355];have hX357:MvArr (storeRow A283 (0+(((fm (pF B S) g44.toNat++fm (s1F B S (g44+1)) g101.toNat++fm (s2F B S (g44+1) g101) g162.toNat++fm (promoF B S g101 g162) g282.toNat).length:Nat):Int).toNat*11) (mvCells (.pointer none) ⟨(tg4 B S (⟨(promoT B S g101 g162 g282.toNat),g101,g162,(g282+2)⟩:Mv)),g101,g162,(g282+2)⟩).toList) (fm (pF B S) g44.toNat++fm (s1F B S (g44+1)) g101.toNat++fm (s2F B S (g44+1) g101) g162.toNat++fm (promoF B S g101 g162) (g282+1).toNat):=he355▸hx354;have hM358:At w342 b12 (.cells (mvCells (.pointer none) ⟨(promoT B S g101 g162 (g282+1).toNat),g101,g162,(g282+2)⟩) 98 (0,0)):=(at_cast ya (mv_eq (tags_eq (promoT_succ (by omega)).symm)));obtain ⟨Aq359,hA356,hX357⟩:∃A,At w342 b1 (.cells A 176 (0,0))/\MvArr A (fm (pF B S) g44.toNat++fm (s1F B S (g44+1)) g101.toNat++fm (s2F B S (g44+1) g101) g162.toNat++fm (promoF B S g101 g162) (g282+1).toNat):=⟨_,ya,hX357⟩;exact zl ((g282+1),Aq359,(g282+2)) ⟨by constructor<;>dsimp only<;>omega,yt,hA356,hM358,hX357⟩ (hlt:=(by dsimp only;omega))
      have nhc341:(hasTag (⟨(tg4 B S (⟨(promoT B S g101 g162 g282.toNat),g101,g162,(g282+2)⟩:Mv)),g101,g162,(g282+2)⟩:Mv) 32)=true:=by simpa using hc341
      refine w_skip<|n_block<|n_then<|w_region<|zs 2 [rz 0 p,(1,.bool false),rz 5 b1,iz 6 (((fm (pF B S) g44.toNat++fm (s1F B S (g44+1)) g101.toNat++fm (s2F B S (g44+1) g101) g162.toNat++fm (promoF B S g101 g162) g282.toNat).length:Nat):Int),rz 7 b12,(8,.int .u64 (allowed B S.turn)),(10,.int .i8 (g44+1)),(11,.int .u64 (Bd.of B (g44+1))),iz 12 g101,(13,.int .u64 (band (possMv B S (pType (g44+1)) g101) (allowed B S.turn))),(39,.slice (some ⟨c.ap,c.apo,none⟩) 12 12),iz 40 ((12:Nat):Int),iz 41 g44,iz 58 g101,iz 77 g162,(111,.slice (some ⟨c.pp,c.ppo,none⟩) 4 4),iz 112 ((4:Nat):Int),iz 113 (IntKind.i64.wrap (g282+1))]<|ze ?_;rw [zi (g282+1) (by omega) (by omega)];have he360:fm (pF B S) g44.toNat++fm (s1F B S (g44+1)) g101.toNat++fm (s2F B S (g44+1) g101) g162.toNat++fm (promoF B S g101 g162) g282.toNat=fm (pF B S) g44.toNat++fm (s1F B S (g44+1)) g101.toNat++fm (s2F B S (g44+1) g101) g162.toNat++fm (promoF B S g101 g162) (g282+1).toNat:=by rw [fm_succ (by omega),←List.append_assoc];simp only [promoF,keepM,hc79,hc94,hc129,hc155,hc192,hc280,hc341,nhc341,cond_true,cond_false,Bool.not_true,Bool.not_false,List.append_nil]
      rw [he360];have hX362:MvArr A283 (fm (pF B S) g44.toNat++fm (s1F B S (g44+1)) g101.toNat++fm (s2F B S (g44+1) g101) g162.toNat++fm (promoF B S g101 g162) (g282+1).toNat):=he360▸hx292;have hM363:At w329 b12 (.cells (mvCells (.pointer none) ⟨(promoT B S g101 g162 (g282+1).toNat),g101,g162,(g282+2)⟩) 98 (0,0)):=(at_cast ya (mv_eq (tags_eq (promoT_succ (by omega)).symm)));obtain ⟨Aq364,hA361,hX362⟩:∃A,At w329 b1 (.cells A 176 (0,0))/\MvArr A (fm (pF B S) g44.toNat++fm (s1F B S (g44+1)) g101.toNat++fm (s2F B S (g44+1) g101) g162.toNat++fm (promoF B S g101 g162) (g282+1).toNat):=⟨_,ya,hX362⟩;exact zl ((g282+1),Aq364,(g282+2)) ⟨by constructor<;>dsimp only<;>omega,yt,hA361,hM363,hX362⟩ (hlt:=(by dsimp only;omega))
     have dhc301:=of_decide_eq_false hc301;obtain rfl:g282=4:=by omega
     have hx365:MvArr A283 (fm (pF B S) g44.toNat++fm (s1F B S (g44+1)) g101.toNat++fm (s2F B S (g44+1) g101) g162.toNat++fm (promoF B S g101 g162) 4):=hx292;refine w_exit<|x_then<|x_then<|x_hit<|n_block<|n_then<|w_region<|zs 2 [rz 0 p,(1,.bool false),rz 5 b1,iz 6 (((fm (pF B S) g44.toNat++fm (s1F B S (g44+1)) g101.toNat++fm (s2F B S (g44+1) g101) g162.toNat++fm (promoF B S g101 g162) 4).length:Nat):Int),rz 7 b12,(8,.int .u64 (allowed B S.turn)),(10,.int .i8 (g44+1)),(11,.int .u64 (Bd.of B (g44+1))),iz 12 g101,(13,.int .u64 (band (possMv B S (pType (g44+1)) g101) (allowed B S.turn))),(39,.slice (some ⟨c.ap,c.apo,none⟩) 12 12),iz 40 ((12:Nat):Int),iz 41 g44,iz 58 g101,iz 77 (IntKind.i64.wrap (g162+1))]<|ze ?_;rw [zi (g162+1) (by omega) (by omega)];have he366:fm (pF B S) g44.toNat++fm (s1F B S (g44+1)) g101.toNat++fm (s2F B S (g44+1) g101) g162.toNat++fm (promoF B S g101 g162) 4=fm (pF B S) g44.toNat++fm (s1F B S (g44+1)) g101.toNat++fm (s2F B S (g44+1) g101) (g162+1).toNat:=by rw [fm_succ (by omega),←List.append_assoc];simp only [s2F,dest,isPromo,keepM,plainM,hc79,hc94,hc129,hc155,hc192,hc280,cond_true,cond_false,Bool.not_true,Bool.not_false,List.append_nil]
     rw [he366];have hX368:MvArr A283 (fm (pF B S) g44.toNat++fm (s1F B S (g44+1)) g101.toNat++fm (s2F B S (g44+1) g101) (g162+1).toNat):=he366▸hx365;have hM369:At w286 b12 (.cells (mvCells (.pointer none) (⟨(promoT B S g101 g162 (4:Int).toNat),g101,g162,M284⟩:Mv)) 98 (0,0)):=hf291;obtain ⟨Aq370,hA367,hX368⟩:∃A,At w286 b1 (.cells A 176 (0,0))/\MvArr A (fm (pF B S) g44.toNat++fm (s1F B S (g44+1)) g101.toNat++fm (s2F B S (g44+1) g101) (g162+1).toNat):=⟨_,hf290,hX368⟩;exact l_back ((g162+1),Aq370,(⟨(promoT B S g101 g162 (4:Int).toNat),g101,g162,M284⟩:Mv)) [0,1,5,6,7,8,10,11,12,13,39,40,41,58,77] (by kernel_rfl) (by dsimp only;omega) ⟨by constructor<;>dsimp only<;>omega,yt,hA367,hM369,hX368⟩
    refine zw<|yS 1<|reg_store b12 10 (.int .i8 0) none (by kernel_rfl) hf274 (Nat.le_of_ble_eq_true rfl) rfl ?_;intro w371 hu372;have hf373:At w371 b12 (.cells (mvCells (.pointer none) ⟨0,g101,g162,0⟩) 98 (0,0)):=hu372.at_;have hf376:=At.keep hf273 hu372.mod (not_mem1 (At.ne hf273 hf274 rfl));have v381:=Mod.fresh' v279 hu372.mod (by simp<;>omega);refine zx<|yS 1 ?_;have hq382:0<=g101/\g101<=63:=by omega
    have hq383:0<=g162/\g162<=63:=by omega
    have hq384:=hpc (g44+1) g101 (by omega) (by omega) hc129;refine reg_call 135 [pz b12,pz p] (some 136) (by kernel_rfl) (c135 (M:=(⟨0,g101,g162,0⟩:Mv)) ya ya hf373 yg hq382 hq383 hq384 (pColor_or hq384) (λh=>absurd rfl h) (λh=>absurd rfl h) (by omega) (by assumption) (by assumption)) ?_;rintro _ w385 ⟨rfl,v386,hf387⟩;refine ⟨_,rfl,?_⟩;have hf390:=At.keep hf376 v386 (not_mem1 (At.ne hf376 hf373 rfl));have v395:=Mod.fresh' v381 v386 (by simp<;>omega);refine zx<|zk (some 137) (c74 hf387 32) ?_;intro w396 v397;have hf400:=At.on hf390 v397;have hf401:=At.on hf387 v397;have v406:=Mod.trans v395 (Mod.of_nil v397);refine yS 1<|zz<|zc (λhc407=>?_) λhc407=>?_
    ·have nhc407:(hasTag (⟨(tg4 B S (⟨0,g101,g162,0⟩:Mv)),g101,g162,0⟩:Mv) 32)=false:=by simpa using hc407
     refine w_seq ?_;have hh:=fm_le (f:=s2F B S (g44+1) g101) (n:=64) (j:=g162) (by omega) (by omega);have he:(s2F B S (g44+1) g101 g162).length=1:=by simp only [s2F,dest,isPromo,plainM,keepM,hc79,hc94,hc129,hc155,hc192,hc280,hc407,nhc407,cond_true,cond_false];rfl
     rw [he] at hh;have hlt:(fm (pF B S) g44.toNat++fm (s1F B S (g44+1)) g101.toNat++fm (s2F B S (g44+1) g101) g162.toNat).length<218:=by simp only [List.length_append];omega
     refine w_region<|yV 3 [.row ⟨b12,0,none⟩ 11 (mvCells (.pointer none) ⟨(tg4 B S (⟨0,g101,g162,0⟩:Mv)),g101,g162,0⟩),.prop (0<=(((fm (pF B S) g44.toNat++fm (s1F B S (g44+1)) g101.toNat++fm (s2F B S (g44+1) g101) g162.toNat).length:Nat):Int)/\(((fm (pF B S) g44.toNat++fm (s1F B S (g44+1)) g101.toNat++fm (s2F B S (g44+1) g101) g162.toNat).length:Nat):Int)<((218:Nat):Int))] [.agg (mvCells (.pointer none) ⟨(tg4 B S (⟨0,g101,g162,0⟩:Mv)),g101,g162,0⟩)] (⟨At.row hf401 rfl,(zh (by omega))⟩)<|reg_store b1 (0+(((fm (pF B S) g44.toNat++fm (s1F B S (g44+1)) g101.toNat++fm (s2F B S (g44+1) g101) g162.toNat).length:Nat):Int).toNat*11) (.agg (mvCells (.pointer none) ⟨(tg4 B S (⟨0,g101,g162,0⟩:Mv)),g101,g162,0⟩)) none (by kernel_rfl) hf400 (by rw [(MvArr.size hx172)];show (0+(((fm (pF B S) g44.toNat++fm (s1F B S (g44+1)) g101.toNat++fm (s2F B S (g44+1) g101) g162.toNat).length:Nat):Int).toNat*11)+11<=2398;omega) rfl ?_;intro w408 hu409;have hf410:At w408 b1 (.cells (storeRow A163 (0+(((fm (pF B S) g44.toNat++fm (s1F B S (g44+1)) g101.toNat++fm (s2F B S (g44+1) g101) g162.toNat).length:Nat):Int).toNat*11) (mvCells (.pointer none) ⟨(tg4 B S (⟨0,g101,g162,0⟩:Mv)),g101,g162,0⟩).toList) 176 (0,0)):=hu409.at_;have hf413:=At.keep hf401 hu409.mod (not_mem1 (At.ne hf401 hf400 rfl));have v418:=Mod.fresh' v406 hu409.mod (by simp<;>omega);have hx419:MvArr (storeRow A163 (0+(((fm (pF B S) g44.toNat++fm (s1F B S (g44+1)) g101.toNat++fm (s2F B S (g44+1) g101) g162.toNat).length:Nat):Int).toNat*11) (mvCells (.pointer none) ⟨(tg4 B S (⟨0,g101,g162,0⟩:Mv)),g101,g162,0⟩).toList) (fm (pF B S) g44.toNat++fm (s1F B S (g44+1)) g101.toNat++fm (s2F B S (g44+1) g101) g162.toNat++[(⟨(tg4 B S (⟨0,g101,g162,0⟩:Mv)),g101,g162,0⟩:Mv)]):=MvArr.push hx172 (by simp only [List.length_append];omega) (by omega);refine zx<|zs 3 [rz 0 p,(1,.bool false),rz 5 b1,iz 6 (IntKind.i64.wrap ((((fm (pF B S) g44.toNat++fm (s1F B S (g44+1)) g101.toNat++fm (s2F B S (g44+1) g101) g162.toNat).length:Nat):Int)+1)),rz 7 b12,(8,.int .u64 (allowed B S.turn)),(10,.int .i8 (g44+1)),(11,.int .u64 (Bd.of B (g44+1))),iz 12 g101,(13,.int .u64 (band (possMv B S (pType (g44+1)) g101) (allowed B S.turn))),(39,.slice (some ⟨c.ap,c.apo,none⟩) 12 12),iz 40 ((12:Nat):Int),iz 41 g44,iz 58 g101,iz 77 g162]<|ze ?_;rw [(show ((IntKind.i64.wrap ((((fm (pF B S) g44.toNat++fm (s1F B S (g44+1)) g101.toNat++fm (s2F B S (g44+1) g101) g162.toNat).length:Nat):Int)+1)):Int)=((((fm (pF B S) g44.toNat++fm (s1F B S (g44+1)) g101.toNat++fm (s2F B S (g44+1) g101) g162.toNat++[(⟨(tg4 B S (⟨0,g101,g162,0⟩:Mv)),g101,g162,0⟩:Mv)])).length:Nat):Int) from (by rw [i64_in' (by omega) (by omega)];simp only [List.length_append,List.length_cons,List.length_nil];omega))];refine zn<|yS 1<|zz<|yF<|w_skip<|n_block<|n_then<|w_region<|zs 2 [rz 0 p,(1,.bool false),rz 5 b1,iz 6 ((((fm (pF B S) g44.toNat++fm (s1F B S (g44+1)) g101.toNat++fm (s2F B S (g44+1) g101) g162.toNat++[(⟨(tg4 B S (⟨0,g101,g162,0⟩:Mv)),g101,g162,0⟩:Mv)])).length:Nat):Int),rz 7 b12,(8,.int .u64 (allowed B S.turn)),(10,.int .i8 (g44+1)),(11,.int .u64 (Bd.of B (g44+1))),iz 12 g101,(13,.int .u64 (band (possMv B S (pType (g44+1)) g101) (allowed B S.turn))),(39,.slice (some ⟨c.ap,c.apo,none⟩) 12 12),iz 40 ((12:Nat):Int),iz 41 g44,iz 58 g101,iz 77 (IntKind.i64.wrap (g162+1))] ?_
     refine ze ?_;rw [zi (g162+1) (by omega) (by omega)];have he420:(fm (pF B S) g44.toNat++fm (s1F B S (g44+1)) g101.toNat++fm (s2F B S (g44+1) g101) g162.toNat++[(⟨(tg4 B S (⟨0,g101,g162,0⟩:Mv)),g101,g162,0⟩:Mv)])=fm (pF B S) g44.toNat++fm (s1F B S (g44+1)) g101.toNat++fm (s2F B S (g44+1) g101) (g162+1).toNat:=by rw [fm_succ (by omega),←List.append_assoc];simp only [s2F,dest,isPromo,keepM,plainM,hc79,hc94,hc129,hc155,hc192,hc280,hc407,nhc407,cond_true,cond_false,Bool.not_true,Bool.not_false,List.append_nil]
     rw [he420];have hX422:MvArr (storeRow A163 (0+(((fm (pF B S) g44.toNat++fm (s1F B S (g44+1)) g101.toNat++fm (s2F B S (g44+1) g101) g162.toNat).length:Nat):Int).toNat*11) (mvCells (.pointer none) ⟨(tg4 B S (⟨0,g101,g162,0⟩:Mv)),g101,g162,0⟩).toList) (fm (pF B S) g44.toNat++fm (s1F B S (g44+1)) g101.toNat++fm (s2F B S (g44+1) g101) (g162+1).toNat):=he420▸hx419;have hM423:At w408 b12 (.cells (mvCells (.pointer none) (⟨(tg4 B S (⟨0,g101,g162,0⟩:Mv)),g101,g162,0⟩:Mv)) 98 (0,0)):=hf413;obtain ⟨Aq424,hA421,hX422⟩:∃A,At w408 b1 (.cells A 176 (0,0))/\MvArr A (fm (pF B S) g44.toNat++fm (s1F B S (g44+1)) g101.toNat++fm (s2F B S (g44+1) g101) (g162+1).toNat):=⟨_,hf410,hX422⟩;exact zl ((g162+1),Aq424,(⟨(tg4 B S (⟨0,g101,g162,0⟩:Mv)),g101,g162,0⟩:Mv)) ⟨by constructor<;>dsimp only<;>omega,v418,hA421,hM423,hX422⟩ (hlt:=(by dsimp only;omega))
    have nhc407:(hasTag (⟨(tg4 B S (⟨0,g101,g162,0⟩:Mv)),g101,g162,0⟩:Mv) 32)=true:=by simpa using hc407
    refine w_skip<|n_block<|n_then<|w_region<|zs 2 [rz 0 p,(1,.bool false),rz 5 b1,iz 6 (((fm (pF B S) g44.toNat++fm (s1F B S (g44+1)) g101.toNat++fm (s2F B S (g44+1) g101) g162.toNat).length:Nat):Int),rz 7 b12,(8,.int .u64 (allowed B S.turn)),(10,.int .i8 (g44+1)),(11,.int .u64 (Bd.of B (g44+1))),iz 12 g101,(13,.int .u64 (band (possMv B S (pType (g44+1)) g101) (allowed B S.turn))),(39,.slice (some ⟨c.ap,c.apo,none⟩) 12 12),iz 40 ((12:Nat):Int),iz 41 g44,iz 58 g101,iz 77 (IntKind.i64.wrap (g162+1))]<|ze ?_;rw [zi (g162+1) (by omega) (by omega)];have he425:fm (pF B S) g44.toNat++fm (s1F B S (g44+1)) g101.toNat++fm (s2F B S (g44+1) g101) g162.toNat=fm (pF B S) g44.toNat++fm (s1F B S (g44+1)) g101.toNat++fm (s2F B S (g44+1) g101) (g162+1).toNat:=by rw [fm_succ (by omega),←List.append_assoc];simp only [s2F,dest,isPromo,keepM,plainM,hc79,hc94,hc129,hc155,hc192,hc280,hc407,nhc407,cond_true,cond_false,Bool.not_true,Bool.not_false,List.append_nil]
    rw [he425];have hX427:MvArr A163 (fm (pF B S) g44.toNat++fm (s1F B S (g44+1)) g101.toNat++fm (s2F B S (g44+1) g101) (g162+1).toNat):=he425▸hx172;have hM428:At w396 b12 (.cells (mvCells (.pointer none) (⟨(tg4 B S (⟨0,g101,g162,0⟩:Mv)),g101,g162,0⟩:Mv)) 98 (0,0)):=hf401;obtain ⟨Aq429,hA426,hX427⟩:∃A,At w396 b1 (.cells A 176 (0,0))/\MvArr A (fm (pF B S) g44.toNat++fm (s1F B S (g44+1)) g101.toNat++fm (s2F B S (g44+1) g101) (g162+1).toNat):=⟨_,hf400,hX427⟩;exact zl ((g162+1),Aq429,(⟨(tg4 B S (⟨0,g101,g162,0⟩:Mv)),g101,g162,0⟩:Mv)) ⟨by constructor<;>dsimp only<;>omega,v406,hA426,hM428,hX427⟩ (hlt:=(by dsimp only;omega))
   have dhc180:=of_decide_eq_false hc180;obtain rfl:g162=64:=by omega
   have hx430:MvArr A163 (fm (pF B S) g44.toNat++fm (s1F B S (g44+1)) g101.toNat++fm (s2F B S (g44+1) g101) 64):=hx172;refine w_exit<|x_then<|x_then<|x_hit<|n_block<|n_then<|w_region<|zs 2 [rz 0 p,(1,.bool false),rz 5 b1,iz 6 (((fm (pF B S) g44.toNat++fm (s1F B S (g44+1)) g101.toNat++fm (s2F B S (g44+1) g101) 64).length:Nat):Int),rz 7 b12,(8,.int .u64 (allowed B S.turn)),(10,.int .i8 (g44+1)),(11,.int .u64 (Bd.of B (g44+1))),(39,.slice (some ⟨c.ap,c.apo,none⟩) 12 12),iz 40 ((12:Nat):Int),iz 41 g44,iz 58 (IntKind.i64.wrap (g101+1))]<|ze ?_;rw [zi (g101+1) (by omega) (by omega)];have he431:fm (pF B S) g44.toNat++fm (s1F B S (g44+1)) g101.toNat++fm (s2F B S (g44+1) g101) 64=fm (pF B S) g44.toNat++fm (s1F B S (g44+1)) (g101+1).toNat:=by rw [fm_succ (by omega),←List.append_assoc];simp only [s1F,dest,hc79,hc94,hc129,hc155,cond_true,cond_false,Bool.not_true,Bool.not_false,List.append_nil]
   rw [he431];have hX433:MvArr A163 (fm (pF B S) g44.toNat++fm (s1F B S (g44+1)) (g101+1).toNat):=he431▸hx430;have hM434:At w166 b12 (.cells (mvCells (.pointer none) M164) 98 (0,0)):=hf171;obtain ⟨Aq435,hA432,hX433⟩:∃A,At w166 b1 (.cells A 176 (0,0))/\MvArr A (fm (pF B S) g44.toNat++fm (s1F B S (g44+1)) (g101+1).toNat):=⟨_,hf170,hX433⟩;exact zl ((g101+1),Aq435,M164) ⟨by constructor<;>dsimp only<;>omega,yt,hA432,hM434,hX433⟩ (hlt:=(by dsimp only;omega))
  have dhc118:=of_decide_eq_false hc118;obtain rfl:g101=64:=by omega
  have hx436:MvArr A102 (fm (pF B S) g44.toNat++fm (s1F B S (g44+1)) 64):=hx111;refine w_exit<|x_then<|x_then<|x_hit<|n_block<|n_then<|w_region<|zs 2 [rz 0 p,(1,.bool false),rz 5 b1,iz 6 (((fm (pF B S) g44.toNat++fm (s1F B S (g44+1)) 64).length:Nat):Int),rz 7 b12,(8,.int .u64 (allowed B S.turn)),(39,.slice (some ⟨c.ap,c.apo,none⟩) 12 12),iz 40 ((12:Nat):Int),iz 41 (IntKind.i64.wrap (g44+1))]<|ze ?_;rw [zi (g44+1) (by omega) (by omega)];have he437:fm (pF B S) g44.toNat++fm (s1F B S (g44+1)) 64=fm (pF B S) (g44+1).toNat:=by rw [fm_succ (by omega)];simp only [pF,hc79,hc94,cond_true,cond_false,Bool.not_true,Bool.not_false,List.append_nil]
  rw [he437];have hX439:MvArr A102 (fm (pF B S) (g44+1).toNat):=he437▸hx436;have hM440:At w105 b12 (.cells (mvCells (.pointer none) M103) 98 (0,0)):=hf110;obtain ⟨Aq441,hA438,hX439⟩:∃A,At w105 b1 (.cells A 176 (0,0))/\MvArr A (fm (pF B S) (g44+1).toNat):=⟨_,hf109,hX439⟩;exact zl ((g44+1),Aq441,M103) ⟨by constructor<;>dsimp only<;>omega,yt,hA438,hM440,hX439⟩ (hlt:=(by dsimp only;omega))
 have dhc60:=of_decide_eq_false hc60;obtain rfl:g44=12:=by omega
 have hx442:MvArr A45 ((stdL B S)):=hx54;refine w_exit<|x_then<|x_then<|x_hit<|zn<|yS 1 ?_;have hl:((stdL B S)).length<=218:=hLen;refine reg_mslice ((((stdL B S)).length:Nat):Int) 98 (some 153) 11 96 (by kernel_rfl) (by omega) (by omega) ?_;intro b443 w444 cs445 hcs446 hn447;have ne448:b12≠b443:=hn447.ne hf53;have hb449:c.base<=b443:=Glob.lt z58 hn447;have hb450:=Nat.le_trans v59.size hn447.base;have hb451:=Nat.le_trans v49.size hn447.base;have v452:=hn447.mod;have hf455:=At.on hf52 v452;have v458:=zt v59 v452;have hf460:=hn447.at_;refine yS 1<|zx<|yO 3 [.prop (0<=((((stdL B S)).length:Nat):Int)/\((((stdL B S)).length:Nat):Int)<=((218:Nat):Int))] (zh (by omega))<|reg_copy b443 ((stdL B S)).length ⟨b1,0,none⟩ ((stdL B S)).length 218 98 (some 157) 11 (by kernel_rfl) hf460 (by simpa using hcs446) (MvArr.row hx442 hl hf455) (oneCells_mvs _) ?_;intro w461 hu462;have hf463:=hu462.at_;have v469:=Mod.fresh' v458 hu462.mod (by simp<;>omega);exact zx<|yS 2<|zz<|w_ret<|y1 (⟨_,rfl,v469,own_of_at hf463 (by omega) (mvsL_len _) (by omega)⟩)
end Go.Proofs.YtgnhellfhjoaaaaGreatDoor
namespace Go.Proofs
open Go.Shelf
def Tryz.lays170_ren:Go.Shelf.Ren:=⟨λ|170=>186|n=>n,λ|70=>148|3=>3|0=>0|72=>150|37=>67|5=>5|n=>n,λ|n=>n⟩
theorem Tryz.lays170:Go.Proofs.Lays.n170 prog Tryz.lays170_ren:={
 mixed:=by kernel_rfl
 f170:=func186.trans (congrArg some (by kernel_rfl))
 t0:=Tryz.underlying0
 a0:=Tryz.isAgg0
 z0:=Tryz.sizeOf0
 v0:=Tryz.zeroValue0
 t3:=Tryz.underlying3
 a3:=Tryz.isAgg3
 z3:=Tryz.sizeOf3
 v3:=Tryz.zeroValue3
 t37:=Tryz.underlying67
 a37:=Tryz.isAgg67
 z37:=Tryz.sizeOf67
 v37:=Tryz.zeroValue67
 t70:=Tryz.underlying148
 a70:=Tryz.isAgg148
 z70:=Tryz.sizeOf148
 v70:=Tryz.zeroValue148
 t72:=Tryz.underlying150
 a72:=Tryz.isAgg150
 z72:=Tryz.sizeOf150
 v72:=Tryz.zeroValue150}
def Tryz.lays169_ren:Go.Shelf.Ren:=⟨λ|169=>115|n=>n,λ|70=>148|9=>9|0=>0|72=>150|37=>67|127=>164|3=>3|5=>5|n=>n,λ|n=>n⟩
theorem Tryz.lays169:Go.Proofs.Lays.n169 prog Tryz.lays169_ren:={
 mixed:=by kernel_rfl
 f169:=func115.trans (congrArg some (by kernel_rfl))
 t0:=Tryz.underlying0
 a0:=Tryz.isAgg0
 z0:=Tryz.sizeOf0
 v0:=Tryz.zeroValue0
 t3:=Tryz.underlying3
 a3:=Tryz.isAgg3
 z3:=Tryz.sizeOf3
 v3:=Tryz.zeroValue3
 t9:=Tryz.underlying9
 a9:=Tryz.isAgg9
 z9:=Tryz.sizeOf9
 v9:=Tryz.zeroValue9
 t37:=Tryz.underlying67
 a37:=Tryz.isAgg67
 z37:=Tryz.sizeOf67
 v37:=Tryz.zeroValue67
 t70:=Tryz.underlying148
 a70:=Tryz.isAgg148
 z70:=Tryz.sizeOf148
 v70:=Tryz.zeroValue148
 t72:=Tryz.underlying150
 a72:=Tryz.isAgg150
 z72:=Tryz.sizeOf150
 v72:=Tryz.zeroValue150
 t127:=Tryz.underlying164
 a127:=Tryz.isAgg164
 z127:=Tryz.sizeOf164
 v127:=Tryz.zeroValue164}
theorem Tryz.Builder_Extra_169:Builder.Extra prog Tryz.lays169_ren:={
 sizeBuilder:=by kernel_rfl
 liesBuilder:=by kernel_rfl
 t5:=Tryz.underlying5
 a5:=Tryz.isAgg5
 z5:=Tryz.sizeOf5
 v5:=Tryz.zeroValue5
 infoByte:=by kernel_rfl
 cellsByte:=by kernel_rfl
 sizeByte:=by kernel_rfl
 neB5:=by decide}
open Go.RowKit in
theorem Tryz.Builder_String_any(B b:Nat)(l:List UInt8)(w:World)(h:Lib.IsBuilder 150 5 B b (Lib.byteCells l) w)(hBw:B<=w.heap.size):
  Calls prog 115 #[.pointer (some ⟨b,0,none⟩)] w λe w'=>e=.returned (.string ⟨l.toArray⟩)/\Below B w w':=Any.Builder_String_any Tryz.lays169 Tryz.Builder_Extra_169 B b l w h hBw
def Tryz.lays165_ren:Go.Shelf.Ren:=⟨λ|165=>112|240=>124|241=>125|276=>137|277=>138|n=>n,λ|70=>148|3=>3|0=>0|4=>4|9=>9|20=>20|72=>150|37=>67|164=>183|5=>5|n=>n,λ|n=>n⟩
theorem Tryz.lays165:Go.Proofs.Lays.n165 prog Tryz.lays165_ren:={
 mixed:=by kernel_rfl
 f165:=func112.trans (congrArg some (by kernel_rfl))
 f240:=func124.trans (congrArg some (by kernel_rfl))
 f241:=func125.trans (congrArg some (by kernel_rfl))
 f276:=func137.trans (congrArg some (by kernel_rfl))
 f277:=func138.trans (congrArg some (by kernel_rfl))
 t0:=Tryz.underlying0
 a0:=Tryz.isAgg0
 z0:=Tryz.sizeOf0
 v0:=Tryz.zeroValue0
 t3:=Tryz.underlying3
 a3:=Tryz.isAgg3
 z3:=Tryz.sizeOf3
 v3:=Tryz.zeroValue3
 t4:=Tryz.underlying4
 a4:=Tryz.isAgg4
 z4:=Tryz.sizeOf4
 v4:=Tryz.zeroValue4
 t9:=Tryz.underlying9
 a9:=Tryz.isAgg9
 z9:=Tryz.sizeOf9
 v9:=Tryz.zeroValue9
 t20:=Tryz.underlying20
 a20:=Tryz.isAgg20
 z20:=Tryz.sizeOf20
 v20:=Tryz.zeroValue20
 t37:=Tryz.underlying67
 a37:=Tryz.isAgg67
 z37:=Tryz.sizeOf67
 v37:=Tryz.zeroValue67
 t70:=Tryz.underlying148
 a70:=Tryz.isAgg148
 z70:=Tryz.sizeOf148
 v70:=Tryz.zeroValue148
 t72:=Tryz.underlying150
 a72:=Tryz.isAgg150
 z72:=Tryz.sizeOf150
 v72:=Tryz.zeroValue150
 t164:=Tryz.underlying183
 a164:=Tryz.isAgg183
 z164:=Tryz.sizeOf183
 v164:=Tryz.zeroValue183}
theorem Tryz.Builder_Extra_165:Builder.Extra prog Tryz.lays165_ren:={
 sizeBuilder:=by kernel_rfl
 liesBuilder:=by kernel_rfl
 t5:=Tryz.underlying5
 a5:=Tryz.isAgg5
 z5:=Tryz.sizeOf5
 v5:=Tryz.zeroValue5
 infoByte:=by kernel_rfl
 cellsByte:=by kernel_rfl
 sizeByte:=by kernel_rfl
 neB5:=by decide}
open Go.RowKit in
theorem Tryz.Builder_Grow_fresh(B b n:Nat)(w:World)(hB:B<=b)(hbk:w.heap[b]?=some (.cells #[.pointer none,.slice none 0 0] 150 (0,0)))(hBw:B<=w.heap.size)(hn:n<=281474976710656):
  Calls prog 112 #[.pointer (some ⟨b,0,none⟩),.int .i64 n] w λe w'=>e=.returned (.tuple #[])/\(Lib.BuilderAt 150 5 B b (.pointer (some ⟨b,0,none⟩)) [] w'/\Below B w w'):=Any.Builder_Grow_fresh Tryz.lays165 Tryz.Builder_Extra_165 B b n w hB hbk hBw hn
def Tryz.lays158_ren:Go.Shelf.Ren:=⟨λ|158=>94|165=>112|166=>113|167=>114|169=>115|230=>116|203=>117|240=>124|241=>125|197=>126|118=>127|168=>128|270=>129|262=>130|276=>137|277=>138|260=>139|242=>140|313=>141|278=>146|274=>147|275=>148|n=>n,λ|9=>9|4=>4|3=>3|5=>5|72=>150|0=>0|76=>152|75=>60|107=>157|70=>148|20=>20|37=>67|127=>164|21=>21|105=>165|164=>183|162=>189|203=>187|119=>193|46=>35|139=>196|138=>195|51=>197|160=>198|208=>205|206=>203|80=>155|n=>n,λ|13=>8|3=>10|4=>11|n=>n⟩
theorem Tryz.lays158:Go.Proofs.Lays.n158 prog Tryz.lays158_ren:={
 mixed:=by kernel_rfl
 f118:=func127.trans (congrArg some (by kernel_rfl))
 f158:=func94.trans (congrArg some (by kernel_rfl))
 f165:=func112.trans (congrArg some (by kernel_rfl))
 f166:=func113.trans (congrArg some (by kernel_rfl))
 f167:=func114.trans (congrArg some (by kernel_rfl))
 f168:=func128.trans (congrArg some (by kernel_rfl))
 f169:=func115.trans (congrArg some (by kernel_rfl))
 f197:=func126.trans (congrArg some (by kernel_rfl))
 f203:=func117.trans (congrArg some (by kernel_rfl))
 f230:=func116.trans (congrArg some (by kernel_rfl))
 f240:=func124.trans (congrArg some (by kernel_rfl))
 f241:=func125.trans (congrArg some (by kernel_rfl))
 f242:=func140.trans (congrArg some (by kernel_rfl))
 f260:=func139.trans (congrArg some (by kernel_rfl))
 f262:=func130.trans (congrArg some (by kernel_rfl))
 f270:=func129.trans (congrArg some (by kernel_rfl))
 f274:=func147.trans (congrArg some (by kernel_rfl))
 f275:=func148.trans (congrArg some (by kernel_rfl))
 f276:=func137.trans (congrArg some (by kernel_rfl))
 f277:=func138.trans (congrArg some (by kernel_rfl))
 f278:=func146.trans (congrArg some (by kernel_rfl))
 f313:=func141.trans (congrArg some (by kernel_rfl))
 t0:=Tryz.underlying0
 a0:=Tryz.isAgg0
 z0:=Tryz.sizeOf0
 v0:=Tryz.zeroValue0
 t3:=Tryz.underlying3
 a3:=Tryz.isAgg3
 z3:=Tryz.sizeOf3
 v3:=Tryz.zeroValue3
 t4:=Tryz.underlying4
 a4:=Tryz.isAgg4
 z4:=Tryz.sizeOf4
 v4:=Tryz.zeroValue4
 t5:=Tryz.underlying5
 a5:=Tryz.isAgg5
 z5:=Tryz.sizeOf5
 v5:=Tryz.zeroValue5
 t9:=Tryz.underlying9
 a9:=Tryz.isAgg9
 z9:=Tryz.sizeOf9
 v9:=Tryz.zeroValue9
 t20:=Tryz.underlying20
 a20:=Tryz.isAgg20
 z20:=Tryz.sizeOf20
 v20:=Tryz.zeroValue20
 t21:=Tryz.underlying21
 a21:=Tryz.isAgg21
 z21:=Tryz.sizeOf21
 v21:=Tryz.zeroValue21
 t37:=Tryz.underlying67
 a37:=Tryz.isAgg67
 z37:=Tryz.sizeOf67
 v37:=Tryz.zeroValue67
 t46:=Tryz.underlying35
 a46:=Tryz.isAgg35
 z46:=Tryz.sizeOf35
 v46:=Tryz.zeroValue35
 t51:=Tryz.underlying197
 a51:=Tryz.isAgg197
 z51:=Tryz.sizeOf197
 v51:=Tryz.zeroValue197
 t70:=Tryz.underlying148
 a70:=Tryz.isAgg148
 z70:=Tryz.sizeOf148
 v70:=Tryz.zeroValue148
 t72:=Tryz.underlying150
 a72:=Tryz.isAgg150
 z72:=Tryz.sizeOf150
 v72:=Tryz.zeroValue150
 t75:=Tryz.underlying60
 a75:=Tryz.isAgg60
 z75:=Tryz.sizeOf60
 v75:=Tryz.zeroValue60
 t76:=Tryz.underlying152
 a76:=Tryz.isAgg152
 z76:=Tryz.sizeOf152
 v76:=Tryz.zeroValue152
 t105:=Tryz.underlying165
 a105:=Tryz.isAgg165
 z105:=Tryz.sizeOf165
 v105:=Tryz.zeroValue165
 t107:=Tryz.underlying157
 a107:=Tryz.isAgg157
 z107:=Tryz.sizeOf157
 v107:=Tryz.zeroValue157
 t119:=Tryz.underlying193
 a119:=Tryz.isAgg193
 z119:=Tryz.sizeOf193
 t127:=Tryz.underlying164
 a127:=Tryz.isAgg164
 z127:=Tryz.sizeOf164
 v127:=Tryz.zeroValue164
 t138:=Tryz.underlying195
 a138:=Tryz.isAgg195
 z138:=Tryz.sizeOf195
 v138:=Tryz.zeroValue195
 t139:=Tryz.underlying196
 a139:=Tryz.isAgg196
 z139:=Tryz.sizeOf196
 v139:=Tryz.zeroValue196
 t160:=Tryz.underlying198
 a160:=Tryz.isAgg198
 z160:=Tryz.sizeOf198
 v160:=Tryz.zeroValue198
 t162:=Tryz.underlying189
 a162:=Tryz.isAgg189
 z162:=Tryz.sizeOf189
 v162:=Tryz.zeroValue189
 t164:=Tryz.underlying183
 a164:=Tryz.isAgg183
 z164:=Tryz.sizeOf183
 v164:=Tryz.zeroValue183
 t203:=Tryz.underlying187
 a203:=Tryz.isAgg187
 z203:=Tryz.sizeOf187
 v203:=Tryz.zeroValue187
 t206:=Tryz.underlying203
 a206:=Tryz.isAgg203
 z206:=Tryz.sizeOf203
 v206:=Tryz.zeroValue203
 t208:=Tryz.underlying205
 a208:=Tryz.isAgg205
 z208:=Tryz.sizeOf205
 v208:=Tryz.zeroValue205
 g3:=by kernel_rfl
 g4:=by kernel_rfl
 g13:=by kernel_rfl}
theorem Tryz.Builder_Extra_158:Builder.Extra prog Tryz.lays158_ren:={
 sizeBuilder:=by kernel_rfl
 liesBuilder:=by kernel_rfl
 t5:=Tryz.underlying5
 a5:=Tryz.isAgg5
 z5:=Tryz.sizeOf5
 v5:=Tryz.zeroValue5
 infoByte:=by kernel_rfl
 cellsByte:=by kernel_rfl
 sizeByte:=by kernel_rfl
 neB5:=by decide}
open Go.RowKit in
theorem Tryz.strings_ToUpper_ascii(s:ByteArray)(w:World)(hs:s.size<=140737488355328)(hascii:∀(j:Nat) (b:UInt8),s.data.toList[j]?=some b->b.toNat<128):
  Calls prog 94 #[.string s] w λe w'=>e=.returned (.string ⟨(Lib.toUpperA s.data.toList).toArray⟩)/\Below w.heap.size w w':=Any.strings_ToUpper_ascii Tryz.lays158 Tryz.Builder_Extra_158 s w hs hascii
open Go.RowKit in
theorem Tryz.Builder_Len_f(B b:Nat)(bs:List Value)(w:World)(h:Lib.IsBuilderF 150 5 B b bs w):
  Calls prog 186 #[.pointer (some ⟨b,0,none⟩)] w λe w'=>e=.returned (.int .i64 bs.length)/\w'=w:=Any.Builder_Len_f Tryz.lays170 B b bs w h
open Go.RowKit in
theorem Tryz.Builder_String_any_f(B b:Nat)(l:List UInt8)(w:World)(h:Lib.IsBuilderF 150 5 B b (Lib.byteCells l) w)(hBw:B<=w.heap.size):
  Calls prog 115 #[.pointer (some ⟨b,0,none⟩)] w λe w'=>e=.returned (.string ⟨l.toArray⟩)/\(Lib.IsBuilderF 150 5 B b (Lib.byteCells l) w'/\Below B w w'):=Any.Builder_String_any_f Tryz.lays169 Tryz.Builder_Extra_169 B b l w h hBw
open Go.RowKit in
theorem Tryz.Builder_String_any_k(B b:Nat)(l:List UInt8)(w:World)(h:Lib.IsBuilderF 150 5 B b (Lib.byteCells l) w)(hBw:B<=w.heap.size):
  Calls prog 115 #[.pointer (some ⟨b,0,none⟩)] w λe w'=>e=.returned (.string ⟨l.toArray⟩)/\(Lib.IsBuilderF 150 5 B b (Lib.byteCells l) w'/\Below B w w'/\Lib.OthersKept 5 (some b) w w'):=Any.Builder_String_any_k Tryz.lays169 Tryz.Builder_Extra_169 B b l w h hBw
end Go.Proofs
namespace Go.Proofs
open Go.Shelf
open Go.RowKit in
theorem Tryz.bWriteString(B b:Nat)(bs:List Value)(s:ByteArray)(w:World)(h:Lib.IsBuilderF 150 5 B b bs w)(hlen:bs.length+s.size<=140737488355328)(hBw:B<=w.heap.size):
  Calls prog 113 #[.pointer (some ⟨b,0,none⟩),.string s] w λe w'=>e=.returned (.tuple #[.int .i64 s.size,.nilIface])/\(Lib.BuilderAtF 150 5 B b (.pointer (some ⟨b,0,none⟩)) (bs++Lib.strCells s) w'/\Below B w w'/\Lib.OthersKept 5 (some b) w w'):=
 Any.Builder_WriteString_k (P:=prog) (ρ:=Tryz.lays158_ren) {Tryz.lays158 with} Tryz.Builder_Extra_158 B b bs s w h hlen hBw
open Go.RowKit in
theorem Tryz.bWriteByte(B b:Nat)(bs:List Value)(x:Int)(w:World)(h:Lib.IsBuilderF 150 5 B b bs w)(hlen:bs.length+1<=140737488355328)(hBw:B<=w.heap.size):
  Calls prog 114 #[.pointer (some ⟨b,0,none⟩),.int .u8 x] w λe w'=>e=.returned .nilIface/\(Lib.BuilderAtF 150 5 B b (.pointer (some ⟨b,0,none⟩)) (bs++[.int .u8 x]) w'/\Below B w w'/\Lib.OthersKept 5 (some b) w w'):=
 Any.Builder_WriteByte_k (P:=prog) (ρ:=Tryz.lays158_ren) {Tryz.lays158 with} Tryz.Builder_Extra_158 B b bs x w h hlen hBw
end Go.Proofs
namespace Go.Proofs.YtgnhellfhjoaaaaGreatDoor
open Go Go.RowKit
open Go.Proofs.Tryz
set_option maxRecDepth 100000
def subAt(s u:ByteArray)(i:Int):Bool:=(s.extract i.toNat (i.toNat+u.size)).toList==u.toList
def hasSub(s u:ByteArray):Bool:=(List.range (s.size+1)).any λi=>decide (i+u.size<=s.size)&&subAt s u (i:Int)
theorem hasSub_hit{s u:ByteArray}{j:Int}(h:0<=j)(h1:j+(u.size:Int)<=(s.size:Int))(h2:subAt s u j=true):decide (j>=0)=hasSub s u:=by
 have:hasSub s u=true:=by
  unfold hasSub;rw [List.any_eq_true];refine ⟨j.toNat,by simp;omega,?_⟩;rw [show ((j.toNat:Nat):Int)=j from by omega,h2];simp;omega
 rw [this];simpa using h
theorem hasSub_miss{s u:ByteArray}{j:Int}(h1:¬j+(u.size:Int)<=(s.size:Int))(h2:∀i:Int,0<=i->i<j->subAt s u i=false):decide ((-1)>=0)=hasSub s u:=by
 have:hasSub s u=false:=by
  unfold hasSub;rw [List.any_eq_false];intro i hi;by_cases hc:i+u.size<=s.size
  ·rw [h2 (i:Int) (by omega) (by omega)];simp
  simp [hc]
 rw [this];simp
theorem sub_of{s u:ByteArray}{j:Int}{b:Bool}(h:0<=j)(hw:IntKind.i64.wrap (j+((u.size:Nat):Int))=j+((u.size:Nat):Int))(hb:((s.extract j.toNat (IntKind.i64.wrap (j+((u.size:Nat):Int))).toNat).toList==u.toList)=b):subAt s u j=b:=by
 unfold subAt;rw [←hb,hw,show (j+((u.size:Nat):Int)).toNat=j.toNat+u.size from by omega]
def IdxOf(s u:ByteArray)(r:Int):Prop:=
 (0<=r/\r+(u.size:Int)<=(s.size:Int)/\subAt s u r=true/\∀i:Int,0<=i->i<r->subAt s u i=false)\/
 (r=-1/\∀i:Int,0<=i->i+(u.size:Int)<=(s.size:Int)->subAt s u i=false)
def castleK:ByteArray:=⟨#[75]⟩
def castleQ:ByteArray:=⟨#[81]⟩
def castlek:ByteArray:=⟨#[107]⟩
def castleq:ByteArray:=⟨#[113]⟩
def canC(cr:ByteArray)(c side:Int):Bool:=
 bif side==2 then (bif c==1 then hasSub cr castleQ else hasSub cr castleq) else (bif c==1 then hasSub cr castleK else hasSub cr castlek)
theorem toUp_k(w:World):Calls prog 94 #[.string ⟨#[107]⟩] w (λe w'=>e=.returned (.string ⟨#[75]⟩)/\Mod [] w w'):=
 (Tryz.strings_ToUpper_ascii ⟨#[107]⟩ w (by decide) (by intro j b h;match j,h with|0,h=>(simp at h;subst h;decide))).mono λe w' h=>⟨h.1.trans rfl,Mod.of_below h.2⟩
theorem toUp_q(w:World):Calls prog 94 #[.string ⟨#[113]⟩] w (λe w'=>e=.returned (.string ⟨#[81]⟩)/\Mod [] w w'):=
 (Tryz.strings_ToUpper_ascii ⟨#[113]⟩ w (by decide) (by intro j b h;match j,h with|0,h=>(simp at h;subst h;decide))).mono λe w' h=>⟨h.1.trans rfl,Mod.of_below h.2⟩
theorem c118{w:World}(s u:ByteArray)(hs:s.size<=1000000)(hu:u.size<=1000000):
  CQ 118 [.string s,.string u] w (λe w'=>∃r,e=.returned (.int .i64 r)/\decide (r>=0)=hasSub s u/\IdxOf s u r/\Mod [] w w'):=by
 have v0:Mod [] w w:=Mod.refl _ _;refine en func118 ntmps118 ?_;refine zw<|yS 1<|zz<|w_seq<|zw<|yS 1<|zz<|w_block<|w_loop (γ:=Int) (λg1=>(((s.size:Int)+1)-g1).toNat) (λ(g1:Int)=>[(0,.string s),(1,.string u),(5,.int .i64 g1)]) (λ(g1:Int) w_=>(0<=g1/\g1<=((s.size:Int)+1))/\Mod [] w w_/\(∀i:Int,0<=i->i<g1->subAt s u i=false)) 0 (hold_keep [0,1,5] (by kernel_rfl)) ⟨by constructor<;>(try simp only [])<;>omega,Mod.refl _ _,(λi h0 h1=>absurd h1 (by omega))⟩ ?_;rintro g1 w2 ⟨⟨h4,h5⟩,v3,hx6⟩;have v7:=zt v0 v3;have hw:IntKind.i64.wrap (g1+((u.size:Nat):Int))=g1+((u.size:Nat):Int):=i64_in' (by omega) (by omega);refine w_seq<|zw<|yS 7<|zz<|yC (decide ((IntKind.i64.wrap (g1+((u.size:Nat):Int)))<=((s.size:Nat):Int))) (λhc8=>?_) λhc8=>?_
 ·have dhc8:=of_decide_eq_true hc8;refine w_skip<|n_then<|w_seq<|w_block<|zw<|yO 9 [.prop (0<=g1/\g1<=(IntKind.i64.wrap (g1+((u.size:Nat):Int)))/\(IntKind.i64.wrap (g1+((u.size:Nat):Int)))<=((s.size:Nat):Int))] (zh (by omega))<|zz<|yC ((s.extract g1.toNat (IntKind.i64.wrap (g1+((u.size:Nat):Int))).toNat).toList==u.toList) (λhc9=>?_) λhc9=>?_
  ·exact zw<|yS 2<|zz<|w_ret<|r_block<|r_then<|r_then<|r_block<|r_then<|y1 (⟨_,rfl,hasSub_hit (by omega) (by omega) (sub_of (by omega) hw hc9),.inl ⟨by omega,by omega,sub_of (by omega) hw hc9,hx6⟩,v7⟩)
  exact w_skip<|n_block<|n_then<|w_region<|yS 3<|yW 5 (zi (g1+1) (by omega) (by omega))<|ze<|l_back (g1+1) [0,1,5] (by kernel_rfl) (by omega) ⟨by constructor<;>(try simp only [])<;>omega,v3,(forall_step hx6 (sub_of (by omega) hw hc9))⟩
 have dhc8:=of_decide_eq_false hc8;exact w_exit<|x_then<|x_then<|x_hit<|zn<|yS 1<|zz<|w_ret<|y1 (⟨_,rfl,hasSub_miss (by omega) hx6,.inr ⟨rfl,λi h0 h1=>hx6 i h0 (by omega)⟩,v7⟩)
theorem c95{w:World}(s u:ByteArray)(hs:s.size<=1000000)(hu:u.size<=1000000):
  CR 95 [.string s,.string u] w (.bool (hasSub s u)):=by
 have v0:Mod [] w w:=Mod.refl _ _;refine en func95 ntmps95 ?_;refine zw<|yS 1<|zx<|yS 2<|reg_call 118 [.string s,.string u] (some 7) (by kernel_rfl) (c118 s u (by assumption) (by assumption)) ?_;rintro _ w1 ⟨r3,rfl,hr4,hi5,v2⟩;refine ⟨_,rfl,?_⟩;have v6:=zt v0 v2;exact yS 2<|zz<|w_ret<|y1 (⟨ret_bool hr4,v6⟩)
theorem c68{w:World}(cr:ByteArray)(x side:Int)(hs:cr.size<=1000000):
  CR 68 [.string cr,.int .i8 x,.int .i64 side] w (.bool (canC cr x side)):=by
 have v0:Mod [] w w:=Mod.refl _ _;refine en func68 ntmps68 ?_;refine zw<|yS 1<|zx<|yS 1<|zz<|w_seq<|zw<|yS 2<|zz<|yC (side==2) (λhc1=>?_) λhc1=>?_
 ·have dhc1:=eq_of_beq hc1;refine w_region<|yS 1<|zz<|w_seq<|zw<|yS 2<|zz<|yC (x==1) (λhc2=>?_) λhc2=>?_
  ·have dhc2:=eq_of_beq hc2;refine w_region<|yS 1<|zk (some 13) (toUp_q w) ?_;intro w3 v4;have v5:=zt v0 v4;refine yS 1<|zx<|yS 2<|zk (some 16) (c95 cr (⟨#[81]⟩) (by assumption) (by decide)) ?_;intro w6 v7;have v8:=zt v5 v7;exact yS 1<|zz<|w_ret<|y1 (v:=.bool (hasSub cr (⟨#[81]⟩))) (⟨ret_bool (by simp only [canC,hc1,hc2,cond_true,cond_false];rfl),v8⟩)
  have dhc2:=ne_of_beq_false hc2;refine w_skip<|zn<|yS 2<|zk (some 16) (c95 cr (⟨#[113]⟩) (by assumption) (by decide)) ?_;intro w9 v10;have v11:=zt v0 v10;exact yS 1<|zz<|w_ret<|y1 (v:=.bool (hasSub cr (⟨#[113]⟩))) (⟨ret_bool (by simp only [canC,hc1,hc2,cond_true,cond_false];rfl),v11⟩)
 have dhc1:=ne_of_beq_false hc1;refine w_skip<|n_then<|w_seq<|zw<|yS 2<|zz<|yC (x==1) (λhc12=>?_) λhc12=>?_
 ·have dhc12:=eq_of_beq hc12;refine w_region<|yS 1<|zk (some 13) (toUp_k w) ?_;intro w13 v14;have v15:=zt v0 v14;refine yS 1<|zx<|yS 2<|zk (some 16) (c95 cr (⟨#[75]⟩) (by assumption) (by decide)) ?_;intro w16 v17;have v18:=zt v15 v17;exact yS 1<|zz<|w_ret<|y1 (v:=.bool (hasSub cr (⟨#[75]⟩))) (⟨ret_bool (by simp only [canC,hc1,hc12,cond_true,cond_false];rfl),v18⟩)
 have dhc12:=ne_of_beq_false hc12;refine w_skip<|zn<|yS 2<|zk (some 16) (c95 cr (⟨#[107]⟩) (by assumption) (by decide)) ?_;intro w19 v20;have v21:=zt v0 v20;exact yS 1<|zz<|w_ret<|y1 (v:=.bool (hasSub cr (⟨#[107]⟩))) (⟨ret_bool (by simp only [canC,hc1,hc12,cond_true,cond_false];rfl),v21⟩)
structure MvArrN(N:Nat)(A:Array Value)(l:List Mv):Prop where
 size:A.size=N*11
 fits:l.length<=N
 take:A.toList.take (l.length*11)=mvsL l
theorem MvArrN.push{N:Nat}{A:Array Value}{l:List Mv}{m:Mv}{off:Nat}(h:MvArrN N A l)(hl:l.length<N)(ho:off=l.length*11):MvArrN N (storeRow A off (mvCells (.pointer none) m).toList) (l++[m]):=by
 subst ho;have hs:=h.size;have hm:l.length*11+11<=N*11:=by omega
 refine ⟨by rw [storeRow_size];exact h.size,by simp;omega,?_⟩;have e:(l++[m]).length*11=l.length*11+(mvCells (.pointer none) m).toList.length:=by simp [mvCells];omega
 rw [e,storeRow_take _ _ _ (by simp [mvCells];omega),h.take,mvsL_append];simp [mvsL]
theorem MvArrN.cells{N:Nat}{A:Array Value}{l:List Mv}{w:World}{b:Nat}{t:TypeId}{fr:Nat×Nat}(h:MvArrN N A l)(ha:At w b (.cells A t fr)):∀j u,(mvsL l)[j]?=some u->w.cell? (Addr.add ⟨b,0,none⟩ j)=some u:=by
 intro j u hu;have e:(Addr.add ⟨b,0,none⟩ j)=⟨b,j,none⟩:=by unfold Addr.add;split<;>simp_all
 rw [e];refine ha.cell ?_;rw [←h.take,List.getElem?_take] at hu;split at hu
 ·simpa using hu
 cases hu
noncomputable def zero181:Array Value:=match prog.info? 181 with|some i=>(match i.zero with|some z=>z.cells|none=>#[])|none=>#[]
theorem MvArrN.zero2:MvArrN 2 zero181 []:=⟨by kernel_rfl,by decide,rfl⟩
def castM(B:Bd)(S:Ps)(t s1 s2:Int):Mv:=⟨tg4 B S ⟨orTag 0 t,s1,s2,0⟩,s1,s2,0⟩
def cc1(B:Bd)(S:Ps):Bool:=(((((S.turn==1)&&(canC S.castle S.turn 1))&&((band (bnot B.empty) (bor (bbSq 5) (bbSq 6)))==0))&&(!(attAny B S.turn 2 (λi=>if i=0 then 5 else 6))))&&(!S.chk))
def cl1(B:Bd)(S:Ps):List Mv:=bif cc1 B S then [castM B S 1 4 6] else []
theorem cc1_turn{B:Bd}{S:Ps}(h:cc1 B S=true):S.turn=1/\canC S.castle S.turn 1=true:=by
 unfold cc1 at h;simp only [Bool.and_eq_true,beq_iff_eq] at h;exact ⟨h.1.1.1.1,h.1.1.1.2⟩
theorem cl1_nil{B:Bd}{S:Ps}(h:S.turn≠1):cl1 B S=[]:=by
 unfold cl1;cases e:cc1 B S
 ·rfl
 exact absurd (cc1_turn e).1 h
theorem cl1_one{B:Bd}{S:Ps}:(cl1 B S).length<=1:=by unfold cl1;cases cc1 B S<;>simp
def cc2(B:Bd)(S:Ps):Bool:=(((((S.turn==1)&&(canC S.castle S.turn 2))&&((band (bnot B.empty) (bor (bor (bbSq 1) (bbSq 2)) (bbSq 3)))==0))&&(!(attAny B S.turn 2 (λi=>if i=0 then 2 else 3))))&&(!S.chk))
def cl2(B:Bd)(S:Ps):List Mv:=bif cc2 B S then [castM B S 2 4 2] else []
theorem cc2_turn{B:Bd}{S:Ps}(h:cc2 B S=true):S.turn=1/\canC S.castle S.turn 2=true:=by
 unfold cc2 at h;simp only [Bool.and_eq_true,beq_iff_eq] at h;exact ⟨h.1.1.1.1,h.1.1.1.2⟩
theorem cl2_nil{B:Bd}{S:Ps}(h:S.turn≠1):cl2 B S=[]:=by
 unfold cl2;cases e:cc2 B S
 ·rfl
 exact absurd (cc2_turn e).1 h
theorem cl2_one{B:Bd}{S:Ps}:(cl2 B S).length<=1:=by unfold cl2;cases cc2 B S<;>simp
def cc3(B:Bd)(S:Ps):Bool:=(((((S.turn==2)&&(canC S.castle S.turn 1))&&((band (bnot B.empty) (bor (bbSq 61) (bbSq 62)))==0))&&(!(attAny B S.turn 2 (λi=>if i=0 then 61 else 62))))&&(!S.chk))
def cl3(B:Bd)(S:Ps):List Mv:=bif cc3 B S then [castM B S 1 60 62] else []
theorem cc3_turn{B:Bd}{S:Ps}(h:cc3 B S=true):S.turn=2/\canC S.castle S.turn 1=true:=by
 unfold cc3 at h;simp only [Bool.and_eq_true,beq_iff_eq] at h;exact ⟨h.1.1.1.1,h.1.1.1.2⟩
theorem cl3_nil{B:Bd}{S:Ps}(h:S.turn≠2):cl3 B S=[]:=by
 unfold cl3;cases e:cc3 B S
 ·rfl
 exact absurd (cc3_turn e).1 h
theorem cl3_one{B:Bd}{S:Ps}:(cl3 B S).length<=1:=by unfold cl3;cases cc3 B S<;>simp
def cc4(B:Bd)(S:Ps):Bool:=(((((S.turn==2)&&(canC S.castle S.turn 2))&&((band (bnot B.empty) (bor (bor (bbSq 57) (bbSq 58)) (bbSq 59)))==0))&&(!(attAny B S.turn 2 (λi=>if i=0 then 58 else 59))))&&(!S.chk))
def cl4(B:Bd)(S:Ps):List Mv:=bif cc4 B S then [castM B S 2 60 58] else []
theorem cc4_turn{B:Bd}{S:Ps}(h:cc4 B S=true):S.turn=2/\canC S.castle S.turn 2=true:=by
 unfold cc4 at h;simp only [Bool.and_eq_true,beq_iff_eq] at h;exact ⟨h.1.1.1.1,h.1.1.1.2⟩
theorem cl4_nil{B:Bd}{S:Ps}(h:S.turn≠2):cl4 B S=[]:=by
 unfold cl4;cases e:cc4 B S
 ·rfl
 exact absurd (cc4_turn e).1 h
theorem cl4_one{B:Bd}{S:Ps}:(cl4 B S).length<=1:=by unfold cl4;cases cc4 B S<;>simp
def castL(B:Bd)(S:Ps):List Mv:=cl1 B S++cl2 B S++cl3 B S++cl4 B S
set_option maxHeartbeats 1600000 in
theorem c123{c:GC}{p b:Nat}{vm:Value}{S:Ps}{w:World}(hp:At w p (.cells (psCells b vm S) 110 (0,0))){B:Bd}(hb:At w b (.cells (bdCells B) 135 (0,0)))(hG:Glob c w)(hcs:S.castle.size<=1000000)(hkW:∀sd,S.turn=1->canC S.castle S.turn sd=true->1<=pieceAt B 4/\pieceAt B 4<=12)(hkB:∀sd,S.turn=2->canC S.castle S.turn sd=true->1<=pieceAt B 60/\pieceAt B 60<=12)(hk:KingsOk B)(hT:S.turn=1\/S.turn=2):
  CQ 123 [pz p] w (λe w'=>∃g A,e=.returned (.slice (some ⟨g,0,none⟩) (castL B S).length 2)/\Mod [] w w'/\At w' g (.cells A 181 (0,0))/\MvArrN 2 A (castL B S)/\w.heap.size<=g):=by
 have v0:Mod [] w w:=Mod.refl _ _;refine en func123 ntmps123 ?_;refine zw<|yS 1<|zx<|zA zero181 181 (some 3) ?_;intro b1 w2 hn3;have hb4:c.base<=b1:=Glob.lt hG hn3;have hb5:=Nat.le_trans v0.size hn3.base;refine zx<|yS 1<|zz<|w_seq<|w_qt<|yQo 5 [.cell ⟨p,1,none⟩ (.string S.castle)] (λ_ hC=>At.cell (At.on ya hC) rfl)<|zqk (some 16) (λw_ hC=>c66 (At.on (yA w2 p) hC))<|zqk (some 17) (λw_ hC=>c68 S.castle S.turn 1 hcs)<|yQ 1<|q_ot ?_;intro w12 v13;have hf15:=At.on (yA w2 b) v13;have hf16:=At.on (yA w2 b1) v13;have z17:=Glob.on (yG w2) v13;have v18:=zt (yM w w2) v13;refine n_then<|w_seq<|w_qt<|yQo 5 [.cell ⟨p,1,none⟩ (.string S.castle)] (λ_ hC=>At.cell (At.on ya hC) rfl)<|zqk (some 23) (λw_ hC=>c66 (At.on (yA w12 p) hC))<|zqk (some 24) (λw_ hC=>c68 S.castle S.turn 2 hcs)<|yQ 1<|q_ot ?_;intro w19 v20;have hf21:=At.on (yA w12 p) v20;have hf22:=At.on hf15 v20;have hf23:=At.on hf16 v20;have z24:=Glob.on z17 v20;have v25:=zt v18 v20;refine n_then<|w_cut (γ:=Array Value) (λ_=>[(0,pz p),(3,pz b1),(4,.int .i64 ((((cl1 B S):List Mv).length:Nat):Int)),(5,.bool (canC S.castle S.turn 1)),(6,.bool (canC S.castle S.turn 2))]) (λA w_=>Mod [b1] w19 w_/\At w_ b1 (.cells A 181 (0,0))/\MvArrN 2 A (cl1 B S)) ?_ ?_
 ·have v31:Mod [b1] w19 w19:=Mod.refl _ _;refine w_cut (γ:=Unit) (λ_=>[(0,pz p),(3,pz b1),(4,.int .i64 0),(5,.bool (canC S.castle S.turn 1)),(6,.bool (canC S.castle S.turn 2)),(60,.bool (((((S.turn==1)&&(canC S.castle S.turn 1))&&((band (bnot B.empty) (bor (bbSq 5) (bbSq 6)))==0))&&(!(attAny B S.turn 2 (λi=>if i=0 then 5 else 6))))&&(!S.chk)))]) (λ_ w_=>Mod [] w19 w_) ?_ ?_
  ·have v34:Mod [] w19 w19:=Mod.refl _ _;refine w_tail1 26 25 [0,1,2,3,4,5,6,7,8,9,10,11,12,13,14,15,16,17,18,19,20,21,22,23,24] (by kernel_rfl) (by kernel_rfl)<|yRo 6 [.cell ⟨p,5,none⟩ (.int .i8 S.turn)] (λ_ hC=>At.cell (At.on hf21 hC) rfl)<|yEr 30 (.bool (S.turn==(1:Int))) ?_;cases hc35:(S.turn==(1:Int))
   ·refine yR 19<|re_end (by kernel_rfl) (λa ha w36 v37=>(?_:EReg _ _ _ _ _ _ 26 25 _ w36) a ha);exact e_skip (some 50) (by kernel_rfl) v37 fun w44 v45=>yS 10<|ze<|only_n<|zb () yt
   refine zr 3 [rz 0 p,rz 3 b1,iz 4 0,(5,.bool (canC S.castle S.turn 1)),(6,.bool (canC S.castle S.turn 2)),(33,.bool (canC S.castle S.turn 1))] ?_;cases hc52:(canC S.castle S.turn (1:Int))
   ·refine yR 16<|re_end (by kernel_rfl) (λa ha w53 v54=>(?_:EReg _ _ _ _ _ _ 26 25 _ w53) a ha);exact e_skip (some 50) (by kernel_rfl) v54 fun w61 v62=>yS 10<|ze<|only_n<|zb () yt
   refine yRo 8 [.cell ⟨p,0,none⟩ (pz b),.cell ⟨b,14,none⟩ (.int .u64 B.empty)] (λ_ hC=>⟨At.cell (At.on hf21 hC) rfl,At.cell (At.on hf22 hC) rfl⟩)<|r_call 17 99 [.int .i8 5] (some 42) (.int .u64 (bbSq 5)) (by kernel_rfl) (by kernel_rfl) (λw_ hC=>c99 5 w_ (by omega) (by omega))<|r_call 18 99 [.int .i8 6] (some 43) (.int .u64 (bbSq 6)) (by kernel_rfl) (by kernel_rfl) (λw_ hC=>c99 6 w_ (by omega) (by omega))<|yR 5<|yEr 48 (.bool ((band (bnot B.empty) (bor (bbSq (5:Int)) (bbSq (6:Int))))==(0:Int))) ?_;cases hc69:((band (bnot B.empty) (bor (bbSq (5:Int)) (bbSq (6:Int))))==(0:Int))
   ·refine yR 1<|re_end (by kernel_rfl) (λa ha w70 v71=>(?_:EReg _ _ _ _ _ _ 26 25 _ w70) a ha);exact e_skip (some 50) (by kernel_rfl) v71 fun w78 v79=>yS 10<|ze<|only_n<|zb () yt
   refine yR 1<|re_end (by kernel_rfl) (λa ha w86 v87=>(?_:EReg _ _ _ _ _ _ 26 25 _ w86) a ha);have z91:=Glob.on z24 v87;have v92:=zt v34 v87;have v93:=Mod.trans v31 (Mod.of_nil v87);refine e_bslice (#[.int .i8 5,.int .i8 6]) 87 2 (some 50) (by kernel_rfl) v87 ?_;intro b94 w95 hn96;have hb97:c.base<=b94:=Glob.lt z91 hn96;have hb98:=Nat.le_trans v92.size hn96.base;have hb99:=Nat.le_trans v93.size hn96.base;intro w108 v109;refine reg_call 110 [pz p,.slice (some ⟨b94,0,none⟩) 2 2] (some 51) (by kernel_rfl) (c110 (n:=2) (S:=S) ya ya ya yg (λi=>if i=0 then 5 else 6) cells2 (λi h=>(by by_cases hi:i=0<;>simp [hi])) (by assumption) (by omega)) ?_;rintro _ w117 ⟨rfl,v118⟩;refine ⟨_,rfl,?_⟩;refine yS 3<|yE 54 (.bool (!(attAny B S.turn 2 (λi=>if i=0 then (5:Int) else (6:Int))))) ?_;cases hc126:(!(attAny B S.turn 2 (λi=>if i=0 then (5:Int) else (6:Int))))
   ·exact yS 6<|ze<|only_n<|zb () yt
   exact yL 6 p 7<|ze<|only_n<|zb () yt
  intro _ w32 v33;have z130:=Glob.on z24 v33;have v131:=zt v25 v33;have v132:=Mod.trans v31 (Mod.of_nil v33);refine w_cond (b:=(cc1 B S)) (by kernel_rfl) (λhc133=>?_) (λhc133=>?_)
  ·refine zw<|yS 1<|zA (mvCells (.pointer none) (⟨0,0,0,0⟩:Mv)) 98 (some 7) ?_;intro b134 w135 hn136;have hb137:c.base<=b134:=Glob.lt z130 hn136;have hb138:=Nat.le_trans v131.size hn136.base;have hb139:=Nat.le_trans v132.size hn136.base;refine zS b134 0 (.agg #[.pointer none,.pointer none,.string (⟨#[]⟩),.string (⟨#[]⟩),.map none,.slice none 0 0,.int .u64 0,.int .u16 0,.int .i8 4,.int .i8 6,.int .i8 0]) ?_;intro w148 hu149;have hf150:At w148 b134 (.cells (mvCells (.pointer none) ⟨0,4,6,0⟩) 98 (0,0)):=hu149.at_;refine zx<|zC (some 62) (c136 hf150 1) ?_;rintro _ w157 ⟨rfl,v158,hf159⟩;refine ⟨_,rfl,?_⟩;refine zx<|yS 1 ?_;have hp166:1<=pieceAt B 4/\pieceAt B (4:Int)<=12:=hkW _ (cc1_turn hc133).1 (cc1_turn hc133).2;refine zC (some 64) (c135 (M:=(⟨(orTag 0 1),4,6,0⟩:Mv)) (yA w157 p) (yA w157 b) hf159 (yG w157) (show 0<=(4:Int)/\(4:Int)<=63 from (by omega)) (show 0<=(6:Int)/\(6:Int)<=63 from (by omega)) hp166 (pColor_or hp166) (λh=>absurd rfl h) (λh=>absurd rfl h) (by omega) (by assumption) (by assumption)) ?_;rintro _ w167 ⟨rfl,v168,hf169⟩;refine ⟨_,rfl,?_⟩;refine zz<|w_seq ?_;have h176:([]:List Mv).length<2:=by decide
   refine w_region<|yV 3 [.row ⟨b134,0,none⟩ 11 (mvCells (.pointer none) ⟨(tg4 B S (⟨(orTag 0 1),4,6,0⟩:Mv)),4,6,0⟩),.prop (0<=(0:Int)/\0<((2:Nat):Int))] [.agg (mvCells (.pointer none) ⟨(tg4 B S (⟨(orTag 0 1),4,6,0⟩:Mv)),4,6,0⟩)] (⟨At.row hf169 rfl,(zh (by omega))⟩)<|zS b1 0 (.agg (mvCells (.pointer none) ⟨(tg4 B S (⟨(orTag 0 1),4,6,0⟩:Mv)),4,6,0⟩)) ?_;intro w177 hu178;have hx186:MvArrN 2 (storeRow zero181 0 (mvCells (.pointer none) ⟨(tg4 B S (⟨(orTag 0 1),4,6,0⟩:Mv)),4,6,0⟩).toList) ([]++[(⟨(tg4 B S (⟨(orTag 0 1),4,6,0⟩:Mv)),4,6,0⟩:Mv)]):=MvArrN.push MvArrN.zero2 h176 (by decide);refine zz<|w_region<|zs 3 [rz 0 p,rz 3 b1,iz 4 (IntKind.i64.wrap ((0:Int)+1)),(5,.bool (canC S.castle S.turn 1)),(6,.bool (canC S.castle S.turn 2))]<|ze ?_;have he187:([]++[(⟨(tg4 B S (⟨(orTag 0 1),4,6,0⟩:Mv)),4,6,0⟩:Mv)])=(cl1 B S):=by simp only [cl1,hc133,cond_true,castM,List.nil_append,List.append_assoc]
   have hX188:MvArrN 2 (storeRow zero181 0 (mvCells (.pointer none) ⟨(tg4 B S (⟨(orTag 0 1),4,6,0⟩:Mv)),4,6,0⟩).toList) (cl1 B S):=he187▸hx186;obtain ⟨Aq189,hA190,hX188⟩:∃A,At w177 b1 (.cells A 181 (0,0))/\MvArrN 2 A (cl1 B S):=⟨_,ya,hX188⟩
   rw [(show ((IntKind.i64.wrap ((0:Int)+(1:Int))):Int)=((((cl1 B S):List Mv).length:Nat):Int) from by rw [←he187,i64_in' (by omega) (by omega)];simp only [List.length_append,List.length_cons,List.length_nil];omega)];exact zb Aq189 ⟨yt,hA190,hX188⟩
  refine w_skip ?_;have he191:[]=(cl1 B S):=by simp only [cl1,hc133,cond_false,List.append_nil]
  have hX192:MvArrN 2 zero181 (cl1 B S):=he191▸MvArrN.zero2;obtain ⟨Aq193,hA194,hX192⟩:∃A,At w32 b1 (.cells A 181 (0,0))/\MvArrN 2 A (cl1 B S):=⟨_,ya,hX192⟩
  rw [(show ((0:Int):Int)=((((cl1 B S):List Mv).length:Nat):Int) from by rw [←he191]<;>rfl)];exact zb Aq193 ⟨v132,hA194,hX192⟩
 rintro A26 w27 ⟨v28,hf29,hx30⟩;have hf195:=At.keep hf21 v28 (not_mem1 (At.ne hf21 hf23 rfl));have hf196:=At.keep hf22 v28 (not_mem1 (At.ne hf22 hf23 rfl));have z197:=Glob.keep z24 v28 (by simp<;>omega);have v198:=Mod.fresh' v25 v28 (by simp<;>omega);refine w_cut (γ:=Array Value) (λ_=>[(0,pz p),(3,pz b1),(4,.int .i64 ((((cl1 B S++cl2 B S):List Mv).length:Nat):Int)),(5,.bool (canC S.castle S.turn 1)),(6,.bool (canC S.castle S.turn 2))]) (λA w_=>Mod [b1] w27 w_/\At w_ b1 (.cells A 181 (0,0))/\MvArrN 2 A (cl1 B S++cl2 B S)) ?_ ?_
 ·have v204:Mod [b1] w27 w27:=Mod.refl _ _;refine w_cut (γ:=Unit) (λ_=>[(0,pz p),(3,pz b1),(4,.int .i64 ((((cl1 B S):List Mv).length:Nat):Int)),(5,.bool (canC S.castle S.turn 1)),(6,.bool (canC S.castle S.turn 2)),(107,.bool (((((S.turn==1)&&(canC S.castle S.turn 2))&&((band (bnot B.empty) (bor (bor (bbSq 1) (bbSq 2)) (bbSq 3)))==0))&&(!(attAny B S.turn 2 (λi=>if i=0 then 2 else 3))))&&(!S.chk)))]) (λ_ w_=>Mod [] w27 w_) ?_ ?_
  ·have v207:Mod [] w27 w27:=Mod.refl _ _;refine w_tail1 28 27 [0,1,2,3,4,5,6,7,8,9,10,11,12,13,14,15,16,17,18,19,20,21,22,23,24,25,26] (by kernel_rfl) (by kernel_rfl)<|yRo 6 [.cell ⟨p,5,none⟩ (.int .i8 S.turn)] (λ_ hC=>At.cell (At.on hf195 hC) rfl)<|yEr 75 (.bool (S.turn==(1:Int))) ?_;cases hc208:(S.turn==(1:Int))
   ·refine yR 21<|re_end (by kernel_rfl) (λa ha w209 v210=>(?_:EReg _ _ _ _ _ _ 28 27 _ w209) a ha);exact e_skip (some 97) (by kernel_rfl) v210 fun w217 v218=>yS 10<|ze<|only_n<|zb () yt
   refine zr 3 [rz 0 p,rz 3 b1,iz 4 ((((cl1 B S):List Mv).length:Nat):Int),(5,.bool (canC S.castle S.turn 1)),(6,.bool (canC S.castle S.turn 2)),(78,.bool (canC S.castle S.turn 2))] ?_;cases hc225:(canC S.castle S.turn (2:Int))
   ·refine yR 18<|re_end (by kernel_rfl) (λa ha w226 v227=>(?_:EReg _ _ _ _ _ _ 28 27 _ w226) a ha);exact e_skip (some 97) (by kernel_rfl) v227 fun w234 v235=>yS 10<|ze<|only_n<|zb () yt
   refine yRo 8 [.cell ⟨p,0,none⟩ (pz b),.cell ⟨b,14,none⟩ (.int .u64 B.empty)] (λ_ hC=>⟨At.cell (At.on hf195 hC) rfl,At.cell (At.on hf196 hC) rfl⟩)<|r_call 17 99 [.int .i8 1] (some 87) (.int .u64 (bbSq 1)) (by kernel_rfl) (by kernel_rfl) (λw_ hC=>c99 1 w_ (by omega) (by omega))<|r_call 18 99 [.int .i8 2] (some 88) (.int .u64 (bbSq 2)) (by kernel_rfl) (by kernel_rfl) (λw_ hC=>c99 2 w_ (by omega) (by omega))<|yR 1<|r_call 20 99 [.int .i8 3] (some 90) (.int .u64 (bbSq 3)) (by kernel_rfl) (by kernel_rfl) (λw_ hC=>c99 3 w_ (by omega) (by omega))<|yR 5<|yEr 95 (.bool ((band (bnot B.empty) (bor (bor (bbSq (1:Int)) (bbSq (2:Int))) (bbSq (3:Int))))==(0:Int))) ?_;cases hc242:((band (bnot B.empty) (bor (bor (bbSq (1:Int)) (bbSq (2:Int))) (bbSq (3:Int))))==(0:Int))
   ·refine yR 1<|re_end (by kernel_rfl) (λa ha w243 v244=>(?_:EReg _ _ _ _ _ _ 28 27 _ w243) a ha);exact e_skip (some 97) (by kernel_rfl) v244 fun w251 v252=>yS 10<|ze<|only_n<|zb () yt
   refine yR 1<|re_end (by kernel_rfl) (λa ha w259 v260=>(?_:EReg _ _ _ _ _ _ 28 27 _ w259) a ha);have z264:=Glob.on z197 v260;have v265:=zt v207 v260;have v266:=Mod.trans v204 (Mod.of_nil v260);refine e_bslice (#[.int .i8 2,.int .i8 3]) 87 2 (some 97) (by kernel_rfl) v260 ?_;intro b267 w268 hn269;have hb270:c.base<=b267:=Glob.lt z264 hn269;have hb271:=Nat.le_trans v265.size hn269.base;have hb272:=Nat.le_trans v266.size hn269.base;intro w281 v282;refine reg_call 110 [pz p,.slice (some ⟨b267,0,none⟩) 2 2] (some 98) (by kernel_rfl) (c110 (n:=2) (S:=S) ya ya ya yg (λi=>if i=0 then 2 else 3) cells2 (λi h=>(by by_cases hi:i=0<;>simp [hi])) (by assumption) (by omega)) ?_;rintro _ w290 ⟨rfl,v291⟩;refine ⟨_,rfl,?_⟩;refine yS 3<|yE 101 (.bool (!(attAny B S.turn 2 (λi=>if i=0 then (2:Int) else (3:Int))))) ?_;cases hc299:(!(attAny B S.turn 2 (λi=>if i=0 then (2:Int) else (3:Int))))
   ·exact yS 6<|ze<|only_n<|zb () yt
   exact yL 6 p 7<|ze<|only_n<|zb () yt
  intro _ w205 v206;have z303:=Glob.on z197 v206;have v304:=zt v198 v206;have v305:=Mod.trans v204 (Mod.of_nil v206);refine w_cond (b:=(cc2 B S)) (by kernel_rfl) (λhc306=>?_) (λhc306=>?_)
  ·refine zw<|yS 1<|zA (mvCells (.pointer none) (⟨0,0,0,0⟩:Mv)) 98 (some 8) ?_;intro b307 w308 hn309;have hb310:c.base<=b307:=Glob.lt z303 hn309;have hb311:=Nat.le_trans v304.size hn309.base;have hb312:=Nat.le_trans v305.size hn309.base;refine zS b307 0 (.agg #[.pointer none,.pointer none,.string (⟨#[]⟩),.string (⟨#[]⟩),.map none,.slice none 0 0,.int .u64 0,.int .u16 0,.int .i8 4,.int .i8 2,.int .i8 0]) ?_;intro w321 hu322;have hf323:At w321 b307 (.cells (mvCells (.pointer none) ⟨0,4,2,0⟩) 98 (0,0)):=hu322.at_;refine zx<|zC (some 109) (c136 hf323 2) ?_;rintro _ w330 ⟨rfl,v331,hf332⟩;refine ⟨_,rfl,?_⟩;refine zx<|yS 1 ?_;have hp339:1<=pieceAt B 4/\pieceAt B (4:Int)<=12:=hkW _ (cc2_turn hc306).1 (cc2_turn hc306).2;refine reg_call 135 [pz b307,pz p] (some 111) (by kernel_rfl) (c135 (M:=(⟨(orTag 0 2),4,2,0⟩:Mv)) (yA w330 p) (yA w330 b) hf332 (yG w330) (show 0<=(4:Int)/\(4:Int)<=63 from (by omega)) (show 0<=(2:Int)/\(2:Int)<=63 from (by omega)) hp339 (pColor_or hp339) (λh=>absurd rfl h) (λh=>absurd rfl h) (by omega) (by assumption) (by assumption)) ?_;rintro _ w340 ⟨rfl,v341,hf342⟩;refine ⟨_,rfl,?_⟩;refine zz<|w_seq ?_;have h349:((cl1 B S):List Mv).length<2:=Nat.lt_of_le_of_lt cl1_one (by omega);refine w_region<|yV 3 [.row ⟨b307,0,none⟩ 11 (mvCells (.pointer none) ⟨(tg4 B S (⟨(orTag 0 2),4,2,0⟩:Mv)),4,2,0⟩),.prop (0<=((((cl1 B S):List Mv).length:Nat):Int)/\((((cl1 B S):List Mv).length:Nat):Int)<((2:Nat):Int))] [.agg (mvCells (.pointer none) ⟨(tg4 B S (⟨(orTag 0 2),4,2,0⟩:Mv)),4,2,0⟩)] (⟨At.row hf342 rfl,(zh (by omega))⟩)<|reg_store b1 (0+((((cl1 B S):List Mv).length:Nat):Int).toNat*11) (.agg (mvCells (.pointer none) ⟨(tg4 B S (⟨(orTag 0 2),4,2,0⟩:Mv)),4,2,0⟩)) none (by kernel_rfl) ya (by rw [(MvArrN.size hx30)];show (0+((((cl1 B S):List Mv).length:Nat):Int).toNat*11)+11<=2*11;omega) rfl ?_;intro w350 hu351;have hx359:MvArrN 2 (storeRow A26 (0+((((cl1 B S):List Mv).length:Nat):Int).toNat*11) (mvCells (.pointer none) ⟨(tg4 B S (⟨(orTag 0 2),4,2,0⟩:Mv)),4,2,0⟩).toList) ((cl1 B S)++[(⟨(tg4 B S (⟨(orTag 0 2),4,2,0⟩:Mv)),4,2,0⟩:Mv)]):=MvArrN.push hx30 h349 (by omega);refine zz<|w_region<|zs 3 [rz 0 p,rz 3 b1,iz 4 (IntKind.i64.wrap (((((cl1 B S):List Mv).length:Nat):Int)+1)),(5,.bool (canC S.castle S.turn 1)),(6,.bool (canC S.castle S.turn 2))]<|ze ?_;have he360:((cl1 B S)++[(⟨(tg4 B S (⟨(orTag 0 2),4,2,0⟩:Mv)),4,2,0⟩:Mv)])=(cl1 B S++cl2 B S):=by simp only [cl2,hc306,cond_true,castM,List.nil_append,List.append_assoc]
   have hX361:MvArrN 2 (storeRow A26 (0+((((cl1 B S):List Mv).length:Nat):Int).toNat*11) (mvCells (.pointer none) ⟨(tg4 B S (⟨(orTag 0 2),4,2,0⟩:Mv)),4,2,0⟩).toList) (cl1 B S++cl2 B S):=he360▸hx359;obtain ⟨Aq362,hA363,hX361⟩:∃A,At w350 b1 (.cells A 181 (0,0))/\MvArrN 2 A (cl1 B S++cl2 B S):=⟨_,ya,hX361⟩
   rw [(show ((IntKind.i64.wrap (((((cl1 B S):List Mv).length:Nat):Int)+(1:Int))):Int)=((((cl1 B S++cl2 B S):List Mv).length:Nat):Int) from by rw [←he360,i64_in' (by omega) (by omega)];simp only [List.length_append,List.length_cons,List.length_nil];omega)];exact zb Aq362 ⟨yt,hA363,hX361⟩
  refine w_skip ?_;have he364:(cl1 B S)=(cl1 B S++cl2 B S):=by simp only [cl2,hc306,cond_false,List.append_nil]
  have hX365:MvArrN 2 A26 (cl1 B S++cl2 B S):=he364▸hx30;obtain ⟨Aq366,hA367,hX365⟩:∃A,At w205 b1 (.cells A 181 (0,0))/\MvArrN 2 A (cl1 B S++cl2 B S):=⟨_,ya,hX365⟩
  rw [(show (((((cl1 B S):List Mv).length:Nat):Int):Int)=((((cl1 B S++cl2 B S):List Mv).length:Nat):Int) from by rw [←he364]<;>rfl)];exact zb Aq366 ⟨v305,hA367,hX365⟩
 rintro A199 w200 ⟨v201,hf202,hx203⟩;have hf368:=At.keep hf195 v201 (not_mem1 (At.ne hf195 hf29 rfl));have hf369:=At.keep hf196 v201 (not_mem1 (At.ne hf196 hf29 rfl));have z370:=Glob.keep z197 v201 (by simp<;>omega);have v371:=Mod.fresh' v198 v201 (by simp<;>omega);refine w_cut (γ:=Array Value) (λ_=>[(0,pz p),(3,pz b1),(4,.int .i64 ((((cl1 B S++cl2 B S++cl3 B S):List Mv).length:Nat):Int)),(6,.bool (canC S.castle S.turn 2))]) (λA w_=>Mod [b1] w200 w_/\At w_ b1 (.cells A 181 (0,0))/\MvArrN 2 A (cl1 B S++cl2 B S++cl3 B S)) ?_ ?_
 ·have v377:Mod [b1] w200 w200:=Mod.refl _ _;refine w_cut (γ:=Unit) (λ_=>[(0,pz p),(3,pz b1),(4,.int .i64 ((((cl1 B S++cl2 B S):List Mv).length:Nat):Int)),(6,.bool (canC S.castle S.turn 2)),(152,.bool (((((S.turn==2)&&(canC S.castle S.turn 1))&&((band (bnot B.empty) (bor (bbSq 61) (bbSq 62)))==0))&&(!(attAny B S.turn 2 (λi=>if i=0 then 61 else 62))))&&(!S.chk)))]) (λ_ w_=>Mod [] w200 w_) ?_ ?_
  ·have v380:Mod [] w200 w200:=Mod.refl _ _;refine w_tail1 26 25 [0,1,2,3,4,5,6,7,8,9,10,11,12,13,14,15,16,17,18,19,20,21,22,23,24] (by kernel_rfl) (by kernel_rfl)<|yRo 6 [.cell ⟨p,5,none⟩ (.int .i8 S.turn)] (λ_ hC=>At.cell (At.on hf368 hC) rfl)<|yEr 122 (.bool (S.turn==(2:Int))) ?_;cases hc381:(S.turn==(2:Int))
   ·refine yR 19<|re_end (by kernel_rfl) (λa ha w382 v383=>(?_:EReg _ _ _ _ _ _ 26 25 _ w382) a ha);exact e_skip (some 142) (by kernel_rfl) v383 fun w390 v391=>yS 10<|ze<|only_n<|zb () yt
   refine yR 3<|yEr 125 (.bool (canC S.castle S.turn (1:Int))) ?_;cases hc398:(canC S.castle S.turn (1:Int))
   ·refine yR 16<|re_end (by kernel_rfl) (λa ha w399 v400=>(?_:EReg _ _ _ _ _ _ 26 25 _ w399) a ha);exact e_skip (some 142) (by kernel_rfl) v400 fun w407 v408=>yS 10<|ze<|only_n<|zb () yt
   refine yRo 8 [.cell ⟨p,0,none⟩ (pz b),.cell ⟨b,14,none⟩ (.int .u64 B.empty)] (λ_ hC=>⟨At.cell (At.on hf368 hC) rfl,At.cell (At.on hf369 hC) rfl⟩)<|r_call 17 99 [.int .i8 61] (some 134) (.int .u64 (bbSq 61)) (by kernel_rfl) (by kernel_rfl) (λw_ hC=>c99 61 w_ (by omega) (by omega))<|r_call 18 99 [.int .i8 62] (some 135) (.int .u64 (bbSq 62)) (by kernel_rfl) (by kernel_rfl) (λw_ hC=>c99 62 w_ (by omega) (by omega))<|yR 5<|yEr 140 (.bool ((band (bnot B.empty) (bor (bbSq (61:Int)) (bbSq (62:Int))))==(0:Int))) ?_;cases hc415:((band (bnot B.empty) (bor (bbSq (61:Int)) (bbSq (62:Int))))==(0:Int))
   ·refine yR 1<|re_end (by kernel_rfl) (λa ha w416 v417=>(?_:EReg _ _ _ _ _ _ 26 25 _ w416) a ha);exact e_skip (some 142) (by kernel_rfl) v417 fun w424 v425=>yS 10<|ze<|only_n<|zb () yt
   refine yR 1<|re_end (by kernel_rfl) (λa ha w432 v433=>(?_:EReg _ _ _ _ _ _ 26 25 _ w432) a ha);have z437:=Glob.on z370 v433;have v438:=zt v380 v433;have v439:=Mod.trans v377 (Mod.of_nil v433);refine e_bslice (#[.int .i8 61,.int .i8 62]) 87 2 (some 142) (by kernel_rfl) v433 ?_;intro b440 w441 hn442;have hb443:c.base<=b440:=Glob.lt z437 hn442;have hb444:=Nat.le_trans v438.size hn442.base;have hb445:=Nat.le_trans v439.size hn442.base;intro w454 v455;refine reg_call 110 [pz p,.slice (some ⟨b440,0,none⟩) 2 2] (some 143) (by kernel_rfl) (c110 (n:=2) (S:=S) ya ya ya yg (λi=>if i=0 then 61 else 62) cells2 (λi h=>(by by_cases hi:i=0<;>simp [hi])) (by assumption) (by omega)) ?_;rintro _ w463 ⟨rfl,v464⟩;refine ⟨_,rfl,?_⟩;refine yS 3<|yE 146 (.bool (!(attAny B S.turn 2 (λi=>if i=0 then (61:Int) else (62:Int))))) ?_;cases hc472:(!(attAny B S.turn 2 (λi=>if i=0 then (61:Int) else (62:Int))))
   ·exact yS 6<|ze<|only_n<|zb () yt
   exact yL 6 p 7<|ze<|only_n<|zb () yt
  intro _ w378 v379;have z476:=Glob.on z370 v379;have v477:=zt v371 v379;have v478:=Mod.trans v377 (Mod.of_nil v379);refine w_cond (b:=(cc3 B S)) (by kernel_rfl) (λhc479=>?_) (λhc479=>?_)
  ·refine zw<|yS 1<|zA (mvCells (.pointer none) (⟨0,0,0,0⟩:Mv)) 98 (some 9) ?_;intro b480 w481 hn482;have hb483:c.base<=b480:=Glob.lt z476 hn482;have hb484:=Nat.le_trans v477.size hn482.base;have hb485:=Nat.le_trans v478.size hn482.base;refine zS b480 0 (.agg #[.pointer none,.pointer none,.string (⟨#[]⟩),.string (⟨#[]⟩),.map none,.slice none 0 0,.int .u64 0,.int .u16 0,.int .i8 60,.int .i8 62,.int .i8 0]) ?_;intro w494 hu495;have hf496:At w494 b480 (.cells (mvCells (.pointer none) ⟨0,60,62,0⟩) 98 (0,0)):=hu495.at_;refine zx<|zC (some 154) (c136 hf496 1) ?_;rintro _ w503 ⟨rfl,v504,hf505⟩;refine ⟨_,rfl,?_⟩;refine zx<|yS 1 ?_;have hp512:1<=pieceAt B 60/\pieceAt B (60:Int)<=12:=hkB _ (cc3_turn hc479).1 (cc3_turn hc479).2;refine reg_call 135 [pz b480,pz p] (some 156) (by kernel_rfl) (c135 (M:=(⟨(orTag 0 1),60,62,0⟩:Mv)) (yA w503 p) (yA w503 b) hf505 (yG w503) (show 0<=(60:Int)/\(60:Int)<=63 from (by omega)) (show 0<=(62:Int)/\(62:Int)<=63 from (by omega)) hp512 (pColor_or hp512) (λh=>absurd rfl h) (λh=>absurd rfl h) (by omega) (by assumption) (by assumption)) ?_;rintro _ w513 ⟨rfl,v514,hf515⟩;refine ⟨_,rfl,?_⟩;refine zz<|w_seq ?_;have h522:((cl1 B S++cl2 B S):List Mv).length<2:=by
    have ht:=(cc3_turn hc479).1;rw [cl1_nil (by omega),cl2_nil (by omega)];decide
   refine w_region<|yV 3 [.row ⟨b480,0,none⟩ 11 (mvCells (.pointer none) ⟨(tg4 B S (⟨(orTag 0 1),60,62,0⟩:Mv)),60,62,0⟩),.prop (0<=((((cl1 B S++cl2 B S):List Mv).length:Nat):Int)/\((((cl1 B S++cl2 B S):List Mv).length:Nat):Int)<((2:Nat):Int))] [.agg (mvCells (.pointer none) ⟨(tg4 B S (⟨(orTag 0 1),60,62,0⟩:Mv)),60,62,0⟩)] (⟨At.row hf515 rfl,(zh (by omega))⟩)<|reg_store b1 (0+((((cl1 B S++cl2 B S):List Mv).length:Nat):Int).toNat*11) (.agg (mvCells (.pointer none) ⟨(tg4 B S (⟨(orTag 0 1),60,62,0⟩:Mv)),60,62,0⟩)) none (by kernel_rfl) ya (by rw [(MvArrN.size hx203)];show (0+((((cl1 B S++cl2 B S):List Mv).length:Nat):Int).toNat*11)+11<=2*11;omega) rfl ?_;intro w523 hu524;have hx532:MvArrN 2 (storeRow A199 (0+((((cl1 B S++cl2 B S):List Mv).length:Nat):Int).toNat*11) (mvCells (.pointer none) ⟨(tg4 B S (⟨(orTag 0 1),60,62,0⟩:Mv)),60,62,0⟩).toList) ((cl1 B S++cl2 B S)++[(⟨(tg4 B S (⟨(orTag 0 1),60,62,0⟩:Mv)),60,62,0⟩:Mv)]):=MvArrN.push hx203 h522 (by omega);refine zz<|w_region<|zs 3 [rz 0 p,rz 3 b1,iz 4 (IntKind.i64.wrap (((((cl1 B S++cl2 B S):List Mv).length:Nat):Int)+1)),(6,.bool (canC S.castle S.turn 2))]<|ze ?_;have he533:((cl1 B S++cl2 B S)++[(⟨(tg4 B S (⟨(orTag 0 1),60,62,0⟩:Mv)),60,62,0⟩:Mv)])=(cl1 B S++cl2 B S++cl3 B S):=by simp only [cl3,hc479,cond_true,castM,List.nil_append,List.append_assoc]
   have hX534:MvArrN 2 (storeRow A199 (0+((((cl1 B S++cl2 B S):List Mv).length:Nat):Int).toNat*11) (mvCells (.pointer none) ⟨(tg4 B S (⟨(orTag 0 1),60,62,0⟩:Mv)),60,62,0⟩).toList) (cl1 B S++cl2 B S++cl3 B S):=he533▸hx532;obtain ⟨Aq535,hA536,hX534⟩:∃A,At w523 b1 (.cells A 181 (0,0))/\MvArrN 2 A (cl1 B S++cl2 B S++cl3 B S):=⟨_,ya,hX534⟩
   rw [(show ((IntKind.i64.wrap (((((cl1 B S++cl2 B S):List Mv).length:Nat):Int)+(1:Int))):Int)=((((cl1 B S++cl2 B S++cl3 B S):List Mv).length:Nat):Int) from by rw [←he533,i64_in' (by omega) (by omega)];simp only [List.length_append,List.length_cons,List.length_nil];omega)];exact zb Aq535 ⟨yt,hA536,hX534⟩
  refine w_skip ?_;have he537:(cl1 B S++cl2 B S)=(cl1 B S++cl2 B S++cl3 B S):=by simp only [cl3,hc479,cond_false,List.append_nil]
  have hX538:MvArrN 2 A199 (cl1 B S++cl2 B S++cl3 B S):=he537▸hx203;obtain ⟨Aq539,hA540,hX538⟩:∃A,At w378 b1 (.cells A 181 (0,0))/\MvArrN 2 A (cl1 B S++cl2 B S++cl3 B S):=⟨_,ya,hX538⟩
  rw [(show (((((cl1 B S++cl2 B S):List Mv).length:Nat):Int):Int)=((((cl1 B S++cl2 B S++cl3 B S):List Mv).length:Nat):Int) from by rw [←he537]<;>rfl)];exact zb Aq539 ⟨v478,hA540,hX538⟩
 rintro A372 w373 ⟨v374,hf375,hx376⟩;have hf541:=At.keep hf368 v374 (not_mem1 (At.ne hf368 hf202 rfl));have hf542:=At.keep hf369 v374 (not_mem1 (At.ne hf369 hf202 rfl));have z543:=Glob.keep z370 v374 (by simp<;>omega);have v544:=Mod.fresh' v371 v374 (by simp<;>omega);refine w_cut (γ:=Array Value) (λ_=>[(3,pz b1),(4,.int .i64 ((((castL B S):List Mv).length:Nat):Int))]) (λA w_=>Mod [b1] w373 w_/\At w_ b1 (.cells A 181 (0,0))/\MvArrN 2 A (castL B S)) ?_ ?_
 ·have v550:Mod [b1] w373 w373:=Mod.refl _ _;refine w_cut (γ:=Unit) (λ_=>[(0,pz p),(3,pz b1),(4,.int .i64 ((((cl1 B S++cl2 B S++cl3 B S):List Mv).length:Nat):Int)),(199,.bool (((((S.turn==2)&&(canC S.castle S.turn 2))&&((band (bnot B.empty) (bor (bor (bbSq 57) (bbSq 58)) (bbSq 59)))==0))&&(!(attAny B S.turn 2 (λi=>if i=0 then 58 else 59))))&&(!S.chk)))]) (λ_ w_=>Mod [] w373 w_) ?_ ?_
  ·have v553:Mod [] w373 w373:=Mod.refl _ _;refine w_tail1 28 27 [0,1,2,3,4,5,6,7,8,9,10,11,12,13,14,15,16,17,18,19,20,21,22,23,24,25,26] (by kernel_rfl) (by kernel_rfl)<|yRo 6 [.cell ⟨p,5,none⟩ (.int .i8 S.turn)] (λ_ hC=>At.cell (At.on hf541 hC) rfl)<|yEr 167 (.bool (S.turn==(2:Int))) ?_;cases hc554:(S.turn==(2:Int))
   ·refine yR 21<|re_end (by kernel_rfl) (λa ha w555 v556=>(?_:EReg _ _ _ _ _ _ 28 27 _ w555) a ha);exact e_skip (some 189) (by kernel_rfl) v556 fun w563 v564=>yS 10<|ze<|only_n<|zb () yt
   refine yR 3<|yEr 170 (.bool (canC S.castle S.turn (2:Int))) ?_;cases hc571:(canC S.castle S.turn (2:Int))
   ·refine yR 18<|re_end (by kernel_rfl) (λa ha w572 v573=>(?_:EReg _ _ _ _ _ _ 28 27 _ w572) a ha);exact e_skip (some 189) (by kernel_rfl) v573 fun w580 v581=>yS 10<|ze<|only_n<|zb () yt
   refine yRo 8 [.cell ⟨p,0,none⟩ (pz b),.cell ⟨b,14,none⟩ (.int .u64 B.empty)] (λ_ hC=>⟨At.cell (At.on hf541 hC) rfl,At.cell (At.on hf542 hC) rfl⟩)<|r_call 17 99 [.int .i8 57] (some 179) (.int .u64 (bbSq 57)) (by kernel_rfl) (by kernel_rfl) (λw_ hC=>c99 57 w_ (by omega) (by omega))<|r_call 18 99 [.int .i8 58] (some 180) (.int .u64 (bbSq 58)) (by kernel_rfl) (by kernel_rfl) (λw_ hC=>c99 58 w_ (by omega) (by omega))<|yR 1<|r_call 20 99 [.int .i8 59] (some 182) (.int .u64 (bbSq 59)) (by kernel_rfl) (by kernel_rfl) (λw_ hC=>c99 59 w_ (by omega) (by omega))<|yR 5<|yEr 187 (.bool ((band (bnot B.empty) (bor (bor (bbSq (57:Int)) (bbSq (58:Int))) (bbSq (59:Int))))==(0:Int))) ?_;cases hc588:((band (bnot B.empty) (bor (bor (bbSq (57:Int)) (bbSq (58:Int))) (bbSq (59:Int))))==(0:Int))
   ·refine yR 1<|re_end (by kernel_rfl) (λa ha w589 v590=>(?_:EReg _ _ _ _ _ _ 28 27 _ w589) a ha);exact e_skip (some 189) (by kernel_rfl) v590 fun w597 v598=>yS 10<|ze<|only_n<|zb () yt
   refine yR 1<|re_end (by kernel_rfl) (λa ha w605 v606=>(?_:EReg _ _ _ _ _ _ 28 27 _ w605) a ha);have z610:=Glob.on z543 v606;have v611:=zt v553 v606;have v612:=Mod.trans v550 (Mod.of_nil v606);refine e_bslice (#[.int .i8 58,.int .i8 59]) 87 2 (some 189) (by kernel_rfl) v606 ?_;intro b613 w614 hn615;have hb616:c.base<=b613:=Glob.lt z610 hn615;have hb617:=Nat.le_trans v611.size hn615.base;have hb618:=Nat.le_trans v612.size hn615.base;intro w627 v628;refine reg_call 110 [pz p,.slice (some ⟨b613,0,none⟩) 2 2] (some 190) (by kernel_rfl) (c110 (n:=2) (S:=S) ya ya ya yg (λi=>if i=0 then 58 else 59) cells2 (λi h=>(by by_cases hi:i=0<;>simp [hi])) (by assumption) (by omega)) ?_;rintro _ w636 ⟨rfl,v637⟩;refine ⟨_,rfl,?_⟩;refine yS 3<|yE 193 (.bool (!(attAny B S.turn 2 (λi=>if i=0 then (58:Int) else (59:Int))))) ?_;cases hc645:(!(attAny B S.turn 2 (λi=>if i=0 then (58:Int) else (59:Int))))
   ·exact yS 6<|ze<|only_n<|zb () yt
   exact yL 6 p 7<|ze<|only_n<|zb () yt
  intro _ w551 v552;have hf646:=At.on hf541 v552;have hf647:=At.on hf542 v552;have hf648:=At.on hf375 v552;have z649:=Glob.on z543 v552;have v650:=zt v544 v552;have v651:=Mod.trans v550 (Mod.of_nil v552);refine w_cond (b:=(cc4 B S)) (by kernel_rfl) (λhc652=>?_) (λhc652=>?_)
  ·refine zw<|yS 1<|zA (mvCells (.pointer none) (⟨0,0,0,0⟩:Mv)) 98 (some 10) ?_;intro b653 w654 hn655;have hb656:c.base<=b653:=Glob.lt z649 hn655;have hb657:=Nat.le_trans v650.size hn655.base;have hb658:=Nat.le_trans v651.size hn655.base;have v659:=hn655.mod;have hf660:=At.on hf646 v659;have hf661:=At.on hf647 v659;have hf662:=At.on hf648 v659;have z663:=Glob.on z649 v659;have v665:=Mod.trans v651 (Mod.of_nil v659);have hf666:=hn655.at_;refine zS b653 0 (.agg #[.pointer none,.pointer none,.string (⟨#[]⟩),.string (⟨#[]⟩),.map none,.slice none 0 0,.int .u64 0,.int .u16 0,.int .i8 60,.int .i8 58,.int .i8 0]) ?_;intro w667 hu668;have hf669:At w667 b653 (.cells (mvCells (.pointer none) ⟨0,60,58,0⟩) 98 (0,0)):=hu668.at_;have hf670:=At.keep hf660 hu668.mod (not_mem1 (At.ne hf660 hf666 rfl));have hf671:=At.keep hf661 hu668.mod (not_mem1 (At.ne hf661 hf666 rfl));have hf672:=At.keep hf662 hu668.mod (not_mem1 (At.ne hf662 hf666 rfl));have z673:=Glob.keep z663 hu668.mod (by simp<;>omega);have v675:=Mod.fresh' v665 hu668.mod (by simp<;>omega);refine zx<|zC (some 201) (c136 hf669 2) ?_;rintro _ w676 ⟨rfl,v677,hf678⟩;refine ⟨_,rfl,?_⟩;have hf679:=At.keep hf670 v677 (not_mem1 (At.ne hf670 hf669 rfl));have hf680:=At.keep hf671 v677 (not_mem1 (At.ne hf671 hf669 rfl));have hf681:=At.keep hf672 v677 (not_mem1 (At.ne hf672 hf669 rfl));have z682:=Glob.keep z673 v677 (by simp<;>omega);have v684:=Mod.fresh' v675 v677 (by simp<;>omega);refine zx<|yS 1 ?_;have hp685:1<=pieceAt B 60/\pieceAt B (60:Int)<=12:=hkB _ (cc4_turn hc652).1 (cc4_turn hc652).2;refine reg_call 135 [pz b653,pz p] (some 203) (by kernel_rfl) (c135 (M:=(⟨(orTag 0 2),60,58,0⟩:Mv)) hf679 hf680 hf678 z682 (show 0<=(60:Int)/\(60:Int)<=63 from (by omega)) (show 0<=(58:Int)/\(58:Int)<=63 from (by omega)) hp685 (pColor_or hp685) (λh=>absurd rfl h) (λh=>absurd rfl h) (by omega) (by assumption) (by assumption)) ?_;rintro _ w686 ⟨rfl,v687,hf688⟩;refine ⟨_,rfl,?_⟩;have hf691:=At.keep hf681 v687 (not_mem1 (At.ne hf681 hf678 rfl));have v694:=Mod.fresh' v684 v687 (by simp<;>omega);refine zz<|w_seq ?_;have h695:((cl1 B S++cl2 B S++cl3 B S):List Mv).length<2:=by
    have ht:=(cc4_turn hc652).1;rw [cl1_nil (by omega),cl2_nil (by omega)];exact Nat.lt_of_le_of_lt (by simpa using cl3_one) (by omega:1<2)
   refine w_region<|yV 3 [.row ⟨b653,0,none⟩ 11 (mvCells (.pointer none) ⟨(tg4 B S (⟨(orTag 0 2),60,58,0⟩:Mv)),60,58,0⟩),.prop (0<=((((cl1 B S++cl2 B S++cl3 B S):List Mv).length:Nat):Int)/\((((cl1 B S++cl2 B S++cl3 B S):List Mv).length:Nat):Int)<((2:Nat):Int))] [.agg (mvCells (.pointer none) ⟨(tg4 B S (⟨(orTag 0 2),60,58,0⟩:Mv)),60,58,0⟩)] (⟨At.row hf688 rfl,(zh (by omega))⟩)<|reg_store b1 (0+((((cl1 B S++cl2 B S++cl3 B S):List Mv).length:Nat):Int).toNat*11) (.agg (mvCells (.pointer none) ⟨(tg4 B S (⟨(orTag 0 2),60,58,0⟩:Mv)),60,58,0⟩)) none (by kernel_rfl) hf691 (by rw [(MvArrN.size hx376)];show (0+((((cl1 B S++cl2 B S++cl3 B S):List Mv).length:Nat):Int).toNat*11)+11<=2*11;omega) rfl ?_;intro w696 hu697;have hf698:At w696 b1 (.cells (storeRow A372 (0+((((cl1 B S++cl2 B S++cl3 B S):List Mv).length:Nat):Int).toNat*11) (mvCells (.pointer none) ⟨(tg4 B S (⟨(orTag 0 2),60,58,0⟩:Mv)),60,58,0⟩).toList) 181 (0,0)):=hu697.at_;have v704:=Mod.fresh' v694 hu697.mod (by simp<;>omega);have hx705:MvArrN 2 (storeRow A372 (0+((((cl1 B S++cl2 B S++cl3 B S):List Mv).length:Nat):Int).toNat*11) (mvCells (.pointer none) ⟨(tg4 B S (⟨(orTag 0 2),60,58,0⟩:Mv)),60,58,0⟩).toList) ((cl1 B S++cl2 B S++cl3 B S)++[(⟨(tg4 B S (⟨(orTag 0 2),60,58,0⟩:Mv)),60,58,0⟩:Mv)]):=MvArrN.push hx376 h695 (by omega);refine zz<|w_region<|zs 3 [rz 3 b1,iz 4 (IntKind.i64.wrap (((((cl1 B S++cl2 B S++cl3 B S):List Mv).length:Nat):Int)+1))]<|ze ?_;have he706:((cl1 B S++cl2 B S++cl3 B S)++[(⟨(tg4 B S (⟨(orTag 0 2),60,58,0⟩:Mv)),60,58,0⟩:Mv)])=(castL B S):=by simp only [cl4,castL,hc652,cond_true,castM,List.nil_append,List.append_assoc]
   have hX707:MvArrN 2 (storeRow A372 (0+((((cl1 B S++cl2 B S++cl3 B S):List Mv).length:Nat):Int).toNat*11) (mvCells (.pointer none) ⟨(tg4 B S (⟨(orTag 0 2),60,58,0⟩:Mv)),60,58,0⟩).toList) (castL B S):=he706▸hx705;obtain ⟨Aq708,hA709,hX707⟩:∃A,At w696 b1 (.cells A 181 (0,0))/\MvArrN 2 A (castL B S):=⟨_,hf698,hX707⟩
   rw [(show ((IntKind.i64.wrap (((((cl1 B S++cl2 B S++cl3 B S):List Mv).length:Nat):Int)+(1:Int))):Int)=((((castL B S):List Mv).length:Nat):Int) from by rw [←he706,i64_in' (by omega) (by omega)];simp only [List.length_append,List.length_cons,List.length_nil];omega)];exact zb Aq708 ⟨v704,hA709,hX707⟩
  refine w_skip ?_;have he710:(cl1 B S++cl2 B S++cl3 B S)=(castL B S):=by simp only [cl4,castL,hc652,cond_false,List.append_nil]
  have hX711:MvArrN 2 A372 (castL B S):=he710▸hx376;obtain ⟨Aq712,hA713,hX711⟩:∃A,At w551 b1 (.cells A 181 (0,0))/\MvArrN 2 A (castL B S):=⟨_,hf648,hX711⟩
  rw [(show (((((cl1 B S++cl2 B S++cl3 B S):List Mv).length:Nat):Int):Int)=((((castL B S):List Mv).length:Nat):Int) from by rw [←he710]<;>rfl)];exact zb Aq712 ⟨v651,hA713,hX711⟩
 rintro A545 w546 ⟨v547,hf548,hx549⟩;have v717:=Mod.fresh' v544 v547 (by simp<;>omega);refine w_seq ?_;have hfit:=MvArrN.fits hx549;exact w_region<|yO 3 [.prop (0<=((((castL B S):List Mv).length:Nat):Int)/\((((castL B S):List Mv).length:Nat):Int)<=((2:Nat):Int))] (zh (by omega))<|zz<|w_ret<|y1 (⟨b1,_,rfl,v717,hf548,hx549,by omega⟩)
theorem run_eqInt{P:Program}{t:TypeId}{k:IntKind}(d:Nat)(h:P.underlying t=some (.int k))(a b:Int)(w:World):(Op.equalIn (d+1) t (.int k a) (.int k b)).run P w=.ok (a==b) w:=by
 simp [Op.equalIn,runU h]
theorem run_part{P:Program}{t:TypeId}{cs:Array Value}{off:Nat}{v:Value}(h:isAggT P t=some false)(hv:cs[off]?=some v)(w:World):(part t cs off).run P w=.ok v w:=by
 simp [part,runAgg h,hv]
theorem run_eq30(a b c a' b' c':Int)(w:World):
  (Op.equal 30 (.agg #[.int .i64 a,.int .i64 b,.int .i64 c]) (.agg #[.int .i64 a',.int .i64 b',.int .i64 c'])).run prog w=.ok ((a==a')&&((b==b')&&(c==c'))) w:=by
 have e3:=λa b=>run_eqInt (P:=prog) (t:=3) (k:=.i64) 9998 Tryz.underlying3 a b w;have hs:prog.stoodInHeld 30=false:=by kernel_rfl
 have hp:isAggT prog 3=some false:=by unfold isAggT;rw [Tryz.underlying3]
 simp only [Op.equal,Op.maxDepth];rw [Op.equalIn];simp only [Sem.run_bind,runU Tryz.underlying30,Result.andThen_ok];simp [hs,run_part hp,e3];by_cases h1:a=a'<;>by_cases h2:b=b'<;>by_cases h3:c=c'<;>simp [h1,h2,h3]
section
variable{n:Nat}{D:List Deferred}{ops:Array Oper}{Q:Exit->Act->World->Prop}{w:World}{L:List (Nat×Value)}
def eq30At(n:Nat)(ops:List Oper)(k:Nat)(L:List (Nat×Value)):Option (Value×Value×Option Nat):=
 match ops[k]? with
 |some o=>match wantedL ops L o,dstOk o.dst n with
  |some true,true=>match o.op with
   |.binOp .eql 30 x y _=>match evL L x,evL L y with
    |some u,some v=>some (u,v,o.dst)
    |_,_=>none
   |_=>none
  |_,_=>none
 |none=>none
theorem eq30At_spec{k:Nat}{dst:Option Nat}{a b c a' b' c':Int}(h:eq30At n ops.toList k L=some (.agg #[.int .i64 a,.int .i64 b,.int .i64 c],.agg #[.int .i64 a',.int .i64 b',.int .i64 c'],dst)){act:Act}(ha:Hold n L D act):
  ∃o,ops.toList[k]?=some o/\o.dst=dst/\dstOk dst n=true/\Region.wanted o (yielded ops act.tmps)=true/\∀w,(execOp act.eval o).run prog w=.ok (.value (.bool ((a==a')&&((b==b')&&(c==c'))))) w:=by
 unfold eq30At at h;split at h
 ·rename_i o ho;split at h
  ·rename_i hw hd;split at h
   ·rename_i x y yt hop;split at h
    ·rename_i u v hu hv;simp only [Option.some.injEq,Prod.mk.injEq] at h;obtain ⟨rfl,rfl,rfl⟩:=h;refine ⟨o,ho,rfl,hd,wantedL_spec ha hw,λw=>?_⟩;obtain ⟨dst,op,ty,pos,af,g'⟩:=o;simp only at hop;subst hop;simp only [execOp,ha.agrees _ _ hu,ha.agrees _ _ hv];simp [binOp,eqGuard,run_eq30]
    cases h
   cases h
  cases h
 cases h
theorem reg_eq30{k:Nat}(a b c a' b' c':Int)(dst:Option Nat)(h:eq30At n ops.toList k L=some (.agg #[.int .i64 a,.int .i64 b,.int .i64 c],.agg #[.int .i64 a',.int .i64 b',.int .i64 c'],dst))
  (hk:Reg prog n D ops Q (k+1) (setD dst (.bool ((a==a')&&((b==b')&&(c==c')))) L) w):Reg prog n D ops Q k L w:=by
 intro act ha;obtain ⟨o,ho,hdst,hd,hw,hr⟩:=eq30At_spec (ops:=ops) h ha;rw [drop_cons ho];simp only [wpList,hw,if_true];refine .inl ?_;simp only [Oper.wp,hr,Oper.upon];rw [hdst];exact hk _ (ha.setD hd _)
theorem q_eq30{C:World->Prop}{K:Act->Prop}{k:Nat}{l:List Oper}(a b c a' b' c':Int)(dst:Option Nat)(h:eq30At n ops.toList k L=some (.agg #[.int .i64 a,.int .i64 b,.int .i64 c],.agg #[.int .i64 a',.int .i64 b',.int .i64 c'],dst))(hl:l[k]?=ops.toList[k]?)
  (hk:QReg prog n D ops C K (l.drop (k+1)) (setD dst (.bool ((a==a')&&((b==b')&&(c==c')))) L)):QReg prog n D ops C K (l.drop k) L:=by
 intro act ha;obtain ⟨o,ho,hdst,hd,hw,hr⟩:=eq30At_spec (ops:=ops) h ha;rw [drop_cons (hl.trans ho)];simp only [wpQuiet,hw,if_true];refine ⟨_,λw' _=>?_,by rw [hdst];exact hk _ (ha.setD hd _)⟩;simp only [Oper.quietAt,hr,Oper.quietUpon,and_self]
end
theorem own_off{w:World}{b0 size n cap p:Nat}{e t:TypeId}{ao:Option Addr}{xs:List Value}{cs:Array Value}(h:Own w b0 e size ao n cap xs)(hp:At w p (.cells cs t (0,0)))(ht:(t==e)=false):p∉blk ao:=λhx=>Own.sep h hp ht p hx (by simp)
def allL(B:Bd)(S:Ps):List Mv:=stdL B S++castL B S
def mvAt(l:List Mv)(i:Nat):Mv:=l.getD i ⟨0,0,0,0⟩
theorem mvsL_at:∀(l:List Mv) (i:Nat),i<l.length->∀j,j<11->(mvsL l)[0+i*11+j]?=(mvCells (.pointer none) (mvAt l i))[j]?
 |m::l,0,_,j,hj=>by
  simp only [mvsL,List.flatMap_cons,mvAt,List.getD_cons_zero];rw [List.getElem?_append_left (by simp [mvCells];omega)];simp
 |m::l,i+1,h,j,hj=>by
  have:=mvsL_at l i (by simpa using h) j hj;simp only [mvsL,List.flatMap_cons,mvAt,List.getD_cons_succ] at this⊢;rw [List.getElem?_append_right (by simp [mvCells];omega)];rw [←this];congr 1;simp [mvCells];omega
theorem own_mv{w:World}{b0 n cap g:Nat}{l:List Mv}{i:Nat}(h:Own w b0 98 11 (some ⟨g,0,none⟩) n cap (mvsL l))(hi:i<l.length):(Ob.row ⟨g,0+i*11,none⟩ 11 (mvCells (.pointer none) (mvAt l i))).holds w:=by
 refine ⟨rfl,λj hj=>?_⟩;have e:(Addr.add ⟨g,0+i*11,none⟩ j)=⟨g,0+i*11+j,none⟩:=by unfold Addr.add;split<;>simp_all
 rw [e,←mvsL_at l i hi j hj];have hlen:=mvsL_len l;have hlt:0+i*11+j<(mvsL l).length:=by rw [hlen];omega
 rw [List.getElem?_eq_getElem hlt];exact h.cell (List.getElem?_eq_getElem hlt)
theorem mvAt_mem{l:List Mv}{i:Nat}(h:i<l.length):mvAt l i∈l:=by
 unfold mvAt;rw [List.getD_eq_getElem?_getD,List.getElem?_eq_getElem h];exact List.getElem_mem h
structure MvPre(B:Bd)(S:Ps):Prop where
 len:(stdL B S).length<=218
 pc:∀p s:Int,(1<=p/\p<=12)->(0<=s/\s<=63)->(band (Bd.of B p) (bbSq s)==0)=false->1<=pieceAt B s/\pieceAt B s<=12
 cs:S.castle.size<=1000000
 kW:∀sd,S.turn=1->canC S.castle S.turn sd=true->1<=pieceAt B 4/\pieceAt B 4<=12
 kB:∀sd,S.turn=2->canC S.castle S.turn sd=true->1<=pieceAt B 60/\pieceAt B 60<=12
 kings:KingsOk B
 turn:S.turn=1\/S.turn=2
 ep:-1<=S.ep/\S.ep<=63
theorem castL_le{B:Bd}{S:Ps}:(castL B S).length<=4:=by
 have h1:=cl1_one (B:=B) (S:=S);have h2:=cl2_one (B:=B) (S:=S);have h3:=cl3_one (B:=B) (S:=S);have h4:=cl4_one (B:=B) (S:=S);unfold castL;simp only [List.length_append];omega
def Cached(w:World)(vm:Value)(B:Bd)(S:Ps):Prop:=∃g cap,vm=.slice (some ⟨g,0,none⟩) (allL B S).length cap/\Own w 0 98 11 (some ⟨g,0,none⟩) (allL B S).length cap (mvsL (allL B S))
theorem Cached.on{w w':World}{vm:Value}{B:Bd}{S:Ps}(h:Cached w vm B S)(m:Mod [] w w'):Cached w' vm B S:=by
 obtain ⟨g,cap,h1,h2⟩:=h;exact ⟨g,cap,h1,h2.on m⟩
def Cache(w:World)(vm:Value)(B:Bd)(S:Ps):Prop:=vm=.slice none 0 0\/∃g cap,vm=.slice (some ⟨g,0,none⟩) (allL B S).length cap/\Own w 0 98 11 (some ⟨g,0,none⟩) (allL B S).length cap (mvsL (allL B S))
theorem Cache.on{w w':World}{vm:Value}{B:Bd}{S:Ps}(h:Cache w vm B S)(m:Mod [] w w'):Cache w' vm B S:=by
 rcases h with h|⟨g,cap,h,ho⟩
 ·exact .inl h
 exact .inr ⟨g,cap,h,ho.on m⟩
theorem allL_len{B:Bd}{S:Ps}(h:MvPre B S):(allL B S).length<=222:=by
 have:=h.len;have:=castL_le (B:=B) (S:=S);unfold allL;simp only [List.length_append];omega
def eqM(M:Mv)(a b c:Int):Bool:=(M.s1==a)&&((M.s2==b)&&(M.promo==c))
structure MvOk(M:Mv):Prop where
 s1:0<=M.s1/\M.s1<=63
 s2:0<=M.s2/\M.s2<=63
 promo:0<=M.promo/\M.promo<=5
theorem c111{c:GC}{p b:Nat}{vm:Value}{S:Ps}{w:World}(hp:At w p (.cells (psCells b vm S) 110 (0,0))){B:Bd}(hb:At w b (.cells (bdCells B) 135 (0,0)))(hG:Glob c w)(hpre:MvPre B S):
  CQ 111 [.agg (#[]),pz p,.bool false] w (λe w'=>∃g cap,e=.returned (.slice (some ⟨g,0,none⟩) (allL B S).length cap)/\Mod [] w w'/\Own w' w.heap.size 98 11 (some ⟨g,0,none⟩) (allL B S).length cap (mvsL (allL B S))):=by
 have v0:Mod [] w w:=Mod.refl _ _;refine en func111 ntmps111 ?_;refine zw<|zA (#[]) 146 (some 3) ?_;intro b1 w2 hn3;have hb4:c.base<=b1:=Glob.lt hG hn3;have hb5:=Nat.le_trans v0.size hn3.base;have v6:=hn3.mod;have v10:=zt v0 v6;refine yS 1<|zx<|yS 2<|reg_call 122 [pz p,.bool false] (some 10) (by kernel_rfl) (c122f (S:=S) ya ya yg hpre.len hpre.pc hpre.kings hpre.turn hpre.ep) ?_;rintro _ w12 ⟨b14,rfl,v13,ho15⟩;refine ⟨_,rfl,?_⟩;have hb16:=(Own.lt ho15 b14 (by simp [blk])).1;have hb17:=Nat.le_trans v10.size hb16;have hb18:=Nat.le_trans (Glob.size) hb16;replace ho15:=Own.fresh (b1:=w.heap.size) ho15 (by omega);have v23:=zt v10 v13;refine yS 1<|zx<|yS 2<|reg_call 123 [pz p] (some 13) (by kernel_rfl) (c123 (S:=S) ya ya yg hpre.cs hpre.kW hpre.kB hpre.kings hpre.turn) ?_;rintro _ w24 ⟨b26,A27,rfl,v25,u28,hx29,hb30⟩;refine ⟨_,rfl,?_⟩;have ho34:=Own.on ho15 v25;have v36:=zt v23 v25;have hz37:=v36.size;refine reg_append (some ⟨b14,0,none⟩) ((stdL B S).length) ((stdL B S).length) ⟨b26,0,none⟩ ((castL B S).length) 2 98 (some 14) 11 96 (b0:=w.heap.size) (xs:=(mvsL (stdL B S))) (news:=(mvsL (castL B S))) (by kernel_rfl) ho34 (by decide) (mvsL_len _) (MvArrN.cells hx29 u28) (oneCells_mem (oneCells_mvs _)) (by have:=hpre.len;have:=castL_le (B:=B) (S:=S);omega) (by omega) ?_;intro ao38 cap39 w40 ho41 v42 hne43;obtain ⟨g49,rfl,hb50⟩:=Own.get ho41 (hne43 (by simp));replace ho41:=Own.fresh (b1:=w.heap.size) ho41 (by omega);exact yS 1<|zz<|w_ret<|ret1 rfl rfl (⟨g49,cap39,by simp only [allL,List.length_append],yt,Own.cast ho41 (by simp only [allL,List.length_append]) (by simp only [allL,mvsL_append])⟩)
theorem c93n{c:GC}{p b:Nat}{S:Ps}{w:World}(hp:At w p (.cells (psCells b (.slice none 0 0) S) 110 (0,0))){B:Bd}(hb:At w b (.cells (bdCells B) 135 (0,0)))(hG:Glob c w)(hpre:MvPre B S)(hbase:c.base<=p):
  CQ 93 [.pointer (some ⟨p,0,none⟩)] w (λe w'=>∃vm' ao cap',e=.returned (.slice ao (allL B S).length cap')/\Mod [p] w w'/\At w' p (.cells (psCells b vm' S) 110 (0,0))/\Cached w' vm' B S/\Own w' w.heap.size 98 11 ao (allL B S).length cap' (mvsL (allL B S))):=by
 have v0:Mod [p] w w:=Mod.refl _ _;refine en func93 ntmps93 ?_;refine zw<|yS 1<|zz<|w_seq<|zw<|yL 5 p 2<|zz<|yF<|w_skip<|zn<|yS 3<|zC (some 16) (c111 (S:=S) hp hb hG hpre) ?_;rintro _ w1 ⟨b3,cap4,rfl,v2,ho5⟩;refine ⟨_,rfl,?_⟩;replace ho5:=Own.fresh (b1:=0) ho5 (by omega);have v9:=Mod.trans v0 (Mod.of_nil v2);refine yS 2<|zS p 2 (.slice (some ⟨b3,0,none⟩) ((allL B S).length) cap4) ?_;intro w10 hu11;have u12:At w10 p (.cells (psCells b (.slice (some ⟨b3,0,none⟩) ((allL B S).length) cap4) S) 110 (0,0)):=hu11.at_;have ho14:=Own.keep ho5 hu11.mod (Own.sep ho5 ya rfl);have v16:=Mod.fresh' v9 hu11.mod (by simp<;>omega);refine zx<|yL 4 p 2 ?_;have hz17:=v16.size;refine reg_append none 0 0 ⟨b3,0,none⟩ ((allL B S).length) cap4 98 (some 23) 11 96 (b0:=w.heap.size) (xs:=[]) (news:=(mvsL (allL B S))) (by kernel_rfl) (Own.nil _ _ _ _) (by decide) (mvsL_len _) (Own.cells' ho14) (oneCells_mem (oneCells_mvs _)) (by have:=allL_len hpre;omega) (by omega) ?_;intro ao18 cap19 w20 ho21 v22 hne23;have u25:=At.on u12 v22;have ho26:=Own.on ho14 v22;have v28:=Mod.trans v16 (Mod.of_nil v22);exact yS 1<|zz<|w_ret<|ret1 rfl rfl (⟨_,ao18,cap19,by rw [Nat.zero_add],v28,u25,⟨_,_,rfl,ho26⟩,Own.cast ho21 (Nat.zero_add _) (List.nil_append _)⟩)
theorem c93c{c:GC}{p b g cap:Nat}{S:Ps}{B:Bd}{w:World}(hp:At w p (.cells (psCells b (.slice (some ⟨g,0,none⟩) (allL B S).length cap) S) 110 (0,0)))(hc:Own w 0 98 11 (some ⟨g,0,none⟩) (allL B S).length cap (mvsL (allL B S)))(hG:Glob c w)(hpre:MvPre B S):
  CQ 93 [.pointer (some ⟨p,0,none⟩)] w (λe w'=>∃vm' ao cap',e=.returned (.slice ao (allL B S).length cap')/\Mod [p] w w'/\At w' p (.cells (psCells b vm' S) 110 (0,0))/\Cached w' vm' B S/\Own w' w.heap.size 98 11 ao (allL B S).length cap' (mvsL (allL B S))):=by
 have v0:Mod [p] w w:=Mod.refl _ _;refine en func93 ntmps93 ?_;refine zw<|yS 1<|zz<|w_seq<|zw<|yL 5 p 2<|zz<|yT<|zw<|yL 4 p 2<|reg_append none 0 0 ⟨g,0,none⟩ ((allL B S).length) cap 98 (some 12) 11 96 (b0:=w.heap.size) (xs:=[]) (news:=(mvsL (allL B S))) (by kernel_rfl) (Own.nil _ _ _ _) (by decide) (mvsL_len _) (Own.cells' hc) (oneCells_mem (oneCells_mvs _)) (by have:=allL_len hpre;omega) (by omega) ?_;intro ao2 cap3 w4 ho5 v6 hne7;have u8:=At.on hp v6;have ho9:=Own.on hc v6;have v11:=Mod.trans v0 (Mod.of_nil v6);exact yS 1<|zz<|w_ret<|r_then<|ret1 rfl rfl (⟨_,ao2,cap3,by rw [Nat.zero_add],v11,u8,⟨_,_,rfl,ho9⟩,Own.cast ho5 (Nat.zero_add _) (List.nil_append _)⟩)
theorem c93{c:GC}{p b:Nat}{vm:Value}{S:Ps}{w:World}(hp:At w p (.cells (psCells b vm S) 110 (0,0))){B:Bd}(hb:At w b (.cells (bdCells B) 135 (0,0)))(hG:Glob c w)(hpre:MvPre B S)(hbase:c.base<=p)(hca:Cache w vm B S):
  CQ 93 [pz p] w (λe w'=>∃vm' ao cap',e=.returned (.slice ao (allL B S).length cap')/\Mod [p] w w'/\At w' p (.cells (psCells b vm' S) 110 (0,0))/\Cached w' vm' B S/\Own w' w.heap.size 98 11 ao (allL B S).length cap' (mvsL (allL B S))):=by
 rcases hca with rfl|⟨g,cap,rfl,ho⟩
 ·exact c93n hp hb hG hpre hbase
 exact c93c hp ho hG hpre
theorem c31{m:Nat}{pos:Value}{M:Mv}{w:World}(hm:At w m (.cells (mvCells pos M) 98 (0,0)))(hr:MvOk M):
  CR 31 [pz m] w (.agg #[.int .i64 M.s1,.int .i64 M.s2,.int .i64 M.promo]):=by
 refine en func31 ntmps31 ?_;refine zw<|zA (#[.int .i64 0,.int .i64 0,.int .i64 0]) 30 (some 2) fun b1 w2 hn3=>zx<|yS 1<|zk (some 4) (c58 (yA w2 m)) fun w9 v10=>yS 2<|zk (some 7) (c59 (yA w9 m)) fun w14 v15=>yS 2<|zk (some 10) (c60 (yA w14 m)) fun w19 v20=>zs 1 [rz 2 b1,iz 5 (IntKind.i64.wrap M.s1),iz 8 (IntKind.i64.wrap M.s2),iz 11 (IntKind.i64.wrap M.promo)] ?_;rw [(show ((IntKind.i64.wrap M.s1):Int)=M.s1 from (by have:=hr.s1;exact i64_in' (by omega) (by omega)))];rw [(show ((IntKind.i64.wrap M.s2):Int)=M.s2 from (by have:=hr.s2;exact i64_in' (by omega) (by omega)))];rw [(show ((IntKind.i64.wrap M.promo):Int)=M.promo from (by have:=hr.promo;exact i64_in' (by omega) (by omega)))];exact yS 1<|zS b1 0 (.agg #[.int .i64 M.s1,.int .i64 M.s2,.int .i64 M.promo]) fun w24 hu25=>zz<|w_ret<|retc results31 rfl (by kernel_rfl) (by kernel_rfl) (At.row ya rfl) (⟨rfl,yt⟩)
theorem c57{c:GC}{p b:Nat}{vm:Value}{S:Ps}{w:World}(hp:At w p (.cells (psCells b vm S) 110 (0,0))){B:Bd}(hb:At w b (.cells (bdCells B) 135 (0,0)))(hG:Glob c w)(hpre:MvPre B S)(hbase:c.base<=p)(hca:Cache w vm B S)(x y z:Int)(hex:∃i,i<(allL B S).length/\eqM (mvAt (allL B S) i) x y z=true)(hr:∀M∈allL B S,MvOk M):
  CQ 57 [.pointer (some ⟨p,0,none⟩),.agg #[.int .i64 x,.int .i64 y,.int .i64 z]] w (λe w'=>∃q M vm',e=.returned (.pointer (some ⟨q,0,none⟩))/\Mod [p] w w'/\At w' p (.cells (psCells b vm' S) 110 (0,0))/\Cached w' vm' B S/\At w' q (.cells (mvCells (.pointer none) M) 98 (0,0))/\w.heap.size<=q/\M∈allL B S/\eqM M x y z=true):=by
 have v0:Mod [p] w w:=Mod.refl _ _;have hpos:0<(allL B S).length:=by obtain ⟨i,hi,_⟩:=hex;omega
 have hlen:=allL_len hpre;refine en func57 ntmps57 ?_;refine zw<|zA (#[.int .i64 x,.int .i64 y,.int .i64 z]) 30 (some 3) ?_;intro b1 w2 hn3;have hb4:c.base<=b1:=Glob.lt hG hn3;have hb5:=Nat.le_trans v0.size hn3.base;have v6:=hn3.mod;have u7:=At.on hp v6;have u8:=At.on hb v6;have he9:=Cache.on hca v6;have z10:=Glob.on hG v6;have v11:=Mod.trans v0 (Mod.of_nil v6);have u12:=hn3.at_;refine yS 1<|zz<|w_seq<|zw<|yS 1<|zC (some 8) (c93 (S:=S) u7 u8 z10 hpre hbase he9) ?_;rintro _ w13 ⟨vm15,ao16,cap17,rfl,v14,u18,hca19,ho20⟩;refine ⟨_,rfl,?_⟩;have u22:=At.keep u12 v14 (not_mem1 (At.ne u12 u7 rfl));have z23:=Glob.keep z10 v14 (by simp<;>omega);have v24:=Mod.fresh' v11 v14 (by simp<;>omega);have v25:Mod [] w13 w13:=Mod.refl _ _;obtain ⟨g26,cur27,rfl,hb28,u29,ht30,hn31,hs32⟩:=Own.some ho20 hpos;refine yS 2<|zz<|w_block<|yP (γ:=Int) (λg33=>(((allL B S).length:Int)-g33).toNat) (λ(g33:Int)=>[(3,pz b1),(8,.slice (some ⟨g26,0,none⟩) ((allL B S).length) cap17),(9,.int .i64 (((allL B S).length:Nat):Int)),(10,.int .i64 g33)]) (λ(g33:Int) w_=>(0<=g33/\g33<=((allL B S).length:Int))/\Mod [] w13 w_/\(∀i:Int,0<=i->i<g33->eqM (mvAt (allL B S) i.toNat) x y z=false)) 0 ⟨by omega,Mod.refl _ _,(λi h0 h1=>absurd h1 (by omega))⟩ ?_;rintro g33 w34 ⟨⟨h36,h37⟩,v35,hx38⟩;have u40:=At.on u22 v35;have u41:=At.on u18 v35;have z42:=Glob.on z23 v35;have v43:=Mod.trans v24 (Mod.of_nil v35);have v44:=zt v25 v35;refine zw<|yS 1<|zz<|w_seq<|yC (decide (g33<(((allL B S).length:Nat):Int))) (λhc45=>?_) λhc45=>?_
 ·have dhc45:=of_decide_eq_true hc45;refine w_skip<|n_then<|w_seq<|w_block<|zw<|yV 2 [.prop (0<=g33/\g33<(((allL B S).length:Nat):Int)),.row ⟨g26,(0+g33.toNat*11),none⟩ 11 (mvCells (.pointer none) (mvAt (allL B S) g33.toNat))] [.agg (mvCells (.pointer none) (mvAt (allL B S) g33.toNat))] (⟨(zh (by omega)),(own_mv (Own.on ho20 v44) (by omega))⟩)<|zA (mvCells (.pointer none) (⟨0,0,0,0⟩:Mv)) 98 (some 6) ?_;intro b46 w47 hn48;have hb49:c.base<=b46:=Glob.lt z42 hn48;have hb50:=Nat.le_trans v43.size hn48.base;have hb51:=Nat.le_trans v44.size hn48.base;have hb52:=Nat.le_trans v35.size hn48.base;have v53:=hn48.mod;have u55:=At.on u40 v53;have u56:=At.on u41 v53;have v58:=Mod.trans v43 (Mod.of_nil v53);have v59:=zt v44 v53;have v60:=zt v35 v53;have u61:=hn48.at_;refine zS b46 0 (.agg (mvCells (.pointer none) (mvAt (allL B S) g33.toNat))) ?_;intro w62 hu63;have u64:At w62 b46 (.cells (mvCells (.pointer none) (mvAt (allL B S) g33.toNat)) 98 (0,0)):=hu63.at_;have u66:=At.keep u55 hu63.mod (not_mem1 (At.ne u55 u61 rfl));have u67:=At.keep u56 hu63.mod (not_mem1 (At.ne u56 u61 rfl));have v69:=Mod.fresh' v58 hu63.mod (by simp<;>omega);have v70:=Mod.fresh' v59 hu63.mod (by simp<;>omega);have v71:=Mod.fresh' v60 hu63.mod (by simp<;>omega);refine zz<|w_seq ?_;have hmem:=mvAt_mem (l:=allL B S) (i:=g33.toNat) (by omega);have hok:=hr _ hmem;refine w_qt<|zqk (some 14) (λw_ hC=>c31 (M:=(mvAt (allL B S) g33.toNat)) (At.on u64 hC) hok)<|yQv 1 [.row ⟨b1,0,none⟩ 3 (#[.int .i64 x,.int .i64 y,.int .i64 z])] [.agg (#[.int .i64 x,.int .i64 y,.int .i64 z])] (λ_ hC=>At.row (At.on u66 hC) rfl)<|q_eq30 ((mvAt (allL B S) g33.toNat).s1) ((mvAt (allL B S) g33.toNat).s2) ((mvAt (allL B S) g33.toNat).promo) x y z (some 16) (by kernel_rfl) (by kernel_rfl)<|q_ot ?_;intro w72 v73;have u76:=At.on u67 v73;have u77:=At.on u64 v73;have v79:=Mod.trans v69 (Mod.of_nil v73);have v80:=zt v70 v73;have v81:=zt v71 v73;refine n_then<|zc (λhc82=>?_) λhc82=>?_
  ·exact zw<|yS 1<|zz<|w_ret<|r_block<|r_then<|r_then<|r_block<|r_then<|y1 (⟨b46,mvAt (allL B S) g33.toNat,_,rfl,v79,u76,Cached.on hca19 v80,u77,by omega,hmem,hc82⟩)
  exact w_skip<|n_block<|n_then<|w_region<|yS 2<|yW 10 (zi (g33+1) (by omega) (by omega))<|ze<|zl (g33+1) ⟨by omega,v81,(forall_step hx38 hc82)⟩
 have dhc45:=of_decide_eq_false hc45;exact w_exit<|x_then<|x_then<|x_hit<|zn<|yS 1<|zz<|w_ret<|ret1 rfl rfl (by obtain ⟨i,hi,he⟩:=hex;have:=hx38 (i:Int) (by omega) (by omega);rw [show ((i:Int)).toNat=i from rfl,he] at this;cases this)
end Go.Proofs.YtgnhellfhjoaaaaGreatDoor
namespace Go.Proofs.YtgnhellfhjoaaaaGreatDoor
open Go Go.RowKit Tryz Go.Instr
def entOf(l:List (Int×Int))(es:List MapEntry):Prop:=es.map (λe=>(e.key,e.val))=l.map λ(k,v)=>(Value.int .i8 k,Value.int .i8 v)
def MapAt(w:World)(r:Nat)(f:Int->Int):Prop:=
 ∃es clock l,At w r (.map es clock)/\entOf l es.toList/\(∀k v,(k,v)∈l->f k=v/\v≠0)/\∀k,f k≠0->(k,f k)∈l
theorem MapAt.keep{w w':World}{S:List Nat}{r:Nat}{f:Int->Int}(h:MapAt w r f)(m:Mod S w w')(hS:r∉S):MapAt w' r f:=by
 obtain ⟨es,clock,l,ha,h1⟩:=h;exact ⟨es,clock,l,ha.keep m hS,h1⟩
theorem MapAt.on{w w':World}{r:Nat}{f:Int->Int}(h:MapAt w r f)(m:Mod [] w w'):MapAt w' r f:=h.keep m (by simp)
theorem MapAt.lt{w:World}{r:Nat}{f:Int->Int}(h:MapAt w r f):r<w.heap.size:=by
 obtain ⟨es,clock,l,ha,_⟩:=h;exact ha.lt
theorem MapAt.ne{w:World}{r b:Nat}{f:Int->Int}{cs:Array Value}{t:TypeId}(h:MapAt w r f)(hb:At w b (.cells cs t (0,0))):r≠b:=by
 obtain ⟨es,clock,l,ha,_⟩:=h;rintro rfl;cases ha.inj hb
theorem findNow_spec(k:Int):∀(l:List (Int×Int)) (es:List MapEntry) (i:Nat),entOf l es->
  (∃v p,(k,v)∈l/\findNow (.int .i8) (.int .i8 k) es i=some (some (p,.int .i8 v)))\/((∀v,(k,v)∉l)/\findNow (.int .i8) (.int .i8 k) es i=some none)
 |[],es,i,h=>by
  obtain rfl:es=[]:=by simpa [entOf] using h
  exact .inr ⟨by simp,rfl⟩
 |(a,b)::l,es,i,h=>by
  cases es with
  |nil=>simp [entOf] at h
  |cons e es=>
   simp only [entOf,List.map_cons,List.cons.injEq,Prod.mk.injEq] at h;obtain ⟨⟨h1,h2⟩,h3⟩:=h;by_cases e1:k=a
   ·subst e1;exact .inl ⟨b,i,by simp,by simp [findNow,sameNow,h1,h2]⟩
   ·have hs:(k==a)=false:=by simpa using e1
    rcases findNow_spec k l es (i+1) h3 with ⟨v,p,hv,hf⟩|⟨hv,hf⟩
    ·exact .inl ⟨v,p,by simp [hv],by simp [findNow,sameNow,h1,hs,hf]⟩
    ·refine .inr ⟨λv hm=>?_,by simp [findNow,sameNow,h1,hs,hf]⟩;rcases List.mem_cons.1 hm with h'|h'
     ·simp only [Prod.mk.injEq] at h';exact e1 h'.1
     ·exact hv v h'
theorem run_checkKey{P:Program}(b:Bool)(k:Int)(w:World)(h:P.underlying 87=some (.int .i8)):(checkKey b 10000 87 (.int .i8 k)).run P w=.ok () w:=by
 rw [checkKey];simp [runU h]
theorem MapAt.make{w:World}:New w (w.alloc (.map #[] 0)) w.heap.size (.map #[] 0)/\MapAt (w.alloc (.map #[] 0)) w.heap.size (λ_=>0):=by
 have h:=New.alloc w (.map #[] 0);exact ⟨h,#[],0,[],h.at_,rfl,by simp,by simp⟩
theorem MapAt.lookup{w:World}{r:Nat}{f:Int->Int}(h:MapAt w r f)(k:Int):
  (lookup 128 (.map (some r)) (.int .i8 k) true).run prog w=.ok (.tuple #[.int .i8 (f k),.bool (f k !=0)]) w:=by
 obtain ⟨es,clock,l,ha,he,h1,h2⟩:=h;have hg:(getObj r).run prog w=.ok (.map es clock) w:=by simp [getObj,Sem.run,show w.heap[r]?=_ from ha.e]
 have hu:(underlying 128).run prog w=.ok (.map 87 112) w:=runU Tryz.underlying128;have hu87:(underlying 87).run prog w=.ok (.int .i8) w:=runU Tryz.underlying87;rcases findNow_spec k l es.toList 0 he with ⟨v,p,hv,hf⟩|⟨hv,hf⟩
 ·obtain ⟨e1,e2⟩:=h1 k v hv;have:(f k !=0)=true:=by rw [e1];simpa using e2
  simp [Instr.lookup,hu,hg,run_checkKey _ _ _ Tryz.underlying87,findKey,hu87,hf,e1];exact e2
 have e0:f k=0:=by
  by_cases hz:f k=0
  ·exact hz
  exact absurd (h2 k hz) (hv _)
 have hz:(zeroValue 112).run prog w=.ok (.int .i8 0) w:=Tryz.zeroValue112 w;simp [Instr.lookup,hu,hg,run_checkKey _ _ _ Tryz.underlying87,findKey,hu87,hf,e0,hz]
theorem MapAt.update{w:World}{r:Nat}{f:Int->Int}(h:MapAt w r f)(k v:Int)(hk:f k=0)(hv:v≠0):
  ∃w',(mapUpdate 128 (.map (some r)) (.int .i8 k) (.int .i8 v)).run prog w=.ok () w'/\Mod [r] w w'/\MapAt w' r (λx=>if x=k then v else f x):=by
 obtain ⟨es,clock,l,ha,he,h1,h2⟩:=h;have hg:(getObj r).run prog w=.ok (.map es clock) w:=by simp [getObj,Sem.run,show w.heap[r]?=_ from ha.e]
 have hu:(underlying 128).run prog w=.ok (.map 87 112) w:=runU Tryz.underlying128;have hu87:(underlying 87).run prog w=.ok (.int .i8) w:=runU Tryz.underlying87;have hno:∀u,(k,u)∉l:=λu hm=>by
  obtain ⟨e1,e2⟩:=h1 k u hm;exact e2 (e1.symm.trans hk)
 rcases findNow_spec k l es.toList 0 he with ⟨u,p,hm,_⟩|⟨_,hf⟩
 ·exact absurd hm (hno u)
 have hs:(setObj r (.map (es.push {key:=.int .i8 k,val:=.int .i8 v,born:=clock}) (clock+1))).run prog w=.ok () {w with heap:=w.heap.setIfInBounds r (.map (es.push {key:=.int .i8 k,val:=.int .i8 v,born:=clock}) (clock+1))}:=by
  simp [setObj,Sem.run,show w.heap[r]?=_ from ha.e]
 have hlt:=ha.lt;refine ⟨{w with heap:=w.heap.setIfInBounds r (.map (es.push {key:=.int .i8 k,val:=.int .i8 v,born:=clock}) (clock+1))},by simp [mapUpdate,hu,hg,run_checkKey _ _ _ Tryz.underlying87,findKey,hu87,hf,hs],⟨rfl,rfl,rfl,by simp,λj hj hS=>?_⟩,?_⟩
 ·simp only [List.mem_singleton] at hS;simp [Array.getElem?_setIfInBounds_ne (Ne.symm hS)]
 refine ⟨es.push {key:=.int .i8 k,val:=.int .i8 v,born:=clock},clock+1,l++[(k,v)],⟨by rw [Array.getElem?_setIfInBounds_self_of_lt hlt]⟩,by simpa [entOf] using he,?_,?_⟩
 ·intro x y hxy;rcases List.mem_append.1 hxy with hx|hx
  ·obtain ⟨e1,e2⟩:=h1 x y hx;have:x≠k:=λe=>hno y (e▸hx);simp [this,e1,e2]
  simp only [List.mem_singleton,Prod.mk.injEq] at hx;obtain ⟨rfl,rfl⟩:=hx;simp [hv]
 intro x hx;by_cases e:x=k
 ·subst e;simp
 simp only [e,if_false] at hx⊢;exact List.mem_append_left _ (h2 x hx)
section
variable{n:Nat}{D:List Deferred}{ops:Array Oper}{Q:Exit->Act->World->Prop}{w:World}{L:List (Nat×Value)}
def lookAt(n:Nat)(ops:List Oper)(k:Nat)(L:List (Nat×Value)):Option (Value×Value×Option Nat):=
 match ops[k]? with
 |some o=>match wantedL ops L o,dstOk o.dst n with
  |some true,true=>match o.op with
   |.lookup 128 x y true=>match evL L x,evL L y with
    |some u,some v=>some (u,v,o.dst)
    |_,_=>none
   |_=>none
  |_,_=>none
 |none=>none
theorem reg_look{k r:Nat}{f:Int->Int}(key:Int)(dst:Option Nat)(h:lookAt n ops.toList k L=some (.map (some r),.int .i8 key,dst))(hm:MapAt w r f)
  (hk:Reg prog n D ops Q (k+1) (setD dst (.tuple #[.int .i8 (f key),.bool (f key !=0)]) L) w):Reg prog n D ops Q k L w:=by
 intro act ha;unfold lookAt at h;split at h
 case h_2=>cases h
 rename_i o ho;split at h
 case h_2=>cases h
 rename_i hw hd;split at h
 case h_2=>cases h
 rename_i x y hop;split at h
 case h_2=>cases h
 rename_i u v hu hv;simp only [Option.some.injEq,Prod.mk.injEq] at h;obtain ⟨rfl,rfl,rfl⟩:=h;rw [drop_cons ho];simp only [wpList,wantedL_spec ha hw,if_true];refine .inl ?_;have hr:(execOp act.eval o).run prog w=.ok (.value (.tuple #[.int .i8 (f key),.bool (f key !=0)])) w:=by
  obtain ⟨dst,op,ty,pos,af,g'⟩:=o;simp only at hop;subst hop;simp only [execOp,ha.agrees _ _ hu,ha.agrees _ _ hv,Sem.run_bind,hm.lookup key,Result.andThen_ok];rfl
 simp only [Oper.wp,hr,Oper.upon];exact hk _ (ha.setD hd _)
def mupAt(n:Nat)(ops:List Oper)(k:Nat)(L:List (Nat×Value)):Option (Value×Value×Value×Option Nat):=
 match ops[k]? with
 |some o=>match wantedL ops L o,dstOk o.dst n with
  |some true,true=>match o.op with
   |.mapUpdate 128 x y z=>match evL L x,evL L y,evL L z with
    |some u,some v,some t=>some (u,v,t,o.dst)
    |_,_,_=>none
   |_=>none
  |_,_=>none
 |none=>none
theorem reg_mup{k r:Nat}{f:Int->Int}(key v:Int)(dst:Option Nat)(h:mupAt n ops.toList k L=some (.map (some r),.int .i8 key,.int .i8 v,dst))(hm:MapAt w r f)(h0:f key=0)(hv:v≠0)
  (hk:∀w',Mod [r] w w'->MapAt w' r (λx=>if x=key then v else f x)->Reg prog n D ops Q (k+1) (setD dst undef L) w'):Reg prog n D ops Q k L w:=by
 intro act ha;unfold mupAt at h;split at h
 case h_2=>cases h
 rename_i o ho;split at h
 case h_2=>cases h
 rename_i hw hd;split at h
 case h_2=>cases h
 rename_i x y z hop;split at h
 case h_2=>cases h
 rename_i u v' t hu hv' ht;simp only [Option.some.injEq,Prod.mk.injEq] at h;obtain ⟨rfl,rfl,rfl,rfl⟩:=h;rw [drop_cons ho];simp only [wpList,wantedL_spec ha hw,if_true];refine .inl ?_;obtain ⟨w',hrun,hmod,hm'⟩:=hm.update key v h0 hv;have hr:(execOp act.eval o).run prog w=.ok .skip w':=by
  obtain ⟨dst,op,ty,pos,af,g'⟩:=o;simp only at hop;subst hop;simp only [execOp,ha.agrees _ _ hu,ha.agrees _ _ hv',ha.agrees _ _ ht,Sem.run_bind,hrun,Result.andThen_ok];rfl
 simp only [Oper.wp,hr,Oper.upon];exact hk w' hmod hm' _ (ha.setD hd _)
def mmkAt(n:Nat)(ops:List Oper)(k:Nat)(L:List (Nat×Value)):Option (Option Nat):=
 match ops[k]? with
 |some o=>match wantedL ops L o,dstOk o.dst n with
  |some true,true=>match o.op with
   |.makeMap 128 none=>some o.dst
   |_=>none
  |_,_=>none
 |none=>none
theorem reg_mmk{k:Nat}(dst:Option Nat)(h:mmkAt n ops.toList k L=some dst)
  (hk:∀r w',Mod [] w w'->MapAt w' r (λ_=>0)->w.heap.size<=r->Reg prog n D ops Q (k+1) (setD dst (.map (some r)) L) w'):Reg prog n D ops Q k L w:=by
 intro act ha;unfold mmkAt at h;split at h
 case h_2=>cases h
 rename_i o ho;split at h
 case h_2=>cases h
 rename_i hw hd;split at h
 case h_2=>cases h
 rename_i hop;simp only [Option.some.injEq] at h;subst h;rw [drop_cons ho];simp only [wpList,wantedL_spec ha hw,if_true];refine .inl ?_;have hr:(execOp act.eval o).run prog w=.ok (.value (.map (some w.heap.size))) (w.alloc (.map #[] 0)):=by
  obtain ⟨dst,op,ty,pos,af,g'⟩:=o;simp only at hop;subst hop;rfl
 simp only [Oper.wp,hr,Oper.upon];obtain ⟨h1,h2⟩:=MapAt.make (w:=w);exact hk _ _ h1.mod h2 h1.base _ (ha.setD hd _)
end
structure SP where
 bd:Nat->Int
 turn:Int
 castle:Int
 ep:Int
 half:Int
 full:Int
def bdArr(f:Nat->Int):Array Value:=(Array.range 64).map λi=>.int .i64 (f i)
def spTail(P:SP):Array Value:=#[.int .i64 P.turn,.int .i64 P.castle,.int .i64 P.ep,.int .i64 P.half,.int .i64 P.full]
def spCells(P:SP):Array Value:=bdArr P.bd++spTail P
theorem bdArr_size(f:Nat->Int):(bdArr f).size=64:=by simp [bdArr]
theorem spCells_size(P:SP):(spCells P).size=69:=by simp [spCells,bdArr_size,spTail]
theorem bdArr_at'{f:Nat->Int}{i:Nat}(h:i<64):(bdArr f)[i]?=some (.int .i64 (f i)):=by simp [bdArr,h]
theorem bdArr_at{f:Nat->Int}{i:Nat}(h:i<64):(bdArr f)[i*1]?=some (.int .i64 (f i)):=by rw [Nat.mul_one];exact bdArr_at' h
theorem spCells_bd(P:SP){i:Nat}(h:i<64):(spCells P)[i]?=some (.int .i64 (P.bd i)):=by
 unfold spCells;rw [Array.getElem?_append_left (by rw [bdArr_size];exact h)];exact bdArr_at' h
theorem spCells_b0(P:SP){x:Int}(h:x<64):(spCells P)[0+x.toNat*1]?=some (.int .i64 (P.bd x.toNat)):=by
 rw [show 0+x.toNat*1=x.toNat by omega];exact spCells_bd P (by omega)
theorem spCells_tail(P:SP)(j:Nat):(spCells P)[64+j]?=(spTail P)[j]?:=by
 unfold spCells;rw [Array.getElem?_append_right (by rw [bdArr_size];omega),bdArr_size];congr 1;omega
theorem spCells_64(P:SP):(spCells P)[64]?=some (.int .i64 P.turn):=spCells_tail P 0
theorem spCells_65(P:SP):(spCells P)[65]?=some (.int .i64 P.castle):=spCells_tail P 1
theorem spCells_66(P:SP):(spCells P)[66]?=some (.int .i64 P.ep):=spCells_tail P 2
theorem spCells_67(P:SP):(spCells P)[67]?=some (.int .i64 P.half):=spCells_tail P 3
theorem spCells_68(P:SP):(spCells P)[68]?=some (.int .i64 P.full):=spCells_tail P 4
theorem spCells_part(P:SP):∀j,j<64->(spCells P)[0+j]?=(bdArr P.bd)[j]?:=by
 intro j hj;rw [Nat.zero_add,spCells_bd P hj,bdArr_at' hj]
end Go.Proofs.YtgnhellfhjoaaaaGreatDoor
