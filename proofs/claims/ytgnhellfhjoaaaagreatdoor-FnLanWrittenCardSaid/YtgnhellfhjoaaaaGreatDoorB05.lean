/-
  FnLanWritten: in every right position each legal move is written in long algebraic notation as the definition writes it, and what is written is read as the move (a part of the proof).
  Conditions: those of each theorem.
-/
import Derived.Test.YtgnhellfhjoaaaaGreatDoorB01
import Derived.Test.YtgnhellfhjoaaaaGreatDoorB02
import Derived.Test.YtgnhellfhjoaaaaGreatDoorB03
import Derived.Test.YtgnhellfhjoaaaaGreatDoorB04
import Derived.Lib.AppendStr
import Derived.Lib.UnsafeStr
import Derived.Lib.Builder
import Derived.Laws.IdiomStrings
import Derived.Laws.BytesArg
import Derived.WalkKit
import Derived.Defers
import Derived.Recover
set_option linter.unusedVariables false
set_option linter.unusedSimpArgs false
namespace Go.Proofs.YtgnhellfhjoaaaaGreatDoor
open Go Go.RowKit
set_option maxRecDepth 100000
theorem reachL_rng{bd:Nat→Int}{s x:Int}(h:x∈reachL bd s):0≤x∧x≤63:=by
 have h1:∀(far:Bool) (d:Int×Int) (m:Nat) (n:Int),∀x∈rayF bd s far d m n,0≤x∧x≤63:=by
  intro far d m;induction m with
  |zero=>intro n x hx;simp [rayF] at hx
  |succ m ih=>
   intro n x hx;unfold rayF at hx;split at hx
   ·cases hx
   ·rename_i hn;have hr:=atS_rng ((s%8)+(n*d.1)) ((s/8)+(n*d.2));rcases List.mem_cons.1 hx with rfl|hx
    ·unfold raySq at*;omega
    ·split at hx
     ·cases hx
     ·exact ih _ _ hx
 unfold reachL reachTo at h;obtain ⟨d,_,hd⟩:=List.mem_flatMap.1 h;exact h1 _ _ _ _ x hd
theorem stepsL_rng{bd:Nat→Int}{ep s x:Int}(h:x∈stepsL bd ep s):0≤x∧x≤63:=by
 unfold stepsL at h;rw [List.mem_append] at h;rcases h with h|h
 ·unfold onL at h;cases h1:oneB bd s (sideOf (bd s.toNat))<;>rw [h1] at h
  ·cases h
  have hone:0≤oneS s (sideOf (bd s.toNat)):=by unfold oneB at h1;simp only [Bool.and_eq_true,decide_eq_true_eq] at h1;omega
  have r1:=atS_rng (s%8) ((s/8)+(1-2*(sideOf (bd s.toNat))));have r2:=atS_rng (s%8) ((s/8)+((2:Int)*(1-2*(sideOf (bd s.toNat)))));cases h2:twoB bd s (sideOf (bd s.toNat))<;>rw [h2] at h<;>simp only [cond_true,cond_false,List.mem_cons,List.not_mem_nil,or_false] at h
  ·unfold oneS at*;omega
  rcases h with h|h
  ·unfold oneS at*;omega
  have h3:s/8=1+5*(sideOf (bd s.toNat)):=by unfold twoB at h2;simp only [Bool.and_eq_true,beq_iff_eq] at h2;exact h2.1
  have h4:=sideOf_or (bd s.toNat);have:twoS s (sideOf (bd s.toNat))≠-1:=by unfold twoS atS;split<;>omega
  unfold twoS at*;omega
 exact hitsL_rng (List.mem_filter.1 h).1
theorem stepsL_len(bd:Nat→Int)(ep s:Int):(stepsL bd ep s).length≤4:=by
 unfold stepsL;have h1:=onL_len bd s (sideOf (bd s.toNat));have h2:=List.length_filter_le (stepB bd ep (sideOf (bd s.toNat))) (hitsL s (sideOf (bd s.toNat)));have h3:=hits_len s (sideOf (bd s.toNat));rw [List.length_append];omega
theorem reachL_len(bd:Nat→Int)(s:Int):(reachL bd s).length≤56:=reachTo_len _ _ _ 8
def promL(s t:Int):List Sm:=(List.range 4).map fun (k:Nat)=>⟨s,t,(k:Int)+2⟩
def toL(P:SP)(s t:Int):List Sm:=
 bif (P.bd t.toNat !=(0:Int))&&(sideOf (P.bd t.toNat)==P.turn) then [] else
 bif (kindOf (P.bd s.toNat) !=(6:Int))||((t/8) !=((7:Int)-((7:Int)*P.turn))) then [⟨s,t,0⟩] else promL s t
def dstL(P:SP)(s:Int):List Int:=bif kindOf (P.bd s.toNat)==(6:Int) then stepsL P.bd P.ep s else reachL P.bd s
def fromL(P:SP)(s:Int):List Sm:=bif (P.bd s.toNat==(0:Int))||(sideOf (P.bd s.toNat) !=P.turn) then [] else (dstL P s).flatMap (toL P s)
def pseudoL(P:SP):List Sm:=(List.range 64).flatMap (fun (k:Nat)=>fromL P (k:Int))++castS P
theorem toL_len(P:SP)(s t:Int):(toL P s t).length≤4:=by
 unfold toL;cases ((P.bd t.toNat !=(0:Int))&&(sideOf (P.bd t.toNat)==P.turn))<;>cases ((kindOf (P.bd s.toNat) !=(6:Int))||((t/8) !=((7:Int)-((7:Int)*P.turn))))<;>simp [promL]
theorem dstL_len(P:SP)(s:Int):(dstL P s).length≤56:=by
 unfold dstL;have:=stepsL_len P.bd P.ep s;have:=reachL_len P.bd s;cases (kindOf (P.bd s.toNat)==(6:Int))<;>simp<;>omega
theorem fromL_len(P:SP)(s:Int):(fromL P s).length≤224:=by
 unfold fromL;have h1:=flat_le (toL_len P s) (dstL P s);have h2:=dstL_len P s;cases ((P.bd s.toNat==(0:Int))||(sideOf (P.bd s.toNat) !=P.turn))<;>simp only [cond_true,cond_false,List.length_nil]<;>omega
theorem pseudoL_len(P:SP):(pseudoL P).length≤20000:=by
 unfold pseudoL;have h1:=flat_le (f:=fun (k:Nat)=>fromL P (k:Int)) (fun k=>fromL_len P k) (List.range 64);have h2:=castS_len P;rw [List.length_append];simp only [List.length_range] at h1;omega
theorem range_at{i:Int}(h0:0≤i)(h:i<64):(((List.range 64).getD i.toNat 0:Nat):Int)=i:=by
 rw [List.getD_eq_getElem?_getD,List.getElem?_eq_getElem (by rw [List.length_range];omega)];simp;omega
theorem dst_at{M:List Int}(hM:∀x∈M,0≤x∧x≤63){i:Int}(h0:0≤i)(h:i<(M.length:Int)):0≤M.getD i.toNat 0∧M.getD i.toNat 0≤63:=by
 refine hM _ ?_;rw [List.getD_eq_getElem?_getD,List.getElem?_eq_getElem (by omega)];exact List.getElem_mem _
def PromI(base:List Sm)(s t:Int)(q:GS):Prop:=q.l=base++(promL s t).take (q.i-2).toNat
theorem PromI.step{base:List Sm}{s t:Int}{q:GS}{ao:Option Addr}{cap:Nat}(h:PromI base s t q)(h1:2≤q.i∧q.i≤5):PromI base s t ⟨q.i+1,q.l++[⟨s,t,q.i⟩],ao,cap⟩:=by
 unfold PromI at*
 dsimp only;have hl:(promL s t).length=4:=rfl;rw [h,show (q.i+1-2).toNat=(q.i-2).toNat+1 by omega,List.take_succ_eq_append_getElem (by omega),List.append_assoc];congr 2;simp [promL];omega
theorem PromI.fin{base:List Sm}{s t:Int}{q:GS}(h:PromI base s t q)(h1:¬q.i≤5):q.l=base++promL s t:=by
 unfold PromI at h;rw [h,List.take_of_length_le (by have:(promL s t).length=4:=rfl;omega)]
theorem PromI.len{base:List Sm}{s t:Int}{q:GS}(h:PromI base s t q):q.l.length≤base.length+4:=by
 unfold PromI at h;rw [h,List.length_append];have:((promL s t).take (q.i-2).toNat).length≤4:=by rw [List.length_take];have:(promL s t).length=4:=rfl;omega
 omega
def OutI(P:SP)(q:GS):Prop:=FlatI [] (List.range 64) (fun (k:Nat)=>fromL P (k:Int)) q.i q.l
def MidI(base:List Sm)(P:SP)(s:Int)(M:List Int)(q:GS):Prop:=FlatI base M (toL P s) q.i q.l
theorem OutI.len{P:SP}{q:GS}(h:OutI P q):q.l.length≤14336:=by
 have:=FlatI.len h (c:=224) (fun k=>fromL_len P k);simp only [List.length_nil,List.length_range] at this;omega
theorem MidI.len{base:List Sm}{P:SP}{s:Int}{M:List Int}{q:GS}(h:MidI base P s M q)(hM:M.length≤56):q.l.length≤base.length+224:=by
 have:=FlatI.len h (c:=4) (toL_len P s);omega
set_option maxHeartbeats 1000000 in
theorem c21{w:World}(P:SP)(hB:SPb P)(hT:0≤P.turn∧P.turn≤1):
  Calls Tryz.prog 21 [.agg (spCells P)].toArray w (fun e w'=>∃l ao cap,e=.returned (.slice ao l.length cap)∧Mod [] w w'∧Same (pseudoL P) l∧Own w' w.heap.size 30 3 ao l.length cap (sms l)):=by
 have v0:Mod [] w w:=Mod.refl _ _;refine enter (n:=95) Tryz.func21 rfl Tryz.ntmps21 rfl ?_;refine zw ?_;refine zA (spCells P) 24 (some 1) ?_;intro b1 w2 hn3;have hb4:=Nat.le_trans v0.size hn3.base;have v5:=hn3.mod;have hz7:=v5.size;refine yS 1 ?_;refine zx ?_;refine yS 1 ?_;refine zz ?_;refine w_seq ?_;refine zw ?_;refine yS 1 ?_;refine zz ?_;refine w_block ?_;refine yP (γ:=GS) (fun g9=>(64-g9.i).toNat) (fun (g9:GS)=>[(1,pz b1),(3,.slice g9.ao g9.l.length g9.cap),(4,.int .i64 g9.i)]) (fun (g9:GS) w_=>(0≤g9.i∧g9.i≤64)∧Mod [] w2 w_∧(∀x∈blk g9.ao,x∈([]:List Nat)∨w2.heap.size≤x)∧Own w_ w2.heap.size 30 3 g9.ao g9.l.length g9.cap (sms g9.l)∧(OutI P g9)) ⟨0,[],none,0⟩ ⟨(by constructor<;>(try dsimp only)<;>omega),Mod.refl _ _,(fun x hx=>(blk_none x hx).elim),(Own.nil _ _ _ _),FlatI.zero⟩ ?_;rintro g9 w10 ⟨⟨h15,h16⟩,v11,hw12,ho13,hx14⟩;have hz19:=v11.size;refine w_seq ?_;refine zw ?_;refine yS 2 ?_;refine zz ?_;refine yC (decide (g9.i<64)) (fun hc20=>?_) fun hc20=>?_
 ·have dhc20:=of_decide_eq_true hc20;refine w_skip ?_;refine n_then ?_;refine w_seq ?_;refine w_block ?_;refine zw ?_;refine yO 4 [.prop (0≤g9.i∧g9.i<((64:Nat):Int)),.cell ⟨b1,(0+g9.i.toNat*1),none⟩ (.int .i64 (P.bd g9.i.toNat))] (⟨(zh (by omega)),yc (spCells_b0 P (by omega))⟩) ?_;refine yS 1 ?_;refine zz ?_;refine w_seq ?_;refine w_cut (γ:=Unit) (fun _=>[(1,pz b1),(3,.slice g9.ao g9.l.length g9.cap),(4,.int .i64 g9.i),(5,.int .i64 (P.bd g9.i.toNat)),(26,.bool (((P.bd g9.i.toNat)==0)||((sideOf (P.bd g9.i.toNat)) !=P.turn)))]) (fun _ w_=>Mod [] w10 w_) ?_ ?_
  ·refine w_qt ?_;refine yQ 3 ?_;refine yEq 20 (.bool ((P.bd g9.i.toNat)==(0:Int))) ?_;cases hc24:((P.bd g9.i.toNat)==(0:Int))
   ·have dhc24:=hc24;try simp only [zbq] at dhc24
    refine yQ 1 ?_;refine zqk (some 22) (fun w_ hC=>c45 (P.bd g9.i.toNat) w_) ?_;refine yQo 4 [.cell ⟨b1,64,none⟩ (.int .i64 P.turn)] (fun _ hC=>At.cell (At.on ya hC) (spCells_64 P)) ?_;refine q_ot ?_;intro w25 v26;have hz31:=v26.size;exact zb () yt
   have dhc24:=hc24;try simp only [zbq] at dhc24
   refine yQ 6 ?_;refine q_ot ?_;intro w32 v33;have hz38:=v33.size;exact zb () yt
  intro _ w21 v22;have ho40:=Own.on ho13 v22;have v42:=zt v11 v22;have hz43:=v22.size;refine yC (((P.bd g9.i.toNat)==0)||((sideOf (P.bd g9.i.toNat)) !=P.turn)) (fun hc44=>?_) fun hc44=>?_
  ·have dhc44:=hc44;try simp only [zbq] at dhc44
   refine w_exit ?_;refine x_then ?_;refine x_hit ?_;refine n_then ?_;refine w_region ?_;refine yS 2 ?_;refine yW 13 (zi (g9.i+(1:Int)) (by omega) (by omega)) ?_;refine yS 1 ?_;refine ze ?_;exact zl (⟨g9.i+1,g9.l,g9.ao,g9.cap⟩:GS) ⟨(by constructor<;>(try dsimp only)<;>omega),v42,hw12,ho40,(FlatI.step hx14 (by omega) (by rw [List.length_range];omega) 0 (by rw [range_at (by omega) (by omega)];unfold fromL;rw [hc44];exact (List.append_nil _).symm))⟩ (hlt:=(by dsimp only;omega))
  have dhc44:=hc44;try simp only [zbq] at dhc44
  refine w_skip ?_;refine zn ?_;refine yS 1 ?_;refine zz ?_;refine w_seq ?_;refine zw ?_;refine yS 1 ?_;refine zk (some 28) (c38 (P.bd g9.i.toNat) w21 (by first|omega|exact ⟨(hB _ (by omega)).1,(hB _ (by omega)).2⟩)) ?_;intro w45 v46;have ho48:=Own.on ho40 v46;have v50:=zt v42 v46;have hz51:=v46.size;refine yS 1 ?_;refine zz ?_;refine yC ((kindOf (P.bd g9.i.toNat))==6) (fun hc52=>?_) fun hc52=>?_
  ·have dhc52:=eq_of_beq hc52;refine w_region ?_;refine yV 2 [.row ⟨b1,0,none⟩ 69 (spCells P)] [.agg (spCells P)] (At.row ya (spCells_size P)) ?_;refine zC (some 32) (c46 P hB g9.i (by omega)) ?_;rintro _ w53 ⟨ao55,cap56,rfl,v54,ho57⟩;refine ⟨_,rfl,?_⟩;have ho59:=Own.on ho48 v54;have v61:=zt v50 v54;have hz62:=v54.size;refine yS 1 ?_;refine zx ?_;refine yS 1 ?_;refine zz ?_;refine w_block ?_;refine yP (γ:=GS) (fun g63=>(((stepsL P.bd P.ep g9.i).length:Int)-g63.i).toNat) (fun (g63:GS)=>[(1,pz b1),(3,.slice g63.ao g63.l.length g63.cap),(4,.int .i64 g9.i),(5,.int .i64 (P.bd g9.i.toNat)),(6,.slice ao55 ((stepsL P.bd P.ep g9.i).length) cap56),(7,.int .i64 g63.i)]) (fun (g63:GS) w_=>(0≤g63.i∧g63.i≤((stepsL P.bd P.ep g9.i).length:Int))∧Mod (blk g9.ao) w53 w_∧(∀x∈blk g63.ao,x∈((blk g9.ao):List Nat)∨w53.heap.size≤x)∧Own w_ w2.heap.size 30 3 g63.ao g63.l.length g63.cap (sms g63.l)∧(MidI g9.l P g9.i (stepsL P.bd P.ep g9.i) g63)) ⟨0,g9.l,g9.ao,g9.cap⟩ ⟨(by constructor<;>(try dsimp only)<;>omega),Mod.refl _ _,(fun x hx=>Or.inl hx),ho59,FlatI.zero⟩ ?_;rintro g63 w64 ⟨⟨h69,h70⟩,v65,hw66,ho67,hx68⟩;have ho72:=Own.keep ho57 v65 (own_type ho57 ho59 rfl);have v74:=Mod.fresh' v61 v65 hw12;have hz75:=v65.size;have hw76:∀x∈blk g63.ao,x∈([]:List Nat)∨w2.heap.size≤x:=fun x hx=>(hw66 x hx).elim (hw12 x) (fun h=>Or.inr (Nat.le_trans (v61.size) h));have hml:(stepsL P.bd P.ep g9.i).length≤56:=Nat.le_trans (stepsL_len _ _ _) (by decide);refine w_seq ?_;refine zw ?_;refine yS 4 ?_;refine zz ?_;refine yC (decide (g63.i<(((stepsL P.bd P.ep g9.i).length:Nat):Int))) (fun hc77=>?_) fun hc77=>?_
   ·have dhc77:=of_decide_eq_true hc77;obtain ⟨g78,cur79,rfl,hb80,u81,ht82,hn83,hs84⟩:=Own.some ho72 (by omega);have hto:=dst_at (M:=(stepsL P.bd P.ep g9.i)) (fun x hx=>stepsL_rng hx) (i:=g63.i) (by omega) (by omega);refine w_skip ?_;refine n_then ?_;refine w_seq ?_;refine w_block ?_;refine zw ?_;refine yO 5 [.prop (0≤g63.i∧g63.i<(((stepsL P.bd P.ep g9.i).length:Nat):Int)),.cell ⟨g78,(0+g63.i.toNat*1),none⟩ (.int .i64 ((stepsL P.bd P.ep g9.i).getD g63.i.toNat 0))] (⟨(zh (by omega)),Own.cell ho72 (ints_at (by omega) (by omega))⟩) ?_;refine zz ?_;refine w_seq ?_;refine w_cut (γ:=Unit) (fun _=>[(1,pz b1),(3,.slice g63.ao g63.l.length g63.cap),(4,.int .i64 g9.i),(5,.int .i64 (P.bd g9.i.toNat)),(6,.slice (some ⟨g78,0,none⟩) ((stepsL P.bd P.ep g9.i).length) cap56),(7,.int .i64 g63.i),(8,.int .i64 ((stepsL P.bd P.ep g9.i).getD g63.i.toNat 0)),(60,.bool (((P.bd (((stepsL P.bd P.ep g9.i).getD g63.i.toNat 0).toNat)) !=0)&&((sideOf (P.bd (((stepsL P.bd P.ep g9.i).getD g63.i.toNat 0).toNat)))==P.turn)))]) (fun _ w_=>Mod [] w64 w_) ?_ ?_
    ·refine w_qt ?_;refine yQo 4 [.prop (0≤((stepsL P.bd P.ep g9.i).getD g63.i.toNat 0)∧((stepsL P.bd P.ep g9.i).getD g63.i.toNat 0)<((64:Nat):Int)),.cell ⟨b1,(0+((stepsL P.bd P.ep g9.i).getD g63.i.toNat 0).toNat*1),none⟩ (.int .i64 (P.bd (((stepsL P.bd P.ep g9.i).getD g63.i.toNat 0).toNat)))] (fun _ hC=>⟨(zh (by omega)),At.cell (At.on ya hC) (spCells_b0 P (by omega))⟩) ?_;refine yQ 2 ?_;refine yEq 51 (.bool ((P.bd (((stepsL P.bd P.ep g9.i).getD g63.i.toNat 0).toNat)) !=(0:Int))) ?_;cases hc88:((P.bd (((stepsL P.bd P.ep g9.i).getD g63.i.toNat 0).toNat)) !=(0:Int))
     ·have dhc88:=hc88;try simp only [zbq] at dhc88
      refine yQ 9 ?_;refine q_ot ?_;intro w89 v90;have hz97:=v90.size;exact zb () yt
     have dhc88:=hc88;try simp only [zbq] at dhc88
     refine yQo 4 [.prop (0≤((stepsL P.bd P.ep g9.i).getD g63.i.toNat 0)∧((stepsL P.bd P.ep g9.i).getD g63.i.toNat 0)<((64:Nat):Int)),.cell ⟨b1,(0+((stepsL P.bd P.ep g9.i).getD g63.i.toNat 0).toNat*1),none⟩ (.int .i64 (P.bd (((stepsL P.bd P.ep g9.i).getD g63.i.toNat 0).toNat)))] (fun _ hC=>⟨(zh (by omega)),At.cell (At.on ya hC) (spCells_b0 P (by omega))⟩) ?_;refine zqk (some 56) (fun w_ hC=>c45 (P.bd (((stepsL P.bd P.ep g9.i).getD g63.i.toNat 0).toNat)) w_) ?_;refine yQo 4 [.cell ⟨b1,64,none⟩ (.int .i64 P.turn)] (fun _ hC=>At.cell (At.on ya hC) (spCells_64 P)) ?_;refine q_ot ?_;intro w98 v99;have hz106:=v99.size;exact zb () yt
    intro _ w85 v86;have ho109:=Own.on ho67 v86;have v110:=zt (yM w w64) v86;have v111:=zt v74 v86;have v112:=Mod.trans v65 (Mod.of_nil v86);have hz113:=v86.size;refine yC (((P.bd (((stepsL P.bd P.ep g9.i).getD g63.i.toNat 0).toNat)) !=0)&&((sideOf (P.bd (((stepsL P.bd P.ep g9.i).getD g63.i.toNat 0).toNat)))==P.turn)) (fun hc114=>?_) fun hc114=>?_
    ·have dhc114:=hc114;try simp only [zbq] at dhc114
     refine w_exit ?_;refine x_then ?_;refine x_hit ?_;refine n_then ?_;refine w_region ?_;refine yS 2 ?_;refine yW 41 (zi (g63.i+(1:Int)) (by omega) (by omega)) ?_;refine yS 1 ?_;refine ze ?_;exact zl (⟨g63.i+1,g63.l,g63.ao,g63.cap⟩:GS) ⟨(by constructor<;>(try dsimp only)<;>omega),v112,hw66,ho109,(FlatI.step hx68 (by omega) (by omega) 0 (by unfold toL;rw [hc114];exact (List.append_nil _).symm))⟩ (hlt:=(by dsimp only;omega))
    have dhc114:=hc114;try simp only [zbq] at dhc114
    refine w_skip ?_;refine n_then ?_;refine w_seq ?_;refine w_cut (γ:=Unit) (fun _=>[(1,pz b1),(3,.slice g63.ao g63.l.length g63.cap),(4,.int .i64 g9.i),(5,.int .i64 (P.bd g9.i.toNat)),(6,.slice (some ⟨g78,0,none⟩) ((stepsL P.bd P.ep g9.i).length) cap56),(7,.int .i64 g63.i),(8,.int .i64 ((stepsL P.bd P.ep g9.i).getD g63.i.toNat 0)),(72,.bool (((kindOf (P.bd g9.i.toNat)) !=6)||((((stepsL P.bd P.ep g9.i).getD g63.i.toNat 0)/8) !=(7-(7*P.turn)))))]) (fun _ w_=>Mod [] w85 w_) ?_ ?_
    ·refine w_qt ?_;refine yQ 1 ?_;refine zqk (some 62) (fun w_ hC=>c38 (P.bd g9.i.toNat) w_ (by first|omega|exact ⟨(hB _ (by omega)).1,(hB _ (by omega)).2⟩)) ?_;refine yQ 2 ?_;refine yEq 64 (.bool ((kindOf (P.bd g9.i.toNat)) !=(6:Int))) ?_;cases hc118:((kindOf (P.bd g9.i.toNat)) !=(6:Int))
     ·have dhc118:=hc118;try simp only [zbq] at dhc118
      refine yQ 1 ?_;refine zqk (some 66) (fun w_ hC=>c40 ((stepsL P.bd P.ep g9.i).getD g63.i.toNat 0) w_ (by omega)) ?_;refine zqo 3 [rz 1 b1,(3,.slice g63.ao g63.l.length g63.cap),iz 4 g9.i,iz 5 (P.bd g9.i.toNat),(6,.slice (some ⟨g78,0,none⟩) ((stepsL P.bd P.ep g9.i).length) cap56),iz 7 g63.i,iz 8 ((stepsL P.bd P.ep g9.i).getD g63.i.toNat 0),(64,.bool false),iz 66 (((stepsL P.bd P.ep g9.i).getD g63.i.toNat 0)/8),iz 69 (IntKind.i64.wrap (7*P.turn))] [.cell ⟨b1,64,none⟩ (.int .i64 P.turn)] (fun _ hC=>At.cell (At.on ya hC) (spCells_64 P)) ?_;rw [zi ((7:Int)*P.turn) (by omega) (by omega)];refine zq 1 [rz 1 b1,(3,.slice g63.ao g63.l.length g63.cap),iz 4 g9.i,iz 5 (P.bd g9.i.toNat),(6,.slice (some ⟨g78,0,none⟩) ((stepsL P.bd P.ep g9.i).length) cap56),iz 7 g63.i,iz 8 ((stepsL P.bd P.ep g9.i).getD g63.i.toNat 0),(64,.bool false),iz 66 (((stepsL P.bd P.ep g9.i).getD g63.i.toNat 0)/8),iz 70 (IntKind.i64.wrap (7-(7*P.turn)))] ?_;rw [zi ((7:Int)-((7:Int)*P.turn)) (by omega) (by omega)];refine yQ 2 ?_;refine q_ot ?_;intro w119 v120;have hz127:=v120.size;exact zb () yt
     have dhc118:=hc118;try simp only [zbq] at dhc118
     refine yQ 8 ?_;refine q_ot ?_;intro w128 v129;have hz136:=v129.size;exact zb () yt
    intro _ w115 v116;have ho139:=Own.on ho109 v116;have v140:=zt v110 v116;have v141:=zt v111 v116;have v142:=Mod.trans v112 (Mod.of_nil v116);have hz143:=v116.size;refine yC (((kindOf (P.bd g9.i.toNat)) !=6)||((((stepsL P.bd P.ep g9.i).getD g63.i.toNat 0)/8) !=(7-(7*P.turn)))) (fun hc144=>?_) fun hc144=>?_
    ·have dhc144:=hc144;try simp only [zbq] at dhc144
     refine zw ?_;refine yS 4 ?_;refine reg_bslice (#[.int .i64 g9.i,.int .i64 ((stepsL P.bd P.ep g9.i).getD g63.i.toNat 0),.int .i64 0]) 30 1 (some 77) (by kernel_rfl) ?_;intro b145 w146 hn147;have hb148:=Nat.le_trans v140.size hn147.base;have hb149:=Nat.le_trans v141.size hn147.base;have hb150:=Nat.le_trans v142.size hn147.base;have v151:=hn147.mod;have v157:=Mod.trans v142 (Mod.of_nil v151);have hz158:=v151.size;refine reg_append2 g63.ao g63.l.length g63.cap ⟨b145,0,none⟩ 1 1 30 (some 78) 3 24 (b0:=w2.heap.size) (xs:=sms g63.l) (news:=sms ([(⟨g9.i,((stepsL P.bd P.ep g9.i).getD g63.i.toNat 0),0⟩:Sm)])) (by kernel_rfl) yo (by decide) (sms_len _) (at_cells (l:=sms ([(⟨g9.i,((stepsL P.bd P.ep g9.i).getD g63.i.toNat 0),0⟩:Sm)])) (by exact ya)) (sms_one _) (by have h1:=hx14.len;have h2:=hx68.len (by omega);have h4:=castS_len P;omega) (by omega) ?_;intro ao160 cap161 w162 ho163 v164 hd165;have v170:=Mod.fresh' v157 v164 hw66;have hz171:=v164.size;rw [show (g63.l.length+1:Nat)=(g63.l++[(⟨g9.i,((stepsL P.bd P.ep g9.i).getD g63.i.toNat 0),(0:Int)⟩:Sm)]).length from (by first|rfl|simp)];have ho172:Own w162 w2.heap.size 30 3 ao160 (g63.l++[(⟨g9.i,((stepsL P.bd P.ep g9.i).getD g63.i.toNat 0),0⟩:Sm)]).length cap161 (sms (g63.l++[(⟨g9.i,((stepsL P.bd P.ep g9.i).getD g63.i.toNat 0),0⟩:Sm)])):=Own.cast ho163 (by first|rfl|simp) (by first|rfl|rw [sms_append]);have hw173:=acc_where hw66 v157 hd165;have hw174:=acc_where hw76 yt hd165;refine yS 1 ?_;refine zz ?_;refine w_exit ?_;refine x_then ?_;refine x_hit ?_;refine n_then ?_;refine w_region ?_;refine yS 2 ?_;refine yW 41 (zi (g63.i+(1:Int)) (by omega) (by omega)) ?_;refine yS 1 ?_;refine ze ?_;exact zl (⟨g63.i+1,(g63.l++[(⟨g9.i,((stepsL P.bd P.ep g9.i).getD g63.i.toNat 0),0⟩:Sm)]),ao160,cap161⟩:GS) ⟨(by constructor<;>(try dsimp only)<;>omega),v170,hw173,ho172,(FlatI.step hx68 (by omega) (by omega) 0 (by unfold toL;rw [hc114,hc144];rfl))⟩ (hlt:=(by dsimp only;omega))
    have dhc144:=hc144;try simp only [zbq] at dhc144
    refine w_skip ?_;refine zn ?_;refine yS 1 ?_;refine zz ?_;refine w_block ?_;refine yP (γ:=GS) (fun g175=>(6-g175.i).toNat) (fun (g175:GS)=>[(1,pz b1),(3,.slice g175.ao g175.l.length g175.cap),(4,.int .i64 g9.i),(5,.int .i64 (P.bd g9.i.toNat)),(6,.slice (some ⟨g78,0,none⟩) ((stepsL P.bd P.ep g9.i).length) cap56),(7,.int .i64 g63.i),(8,.int .i64 ((stepsL P.bd P.ep g9.i).getD g63.i.toNat 0)),(9,.int .i64 g175.i)]) (fun (g175:GS) w_=>(2≤g175.i∧g175.i≤6)∧Mod (blk g63.ao) w115 w_∧(∀x∈blk g175.ao,x∈((blk g63.ao):List Nat)∨w115.heap.size≤x)∧Own w_ w2.heap.size 30 3 g175.ao g175.l.length g175.cap (sms g175.l)∧(PromI g63.l g9.i ((stepsL P.bd P.ep g9.i).getD g63.i.toNat 0) g175)) ⟨2,g63.l,g63.ao,g63.cap⟩ ⟨(by constructor<;>(try dsimp only)<;>omega),Mod.refl _ _,(fun x hx=>Or.inl hx),ho139,(List.append_nil _).symm⟩ ?_;rintro g175 w176 ⟨⟨h181,h182⟩,v177,hw178,ho179,hx180⟩;have v185:=Mod.fresh' v140 v177 (fun x hx=>Or.inr (by have:=Own.lt ho139 x hx;omega));have v186:=Mod.fresh' v141 v177 hw76;have v187:=Mod.fresh' v142 v177 hw66;have hz188:=v177.size;have hw189:∀x∈blk g175.ao,x∈([]:List Nat)∨w2.heap.size≤x:=fun x hx=>(hw178 x hx).elim (hw76 x) (fun h=>Or.inr (Nat.le_trans (v141.size) h));have hw190:∀x∈blk g175.ao,x∈((blk g9.ao):List Nat)∨w53.heap.size≤x:=fun x hx=>(hw178 x hx).elim (hw66 x) (fun h=>Or.inr (Nat.le_trans (v142.size) h));refine w_seq ?_;refine zw ?_;refine yS 2 ?_;refine zz ?_;refine yC (decide (g175.i≤5)) (fun hc191=>?_) fun hc191=>?_
    ·have dhc191:=of_decide_eq_true hc191;refine w_skip ?_;refine n_then ?_;refine w_seq ?_;refine w_block ?_;refine w_region ?_;refine yS 5 ?_;refine reg_bslice (#[.int .i64 g9.i,.int .i64 ((stepsL P.bd P.ep g9.i).getD g63.i.toNat 0),.int .i64 g175.i]) 30 1 (some 88) (by kernel_rfl) ?_;intro b192 w193 hn194;have hb195:=Nat.le_trans v185.size hn194.base;have hb196:=Nat.le_trans v186.size hn194.base;have hb197:=Nat.le_trans v187.size hn194.base;have hb198:=Nat.le_trans v177.size hn194.base;have v199:=hn194.mod;have v205:=Mod.trans v187 (Mod.of_nil v199);have v206:=Mod.trans v177 (Mod.of_nil v199);have hz207:=v199.size;refine reg_append2 g175.ao g175.l.length g175.cap ⟨b192,0,none⟩ 1 1 30 (some 89) 3 24 (b0:=w2.heap.size) (xs:=sms g175.l) (news:=sms ([(⟨g9.i,((stepsL P.bd P.ep g9.i).getD g63.i.toNat 0),g175.i⟩:Sm)])) (by kernel_rfl) yo (by decide) (sms_len _) (at_cells (l:=sms ([(⟨g9.i,((stepsL P.bd P.ep g9.i).getD g63.i.toNat 0),g175.i⟩:Sm)])) (by exact ya)) (sms_one _) (by have h1:=hx14.len;have h2:=hx68.len (by omega);have h3:=hx180.len;have h4:=castS_len P;omega) (by omega) ?_;intro ao209 cap210 w211 ho212 v213 hd214;have v220:=Mod.fresh' v206 v213 hw178;have hz221:=v213.size;rw [show (g175.l.length+1:Nat)=(g175.l++[(⟨g9.i,((stepsL P.bd P.ep g9.i).getD g63.i.toNat 0),g175.i⟩:Sm)]).length from (by first|rfl|simp)];have ho222:Own w211 w2.heap.size 30 3 ao209 (g175.l++[(⟨g9.i,((stepsL P.bd P.ep g9.i).getD g63.i.toNat 0),g175.i⟩:Sm)]).length cap210 (sms (g175.l++[(⟨g9.i,((stepsL P.bd P.ep g9.i).getD g63.i.toNat 0),g175.i⟩:Sm)])):=Own.cast ho212 (by first|rfl|simp) (by first|rfl|rw [sms_append]);have hw223:=acc_where hw178 v206 hd214;have hw224:=acc_where hw189 yt hd214;have hw225:=acc_where hw190 v205 hd214;refine yS 1 ?_;refine ze ?_;refine n_block ?_;refine n_then ?_;refine w_region ?_;refine yS 2 ?_;refine yW 82 (zi (g175.i+(1:Int)) (by omega) (by omega)) ?_;refine yS 1 ?_;refine ze ?_;exact zl (⟨g175.i+1,(g175.l++[(⟨g9.i,((stepsL P.bd P.ep g9.i).getD g63.i.toNat 0),g175.i⟩:Sm)]),ao209,cap210⟩:GS) ⟨(by constructor<;>(try dsimp only)<;>omega),v220,hw223,ho222,(hx180.step (by omega))⟩ (hlt:=(by dsimp only;omega))
    have dhc191:=of_decide_eq_false hc191;refine w_exit ?_;refine x_then ?_;refine x_then ?_;refine x_hit ?_;refine n_block ?_;refine n_then ?_;refine w_region ?_;refine yS 2 ?_;refine yW 41 (zi (g63.i+(1:Int)) (by omega) (by omega)) ?_;refine yS 1 ?_;refine ze ?_;exact zl (⟨g63.i+1,g175.l,g175.ao,g175.cap⟩:GS) ⟨(by constructor<;>(try dsimp only)<;>omega),v187,hw190,ho179,(FlatI.step hx68 (by omega) (by omega) 0 (by unfold toL;rw [hc114,hc144];exact hx180.fin (by omega)))⟩ (hlt:=(by dsimp only;omega))
   have dhc77:=of_decide_eq_false hc77;refine w_exit ?_;refine x_then ?_;refine x_then ?_;refine x_hit ?_;refine n_block ?_;refine n_then ?_;refine w_region ?_;refine yS 2 ?_;refine yW 13 (zi (g9.i+(1:Int)) (by omega) (by omega)) ?_;refine yS 1 ?_;refine ze ?_;exact zl (⟨g9.i+1,g63.l,g63.ao,g63.cap⟩:GS) ⟨(by constructor<;>(try dsimp only)<;>omega),v74,hw76,ho67,(FlatI.step hx14 (by omega) (by rw [List.length_range];omega) 0 (by rw [range_at (by omega) (by omega)];unfold fromL dstL;rw [hc44,hc52];exact FlatI.fin (M:=(stepsL P.bd P.ep g9.i)) (f:=toL P g9.i) hx68 (by omega) (by omega)))⟩ (hlt:=(by dsimp only;omega))
  have dhc52:=ne_of_beq_false hc52;refine w_region ?_;refine yV 2 [.row ⟨b1,0,none⟩ 69 (spCells P)] [.agg (spCells P)] (At.row ya (spCells_size P)) ?_;refine zC (some 35) (c47 P hB g9.i (by omega)) ?_;rintro _ w226 ⟨ao228,cap229,rfl,v227,ho230⟩;refine ⟨_,rfl,?_⟩;have u231:=At.on (yA w45 b1) v227;have ho232:=Own.on ho48 v227;have v233:=zt (yM w w45) v227;have v234:=zt v50 v227;have hz235:=v227.size;refine yS 1 ?_;refine zx ?_;refine yS 1 ?_;refine zz ?_;refine w_block ?_;refine yP (γ:=GS) (fun g236=>(((reachL P.bd g9.i).length:Int)-g236.i).toNat) (fun (g236:GS)=>[(1,pz b1),(3,.slice g236.ao g236.l.length g236.cap),(4,.int .i64 g9.i),(5,.int .i64 (P.bd g9.i.toNat)),(6,.slice ao228 ((reachL P.bd g9.i).length) cap229),(7,.int .i64 g236.i)]) (fun (g236:GS) w_=>(0≤g236.i∧g236.i≤((reachL P.bd g9.i).length:Int))∧Mod (blk g9.ao) w226 w_∧(∀x∈blk g236.ao,x∈((blk g9.ao):List Nat)∨w226.heap.size≤x)∧Own w_ w2.heap.size 30 3 g236.ao g236.l.length g236.cap (sms g236.l)∧(MidI g9.l P g9.i (reachL P.bd g9.i) g236)) ⟨0,g9.l,g9.ao,g9.cap⟩ ⟨(by constructor<;>(try dsimp only)<;>omega),Mod.refl _ _,(fun x hx=>Or.inl hx),ho232,FlatI.zero⟩ ?_;rintro g236 w237 ⟨⟨h242,h243⟩,v238,hw239,ho240,hx241⟩;have u244:=At.keep u231 v238 (own_off ho232 u231 rfl);have ho245:=Own.keep ho230 v238 (own_type ho230 ho232 rfl);have v246:=Mod.fresh' v233 v238 (fun x hx=>Or.inr (by have:=Own.lt ho232 x hx;omega));have v247:=Mod.fresh' v234 v238 hw12;have hz248:=v238.size;have hw249:∀x∈blk g236.ao,x∈([]:List Nat)∨w2.heap.size≤x:=fun x hx=>(hw239 x hx).elim (hw12 x) (fun h=>Or.inr (Nat.le_trans (v234.size) h));have hml:(reachL P.bd g9.i).length≤56:=reachL_len _ _;refine w_seq ?_;refine zw ?_;refine yS 4 ?_;refine zz ?_;refine yC (decide (g236.i<(((reachL P.bd g9.i).length:Nat):Int))) (fun hc250=>?_) fun hc250=>?_
  ·have dhc250:=of_decide_eq_true hc250;obtain ⟨g251,cur252,rfl,hb253,u254,ht255,hn256,hs257⟩:=Own.some ho245 (by omega);have hto:=dst_at (M:=(reachL P.bd g9.i)) (fun x hx=>reachL_rng hx) (i:=g236.i) (by omega) (by omega);refine w_skip ?_;refine n_then ?_;refine w_seq ?_;refine w_block ?_;refine zw ?_;refine yO 5 [.prop (0≤g236.i∧g236.i<(((reachL P.bd g9.i).length:Nat):Int)),.cell ⟨g251,(0+g236.i.toNat*1),none⟩ (.int .i64 ((reachL P.bd g9.i).getD g236.i.toNat 0))] (⟨(zh (by omega)),Own.cell ho245 (ints_at (by omega) (by omega))⟩) ?_;refine zz ?_;refine w_seq ?_;refine w_cut (γ:=Unit) (fun _=>[(1,pz b1),(3,.slice g236.ao g236.l.length g236.cap),(4,.int .i64 g9.i),(5,.int .i64 (P.bd g9.i.toNat)),(6,.slice (some ⟨g251,0,none⟩) ((reachL P.bd g9.i).length) cap229),(7,.int .i64 g236.i),(8,.int .i64 ((reachL P.bd g9.i).getD g236.i.toNat 0)),(60,.bool (((P.bd (((reachL P.bd g9.i).getD g236.i.toNat 0).toNat)) !=0)&&((sideOf (P.bd (((reachL P.bd g9.i).getD g236.i.toNat 0).toNat)))==P.turn)))]) (fun _ w_=>Mod [] w237 w_) ?_ ?_
   ·have v260:Mod [] w237 w237:=Mod.refl _ _;refine w_qt ?_;refine yQo 4 [.prop (0≤((reachL P.bd g9.i).getD g236.i.toNat 0)∧((reachL P.bd g9.i).getD g236.i.toNat 0)<((64:Nat):Int)),.cell ⟨b1,(0+((reachL P.bd g9.i).getD g236.i.toNat 0).toNat*1),none⟩ (.int .i64 (P.bd (((reachL P.bd g9.i).getD g236.i.toNat 0).toNat)))] (fun _ hC=>⟨(zh (by omega)),At.cell (At.on u244 hC) (spCells_b0 P (by omega))⟩) ?_;refine yQ 2 ?_;refine yEq 51 (.bool ((P.bd (((reachL P.bd g9.i).getD g236.i.toNat 0).toNat)) !=(0:Int))) ?_;cases hc261:((P.bd (((reachL P.bd g9.i).getD g236.i.toNat 0).toNat)) !=(0:Int))
    ·have dhc261:=hc261;try simp only [zbq] at dhc261
     refine yQ 9 ?_;refine q_ot ?_;intro w262 v263;have v267:=zt v260 v263;have hz270:=v263.size;exact zb () v267
    have dhc261:=hc261;try simp only [zbq] at dhc261
    refine yQo 4 [.prop (0≤((reachL P.bd g9.i).getD g236.i.toNat 0)∧((reachL P.bd g9.i).getD g236.i.toNat 0)<((64:Nat):Int)),.cell ⟨b1,(0+((reachL P.bd g9.i).getD g236.i.toNat 0).toNat*1),none⟩ (.int .i64 (P.bd (((reachL P.bd g9.i).getD g236.i.toNat 0).toNat)))] (fun _ hC=>⟨(zh (by omega)),At.cell (At.on u244 hC) (spCells_b0 P (by omega))⟩) ?_;refine zqk (some 56) (fun w_ hC=>c45 (P.bd (((reachL P.bd g9.i).getD g236.i.toNat 0).toNat)) w_) ?_;refine yQo 4 [.cell ⟨b1,64,none⟩ (.int .i64 P.turn)] (fun _ hC=>At.cell (At.on u244 hC) (spCells_64 P)) ?_;refine q_ot ?_;intro w271 v272;have v276:=zt v260 v272;have hz279:=v272.size;exact zb () v276
   intro _ w258 v259;have u280:=At.on u244 v259;have ho282:=Own.on ho240 v259;have v283:=zt v246 v259;have v284:=zt v247 v259;have v285:=Mod.trans v238 (Mod.of_nil v259);have hz286:=v259.size;refine yC (((P.bd (((reachL P.bd g9.i).getD g236.i.toNat 0).toNat)) !=0)&&((sideOf (P.bd (((reachL P.bd g9.i).getD g236.i.toNat 0).toNat)))==P.turn)) (fun hc287=>?_) fun hc287=>?_
   ·have dhc287:=hc287;try simp only [zbq] at dhc287
    refine w_exit ?_;refine x_then ?_;refine x_hit ?_;refine n_then ?_;refine w_region ?_;refine yS 2 ?_;refine yW 41 (zi (g236.i+(1:Int)) (by omega) (by omega)) ?_;refine yS 1 ?_;refine ze ?_;exact zl (⟨g236.i+1,g236.l,g236.ao,g236.cap⟩:GS) ⟨(by constructor<;>(try dsimp only)<;>omega),v285,hw239,ho282,(FlatI.step hx241 (by omega) (by omega) 0 (by unfold toL;rw [hc287];exact (List.append_nil _).symm))⟩ (hlt:=(by dsimp only;omega))
   have dhc287:=hc287;try simp only [zbq] at dhc287
   refine w_skip ?_;refine n_then ?_;refine w_seq ?_;refine w_cut (γ:=Unit) (fun _=>[(1,pz b1),(3,.slice g236.ao g236.l.length g236.cap),(4,.int .i64 g9.i),(5,.int .i64 (P.bd g9.i.toNat)),(6,.slice (some ⟨g251,0,none⟩) ((reachL P.bd g9.i).length) cap229),(7,.int .i64 g236.i),(8,.int .i64 ((reachL P.bd g9.i).getD g236.i.toNat 0)),(72,.bool (((kindOf (P.bd g9.i.toNat)) !=6)||((((reachL P.bd g9.i).getD g236.i.toNat 0)/8) !=(7-(7*P.turn)))))]) (fun _ w_=>Mod [] w258 w_) ?_ ?_
   ·have v290:Mod [] w258 w258:=Mod.refl _ _;refine w_qt ?_;refine yQ 1 ?_;refine zqk (some 62) (fun w_ hC=>c38 (P.bd g9.i.toNat) w_ (by first|omega|exact ⟨(hB _ (by omega)).1,(hB _ (by omega)).2⟩)) ?_;refine yQ 2 ?_;refine yEq 64 (.bool ((kindOf (P.bd g9.i.toNat)) !=(6:Int))) ?_;cases hc291:((kindOf (P.bd g9.i.toNat)) !=(6:Int))
    ·have dhc291:=hc291;try simp only [zbq] at dhc291
     refine yQ 1 ?_;refine zqk (some 66) (fun w_ hC=>c40 ((reachL P.bd g9.i).getD g236.i.toNat 0) w_ (by omega)) ?_;refine zqo 3 [rz 1 b1,(3,.slice g236.ao g236.l.length g236.cap),iz 4 g9.i,iz 5 (P.bd g9.i.toNat),(6,.slice (some ⟨g251,0,none⟩) ((reachL P.bd g9.i).length) cap229),iz 7 g236.i,iz 8 ((reachL P.bd g9.i).getD g236.i.toNat 0),(64,.bool false),iz 66 (((reachL P.bd g9.i).getD g236.i.toNat 0)/8),iz 69 (IntKind.i64.wrap (7*P.turn))] [.cell ⟨b1,64,none⟩ (.int .i64 P.turn)] (fun _ hC=>At.cell (At.on u280 hC) (spCells_64 P)) ?_;rw [zi ((7:Int)*P.turn) (by omega) (by omega)];refine zq 1 [rz 1 b1,(3,.slice g236.ao g236.l.length g236.cap),iz 4 g9.i,iz 5 (P.bd g9.i.toNat),(6,.slice (some ⟨g251,0,none⟩) ((reachL P.bd g9.i).length) cap229),iz 7 g236.i,iz 8 ((reachL P.bd g9.i).getD g236.i.toNat 0),(64,.bool false),iz 66 (((reachL P.bd g9.i).getD g236.i.toNat 0)/8),iz 70 (IntKind.i64.wrap (7-(7*P.turn)))] ?_;rw [zi ((7:Int)-((7:Int)*P.turn)) (by omega) (by omega)];refine yQ 2 ?_;refine q_ot ?_;intro w292 v293;have v297:=zt v290 v293;have hz300:=v293.size;exact zb () v297
    have dhc291:=hc291;try simp only [zbq] at dhc291
    refine yQ 8 ?_;refine q_ot ?_;intro w301 v302;have v306:=zt v290 v302;have hz309:=v302.size;exact zb () v306
   intro _ w288 v289;have ho312:=Own.on ho282 v289;have v313:=zt v283 v289;have v314:=zt v284 v289;have v315:=Mod.trans v285 (Mod.of_nil v289);have hz316:=v289.size;refine yC (((kindOf (P.bd g9.i.toNat)) !=6)||((((reachL P.bd g9.i).getD g236.i.toNat 0)/8) !=(7-(7*P.turn)))) (fun hc317=>?_) fun hc317=>?_
   ·have dhc317:=hc317;try simp only [zbq] at dhc317
    refine zw ?_;refine yS 4 ?_;refine reg_bslice (#[.int .i64 g9.i,.int .i64 ((reachL P.bd g9.i).getD g236.i.toNat 0),.int .i64 0]) 30 1 (some 77) (by kernel_rfl) ?_;intro b318 w319 hn320;have hb321:=Nat.le_trans v313.size hn320.base;have hb322:=Nat.le_trans v314.size hn320.base;have hb323:=Nat.le_trans v315.size hn320.base;have v324:=hn320.mod;have ho327:=Own.on ho312 v324;have v329:=zt v314 v324;have v330:=Mod.trans v315 (Mod.of_nil v324);have hz331:=v324.size;have u332:=hn320.at_;refine reg_append2 g236.ao g236.l.length g236.cap ⟨b318,0,none⟩ 1 1 30 (some 78) 3 24 (b0:=w2.heap.size) (xs:=sms g236.l) (news:=sms ([(⟨g9.i,((reachL P.bd g9.i).getD g236.i.toNat 0),0⟩:Sm)])) (by kernel_rfl) ho327 (by decide) (sms_len _) (at_cells (l:=sms ([(⟨g9.i,((reachL P.bd g9.i).getD g236.i.toNat 0),0⟩:Sm)])) (by exact u332)) (sms_one _) (by have h1:=hx14.len;have h2:=hx241.len (by omega);have h4:=castS_len P;omega) (by omega) ?_;intro ao333 cap334 w335 ho336 v337 hd338;have v343:=Mod.fresh' v330 v337 hw239;have hz344:=v337.size;rw [show (g236.l.length+1:Nat)=(g236.l++[(⟨g9.i,((reachL P.bd g9.i).getD g236.i.toNat 0),(0:Int)⟩:Sm)]).length from (by first|rfl|simp)];have ho345:Own w335 w2.heap.size 30 3 ao333 (g236.l++[(⟨g9.i,((reachL P.bd g9.i).getD g236.i.toNat 0),0⟩:Sm)]).length cap334 (sms (g236.l++[(⟨g9.i,((reachL P.bd g9.i).getD g236.i.toNat 0),0⟩:Sm)])):=Own.cast ho336 (by first|rfl|simp) (by first|rfl|rw [sms_append]);have hw346:=acc_where hw239 v330 hd338;have hw347:=acc_where hw249 v329 hd338;refine yS 1 ?_;refine zz ?_;refine w_exit ?_;refine x_then ?_;refine x_hit ?_;refine n_then ?_;refine w_region ?_;refine yS 2 ?_;refine yW 41 (zi (g236.i+(1:Int)) (by omega) (by omega)) ?_;refine yS 1 ?_;refine ze ?_;exact zl (⟨g236.i+1,(g236.l++[(⟨g9.i,((reachL P.bd g9.i).getD g236.i.toNat 0),0⟩:Sm)]),ao333,cap334⟩:GS) ⟨(by constructor<;>(try dsimp only)<;>omega),v343,hw346,ho345,(FlatI.step hx241 (by omega) (by omega) 0 (by unfold toL;rw [hc287,hc317];rfl))⟩ (hlt:=(by dsimp only;omega))
   have dhc317:=hc317;try simp only [zbq] at dhc317
   refine w_skip ?_;refine zn ?_;refine yS 1 ?_;refine zz ?_;refine w_block ?_;refine yP (γ:=GS) (fun g348=>(6-g348.i).toNat) (fun (g348:GS)=>[(1,pz b1),(3,.slice g348.ao g348.l.length g348.cap),(4,.int .i64 g9.i),(5,.int .i64 (P.bd g9.i.toNat)),(6,.slice (some ⟨g251,0,none⟩) ((reachL P.bd g9.i).length) cap229),(7,.int .i64 g236.i),(8,.int .i64 ((reachL P.bd g9.i).getD g236.i.toNat 0)),(9,.int .i64 g348.i)]) (fun (g348:GS) w_=>(2≤g348.i∧g348.i≤6)∧Mod (blk g236.ao) w288 w_∧(∀x∈blk g348.ao,x∈((blk g236.ao):List Nat)∨w288.heap.size≤x)∧Own w_ w2.heap.size 30 3 g348.ao g348.l.length g348.cap (sms g348.l)∧(PromI g236.l g9.i ((reachL P.bd g9.i).getD g236.i.toNat 0) g348)) ⟨2,g236.l,g236.ao,g236.cap⟩ ⟨(by constructor<;>(try dsimp only)<;>omega),Mod.refl _ _,(fun x hx=>Or.inl hx),ho312,(List.append_nil _).symm⟩ ?_;rintro g348 w349 ⟨⟨h354,h355⟩,v350,hw351,ho352,hx353⟩;have v358:=Mod.fresh' v313 v350 (fun x hx=>Or.inr (by have:=Own.lt ho312 x hx;omega));have v359:=Mod.fresh' v314 v350 hw249;have v360:=Mod.fresh' v315 v350 hw239;have hz361:=v350.size;have hw362:∀x∈blk g348.ao,x∈([]:List Nat)∨w2.heap.size≤x:=fun x hx=>(hw351 x hx).elim (hw249 x) (fun h=>Or.inr (Nat.le_trans (v314.size) h));have hw363:∀x∈blk g348.ao,x∈((blk g9.ao):List Nat)∨w226.heap.size≤x:=fun x hx=>(hw351 x hx).elim (hw239 x) (fun h=>Or.inr (Nat.le_trans (v315.size) h));refine w_seq ?_;refine zw ?_;refine yS 2 ?_;refine zz ?_;refine yC (decide (g348.i≤5)) (fun hc364=>?_) fun hc364=>?_
   ·have dhc364:=of_decide_eq_true hc364;refine w_skip ?_;refine n_then ?_;refine w_seq ?_;refine w_block ?_;refine w_region ?_;refine yS 5 ?_;refine reg_bslice (#[.int .i64 g9.i,.int .i64 ((reachL P.bd g9.i).getD g236.i.toNat 0),.int .i64 g348.i]) 30 1 (some 88) (by kernel_rfl) ?_;intro b365 w366 hn367;have hb368:=Nat.le_trans v358.size hn367.base;have hb369:=Nat.le_trans v359.size hn367.base;have hb370:=Nat.le_trans v360.size hn367.base;have hb371:=Nat.le_trans v350.size hn367.base;have v372:=hn367.mod;have ho375:=Own.on ho352 v372;have v377:=zt v359 v372;have v378:=Mod.trans v360 (Mod.of_nil v372);have v379:=Mod.trans v350 (Mod.of_nil v372);have hz380:=v372.size;have u381:=hn367.at_;refine reg_append2 g348.ao g348.l.length g348.cap ⟨b365,0,none⟩ 1 1 30 (some 89) 3 24 (b0:=w2.heap.size) (xs:=sms g348.l) (news:=sms ([(⟨g9.i,((reachL P.bd g9.i).getD g236.i.toNat 0),g348.i⟩:Sm)])) (by kernel_rfl) ho375 (by decide) (sms_len _) (at_cells (l:=sms ([(⟨g9.i,((reachL P.bd g9.i).getD g236.i.toNat 0),g348.i⟩:Sm)])) (by exact u381)) (sms_one _) (by have h1:=hx14.len;have h2:=hx241.len (by omega);have h3:=hx353.len;have h4:=castS_len P;omega) (by omega) ?_;intro ao382 cap383 w384 ho385 v386 hd387;have v393:=Mod.fresh' v379 v386 hw351;have hz394:=v386.size;rw [show (g348.l.length+1:Nat)=(g348.l++[(⟨g9.i,((reachL P.bd g9.i).getD g236.i.toNat 0),g348.i⟩:Sm)]).length from (by first|rfl|simp)];have ho395:Own w384 w2.heap.size 30 3 ao382 (g348.l++[(⟨g9.i,((reachL P.bd g9.i).getD g236.i.toNat 0),g348.i⟩:Sm)]).length cap383 (sms (g348.l++[(⟨g9.i,((reachL P.bd g9.i).getD g236.i.toNat 0),g348.i⟩:Sm)])):=Own.cast ho385 (by first|rfl|simp) (by first|rfl|rw [sms_append]);have hw396:=acc_where hw351 v379 hd387;have hw397:=acc_where hw362 v377 hd387;have hw398:=acc_where hw363 v378 hd387;refine yS 1 ?_;refine ze ?_;refine n_block ?_;refine n_then ?_;refine w_region ?_;refine yS 2 ?_;refine yW 82 (zi (g348.i+(1:Int)) (by omega) (by omega)) ?_;refine yS 1 ?_;refine ze ?_;exact zl (⟨g348.i+1,(g348.l++[(⟨g9.i,((reachL P.bd g9.i).getD g236.i.toNat 0),g348.i⟩:Sm)]),ao382,cap383⟩:GS) ⟨(by constructor<;>(try dsimp only)<;>omega),v393,hw396,ho395,(hx353.step (by omega))⟩ (hlt:=(by dsimp only;omega))
   have dhc364:=of_decide_eq_false hc364;refine w_exit ?_;refine x_then ?_;refine x_then ?_;refine x_hit ?_;refine n_block ?_;refine n_then ?_;refine w_region ?_;refine yS 2 ?_;refine yW 41 (zi (g236.i+(1:Int)) (by omega) (by omega)) ?_;refine yS 1 ?_;refine ze ?_;exact zl (⟨g236.i+1,g348.l,g348.ao,g348.cap⟩:GS) ⟨(by constructor<;>(try dsimp only)<;>omega),v360,hw363,ho352,(FlatI.step hx241 (by omega) (by omega) 0 (by unfold toL;rw [hc287,hc317];exact hx353.fin (by omega)))⟩ (hlt:=(by dsimp only;omega))
  have dhc250:=of_decide_eq_false hc250;refine w_exit ?_;refine x_then ?_;refine x_then ?_;refine x_hit ?_;refine n_block ?_;refine n_then ?_;refine w_region ?_;refine yS 2 ?_;refine yW 13 (zi (g9.i+(1:Int)) (by omega) (by omega)) ?_;refine yS 1 ?_;refine ze ?_;exact zl (⟨g9.i+1,g236.l,g236.ao,g236.cap⟩:GS) ⟨(by constructor<;>(try dsimp only)<;>omega),v247,hw249,ho240,(FlatI.step hx14 (by omega) (by rw [List.length_range];omega) 0 (by rw [range_at (by omega) (by omega)];unfold fromL dstL;rw [hc44,hc52];exact FlatI.fin (M:=(reachL P.bd g9.i)) (f:=toL P g9.i) hx241 (by omega) (by omega)))⟩ (hlt:=(by dsimp only;omega))
 have dhc20:=of_decide_eq_false hc20;refine w_exit ?_;refine x_then ?_;refine x_then ?_;refine x_hit ?_;refine zn ?_;refine yV 2 [.row ⟨b1,0,none⟩ 69 (spCells P)] [.agg (spCells P)] (At.row ya (spCells_size P)) ?_;refine zC (some 92) (c49 P hB hT) ?_;rintro _ w399 ⟨ao401,cap402,rfl,v400,ho403⟩;refine ⟨_,rfl,?_⟩;have ho405:=Own.on ho13 v400;have v406:=zt (yM w w10) v400;have hz407:=v400.size;refine reg_append_own g9.ao g9.l.length g9.cap ao401 ((castS P).length) cap402 30 (some 93) 3 24 (b0:=w2.heap.size) (xs:=sms g9.l) (news:=sms (castS P)) (by kernel_rfl) ho405 ho403 (by decide) (sms_one _) (by have h1:=hx14.len;have h4:=castS_len P;omega) (by omega) ?_;intro ao408 cap409 w410 ho411 v412 hd413;have v416:=Mod.fresh' v406 v412 (fun x hx=>Or.inr (by have:=Own.lt ho405 x hx;omega));have hz417:=v412.size;rw [show (g9.l.length+(castS P).length:Nat)=(g9.l++(castS P)).length from (by first|rfl|simp)];have ho418:Own w410 w2.heap.size 30 3 ao408 (g9.l++(castS P)).length cap409 (sms (g9.l++(castS P))):=Own.cast ho411 (by first|rfl|simp) (by first|rfl|rw [sms_append]);refine zC (some 94) (c48 (g9.l++(castS P)) ho418 (by have h1:=hx14.len;have h4:=castS_len P;simp only [List.length_append];omega)) ?_;rintro _ w419 ⟨l421,ao422,cap423,rfl,v420,hs424,ho425⟩;refine ⟨_,rfl,?_⟩;have v429:=zt v416 v420;have hz430:=v420.size;refine yS 1 ?_;refine zz ?_;refine w_ret ?_;exact y1 (by have hl:g9.l=(List.range 64).flatMap fun (k:Nat)=>fromL P (k:Int):=(FlatI.fin hx14 (by omega) (by rw [List.length_range];omega)).trans (List.nil_append _);exact ⟨l421,ao422,cap423,rfl,v429,(by have h:=hs424;rw [hl] at h;exact h),Own.base ho425 (by omega)⟩)
theorem toL_rng{P:SP}{s t:Int}(hs:0≤s∧s≤63)(ht:0≤t∧t≤63){m:Sm}(h:m∈toL P s t):m.f=s∧m.t=t∧(m.p=0∨(2≤m.p∧m.p≤5)):=by
 unfold toL at h;cases h1:((P.bd t.toNat !=(0:Int))&&(sideOf (P.bd t.toNat)==P.turn))<;>rw [h1] at h
 ·cases h2:((kindOf (P.bd s.toNat) !=(6:Int))||((t/8) !=((7:Int)-((7:Int)*P.turn))))<;>rw [h2] at h
  ·simp only [cond_false,promL,List.mem_map,List.mem_range] at h;obtain ⟨k,hk,rfl⟩:=h;exact ⟨rfl,rfl,Or.inr ⟨by dsimp only;omega,by dsimp only;omega⟩⟩
  simp only [cond_false,cond_true,List.mem_singleton] at h;subst h;exact ⟨rfl,rfl,Or.inl rfl⟩
 cases h
theorem dstL_rng{P:SP}{s x:Int}(h:x∈dstL P s):0≤x∧x≤63:=by
 unfold dstL at h;cases h1:(kindOf (P.bd s.toNat)==(6:Int))<;>rw [h1] at h
 ·exact reachL_rng h
 exact stepsL_rng h
structure SmOk(m:Sm):Prop where
 f:0≤m.f∧m.f≤63
 t:0≤m.t∧m.t≤63
 p:m.p=0∨(2≤m.p∧m.p≤5)
theorem castS_ok{P:SP}(hT:0≤P.turn∧P.turn≤1){m:Sm}(h:m∈castS P):SmOk m:=by
 have hr:∀r,0≤r∧r≤3→m∈castR P r→SmOk m:=by
  intro r hr h;have ha:=home_all hr;unfold castR at h;cases h1:(castOff (rightsS P) r.toNat||attS P.bd (homeK r).toNat (1-P.turn))<;>rw [h1] at h
  ·cases h2:freeTo P r (cnS r).toNat<;>rw [h2] at h
   ·cases h
   simp only [cond_false,cond_true,List.mem_singleton] at h;subst h;exact ⟨by dsimp only;omega,by dsimp only;omega,Or.inl rfl⟩
  cases h
 unfold castS at h;rw [List.mem_append] at h;rcases h with h|h
 ·exact hr _ (by omega) h
 exact hr _ (by omega) h
theorem pseudoL_ok{P:SP}(hT:0≤P.turn∧P.turn≤1){m:Sm}(h:m∈pseudoL P):SmOk m:=by
 unfold pseudoL at h;rw [List.mem_append] at h;rcases h with h|h
 ·obtain ⟨k,hk,h⟩:=List.mem_flatMap.1 h;have hk:=List.mem_range.1 hk;unfold fromL at h;cases h1:((P.bd ((k:Int)).toNat==(0:Int))||(sideOf (P.bd ((k:Int)).toNat) !=P.turn))<;>rw [h1] at h
  ·simp only [cond_false] at h;obtain ⟨t,ht,h⟩:=List.mem_flatMap.1 h;have hr:=dstL_rng ht;have:=toL_rng (by omega) hr h;exact ⟨by omega,by omega,this.2.2⟩
  cases h
 exact castS_ok hT h
theorem upd_rng{f:Nat→Int}(h:∀i,i<64→0≤f i∧f i≤12)(k:Nat){v:Int}(hv:0≤v∧v≤12):∀i,i<64→0≤upd f k v i∧upd f k v i≤12:=by
 intro i hi;unfold upd;split
 ·exact hv
 exact h i hi
theorem mk4_rng{P:SP}(hB:SPb P)(hT:0≤P.turn∧P.turn≤1){f t p:Int}(hf:0≤f∧f≤63)(hp:0≤p∧p≤6):∀i,i<64→0≤mk4 P.bd P.turn f t p i∧mk4 P.bd P.turn f t p i≤12:=by
 have h1:∀i,i<64→0≤mk1 P.bd f t i∧mk1 P.bd f t i≤12:=by
  unfold mk1;cases takesI P.bd f t
  ·exact hB
  exact upd_rng hB _ (by omega)
 have h2:∀i,i<64→0≤mk2 P.bd f t i∧mk2 P.bd f t i≤12:=upd_rng (upd_rng h1 _ (by omega)) _ (hB _ (by omega));have h3:∀i,i<64→0≤mk3 P.bd P.turn f t p i∧mk3 P.bd P.turn f t p i≤12:=by
  unfold mk3;cases (p !=(0:Int))
  ·exact h2
  exact upd_rng h2 _ (by omega)
 unfold mk4;cases castlesB P.bd f t
 ·exact h3
 exact upd_rng (upd_rng h3 _ (by omega)) _ (by omega)
theorem made_b{P:SP}(hB:SPb P)(hT:0≤P.turn∧P.turn≤1){f t p:Int}(hf:0≤f∧f≤63)(hp:0≤p∧p≤6):SPb (madeS P f t p):=mk4_rng hB hT hf hp
def atK(P:SP)(m:Sm):Int:=bif m.f==kingAtS P.bd P.turn then m.t else kingAtS P.bd P.turn
def okS(P:SP)(m:Sm):Bool:=(decide (atK P m<(0:Int)))||(!(attS (madeS P m.f m.t m.p).bd (atK P m).toNat (1-P.turn)))
def keepS(P:SP)(m:Sm):List Sm:=bif okS P m then [m] else []
theorem keepS_len(P:SP)(m:Sm):(keepS P m).length≤1:=by unfold keepS;cases okS P m<;>simp
structure LegalOf(P:SP)(l:List Sm):Prop where
 mem:∀m,m∈l↔m∈pseudoL P∧okS P m=true
 len:l.length≤20000
def LegI(P:SP)(M:List Sm)(q:GS):Prop:=FlatI [] M (keepS P) q.i q.l
theorem LegI.len{P:SP}{M:List Sm}{q:GS}(h:LegI P M q):q.l.length≤M.length:=by
 have:=FlatI.len h (c:=1) (keepS_len P);simp only [List.length_nil] at this;omega
theorem LegI.fin{P:SP}{M:List Sm}{q:GS}(h:LegI P M q)(h0:0≤q.i)(h1:¬q.i<(M.length:Int))(hs:Same (pseudoL P) M):LegalOf P q.l:=by
 have e:q.l=M.flatMap (keepS P):=(FlatI.fin h h0 h1).trans (List.nil_append _);refine ⟨fun m=>?_,?_⟩
 ·rw [e,List.mem_flatMap];constructor
  ·rintro ⟨x,hx,hm⟩;unfold keepS at hm;cases ho:okS P x<;>rw [ho] at hm
   ·cases hm
   simp only [cond_true,List.mem_singleton] at hm;subst hm;exact ⟨(hs.mem m).1 hx,ho⟩
  rintro ⟨hm,ho⟩;exact ⟨m,(hs.mem m).2 hm,by unfold keepS;rw [ho];simp⟩
 have h1:=LegI.len h;have h2:=hs.len;have h3:=pseudoL_len P;omega
theorem king_rng(bd:Nat→Int)(sd:Int):-1≤kingAtS bd sd∧kingAtS bd sd≤63:=by
 have:=kingTo_range bd (1+6*sd) 64;unfold kingAtS;omega
theorem atK_rng{P:SP}{m:Sm}(h:0≤m.t∧m.t≤63):-1≤atK P m∧atK P m≤63:=by
 have:=king_rng P.bd P.turn;unfold atK;cases (m.f==kingAtS P.bd P.turn)<;>simp only [cond_true,cond_false]<;>omega
def pickI(k n:Int):Int:=IntKind.i64.wrap ((IntKind.u64.wrap k).tmod (IntKind.u64.wrap n))
theorem pick_ok{k n:Int}(h:0<n)(h2:n≤20000):(IntKind.u64.wrap n≠0)∧0≤pickI k n∧pickI k n<n:=by
 have e:IntKind.u64.wrap n=n:=by rw [IntKind.wrap_u64];omega
 have e2:=wrapu_pos k;unfold pickI;rw [e,Int.tmod_eq_emod_of_nonneg e2,i64_in' (by have:=Int.emod_nonneg (IntKind.u64.wrap k) (show n≠0 by omega);omega) (by have:=Int.emod_lt_of_pos (IntKind.u64.wrap k) h;omega)];exact ⟨by omega,Int.emod_nonneg _ (by omega),Int.emod_lt_of_pos _ h⟩
structure RightS(P:SP):Prop where
 valid:ValidS P
 few:∃l,LegalOf P l∧l.length≤218
theorem c10{w:World}(P:SP)(hB:SPb P)(hT:0≤P.turn∧P.turn≤1)(hc:0≤P.castle∧P.castle≤15):
  Calls Tryz.prog 10 [.agg (spCells P)].toArray w (fun e w'=>∃l ao cap,e=.returned (.slice ao l.length cap)∧Mod [] w w'∧LegalOf P l∧Own w' w.heap.size 30 3 ao l.length cap (sms l)):=by
 have hm0:Mod [] w w:=Mod.refl _ _;refine enter (n:=57) Tryz.func10 rfl Tryz.ntmps10 rfl ?_;refine zw ?_;refine zA (spCells P) 24 (some 1) ?_;intro b1 w2 hn3;have hm5:=hn3.mod;have hm6:=zt hm0 hm5;have hz7:=hm5.size;refine yS 1 ?_;refine zx ?_;refine yS 1 ?_;refine zx ?_;refine yV 1 [.row ⟨b1,0,none⟩ 69 (spCells P)] [.agg (spCells P)] (At.row ya (spCells_size P)) ?_;refine zC (some 9) (c21 P hB hT) ?_;rintro _ w9 ⟨l11,ao12,cap13,rfl,hm10,hs14,ho15⟩;refine ⟨_,rfl,?_⟩;have hm17:=zt hm6 hm10;have hz18:=hm10.size;have hpl:l11.length≤20000:=by have:=hs14.len;have:=pseudoL_len P;omega
 refine yS 1 ?_;refine zx ?_;refine yV 3 [.row ⟨b1,0,none⟩ 69 (spCells P),.cell ⟨b1,64,none⟩ (.int .i64 P.turn)] [.agg (spCells P),.int .i64 P.turn] (⟨(At.row ya (spCells_size P)),yc (spCells_64 P)⟩) ?_;refine zk (some 13) (c22 P P.turn (by omega)) ?_;intro w19 hm20;have ho22:=Own.on ho15 hm20;have hm23:=zt hm17 hm20;have hz24:=hm20.size;refine yS 1 ?_;refine zz ?_;refine w_seq ?_;refine zw ?_;refine yS 1 ?_;refine zz ?_;refine w_block ?_;refine yP (γ:=GS) (fun g25=>((l11.length:Int)-g25.i).toNat) (fun (g25:GS)=>[(1,pz b1),(3,.slice g25.ao g25.l.length g25.cap),(4,.slice ao12 l11.length cap13),(5,.int .i64 (kingAtS P.bd P.turn)),(6,.int .i64 g25.i)]) (fun (g25:GS) w_=>(0≤g25.i∧g25.i≤(l11.length:Int))∧Mod [] w19 w_∧(∀x∈blk g25.ao,x∈([]:List Nat)∨w19.heap.size≤x)∧Own w_ w19.heap.size 30 3 g25.ao g25.l.length g25.cap (sms g25.l)∧(LegI P l11 g25)) ⟨0,[],none,0⟩ ⟨(by constructor<;>(try dsimp only)<;>omega),Mod.refl _ _,(fun x hx=>(blk_none x hx).elim),(Own.nil _ _ _ _),FlatI.zero⟩ ?_;rintro g25 w26 ⟨⟨h31,h32⟩,hm27,hw28,ho29,hx30⟩;have ho34:=Own.on ho22 hm27;have hm35:=zt hm23 hm27;have hz36:=hm27.size;refine w_seq ?_;refine zw ?_;refine yS 4 ?_;refine zz ?_;refine yC (decide (g25.i<((l11.length:Nat):Int))) (fun hc37=>?_) fun hc37=>?_
 ·have dhc37:=of_decide_eq_true hc37;obtain ⟨g38,cur39,rfl,hb40,hf41,ht42,hn43,hs44⟩:=Own.some ho34 (by omega);have hmem:=(hs14.mem _).1 (smAt_mem (l:=l11) (i:=g25.i) (by omega) (by omega));have hmo:=pseudoL_ok hT hmem;have hmf:=hmo.f;have hmt:=hmo.t;have hmp:=hmo.p;have hak:=atK_rng (P:=P) (m:=(smAt l11 g25.i)) hmt;have hBm:=made_b hB hT (t:=(smAt l11 g25.i).t) (p:=(smAt l11 g25.i).p) hmf (by omega);refine w_skip ?_;refine n_then ?_;refine w_seq ?_;refine w_block ?_;refine zw ?_;refine yS 2 ?_;refine zz ?_;refine w_cut (γ:=Int) (fun g45=>[(1,pz b1),(3,.slice g25.ao g25.l.length g25.cap),(4,.slice (some ⟨g38,0,none⟩) l11.length cap13),(5,.int .i64 (kingAtS P.bd P.turn)),(6,.int .i64 g25.i),(7,.int .i64 g45)]) (fun g45 w_=>Mod [] w26 w_∧g45=(atK P (smAt l11 g25.i))) ?_ ?_
  ·refine zw ?_;refine yO 7 [.prop (0≤g25.i∧g25.i<((l11.length:Nat):Int)),.cell ⟨g38,(0+g25.i.toNat*3),none⟩ (.int .i64 ((smAt l11 g25.i).f))] (⟨(zh (by omega)),Own.cell ho34 (sms_at (l:=l11) (i:=g25.i) (by omega) (by omega)).1⟩) ?_;refine zz ?_;refine yC (((smAt l11 g25.i).f)==(kingAtS P.bd P.turn)) (fun hc49=>?_) fun hc49=>?_
   ·have dhc49:=eq_of_beq hc49;refine w_region ?_;refine yO 6 [.prop (0≤g25.i∧g25.i<((l11.length:Nat):Int)),.cell ⟨g38,((0+g25.i.toNat*3)+1),none⟩ (.int .i64 ((smAt l11 g25.i).t))] (⟨(zh (by omega)),Own.cell ho34 (sms_at (l:=l11) (i:=g25.i) (by omega) (by omega)).2.1⟩) ?_;refine ze ?_;exact zb ((smAt l11 g25.i).t) ⟨yt,(by unfold atK;simp only [hc49,cond_true,cond_false])⟩
   have dhc49:=ne_of_beq_false hc49;refine w_skip ?_;exact zb (kingAtS P.bd P.turn) ⟨yt,(by unfold atK;simp only [hc49,cond_true,cond_false])⟩
  rintro _ w46 ⟨hm47,rfl⟩;have ho52:=Own.on ho29 hm47;have hm53:=zt hm35 hm47;have hm54:=zt hm27 hm47;have hz55:=hm47.size;refine w_cut (γ:=Unit) (fun _=>[(1,pz b1),(3,.slice g25.ao g25.l.length g25.cap),(4,.slice (some ⟨g38,0,none⟩) l11.length cap13),(5,.int .i64 (kingAtS P.bd P.turn)),(6,.int .i64 g25.i),(48,.bool ((decide ((atK P (smAt l11 g25.i))<0))||(!(attS (madeS P ((smAt l11 g25.i).f) ((smAt l11 g25.i).t) ((smAt l11 g25.i).p)).bd (atK P (smAt l11 g25.i)).toNat (1-P.turn)))))]) (fun _ w_=>Mod [] w46 w_) ?_ ?_
  ·refine w_qt ?_;refine yQ 3 ?_;refine yEq 35 (.bool (decide ((atK P (smAt l11 g25.i))<(0:Int)))) ?_;cases hc59:(decide ((atK P (smAt l11 g25.i))<(0:Int)))
   ·have dhc59:=hc59;try simp only [zbq] at dhc59
    refine yQv 5 [.row ⟨b1,0,none⟩ 69 (spCells P),.prop (0≤g25.i∧g25.i<((l11.length:Nat):Int)),.row ⟨g38,(0+g25.i.toNat*3),none⟩ 3 (#[.int .i64 ((smAt l11 g25.i).f),.int .i64 ((smAt l11 g25.i).t),.int .i64 ((smAt l11 g25.i).p)])] [.agg (spCells P),.agg #[.int .i64 ((smAt l11 g25.i).f),.int .i64 ((smAt l11 g25.i).t),.int .i64 ((smAt l11 g25.i).p)]] (fun _ hC=>⟨(At.row (At.on ya hC) (spCells_size P)),(zh (by omega)),(own_sm (l:=l11) (i:=g25.i) (Own.on yo hC) (by omega) (by omega))⟩) ?_;refine zqk (some 41) (fun w_ hC=>c19 P hB ((smAt l11 g25.i).f) ((smAt l11 g25.i).t) ((smAt l11 g25.i).p) (by omega) (by omega) (by omega) hT hc) ?_;refine zqo 4 [rz 1 b1,(3,.slice g25.ao g25.l.length g25.cap),(4,.slice (some ⟨g38,0,none⟩) l11.length cap13),iz 5 (kingAtS P.bd P.turn),iz 6 g25.i,(35,.bool false),(41,.agg (spCells (madeS P ((smAt l11 g25.i).f) ((smAt l11 g25.i).t) ((smAt l11 g25.i).p)))),iz 42 (atK P (smAt l11 g25.i)),iz 45 (IntKind.i64.wrap (1-P.turn))] [.cell ⟨b1,64,none⟩ (.int .i64 P.turn)] (fun _ hC=>At.cell (At.on ya hC) (spCells_64 P)) ?_;rw [zi ((1:Int)-P.turn) (by omega) (by omega)];refine zqk (some 46) (fun w_ hC=>c23 (madeS P ((smAt l11 g25.i).f) ((smAt l11 g25.i).t) ((smAt l11 g25.i).p)) hBm (atK P (smAt l11 g25.i)) (1-P.turn) (by omega)) ?_;refine yQ 2 ?_;refine q_ot ?_;intro w60 hm61;have hz67:=hm61.size;exact zb () yt
   have dhc59:=hc59;try simp only [zbq] at dhc59
   refine yQ 13 ?_;refine q_ot ?_;intro w68 hm69;have hz75:=hm69.size;exact zb () yt
  intro _ w56 hm57;have ho78:=Own.on ho52 hm57;have hm79:=zt hm53 hm57;have hm80:=zt hm54 hm57;have hz81:=hm57.size;refine yC ((decide ((atK P (smAt l11 g25.i))<0))||(!(attS (madeS P ((smAt l11 g25.i).f) ((smAt l11 g25.i).t) ((smAt l11 g25.i).p)).bd (atK P (smAt l11 g25.i)).toNat (1-P.turn)))) (fun hc82=>?_) fun hc82=>?_
  ·have dhc82:=hc82;try simp only [zbq] at dhc82
   refine w_region ?_;refine yV 5 [.prop (0≤g25.i∧g25.i<((l11.length:Nat):Int)),.row ⟨g38,(0+g25.i.toNat*3),none⟩ 3 (#[.int .i64 ((smAt l11 g25.i).f),.int .i64 ((smAt l11 g25.i).t),.int .i64 ((smAt l11 g25.i).p)])] [.agg #[.int .i64 ((smAt l11 g25.i).f),.int .i64 ((smAt l11 g25.i).t),.int .i64 ((smAt l11 g25.i).p)]] (⟨(zh (by omega)),(own_sm (l:=l11) (i:=g25.i) yo (by omega) (by omega))⟩) ?_;refine reg_bslice (#[.int .i64 ((smAt l11 g25.i).f),.int .i64 ((smAt l11 g25.i).t),.int .i64 ((smAt l11 g25.i).p)]) 30 1 (some 54) (by kernel_rfl) ?_;intro b83 w84 hn85;have hb86:=Nat.le_trans hm79.size hn85.base;have hb87:=Nat.le_trans hm80.size hn85.base;have hm88:=hn85.mod;have ho91:=Own.on ho78 hm88;have hz94:=hm88.size;have hf95:=hn85.at_;refine reg_append2 g25.ao g25.l.length g25.cap ⟨b83,0,none⟩ 1 1 30 (some 55) 3 24 (b0:=w19.heap.size) (xs:=sms g25.l) (news:=sms ([(⟨(smAt l11 g25.i).f,(smAt l11 g25.i).t,(smAt l11 g25.i).p⟩:Sm)])) (by kernel_rfl) ho91 (by decide) (sms_len _) (at_cells (l:=sms ([(⟨(smAt l11 g25.i).f,(smAt l11 g25.i).t,(smAt l11 g25.i).p⟩:Sm)])) (by exact hf95)) (sms_one _) (by have h1:=hx30.len;omega) (by omega) ?_;intro ao96 cap97 w98 ho99 hm100 hd101;have hz106:=hm100.size;rw [show (g25.l.length+1:Nat)=(g25.l++[(⟨(smAt l11 g25.i).f,(smAt l11 g25.i).t,(smAt l11 g25.i).p⟩:Sm)]).length from (by first|rfl|simp)];have ho107:Own w98 w19.heap.size 30 3 ao96 (g25.l++[(⟨(smAt l11 g25.i).f,(smAt l11 g25.i).t,(smAt l11 g25.i).p⟩:Sm)]).length cap97 (sms (g25.l++[(⟨(smAt l11 g25.i).f,(smAt l11 g25.i).t,(smAt l11 g25.i).p⟩:Sm)])):=Own.cast ho99 (by first|rfl|simp) (by first|rfl|rw [sms_append]);have hw108:=acc_where hw28 yt hd101;refine yS 1 ?_;refine ze ?_;refine n_block ?_;refine n_then ?_;refine w_region ?_;refine yS 2 ?_;refine yW 19 (zi (g25.i+(1:Int)) (by omega) (by omega)) ?_;refine yS 1 ?_;refine ze ?_;exact zl (⟨g25.i+1,(g25.l++[(⟨(smAt l11 g25.i).f,(smAt l11 g25.i).t,(smAt l11 g25.i).p⟩:Sm)]),ao96,cap97⟩:GS) ⟨(by constructor<;>(try dsimp only)<;>omega),yt,hw108,ho107,(FlatI.step hx30 (by omega) (by omega) ⟨0,0,0⟩ (show _=_++keepS P (smAt l11 g25.i) from by unfold keepS;rw [show okS P (smAt l11 g25.i)=_ from hc82];first|rfl|exact (List.append_nil _).symm))⟩ (hlt:=(by dsimp only;omega))
  have dhc82:=hc82;try simp only [zbq] at dhc82
  refine w_skip ?_;refine n_block ?_;refine n_then ?_;refine w_region ?_;refine yS 2 ?_;refine yW 19 (zi (g25.i+(1:Int)) (by omega) (by omega)) ?_;refine yS 1 ?_;refine ze ?_;exact zl (⟨g25.i+1,g25.l,g25.ao,g25.cap⟩:GS) ⟨(by constructor<;>(try dsimp only)<;>omega),hm80,hw28,ho78,(FlatI.step hx30 (by omega) (by omega) ⟨0,0,0⟩ (show _=_++keepS P (smAt l11 g25.i) from by unfold keepS;rw [show okS P (smAt l11 g25.i)=_ from hc82];first|rfl|exact (List.append_nil _).symm))⟩ (hlt:=(by dsimp only;omega))
 have dhc37:=of_decide_eq_false hc37;refine w_exit ?_;refine x_then ?_;refine x_then ?_;refine x_hit ?_;refine zn ?_;refine yS 2 ?_;refine zz ?_;refine w_ret ?_;exact y1 (⟨g25.l,g25.ao,g25.cap,rfl,hm35,hx30.fin (by omega) (by omega) hs14,Own.base ho29 (by omega)⟩)
theorem c9{w:World}(P:SP):
  Calls Tryz.prog 9 [.agg (spCells P)].toArray w (fun e w'=>∃v:Bool,e=.returned (.bool v)∧Mod [] w w'∧(v=true→RightS P)):=by
 refine enter (n:=11) Tryz.func9 rfl Tryz.ntmps9 rfl ?_;refine zw ?_;refine zA (spCells P) 24 (some 1) ?_;intro b1 w2 hn3;refine yS 1 ?_;refine zx ?_;refine yV 1 [.row ⟨b1,0,none⟩ 69 (spCells P)] [.agg (spCells P)] (At.row ya (spCells_size P)) ?_;refine zC (some 4) (c20 P) ?_;rintro _ w9 ⟨v11,rfl,hm10,hv12⟩;refine ⟨_,rfl,?_⟩;refine yS 1 ?_;refine yE 5 (.bool v11) ?_;cases hc16:v11
 ·have dhc16:=hc16;try simp only [zbq] at dhc16
  refine yS 6 ?_;refine zz ?_;refine w_ret ?_;exact y1 (⟨false,rfl,yt,fun h=>absurd h (by decide)⟩)
 have dhc16:=hc16;try simp only [zbq] at dhc16
 refine yV 1 [.row ⟨b1,0,none⟩ 69 (spCells P)] [.agg (spCells P)] (At.row ya (spCells_size P)) ?_;refine zC (some 7) (c10 P (hv12 hc16).bd (hv12 hc16).turn (hv12 hc16).castle) ?_;rintro _ w17 ⟨l19,ao20,cap21,rfl,hm18,hs22,ho23⟩;refine ⟨_,rfl,?_⟩;have hll:=hs22.len;refine yS 4 ?_;refine zz ?_;refine w_ret ?_;exact y1 (v:=.bool (decide (((l19.length:Nat):Int)≤218))) (⟨_,rfl,yt,fun h=>⟨hv12 hc16,l19,hs22,by have:=of_decide_eq_true h;omega⟩⟩)
theorem c13{w:World}(P:SP)(k:Int):
  Calls Tryz.prog 13 [.agg (spCells P),.int .i64 k].toArray w (fun e w'=>∃(m:Sm) (v:Bool),e=.returned (.tuple #[.agg #[.int .i64 m.f,.int .i64 m.t,.int .i64 m.p],.bool v])∧Mod [] w w'∧(v=true→RightS P∧(m∈pseudoL P∧okS P m=true))):=by
 refine enter (n:=27) Tryz.func13 rfl Tryz.ntmps13 rfl ?_;refine zw ?_;refine zA (spCells P) 24 (some 2) ?_;intro b1 w2 hn3;refine zA (#[.int .i64 0,.int .i64 0,.int .i64 0]) 30 (some 4) ?_;intro b9 w10 hn11;refine yS 1 ?_;refine zz ?_;refine w_seq ?_;refine zw ?_;refine yV 1 [.row ⟨b1,0,none⟩ 69 (spCells P)] [.agg (spCells P)] (At.row ya (spCells_size P)) ?_;refine zC (some 8) (c9 P) ?_;rintro _ w18 ⟨v20,rfl,hm19,hv21⟩;refine ⟨_,rfl,?_⟩;refine yS 1 ?_;refine zz ?_;refine yC (!v20) (fun hc26=>?_) fun hc26=>?_
 ·have dhc26:=hc26;try simp only [zbq] at dhc26
  have nhc26:v20=false:=by simpa using hc26
  refine zw ?_;refine yS 1 ?_;refine zS b9 0 (.agg #[.int .i64 0,.int .i64 0,.int .i64 0]) ?_;intro w27 hu28;refine yS 1 ?_;refine zz ?_;refine w_ret ?_;refine r_then ?_;exact retc2 Tryz.results13 rfl (by kernel_rfl) (by kernel_rfl) (At.row ya rfl) rfl (⟨⟨0,0,0⟩,false,rfl,yt,fun h=>absurd h (by decide)⟩)
 have dhc26:=hc26;try simp only [zbq] at dhc26
 have nhc26:v20=true:=by simpa using hc26
 have hR:=hv21 (by simpa using hc26);refine w_skip ?_;refine zn ?_;refine yV 1 [.row ⟨b1,0,none⟩ 69 (spCells P)] [.agg (spCells P)] (At.row ya (spCells_size P)) ?_;refine zC (some 12) (c10 P hR.valid.bd hR.valid.turn hR.valid.castle) ?_;rintro _ w33 ⟨l35,ao36,cap37,rfl,hm34,hs38,ho39⟩;refine ⟨_,rfl,?_⟩;have hll:=hs38.len;refine yS 1 ?_;refine zz ?_;refine w_seq ?_;refine zw ?_;refine yS 3 ?_;refine zz ?_;refine yC (((l35.length:Nat):Int)==0) (fun hc45=>?_) fun hc45=>?_
 ·have dhc45:=eq_of_beq hc45;refine zw ?_;refine yS 1 ?_;refine zS b9 0 (.agg #[.int .i64 0,.int .i64 0,.int .i64 0]) ?_;intro w46 hu47;refine yS 1 ?_;refine zz ?_;refine w_ret ?_;refine r_then ?_;exact retc2 Tryz.results13 rfl (by kernel_rfl) (by kernel_rfl) (At.row ya rfl) rfl (⟨⟨0,0,0⟩,false,rfl,yt,fun h=>absurd h (by decide)⟩)
 have dhc45:=ne_of_beq_false hc45;have hpos:0<l35.length:=by have h:=hc45;simp only [beq_eq_false_iff_ne] at h;omega
 obtain ⟨g53,cur54,rfl,hb55,hf56,ht57,hn58,hs59⟩:=Own.some ho39 hpos;have hpk:=pick_ok (k:=k) (n:=((l35.length:Nat):Int)) (by omega) (by omega);refine w_skip ?_;refine zn ?_;refine zo 8 [rz 4 b9,(17,.slice (some ⟨g53,0,none⟩) l35.length cap37),iz 24 (IntKind.i64.wrap ((IntKind.u64.wrap k).tmod (IntKind.u64.wrap ((l35.length:Nat):Int))))] [.prop ((IntKind.u64.wrap ((l35.length:Nat):Int))≠0)] (zh (by first|omega|assumption|decide|exact hpk.1)) ?_;rw [show (IntKind.i64.wrap ((IntKind.u64.wrap k).tmod (IntKind.u64.wrap ((l35.length:Nat):Int))))=pickI k ((l35.length:Nat):Int) from rfl];refine yV 2 [.prop (0≤(pickI k ((l35.length:Nat):Int))∧(pickI k ((l35.length:Nat):Int))<((l35.length:Nat):Int)),.row ⟨g53,(0+(pickI k ((l35.length:Nat):Int)).toNat*3),none⟩ 3 (#[.int .i64 ((smAt l35 (pickI k ((l35.length:Nat):Int))).f),.int .i64 ((smAt l35 (pickI k ((l35.length:Nat):Int))).t),.int .i64 ((smAt l35 (pickI k ((l35.length:Nat):Int))).p)])] [.agg #[.int .i64 ((smAt l35 (pickI k ((l35.length:Nat):Int))).f),.int .i64 ((smAt l35 (pickI k ((l35.length:Nat):Int))).t),.int .i64 ((smAt l35 (pickI k ((l35.length:Nat):Int))).p)]] (⟨(zh (by first|omega|assumption|decide|exact hpk.1)),(own_sm (l:=l35) (i:=(pickI k ((l35.length:Nat):Int))) ho39 (by omega) (by omega))⟩) ?_;refine zS b9 0 (.agg #[.int .i64 ((smAt l35 (pickI k ((l35.length:Nat):Int))).f),.int .i64 ((smAt l35 (pickI k ((l35.length:Nat):Int))).t),.int .i64 ((smAt l35 (pickI k ((l35.length:Nat):Int))).p)]) ?_;intro w60 hu61;refine yS 1 ?_;refine zz ?_;refine w_ret ?_;exact retc2 Tryz.results13 rfl (by kernel_rfl) (by kernel_rfl) (At.row ya rfl) rfl (⟨smAt l35 (pickI k ((l35.length:Nat):Int)),true,rfl,yt,fun _=>⟨hR,(hs38.mem _).1 (smAt_mem (by omega) (by omega))⟩⟩)
section
variable{P:Program}{n:Nat}{D:List Deferred}{ops:Array Oper}{Q:Exit→Act→World→Prop}{w:World}{L:List (Nat×Value)}
def appendSAt(P:Program)(n:Nat)(ops:List Oper)(k:Nat)(L:List (Nat×Value)):Option (Value×ByteArray×TypeId×Option Nat×Nat×Nat×Bool):=
 match ops[k]? with
 |some o=>match wantedL ops L o,dstOk o.dst n with
  |some true,true=>match o.op with
   |.call c=>match c.callee,c.args.toList,c.argTypes.toList with
    |.builtin .append,[s,x],[t,t']=>match evL L s,evL L x,P.underlying t,P.underlying t' with
     |some u,some (.string v),some (.slice e),some .string=>match P.info? e with
      |some i=>match i.zero with
       |some (.int .u8 z)=>some (u,v,e,o.dst,i.size,i.bytes,decide (z=0))
       |_=>none
      |none=>none
     |_,_,_,_=>none
    |_,_,_=>none
   |_=>none
  |_,_=>none
 |none=>none
theorem reg_append_str{k:Nat}(ao:Option Addr)(l cap:Nat)(s:ByteArray)(e:TypeId)(dst:Option Nat)(h:appendSAt P n ops.toList k L=some (.slice ao l cap,s,e,dst,1,1,true))
  {b0:Nat}{xs:List Value}(hown:Own w b0 e 1 ao l cap xs)(hb:l+s.size≤140737488355328)(hbase:b0≤w.heap.size)
  (hk:∀ao' cap' w',Own w' b0 e 1 ao' (l+s.size) cap' (xs++Lib.strCells s)→Mod (blk ao) w w'→Reg P n D ops Q (k+1) (setD dst (.slice ao' (l+s.size) cap') L) w'):Reg P n D ops Q k L w:=by
 intro act ha;unfold appendSAt at h;split at h
 case h_2=>cases h
 rename_i o ho;split at h
 case h_2=>cases h
 rename_i hw hd;split at h
 case h_2=>cases h
 rename_i cc hop;split at h
 case h_2=>cases h
 rename_i s' x t t' hc hargs hts;split at h
 case h_2=>cases h
 rename_i u v e' hs' hx hu hu';split at h
 case h_2=>cases h
 rename_i i hi;split at h
 case h_2=>cases h
 rename_i z hz;simp only [Option.some.injEq,Prod.mk.injEq,decide_eq_true_eq] at h;obtain ⟨rfl,rfl,rfl,rfl,hsz,hby,rfl⟩:=h;rw [drop_cons ho];simp only [wpList,wantedL_spec ha hw,if_true];refine .inl ?_;have hlm:l+v.size≤maxLen:=by simp only [maxLen];omega
 obtain ⟨v',w',hrun,h2,h3,hnil⟩:=Lib.run_append_own_string (P:=P) w b0 t t' o.type e' i hu hu' hi hz hsz hby _ l xs hown.ow v hlm hb hbase;have hr:(execOp act.eval o).run P w=.ok (.value v') w':=by
  obtain ⟨dst,op,ty,pos,af,g'⟩:=o;simp only at hop;subst hop;obtain ⟨callee,args,ts⟩:=cc;simp only at hc hargs hts;subst hc;obtain rfl:args=#[s',x]:=by apply Array.ext';simpa using hargs
  obtain rfl:ts=#[t,t']:=by apply Array.ext';simpa using hts
  simp only [execOp,resolve,invoke,builtin,Sem.run_bind,Sem.run_pure,Result.andThen_ok,List.map_toArray,List.map_cons,List.map_nil,ha.agrees _ _ hs',ha.agrees _ _ hx,hrun]
 simp only [Oper.wp,hr,Oper.upon];have hform:∃ao' cap',v'=.slice ao' (l+v.size) cap':=by
  rcases h2.2 with ⟨hv,h0⟩|⟨g,cap',cur,hv,_⟩
  ·exact ⟨none,0,by rw [hv,h0]⟩
  ·exact ⟨_,_,hv⟩
 obtain ⟨ao',cap',rfl⟩:=hform;exact hk ao' cap' w' ⟨h2⟩ (Mod.of_grown h3) _ (ha.setD hd _)
def b2sAt(P:Program)(n:Nat)(ops:List Oper)(k:Nat)(L:List (Nat×Value)):Option (Value×Option Nat×TypeId):=
 match ops[k]? with
 |some o=>match wantedL ops L o,dstOk o.dst n with
  |some true,true=>match o.op with
   |.convert a b x=>match evL L x,P.underlying a,P.underlying b with
    |some u,some (.slice e),some .string=>match P.underlying e with
     |some (.int .u8)=>some (u,o.dst,e)
     |_=>none
    |_,_,_=>none
   |_=>none
  |_,_=>none
 |none=>none
theorem reg_b2s{k:Nat}(ao:Option Addr)(l cap:Nat)(bs:List UInt8)(dst:Option Nat)(e:TypeId)(h:b2sAt P n ops.toList k L=some (.slice ao l cap,dst,e)){b0:Nat}(hown:Own w b0 e 1 ao l cap (Lib.byteCells bs))
  (hk:Reg P n D ops Q (k+1) (setD dst (.string ⟨bs.toArray⟩) L) w):Reg P n D ops Q k L w:=by
 intro act ha;unfold b2sAt at h;split at h
 case h_2=>cases h
 rename_i o ho;split at h
 case h_2=>cases h
 rename_i hw hd;split at h
 case h_2=>cases h
 rename_i a b x hop;split at h
 case h_2=>cases h
 rename_i u e' hx hu hu';split at h
 case h_2=>cases h
 rename_i he;simp only [Option.some.injEq,Prod.mk.injEq] at h;obtain ⟨rfl,rfl,rfl⟩:=h;rw [drop_cons ho];simp only [wpList,wantedL_spec ha hw,if_true];refine .inl ?_;have hl:bs.length=l:=by have:=hown.len;simpa [Lib.byteCells] using this
 have hrun:(convert a b (.slice ao l cap)).run P w=.ok (.string ⟨bs.toArray⟩) w:=by
  cases ao with
  |none=>
   have h0:l=0:=by
    rcases hown.ow.2 with ⟨_,h0⟩|⟨g,c',cur,hv,_⟩
    ·exact h0
    ·simp at hv
   obtain rfl:bs=[]:=List.eq_nil_of_length_eq_zero (by omega);exact run_convert_bytes_nil w a e' hu he l cap b hu'
  |some ad=>
   obtain ⟨g,hg,_⟩:=hown.get (by simp);obtain rfl:=Option.some.inj hg;subst hl;refine run_convert_bytes_back w a b e' _ cap bs hu he hu' fun j hj=>hown.cells' j _ ?_;simp [Lib.byteCells,hj]
 have hr:(execOp act.eval o).run P w=.ok (.value (.string ⟨bs.toArray⟩)) w:=by
  obtain ⟨dst,op,ty,pos,af,g'⟩:=o;simp only at hop;subst hop;simp only [execOp,ha.agrees _ _ hx,Sem.run_bind,hrun,Result.andThen_ok];rfl
 simp only [Oper.wp,hr,Oper.upon];exact hk _ (ha.setD hd _)
end
def byteAt(s:ByteArray)(i:Int):Int:=match s[i.toNat]? with|some b=>(b.toNat:Int)|none=>0
theorem byteAt_ok{s:ByteArray}{i:Int}(h0:0≤i)(h1:i<(s.size:Int)):0≤i∧∃b,s[i.toNat]?=some b∧byteAt s i=b.toNat:=by
 have hlt:i.toNat<s.size:=by omega
 refine ⟨h0,s[i.toNat],getElem?_pos s i.toNat hlt,?_⟩;unfold byteAt;rw [getElem?_pos s i.toNat hlt]
theorem byteAt_files{f:Int}(h:0≤f∧f≤7):byteAt ⟨#[97,98,99,100,101,102,103,104]⟩ f=97+f:=by
 rcases (by omega:f=0∨f=1∨f=2∨f=3∨f=4∨f=5∨f=6∨f=7) with rfl|rfl|rfl|rfl|rfl|rfl|rfl|rfl<;>rfl
theorem byteAt_ranks{f:Int}(h:0≤f∧f≤7):byteAt ⟨#[49,50,51,52,53,54,55,56]⟩ f=49+f:=by
 rcases (by omega:f=0∨f=1∨f=2∨f=3∨f=4∨f=5∨f=6∨f=7) with rfl|rfl|rfl|rfl|rfl|rfl|rfl|rfl<;>rfl
theorem c191{w:World}(f:Int)(h:0≤f∧f≤7):
  Calls Tryz.prog 191 [.int .i8 f].toArray w (fun e w'=>e=.returned (.int .u8 (97+f))∧Mod [] w w'):=by
 have v0:Mod [] w w:=Mod.refl _ _;refine enter (n:=5) Tryz.func191 rfl Tryz.ntmps191 rfl ?_;refine zw ?_;refine yS 1 ?_;refine zx ?_;refine yV 3 [.prop (0≤f∧∃b,(⟨#[97,98,99,100,101,102,103,104]⟩:ByteArray)[f.toNat]?=some b∧(byteAt (⟨#[97,98,99,100,101,102,103,104]⟩:ByteArray) f)=b.toNat)] [.int .u8 (byteAt (⟨#[97,98,99,100,101,102,103,104]⟩:ByteArray) f)] (byteAt_ok (by omega) (show _<8 from (by omega))) ?_;refine zz ?_;refine w_ret ?_;exact y1 (⟨ret_int (byteAt_files h),v0⟩)
theorem c192{w:World}(f:Int)(h:0≤f∧f≤7):
  Calls Tryz.prog 192 [.int .i8 f].toArray w (fun e w'=>e=.returned (.int .u8 (49+f))∧Mod [] w w'):=by
 have v0:Mod [] w w:=Mod.refl _ _;refine enter (n:=5) Tryz.func192 rfl Tryz.ntmps192 rfl ?_;refine zw ?_;refine yS 1 ?_;refine zx ?_;refine yV 3 [.prop (0≤f∧∃b,(⟨#[49,50,51,52,53,54,55,56]⟩:ByteArray)[f.toNat]?=some b∧(byteAt (⟨#[49,50,51,52,53,54,55,56]⟩:ByteArray) f)=b.toNat)] [.int .u8 (byteAt (⟨#[49,50,51,52,53,54,55,56]⟩:ByteArray) f)] (byteAt_ok (by omega) (show _<8 from (by omega))) ?_;refine zz ?_;refine w_ret ?_;exact y1 (⟨ret_int (byteAt_ranks h),v0⟩)
theorem Mod.of_below'{w0 w w':World}(h0:Mod [] w0 w)(h:Below w0.heap.size w w'):Mod [] w0 w':=
 ⟨h.os.trans h0.os,h.tape.trans h0.tape,h.output.trans h0.output,Nat.le_trans h0.size h.size,fun k hk _=>(h.block k hk).trans (h0.block k hk (by simp))⟩
def sqBytes(sq:Int):List UInt8:=[UInt8.ofNat (97+sqFile sq).toNat,UInt8.ofNat (49+sqRank sq).toNat]
theorem u8_ofNat{x:Int}(h:0≤x∧x<256):(((UInt8.ofNat x.toNat).toNat:Nat):Int)=x:=by
 rw [UInt8.toNat_ofNat'];omega
theorem c183{b:Nat}{w:World}(hb:At w b (.cells #[.pointer none,.slice none 0 0] 150 (0,0))):
  Calls Tryz.prog 183 [pz b].toArray w (fun e w'=>e=.returned (.tuple #[])∧Mod [b] w w'∧At w' b (.cells #[.pointer none,.slice none 0 0] 150 (0,0))):=by
 have v0:Mod [b] w w:=Mod.refl _ _;refine enter (n:=8) Tryz.func183 rfl Tryz.ntmps183 rfl ?_;refine zw ?_;refine yS 3 ?_;refine reg_store b 0 (.pointer none) none (by kernel_rfl) hb (Nat.le_of_ble_eq_true rfl) rfl ?_;intro w1 hu2;have u3:At w1 b (.cells (#[.pointer none,.slice none 0 0]) 150 (0,0)):=hu2.at_;have v4:=Mod.fresh' v0 hu2.mod (by simp<;>omega);refine ze ?_;refine n_then ?_;refine w_region ?_;refine yS 3 ?_;refine reg_store b 1 (.slice none 0 0) none (by kernel_rfl) u3 (Nat.le_of_ble_eq_true rfl) rfl ?_;intro w5 hu6;have u7:At w5 b (.cells (#[.pointer none,.slice none 0 0]) 150 (0,0)):=hu6.at_;have v8:=Mod.fresh' v4 hu6.mod (by simp<;>omega);refine ze ?_;exact end0 Tryz.results183 (⟨rfl,v8,u7⟩)
def remL(x:UInt8)(l:List UInt8):List UInt8:=l.filter fun b=>b !=x
def remB(x:UInt8)(s:ByteArray):ByteArray:=⟨(remL x s.data.toList).toArray⟩
theorem dlen(s:ByteArray):s.data.toList.length=s.size:=by rw [Array.length_toList];rfl
theorem ext_size(s:ByteArray)(a b:Nat):(s.extract a b).size=((s.data.toList.drop a).take (b-a)).length:=by rw [←dlen,Lib.extract_data]
theorem subAt_one{s:ByteArray}{x:UInt8}{i:Int}(h:0≤i)(h2:i+1≤(s.size:Int)):subAt s ⟨#[x]⟩ i=true↔s.data.toList[i.toNat]?=some x:=by
 have hlt:i.toNat<s.data.toList.length:=by
  have:=dlen s;omega
 unfold subAt;rw [Lib.extract_toList,ByteArray.toList_eq];have e1:i.toNat+(ByteArray.mk #[x]).size-i.toNat=1:=by show i.toNat+1-i.toNat=1;omega
 rw [e1,List.drop_eq_getElem_cons hlt,List.getElem?_eq_getElem hlt];simp
theorem remL_none{x:UInt8}{l:List UInt8}(h:∀i:Nat,i<l.length→l[i]?≠some x):remL x l=l:=by
 unfold remL;rw [List.filter_eq_self];intro b hb;obtain ⟨i,hi,rfl⟩:=List.getElem_of_mem hb;have:=h i hi;rw [List.getElem?_eq_getElem hi] at this;simpa using this
theorem idx_none{s:ByteArray}{x:UInt8}{r:Int}(h:IdxOf s ⟨#[x]⟩ r)(hr:r<0):remL x s.data.toList=s.data.toList:=by
 rcases h with ⟨h0,_⟩|⟨_,h⟩
 ·omega
 refine remL_none fun i hi=>?_;have hl:=dlen s;have h1:=h (i:Int) (by omega) (by show (i:Int)+((1:Nat):Int)≤_;omega);have h2:=subAt_one (s:=s) (x:=x) (i:=(i:Int)) (by omega) (by omega);intro e;have:=h2.2 (by simpa using e);rw [h1] at this;cases this
theorem idx_some{s:ByteArray}{x:UInt8}{r:Int}(h:IdxOf s ⟨#[x]⟩ r)(hr:0≤r):r+1≤(s.size:Int)∧remL x s.data.toList=s.data.toList.take r.toNat++remL x (s.data.toList.drop (r.toNat+1)):=by
 rcases h with ⟨_,h1,h2,h3⟩|⟨h0,_⟩
 ·have h1':r+1≤(s.size:Int):=h1;refine ⟨h1',?_⟩;have hl:=dlen s;have hx:=(subAt_one (s:=s) (x:=x) hr h1').1 h2;have hlt:r.toNat<s.data.toList.length:=by omega
  have hd:s.data.toList.drop r.toNat=x::s.data.toList.drop (r.toNat+1):=by
   rw [List.drop_eq_getElem_cons hlt];rw [List.getElem?_eq_getElem hlt] at hx;rw [Option.some.inj hx]
  have ht:remL x (s.data.toList.take r.toNat)=s.data.toList.take r.toNat:=by
   refine remL_none fun i hi=>?_;have hi':i<r.toNat:=by simp at hi;omega
   have hf:=h3 (i:Int) (by omega) (by omega);intro e;rw [List.getElem?_take_of_lt hi'] at e;have:=(subAt_one (s:=s) (x:=x) (i:=(i:Int)) (by omega) (by omega)).2 (by simpa using e);rw [hf] at this;cases this
  conv=>lhs;rw [←List.take_append_drop r.toNat s.data.toList]
  unfold remL at*
  rw [List.filter_append,hd,List.filter_cons,ht];simp
 omega
theorem c96{w:World}(s:ByteArray)(x:UInt8)(hs:s.size≤1000):
  Calls Tryz.prog 96 [.string s,.string (⟨#[x]⟩),.string (⟨#[]⟩)].toArray w (fun e w'=>e=.returned (.string (remB x s))∧Mod [] w w'):=by
 have v0:Mod [] w w:=Mod.refl _ _;refine enter (n:=67) Tryz.func96 rfl Tryz.ntmps96 rfl ?_;refine zw ?_;refine yS 1 ?_;refine zx ?_;refine yS 1 ?_;refine zz ?_;refine w_seq ?_;refine zw ?_;refine yS 3 ?_;refine zz ?_;have hc1:((((⟨#[x]⟩:ByteArray).size:Nat):Int)==0)=false:=rfl;refine w_cond (b:=((((⟨#[x]⟩:ByteArray).size:Nat):Int)==0)) (by kernel_rfl) (fun hx=>absurd (hc1.symm.trans hx) (by decide)) (fun _=>?_);refine w_skip ?_;refine n_then ?_;refine w_block ?_;refine w_loop (γ:=ByteArray×List UInt8×Option Addr×Nat) (fun q6=>q6.1.size) (fun q6=>[(0,.string q6.1),(1,.string (⟨#[x]⟩)),(2,.string (⟨#[]⟩)),(7,.slice q6.2.2.1 q6.2.1.length q6.2.2.2)]) (fun (q6:ByteArray×List UInt8×Option Addr×Nat) w_=>q6.1.size≤s.size∧Mod [] w w_∧Own w_ w.heap.size 5 1 q6.2.2.1 q6.2.1.length q6.2.2.2 (Lib.byteCells q6.2.1)∧q6.2.1++remL x q6.1.data.toList=remL x s.data.toList) (s,[],none,0) (hold_keep [0,1,2,7] (by kernel_rfl)) ⟨Nat.le_refl _,v0,Own.nil _ _ _ _,rfl⟩ ?_;rintro ⟨rest2,out3,ao4,cap5⟩ w7 ⟨hs11,v8,ho9,hx10⟩;replace hs11:rest2.size≤s.size:=hs11;replace ho9:Own w7 w.heap.size 5 1 ao4 out3.length cap5 (Lib.byteCells out3):=ho9;replace hx10:out3++remL x rest2.data.toList=remL x s.data.toList:=hx10;have hs1:rest2.size≤1000:=Nat.le_trans hs11 hs;have hon:out3.length≤1000:=by
  have h1:(out3++remL x rest2.data.toList).length=(remL x s.data.toList).length:=by rw [hx10]
  have h2:(remL x s.data.toList).length≤s.data.toList.length:=List.length_filter_le _ _;have h3:=dlen s;rw [List.length_append] at h1;omega
 refine w_block ?_;refine zw ?_;refine yS 2 ?_;refine reg_call 118 [.string rest2,.string (⟨#[x]⟩)] (some 47) (by kernel_rfl) (c118 rest2 (⟨#[x]⟩:ByteArray) (by omega) (by show 1≤1000000;omega)) ?_;rintro _ w12 ⟨r14,rfl,hr15,hi16,v13⟩;refine ⟨_,rfl,?_⟩;have he17:=Own.on ho9 v13;have v18:=zt v8 v13;refine yS 1 ?_;refine zz ?_;refine w_seq ?_;refine zw ?_;refine yS 2 ?_;refine zz ?_;refine yC (decide (r14<0)) (fun hc19=>?_) fun hc19=>?_
 ·have dhc19:=of_decide_eq_true hc19;refine zw ?_;refine yS 2 ?_;have hz25:=v18.size;refine reg_append_str ao4 out3.length cap5 rest2 5 (some 52) (by kernel_rfl) he17 (by omega) (by omega) ?_;intro ao20 cap21 w22 ho23 v24;have v26:=Mod.fresh' v18 v24 (fun y hy=>Or.inr (Own.lt he17 y hy).1);have hsl:=dlen rest2;have ho27:=Own.cast ho23 (xs':=Lib.byteCells (out3++rest2.data.toList)) rfl (by simp only [Lib.strCells,Lib.byteCells,List.map_append]);refine reg_b2s ao20 (out3.length+rest2.size) cap21 (out3++rest2.data.toList) (some 53) 5 (by kernel_rfl) ho27 ?_;refine yS 1 ?_;refine zz ?_;refine w_ret ?_;refine r_then ?_;refine r_block ?_;refine r_then ?_;refine r_block ?_;exact y1 (⟨(by unfold remB;rw [←hx10,idx_none hi16 (by omega)]),v26⟩)
 have dhc19:=of_decide_eq_false hc19;refine w_skip ?_;refine n_then ?_;refine w_seq ?_;have hir:=(idx_some hi16 (by omega)).1;have hx1:(rest2.extract 0 r14.toNat).size≤rest2.size:=by rw [ext_size];have:=dlen rest2;simp only [List.drop_zero,List.length_take];omega
 have hz0:(⟨#[]⟩:ByteArray).size=0:=rfl;have hwr0:IntKind.i64.wrap (r14+(((⟨#[x]⟩:ByteArray).size:Nat):Int))=r14+1:=i64_in' (by show _≤r14+((1:Nat):Int);omega) (by show r14+((1:Nat):Int)≤_;omega);refine w_region ?_;refine yO 4 [.prop (0≤r14∧r14≤((rest2.size:Nat):Int))] (zh (by omega)) ?_;have hz33:=v18.size;refine reg_append_str ao4 out3.length cap5 (rest2.extract 0 r14.toNat) 5 (some 58) (by kernel_rfl) he17 (by omega) (by omega) ?_;intro ao28 cap29 w30 ho31 v32;have v34:=Mod.fresh' v18 v32 (fun y hy=>Or.inr (Own.lt he17 y hy).1);refine yS 1 ?_;have hz40:=v34.size;refine reg_append_str ao28 (out3.length+(rest2.extract 0 r14.toNat).size) cap29 (⟨#[]⟩:ByteArray) 5 (some 60) (by kernel_rfl) ho31 (by omega) (by omega) ?_;intro ao35 cap36 w37 ho38 v39;have v41:=Mod.fresh' v34 v39 (fun y hy=>Or.inr (Own.lt ho31 y hy).1);refine yS 1 ?_;refine zz ?_;refine w_region ?_;refine yO 7 [.prop (0≤(IntKind.i64.wrap (r14+(((⟨#[x]⟩:ByteArray).size:Nat):Int)))∧(IntKind.i64.wrap (r14+(((⟨#[x]⟩:ByteArray).size:Nat):Int)))≤((rest2.size:Nat):Int))] (zh (by omega)) ?_;refine ze ?_;refine n_block ?_;obtain ⟨hr1,hq42⟩:=idx_some hi16 (by omega);have hts:(rest2.extract 0 r14.toNat).data.toList=rest2.data.toList.take r14.toNat:=by rw [Lib.extract_data];simp
 have hsx:(rest2.extract 0 r14.toNat).size=(rest2.data.toList.take r14.toNat).length:=by rw [←hts,dlen]
 have hln:((out3.length+(rest2.extract 0 r14.toNat).size)+(⟨#[]⟩:ByteArray).size)=(out3++rest2.data.toList.take r14.toNat).length:=by rw [List.length_append,hsx];rfl
 have ho43:=Own.cast ho38 (xs':=Lib.byteCells (out3++rest2.data.toList.take r14.toNat)) hln (by simp only [Lib.strCells,Lib.byteCells,hts,List.map_append];rw [show ((⟨#[]⟩:ByteArray).data.toList.map fun b=>Value.int .u8 b.toNat)=[] from rfl,List.append_nil]);have hdr:((rest2.extract (IntKind.i64.wrap (r14+(((⟨#[x]⟩:ByteArray).size:Nat):Int))).toNat rest2.size)).data.toList=rest2.data.toList.drop (r14.toNat+1):=by rw [Lib.extract_data,hwr0,show (r14+1).toNat=r14.toNat+1 from by omega];apply List.take_of_length_le;rw [List.length_drop,dlen];omega
 have hsd:((rest2.extract (IntKind.i64.wrap (r14+(((⟨#[x]⟩:ByteArray).size:Nat):Int))).toNat rest2.size)).size<rest2.size:=by
  have h1:=dlen ((rest2.extract (IntKind.i64.wrap (r14+(((⟨#[x]⟩:ByteArray).size:Nat):Int))).toNat rest2.size));have h2:=dlen rest2;rw [hdr,List.length_drop] at h1;omega
 rw [hln];exact l_back ((rest2.extract (IntKind.i64.wrap (r14+(((⟨#[x]⟩:ByteArray).size:Nat):Int))).toNat rest2.size),(out3++rest2.data.toList.take r14.toNat),ao35,cap36) [0,1,2,7] (by kernel_rfl) hsd ⟨by dsimp only;omega,v41,ho43,(by dsimp only;rw [hdr,List.append_assoc,←hq42];exact hx10)⟩
theorem remB_size(x:UInt8)(s:ByteArray):(remB x s).size≤s.size:=by
 rw [←dlen,←dlen];show (s.data.toList.filter fun b=>b !=x).length≤s.data.toList.length;exact List.length_filter_le _ _
def ncr1(B:Bd)(S:Ps)(M:Mv):ByteArray:=bif (((pieceAt B M.s1)==(1:Int))||(M.s1==(7:Int)))||(M.s2==(7:Int)) then remB 75 S.castle else S.castle
def ncr2(B:Bd)(S:Ps)(M:Mv):ByteArray:=bif (((pieceAt B M.s1)==(1:Int))||(M.s1==(0:Int)))||(M.s2==(0:Int)) then remB 81 (ncr1 B S M) else (ncr1 B S M)
def ncr3(B:Bd)(S:Ps)(M:Mv):ByteArray:=bif (((pieceAt B M.s1)==(7:Int))||(M.s1==(63:Int)))||(M.s2==(63:Int)) then remB 107 (ncr2 B S M) else (ncr2 B S M)
def ncr4(B:Bd)(S:Ps)(M:Mv):ByteArray:=bif (((pieceAt B M.s1)==(7:Int))||(M.s1==(56:Int)))||(M.s2==(56:Int)) then remB 113 (ncr3 B S M) else (ncr3 B S M)
def ncr(B:Bd)(S:Ps)(M:Mv):ByteArray:=bif (ncr4 B S M).toList==(⟨#[]⟩:ByteArray).toList then ⟨#[45]⟩ else ncr4 B S M
theorem bif_size{c:Bool}{x:UInt8}{s:ByteArray}{n:Nat}(h:s.size≤n):(bif c then remB x s else s).size≤n:=by
 cases c
 ·exact h
 exact Nat.le_trans (remB_size x s) h
theorem ncr1_size{B:Bd}{S:Ps}{M:Mv}{n:Nat}(h:S.castle.size≤n):(ncr1 B S M).size≤n:=bif_size h
theorem ncr2_size{B:Bd}{S:Ps}{M:Mv}{n:Nat}(h:S.castle.size≤n):(ncr2 B S M).size≤n:=bif_size (ncr1_size h)
theorem ncr3_size{B:Bd}{S:Ps}{M:Mv}{n:Nat}(h:S.castle.size≤n):(ncr3 B S M).size≤n:=bif_size (ncr2_size h)
def newEP(B:Bd)(S:Ps)(M:Mv):Int:=
 bif pType (pieceAt B M.s1) !=(6:Int) then (-1:Int) else
 bif ((S.turn==(1:Int))&&((band (bbSq M.s1) (71776119061217280:Int)) !=(0:Int)))&&((band (bbSq M.s2) (1095216660480:Int)) !=(0:Int)) then IntKind.i8.wrap (M.s2-(8:Int)) else
 bif ((S.turn==(2:Int))&&((band (bbSq M.s1) (65280:Int)) !=(0:Int)))&&((band (bbSq M.s2) (4278190080:Int)) !=(0:Int)) then IntKind.i8.wrap (M.s2+(8:Int)) else (-1:Int)
def newHalf(B:Bd)(S:Ps)(M:Mv):Int:=bif ((pType (pieceAt B M.s1))==(6:Int))||(hasTag M (4:Int)) then (0:Int) else IntKind.i64.wrap (S.half+(1:Int))
def newFull(S:Ps):Int:=bif S.turn==(2:Int) then IntKind.i64.wrap (S.full+(1:Int)) else S.full
def nextPs(B:Bd)(S:Ps)(M:Mv):Ps:=⟨updB B M,ncr B S M,newHalf B S M,newFull S,otherC S.turn,newEP B S M,hasTag M (16:Int)⟩
theorem c71{c:GC}{p b:Nat}{vm:Value}{S:Ps}{w:World}(hp:At w p (.cells (psCells b vm S) 110 (0,0))){B:Bd}(hb:At w b (.cells (bdCells B) 135 (0,0))){m:Nat}{pos:Value}{M:Mv}(hm:At w m (.cells (mvCells pos M) 98 (0,0)))(hG:Glob c w)(hcs:S.castle.size≤1000):
  Calls Tryz.prog 71 [pz p,pz m].toArray w (fun e w'=>e=.returned (.string (ncr B S M))∧Mod [] w w'):=by
 refine enter (n:=95) Tryz.func71 rfl Tryz.ntmps71 rfl ?_;refine zw ?_;refine yS 1 ?_;refine zx ?_;refine yL 5 p 1 ?_;refine zz ?_;refine w_seq ?_;refine w_qt ?_;refine yQo 8 [.cell ⟨p,0,none⟩ (pz b),.cell ⟨m,8,none⟩ (.int .i8 M.s1)] (fun _ hC=>⟨At.cell (At.on hp hC) rfl,At.cell (At.on hm hC) rfl⟩) ?_;refine zqk (some 19) (fun w_ hC=>c72 (At.on hb hC) (Glob.on hG hC) M.s1) ?_;refine yQ 1 ?_;refine q_ot ?_;intro w1 v2;refine n_then ?_;refine w_cut (γ:=ByteArray) (fun g8=>[(1,pz m),(5,.string g8),(6,.int .i8 (pieceAt B M.s1))]) (fun g8 w_=>Mod [] w1 w_∧g8=(ncr1 B S M)) ?_ ?_
 ·refine w_cut (γ:=Unit) (fun _=>[(1,pz m),(5,.string S.castle),(6,.int .i8 (pieceAt B M.s1)),(35,.bool ((((pieceAt B M.s1)==1)||(M.s1==7))||(M.s2==7)))]) (fun _ w_=>Mod [] w1 w_) ?_ ?_
  ·refine w_region ?_;refine yS 3 ?_;refine yE 22 (.bool ((pieceAt B M.s1)==(1:Int))) ?_;cases hc15:((pieceAt B M.s1)==(1:Int))
   ·refine yL 7 m 8 ?_;refine yE 29 (.bool (M.s1==(7:Int))) ?_;cases hc16:(M.s1==(7:Int))
    ·refine yL 6 m 9 ?_;refine ze ?_;exact zb () yt
    refine yS 6 ?_;refine ze ?_;exact zb () yt
   refine yS 13 ?_;refine ze ?_;exact zb () yt
  intro _ w12 v13;refine yC ((((pieceAt B M.s1)==1)||(M.s1==7))||(M.s2==7)) (fun hc23=>?_) fun hc23=>?_
  ·refine w_region ?_;refine yS 1 ?_;refine zk (some 37) (c96 S.castle 75 (by assumption)) ?_;intro w24 v25;refine yS 1 ?_;refine ze ?_;exact zb (remB 75 S.castle) ⟨yt,(by simp only [ncr1,hc23,cond_true,cond_false])⟩
  refine w_skip ?_;exact zb S.castle ⟨yt,(by simp only [ncr1,hc23,cond_true,cond_false])⟩
 rintro _ w9 ⟨v10,rfl⟩;refine w_cut (γ:=ByteArray) (fun g37=>[(1,pz m),(5,.string g37),(6,.int .i8 (pieceAt B M.s1))]) (fun g37 w_=>Mod [] w9 w_∧g37=(ncr2 B S M)) ?_ ?_
 ·refine w_cut (γ:=Unit) (fun _=>[(1,pz m),(5,.string (ncr1 B S M)),(6,.int .i8 (pieceAt B M.s1)),(53,.bool ((((pieceAt B M.s1)==1)||(M.s1==0))||(M.s2==0)))]) (fun _ w_=>Mod [] w9 w_) ?_ ?_
  ·refine w_region ?_;refine yS 3 ?_;refine yE 40 (.bool ((pieceAt B M.s1)==(1:Int))) ?_;cases hc44:((pieceAt B M.s1)==(1:Int))
   ·refine yL 7 m 8 ?_;refine yE 47 (.bool (M.s1==(0:Int))) ?_;cases hc45:(M.s1==(0:Int))
    ·refine yL 6 m 9 ?_;refine ze ?_;exact zb () yt
    refine yS 6 ?_;refine ze ?_;exact zb () yt
   refine yS 13 ?_;refine ze ?_;exact zb () yt
  intro _ w41 v42;refine yC ((((pieceAt B M.s1)==1)||(M.s1==0))||(M.s2==0)) (fun hc52=>?_) fun hc52=>?_
  ·have hsz1:(ncr1 B S M).size≤1000:=ncr1_size hcs;refine w_region ?_;refine yS 1 ?_;refine zk (some 55) (c96 (ncr1 B S M) 81 (by assumption)) ?_;intro w53 v54;refine yS 1 ?_;refine ze ?_;exact zb (remB 81 (ncr1 B S M)) ⟨yt,(by simp only [ncr2,hc52,cond_true,cond_false])⟩
  refine w_skip ?_;exact zb (ncr1 B S M) ⟨yt,(by simp only [ncr2,hc52,cond_true,cond_false])⟩
 rintro _ w38 ⟨v39,rfl⟩;refine w_cut (γ:=ByteArray) (fun g66=>[(1,pz m),(5,.string g66),(6,.int .i8 (pieceAt B M.s1))]) (fun g66 w_=>Mod [] w38 w_∧g66=(ncr3 B S M)) ?_ ?_
 ·refine w_cut (γ:=Unit) (fun _=>[(1,pz m),(5,.string (ncr2 B S M)),(6,.int .i8 (pieceAt B M.s1)),(71,.bool ((((pieceAt B M.s1)==7)||(M.s1==63))||(M.s2==63)))]) (fun _ w_=>Mod [] w38 w_) ?_ ?_
  ·refine w_region ?_;refine yS 3 ?_;refine yE 58 (.bool ((pieceAt B M.s1)==(7:Int))) ?_;cases hc73:((pieceAt B M.s1)==(7:Int))
   ·refine yL 7 m 8 ?_;refine yE 65 (.bool (M.s1==(63:Int))) ?_;cases hc74:(M.s1==(63:Int))
    ·refine yL 6 m 9 ?_;refine ze ?_;exact zb () yt
    refine yS 6 ?_;refine ze ?_;exact zb () yt
   refine yS 13 ?_;refine ze ?_;exact zb () yt
  intro _ w70 v71;refine yC ((((pieceAt B M.s1)==7)||(M.s1==63))||(M.s2==63)) (fun hc81=>?_) fun hc81=>?_
  ·have hsz2:(ncr2 B S M).size≤1000:=ncr2_size hcs;refine w_region ?_;refine yS 1 ?_;refine zk (some 73) (c96 (ncr2 B S M) 107 (by assumption)) ?_;intro w82 v83;refine yS 1 ?_;refine ze ?_;exact zb (remB 107 (ncr2 B S M)) ⟨yt,(by simp only [ncr3,hc81,cond_true,cond_false])⟩
  refine w_skip ?_;exact zb (ncr2 B S M) ⟨yt,(by simp only [ncr3,hc81,cond_true,cond_false])⟩
 rintro _ w67 ⟨v68,rfl⟩;refine w_cut (γ:=ByteArray) (fun g95=>[(5,.string g95)]) (fun g95 w_=>Mod [] w67 w_∧g95=(ncr4 B S M)) ?_ ?_
 ·refine w_cut (γ:=Unit) (fun _=>[(5,.string (ncr3 B S M)),(89,.bool ((((pieceAt B M.s1)==7)||(M.s1==56))||(M.s2==56)))]) (fun _ w_=>Mod [] w67 w_) ?_ ?_
  ·refine w_region ?_;refine yS 3 ?_;refine yE 76 (.bool ((pieceAt B M.s1)==(7:Int))) ?_;cases hc102:((pieceAt B M.s1)==(7:Int))
   ·refine yL 7 m 8 ?_;refine yE 83 (.bool (M.s1==(56:Int))) ?_;cases hc103:(M.s1==(56:Int))
    ·refine yL 6 m 9 ?_;refine ze ?_;exact zb () yt
    refine yS 6 ?_;refine ze ?_;exact zb () yt
   refine yS 13 ?_;refine ze ?_;exact zb () yt
  intro _ w99 v100;refine yC ((((pieceAt B M.s1)==7)||(M.s1==56))||(M.s2==56)) (fun hc110=>?_) fun hc110=>?_
  ·have hsz3:(ncr3 B S M).size≤1000:=ncr3_size hcs;refine w_region ?_;refine yS 1 ?_;refine zk (some 91) (c96 (ncr3 B S M) 113 (by assumption)) ?_;intro w111 v112;refine yS 1 ?_;refine ze ?_;exact zb (remB 113 (ncr3 B S M)) ⟨yt,(by simp only [ncr4,hc110,cond_true,cond_false])⟩
  refine w_skip ?_;exact zb (ncr3 B S M) ⟨yt,(by simp only [ncr4,hc110,cond_true,cond_false])⟩
 rintro _ w96 ⟨v97,rfl⟩;refine w_cut (γ:=ByteArray) (fun g124=>[(5,.string g124)]) (fun g124 w_=>Mod [] w96 w_∧g124=(ncr B S M)) ?_ ?_
 ·refine zw ?_;refine yS 2 ?_;refine zz ?_;refine yC ((ncr4 B S M).toList==(⟨#[]⟩:ByteArray).toList) (fun hc128=>?_) fun hc128=>?_
  ·refine w_region ?_;refine yS 1 ?_;refine ze ?_;exact zb (⟨#[45]⟩) ⟨yt,(by simp only [ncr,hc128,cond_true,cond_false])⟩
  refine w_skip ?_;exact zb (ncr4 B S M) ⟨yt,(by simp only [ncr,hc128,cond_true,cond_false])⟩
 rintro _ w125 ⟨v126,rfl⟩;refine zw ?_;refine yS 2 ?_;refine zz ?_;refine w_ret ?_;exact y1 (⟨rfl,yt⟩)
theorem c76{c:GC}{p b:Nat}{vm:Value}{S:Ps}{w:World}(hp:At w p (.cells (psCells b vm S) 110 (0,0))){B:Bd}(hb:At w b (.cells (bdCells B) 135 (0,0))){m:Nat}{pos:Value}{M:Mv}(hm:At w m (.cells (mvCells pos M) 98 (0,0)))(hG:Glob c w)(hs:0≤M.s1∧M.s1≤63)(hs2:0≤M.s2∧M.s2≤63):
  Calls Tryz.prog 76 [pz p,pz m].toArray w (fun e w'=>e=.returned (.int .i8 (newEP B S M))∧Mod [] w w'):=by
 refine enter (n:=74) Tryz.func76 rfl Tryz.ntmps76 rfl ?_;refine zw ?_;refine yS 1 ?_;refine zz ?_;refine w_seq ?_;refine w_qt ?_;refine yQo 8 [.cell ⟨p,0,none⟩ (pz b),.cell ⟨m,8,none⟩ (.int .i8 M.s1)] (fun _ hC=>⟨At.cell (At.on hp hC) rfl,At.cell (At.on hm hC) rfl⟩) ?_;refine zqk (some 14) (fun w_ hC=>c72 (At.on hb hC) (Glob.on hG hC) M.s1) ?_;refine yQ 1 ?_;refine q_ot ?_;intro w1 v2;refine n_then ?_;refine w_seq ?_;refine zw ?_;refine yS 1 ?_;refine zk (some 16) (c73 (pieceAt B M.s1) w1) ?_;intro w8 v9;refine yS 1 ?_;refine zz ?_;refine yC ((pType (pieceAt B M.s1)) !=6) (fun hc15=>?_) fun hc15=>?_
 ·refine zw ?_;refine yS 1 ?_;refine zz ?_;refine w_ret ?_;refine r_then ?_;exact ret1 rfl rfl (⟨ret_int (by simp only [newEP,hc15,cond_true,cond_false]),yt⟩)
 refine w_skip ?_;refine n_then ?_;refine w_seq ?_;refine w_cut (γ:=Unit) (fun _=>[(0,pz p),(1,pz m),(40,.bool (((S.turn==1)&&((band (bbSq M.s1) 71776119061217280) !=0))&&((band (bbSq M.s2) 1095216660480) !=0)))]) (fun _ w_=>Mod [] w8 w_) ?_ ?_
 ·refine w_region ?_;refine yL 6 p 5 ?_;refine yE 23 (.bool (S.turn==(1:Int))) ?_;cases hc19:(S.turn==(1:Int))
  ·refine yS 17 ?_;refine ze ?_;exact zb () yt
  refine yL 4 m 8 ?_;refine zk (some 28) (c99 M.s1 w8 (by omega) (by omega)) ?_;intro w20 v21;refine yS 4 ?_;refine yE 32 (.bool ((band (bbSq M.s1) (71776119061217280:Int)) !=(0:Int))) ?_;cases hc27:((band (bbSq M.s1) (71776119061217280:Int)) !=(0:Int))
  ·refine yS 8 ?_;refine ze ?_;exact zb () yt
  refine yL 4 m 9 ?_;refine zk (some 37) (c99 M.s2 w20 (by omega) (by omega)) ?_;intro w28 v29;refine yS 3 ?_;refine ze ?_;exact zb () yt
 intro _ w16 v17;refine yC (((S.turn==1)&&((band (bbSq M.s1) 71776119061217280) !=0))&&((band (bbSq M.s2) 1095216660480) !=0)) (fun hc40=>?_) fun hc40=>?_
 ·refine zw ?_;refine yL 6 m 9 ?_;refine zz ?_;refine w_ret ?_;refine r_then ?_;exact y1 (v:=.int .i8 (IntKind.i8.wrap (M.s2-8))) (⟨ret_int (by simp only [newEP,hc15,hc40,cond_true,cond_false]),yt⟩)
 refine w_cut (γ:=Unit) (fun _=>[(1,pz m),(68,.bool (((S.turn==2)&&((band (bbSq M.s1) 65280) !=0))&&((band (bbSq M.s2) 4278190080) !=0)))]) (fun _ w_=>Mod [] w16 w_) ?_ ?_
 ·refine w_region ?_;refine yL 6 p 5 ?_;refine yE 51 (.bool (S.turn==(2:Int))) ?_;cases hc44:(S.turn==(2:Int))
  ·refine yS 17 ?_;refine ze ?_;exact zb () yt
  refine yL 4 m 8 ?_;refine zk (some 56) (c99 M.s1 w16 (by omega) (by omega)) ?_;intro w45 v46;refine yS 4 ?_;refine yE 60 (.bool ((band (bbSq M.s1) (65280:Int)) !=(0:Int))) ?_;cases hc52:((band (bbSq M.s1) (65280:Int)) !=(0:Int))
  ·refine yS 8 ?_;refine ze ?_;exact zb () yt
  refine yL 4 m 9 ?_;refine zk (some 65) (c99 M.s2 w45 (by omega) (by omega)) ?_;intro w53 v54;refine yS 3 ?_;refine ze ?_;exact zb () yt
 intro _ w41 v42;refine yC (((S.turn==2)&&((band (bbSq M.s1) 65280) !=0))&&((band (bbSq M.s2) 4278190080) !=0)) (fun hc65=>?_) fun hc65=>?_
 ·refine zw ?_;refine yL 6 m 9 ?_;refine zz ?_;refine w_ret ?_;refine r_then ?_;exact y1 (v:=.int .i8 (IntKind.i8.wrap (M.s2+8))) (⟨ret_int (by simp only [newEP,hc15,hc40,hc65,cond_true,cond_false]),yt⟩)
 refine w_skip ?_;refine zn ?_;refine yS 1 ?_;refine zz ?_;refine w_ret ?_;exact y1 (v:=.int .i8 (-1:Int)) (⟨ret_int (by simp only [newEP,hc15,hc40,hc65,cond_true,cond_false]),yt⟩)
theorem c35{c:GC}{p b:Nat}{vm:Value}{S:Ps}{w:World}(hp:At w p (.cells (psCells b vm S) 110 (0,0))){B:Bd}(hb:At w b (.cells (bdCells B) 135 (0,0))){m:Nat}{pos:Value}{M:Mv}(hm:At w m (.cells (mvCells pos M) 98 (0,0)))(hG:Glob c w)(hs:0≤M.s1∧M.s1≤63)(hs2:0≤M.s2∧M.s2≤63)(hp1:1≤pieceAt B M.s1∧pieceAt B M.s1≤12)(hcol:pColor (pieceAt B M.s1)=1∨pColor (pieceAt B M.s1)=2)(hpro:M.promo≠0→1≤M.promo∧M.promo≤6)(hnew:M.promo≠0→1≤newP M.promo (pColor (pieceAt B M.s1))∧newP M.promo (pColor (pieceAt B M.s1))≤12)(hcs:S.castle.size≤1000):
  Calls Tryz.prog 35 [pz p,pz m].toArray w (fun e w'=>∃p' b',e=.returned (.pointer (some ⟨p',0,none⟩))∧Mod [] w w'∧At w' p' (.cells (psCells b' (.slice none 0 0) (nextPs B S M)) 110 (0,0))∧At w' b' (.cells (bdCells (updB B M)) 135 (0,0))∧w.heap.size≤p'∧w.heap.size≤b'):=by
 refine enter (n:=94) Tryz.func35 rfl Tryz.ntmps35 rfl ?_;refine zw ?_;refine yS 1 ?_;refine zx ?_;refine yL 5 p 4 ?_;refine zz ?_;refine w_cut (γ:=Int) (fun g1=>[(0,pz p),(1,pz m),(5,.int .i64 g1)]) (fun g1 w_=>Mod [] w w_∧g1=(newFull S)) ?_ ?_
 ·refine zw ?_;refine yL 5 p 5 ?_;refine zz ?_;refine yC (S.turn==2) (fun hc5=>?_) fun hc5=>?_
  ·have dhc5:=eq_of_beq hc5;refine w_region ?_;refine yS 3 ?_;refine ze ?_;exact zb (IntKind.i64.wrap (S.full+1)) ⟨yt,(by simp only [newFull,hc5,cond_true,cond_false])⟩
  have dhc5:=ne_of_beq_false hc5;refine w_skip ?_;exact zb S.full ⟨yt,(by simp only [newFull,hc5,cond_true,cond_false])⟩
 rintro _ w2 ⟨v3,rfl⟩;refine w_seq ?_;refine zw ?_;refine yS 2 ?_;refine zz ?_;refine yF ?_;refine w_skip ?_;refine zn ?_;refine yS 2 ?_;refine zk (some 47) (c71 (S:=S) (M:=M) (yA w2 p) (yA w2 b) (yA w2 m) (yG w2) hcs) ?_;intro w11 v12;refine yS 1 ?_;refine zz ?_;refine w_seq ?_;refine w_qt ?_;refine yQo 8 [.cell ⟨p,0,none⟩ (pz b),.cell ⟨m,8,none⟩ (.int .i8 M.s1)] (fun _ hC=>⟨At.cell (At.on ya hC) rfl,At.cell (At.on ya hC) rfl⟩) ?_;refine zqk (some 56) (fun w_ hC=>c72 (At.on (yA w11 b) hC) (Glob.on (yG w11) hC) M.s1) ?_;refine yQ 1 ?_;refine q_ot ?_;intro w18 v19;refine zn ?_;refine yL 5 p 3 ?_;refine zz ?_;refine w_cut (γ:=Int) (fun g25=>[(0,pz p),(1,pz m),(5,.int .i64 (newFull S)),(6,.string (ncr B S M)),(8,.int .i64 g25)]) (fun g25 w_=>Mod [] w18 w_∧g25=(newHalf B S M)) ?_ ?_
 ·refine w_cut (γ:=Unit) (fun _=>[(0,pz p),(1,pz m),(5,.int .i64 (newFull S)),(6,.string (ncr B S M)),(8,.int .i64 S.half),(67,.bool (((pType (pieceAt B M.s1))==6)||(hasTag M 4)))]) (fun _ w_=>Mod [] w18 w_) ?_ ?_
  ·refine w_region ?_;refine yS 1 ?_;refine zk (some 62) (c73 (pieceAt B M.s1) w18) ?_;intro w32 v33;refine yS 2 ?_;refine yE 64 (.bool ((pType (pieceAt B M.s1))==(6:Int))) ?_;cases hc40:((pType (pieceAt B M.s1))==(6:Int))
   ·refine yS 1 ?_;refine zk (some 66) (c74 (yA w32 m) 4) ?_;intro w41 v42;refine yS 1 ?_;refine ze ?_;exact zb () yt
   refine yS 3 ?_;refine ze ?_;exact zb () yt
  intro _ w29 v30;refine yC (((pType (pieceAt B M.s1))==6)||(hasTag M 4)) (fun hc55=>?_) fun hc55=>?_
  ·refine w_region ?_;refine yS 1 ?_;refine ze ?_;exact zb 0 ⟨yt,(by simp only [newHalf,hc55,cond_true,cond_false])⟩
  refine w_region ?_;refine yS 3 ?_;refine ze ?_;exact zb (IntKind.i64.wrap (S.half+1)) ⟨yt,(by simp only [newHalf,hc55,cond_true,cond_false])⟩
 rintro _ w26 ⟨v27,rfl⟩;have v60:=zt (yM w w18) v27;refine zw ?_;refine yL 4 p 0 ?_;refine zC (some 74) (c69 (yA w26 b)) ?_;rintro _ w61 ⟨b63,rfl,v62,u64,hb65⟩;refine ⟨_,rfl,?_⟩;have hb66:=Nat.le_trans v60.size hb65;have hb67:=Nat.le_trans (Glob.size) hb65;have ne68:b≠b63:=(by have:=At.lt (yA w26 b);omega);have u69:=At.on (yA w26 p) v62;have u70:=At.on (yA w26 b) v62;have u71:=At.on (yA w26 m) v62;have z72:=Glob.on (yG w26) v62;have v73:=zt v60 v62;refine yS 1 ?_;refine zx ?_;refine yS 2 ?_;refine zC (some 77) (c75 (M:=M) u64 u71 z72 (by assumption) (by assumption) (by assumption) (by assumption) (by assumption) (by assumption) (by omega)) ?_;rintro _ w74 ⟨rfl,v75,u76⟩;refine ⟨_,rfl,?_⟩;have u77:=At.keep u69 v75 (not_mem1 (At.ne u69 u64 rfl));have u78:=At.keep u70 v75 (not_mem1 ne68);have u79:=At.keep u71 v75 (not_mem1 (At.ne u71 u64 rfl));have z80:=Glob.keep z72 v75 (by simp<;>omega);have v81:=Mod.fresh' v73 v75 (by simp<;>omega);refine zx ?_;refine yL 5 p 5 ?_;refine zk (some 83) (c70 S.turn w74) ?_;intro w82 v83;have u84:=At.on u77 v83;have u85:=At.on u78 v83;have u86:=At.on u79 v83;have u87:=At.on u76 v83;have z88:=Glob.on z80 v83;have v89:=zt v81 v83;refine yS 3 ?_;refine zk (some 87) (c76 (S:=S) (M:=M) u84 u85 u86 z88 hs hs2) ?_;intro w90 v91;have u92:=At.on u84 v91;have u94:=At.on u86 v91;have u95:=At.on u87 v91;have z96:=Glob.on z88 v91;have v97:=zt v89 v91;refine yS 3 ?_;refine zk (some 91) (c74 u94 16) ?_;intro w98 v99;have u100:=At.on u92 v99;have u103:=At.on u95 v99;have z104:=Glob.on z96 v99;have v105:=zt v97 v99;refine yS 1 ?_;refine zA (psCells b63 (.slice none 0 0) (nextPs B S M)) 110 (some 93) ?_;intro b106 w107 hn108;have ne109:p≠b106:=hn108.ne u100;have hb110:c.base≤b106:=Glob.lt z104 hn108;have hb111:=Nat.le_trans v105.size hn108.base;have v112:=hn108.mod;have u116:=At.on u103 v112;have v118:=zt v105 v112;have u119:=hn108.at_;refine yS 1 ?_;refine zz ?_;refine w_ret ?_;exact y1 (⟨b106,b63,rfl,v118,u119,u116,by omega,by omega⟩)
theorem wrapU8{x:Int}(h:0≤x)(h':x≤255):IntKind.u8.wrap x=x:=by
 rw [IntKind.wrap_u8'];omega
theorem sq_rank{a:Int}(h:0≤a∧a≤63):sqRank a=a/8:=by
 unfold sqRank;rw [Int.tdiv_eq_ediv_of_nonneg h.1];exact i8_in' (by omega) (by omega)
theorem sq_file{a:Int}(h:0≤a∧a≤63):sqFile a=a%8:=Int.tmod_eq_emod_of_nonneg h.1
def bstr(l:List UInt8):ByteArray:=⟨l.toArray⟩
theorem bstr_size(l:List UInt8):(bstr l).size=l.length:=rfl
theorem bstr_append(a b:List UInt8):bstr a++bstr b=bstr (a++b):=by
 apply ByteArray.ext;rw [ByteArray.data_append];apply Array.ext';simp [bstr]
def fB(s:Int):UInt8:=UInt8.ofNat (97+s%8).toNat
def rB(s:Int):UInt8:=UInt8.ofNat (49+s/8).toNat
theorem fB_cells{s:Int}(h:0≤s∧s≤63):#[Value.int .u8 (IntKind.u8.wrap ((97:Int)+(s%(8:Int))))]=(Lib.byteCells [fB s]).toArray:=by
 have e:=u8_ofNat (x:=97+s%8) (by omega);rw [wrapU8 (by omega) (by omega)];unfold fB;simp only [Lib.byteCells,List.map_cons,List.map_nil];rw [e]
theorem rB_cells{s:Int}(h:0≤s∧s≤63):#[Value.int .u8 (IntKind.u8.wrap ((49:Int)+(s/(8:Int))))]=(Lib.byteCells [rB s]).toArray:=by
 have e:=u8_ofNat (x:=49+s/8) (by omega);rw [wrapU8 (by omega) (by omega)];unfold rB;simp only [Lib.byteCells,List.map_cons,List.map_nil];rw [e]
theorem sqBytes_eq{s:Int}(h:0≤s∧s≤63):sqBytes s=[fB s,rB s]:=by
 unfold sqBytes fB rB;rw [sq_file h,sq_rank h]
theorem ret_str{a b:ByteArray}(h:a=b):Ending.returned (.string a)=.returned (.string b):=by rw [h]
theorem c107{w:World}(s:Int)(hs:0≤s∧s≤63):
  Calls Tryz.prog 107 [.int .i64 s].toArray w (fun e w'=>e=.returned (.string (bstr [fB s]))∧Mod [] w w'):=by
 refine enter (n:=9) Tryz.func107 rfl Tryz.ntmps107 rfl ?_;refine zw ?_;refine yS 1 ?_;refine zx ?_;refine yO 2 [.prop ((8:Int)≠0)] (show (8:Int)≠0 from (by omega)) ?_;refine yW 4 (zm s 8 (by omega)) ?_;refine yS 1 ?_;refine yW 5 (zi ((97:Int)+(s%(8:Int))) (by omega) (by omega)) ?_;refine yS 1 ?_;refine reg_bslice (#[.int .u8 (IntKind.u8.wrap ((97:Int)+(s%(8:Int))))]) 5 1 (some 7) (by kernel_rfl) ?_;intro b1 w2 hn3;have hf9:=at_cast (yA w2 b1) (congrArg (fun A=>Obj.cells A 5 (0,0)) (fB_cells hs));have ho10:Own w2 b1 5 1 (some ⟨b1,0,none⟩) 1 1 (Lib.byteCells [fB s]):=own_of_at hf9 (Nat.le_refl _) rfl (by decide);refine reg_b2s (some ⟨b1,0,none⟩) 1 1 [fB s] (some 8) 5 (by kernel_rfl) ho10 ?_;refine yS 1 ?_;refine zz ?_;refine w_ret ?_;exact y1 (⟨rfl,yt⟩)
theorem c109{w:World}(s:Int)(hs:0≤s∧s≤63):
  Calls Tryz.prog 109 [.int .i64 s].toArray w (fun e w'=>e=.returned (.string (bstr [rB s]))∧Mod [] w w'):=by
 refine enter (n:=9) Tryz.func109 rfl Tryz.ntmps109 rfl ?_;refine zw ?_;refine yS 1 ?_;refine zx ?_;refine yO 2 [.prop ((8:Int)≠0)] (show (8:Int)≠0 from (by omega)) ?_;refine yW 4 (zdw s 8 (by omega) (by omega)) ?_;refine yS 1 ?_;refine yW 5 (zi ((49:Int)+(s/(8:Int))) (by omega) (by omega)) ?_;refine yS 1 ?_;refine reg_bslice (#[.int .u8 (IntKind.u8.wrap ((49:Int)+(s/(8:Int))))]) 5 1 (some 7) (by kernel_rfl) ?_;intro b1 w2 hn3;have hf9:=at_cast (yA w2 b1) (congrArg (fun A=>Obj.cells A 5 (0,0)) (rB_cells hs));have ho10:Own w2 b1 5 1 (some ⟨b1,0,none⟩) 1 1 (Lib.byteCells [rB s]):=own_of_at hf9 (Nat.le_refl _) rfl (by decide);refine reg_b2s (some ⟨b1,0,none⟩) 1 1 [rB s] (some 8) 5 (by kernel_rfl) ho10 ?_;refine yS 1 ?_;refine zz ?_;refine w_ret ?_;exact y1 (⟨rfl,yt⟩)
theorem c89{w:World}(s:Int)(hs:0≤s∧s≤63):
  Calls Tryz.prog 89 [.int .i64 s].toArray w (fun e w'=>e=.returned (.string (bstr [fB s,rB s]))∧Mod [] w w'):=by
 refine enter (n:=14) Tryz.func89 rfl Tryz.ntmps89 rfl ?_;refine zw ?_;refine yS 1 ?_;refine zz ?_;refine w_seq ?_;refine w_cut (γ:=Unit) (fun _=>[(0,.int .i64 s),(8,.bool ((decide (s<0))||(decide (s>63))))]) (fun _ w_=>Mod [] w w_) ?_ ?_
 ·refine w_region ?_;refine yS 3 ?_;refine yE 5 (.bool (decide (s<(0:Int)))) ?_;cases hc4:(decide (s<(0:Int)))
  ·have dhc4:=hc4;try simp only [zbq] at dhc4
   refine yS 3 ?_;refine ze ?_;exact zb () yt
  have dhc4:=hc4;try simp only [zbq] at dhc4
  refine yS 3 ?_;refine ze ?_;exact zb () yt
 intro _ w1 v2;have hc7:((decide (s<0))||(decide (s>63)))=false:=(by simp only [Bool.or_eq_false_iff,decide_eq_false_iff_not];omega);refine w_cond (b:=((decide (s<0))||(decide (s>63)))) (by kernel_rfl) (fun hx=>absurd (hc7.symm.trans hx) (by decide)) (fun _=>?_);refine w_skip ?_;refine zn ?_;refine yS 1 ?_;refine zk (some 10) (c107 s (by omega)) ?_;intro w8 v9;refine yS 1 ?_;refine zk (some 12) (c109 s (by omega)) ?_;intro w12 v13;refine yO 2 [.prop (((bstr [fB s]).size+(bstr [rB s]).size:Nat)≤9223372036854775807)] (zh (by first|omega|assumption|decide|(simp only [ByteArray.size_append,bstr_size,List.length_cons,List.length_nil,List.length_append];omega))) ?_;refine zz ?_;refine w_ret ?_;exact ret1 rfl rfl (⟨ret_str (bstr_append _ _),yt⟩)
theorem idle26(p q:Value)(w:World):
  CallsD Tryz.prog 26 #[p,q] .returning w fun e u' w'=>e=.returned (.tuple #[])∧u'=.returning∧w'=w:=by
 refine callsD_of_wpS Tryz.func26 rfl fun c₀ cs hu=>?_;apply wpS_seq;apply wpS_region;simp [wpOpsS,go_sem,recoverD,hu,Tryz.ntmps26,Exit.thenS];refine wpS_cond (t:=false) (by simp [Act.eval,Array.replicate]) ?_;simp only [Bool.false_eq_true,if_false];refine wpS_of_wp (wp_skip ?_);cases c₀;simp_all [bodyPostS,results,Tryz.results26,Exit.thenS]
theorem idle30(p q r:Value)(w:World):
  CallsD Tryz.prog 30 #[p,q,r] .returning w fun e u' w'=>e=.returned (.tuple #[])∧u'=.returning∧w'=w:=by
 refine callsD_of_wpS Tryz.func30 rfl fun c₀ cs hu=>?_;apply wpS_seq;apply wpS_region;simp [wpOpsS,go_sem,recoverD,hu,Tryz.ntmps30,Exit.thenS];refine wpS_cond (t:=false) (by simp [Act.eval,Array.replicate]) ?_;simp only [Bool.false_eq_true,if_false];refine wpS_of_wp (wp_skip ?_);cases c₀;simp_all [bodyPostS,results,Tryz.results30,Exit.thenS]
section
variable{P:Program}{n:Nat}{D:List Deferred}{ops:Array Oper}{Q:Exit→Act→World→Prop}{L:List (Nat×Value)}{w:World}
theorem enterD{f:FuncId}{fn:Func}{c:Code}{vs:List Value}{R:Ending→World→Prop}(hf:P.funcs[f]?=some fn)(hb:fn.body=some c)(hn:fn.ntmps=n)(hlen:Nat.ble vs.length n=true)
  (h:W P n [] c (bodyPostD P fn R) (regs 0 vs) w):Calls P f vs.toArray w R:=by
 refine calls_of_wp_defers hf hb (h _ ?_);have hlen:=Nat.le_of_ble_eq_true hlen;refine ⟨by simp;omega,fun i v hi=>?_,rfl⟩;obtain ⟨_,h2⟩:=look_regs vs 0 i v hi;have hlt:i<vs.length:=by have:=(List.getElem?_eq_some_iff.1 h2).1;omega
 rw [Array.getElem?_append_left (by simpa using hlt)];simpa using h2
theorem reg_defer{k:Nat}{o:Oper}(d:Deferred)(ho:ops.toList[k]?=some o)(hw:wantedL ops.toList L o=some true)(hd:o.dst=none)(hkn:(knownAll L o.op.operands.toList&&!isSelect o.op)=true)
  (hrun:(execOp (evT L) o).run P w=.ok (.defer d) w)(hk:Reg P n (d::D) ops Q (k+1) L w):Reg P n D ops Q k L w:=by
 intro a ha;have e:ops.toList.drop k=o::ops.toList.drop (k+1):=by
  have hlt:k<ops.toList.length:=(List.getElem?_eq_some_iff.1 ho).1;rw [List.drop_eq_getElem_cons hlt];congr 1;exact (List.getElem?_eq_some_iff.1 ho).2
 have hx:execOp a.eval o=execOp (evT L) o:=by
  simp only [Bool.and_eq_true,Bool.not_eq_true'] at hkn;refine execOp_congr o (fun cs b e=>?_) fun x hx=>known_agrees ha.agrees hkn.1 x (by simpa using hx);rw [e] at hkn;simp [isSelect] at hkn
 rw [e];simp only [wpList,wantedL_spec ha hw,if_true];refine .inl ?_;simp only [Oper.wp,hx,hrun,Oper.upon];refine hk _ ⟨?_,fun i v hi=>?_,?_⟩
 ·simp [Act.put,hd,ha.size]
 ·simpa [Act.put,hd] using ha.get i v hi
 simp [Act.put,hd,ha.defers]
end
def def26(p q:Value):Deferred:={target:=.fn (.func 26) #[p,q],args:=#[]}
def def30(p q r:Value):Deferred:={target:=.fn (.func 30) #[p,q,r],args:=#[]}
theorem leave26{fn:Func}{tmps:Array Value}{R:Ending→World→Prop}{p q v:Value}{w:World}(h:(results fn tmps).run Tryz.prog w=.ok v w)(hR:R (.returned v) w):
  Leaves Tryz.prog fn tmps R [def26 p q] .returning w:=by
 refine leaves_cons (f:=26) (args:=#[p,q]) (by simp) (by kernel_rfl) ((idle26 p q w).mono ?_);rintro e u' w' ⟨rfl,rfl,rfl⟩;exact ⟨v,h,hR⟩
theorem leave30{fn:Func}{tmps:Array Value}{R:Ending→World→Prop}{p q r v:Value}{w:World}(h:(results fn tmps).run Tryz.prog w=.ok v w)(hR:R (.returned v) w):
  Leaves Tryz.prog fn tmps R [def30 p q r] .returning w:=by
 refine leaves_cons (f:=30) (args:=#[p,q,r]) (by simp) (by kernel_rfl) ((idle30 p q r w).mono ?_);rintro e u' w' ⟨rfl,rfl,rfl⟩;exact ⟨v,h,hR⟩
section
variable{P:Program}{n:Nat}{D:List Deferred}{ops:Array Oper}{L:List (Nat×Value)}
end
section
variable{n:Nat}{L:List (Nat×Value)}{fn:Func}{R:Ending→World→Prop}{w:World}
theorem retD26{t u T U:Nat}{ad bd:Addr}{p q v v':Value}(hr:fn.results=#[.cell t T,.cell u U])(ht:look L t=some (.pointer (some ad)))(hu:look L u=some (.pointer (some bd)))
  (hT:isAggT Tryz.prog T=some false)(hU:isAggT Tryz.prog U=some false)(h1:w.cell? ad=some v)(h2:w.cell? bd=some v')(hR:R (.returned (.tuple #[v,v'])) w)(a:Act)(ha:Hold n L [def26 p q] a):
  bodyPostD Tryz.prog fn R .ret a w:=by
 show Leaves Tryz.prog fn a.tmps R a.defers .returning w;rw [ha.defers];exact leave26 (v:=.tuple #[v,v']) (by simp [results,hr,ha.get _ _ ht,ha.get _ _ hu,asAddr,loadVar,runAgg hT,runAgg hU,h1,h2]) hR
theorem retD30{t u x T U X m:Nat}{ad bd cd:Addr}{p q r v v':Value}{cs:Array Value}(hr:fn.results=#[.cell t T,.cell u U,.cell x X])(ht:look L t=some (.pointer (some ad)))(hu:look L u=some (.pointer (some bd)))(hx:look L x=some (.pointer (some cd)))
  (hT:isAggT Tryz.prog T=some true)(hm:sizeT Tryz.prog T=some m)(hU:isAggT Tryz.prog U=some false)(hX:isAggT Tryz.prog X=some false)(h1:(Ob.row ad m cs).holds w)(h2:w.cell? bd=some v)(h3:w.cell? cd=some v')
  (hR:R (.returned (.tuple #[.agg cs,v,v'])) w)(a:Act)(ha:Hold n L [def30 p q r] a):bodyPostD Tryz.prog fn R .ret a w:=by
 show Leaves Tryz.prog fn a.tmps R a.defers .returning w;rw [ha.defers];exact leave30 (v:=.tuple #[.agg cs,v,v']) (by simp [results,hr,ha.get _ _ ht,ha.get _ _ hu,ha.get _ _ hx,asAddr,loadVar,runAgg hT,runAgg hU,runAgg hX,runSize hm,run_loadCells h1,h2,h3]) hR
end
section
variable{P:Program}{n:Nat}{D:List Deferred}{ops:Array Oper}{Q:Exit→Act→World→Prop}{w:World}{L:List (Nat×Value)}
theorem exec_known{o:Oper}(hkn:(knownAll L o.op.operands.toList&&!isSelect o.op)=true){a:Act}(ha:Hold n L D a):execOp a.eval o=execOp (evT L) o:=by
 simp only [Bool.and_eq_true,Bool.not_eq_true'] at hkn;refine execOp_congr o (fun cs b e=>?_) fun x hx=>known_agrees ha.agrees hkn.1 x (by simpa using hx);rw [e] at hkn;simp [isSelect] at hkn
theorem a_takeR{f:Nat}{ls:List Nat}(i:Nat)(v:Value){o:Oper}(ho:ops.toList[i]?=some o)(hw:wantedL ops.toList L o=some true)(hd:dstOk o.dst n=true)(hkn:(knownAll L o.op.operands.toList&&!isSelect o.op)=true)
  (hrun:∀w',(execOp (evT L) o).run P w'=.ok (.value v) w')(hB:takeB ops ls i=true)(hk:AReg P n D ops Q f (i::ls) (setD o.dst v L) w):AReg P n D ops Q (f+1) ls L w:=by
 intro a ha;simp only [takeB,Bool.and_eq_true] at hB;refine wpAny_take (by simpa using ho) hB.1 hB.2.1 hB.2.2 (v:=v) (fun c a w hq=>hq) (.inl ⟨wantedL_spec ha hw,fun w=>?_⟩) (hk _ (ha.setD hd v));rw [exec_known hkn ha];exact hrun w
theorem a_enter{k:Nat}{ls:List Nat}(i:Nat)(f:FuncId)(vs:List Value){o:Oper}(ho:ops.toList[i]?=some o)(hw:wantedL ops.toList L o=some true)(hd:dstOk o.dst n=true)(hkn:(knownAll L o.op.operands.toList&&!isSelect o.op)=true)
  (hrun:(execOp (evT L) o).run P w=.ok (.enter f vs.toArray) w)(hr:Region.ready .any ops (lstd ops ls)=[i]){R:Ending→World→Prop}(hc:Calls P f vs.toArray w R)
  (hk:∀x w2,R x w2→∃v,x=.returned v∧AReg P n D ops Q k (i::ls) (setD o.dst v L) w2):AReg P n D ops Q (k+1) ls L w:=by
 intro a ha;refine wpAny_all hr (by simp) fun j hj=>?_;rw [List.mem_singleton] at hj;subst hj;have ho':ops[j]?=some o:=by simpa using ho
 unfold wpOp;simp only [ho',wantedL_spec ha hw,if_true];refine .inl ?_;simp only [Oper.wp,exec_known hkn ha,hrun,Oper.upon];refine hc.mono fun x w2 hR=>?_;obtain ⟨v,rfl,hv⟩:=hk x w2 hR;exact hv _ (ha.setD hd v)
theorem a_both{k:Nat}{ls:List Nat}(i j:Nat)(f:FuncId)(vs:List Value)(dst:Option Nat)(h:callAt P n ops.toList i L=some (f,vs,dst))(v':Value)(dst':Option Nat)(obs:List Ob)(rs:List Value)(h':pureAt P n ops.toList j L rs=some (v',dst',obs))
  (hr:Region.ready .any ops (lstd ops ls)=[i,j]){R:Ending→World→Prop}(hc:Calls P f vs.toArray w R)(ho':Obs w obs)
  (hk:∀x w2,R x w2→∃v,x=.returned v∧AReg P n D ops Q k (i::ls) (setD dst v L) w2)(hk':AReg P n D ops Q k (j::ls) (setD dst' v' L) w):AReg P n D ops Q (k+1) ls L w:=by
 intro a ha;refine wpAny_all hr (by simp) fun q hq=>?_;rcases List.mem_cons.1 hq with rfl|hq
 ·obtain ⟨o,ho,hdst,hd,hw,hrun⟩:=callAt_spec (ops:=ops) h ha;have ho2:ops[q]?=some o:=by simpa using ho
  unfold wpOp;simp only [ho2,hw,if_true];refine .inl ?_;simp only [Oper.wp,hrun,Oper.upon];refine hc.mono fun x w2 hR=>?_;obtain ⟨v,rfl,hv⟩:=hk x w2 hR;have:=hv _ (ha.setD hd v);rw [←hdst] at this;exact this
 rw [List.mem_singleton] at hq;subst hq;exact a_op h' (Obs.all ho') hk' ha
end
theorem shl1_bit(x:Int)(i:Nat)(hi:i<64):(V (shlU x 1)).getLsbD i=(decide (0<i)&&(V x).getLsbD (i-1)):=by
 rw [V_shlU x (by decide),BitVec.getLsbD_shiftLeft];simp only [hi,decide_true,Bool.true_and,show (1:Int).toNat=1 from rfl];by_cases h:i<1
 ·simp [h,show ¬0<i by omega]
 ·simp [h,show 0<i by omega]
theorem V_one_bit(i:Nat)(hi:i<64):(V 1).getLsbD i=decide (i=0):=by revert i;decide
theorem bbAcc_bit(f:Int→Int)(p:Int):∀n:Nat,n≤64→∀i,i<64→(V (bbAcc f p n)).getLsbD i=(decide (i<n)&&((f ((n-1-i:Nat):Int) !=(0:Int))&&(p==f ((n-1-i:Nat):Int))))
 |0,_,i,_=>by simp [bbAcc]
 |n+1,hn,i,hi=>by
  have ih:=bbAcc_bit f p n (by omega);by_cases h0:i=0
  ·subst h0;simp only [show 0<n+1 by omega,decide_true,Bool.true_and,show n+1-1-0=n by omega];unfold bbAcc;cases h:((f (n:Int) !=(0:Int))&&(p==f (n:Int)))
   ·simp only [cond_false];rw [shl1_bit _ 0 (by decide)];simp
   ·simp only [cond_true];rw [V_bor,BitVec.getLsbD_or,V_one_bit 0 (by decide)];simp
  ·have e1:(V (shlU (bbAcc f p n) 1)).getLsbD i=(decide (i<n+1)&&((f ((n+1-1-i:Nat):Int) !=(0:Int))&&(p==f ((n+1-1-i:Nat):Int)))):=by
    rw [shl1_bit _ i hi,ih (i-1) (by omega),show n-1-(i-1)=n+1-1-i by omega];simp only [show 0<i by omega,decide_true,Bool.true_and];congr 1;rw [decide_eq_decide];omega
   rw [←e1];have e0:bbAcc f p (n+1)=bif (f (n:Int) !=(0:Int))&&(p==f (n:Int)) then bor (shlU (bbAcc f p n) (1:Int)) (1:Int) else shlU (bbAcc f p n) (1:Int):=rfl
   rw [e0];cases ((f (n:Int) !=(0:Int))&&(p==f (n:Int)))
   ·rfl
   ·simp only [cond_true];rw [V_bor,BitVec.getLsbD_or,V_one_bit i hi];simp [h0]
theorem U_bbAcc(f:Int→Int)(p:Int):∀n:Nat,U64 (bbAcc f p n)
 |0=>by unfold U64;simp [bbAcc]
 |n+1=>by
  unfold bbAcc;cases ((f (n:Int) !=(0:Int))&&(p==f (n:Int)))
  ·exact U_shlU _ _
  ·exact U_bor _ _
theorem sb_bbAcc(f:Int→Int)(p:Int){s:Nat}(hs:s<64):sb (bbAcc f p 64) s=((f (s:Int) !=(0:Int))&&(p==f (s:Int))):=by
 unfold sb;rw [bbAcc_bit f p 64 (by decide) _ (by omega)];simp only [show 63-s<64 by omega,decide_true,Bool.true_and,show 64-1-(63-s)=s by omega]
structure BBits(B:Bd)(bd:Nat→Int):Prop where
 u:∀k,U64 (B.bb k)
 bit:∀k:Nat,1≤k→k≤12→∀s,s<64→sb (B.bb k) s=(bd s==(k:Int))
theorem calc_rep{B:Bd}{bd:Nat→Int}(h:BBits B bd)(hr:∀s,s<64→0≤bd s∧bd s≤12):BRep (calcB B) bd:=by
 have hw:∀s,s<64→sb (bwhite B) s=(decide (1≤bd s)&&decide (bd s≤6)):=by
  intro s hs;unfold bwhite;simp only [sb_bor];rw [h.bit 1 (by decide) (by decide) s hs,h.bit 2 (by decide) (by decide) s hs,h.bit 3 (by decide) (by decide) s hs,h.bit 4 (by decide) (by decide) s hs,h.bit 5 (by decide) (by decide) s hs,h.bit 6 (by decide) (by decide) s hs,Bool.eq_iff_iff];simp only [Bool.or_eq_true,beq_iff_eq,Bool.and_eq_true,decide_eq_true_eq];omega
 have hb:∀s,s<64→sb (bblack B) s=decide (7≤bd s):=by
  intro s hs;have:=hr s hs;unfold bblack;simp only [sb_bor];rw [h.bit 7 (by decide) (by decide) s hs,h.bit 8 (by decide) (by decide) s hs,h.bit 9 (by decide) (by decide) s hs,h.bit 10 (by decide) (by decide) s hs,h.bit 11 (by decide) (by decide) s hs,h.bit 12 (by decide) (by decide) s hs,Bool.eq_iff_iff];simp only [Bool.or_eq_true,beq_iff_eq,decide_eq_true_eq];omega
 refine ⟨h.u,h.bit,U_bor _ _,U_bor _ _,U_bnot _,hw,hb,fun s hs=>?_,hr⟩;have:=hr s hs;show sb (bnot (bor (bwhite B) (bblack B))) s=_;rw [sb_bnot _ hs,sb_bor,hw s hs,hb s hs,Bool.eq_iff_iff];simp only [Bool.not_eq_true',Bool.or_eq_false_iff,Bool.and_eq_false_iff,decide_eq_false_iff_not,beq_iff_eq];omega
theorem kings_rep{B:Bd}{bd:Nat→Int}(h:BRep B bd)(a b:Int):BRep {B with wk:=a,bk:=b} bd:=⟨h.u,h.bit,h.uw,h.ub,h.ue,h.white,h.black,h.empty,h.rng⟩
theorem boardOf_rep{bd:Nat→Int}(hr:∀s,s<64→0≤bd s∧bd s≤12):BRep (boardOf bd) bd:=by
 have hb:BBits (nbTo (mpTo bd 64) 12) bd:=by
  refine ⟨fun k=>?_,fun k h1 h2 s hs=>?_⟩
  ·show U64 (if 1≤k∧(k:Int)≤12 then bbAcc (mpTo bd 64) (k:Int) 64 else 0);split
   ·exact U_bbAcc _ _ _
   ·unfold U64;omega
  ·show sb (if 1≤k∧(k:Int)≤12 then bbAcc (mpTo bd 64) (k:Int) 64 else 0) s=_;rw [if_pos ⟨h1,by omega⟩,sb_bbAcc _ _ hs];have e:mpTo bd 64 (s:Int)=bd s:=by unfold mpTo;rw [if_pos (by omega)];simp
   rw [e,Bool.eq_iff_iff];simp only [Bool.and_eq_true,bne_iff_ne,beq_iff_eq];constructor
   ·rintro ⟨_,h⟩;exact h.symm
   ·intro h;exact ⟨by omega,h.symm⟩
 exact kings_rep (calc_rep hb hr) _ _
def OnlyAt(bd:Nat→Int)(p:Int)(k:Nat):Prop:=k<64∧bd k=p∧∀s,s<64→bd s=p→s=k
theorem countTo_mono(bd:Nat→Int)(p:Int):∀{m n:Nat},m≤n→countTo bd p m≤countTo bd p n
 |m,0,h=>by
  have:m=0:=by omega
  subst this;exact Int.le_refl _
 |m,n+1,h=>by
  by_cases e:m=n+1
  ·subst e;exact Int.le_refl _
  ·have:=countTo_mono bd p (m:=m) (n:=n) (by omega);have h2:countTo bd p n≤countTo bd p (n+1):=by
    conv=>rhs;unfold countTo
    split<;>omega
   omega
theorem countTo_two{bd:Nat→Int}{p:Int}{a b n:Nat}(hab:a<b)(hbn:b<n)(ha:bd a=p)(hb:bd b=p):2≤countTo bd p n:=by
 have h1:countTo bd p (a+1)=countTo bd p a+1:=by show (if bd a=p then _ else _)=_;rw [if_pos ha]
 have h2:countTo bd p (b+1)=countTo bd p b+1:=by show (if bd b=p then _ else _)=_;rw [if_pos hb]
 have h3:=countTo_mono bd p (m:=a+1) (n:=b) (by omega);have h4:=countTo_mono bd p (m:=b+1) (n:=n) (by omega);have h5:=(countTo_le bd p a).1;omega
theorem kingTo_at{bd:Nat→Int}{p:Int}:∀{n:Nat},kingTo bd p n≠-1→bd (kingTo bd p n).toNat=p
 |0,h=>absurd rfl h
 |n+1,h=>by
  unfold kingTo at h⊢;by_cases hk:kingTo bd p n=-1
  ·rw [if_pos hk] at h⊢;by_cases hb:bd n=p
   ·rw [if_pos hb];simpa using hb
   ·rw [if_neg hb] at h;exact absurd rfl h
  ·rw [if_neg hk];exact kingTo_at hk
theorem only_of_count{bd:Nat→Int}{sd:Int}(h:countS bd (1+6*sd)=1):OnlyAt bd (1+6*sd) (kingAtS bd sd).toNat∧0≤kingAtS bd sd:=by
 have hk:=kingAt_one h;have hat:bd (kingAtS bd sd).toNat=1+6*sd:=kingTo_at (by unfold kingAtS at hk;omega);refine ⟨⟨by omega,hat,fun s hs hb=>?_⟩,hk.1⟩;refine Classical.byContradiction fun hne=>?_;unfold countS at h;rcases Nat.lt_or_gt_of_ne hne with hlt|hlt
 ·have:=countTo_two hlt (show (kingAtS bd sd).toNat<64 by omega) hb hat;omega
 ·have:=countTo_two hlt hs hat hb;omega
theorem kingAt_only{bd:Nat→Int}{sd:Int}{k:Nat}(h:OnlyAt bd (1+6*sd) k):kingAtS bd sd=k:=by
 unfold kingAtS;refine kingTo_hit (by omega) (fun i h0 h1 hb=>?_) (by simpa using h.2.1) 64 (by have:=h.1;omega);have:=h.2.2 i.toNat (by have:=h.1;omega) hb;omega
theorem lastK_only{f:Int→Bool}{k:Nat}:∀{n:Nat},k<n→f k=true→(∀s:Nat,s<n→f s=true→s=k)→lastK f n=k
 |0,h,_,_=>by omega
 |n+1,h,hk,ho=>by
  unfold lastK;by_cases e:f (n:Int)=true
  ·rw [if_pos e];have:=ho n (by omega) e;omega
  ·rw [if_neg e];have hkn:k≠n:=fun hh=>e (by rw [←hh];exact hk);exact lastK_only (by omega) hk fun s hs=>ho s (by omega)
structure KRep(B:Bd)(bd:Nat→Int):Prop where
 wk:∃k:Nat,OnlyAt bd 1 k∧B.wk=k
 bk:∃k:Nat,OnlyAt bd 7 k∧B.bk=k
theorem boardOf_kings{bd:Nat→Int}(hr:∀s,s<64→0≤bd s∧bd s≤12){a b:Nat}(ha:OnlyAt bd 1 a)(hb:OnlyAt bd 7 b):KRep (boardOf bd) bd:=by
 have hrep:=boardOf_rep hr;have e1:∀s:Nat,s<64→occB ((boardOf bd).bb 1) s=(bd s==1):=fun s hs=>by
  rw [occB_sb (hrep.u _) (by omega),Int.toNat_natCast];exact hrep.bit 1 (by decide) (by decide) s hs
 have e7:∀s:Nat,s<64→occB ((boardOf bd).bb 7) s=(bd s==7):=fun s hs=>by
  rw [occB_sb (hrep.u _) (by omega),Int.toNat_natCast];exact hrep.bit 7 (by decide) (by decide) s hs
 refine ⟨⟨a,ha,?_⟩,⟨b,hb,?_⟩⟩
 ·show lastK (fun i=>occB ((boardOf bd).bb 1) i) 64=a;refine lastK_only ha.1 (by rw [e1 a ha.1,ha.2.1];rfl) fun s hs h=>?_;rw [e1 s hs,beq_iff_eq] at h;exact ha.2.2 s hs h
 ·show lastK (fun i=>!occB ((boardOf bd).bb 1) i&&occB ((boardOf bd).bb 7) i) 64=b;refine lastK_only hb.1 (by rw [e1 b hb.1,e7 b hb.1,hb.2.1];rfl) fun s hs h=>?_;rw [e7 s hs,Bool.and_eq_true,beq_iff_eq] at h;exact hb.2.2 s hs h.2
theorem BBits.congr{B:Bd}{bd bd':Nat→Int}(h:BBits B bd)(e:∀s,s<64→bd s=bd' s):BBits B bd':=⟨h.u,fun k h1 h2 s hs=>by rw [←e s hs];exact h.bit k h1 h2 s hs⟩
theorem BRep.bits{B:Bd}{bd:Nat→Int}(h:BRep B bd):BBits B bd:=⟨h.u,h.bit⟩
theorem set_bits{B:Bd}{bd bd':Nat→Int}(h:BBits B bd)(k:Nat){x:Int}(hx:U64 x)(h1:∀j:Nat,1≤j→j≤12→j≠k→∀s,s<64→(bd s==(j:Int))=(bd' s==(j:Int)))(h2:∀s,s<64→sb x s=(bd' s==(k:Int))):BBits (B.set k x) bd':=by
 refine ⟨fun j=>?_,fun j a b s hs=>?_⟩
 ·show U64 (if j=k then x else B.bb j);split
  ·exact hx
  exact h.u j
 show sb (if j=k then x else B.bb j) s=_;split
 ·rename_i e;subst e;exact h2 s hs
 rename_i e;rw [h.bit j a b s hs];exact h1 j a b e s hs
theorem BBits.of{B:Bd}{bd:Nat→Int}(h:BBits B bd){p:Int}(h0:1≤p)(h1:p≤12){s:Nat}(hs:s<64):sb (Bd.of B p) s=(bd s==p):=by
 unfold Bd.of;rw [if_pos ⟨h0,h1⟩,h.bit p.toNat (by omega) (by omega) s hs,show ((p.toNat:Nat):Int)=p by omega]
theorem upd_at{f:Nat→Int}{i:Nat}{v:Int}:upd f i v i=v:=if_pos rfl
theorem upd_ne{f:Nat→Int}{i j:Nat}{v:Int}(h:j≠i):upd f i v j=f j:=if_neg h
theorem U_mvBB{M:Mv}{x:Int}:U64 (mvBB M x):=by
 unfold mvBB;cases occB x M.s1
 ·exact U_band _ _
 exact U_bor _ _
theorem updTo_bits{B:Bd}{bd:Nat→Int}(h:BBits B bd){M:Mv}(hf:0≤M.s1∧M.s1≤63)(ht:0≤M.s2∧M.s2≤63)(hne:M.s1≠M.s2):BBits (updTo B M 12) (upd (upd bd M.s1.toNat 0) M.s2.toNat (bd M.s1.toNat)):=by
 refine ⟨fun k=>?_,fun k h1 h2 s hs=>?_⟩
 ·show U64 (if 1≤k∧(k:Int)≤12 then mvBB M (B.bb k) else B.bb k);split
  ·exact U_mvBB
  exact h.u k
 show sb (if 1≤k∧(k:Int)≤12 then mvBB M (B.bb k) else B.bb k) s=_;rw [if_pos ⟨h1,by omega⟩];unfold mvBB;rw [occB_sb (h.u k) hf,h.bit k h1 h2 _ (by omega)];have e2:decide ((s:Int)=M.s2)=decide (s=M.s2.toNat):=by rw [decide_eq_decide];omega
 have e1:decide ((s:Int)=M.s1)=decide (s=M.s1.toNat):=by rw [decide_eq_decide];omega
 by_cases hst:s=M.s2.toNat
 ·subst hst;rw [upd_at];cases hk:(bd M.s1.toNat==(k:Int))
  ·simp only [cond_false];rw [sb_band,sb_bnot _ hs,sb_bbSq ht hs,e2];simp
  simp only [cond_true];rw [sb_bor,sb_bbSq ht hs,e2];simp
 rw [upd_ne hst];by_cases hsf:s=M.s1.toNat
 ·subst hsf;rw [upd_at,show ((0:Int)==(k:Int))=false by rw [beq_eq_false_iff_ne];omega];cases hk:(bd M.s1.toNat==(k:Int))
  ·simp only [cond_false];rw [sb_band,h.bit k h1 h2 _ hs,hk];rfl
  simp only [cond_true];rw [sb_bor,sb_band,sb_bnot _ hs,sb_bbSq hf hs,sb_bbSq ht hs,e1,e2];simp [hst]
 rw [upd_ne hsf];cases hk:(bd M.s1.toNat==(k:Int))
 ·simp only [cond_false];rw [sb_band,sb_bnot _ hs,sb_bbSq ht hs,e2,h.bit k h1 h2 s hs];simp [hst]
 simp only [cond_true];rw [sb_bor,sb_band,sb_band,sb_bnot _ hs,sb_bnot _ hs,sb_bbSq hf hs,sb_bbSq ht hs,e1,e2,h.bit k h1 h2 s hs];simp [hst,hsf]
theorem updPromo_bits{B:Bd}{bd:Nat→Int}(h:BBits B bd){M:Mv}(ht:0≤M.s2∧M.s2≤63){p1:Int}(hp:1≤p1∧p1≤12)(hat:bd M.s2.toNat=p1)(hn:1≤newP M.promo (pColor p1)∧newP M.promo (pColor p1)≤12)(h0:M.promo≠0):
  BBits (updPromo M p1 B) (upd bd M.s2.toNat (newP M.promo (pColor p1))):=by
 unfold updPromo;rw [show (M.promo !=(0:Int))=true from bne_iff_ne.2 h0];simp only [cond_true];have hm:BBits (Bd.set B p1.toNat (band (Bd.of B p1) (bnot (bbSq M.s2)))) (upd bd M.s2.toNat 0):=by
  refine set_bits h _ (U_band _ _) (fun j h1 h2 hj s hs=>?_) (fun s hs=>?_)
  ·by_cases e:s=M.s2.toNat
   ·subst e;rw [upd_at,hat,Bool.eq_iff_iff,beq_iff_eq,beq_iff_eq];omega
   rw [upd_ne e]
  rw [sb_band,sb_bnot _ hs,sb_bbSq ht hs,h.of hp.1 hp.2 hs,show ((p1.toNat:Nat):Int)=p1 by omega];by_cases e:s=M.s2.toNat
  ·subst e;rw [upd_at,show decide ((M.s2.toNat:Int)=M.s2)=true by rw [decide_eq_true_eq];omega];simp;omega
  rw [upd_ne e,show decide ((s:Int)=M.s2)=false by rw [decide_eq_false_iff_not];omega];simp
 have hcg:∀s,s<64→upd (upd bd M.s2.toNat 0) M.s2.toNat (newP M.promo (pColor p1)) s=upd bd M.s2.toNat (newP M.promo (pColor p1)) s:=by
  intro s hs;by_cases e:s=M.s2.toNat
  ·subst e;rw [upd_at,upd_at]
  rw [upd_ne e,upd_ne e,upd_ne e]
 refine BBits.congr ?_ hcg;refine set_bits hm _ (U_bor _ _) (fun j h1 h2 hj s hs=>?_) (fun s hs=>?_)
 ·by_cases e:s=M.s2.toNat
  ·subst e;rw [upd_at,upd_at,Bool.eq_iff_iff,beq_iff_eq,beq_iff_eq];omega
  rw [upd_ne e,upd_ne e,upd_ne e]
 rw [sb_bor,sb_bbSq ht hs,hm.of hn.1 hn.2 hs,show (((newP M.promo (pColor p1)).toNat:Nat):Int)=newP M.promo (pColor p1) by omega];by_cases e:s=M.s2.toNat
 ·subst e;rw [upd_at,upd_at,show decide ((M.s2.toNat:Int)=M.s2)=true by rw [decide_eq_true_eq];omega];simp
 rw [upd_ne e,upd_ne e,upd_ne e,show decide ((s:Int)=M.s2)=false by rw [decide_eq_false_iff_not];omega];simp
theorem updEP_bits{B:Bd}{bd:Nat→Int}(h:BBits B bd){M:Mv}(ht:0≤M.s2∧M.s2≤63){p1:Int}(h8:hasTag M 8=true){q:Nat}(hq:q<64)
  (hc:(pColor p1=1∧M.s2=(q:Int)+8∧bd q=12)∨(pColor p1=2∧M.s2=(q:Int)-8∧bd q=6)):BBits (updEP M p1 B) (upd bd q 0):=by
 unfold updEP;rw [h8];simp only [cond_true];rcases hc with ⟨hc,he,hb⟩|⟨hc,he,hb⟩
 ·rw [hc];simp only [show ((1:Int)==1)=true from rfl,cond_true];refine set_bits h 12 (U_band _ _) (fun j h1 h2 hj s hs=>?_) (fun s hs=>?_)
  ·by_cases e:s=q
   ·subst e;rw [upd_at,hb,Bool.eq_iff_iff,beq_iff_eq,beq_iff_eq];omega
   rw [upd_ne e]
  rw [sb_band,sb_bnot _ hs,sb_shl8 _ hs,h.bit 12 (by decide) (by decide) s hs];by_cases e:s=q
  ·subst e;rw [upd_at,sb_bbSq ht (by omega)];simp;omega
  rw [upd_ne e];by_cases h8':s+8<64
  ·rw [sb_bbSq ht h8',show decide (((s+8:Nat):Int)=M.s2)=false by rw [decide_eq_false_iff_not];omega];simp
  simp [h8']
 rw [hc];simp only [show ((2:Int)==1)=false from rfl,cond_false];refine set_bits h 6 (U_band _ _) (fun j h1 h2 hj s hs=>?_) (fun s hs=>?_)
 ·by_cases e:s=q
  ·subst e;rw [upd_at,hb,Bool.eq_iff_iff,beq_iff_eq,beq_iff_eq];omega
  rw [upd_ne e]
 rw [sb_band,sb_bnot _ hs,sb_shr8 (U_bbSq _) hs,h.bit 6 (by decide) (by decide) s hs];by_cases e:s=q
 ·subst e;rw [upd_at,sb_bbSq ht (by omega)];simp;omega
 rw [upd_ne e];by_cases h8':8≤s
 ·rw [sb_bbSq ht (by omega),show decide (((s-8:Nat):Int)=M.s2)=false by rw [decide_eq_false_iff_not];omega];simp
 simp [h8']
theorem rook_bits{B:Bd}{bd:Nat→Int}(h:BBits B bd){k:Nat}(hk:1≤k∧k≤12){a b:Nat}(ha:a<64)(hb:b<64)(hab:a≠b)(h1:bd a=k)(h2:bd b=0):BBits (rook B k a b) (upd (upd bd a 0) b k):=by
 unfold rook;refine set_bits h k (U_bor _ _) (fun j hj1 hj2 hj s hs=>?_) (fun s hs=>?_)
 ·by_cases e:s=b
  ·subst e;rw [upd_at,h2,Bool.eq_iff_iff,beq_iff_eq,beq_iff_eq];omega
  rw [upd_ne e];by_cases e2:s=a
  ·subst e2;rw [upd_at,h1,Bool.eq_iff_iff,beq_iff_eq,beq_iff_eq];omega
  rw [upd_ne e2]
 rw [sb_bor,sb_band,sb_bnot _ hs,sb_bbSq (by omega) hs,sb_bbSq (by omega) hs,h.bit k hk.1 hk.2 s hs];by_cases e:s=b
 ·subst e;rw [upd_at];simp
 rw [upd_ne e,show decide ((s:Int)=(b:Int))=false by rw [decide_eq_false_iff_not];omega];by_cases e2:s=a
 ·subst e2;rw [upd_at,show ((0:Int)==(k:Int))=false by rw [beq_eq_false_iff_ne];omega];simp
 rw [upd_ne e2,show decide ((s:Int)=(a:Int))=false by rw [decide_eq_false_iff_not];omega];simp
def tagb(x:Int)(i:Nat):Bool:=(BitVec.ofInt 16 x).getLsbD i
theorem wrap16(n:Int):IntKind.u16.wrap n=n%65536:=by simp [IntKind.wrap,IntKind.bits,IntKind.signed]
theorem V16(b:BitVec 16):BitVec.ofInt 16 (IntKind.u16.wrap b.toNat)=b:=by
 apply BitVec.eq_of_toNat_eq;rw [wrap16,BitVec.toNat_ofInt];have:=b.isLt;omega
theorem tagb_or(x t:Int)(i:Nat):tagb (orTag x t) i=(tagb x i||tagb t i):=by
 unfold tagb orTag;have e:BitVec.ofInt 16 (bitsV .or .u16 x t)=BitVec.ofInt 16 x|||BitVec.ofInt 16 t:=V16 _;rw [e,BitVec.getLsbD_or]
theorem hasTag_bit(M:Mv){t:Int}{i:Nat}(hi:i<16)(ht:∀j,j<16→tagb t j=decide (j=i)):hasTag M t=tagb M.tags i:=by
 unfold hasTag;have e:BitVec.ofInt 16 (bitsV .and .u16 t M.tags)=BitVec.ofInt 16 t&&&BitVec.ofInt 16 M.tags:=V16 _;have hr:0≤bitsV .and .u16 t M.tags∧bitsV .and .u16 t M.tags<65536:=by
  show 0≤IntKind.u16.wrap _∧IntKind.u16.wrap _<65536;rw [wrap16];omega
 have hb:∀j,j<16→tagb (bitsV .and .u16 t M.tags) j=(decide (j=i)&&tagb M.tags j):=by
  intro j hj;rw [←ht j hj];unfold tagb;rw [e,BitVec.getLsbD_and]
 rw [Bool.eq_iff_iff,decide_eq_true_eq];constructor
 ·intro h;refine Classical.byContradiction fun hn=>?_;have hz:BitVec.ofInt 16 (bitsV .and .u16 t M.tags)=0#16:=by
   apply BitVec.eq_of_getLsbD_eq;intro j hj;have:=hb j hj;unfold tagb at this;rw [this];by_cases e2:j=i
   ·subst e2;unfold tagb at hn;simp [hn]
   simp [e2]
  have:=congrArg BitVec.toNat hz;rw [BitVec.toNat_ofInt] at this;simp at this;omega
 intro h;have h1:=hb i hi;simp only [decide_true,Bool.true_and] at h1;rw [h] at h1;refine Classical.byContradiction fun hn=>?_;have e0:bitsV .and .u16 t M.tags=0:=by omega
 rw [e0] at h1;unfold tagb at h1;simp at h1
theorem tag1(M:Mv):hasTag M 1=tagb M.tags 0:=hasTag_bit M (by decide) (by decide)
theorem tag2(M:Mv):hasTag M 2=tagb M.tags 1:=hasTag_bit M (by decide) (by decide)
theorem tag4(M:Mv):hasTag M 4=tagb M.tags 2:=hasTag_bit M (by decide) (by decide)
theorem tag8(M:Mv):hasTag M 8=tagb M.tags 3:=hasTag_bit M (by decide) (by decide)
theorem tag16(M:Mv):hasTag M 16=tagb M.tags 4:=hasTag_bit M (by decide) (by decide)
theorem tag32(M:Mv):hasTag M 32=tagb M.tags 5:=hasTag_bit M (by decide) (by decide)
def rayOk(l:List (Int×Int))(far:Bool)(al:Nat→Nat→Bool):Bool:=
 (List.range 64).all fun s=>l.all fun d=>(List.range 7).all fun (n:Nat)=>
  decide (raySq s d ((n:Int)+1)<0)||(bif far then (al s (raySq s d ((n:Int)+1)).toNat&&(!(Nat.beq s (raySq s d ((n:Int)+1)).toNat)&&
   ((btw s (raySq s d ((n:Int)+1)).toNat==(List.range n).map fun (m:Nat)=>(raySq s d ((m:Int)+1)).toNat)&&(List.range n).all fun (m:Nat)=>decide (0≤raySq s d ((m:Int)+1)))))
   else (!(Nat.beq n 0)||(al s (raySq s d 1).toNat&&!(Nat.beq s (raySq s d 1).toNat))))
def rayHit(l:List (Int×Int))(far:Bool)(al:Nat→Nat→Bool):Bool:=
 (List.range 64).all fun s=>(List.range 64).all fun t=>(!(al s t)||Nat.beq s t)||l.any fun d=>(List.range (bif far then 7 else 1)).any fun (n:Nat)=>decide (raySq s d ((n:Int)+1)=t)
theorem ray_q1:rayOk (straightL++slantL) true (fun s t=>strt s t||slnt s t)=true:=by decide+kernel
theorem ray_q2:rayHit (straightL++slantL) true (fun s t=>strt s t||slnt s t)=true:=by decide+kernel
theorem ray_r1:rayOk straightL true strt=true:=by decide+kernel
theorem ray_r2:rayHit straightL true strt=true:=by decide+kernel
theorem ray_b1:rayOk slantL true slnt=true:=by decide+kernel
theorem ray_b2:rayHit slantL true slnt=true:=by decide+kernel
theorem ray_k1:rayOk (straightL++slantL) false near=true:=by decide+kernel
theorem ray_k2:rayHit (straightL++slantL) false near=true:=by decide+kernel
theorem ray_n1:rayOk jumpL false jump=true:=by decide+kernel
theorem ray_n2:rayHit jumpL false jump=true:=by decide+kernel
theorem rayF_mem(bd:Nat→Int)(s:Int)(far:Bool)(d:Int×Int)(t:Int):∀(m:Nat) (n:Int),t∈rayF bd s far d m n↔∃j:Nat,j<m∧raySq s d (n+j)=t∧0≤t∧∀i:Nat,i<j→(0≤raySq s d (n+i)∧far=true∧bd (raySq s d (n+i)).toNat=0)
 |0,n=>by simp [rayF]
 |m+1,n=>by
  have ih:=rayF_mem bd s far d t m (n+1);have e0:rayF bd s far d (m+1) n=if raySq s d n<0 then [] else raySq s d n::(if ((!far)||(bd (raySq s d n).toNat !=(0:Int)))=true then [] else rayF bd s far d m (n+1)):=rfl
  rw [e0];have z:n+((0:Nat):Int)=n:=by omega
  have sc:∀i:Nat,n+((i+1:Nat):Int)=n+1+i:=by intro i;omega
  by_cases h0:raySq s d n<0
  ·rw [if_pos h0];constructor
   ·intro h;cases h
   ·rintro ⟨j,hj,e,ht,hi⟩;rcases j with _|j
    ·rw [z] at e;omega
    ·have:=(hi 0 (by omega)).1;rw [z] at this;omega
  ·rw [if_neg h0,List.mem_cons];by_cases hs:((!far)||(bd (raySq s d n).toNat !=(0:Int)))=true
   ·rw [if_pos hs];constructor
    ·rintro (rfl|h)
     ·exact ⟨0,by omega,by rw [z],by omega,fun i hi=>absurd hi (by omega)⟩
     ·cases h
    ·rintro ⟨j,hj,e,ht,hi⟩;rcases j with _|j
     ·rw [z] at e;exact Or.inl e.symm
     ·exfalso;obtain ⟨_,hf,hb⟩:=hi 0 (by omega);rw [z] at hb;rw [hf,hb] at hs;simp at hs
   ·rw [if_neg hs,ih];simp only [Bool.or_eq_true,Bool.not_eq_true',bne_iff_ne,not_or,Bool.not_eq_false,Classical.not_not] at hs;constructor
    ·rintro (rfl|⟨j,hj,e,ht,hi⟩)
     ·exact ⟨0,by omega,by rw [z],by omega,fun i hi=>absurd hi (by omega)⟩
     ·refine ⟨j+1,by omega,by rw [sc];exact e,ht,fun i hi'=>?_⟩;rcases i with _|i
      ·rw [z];exact ⟨by omega,hs.1,hs.2⟩
      ·rw [sc];exact hi i (by omega)
    ·rintro ⟨j,hj,e,ht,hi⟩;rcases j with _|j
     ·rw [z] at e;exact Or.inl e.symm
     ·refine Or.inr ⟨j,by omega,by rw [←sc];exact e,ht,fun i hi'=>?_⟩;rw [←sc];exact hi (i+1) (by omega)
theorem nbeq{a b:Nat}:(!(Nat.beq a b))=true↔a≠b:=by
 constructor
 ·intro h e;subst e;simp at h
 intro h;cases hh:Nat.beq a b
 ·rfl
 exact absurd (Nat.eq_of_beq_eq_true hh) h
theorem rayOk_get{l:List (Int×Int)}{far:Bool}{al:Nat→Nat→Bool}(h:rayOk l far al=true){s:Nat}(hs:s<64){d:Int×Int}(hd:d∈l){n:Nat}(hn:n<7)(h0:0≤raySq s d ((n:Int)+1)):
  (far=true→al s (raySq s d ((n:Int)+1)).toNat=true∧s≠(raySq s d ((n:Int)+1)).toNat∧btw s (raySq s d ((n:Int)+1)).toNat=((List.range n).map fun (m:Nat)=>(raySq s d ((m:Int)+1)).toNat)∧∀m:Nat,m<n→0≤raySq s d ((m:Int)+1))∧
  (far=false→n=0→al s (raySq s d 1).toNat=true∧s≠(raySq s d 1).toNat):=by
 have h1:=List.all_eq_true.1 (List.all_eq_true.1 (List.all_eq_true.1 h s (List.mem_range.2 hs)) d hd) n (List.mem_range.2 hn);rw [show decide (raySq s d ((n:Int)+1)<0)=false by rw [decide_eq_false_iff_not];omega,Bool.false_or] at h1;constructor
 ·rintro rfl;simp only [cond_true,Bool.and_eq_true,beq_iff_eq,nbeq] at h1;refine ⟨h1.1,h1.2.1,h1.2.2.1,fun m hm=>?_⟩;have:=List.all_eq_true.1 h1.2.2.2 m (List.mem_range.2 hm);simpa using this
 rintro rfl rfl;simp only [cond_false,show Nat.beq 0 0=true from rfl,Bool.not_true,Bool.false_or,Bool.and_eq_true,nbeq] at h1;exact h1
theorem rayHit_get{l:List (Int×Int)}{far:Bool}{al:Nat→Nat→Bool}(h:rayHit l far al=true){s t:Nat}(hs:s<64)(ht:t<64)(ha:al s t=true)(hne:s≠t):
  ∃d∈l,∃n:Nat,n<(bif far then 7 else 1)∧raySq s d ((n:Int)+1)=t:=by
 have h1:=List.all_eq_true.1 (List.all_eq_true.1 h s (List.mem_range.2 hs)) t (List.mem_range.2 ht);have hb:Nat.beq s t=false:=by
  have:=nbeq.2 hne;simpa using this
 rw [ha,hb] at h1;simp only [Bool.not_true,Bool.false_or] at h1;obtain ⟨d,hd,h2⟩:=List.any_eq_true.1 h1;obtain ⟨n,hn,h3⟩:=List.any_eq_true.1 h2;exact ⟨d,hd,n,List.mem_range.1 hn,of_decide_eq_true h3⟩
theorem raySq_rng(s:Int)(d:Int×Int)(n:Int):raySq s d n≤63:=(atS_rng _ _).2
theorem ray_far{bd:Nat→Int}{l:List (Int×Int)}{al:Nat→Nat→Bool}(h1:rayOk l true al=true)(h2:rayHit l true al=true){s t:Int}(hs:0≤s∧s≤63):
  (∃d∈l,t∈rayF bd s true d 7 1)↔(0≤t∧t≤63)∧al s.toNat t.toNat=true∧s≠t∧clr (occS bd) s.toNat t.toNat=true:=by
 obtain ⟨S,hS⟩:∃S:Nat,s=S:=⟨s.toNat,by omega⟩;subst hS;rw [Int.toNat_natCast];constructor
 ·rintro ⟨d,hd,ht⟩;obtain ⟨j,hj,e,h0,hi⟩:=(rayF_mem bd S true d t 7 1).1 ht;rw [Int.add_comm] at e;have hg:=(rayOk_get (s:=S) h1 (by omega) hd hj (by rw [e];exact h0)).1 rfl;rw [e] at hg;obtain ⟨ha,hne,hb,hm⟩:=hg;have hr:=raySq_rng S d ((j:Int)+1);refine ⟨by omega,ha,by omega,?_⟩;unfold clr;rw [hb,List.all_map,List.all_eq_true];intro m hmm;have:=(hi m (List.mem_range.1 hmm)).2.2;rw [Int.add_comm] at this;simp only [Function.comp,occS,this,bne_self_eq_false,Bool.not_false]
 rintro ⟨ht,ha,hne,hc⟩;obtain ⟨d,hd,n,hn,e⟩:=rayHit_get h2 (by omega) (show t.toNat<64 by omega) ha (by omega);simp only [cond_true] at hn;have e':raySq S d ((n:Int)+1)=t:=by rw [e];omega
 refine ⟨d,hd,(rayF_mem bd S true d t 7 1).2 ⟨n,hn,by rw [Int.add_comm];exact e',by omega,fun i hi=>?_⟩⟩;have hg:=(rayOk_get (s:=S) h1 (by omega) hd hn (by rw [e'];omega)).1 rfl;rw [e'] at hg;obtain ⟨_,_,hb,hm⟩:=hg;rw [Int.add_comm];refine ⟨hm i hi,rfl,?_⟩;unfold clr at hc;rw [hb,List.all_map,List.all_eq_true] at hc;have:=hc i (List.mem_range.2 hi);simpa [Function.comp,occS] using this
theorem ray_near{bd:Nat→Int}{l:List (Int×Int)}{al:Nat→Nat→Bool}(h1:rayOk l false al=true)(h2:rayHit l false al=true){s t:Int}(hs:0≤s∧s≤63):
  (∃d∈l,t∈rayF bd s false d 7 1)↔(0≤t∧t≤63)∧al s.toNat t.toNat=true∧s≠t:=by
 obtain ⟨S,hS⟩:∃S:Nat,s=S:=⟨s.toNat,by omega⟩;subst hS;rw [Int.toNat_natCast];constructor
 ·rintro ⟨d,hd,ht⟩;obtain ⟨j,hj,e,h0,hi⟩:=(rayF_mem bd S false d t 7 1).1 ht;have hj0:j=0:=by
   refine Classical.byContradiction fun hh=>?_;have:=(hi 0 (by omega)).2.1;cases this
  subst hj0;have e1:raySq S d 1=t:=e;have hg:=(rayOk_get (s:=S) h1 (by omega) hd (n:=0) (by decide) (by show 0≤raySq S d 1;rw [e1];exact h0)).2 rfl rfl;rw [e1] at hg;have hr:=raySq_rng S d 1;exact ⟨by omega,hg.1,by have:=hg.2;omega⟩
 rintro ⟨ht,ha,hne⟩;obtain ⟨d,hd,n,hn,e⟩:=rayHit_get h2 (by omega) (show t.toNat<64 by omega) ha (by omega);simp only [cond_false] at hn;have hn0:n=0:=by omega
 subst hn0;have e1:raySq S d 1=(t.toNat:Int):=e;exact ⟨d,hd,(rayF_mem bd S false d t 7 1).2 ⟨0,by decide,by show raySq S d 1=t;rw [e1];omega,by omega,fun i hi=>absurd hi (by omega)⟩⟩
theorem reach_iff{bd:Nat→Int}(hr:∀s,s<64→0≤bd s∧bd s≤12){s t:Int}(hs:0≤s∧s≤63)(h0:bd s.toNat≠0)(h6:kindOf (bd s.toNat)≠6):
  t∈reachL bd s↔(0≤t∧t≤63)∧hitS bd s.toNat t.toNat=true:=by
 have hx:=hr s.toNat (by omega);obtain ⟨hk,hk2⟩:=kind_cases (x:=bd s.toNat) (by omega);have hm:t∈reachL bd s↔∃d∈wayL (kindOf (bd s.toNat)),t∈rayF bd s (farB (kindOf (bd s.toNat))) d 7 1:=by
  unfold reachL reachTo;rw [List.take_of_length_le (wayL_len _),List.mem_flatMap]
 rw [hm];have hd:(decide (s.toNat≠t.toNat)=true∧(0≤t∧t≤63))↔(s≠t∧(0≤t∧t≤63)):=by rw [decide_eq_true_eq];omega
 have hc:kindOf (bd s.toNat)=1∨kindOf (bd s.toNat)=2∨kindOf (bd s.toNat)=3∨kindOf (bd s.toNat)=4∨kindOf (bd s.toNat)=5:=by omega
 have hb:(bd s.toNat !=0)=true:=bne_iff_ne.2 h0;unfold hitS;rw [hb,Bool.true_and,Bool.and_eq_true];rcases hc with e|e|e|e|e<;>rw [e]
 ·rw [show wayL 1=straightL++slantL from rfl,show farB 1=false from rfl,ray_near ray_k1 ray_k2 hs];simp only [if_true];constructor
  ·rintro ⟨a,b,c⟩;exact ⟨a,(hd.2 ⟨c,a⟩).1,b⟩
  rintro ⟨a,b,c⟩;exact ⟨a,c,(hd.1 ⟨b,a⟩).1⟩
 ·rw [show wayL 2=straightL++slantL from rfl,show farB 2=true from rfl,ray_far ray_q1 ray_q2 hs];simp only [show ((2:Int)=1)=False by decide,show ((2:Int)=5)=False by decide,show ((2:Int)=6)=False by decide,show ((2:Int)=3)=False by decide,show ((2:Int)=4)=False by decide,if_false,Bool.and_eq_true];constructor
  ·rintro ⟨a,b,c,d⟩;exact ⟨a,(hd.2 ⟨c,a⟩).1,b,d⟩
  rintro ⟨a,b,c,d⟩;exact ⟨a,c,(hd.1 ⟨b,a⟩).1,d⟩
 ·rw [show wayL 3=straightL from rfl,show farB 3=true from rfl,ray_far ray_r1 ray_r2 hs];simp only [show ((3:Int)=1)=False by decide,show ((3:Int)=5)=False by decide,show ((3:Int)=6)=False by decide,if_true,if_false,Bool.and_eq_true];constructor
  ·rintro ⟨a,b,c,d⟩;exact ⟨a,(hd.2 ⟨c,a⟩).1,b,d⟩
  rintro ⟨a,b,c,d⟩;exact ⟨a,c,(hd.1 ⟨b,a⟩).1,d⟩
 ·rw [show wayL 4=slantL from rfl,show farB 4=true from rfl,ray_far ray_b1 ray_b2 hs];simp only [show ((4:Int)=1)=False by decide,show ((4:Int)=5)=False by decide,show ((4:Int)=6)=False by decide,show ((4:Int)=3)=False by decide,if_true,if_false,Bool.and_eq_true];constructor
  ·rintro ⟨a,b,c,d⟩;exact ⟨a,(hd.2 ⟨c,a⟩).1,b,d⟩
  rintro ⟨a,b,c,d⟩;exact ⟨a,c,(hd.1 ⟨b,a⟩).1,d⟩
 rw [show wayL 5=jumpL from rfl,show farB 5=false from rfl,ray_near ray_n1 ray_n2 hs];simp only [show ((5:Int)=1)=False by decide,if_true,if_false];constructor
 ·rintro ⟨a,b,c⟩;exact ⟨a,(hd.2 ⟨c,a⟩).1,b⟩
 rintro ⟨a,b,c⟩;exact ⟨a,c,(hd.1 ⟨b,a⟩).1⟩
theorem possMv_hit{B:Bd}{bd:Nat→Int}(h:BRep B bd)(S:Ps){s t:Nat}(hs:s<64)(ht:t<64)(h0:bd s≠0)(h6:kindOf (bd s)≠6):sb (possMv B S (pType (bd s)) s) t=hitS bd s t:=by
 have hx:=h.rng s hs;obtain ⟨hk,hk2⟩:=kind_cases (x:=bd s) (by omega);have hp:pType (bd s)=kindOf (bd s):=by
  have hc:bd s=1∨bd s=2∨bd s=3∨bd s=4∨bd s=5∨bd s=6∨bd s=7∨bd s=8∨bd s=9∨bd s=10∨bd s=11∨bd s=12:=by omega
  rcases hc with e|e|e|e|e|e|e|e|e|e|e|e<;>rw [e]<;>rfl
 rw [hp];have hc:kindOf (bd s)=1∨kindOf (bd s)=2∨kindOf (bd s)=3∨kindOf (bd s)=4∨kindOf (bd s)=5:=by omega
 have hb:(bd s !=0)=true:=bne_iff_ne.2 h0;have hne:decide (t≠s)=decide (s≠t):=by rw [decide_eq_decide];exact ⟨Ne.symm,Ne.symm⟩
 unfold hitS possMv;rw [hb,Bool.true_and];rcases hc with e|e|e|e|e<;>rw [e]
 ·simp only [show ((1:Int)==1)=true from rfl,cond_true,if_true];rw [sb_king hs ht,hne,Bool.and_comm]
 ·simp only [show ((2:Int)==1)=false from rfl,show ((2:Int)==2)=true from rfl,cond_true,cond_false,show ((2:Int)=1)=False by decide,show ((2:Int)=5)=False by decide,show ((2:Int)=6)=False by decide,show ((2:Int)=3)=False by decide,show ((2:Int)=4)=False by decide,if_false];rw [sb_bor,sb_dia h hs ht,sb_hv h hs ht,hne];cases decide (s≠t)<;>cases strt s t<;>cases slnt s t<;>cases clr (occS bd) s t<;>rfl
 ·simp only [show ((3:Int)==1)=false from rfl,show ((3:Int)==2)=false from rfl,show ((3:Int)==3)=true from rfl,cond_true,cond_false,show ((3:Int)=1)=False by decide,show ((3:Int)=5)=False by decide,show ((3:Int)=6)=False by decide,if_true,if_false];rw [sb_hv h hs ht,hne]
 ·simp only [show ((4:Int)==1)=false from rfl,show ((4:Int)==2)=false from rfl,show ((4:Int)==3)=false from rfl,show ((4:Int)==4)=true from rfl,cond_true,cond_false,show ((4:Int)=1)=False by decide,show ((4:Int)=5)=False by decide,show ((4:Int)=6)=False by decide,show ((4:Int)=3)=False by decide,if_true,if_false];rw [sb_dia h hs ht,hne]
 simp only [show ((5:Int)==1)=false from rfl,show ((5:Int)==2)=false from rfl,show ((5:Int)==3)=false from rfl,show ((5:Int)==4)=false from rfl,show ((5:Int)==5)=true from rfl,cond_true,cond_false,show ((5:Int)=1)=False by decide,if_true,if_false];rw [sb_knight hs ht];by_cases hst:s=t
 ·subst hst;rw [jump_ne];simp
 simp [hst]
theorem sqRank3:∀s,s<64→sb 280375465082880 s=(decide (16≤s)&&decide (s<24)):=by decide
theorem sqRank6:∀s,s<64→sb 16711680 s=(decide (40≤s)&&decide (s<48)):=by decide
theorem sb_ep{ep:Int}(h:-1≤ep∧ep≤63){t:Nat}(ht:t<64):sb (epBB ep) t=decide ((t:Int)=ep):=by
 unfold epBB;by_cases e:ep=-1
 ·subst e;simp only [show ((-1:Int) !=-1)=false from rfl,cond_false];rw [show decide ((t:Int)=-1)=false by rw [decide_eq_false_iff_not];omega];revert t;decide
 rw [show (ep !=-1)=true from bne_iff_ne.2 e];simp only [cond_true];exact sb_bbSq (by omega) ht
theorem bbS{s t:Nat}(hs:s<64)(ht:t<64):sb (bbSq (s:Int)) t=decide (t=s):=by
 rw [sb_bbSq (by omega) ht,decide_eq_decide];omega
theorem sb4(X Y Z U W E:Int)(t:Nat):sb (bor (bor (bor (band X Y) (band Z Y)) (band U E)) (band W E)) t=((((sb X t&&sb Y t)||(sb Z t&&sb Y t))||(sb U t&&sb E t))||(sb W t&&sb E t)):=by
 rw [sb_bor,sb_bor,sb_bor,sb_band,sb_band,sb_band,sb_band]
theorem pawnMv_w{B:Bd}{bd:Nat→Int}(h:BRep B bd){S:Ps}(hT:S.turn=1)(he:-1≤S.ep∧S.ep≤63){s t:Nat}(hs:s<64)(ht:t<64):
  sb (pawnMv B S s) t=true↔((((t=s+9∧s%8≠7)∨(t=s+7∧s%8≠0))∧s<56∧(7≤bd t∨(t:Int)=S.ep))∨(t=s+8∧bd t=0)∨(t=s+16∧8≤s∧s<16∧bd (s+8)=0∧bd t=0)):=by
 unfold pawnMv;rw [hT];simp only [show ((1:Int)==1)=true from rfl,cond_true];have e9:sb (shrU (band (band (bbSq (s:Int)) (18374403900871474942:Int)) (18446744073709551360:Int)) (9:Int)) t=true↔t=s+9∧s%8≠7∧s<56:=by
  rw [sb_shr9 (U_band _ _) ht];by_cases hl:9≤t
  ·rw [sb_band,sb_band,bbS hs (by omega),nFileH _ (by omega),nRank8 _ (by omega)];simp only [Bool.and_eq_true,decide_eq_true_eq];constructor
   ·rintro ⟨_,⟨a,b⟩,c⟩;omega
   rintro ⟨a,b,c⟩;omega
  simp only [hl,decide_false,Bool.false_and,Bool.false_eq_true,false_iff];omega
 have e7:sb (shrU (band (band (bbSq (s:Int)) (9187201950435737471:Int)) (18446744073709551360:Int)) (7:Int)) t=true↔t=s+7∧s%8≠0∧s<56:=by
  rw [sb_shr7 (U_band _ _) ht];by_cases hl:7≤t
  ·rw [sb_band,sb_band,bbS hs (by omega),nFileA _ (by omega),nRank8 _ (by omega)];simp only [Bool.and_eq_true,decide_eq_true_eq];constructor
   ·rintro ⟨_,⟨a,b⟩,c⟩;omega
   rintro ⟨a,b,c⟩;omega
  simp only [hl,decide_false,Bool.false_and,Bool.false_eq_true,false_iff];omega
 have e8:∀u,u<64→(sb (shr8 (band (bbSq (s:Int)) (18446744073709551360:Int))) u=true↔u=s+8):=by
  intro u hu;rw [sb_shr8 (U_band _ _) hu];by_cases hl:8≤u
  ·rw [sb_band,bbS hs (by omega),nRank8 _ (by omega)];simp only [Bool.and_eq_true,decide_eq_true_eq];constructor
   ·rintro ⟨_,a,b⟩;omega
   rintro a;omega
  simp only [hl,decide_false,Bool.false_and,Bool.false_eq_true,false_iff];omega
 have e16:sb (shr8 (band (band (shr8 (band (bbSq (s:Int)) (18446744073709551360:Int))) B.empty) (280375465082880:Int))) t=true↔t=s+16∧8≤s∧s<16∧bd (s+8)=0:=by
  rw [sb_shr8 (U_band _ _) ht];by_cases hl:8≤t
  ·rw [sb_band,sb_band,sqRank3 _ (by omega),h.empty _ (by omega)];simp only [Bool.and_eq_true,decide_eq_true_eq,beq_iff_eq];rw [e8 (t-8) (by omega)];constructor
   ·rintro ⟨_,⟨a,b⟩,c⟩;rw [a] at b;exact ⟨by omega,by omega,by omega,b⟩
   rintro ⟨a,b,c,d⟩;have:t-8=s+8:=by omega
   rw [this];exact ⟨hl,⟨rfl,d⟩,by omega⟩
  simp only [hl,decide_false,Bool.false_and,Bool.false_eq_true,false_iff];omega
 have hb:sb (bor B.black (epBB S.ep)) t=true↔(7≤bd t∨(t:Int)=S.ep):=by
  rw [sb_bor,h.black t ht,sb_ep he ht];simp
 have hem:sb B.empty t=true↔bd t=0:=by rw [h.empty t ht,beq_iff_eq]
 rw [sb4];simp only [Bool.or_eq_true,Bool.and_eq_true];rw [e9,e7,e8 t ht,e16,hem,hb];omega
theorem pawnMv_b{B:Bd}{bd:Nat→Int}(h:BRep B bd){S:Ps}(hT:S.turn=2)(he:-1≤S.ep∧S.ep≤63){s t:Nat}(hs:s<64)(ht:t<64):
  sb (pawnMv B S s) t=true↔((((t+7=s∧s%8≠7)∨(t+9=s∧s%8≠0))∧8≤s∧((1≤bd t∧bd t≤6)∨(t:Int)=S.ep))∨(t+8=s∧bd t=0)∨(t+16=s∧48≤s∧s<56∧bd (t+8)=0∧bd t=0)):=by
 unfold pawnMv;rw [hT];simp only [show ((2:Int)==1)=false from rfl,cond_false];have e7:sb (shlU (band (band (bbSq (s:Int)) (18374403900871474942:Int)) (72057594037927935:Int)) (7:Int)) t=true↔t+7=s∧s%8≠7∧8≤s:=by
  rw [sb_shl7 _ ht];by_cases hl:t+7<64
  ·rw [sb_band,sb_band,bbS hs hl,nFileH _ hl,nRank1 _ hl];simp only [Bool.and_eq_true,decide_eq_true_eq];constructor
   ·rintro ⟨_,⟨a,b⟩,c⟩;omega
   rintro ⟨a,b,c⟩;omega
  simp only [hl,decide_false,Bool.false_and,Bool.false_eq_true,false_iff];omega
 have e9:sb (shlU (band (band (bbSq (s:Int)) (9187201950435737471:Int)) (72057594037927935:Int)) (9:Int)) t=true↔t+9=s∧s%8≠0∧8≤s:=by
  rw [sb_shl9 _ ht];by_cases hl:t+9<64
  ·rw [sb_band,sb_band,bbS hs hl,nFileA _ hl,nRank1 _ hl];simp only [Bool.and_eq_true,decide_eq_true_eq];constructor
   ·rintro ⟨_,⟨a,b⟩,c⟩;omega
   rintro ⟨a,b,c⟩;omega
  simp only [hl,decide_false,Bool.false_and,Bool.false_eq_true,false_iff];omega
 have e8:∀u,u<64→(sb (shl8 (band (bbSq (s:Int)) (72057594037927935:Int))) u=true↔u+8=s):=by
  intro u hu;rw [sb_shl8 _ hu];by_cases hl:u+8<64
  ·rw [sb_band,bbS hs hl,nRank1 _ hl];simp only [Bool.and_eq_true,decide_eq_true_eq];constructor
   ·rintro ⟨_,a,b⟩;omega
   rintro a;omega
  simp only [hl,decide_false,Bool.false_and,Bool.false_eq_true,false_iff];omega
 have e16:sb (shl8 (band (band (shl8 (band (bbSq (s:Int)) (72057594037927935:Int))) B.empty) (16711680:Int))) t=true↔t+16=s∧48≤s∧s<56∧bd (t+8)=0:=by
  rw [sb_shl8 _ ht];by_cases hl:t+8<64
  ·rw [sb_band,sb_band,sqRank6 _ hl,h.empty _ hl];simp only [Bool.and_eq_true,decide_eq_true_eq,beq_iff_eq];rw [e8 (t+8) hl];constructor
   ·rintro ⟨_,⟨a,b⟩,c⟩;exact ⟨by omega,by omega,by omega,b⟩
   rintro ⟨a,b,c,d⟩;exact ⟨hl,⟨by omega,d⟩,by omega⟩
  simp only [hl,decide_false,Bool.false_and,Bool.false_eq_true,false_iff];omega
 have hb:sb (bor B.white (epBB S.ep)) t=true↔((1≤bd t∧bd t≤6)∨(t:Int)=S.ep):=by
  rw [sb_bor,h.white t ht,sb_ep he ht];simp
 have hem:sb B.empty t=true↔bd t=0:=by rw [h.empty t ht,beq_iff_eq]
 rw [sb4];simp only [Bool.or_eq_true,Bool.and_eq_true];rw [e9,e7,e8 t ht,e16,hem,hb];omega
theorem steps_iff{bd:Nat→Int}{ep s t sd:Int}(hs:0≤s∧s≤63)(hsd:sideOf (bd s.toNat)=sd):
  t∈stepsL bd ep s↔(0≤t∧t≤63)∧((t=s+8*(1-2*sd)∧bd t.toNat=0)∨(t=s+16*(1-2*sd)∧s/8=1+5*sd∧bd (s+8*(1-2*sd)).toNat=0∧bd t.toNat=0)∨
   ((t%8-s%8=1∨t%8-s%8=-1)∧t/8-s/8=1-2*sd∧stepB bd ep sd t=true)):=by
 have h01:=sideOf_or (bd s.toNat);rw [hsd] at h01;have hu:(1-2*sd=1)∨(1-2*sd=-1):=by omega
 unfold stepsL;rw [hsd,List.mem_append,List.mem_filter];have h1:t∈onL bd s sd↔(0≤t∧t≤63)∧((t=s+8*(1-2*sd)∧bd t.toNat=0)∨(t=s+16*(1-2*sd)∧s/8=1+5*sd∧bd (s+8*(1-2*sd)).toNat=0∧bd t.toNat=0)):=by
  have hone:0≤oneS s sd→oneS s sd=s+8*(1-2*sd):=by unfold oneS atS;split<;>omega
  have hone2:(0≤s+8*(1-2*sd)∧s+8*(1-2*sd)≤63)→oneS s sd=s+8*(1-2*sd):=by unfold oneS atS;split<;>omega
  have htwo:s/8=1+5*sd→twoS s sd=s+16*(1-2*sd):=by unfold twoS atS;split<;>omega
  have hro:=atS_rng (s%8) ((s/8)+(1-2*sd));have hro:-1≤oneS s sd∧oneS s sd≤63:=hro;unfold onL;cases hb1:oneB bd s sd
  ·simp only [cond_false,List.not_mem_nil,false_iff];unfold oneB at hb1;rw [Bool.and_eq_false_iff,decide_eq_false_iff_not,beq_eq_false_iff_ne] at hb1;rintro ⟨ht,⟨e,h0⟩|⟨e,hr,h0,_⟩⟩
   ·have:=hone2 (by omega);rcases hb1 with hb1|hb1
    ·omega
    ·rw [this,←e] at hb1;exact hb1 h0
   ·have:=hone2 (by omega);rcases hb1 with hb1|hb1
    ·omega
    ·rw [this] at hb1;exact hb1 h0
  ·unfold oneB at hb1;simp only [Bool.and_eq_true,decide_eq_true_eq,beq_iff_eq] at hb1;have ho:=hone (by omega);have hb1':=hb1.2;rw [ho] at hb1';simp only [cond_true];cases hb2:twoB bd s sd
   ·simp only [cond_false,List.mem_singleton];unfold twoB at hb2;rw [Bool.and_eq_false_iff,beq_eq_false_iff_ne,beq_eq_false_iff_ne] at hb2;constructor
    ·rintro rfl;exact ⟨by omega,Or.inl ⟨ho,by rw [ho];exact hb1'⟩⟩
    ·rintro ⟨ht,⟨e,h0⟩|⟨e,hr,h0,h1⟩⟩
     ·omega
     ·exfalso;rcases hb2 with hb2|hb2
      ·exact hb2 hr
      ·rw [htwo hr,←e] at hb2;exact hb2 h1
   ·simp only [cond_true,List.mem_cons,List.not_mem_nil,or_false];unfold twoB at hb2;simp only [Bool.and_eq_true,beq_iff_eq] at hb2;have ht2:=htwo hb2.1;have hb2':=hb2.2;rw [ht2] at hb2';constructor
    ·rintro (rfl|rfl)
     ·exact ⟨by omega,Or.inl ⟨ho,by rw [ho];exact hb1'⟩⟩
     ·exact ⟨by omega,Or.inr ⟨ht2,hb2.1,hb1',by rw [ht2];exact hb2'⟩⟩
    ·rintro ⟨ht,⟨e,h0⟩|⟨e,hr,h0,h1⟩⟩
     ·exact Or.inl (by omega)
     ·exact Or.inr (by omega)
 have h2:t∈hitsL s sd↔(0≤t∧t≤63)∧(t%8-s%8=1∨t%8-s%8=-1)∧t/8-s/8=1-2*sd:=by
  have hd:∀d:Int,(d=1∨d=-1)→(t∈hitD s sd d↔(0≤t∧t≤63)∧t%8-s%8=d∧t/8-s/8=1-2*sd):=by
   intro d hd;unfold hitD;split
   ·rename_i hge;rw [List.mem_singleton];have:atS ((s%8)+d) ((s/8)+(1-2*sd))=8*(s/8+(1-2*sd))+(s%8+d)∧0≤s%8+d∧s%8+d≤7∧0≤s/8+(1-2*sd)∧s/8+(1-2*sd)≤7:=by
     unfold atS at hge⊢;split<;>omega
    constructor
    ·rintro rfl;omega
    ·rintro ⟨a,b,c⟩;omega
   ·rename_i hge;simp only [List.not_mem_nil,false_iff];rintro ⟨a,b,c⟩;apply hge;unfold atS;split<;>omega
  unfold hitsL;rw [List.mem_append,hd (-1) (Or.inr rfl),hd 1 (Or.inl rfl)];omega
 rw [h1,h2];constructor
 ·rintro (⟨a,b⟩|⟨⟨a,b,c⟩,d⟩)
  ·exact ⟨a,b.elim Or.inl (fun b=>Or.inr (Or.inl b))⟩
  ·exact ⟨a,Or.inr (Or.inr ⟨b,c,d⟩)⟩
 ·rintro ⟨a,b|b|⟨b,c,d⟩⟩
  ·exact Or.inl ⟨a,Or.inl b⟩
  ·exact Or.inl ⟨a,Or.inr b⟩
  ·exact Or.inr ⟨⟨a,b,c⟩,d⟩
theorem passed_get{P:SP}(hT:0≤P.turn∧P.turn≤1)(h:passedS P=true):
  P.ep=-1∨((0≤P.ep∧P.ep≤63)∧P.ep/8=5-3*P.turn∧P.bd P.ep.toNat=0∧P.bd (P.ep-8*(1-2*P.turn)).toNat=6+6*(1-P.turn)∧P.bd (P.ep+8*(1-2*P.turn)).toNat=0):=by
 unfold passedS at h;split at h
 ·exact Or.inl (eq_of_beq h)
 rename_i h1;split at h
 ·cases h
 rename_i h2;right;simp only [Bool.and_eq_true,beq_iff_eq] at h;have h3:P.ep/8=5-3*P.turn:=by omega
 have h4:P.bd P.ep.toNat=0:=Classical.byContradiction fun hh=>h2 (Or.inr hh);have e1:(8*(P.ep/8-(1-2*P.turn))+P.ep%8).toNat=(P.ep-8*(1-2*P.turn)).toNat:=by omega
 have e2:(8*(P.ep/8+(1-2*P.turn))+P.ep%8).toNat=(P.ep+8*(1-2*P.turn)).toNat:=by omega
 rw [e1,e2] at h;exact ⟨by omega,h3,h4,h.1,h.2⟩
theorem turnOf_cases{t:Int}(h:0≤t∧t≤1):(t=0∧turnOf t=1)∨(t=1∧turnOf t=2):=by
 rcases (by omega:t=0∨t=1) with rfl|rfl
 ·exact Or.inl ⟨rfl,rfl⟩
 exact Or.inr ⟨rfl,rfl⟩
theorem side_of{x:Int}(h:0≤x∧x≤12)(h0:x≠0):(sideOf x=0∧1≤x∧x≤6∧kindOf x=x)∨(sideOf x=1∧7≤x∧kindOf x=x-6):=by
 unfold sideOf kindOf;split<;>omega
theorem pColor_side{x:Int}(h:0≤x∧x≤12)(h0:x≠0):pColor x=sideOf x+1:=by
 unfold pColor sideOf;split<;>(try split)<;>omega
theorem own_bit{P:SP}(hB:SPb P)(hT:0≤P.turn∧P.turn≤1){t:Nat}(ht:t<64):sb (allowed (boardOf P.bd) (turnOf P.turn)) t=true↔¬(P.bd t≠0∧sideOf (P.bd t)=P.turn):=by
 have h:=boardOf_rep hB;have hx:=hB t ht;unfold allowed;rcases turnOf_cases hT with ⟨e,e2⟩|⟨e,e2⟩<;>rw [e2,e]
 ·simp only [show ((1:Int)==2)=false from rfl,cond_false];rw [sb_bnot _ ht,h.white t ht];unfold sideOf;simp only [Bool.not_eq_true',Bool.and_eq_false_iff,decide_eq_false_iff_not];split<;>omega
 simp only [show ((2:Int)==2)=true from rfl,cond_true];rw [sb_bnot _ ht,h.black t ht];unfold sideOf;simp only [Bool.not_eq_true',decide_eq_false_iff_not];split<;>omega
theorem dest_iff{P:SP}(hV:ValidS P){s t:Nat}(hs:s<64)(ht:t<64)(h0:P.bd s≠0)(hsd:sideOf (P.bd s)=P.turn):
  sb (dest (boardOf P.bd) (psOf P) (P.bd s) s) t=true↔((t:Int)∈dstL P s∧¬(P.bd t≠0∧sideOf (P.bd t)=P.turn)):=by
 have h:=boardOf_rep hV.bd;have hx:=hV.bd s hs;have hT:=hV.turn;have hxt:=hV.bd t ht;unfold dest;rw [sb_band,Bool.and_eq_true,show (psOf P).turn=turnOf P.turn from rfl,own_bit hV.bd hT ht];by_cases h6:kindOf (P.bd s)=6
 ·have hd:dstL P s=stepsL P.bd P.ep s:=by unfold dstL;rw [Int.toNat_natCast,h6];rfl
  rw [hd,steps_iff (sd:=P.turn) (by omega) (by rw [Int.toNat_natCast];exact hsd)];have hep:-1≤(psOf P).ep∧(psOf P).ep≤63:=by
   show-1≤P.ep∧P.ep≤63;rcases passed_get hT hV.passed with e|e<;>omega
  have hpass:=passed_get hT hV.passed;have hx6:P.bd s=6+6*P.turn:=by rcases side_of hx h0 with ⟨a,b,c,d⟩|⟨a,b,c⟩<;>omega
  have hpt:pType (P.bd s)=6:=by
   rw [hx6];rcases (by omega:P.turn=0∨P.turn=1) with e|e<;>rw [e]<;>rfl
  have hpm:possMv (boardOf P.bd) (psOf P) (pType (P.bd s)) s=pawnMv (boardOf P.bd) (psOf P) s:=by rw [hpt];rfl
  rw [hpm];simp only [Int.toNat_natCast];rcases turnOf_cases hT with ⟨e,e2⟩|⟨e,e2⟩
  ·rw [pawnMv_w h (by show turnOf P.turn=1;exact e2) hep hs ht,e];show (_∧_)↔_;have hepe:(psOf P).ep=P.ep:=rfl;rw [hepe];rw [e] at hpass;unfold stepB;simp only [Bool.or_eq_true,Bool.and_eq_true,bne_iff_ne,beq_iff_eq,Int.toNat_natCast];have e8:((s:Int)+8*(1-2*0)).toNat=s+8:=by omega
   rw [e8];have hside:∀y:Int,0≤y∧y≤12→(sideOf y=0∨sideOf y=1)∧(sideOf y=1↔7≤y):=by intro y hy;unfold sideOf;split<;>omega
   have hst:=hside (P.bd t) hxt;constructor
   ·rintro ⟨hm,hn⟩;refine ⟨⟨by omega,?_⟩,hn⟩;rcases hm with ⟨ha,hb,hc⟩|⟨ha,hb⟩|⟨ha,hb,hc,hd2,he2⟩
    ·refine Or.inr (Or.inr ⟨by omega,by omega,?_⟩);rcases hc with hc|hc
     ·exact Or.inl ⟨by omega,by omega⟩
     rcases hpass with hp|⟨hp1,hp2,hp3,_⟩
     ·omega
     have:P.ep.toNat=t:=by omega
     rw [this] at hp3;exact Or.inr ⟨⟨hp3,hc⟩,by omega⟩
    ·exact Or.inl ⟨by omega,hb⟩
    exact Or.inr (Or.inl ⟨by omega,by omega,hd2,he2⟩)
   rintro ⟨⟨hr,hm⟩,hn⟩;refine ⟨?_,hn⟩;rcases hm with ⟨ha,hb⟩|⟨ha,hb,hc,hd2⟩|⟨ha,hb,hc⟩
   ·exact Or.inr (Or.inl ⟨by omega,hb⟩)
   ·exact Or.inr (Or.inr ⟨by omega,by omega,by omega,hc,hd2⟩)
   refine Or.inl ⟨by omega,by omega,?_⟩;rcases hc with ⟨hc1,hc2⟩|⟨⟨hc1,hc2⟩,hc3⟩
   ·exact Or.inl (by omega)
   exact Or.inr hc2
  rw [pawnMv_b h (by show turnOf P.turn=2;exact e2) hep hs ht,e];show (_∧_)↔_;have hepe:(psOf P).ep=P.ep:=rfl;rw [hepe];rw [e] at hpass;unfold stepB;simp only [Bool.or_eq_true,Bool.and_eq_true,bne_iff_ne,beq_iff_eq,Int.toNat_natCast];have hside:∀y:Int,0≤y∧y≤12→(sideOf y=0∨sideOf y=1)∧(sideOf y=1↔7≤y):=by intro y hy;unfold sideOf;split<;>omega
  have hst:=hside (P.bd t) hxt;constructor
  ·rintro ⟨hm,hn⟩;refine ⟨⟨by omega,?_⟩,hn⟩;rcases hm with ⟨ha,hb,hc⟩|⟨ha,hb⟩|⟨ha,hb,hc,hd2,he2⟩
   ·refine Or.inr (Or.inr ⟨by omega,by omega,?_⟩);rcases hc with hc|hc
    ·exact Or.inl ⟨by omega,by omega⟩
    rcases hpass with hp|⟨hp1,hp2,hp3,_⟩
    ·omega
    have:P.ep.toNat=t:=by omega
    rw [this] at hp3;exact Or.inr ⟨⟨hp3,hc⟩,by omega⟩
   ·exact Or.inl ⟨by omega,hb⟩
   have e8:((s:Int)+8*(1-2*1)).toNat=t+8:=by omega
   exact Or.inr (Or.inl ⟨by omega,by omega,by rw [e8];exact hd2,he2⟩)
  rintro ⟨⟨hr,hm⟩,hn⟩;refine ⟨?_,hn⟩;rcases hm with ⟨ha,hb⟩|⟨ha,hb,hc,hd2⟩|⟨ha,hb,hc⟩
  ·exact Or.inr (Or.inl ⟨by omega,hb⟩)
  ·have e8:((s:Int)+8*(1-2*1)).toNat=t+8:=by omega
   rw [e8] at hc;exact Or.inr (Or.inr ⟨by omega,by omega,by omega,hc,hd2⟩)
  refine Or.inl ⟨by omega,by omega,?_⟩;rcases hc with ⟨hc1,hc2⟩|⟨⟨hc1,hc2⟩,hc3⟩
  ·exact Or.inl (by omega)
  exact Or.inr hc2
 have hd:dstL P s=reachL P.bd s:=by unfold dstL;rw [Int.toNat_natCast,show (kindOf (P.bd s)==6)=false from beq_eq_false_iff_ne.2 h6];rfl
 rw [hd,reach_iff hV.bd (by omega) (by rw [Int.toNat_natCast];exact h0) (by rw [Int.toNat_natCast];exact h6),possMv_hit h _ hs ht h0 h6];simp only [Int.toNat_natCast];constructor
 ·rintro ⟨a,b⟩;exact ⟨⟨by omega,a⟩,b⟩
 rintro ⟨⟨_,a⟩,b⟩;exact ⟨a,b⟩
structure StdM(P:SP)(f t:Nat)(p:Int):Prop where
 hf:f<64
 ht:t<64
 x0:P.bd f≠0
 side:sideOf (P.bd f)=P.turn
 dst:(t:Int)∈dstL P f
 own:¬(P.bd t≠0∧sideOf (P.bd t)=P.turn)
 pr:p=0∨(kindOf (P.bd f)=6∧((t:Int)/8=7-7*P.turn)∧2≤p∧p≤5)
def EPm(P:SP)(f t:Nat):Prop:=P.bd f=6+6*P.turn∧P.bd t=0∧(t:Int)=P.ep∧((t:Int)%8-(f:Int)%8=1∨(t:Int)%8-(f:Int)%8=-1)∧(t:Int)/8-(f:Int)/8=1-2*P.turn
theorem std_hit{P:SP}(hV:ValidS P){f t:Nat}{p:Int}(h:StdM P f t p)(h6:kindOf (P.bd f)≠6):hitS P.bd f t=true:=by
 have hd:dstL P f=reachL P.bd f:=by unfold dstL;rw [Int.toNat_natCast,show (kindOf (P.bd f)==6)=false from beq_eq_false_iff_ne.2 h6];rfl
 have:=h.dst;have hf:=h.hf;rw [hd,reach_iff hV.bd (by omega) (by rw [Int.toNat_natCast];exact h.x0) (by rw [Int.toNat_natCast];exact h6)] at this;simpa only [Int.toNat_natCast] using this.2
theorem std_pawn{P:SP}(hV:ValidS P){f t:Nat}{p:Int}(h:StdM P f t p)(h6:kindOf (P.bd f)=6):P.bd f=6+6*P.turn∧
  (((t:Int)=f+8*(1-2*P.turn)∧P.bd t=0)∨((t:Int)=f+16*(1-2*P.turn)∧(f:Int)/8=1+5*P.turn∧P.bd ((f:Int)+8*(1-2*P.turn)).toNat=0∧P.bd t=0)∨
   (((t:Int)%8-(f:Int)%8=1∨(t:Int)%8-(f:Int)%8=-1)∧(t:Int)/8-(f:Int)/8=1-2*P.turn∧stepB P.bd P.ep P.turn t=true)):=by
 have hf:=h.hf;have hd:dstL P f=stepsL P.bd P.ep f:=by unfold dstL;rw [Int.toNat_natCast,h6];rfl
 have:=h.dst;rw [hd,steps_iff (sd:=P.turn) (by omega) (by rw [Int.toNat_natCast];exact h.side)] at this;simp only [Int.toNat_natCast] at this;have hx:=hV.bd f h.hf;refine ⟨by rcases side_of hx h.x0 with ⟨a,b,c,d⟩|⟨a,b,c⟩<;>have:=h.side<;>omega,this.2⟩
theorem std_ne{P:SP}(hV:ValidS P){f t:Nat}{p:Int}(h:StdM P f t p):f≠t:=by
 have hT:=hV.turn;by_cases h6:kindOf (P.bd f)=6
 ·have:=(std_pawn hV h h6).2;rintro rfl;omega
 have:=std_hit hV h h6;rintro rfl;unfold hitS at this;simp at this
theorem safe_at{P:SP}(hV:ValidS P){k:Nat}(hk:k<64)(h1:P.bd k=1+6*(1-P.turn)):attS P.bd k P.turn=false:=by
 have hT:=hV.turn;have hc:countS P.bd (1+6*(1-P.turn))=1:=by
  rcases (by omega:P.turn=0∨P.turn=1) with e|e<;>rw [e]
  ·exact hV.kb
  exact hV.kw
 obtain ⟨ho,hk0⟩:=only_of_count hc;have:=ho.2.2 k hk h1;rw [this];exact hV.safe
theorem att_of{bd:Nat→Int}{f t:Nat}{o:Int}(hf:f<64)(h0:bd f≠0)(hs:sideOf (bd f)=o)(hh:hitS bd f t=true):attS bd t o=true:=by
 unfold attS;rw [any64];exact ⟨f,hf,by rw [bne_iff_ne.2 h0,beq_iff_eq.2 hs,hh];rfl⟩
theorem pawn_hit{P:SP}{f t:Nat}(hV:ValidS P)(hf:f<64)(ht:t<64)(hx:P.bd f=6+6*P.turn)(h1:(t:Int)%8-(f:Int)%8=1∨(t:Int)%8-(f:Int)%8=-1)(h2:(t:Int)/8-(f:Int)/8=1-2*P.turn):hitS P.bd f t=true:=by
 have hT:=hV.turn;have h6:kindOf (P.bd f)=6:=by rw [hx];unfold kindOf;split<;>omega
 have hsd:sideOf (P.bd f)=P.turn:=by rw [hx];unfold sideOf;split<;>omega
 have hd:df f t=1∨df f t=-1:=by unfold df;omega
 unfold hitS;rw [h6,hsd,show (P.bd f !=0)=true from bne_iff_ne.2 (by omega),show decide (f≠t)=true by rw [decide_eq_true_eq];omega];simp only [Bool.true_and,show ((6:Int)=1)=False by decide,show ((6:Int)=5)=False by decide,if_false,if_true,Bool.and_eq_true,beq_iff_eq];exact ⟨(sym hf ht).one.2 hd,by unfold dr;omega⟩
theorem std_nk{P:SP}(hV:ValidS P){f t:Nat}{p:Int}(h:StdM P f t p):P.bd t≠1∧P.bd t≠7:=by
 have hT:=hV.turn;have hno:P.bd t≠1+6*(1-P.turn):=by
  intro hk;have hs:=safe_at hV h.ht hk;by_cases h6:kindOf (P.bd f)=6
  ·obtain ⟨hx,hc⟩:=std_pawn hV h h6;rcases hc with ⟨_,hc⟩|⟨_,_,_,hc⟩|⟨h1,h2,_⟩
   ·omega
   ·omega
   have:=att_of h.hf h.x0 h.side (pawn_hit hV h.hf h.ht hx h1 h2);rw [hs] at this;cases this
  have:=att_of h.hf h.x0 h.side (std_hit hV h h6);rw [hs] at this;cases this
 have hown:P.bd t≠1+6*P.turn:=by
  intro hk;exact h.own ⟨by omega,by rw [hk];unfold sideOf;split<;>omega⟩
 omega
theorem std_near{P:SP}(hV:ValidS P){f t:Nat}{p:Int}(h:StdM P f t p)(h1:kindOf (P.bd f)=1):-1≤(t:Int)%8-(f:Int)%8∧(t:Int)%8-(f:Int)%8≤1∧-1≤(t:Int)/8-(f:Int)/8∧(t:Int)/8-(f:Int)/8≤1:=by
 have:=std_hit hV h (by omega);unfold hitS at this;rw [h1] at this;simp only [if_true,Bool.and_eq_true] at this;have hn:=(sym h.hf h.ht).nearI.1 this.2.2;unfold df dr at hn;omega
theorem std_cast{P:SP}(hV:ValidS P){f t:Nat}{p:Int}(h:StdM P f t p):castlesB P.bd f t=false:=by
 have hf:=h.hf;have ht:=h.ht;unfold castlesB;rw [Int.toNat_natCast];by_cases h1:kindOf (P.bd f)=1
 ·have:=std_near hV h h1;rw [Bool.and_eq_false_iff];right;rw [Bool.or_eq_false_iff,beq_eq_false_iff_ne,beq_eq_false_iff_ne];omega
 rw [show (kindOf (P.bd f)==1)=false from beq_eq_false_iff_ne.2 h1];rfl
theorem std_ep{P:SP}(hV:ValidS P){f t:Nat}{p:Int}(h:StdM P f t p):
  (EPm P f t∧p=0)∨((P.bd t=0→kindOf (P.bd f)=6→(f:Int)%8=(t:Int)%8)∧¬(P.bd t=0∧(t:Int)=P.ep∧kindOf (P.bd f)=6)):=by
 have hT:=hV.turn;have hf:=h.hf;have ht:=h.ht;by_cases h6:kindOf (P.bd f)=6
 ·obtain ⟨hx,hc⟩:=std_pawn hV h h6;have hp:=passed_get hT hV.passed;rcases hc with ⟨e,h0⟩|⟨e,hr,h8,h0⟩|⟨h1,h2,h3⟩
  ·refine Or.inr ⟨fun _ _=>by omega,?_⟩;rintro ⟨_,he,_⟩;rcases hp with hp|⟨hp1,hp2,hp3,hp4,hp5⟩
   ·omega
   have:(P.ep-8*(1-2*P.turn)).toNat=f:=by omega
   rw [this] at hp4;omega
  ·refine Or.inr ⟨fun _ _=>by omega,?_⟩;rintro ⟨_,he,_⟩;rcases hp with hp|⟨hp1,hp2,hp3,hp4,hp5⟩
   ·omega
   have:(P.ep-8*(1-2*P.turn)).toNat=((f:Int)+8*(1-2*P.turn)).toNat:=by omega
   rw [this] at hp4;omega
  unfold stepB at h3;simp only [Bool.or_eq_true,Bool.and_eq_true,bne_iff_ne,beq_iff_eq,Int.toNat_natCast] at h3;rcases h3 with ⟨h3,_⟩|⟨⟨h3,h4⟩,h5⟩
  ·exact Or.inr ⟨fun h0=>absurd h0 h3,fun hh=>h3 hh.1⟩
  refine Or.inl ⟨⟨hx,h3,h4,h1,h2⟩,?_⟩;rcases h.pr with hp|⟨_,hp,_⟩
  ·exact hp
  omega
 exact Or.inr ⟨fun _ h'=>absurd h' h6,fun hh=>h6 hh.2.2⟩
theorem upd2{bd:Nat→Int}{a b:Nat}{u v:Int}(s:Nat):upd (upd bd a u) b v s=if s=b then v else if s=a then u else bd s:=rfl
theorem mk4_normal{bd:Nat→Int}{turn p:Int}{f t:Nat}(hn:bd t=0→kindOf (bd f)=6→(f:Int)%8=(t:Int)%8)(hc:castlesB bd f t=false)(s:Nat):
  mk4 bd turn f t p s=upd (upd bd f 0) t (if p≠0 then p+6*turn else bd f) s:=by
 have h1:∀s,s≠t→mk1 bd f t s=bd s:=by
  intro s hs;unfold mk1;cases htk:takesI bd f t
  ·rfl
  simp only [cond_true];have hq:takesQ bd f t=t:=by
   unfold takesQ;unfold takesI at htk;cases hb:(bd ((t:Int)).toNat !=0)
   ·exfalso;rw [hb,Bool.false_or] at htk;simp only [Bool.and_eq_true,beq_iff_eq,bne_iff_ne,Int.toNat_natCast] at htk;rw [Int.toNat_natCast] at hb;exact htk.2 (hn (by simpa using hb) htk.1)
   rfl
  rw [hq,Int.toNat_natCast,upd_ne hs]
 have h2:∀s,mk2 bd f t s=upd (upd bd f 0) t (bd f) s:=by
  intro s;unfold mk2;rw [upd2,upd2,Int.toNat_natCast,Int.toNat_natCast];by_cases e:s=t
  ·rw [if_pos e,if_pos e]
  rw [if_neg e,if_neg e];split
  ·rfl
  exact h1 s e
 unfold mk4;rw [hc];simp only [cond_false];unfold mk3;by_cases hp:p=0
 ·subst hp;simp only [show ((0:Int) !=0)=false from rfl,cond_false,ne_eq,not_true,if_false];exact h2 s
 rw [show (p !=0)=true from bne_iff_ne.2 hp,if_pos hp];simp only [cond_true,Int.toNat_natCast];by_cases e:s=t
 ·rw [e,upd_at,upd_at]
 rw [upd_ne e,upd_ne e,h2 s,upd_ne e]
theorem mk4_ep{bd:Nat→Int}{turn:Int}{f t q:Nat}(h6:kindOf (bd f)=6)(h0:bd t=0)(hne:(f:Int)%8≠(t:Int)%8)(hq:8*((f:Int)/8)+(t:Int)%8=q)(s:Nat):
  mk4 bd turn f t 0 s=upd (upd (upd bd q 0) f 0) t (bd f) s:=by
 have hc:castlesB bd f t=false:=by
  unfold castlesB;rw [Int.toNat_natCast,h6];rfl
 unfold mk4;rw [hc];simp only [cond_false];unfold mk3 mk2 mk1 takesI takesQ;simp only [Int.toNat_natCast,h0,h6,show ((0:Int) !=0)=false from rfl,cond_false,Bool.false_or,show ((6:Int)==6)=true from rfl,show (((f:Int)%8) !=((t:Int)%8))=true from bne_iff_ne.2 hne,Bool.and_true,cond_true,hq]
theorem BRep.congr{B:Bd}{bd bd':Nat→Int}(h:BRep B bd)(e:∀s,s<64→bd s=bd' s):BRep B bd':=
 ⟨h.u,fun k h1 h2 s hs=>by rw [←e s hs];exact h.bit k h1 h2 s hs,h.uw,h.ub,h.ue,fun s hs=>by rw [←e s hs];exact h.white s hs,fun s hs=>by rw [←e s hs];exact h.black s hs,fun s hs=>by rw [←e s hs];exact h.empty s hs,fun s hs=>by rw [←e s hs];exact h.rng s hs⟩
theorem OnlyAt.congr{bd bd':Nat→Int}{p:Int}{k:Nat}(h:OnlyAt bd p k)(e:∀s,s<64→bd s=bd' s):OnlyAt bd' p k:=
 ⟨h.1,by rw [←e k h.1];exact h.2.1,fun s hs hb=>h.2.2 s hs (by rw [e s hs];exact hb)⟩
theorem KRep.congr{B:Bd}{bd bd':Nat→Int}(h:KRep B bd)(e:∀s,s<64→bd s=bd' s):KRep B bd':=by
 obtain ⟨⟨a,ha,ha'⟩,⟨b,hb,hb'⟩⟩:=h;exact ⟨⟨a,ha.congr e,ha'⟩,⟨b,hb.congr e,hb'⟩⟩
theorem upd_only{bd:Nat→Int}{p v:Int}{k q:Nat}(h:OnlyAt bd p k)(hq:q≠k)(hv:v≠p):OnlyAt (upd bd q v) p k:=by
 refine ⟨h.1,by rw [upd_ne (Ne.symm hq)];exact h.2.1,fun s hs hb=>?_⟩;by_cases e:s=q
 ·subst e;rw [upd_at] at hb;exact absurd hb hv
 rw [upd_ne e] at hb;exact h.2.2 s hs hb
theorem move_only{bd:Nat→Int}{kp y:Int}{k f t:Nat}(h:OnlyAt bd kp k)(hk0:kp≠0)(ht:t<64)(hne:f≠t)(htk:bd t≠kp)(h1:bd f=kp→y=kp)(h2:bd f≠kp→y≠kp)(hf:f<64):OnlyAt (upd (upd bd f 0) t y) kp (if k=f then t else k):=by
 by_cases e:k=f
 ·subst e;rw [if_pos rfl];refine ⟨ht,by rw [upd_at];exact h1 h.2.1,fun s hs hb=>?_⟩;by_cases e2:s=t
  ·exact e2
  rw [upd_ne e2] at hb;by_cases e3:s=k
  ·subst e3;rw [upd_at] at hb;exact absurd hb.symm hk0
  rw [upd_ne e3] at hb;exact absurd (h.2.2 s hs hb) e3
 rw [if_neg e];have hfk:bd f≠kp:=fun hh=>e (h.2.2 f hf hh).symm;have hkt:k≠t:=fun hh=>htk (by rw [←hh];exact h.2.1);refine ⟨h.1,by rw [upd_ne hkt,upd_ne e];exact h.2.1,fun s hs hb=>?_⟩;by_cases e2:s=t
 ·subst e2;rw [upd_at] at hb;exact absurd hb (h2 hfk)
 rw [upd_ne e2] at hb;by_cases e3:s=f
 ·subst e3;rw [upd_at] at hb;exact absurd hb.symm hk0
 rw [upd_ne e3] at hb;exact h.2.2 s hs hb
theorem moveK_rep{B B':Bd}{bd bd':Nat→Int}{f t:Nat}(hK:KRep B bd)(hw:B'.wk=B.wk)(hb:B'.bk=B.bk){M:Mv}(e1:M.s1=f)(e2:M.s2=t)
  (h1:∀k,OnlyAt bd 1 k→OnlyAt bd' 1 (if k=f then t else k))(h7:∀k,OnlyAt bd 7 k→OnlyAt bd' 7 (if k=f then t else k)):KRep (moveK B' M) bd':=by
 obtain ⟨⟨a,ha,ha'⟩,⟨b,hb1,hb'⟩⟩:=hK;have hab:a≠b:=by rintro rfl;have:=ha.2.1;have:=hb1.2.1;omega
 have k1:=h1 a ha;have k7:=h7 b hb1;unfold moveK;rw [e1,e2,hw,hb,ha',hb'];by_cases ea:a=f
 ·rw [if_pos ea] at k1;rw [if_neg (by omega)] at k7;rw [if_pos (by omega)];exact ⟨⟨t,k1,rfl⟩,⟨b,k7,by first|rfl|exact hb.trans hb'⟩⟩
 rw [if_neg ea] at k1;rw [if_neg (by omega)];by_cases eb:b=f
 ·rw [if_pos eb] at k7;rw [if_pos (by omega)];exact ⟨⟨a,k1,by first|rfl|exact hw.trans ha'⟩,⟨t,k7,rfl⟩⟩
 rw [if_neg eb] at k7;rw [if_neg (by omega)];exact ⟨⟨a,k1,hw.trans ha'⟩,⟨b,k7,hb.trans hb'⟩⟩
theorem moveK_brep{B:Bd}{bd:Nat→Int}(h:BRep B bd)(M:Mv):BRep (moveK B M) bd:=by
 unfold moveK;split
 ·exact kings_rep h _ B.bk
 split
 ·exact kings_rep h B.wk _
 exact h
theorem promo_k(M:Mv)(p:Int)(B:Bd):(updPromo M p B).wk=B.wk∧(updPromo M p B).bk=B.bk:=by unfold updPromo;cases (M.promo !=(0:Int))<;>exact ⟨rfl,rfl⟩
theorem ep_k(M:Mv)(p:Int)(B:Bd):(updEP M p B).wk=B.wk∧(updEP M p B).bk=B.bk:=by unfold updEP;cases hasTag M 8<;>cases (pColor p==(1:Int))<;>exact ⟨rfl,rfl⟩
theorem cast_k(M:Mv)(p:Int)(B:Bd):(updCastle M p B).wk=B.wk∧(updCastle M p B).bk=B.bk:=by
 unfold updCastle;cases ((pColor p==(1:Int))&&(hasTag M (1:Int)))<;>cases ((pColor p==(1:Int))&&(hasTag M (2:Int)))<;>cases ((pColor p==(2:Int))&&(hasTag M (1:Int)))<;>cases ((pColor p==(2:Int))&&(hasTag M (2:Int)))<;>exact ⟨rfl,rfl⟩
theorem chain_k(M:Mv)(p:Int)(B:Bd):(calcB (updCastle M p (updEP M p (updPromo M p (updTo B M 12))))).wk=B.wk∧(calcB (updCastle M p (updEP M p (updPromo M p (updTo B M 12))))).bk=B.bk:=by
 have h1:=cast_k M p (updEP M p (updPromo M p (updTo B M 12)));have h2:=ep_k M p (updPromo M p (updTo B M 12));have h3:=promo_k M p (updTo B M 12);exact ⟨h1.1.trans (h2.1.trans h3.1),h1.2.trans (h2.2.trans h3.2)⟩
theorem castle_id{M:Mv}{p:Int}{B:Bd}(h1:hasTag M 1=false)(h2:hasTag M 2=false):updCastle M p B=B:=by
 unfold updCastle;rw [h1,h2];simp
theorem ep_id{M:Mv}{p:Int}{B:Bd}(h8:hasTag M 8=false):updEP M p B=B:=by unfold updEP;rw [h8];rfl
theorem promo_id{M:Mv}{p:Int}{B:Bd}(h:M.promo=0):updPromo M p B=B:=by unfold updPromo;rw [h];rfl
theorem mk4_rng'{P:SP}(hV:ValidS P){f t:Nat}{p:Int}(hf:f<64)(hp:p=0∨(2≤p∧p≤5)):∀i,i<64→0≤mk4 P.bd P.turn f t p i∧mk4 P.bd P.turn f t p i≤12:=
 mk4_rng hV.bd hV.turn (by omega) (by omega)
theorem std_pr{P:SP}{f t:Nat}{p:Int}(h:StdM P f t p):p=0∨(2≤p∧p≤5):=by rcases h.pr with h|h<;>omega
theorem next_std{P:SP}(hV:ValidS P){B:Bd}(hB:BRep B P.bd)(hK:KRep B P.bd){f t:Nat}{p tags:Int}(h:StdM P f t p)(h0:tagb tags 0=false)(h1:tagb tags 1=false)(h3:tagb tags 3=true↔EPm P f t):
  BRep (updB B ⟨tags,f,t,p⟩) (mk4 P.bd P.turn f t p)∧KRep (updB B ⟨tags,f,t,p⟩) (mk4 P.bd P.turn f t p):=by
 have hf:=h.hf;have ht:=h.ht;have hT:=hV.turn;have hne:=std_ne hV h;have hnk:=std_nk hV h;have hx:=hV.bd f hf;have hx0:=h.x0;have hp1:pieceAt B (f:Int)=P.bd f:=hB.pieceAt hf;have hcol:pColor (P.bd f)=P.turn+1:=by rw [pColor_side hx h.x0,h.side]
 have t1:hasTag (⟨tags,f,t,p⟩:Mv) 1=false:=by rw [tag1];exact h0
 have t2:hasTag (⟨tags,f,t,p⟩:Mv) 2=false:=by rw [tag2];exact h1
 have hb1:=updTo_bits hB.bits (M:=⟨tags,f,t,p⟩) (by dsimp only;omega) (by dsimp only;omega) (by dsimp only;omega);dsimp only at hb1;rw [Int.toNat_natCast,Int.toNat_natCast] at hb1;have hk:=chain_k (⟨tags,f,t,p⟩:Mv) (P.bd f) B;have hpr:=std_pr h;have hrng:=mk4_rng' hV (t:=t) hf hpr;have e:updB B ⟨tags,f,t,p⟩=moveK (calcB (updCastle ⟨tags,f,t,p⟩ (P.bd f) (updEP ⟨tags,f,t,p⟩ (P.bd f) (updPromo ⟨tags,f,t,p⟩ (P.bd f) (updTo B ⟨tags,f,t,p⟩ 12))))) ⟨tags,f,t,p⟩:=by
  unfold updB;dsimp only;rw [hp1]
 rw [e];rw [castle_id t1 t2] at hk⊢;rcases std_ep hV h with ⟨hE,hp0⟩|⟨hn,hne2⟩
 ·have t8:hasTag (⟨tags,f,t,p⟩:Mv) 8=true:=by rw [tag8];exact h3.2 hE
  obtain ⟨ex,et,eep,ea,er⟩:=hE;subst hp0;rw [promo_id rfl] at hk⊢;have hp:=passed_get hT hV.passed;obtain ⟨q,hq⟩:∃q:Nat,(8*((f:Int)/8)+(t:Int)%8)=q:=⟨(8*((f:Int)/8)+(t:Int)%8).toNat,by omega⟩;have hq64:q<64:=by omega
  have hqt:(t:Int)=q+8*(1-2*P.turn):=by omega
  have hqb:P.bd q=6+6*(1-P.turn):=by
   rcases hp with hp|⟨_,_,_,hp,_⟩
   ·omega
   rw [←eep,show ((t:Int)-8*(1-2*P.turn)).toNat=q by omega] at hp;exact hp
  have hqf:q≠f:=by omega
  have hqt':q≠t:=by omega
  have h6:kindOf (P.bd f)=6:=by rw [ex];unfold kindOf;split<;>omega
  have hm4:∀s,mk4 P.bd P.turn f t 0 s=upd (upd (upd P.bd q 0) f 0) t (P.bd f) s:=mk4_ep h6 et (by omega) hq;have hb2:BBits (updEP ⟨tags,f,t,0⟩ (P.bd f) (updTo B ⟨tags,f,t,0⟩ 12)) (upd (upd (upd P.bd f 0) t (P.bd f)) q 0):=by
   refine updEP_bits hb1 (by dsimp only;omega) t8 hq64 ?_;rw [upd_ne hqt',upd_ne hqf,hqb,hcol];dsimp only;rcases (by omega:P.turn=0∨P.turn=1) with e0|e0<;>rw [e0] at hqt⊢
   ·exact Or.inl ⟨by omega,by omega,by omega⟩
   exact Or.inr ⟨by omega,by omega,by omega⟩
  have hb3:=hb2.congr (bd':=mk4 P.bd P.turn f t 0) (fun s hs=>by
   rw [hm4 s]
   unfold upd
   by_cases e1:s=t
   ·rw [if_pos e1,if_neg (by omega),if_pos e1]
   by_cases e2:s=q
   ·simp only [if_neg e1,if_pos e2]
    split<;>rfl
   simp only [if_neg e1,if_neg e2])
  have hr:=moveK_brep (calc_rep hb3 hrng) ⟨tags,f,t,0⟩;have only:∀kp k,(kp=1∨kp=7)→OnlyAt P.bd kp k→OnlyAt (mk4 P.bd P.turn f t 0) kp (if k=f then t else k):=by
   intro kp k hkp ho;have hkq:q≠k:=by rintro rfl;have:=ho.2.1;omega
   have h1:=upd_only (v:=0) ho hkq (by omega);have h2:=move_only (y:=P.bd f) h1 (by omega) ht hne (by rw [upd_ne (Ne.symm hqt')];omega) (by rw [upd_ne (Ne.symm hqf)];exact id) (by rw [upd_ne (Ne.symm hqf)];exact id) hf;exact h2.congr fun s _=>(hm4 s).symm
  exact ⟨hr,moveK_rep hK hk.1 hk.2 rfl rfl (fun k=>only 1 k (Or.inl rfl)) (fun k=>only 7 k (Or.inr rfl))⟩
 have t8:hasTag (⟨tags,f,t,p⟩:Mv) 8=false:=by
  rw [tag8];cases hh:tagb tags 3
  ·rfl
  exfalso;obtain ⟨ex,et,eep,_⟩:=h3.1 hh;exact hne2 ⟨et,eep,by rw [ex];unfold kindOf;split<;>omega⟩
 rw [ep_id t8] at hk⊢;have hm4:=mk4_normal (turn:=P.turn) (p:=p) hn (std_cast hV h);have hb2:BBits (updPromo ⟨tags,f,t,p⟩ (P.bd f) (updTo B ⟨tags,f,t,p⟩ 12)) (mk4 P.bd P.turn f t p):=by
  by_cases hp:p=0
  ·subst hp;rw [promo_id rfl];exact hb1.congr fun s _=>by rw [hm4 s];rfl
  have:=updPromo_bits hb1 (M:=⟨tags,f,t,p⟩) (by dsimp only;omega) (p1:=P.bd f) (by omega) (by dsimp only;rw [Int.toNat_natCast,upd_at]) (by dsimp only;rw [hcol];unfold newP;omega) hp;dsimp only at this;rw [Int.toNat_natCast,hcol] at this;refine this.congr fun s _=>?_;rw [hm4 s,if_pos hp];unfold newP upd;split
  ·omega
  rfl
 have hr:=moveK_brep (calc_rep hb2 hrng) ⟨tags,f,t,p⟩;have only:∀kp k,(kp=1∨kp=7)→OnlyAt P.bd kp k→OnlyAt (mk4 P.bd P.turn f t p) kp (if k=f then t else k):=by
  intro kp k hkp ho;have h2:=move_only (y:=if p≠0 then p+6*P.turn else P.bd f) ho (by omega) ht hne (by omega) (fun hh=>?_) (fun hh=>?_) hf
  ·exact h2.congr fun s _=>(hm4 s).symm
  ·rcases h.pr with hp|⟨h6,_⟩
   ·rw [if_neg (by omega)];exact hh
   exfalso;rw [hh] at h6;unfold kindOf at h6;split at h6<;>omega
  rcases h.pr with hp|⟨h6,_⟩
  ·rw [if_neg (by omega)];exact hh
  split<;>omega
 exact ⟨hr,moveK_rep hK hk.1 hk.2 rfl rfl (fun k=>only 1 k (Or.inl rfl)) (fun k=>only 7 k (Or.inr rfl))⟩
theorem canC_bits:∀n,n<16→(canC (castStr (n:Nat)) 1 1=castBit n 0)∧(canC (castStr (n:Nat)) 1 2=castBit n 1)∧(canC (castStr (n:Nat)) 2 1=castBit n 2)∧(canC (castStr (n:Nat)) 2 2=castBit n 3):=by decide+kernel
theorem castOff_bits:∀n,n<16→∀k,k<4→castOff (n:Nat) k=!(castBit (n:Nat) k):=by decide+kernel
def sumB(b0 b1 b2 b3:Bool):Int:=
 let s1:Int:=bif b0 then 0+1 else 0
 let s2:Int:=bif b1 then s1+2 else s1
 let s3:Int:=bif b2 then s2+4 else s2
 bif b3 then s3+8 else s3
def sumChk:Bool:=(List.range 16).all fun n=>[false,true].all fun b0=>[false,true].all fun b1=>[false,true].all fun b2=>[false,true].all fun b3=>
 !(sumB b0 b1 b2 b3==((n:Nat):Int))||((b0==castBit (n:Nat) 0)&&((b1==castBit (n:Nat) 1)&&((b2==castBit (n:Nat) 2)&&(b3==castBit (n:Nat) 3))))
theorem sumChk_ok:sumChk=true:=by decide+kernel
theorem bool_mem(b:Bool):b∈[false,true]:=by cases b<;>simp
theorem sum_bits{n:Nat}(hn:n<16){b0 b1 b2 b3:Bool}(h:sumB b0 b1 b2 b3=((n:Nat):Int)):b0=castBit (n:Nat) 0∧b1=castBit (n:Nat) 1∧b2=castBit (n:Nat) 2∧b3=castBit (n:Nat) 3:=by
 have h1:=List.all_eq_true.1 (List.all_eq_true.1 (List.all_eq_true.1 (List.all_eq_true.1 (List.all_eq_true.1 sumChk_ok n (List.mem_range.2 hn)) b0 (bool_mem b0)) b1 (bool_mem b1)) b2 (bool_mem b2)) b3 (bool_mem b3);rw [h] at h1;simpa using h1
theorem right_home{P:SP}(hV:ValidS P){r:Int}(hr:0≤r∧r≤3):castBit P.castle r.toNat=rightB P r:=by
 have hc:=hV.castle;obtain ⟨n,hn⟩:∃n:Nat,P.castle=n:=⟨P.castle.toNat,by omega⟩;have h:=hV.rights;unfold rightsS at h;have h2:=sum_bits (n:=n) (by omega) (b0:=rightB P 0) (b1:=rightB P 1) (b2:=rightB P 2) (b3:=rightB P 3) (by rw [←hn,←h];rfl);rw [hn];rcases (by omega:r=0∨r=1∨r=2∨r=3) with rfl|rfl|rfl|rfl
 ·exact h2.1.symm
 ·exact h2.2.1.symm
 ·exact h2.2.2.1.symm
 exact h2.2.2.2.symm
structure CastM(P:SP)(r:Int):Prop where
 hr:r=2*P.turn∨r=2*P.turn+1
 king:P.bd (homeK r).toNat=1+6*P.turn
 rook:P.bd (homeR r).toNat=3+6*P.turn
 mid:P.bd (homeK r+cwS r).toNat=0
 dst:P.bd (homeK r+(2*cwS r)).toNat=0
theorem freeTo_all{P:SP}{r:Int}:∀n:Nat,freeTo P r n=true↔(attS P.bd (homeK r+cwS r).toNat (1-P.turn)=false∧∀j:Nat,j<n→P.bd (csq r j).toNat=0)
 |0=>by simp [freeTo]
 |n+1=>by
  have e:freeTo P r (n+1)=(freeTo P r n&&(P.bd (csq r (n:Int)).toNat==(0:Int))):=rfl;rw [e,Bool.and_eq_true,freeTo_all n,beq_iff_eq];constructor
  ·rintro ⟨⟨a,b⟩,c⟩;refine ⟨a,fun j hj=>?_⟩;by_cases e:j=n
   ·subst e;exact c
   ·exact b j (by omega)
  ·rintro ⟨a,b⟩;exact ⟨⟨a,fun j hj=>b j (by omega)⟩,b n (by omega)⟩
theorem csq_vals{r:Int}(hr:0≤r∧r≤3):csq r 0=homeK r+cwS r∧csq r 1=homeK r+(2*cwS r)∧2≤(cnS r).toNat:=by
 rcases (by omega:r=0∨r=1∨r=2∨r=3) with rfl|rfl|rfl|rfl<;>decide
theorem castR_iff{P:SP}(hV:ValidS P){r:Int}(hr:r=2*P.turn∨r=2*P.turn+1)(m:Sm):m∈castR P r↔
  (castBit P.castle r.toNat=true∧attS P.bd (homeK r).toNat (1-P.turn)=false∧attS P.bd (homeK r+cwS r).toNat (1-P.turn)=false∧∀j:Nat,j<(cnS r).toNat→P.bd (csq r j).toNat=0)∧m=⟨homeK r,homeK r+(2*cwS r),0⟩:=by
 have hT:=hV.turn;have hc:=hV.castle;have hr3:0≤r∧r≤3:=by omega
 have hoff:castOff (rightsS P) r.toNat=!(castBit P.castle r.toNat):=by
  rw [hV.rights];obtain ⟨n,hn⟩:∃n:Nat,P.castle=n:=⟨P.castle.toNat,by omega⟩;rw [hn];exact castOff_bits n (by omega) _ (by omega)
 unfold castR;rw [hoff];cases h1:castBit P.castle r.toNat
 ·simp
 cases h2:attS P.bd (homeK r).toNat (1-P.turn)
 ·cases h3:freeTo P r (cnS r).toNat
  ·simp only [Bool.not_true,Bool.or_false,cond_false,List.not_mem_nil,false_iff];rintro ⟨⟨_,_,h4⟩,_⟩;rw [(freeTo_all _).2 h4] at h3;cases h3
  have h4:=(freeTo_all _).1 h3;simp only [Bool.not_true,Bool.or_false,cond_false,cond_true,List.mem_singleton];exact ⟨fun h=>⟨⟨by simp,by simp,h4⟩,h⟩,fun h=>h.2⟩
 simp
theorem castM_of{P:SP}(hV:ValidS P){r:Int}(hr:r=2*P.turn∨r=2*P.turn+1)(h1:castBit P.castle r.toNat=true)(h2:∀j:Nat,j<(cnS r).toNat→P.bd (csq r j).toNat=0):CastM P r:=by
 have hT:=hV.turn;have hr3:0≤r∧r≤3:=by omega
 have hh:=right_home hV hr3;rw [h1] at hh;unfold rightB at hh;have hh:=hh.symm;simp only [Bool.and_eq_true,beq_iff_eq] at hh;have hv:=csq_vals hr3;have hrt:r/2=P.turn:=by omega
 rw [hrt] at hh;exact ⟨hr,hh.1.2,hh.2,by rw [←hv.1];exact h2 0 (by omega),by rw [←hv.2.1];exact h2 1 (by omega)⟩
def castChk:Bool:=(List.range 4).all fun (r:Nat)=>(List.range 64).all fun i=>
 !(strt i (homeK r+(2*cwS r)).toNat||slnt i (homeK r+(2*cwS r)).toNat)||(Nat.beq i (homeK r).toNat||(Nat.beq i (homeR r).toNat||(Nat.beq i (homeK r+cwS r).toNat||(Nat.beq i (homeK r+(2*cwS r)).toNat||
  ((!((btw i (homeK r+(2*cwS r)).toNat).contains (homeK r).toNat)&&(!((btw i (homeK r+(2*cwS r)).toNat).contains (homeK r+cwS r).toNat)&&!((btw i (homeK r+(2*cwS r)).toNat).contains (homeR r).toNat)))||
  ((btw i (homeK r+(2*cwS r)).toNat).contains (homeK r).toNat&&(btw i (homeK r+(2*cwS r)).toNat).contains (homeK r+cwS r).toNat))))))
theorem castChk_ok:castChk=true:=by decide+kernel
def btwDst:Bool:=(List.range 4).all fun (r:Nat)=>(List.range 64).all fun i=>!(strt i (homeK r+(2*cwS r)).toNat||slnt i (homeK r+(2*cwS r)).toNat)||!((btw i (homeK r+(2*cwS r)).toNat).contains (homeK r+(2*cwS r)).toNat)
theorem btwDst_ok:btwDst=true:=by decide+kernel
structure HomeN(r:Int)(K R M T:Nat):Prop where
 k:(homeK r).toNat=K
 r':(homeR r).toNat=R
 m:(homeK r+cwS r).toNat=M
 t:(homeK r+(2*cwS r)).toNat=T
 ki:homeK r=K
 ti:homeK r+(2*cwS r)=T
 lt:K<64∧R<64∧M<64∧T<64
 ne:K≠R∧K≠M∧K≠T∧R≠M∧R≠T∧M≠T
 corner:(cornerS (homeK r) (homeK r+(2*cwS r))).toNat=R
 mid:((homeK r+(homeK r+(2*cwS r)))/2).toNat=M
 two:homeK r+(2*cwS r)=homeK r+2∨homeK r+(2*cwS r)=homeK r-2
theorem homeN{r:Int}(hr:0≤r∧r≤3):HomeN r (homeK r).toNat (homeR r).toNat (homeK r+cwS r).toNat (homeK r+(2*cwS r)).toNat:=by
 rcases (by omega:r=0∨r=1∨r=2∨r=3) with rfl|rfl|rfl|rfl<;>exact ⟨rfl,rfl,rfl,rfl,by decide,by decide,by decide,by decide,by decide,by decide,by decide⟩
def castBd(bd:Nat→Int)(turn:Int)(K R M T:Nat):Nat→Int:=upd (upd (upd (upd bd K 0) T (1+6*turn)) R 0) M (3+6*turn)
theorem mk4_cast{P:SP}(hV:ValidS P){r:Int}(h:CastM P r)(s:Nat):mk4 P.bd P.turn (homeK r) (homeK r+(2*cwS r)) 0 s=castBd P.bd P.turn (homeK r).toNat (homeR r).toNat (homeK r+cwS r).toNat (homeK r+(2*cwS r)).toNat s:=by
 have hT:=hV.turn;have hr3:0≤r∧r≤3:=by have:=h.hr;omega
 have hN:=homeN hr3;have hk1:kindOf (P.bd (homeK r).toNat)=1:=by rw [h.king];unfold kindOf;split<;>omega
 have hc:castlesB P.bd (homeK r) (homeK r+(2*cwS r))=true:=by
  unfold castlesB;rw [hk1];rcases hN.two with e|e<;>rw [e]<;>simp
 have ht:takesI P.bd (homeK r) (homeK r+(2*cwS r))=false:=by
  unfold takesI;rw [h.dst,hk1];rfl
 unfold mk4;rw [hc];simp only [cond_true];unfold mk3 mk2 mk1;rw [ht,hN.corner,hN.mid,h.king];rfl
theorem castBd_get(bd:Nat→Int)(turn:Int){K R M T:Nat}(hne:K≠R∧K≠M∧K≠T∧R≠M∧R≠T∧M≠T)(s:Nat):
  castBd bd turn K R M T s=if s=M then 3+6*turn else if s=R then 0 else if s=T then 1+6*turn else if s=K then 0 else bd s:=rfl
theorem cast_att{P:SP}(hV:ValidS P){r:Int}(h:CastM P r):
  attS (mk4 P.bd P.turn (homeK r) (homeK r+(2*cwS r)) 0) (homeK r+(2*cwS r)).toNat (1-P.turn)=attS P.bd (homeK r+(2*cwS r)).toNat (1-P.turn):=by
 have hT:=hV.turn;have hr3:0≤r∧r≤3:=by have:=h.hr;omega
 have hN:=homeN hr3;have hg:=mk4_cast hV h;have hking:=h.king;have hrook:=h.rook;have hmid:=h.mid;have hdst:=h.dst;have hchk:∀i,i<64→(strt i (homeK r+(2*cwS r)).toNat=true∨slnt i (homeK r+(2*cwS r)).toNat=true)→i≠(homeK r).toNat→i≠(homeR r).toNat→i≠(homeK r+cwS r).toNat→i≠(homeK r+(2*cwS r)).toNat→
   (((homeK r).toNat∉btw i (homeK r+(2*cwS r)).toNat∧(homeK r+cwS r).toNat∉btw i (homeK r+(2*cwS r)).toNat∧(homeR r).toNat∉btw i (homeK r+(2*cwS r)).toNat)∨
    ((homeK r).toNat∈btw i (homeK r+(2*cwS r)).toNat∧(homeK r+cwS r).toNat∈btw i (homeK r+(2*cwS r)).toNat))∧(homeK r+(2*cwS r)).toNat∉btw i (homeK r+(2*cwS r)).toNat:=by
  intro i hi hal h1 h2 h3 h4;obtain ⟨q,hq⟩:∃q:Nat,r=q:=⟨r.toNat,by omega⟩;subst hq;have c1:=List.all_eq_true.1 (List.all_eq_true.1 castChk_ok q (List.mem_range.2 (by omega))) i (List.mem_range.2 hi);have c2:=List.all_eq_true.1 (List.all_eq_true.1 btwDst_ok q (List.mem_range.2 (by omega))) i (List.mem_range.2 hi);have ha:(strt i (homeK q+(2*cwS q)).toNat||slnt i (homeK q+(2*cwS q)).toNat)=true:=by simpa using hal
  have n1:Nat.beq i (homeK q).toNat=false:=by have:=nbeq.2 h1;simpa using this
  have n2:Nat.beq i (homeR q).toNat=false:=by have:=nbeq.2 h2;simpa using this
  have n3:Nat.beq i (homeK q+cwS q).toNat=false:=by have:=nbeq.2 h3;simpa using this
  have n4:Nat.beq i (homeK q+(2*cwS q)).toNat=false:=by have:=nbeq.2 h4;simpa using this
  rw [ha] at c1 c2;rw [n1,n2,n3,n4] at c1;simp only [Bool.not_true,Bool.false_or] at c1 c2;simp only [Bool.or_eq_true,Bool.and_eq_true,Bool.not_eq_true',List.contains_iff_mem] at c1 c2;have cn:∀(l:List Nat) (x:Nat),l.contains x=false↔x∉l:=fun l x=>by
   rw [←Bool.not_eq_true,List.contains_iff_mem]
  rw [cn,cn,cn] at c1;rw [cn] at c2;exact ⟨c1,c2⟩
 revert hchk hg hking hrook hmid hdst;have hlt:=hN.lt;have hne:=hN.ne;generalize (homeK r).toNat=K at*
 generalize (homeR r).toNat=R at*
 generalize (homeK r+cwS r).toNat=M at*
 generalize (homeK r+(2*cwS r)).toNat=T at*
 intro hg hking hrook hmid hdst hchk;have hg2:∀s,mk4 P.bd P.turn (homeK r) (homeK r+(2*cwS r)) 0 s=if s=M then 3+6*P.turn else if s=R then 0 else if s=T then 1+6*P.turn else if s=K then 0 else P.bd s:=fun s=>(hg s).trans (castBd_get _ _ hne s)
 generalize mk4 P.bd P.turn (homeK r) (homeK r+(2*cwS r)) 0=bd' at*
 have key:∀i,i<64→(bd' i !=0&&(sideOf (bd' i)==(1-P.turn)&&hitS bd' i T))=(P.bd i !=0&&(sideOf (P.bd i)==(1-P.turn)&&hitS P.bd i T)):=by
  intro i hi;have own:∀y:Int,(y=1+6*P.turn∨y=3+6*P.turn)→(sideOf y==(1-P.turn))=false:=by
   intro y hy;rw [beq_eq_false_iff_ne];unfold sideOf;split<;>omega
  by_cases e1:i=M
  ·subst e1;rw [hg2,if_pos rfl,own _ (Or.inr rfl),hmid];simp
  by_cases e2:i=R
  ·subst e2;rw [hg2,if_neg e1,if_pos rfl,hrook,own _ (Or.inr rfl)];simp
  by_cases e3:i=T
  ·subst e3;rw [hg2,if_neg e1,if_neg e2,if_pos rfl,own _ (Or.inl rfl),hdst];simp
  by_cases e4:i=K
  ·subst e4;rw [hg2,if_neg e1,if_neg e2,if_neg e3,if_pos rfl,hking,own _ (Or.inl rfl)];simp
  have ei:bd' i=P.bd i:=by rw [hg2,if_neg e1,if_neg e2,if_neg e3,if_neg e4]
  rw [ei];congr 1;congr 1;have hcl:(strt i T=true∨slnt i T=true)→clr (occS bd') i T=clr (occS P.bd) i T:=by
   intro hal;obtain ⟨hc,hd⟩:=hchk i hi hal e4 e2 e1 e3;rcases hc with ⟨c1,c2,c3⟩|⟨c1,c2⟩
   ·unfold clr;rw [Bool.eq_iff_iff,List.all_eq_true,List.all_eq_true];have:∀j∈btw i T,occS bd' j=occS P.bd j:=by
     intro j hj;have n1:j≠M:=fun e=>c2 (by rw [←e];exact hj);have n2:j≠R:=fun e=>c3 (by rw [←e];exact hj);have n3:j≠T:=fun e=>hd (by rw [e] at hj;exact hj);have n4:j≠K:=fun e=>c1 (by rw [←e];exact hj);unfold occS;rw [hg2,if_neg n1,if_neg n2,if_neg n3,if_neg n4]
    exact ⟨fun hh j hj=>by rw [←this j hj];exact hh j hj,fun hh j hj=>by rw [this j hj];exact hh j hj⟩
   have f1:clr (occS bd') i T=false:=by
    unfold clr;rw [List.all_eq_false];exact ⟨M,c2,by unfold occS;rw [hg2,if_pos rfl,show ((3+6*P.turn:Int) !=0)=true from bne_iff_ne.2 (by omega)];decide⟩
   have f2:clr (occS P.bd) i T=false:=by
    unfold clr;rw [List.all_eq_false];exact ⟨K,c1,by unfold occS;rw [hking,show ((1+6*P.turn:Int) !=0)=true from bne_iff_ne.2 (by omega)];decide⟩
   rw [f1,f2]
  unfold hitS;rw [ei];have c3:(strt i T&&clr (occS bd') i T)=(strt i T&&clr (occS P.bd) i T):=by
   cases hh:strt i T
   ·rfl
   rw [hcl (Or.inl hh)]
  have c4:(slnt i T&&clr (occS bd') i T)=(slnt i T&&clr (occS P.bd) i T):=by
   cases hh:slnt i T
   ·rfl
   rw [hcl (Or.inr hh)]
  have c2:((strt i T||slnt i T)&&clr (occS bd') i T)=((strt i T||slnt i T)&&clr (occS P.bd) i T):=by
   cases hh:(strt i T||slnt i T)
   ·rfl
   rw [hcl (by simpa using hh)]
  rw [c3,c4,c2]
 unfold attS;rw [Bool.eq_iff_iff,any64,any64];exact ⟨fun ⟨i,hi,hh⟩=>⟨i,hi,by rw [←key i hi];exact hh⟩,fun ⟨i,hi,hh⟩=>⟨i,hi,by rw [key i hi];exact hh⟩⟩
theorem std_only{P:SP}(hV:ValidS P){f t:Nat}{p:Int}(h:StdM P f t p){kp:Int}{k:Nat}(hkp:kp=1∨kp=7)(ho:OnlyAt P.bd kp k):OnlyAt (mk4 P.bd P.turn f t p) kp (if k=f then t else k):=by
 have hf:=h.hf;have ht:=h.ht;have hT:=hV.turn;have hne:=std_ne hV h;have hnk:=std_nk hV h;rcases std_ep hV h with ⟨⟨ex,et,eep,ea,er⟩,hp0⟩|⟨hn,_⟩
 ·subst hp0;have hp:=passed_get hT hV.passed;obtain ⟨q,hq⟩:∃q:Nat,(8*((f:Int)/8)+(t:Int)%8)=q:=⟨(8*((f:Int)/8)+(t:Int)%8).toNat,by omega⟩;have hqb:P.bd q=6+6*(1-P.turn):=by
   rcases hp with hp|⟨_,_,_,hp,_⟩
   ·omega
   rw [←eep,show ((t:Int)-8*(1-2*P.turn)).toNat=q by omega] at hp;exact hp
  have hqf:q≠f:=by omega
  have hqt':q≠t:=by omega
  have h6:kindOf (P.bd f)=6:=by rw [ex];unfold kindOf;split<;>omega
  have hm4:∀s,mk4 P.bd P.turn f t 0 s=upd (upd (upd P.bd q 0) f 0) t (P.bd f) s:=mk4_ep h6 et (by omega) hq;have hkq:q≠k:=by rintro rfl;have:=ho.2.1;omega
  have h1:=upd_only (v:=0) ho hkq (by omega);have h2:=move_only (y:=P.bd f) h1 (by omega) ht hne (by rw [upd_ne (Ne.symm hqt')];omega) (by rw [upd_ne (Ne.symm hqf)];exact id) (by rw [upd_ne (Ne.symm hqf)];exact id) hf;exact h2.congr fun s _=>(hm4 s).symm
 have hm4:=mk4_normal (turn:=P.turn) (p:=p) hn (std_cast hV h);have h2:=move_only (y:=if p≠0 then p+6*P.turn else P.bd f) ho (by omega) ht hne (by omega) (fun hh=>?_) (fun hh=>?_) hf
 ·exact h2.congr fun s _=>(hm4 s).symm
 ·rcases h.pr with hp|⟨h6,_⟩
  ·rw [if_neg (by omega)];exact hh
  exfalso;rw [hh] at h6;unfold kindOf at h6;split at h6<;>omega
 rcases h.pr with hp|⟨h6,_⟩
 ·rw [if_neg (by omega)];exact hh
 split<;>omega
theorem OnlyAt.uniq{bd:Nat→Int}{p:Int}{a b:Nat}(h:OnlyAt bd p a)(k:OnlyAt bd p b):a=b:=k.2.2 a h.1 h.2.1
theorem inChk_eq{B:Bd}{bd:Nat→Int}(hB:BRep B bd)(hK:KRep B bd){c:Int}(hc:0≤c∧c≤1){k:Nat}(ho:OnlyAt bd (1+6*c) k):inChk B (c+1)=attS bd k (1-c):=by
 obtain ⟨⟨a,ha,ha'⟩,⟨b,hb,hb'⟩⟩:=hK;unfold inChk;rcases (by omega:c=0∨c=1) with rfl|rfl
 ·have e:kingSq B (0+1)=k:=by
   show B.wk=k;rw [ha',ha.uniq (by simpa using ho)]
  rw [e,show (((k:Nat):Int)==-1)=false by rw [beq_eq_false_iff_ne];omega];simp only [cond_false];rw [att1_eq hB (Or.inl (by decide)) ho.1];rfl
 have e:kingSq B (1+1)=k:=by
  show B.bk=k;rw [hb',hb.uniq (by simpa using ho)]
 rw [e,show (((k:Nat):Int)==-1)=false by rw [beq_eq_false_iff_ne];omega];simp only [cond_false];rw [att1_eq hB (Or.inr (by decide)) ho.1];rfl
theorem turnOf_eq{t:Int}(h:0≤t∧t≤1):turnOf t=t+1:=by rcases turnOf_cases h with ⟨a,b⟩|⟨a,b⟩<;>omega
theorem otherC_eq{t:Int}(h:0≤t∧t≤1):otherC (turnOf t)=(1-t)+1:=by
 rw [turnOf_eq h];rcases (by omega:t=0∨t=1) with rfl|rfl<;>rfl
theorem valid_kings{P:SP}(hV:ValidS P){c:Int}(hc:0≤c∧c≤1):∃k:Nat,OnlyAt P.bd (1+6*c) k∧kingAtS P.bd c=k:=by
 have hct:countS P.bd (1+6*c)=1:=by
  rcases (by omega:c=0∨c=1) with rfl|rfl
  ·exact hV.kw
  exact hV.kb
 obtain ⟨h1,h2⟩:=only_of_count hct;exact ⟨_,h1,by omega⟩
theorem base_rep{P:SP}(hV:ValidS P):BRep (boardOf P.bd) P.bd∧KRep (boardOf P.bd) P.bd:=by
 obtain ⟨a,ha,_⟩:=valid_kings hV (c:=0) (by omega);obtain ⟨b,hb,_⟩:=valid_kings hV (c:=1) (by omega);exact ⟨boardOf_rep hV.bd,boardOf_kings hV.bd ha hb⟩
theorem chk_eq{P:SP}(hV:ValidS P){k:Nat}(hk:OnlyAt P.bd (1+6*P.turn) k):(psOf P).chk=attS P.bd k (1-P.turn):=by
 obtain ⟨hB,hK⟩:=base_rep hV;show inChk (boardOf P.bd) (turnOf P.turn)=_;rw [turnOf_eq hV.turn];exact inChk_eq hB hK hV.turn hk
theorem okS_eq{P:SP}(hV:ValidS P){f t:Nat}{p:Int}{k:Nat}(hk:OnlyAt P.bd (1+6*P.turn) k):okS P ⟨f,t,p⟩=!(attS (mk4 P.bd P.turn f t p) (if k=f then t else k) (1-P.turn)):=by
 have hka:kingAtS P.bd P.turn=k:=kingAt_only hk;have e:atK P ⟨f,t,p⟩=((if k=f then t else k:Nat):Int):=by
  unfold atK;dsimp only;rw [hka];by_cases h:k=f
  ·rw [if_pos h,show ((f:Int)==(k:Int))=true from beq_iff_eq.2 (by omega)];rfl
  rw [if_neg h,show ((f:Int)==(k:Int))=false from beq_eq_false_iff_ne.2 (by omega)];rfl
 unfold okS;rw [e,Int.toNat_natCast,show decide (((if k=f then t else k:Nat):Int)<0)=false by rw [decide_eq_false_iff_not];omega];rfl
theorem kingHome_std{P:SP}(hV:ValidS P){f t:Nat}{p:Int}(h:StdM P f t p)(hh:kingHome (P.bd f) f=true):(t:Int)≠2∧(t:Int)≠58∧(t:Int)≠6∧(t:Int)≠62:=by
 unfold kingHome at hh;simp only [Bool.or_eq_true,Bool.and_eq_true,beq_iff_eq] at hh;have h1:kindOf (P.bd f)=1:=by rcases hh with ⟨e,_⟩|⟨e,_⟩<;>rw [e]<;>rfl
 have:=std_near hV h h1;omega
theorem tg2_std{P:SP}(hV:ValidS P){f t:Nat}{p:Int}(h:StdM P f t p)(tags:Int):tg2 (boardOf P.bd) (psOf P) ⟨tags,f,t,p⟩=tg1 (boardOf P.bd) (psOf P) ⟨tags,f,t,p⟩:=by
 have hB:=(base_rep hV).1;unfold tg2;dsimp only;rw [hB.pieceAt h.hf];cases hh:kingHome (P.bd f) f
 ·rfl
 obtain ⟨a,b,c,d⟩:=kingHome_std hV h hh;rw [show ((t:Int)==2)=false from beq_eq_false_iff_ne.2 a,show ((t:Int)==58)=false from beq_eq_false_iff_ne.2 b,show ((t:Int)==6)=false from beq_eq_false_iff_ne.2 c,show ((t:Int)==62)=false from beq_eq_false_iff_ne.2 d];rfl
theorem occd_eq{B:Bd}{bd:Nat→Int}(hB:BRep B bd){t:Nat}(ht:t<64):occd B t=(bd t !=0):=by
 unfold occd;rw [occB_sb hB.ue (by omega),Int.toNat_natCast,hB.empty t ht];rfl
theorem pType_kind{x:Int}(h:0≤x∧x≤12)(h0:x≠0):pType x=kindOf x:=by
 have hc:x=1∨x=2∨x=3∨x=4∨x=5∨x=6∨x=7∨x=8∨x=9∨x=10∨x=11∨x=12:=by omega
 rcases hc with e|e|e|e|e|e|e|e|e|e|e|e<;>rw [e]<;>rfl
theorem tb4:∀i,i<6→tagb 4 i=decide (i=2):=by decide
theorem tb8:∀i,i<6→tagb 8 i=decide (i=3):=by decide
theorem tb16:∀i,i<6→tagb 16 i=decide (i=4):=by decide
theorem tb32:∀i,i<6→tagb 32 i=decide (i=5):=by decide
theorem tb1:∀i,i<6→tagb 1 i=decide (i=0):=by decide
theorem tb2:∀i,i<6→tagb 2 i=decide (i=1):=by decide
theorem tb0:∀i,i<6→tagb 0 i=false:=by decide
theorem tg1_std{P:SP}(hV:ValidS P){f t:Nat}{p:Int}(h:StdM P f t p)(tags:Int):∀i,i<6→
  tagb (tg1 (boardOf P.bd) (psOf P) ⟨tags,f,t,p⟩) i=(tagb tags i||(decide (i=2)&&(P.bd t !=0))||(decide (i=3)&&(P.bd t==0&&((t:Int)==P.ep&&kindOf (P.bd f)==6)))):=by
 intro i hi;have hB:=(base_rep hV).1;unfold tg1;dsimp only;rw [occd_eq hB h.ht,hB.pieceAt h.hf,pType_kind (hV.bd f h.hf) h.x0,show (psOf P).ep=P.ep from rfl];by_cases h0:P.bd t=0
 ·rw [show (P.bd t !=0)=false by rw [bne_eq_false_iff_eq];exact h0,show (P.bd t==0)=true from beq_iff_eq.2 h0];cases hh:(((t:Int)==P.ep)&&(kindOf (P.bd f)==6))
  ·simp
  simp only [cond_false,cond_true];rw [tagb_or,tb8 i hi];simp
 rw [show (P.bd t !=0)=true from bne_iff_ne.2 h0,show (P.bd t==0)=false from beq_eq_false_iff_ne.2 h0];simp only [cond_true];rw [tagb_or,tb4 i hi];simp
theorem ep_bit{P:SP}(hV:ValidS P){f t:Nat}{p:Int}(h:StdM P f t p):(P.bd t==0&&((t:Int)==P.ep&&kindOf (P.bd f)==6))=true↔EPm P f t:=by
 simp only [Bool.and_eq_true,beq_iff_eq];rcases std_ep hV h with ⟨hE,_⟩|⟨_,hn⟩
 ·have hT:=hV.turn;exact ⟨fun _=>hE,fun hE=>⟨hE.2.1,hE.2.2.1,by rw [hE.1];unfold kindOf;split<;>omega⟩⟩
 constructor
 ·rintro ⟨a,b,c⟩;exact absurd ⟨a,b,c⟩ hn
 intro hE;have hT:=hV.turn;exact absurd ⟨hE.2.1,hE.2.2.1,by rw [hE.1];unfold kindOf;split<;>omega⟩ hn
theorem tg4_std{P:SP}(hV:ValidS P){f t:Nat}{p:Int}(h:StdM P f t p){tags:Int}(h0:tagb tags 0=false)(h1:tagb tags 1=false)(h3:tagb tags 3=true→EPm P f t)
  {k e:Nat}(hk:OnlyAt P.bd (1+6*P.turn) k)(he:OnlyAt P.bd (1+6*(1-P.turn)) e):
  let x:=tg4 (boardOf P.bd) (psOf P) ⟨tags,f,t,p⟩
  tagb x 0=false∧tagb x 1=false∧tagb x 2=(tagb tags 2||(P.bd t !=0))∧(tagb x 3=true↔EPm P f t)∧
  tagb x 4=(tagb tags 4||attS (mk4 P.bd P.turn f t p) e P.turn)∧tagb x 5=(tagb tags 5||!(okS P ⟨f,t,p⟩)):=by
 have hT:=hV.turn;obtain ⟨hB,hK⟩:=base_rep hV;have hb:=tg1_std hV h tags;have e2:=tg2_std hV h tags;have hE:=ep_bit hV h;have h3':tagb (tg2 (boardOf P.bd) (psOf P) ⟨tags,f,t,p⟩) 3=true↔EPm P f t:=by
  rw [e2,hb 3 (by decide)];simp only [show ((3:Nat)=2)=False by decide,decide_false,Bool.false_and,Bool.or_false,decide_true,Bool.true_and,Bool.or_eq_true];rw [hE];exact ⟨fun hh=>hh.elim h3 id,Or.inr⟩
 have h0':tagb (tg2 (boardOf P.bd) (psOf P) ⟨tags,f,t,p⟩) 0=false:=by rw [e2,hb 0 (by decide),h0];simp
 have h1':tagb (tg2 (boardOf P.bd) (psOf P) ⟨tags,f,t,p⟩) 1=false:=by rw [e2,hb 1 (by decide),h1];simp
 obtain ⟨nB,nK⟩:=next_std hV hB hK h h0' h1' h3';have hko:=std_only hV h (by omega) hk;have heo:=std_only hV h (by omega) he;have hef:e≠f:=by
  rintro rfl;have:=h.side;rw [he.2.1] at this;unfold sideOf at this;split at this<;>omega
 rw [if_neg hef] at heo;have c1:inChk (nextB (boardOf P.bd) (psOf P) ⟨tags,f,t,p⟩) (psOf P).turn=!(okS P ⟨f,t,p⟩):=by
  rw [okS_eq hV hk,Bool.not_not];show inChk (updB (boardOf P.bd) ⟨tg2 (boardOf P.bd) (psOf P) ⟨tags,f,t,p⟩,f,t,p⟩) (turnOf P.turn)=_;rw [turnOf_eq hT];exact inChk_eq nB nK hT hko
 have c2:inChk (nextB (boardOf P.bd) (psOf P) ⟨tags,f,t,p⟩) (otherC (psOf P).turn)=attS (mk4 P.bd P.turn f t p) e P.turn:=by
  show inChk (updB (boardOf P.bd) ⟨tg2 (boardOf P.bd) (psOf P) ⟨tags,f,t,p⟩,f,t,p⟩) (otherC (turnOf P.turn))=_;rw [otherC_eq hT,inChk_eq nB nK (by omega) heo,show 1-(1-P.turn)=P.turn by omega]
 have hx:∀i,i<6→tagb (tg4 (boardOf P.bd) (psOf P) ⟨tags,f,t,p⟩) i=(tagb (tg2 (boardOf P.bd) (psOf P) ⟨tags,f,t,p⟩) i||(decide (i=4)&&attS (mk4 P.bd P.turn f t p) e P.turn)||(decide (i=5)&&!(okS P ⟨f,t,p⟩))):=by
  intro i hi;unfold tg4 tg3;rw [c1,c2];cases okS P ⟨f,t,p⟩<;>cases attS (mk4 P.bd P.turn f t p) e P.turn
  ·simp only [Bool.not_false,cond_true,cond_false];rw [tagb_or,tb32 i hi];simp
  ·simp only [Bool.not_false,cond_true];rw [tagb_or,tagb_or,tb32 i hi,tb16 i hi];simp [Bool.or_right_comm]
  ·simp
  simp only [Bool.not_true,cond_true,cond_false];rw [tagb_or,tb16 i hi];simp
 refine ⟨?_,?_,?_,?_,?_,?_⟩
 ·rw [hx 0 (by decide),h0'];simp
 ·rw [hx 1 (by decide),h1'];simp
 ·rw [hx 2 (by decide),e2,hb 2 (by decide)];simp
 ·rw [hx 3 (by decide)];simp only [show ((3:Nat)=4)=False by decide,show ((3:Nat)=5)=False by decide,decide_false,Bool.false_and,Bool.or_false];exact h3'
 ·rw [hx 4 (by decide),e2,hb 4 (by decide)];simp
 rw [hx 5 (by decide),e2,hb 5 (by decide)];simp
end Go.Proofs.YtgnhellfhjoaaaaGreatDoor
