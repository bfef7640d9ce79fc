/-
  FnSanGame: a row of legal moves, each one written and read again where it stands, leads to the same position as the definition (a part of the proof).
  Conditions: those of each theorem.
-/
import Derived.Test.YtgnhellfhjoaaaaGreatDoorD01
import Derived.Test.YtgnhellfhjoaaaaGreatDoorD02
import Derived.Test.YtgnhellfhjoaaaaGreatDoorD03
import Derived.Test.YtgnhellfhjoaaaaGreatDoorD05
import Derived.Test.YtgnhellfhjoaaaaGreatDoorD06
import Derived.Test.YtgnhellfhjoaaaaGreatDoorD07
import Derived.Laws.StructEq
import Derived.ChangeKeysEq
import Derived.Test.YtgnhellfhjoaaaaGreatDoorRows
import Derived.ProofKit
import Derived.OpenShut
import Derived.Carry
import Derived.Test.YtgnhellfhjoaaaaGreatDoorTie
import Derived.Test.YtgnhellfhjoaaaaGreatDoorCards
import Derived.LaidMore
import Derived.Lay
import Derived.SevenTiedAt
import Derived.Stop.Joined
import Derived.ChangeSlices
set_option linter.unusedVariables false
set_option linter.unusedSimpArgs false
namespace Go.Proofs.YtgnhellfhjoaaaaGreatDoor
open Go Go.RowKit
open Go.Proofs.Tryz
set_option maxRecDepth 100000
section
variable{P:SP}{m:Sm}{c:GC}{w:World}
theorem RightS.h(hR:RightS P):(∃i,i<(allL (boardOf P.bd) (psOf P)).length/\eqM (mvAt (allL (boardOf P.bd) (psOf P)) i) m.f m.t m.p=true)↔LegM P m:=by
 have hV:=hR.valid;constructor
 ·rintro ⟨i,hi,he⟩;have hM:=mvAt_mem (l:=allL (boardOf P.bd) (psOf P)) hi;obtain ⟨n,hn,hT⟩:=tag_all hV hM;unfold eqM at he;simp only [Bool.and_eq_true,beq_iff_eq] at he;have:n=m:=sm_ext (hT.s1.symm.trans he.1) (hT.s2.symm.trans he.2.1) (hT.pr.symm.trans he.2.2);exact this▸hn
 intro h;obtain ⟨M,hM,hT⟩:=leg_mv hV h;obtain ⟨i,hi,e⟩:=List.getElem_of_mem hM;refine ⟨i,hi,?_⟩;have:mvAt (allL (boardOf P.bd) (psOf P)) i=M:=by
  unfold mvAt;rw [List.getD_eq_getElem?_getD,List.getElem?_eq_getElem hi];exact e
 rw [this];unfold eqM;rw [hT.s1,hT.s2,hT.pr];simp
theorem san_len(P:SP)(f t p:Int):(bodyS P f t p++sgnS P f t p).length<=100000:=by
 have:=bodyS_len P f t p;have:=sgnS_len P f t p;rw [List.length_append];omega
theorem lan_len(P:SP)(f t p:Int):(lanS P f t p).length<=100000:=by
 have h1:=bodyS_len P f t p;have h2:=sgnS_len P f t p;have h3:=letB_len (kindOf (P.bd f.toNat));have h4:=takT_len P.bd f t;have h5:=promS_len p;unfold lanS;cases decide (castI P.bd f t>0)<;>simp only [cond_true,cond_false,List.length_append,List.length_cons,List.length_nil]<;>omega
theorem w15s(hG:Glob c w)(hR:RightS P)(h:LegM P m)(ht:Told P m):CR 15 [.int .i64 0,.agg (spCells P),.agg #[.int .i64 m.f,.int .i64 m.t,.int .i64 m.p]] w (.tuple #[.string (bstr (bodyS P m.f m.t m.p++sgnS P m.f m.t m.p)),.bool true]):=
 (c15s P hG (spok hR.valid) (mvPre hR) m.f m.t m.p (hR.h.2 h) (mvOk_all hR.valid) (dec_all hR.valid)).mono λe w' ⟨M,hM,he,e1,e2⟩=>⟨by rw [e1,(enc_mv hR.valid h ht hM he).1],e2⟩
theorem w15l(hG:Glob c w)(hR:RightS P)(h:LegM P m)(ht:Told P m):CR 15 [.int .i64 1,.agg (spCells P),.agg #[.int .i64 m.f,.int .i64 m.t,.int .i64 m.p]] w (.tuple #[.string (bstr (lanS P m.f m.t m.p)),.bool true]):=
 (c15l P hG (spok hR.valid) (mvPre hR) m.f m.t m.p (hR.h.2 h) (mvOk_all hR.valid) (dec_all hR.valid)).mono λe w' ⟨M,hM,he,e1,e2⟩=>⟨by rw [e1,(enc_mv hR.valid h ht hM he).2],e2⟩
theorem w16s(hG:Glob c w)(hR:RightS P)(h:LegM P m):CQ 16 [.int .i64 0,.agg (spCells P),.string (bstr (bodyS P m.f m.t m.p++sgnS P m.f m.t m.p))] w (λe w'=>∃t,e=.returned (.tuple #[.agg #[.int .i64 m.f,.int .i64 m.t,.int .i64 m.p],.int .i64 t,.bool true])/\Mod [] w w'):=by
 have hp:=plain_san hR.valid h;obtain ⟨z1,z2⟩:=san_parts hR.valid h (sgnS_cls P m.f m.t m.p);refine (c16s P hG (spok hR.valid) (mvPre hR) _ _ z1 (san_len _ _ _ _) z2 (mvOk_all hR.valid) hp.dec hp.hit).mono λe w' hh=>?_;obtain ⟨M,t,hM,hh,e1,e2⟩:=hh;obtain ⟨a,b,d⟩:=hp.one M hM hh;exact ⟨t,by rw [e1,a,b,d],e2⟩
theorem w16l(hG:Glob c w)(hR:RightS P)(h:LegM P m):CQ 16 [.int .i64 1,.agg (spCells P),.string (bstr (lanS P m.f m.t m.p))] w (λe w'=>∃t,e=.returned (.tuple #[.agg #[.int .i64 m.f,.int .i64 m.t,.int .i64 m.p],.int .i64 t,.bool true])/\Mod [] w w'):=by
 have hp:=plain_lan hR.valid h;obtain ⟨z1,z2⟩:=lan_parts hR.valid h;refine (c16l P hG (spok hR.valid) (mvPre hR) _ _ z1 (lan_len _ _ _ _) z2 (mvOk_all hR.valid) hp.dec hp.hit).mono λe w' hh=>?_;obtain ⟨M,t,hM,hh,e1,e2⟩:=hh;obtain ⟨a,b,d⟩:=hp.one M hM hh;exact ⟨t,by rw [e1,a,b,d],e2⟩
end
set_option maxHeartbeats 2000000 in
theorem c12l{c:GC}{w:World}(P:SP)(m:Sm)(hG:Glob c w)(hR:RightS P)(hL:LegM P m)(ht:Told P m):
  CR 12 [.int .i64 1,.agg (spCells P),.agg #[.int .i64 m.f,.int .i64 m.t,.int .i64 m.p]] w (.bool true):=by
 have hm0:Mod [] w w:=Mod.refl _ _;refine en func12 ntmps12 ?_;refine zw<|zA (spCells P) 24 (some 4) ?_;intro b1 w2 hn3;have hb4:c.base<=b1:=Glob.lt hG hn3;have hb5:=Nat.le_trans hm0.size hn3.base;have hm6:=hn3.mod;have hG7:=Glob.on hG hm6;have hm8:=zt hm0 hm6;have hz9:=hm6.size;have hf10:=hn3.at_;refine zA (#[.int .i64 m.f,.int .i64 m.t,.int .i64 m.p]) 30 (some 5) ?_;intro b11 w12 hn13;have hb14:c.base<=b11:=Glob.lt hG7 hn13;have hb15:=Nat.le_trans hm8.size hn13.base;have hm16:=hn13.mod;have hf17:=At.on hf10 hm16;have hG18:=Glob.on hG7 hm16;have hm19:=zt hm8 hm16;have hz20:=hm16.size;have hf21:=hn13.at_;refine yS 1<|zx<|yV 3 [.row ⟨b1,0,none⟩ 69 (spCells P),.row ⟨b11,0,none⟩ 3 (#[.int .i64 m.f,.int .i64 m.t,.int .i64 m.p])] [.agg (spCells P),.agg (#[.int .i64 m.f,.int .i64 m.t,.int .i64 m.p])] (⟨(At.row hf17 (spCells_size P)),At.row hf21 rfl⟩)<|zk (some 16) (c25l P hR.valid.bd hR.valid.turn hR.valid.castle m.f m.t m.p (hL.ok hR.valid).f (hL.ok hR.valid).t (hL.ok hR.valid).p) ?_;intro w22 hm23;have hf24:=At.on hf17 hm23;have hf25:=At.on hf21 hm23;have hG26:=Glob.on hG18 hm23;have hm27:=zt hm19 hm23;have hz28:=hm23.size;refine yS 1<|zx<|yV 3 [.row ⟨b1,0,none⟩ 69 (spCells P),.row ⟨b11,0,none⟩ 3 (#[.int .i64 m.f,.int .i64 m.t,.int .i64 m.p])] [.agg (spCells P),.agg (#[.int .i64 m.f,.int .i64 m.t,.int .i64 m.p])] (⟨(At.row hf24 (spCells_size P)),At.row hf25 rfl⟩)<|zk (some 21) (w15l hG26 hR hL ht) ?_;intro w29 hm30;have hf31:=At.on hf24 hm30;have hf32:=At.on hf25 hm30;have hG33:=Glob.on hG26 hm30;have hm34:=zt hm27 hm30;have hz35:=hm30.size;refine yS 5<|zx<|yV 3 [.row ⟨b1,0,none⟩ 69 (spCells P)] [.agg (spCells P)] (At.row hf31 (spCells_size P))<|zC (some 28) (w16l hG33 hR hL) ?_;rintro _ w36 ⟨t38,rfl,hm37⟩;refine ⟨_,rfl,?_⟩;have hf40:=At.on hf32 hm37;have hG41:=Glob.on hG33 hm37;have hm42:=zt hm34 hm37;have hz43:=hm37.size;refine yS 4<|zA (#[.int .i64 0,.int .i64 0,.int .i64 0]) 30 (some 10) ?_;intro b44 w45 hn46;have ne47:b11≠b44:=hn46.ne hf40;have hb48:c.base<=b44:=Glob.lt hG41 hn46;have hb49:=Nat.le_trans hm42.size hn46.base;have hm50:=hn46.mod;have hf52:=At.on hf40 hm50;have hm54:=zt hm42 hm50;have hz55:=hm50.size;have hf56:=hn46.at_;refine zS b44 0 (.agg #[.int .i64 m.f,.int .i64 m.t,.int .i64 m.p]) ?_;intro w57 hu58;have hf59:At w57 b44 (.cells (#[.int .i64 m.f,.int .i64 m.t,.int .i64 m.p]) 30 (0,0)):=hu58.at_;have hf61:=At.keep hf52 hu58.mod (not_mem1 ne47);have hm63:=Mod.fresh' hm54 hu58.mod (by simp<;>omega);have hz64:=hu58.mod.size;refine yS 2<|zx<|zs 5 [rz 5 b11,rz 10 b44,(12,.bool true),(33,.bool true),(36,.bool ((bstr (lanS P m.f m.t m.p)).toList==(bstr (lanS P m.f m.t m.p)).toList))] ?_;rw [show ((bstr (lanS P m.f m.t m.p)).toList==(bstr (lanS P m.f m.t m.p)).toList)=true from beq_self_eq_true _];refine yV 7 [.row ⟨b44,0,none⟩ 3 (#[.int .i64 m.f,.int .i64 m.t,.int .i64 m.p]),.row ⟨b11,0,none⟩ 3 (#[.int .i64 m.f,.int .i64 m.t,.int .i64 m.p])] [.agg (#[.int .i64 m.f,.int .i64 m.t,.int .i64 m.p]),.agg (#[.int .i64 m.f,.int .i64 m.t,.int .i64 m.p])] (⟨At.row hf59 rfl,At.row hf61 rfl⟩) ?_
 refine reg_eq30 m.f m.t m.p m.f m.t m.p (some 44) (by kernel_rfl) ?_;rw [show ((m.f==m.f)&&((m.t==m.t)&&(m.p==m.p)))=true from by simp];exact yS 2<|zz<|w_ret<|y1 (⟨rfl,hm63⟩)
set_option maxHeartbeats 2000000 in
theorem c4{c:GC}{w:World}(P:SP)(k:Int)(hG:Glob c w):
  CR 4 [.agg (spCells P),.int .i64 k] w (.bool true):=by
 have hm0:Mod [] w w:=Mod.refl _ _;refine en func4 ntmps4 ?_;refine zw<|zA (spCells P) 24 (some 2) ?_;intro b1 w2 hn3;have hb4:c.base<=b1:=Glob.lt hG hn3;have hb5:=Nat.le_trans hm0.size hn3.base;have hm6:=hn3.mod;have hG7:=Glob.on hG hm6;have hm8:=zt hm0 hm6;have hz9:=hm6.size;have hf10:=hn3.at_;refine yS 1<|zx<|yV 2 [.row ⟨b1,0,none⟩ 69 (spCells P)] [.agg (spCells P)] (At.row hf10 (spCells_size P))<|zC (some 10) (c13 P k) ?_;rintro _ w11 ⟨m13,v14,rfl,hm12,hv15⟩;refine ⟨_,rfl,?_⟩;have hf16:=At.on hf10 hm12;have hG17:=Glob.on hG7 hm12;have hm18:=zt hm8 hm12;have hz19:=hm12.size;refine yS 3<|zA (#[.int .i64 0,.int .i64 0,.int .i64 0]) 30 (some 5) ?_;intro b20 w21 hn22;have hb23:c.base<=b20:=Glob.lt hG17 hn22;have hb24:=Nat.le_trans hm18.size hn22.base;have hm25:=hn22.mod;have hf26:=At.on hf16 hm25;have hG27:=Glob.on hG17 hm25;have hm28:=zt hm18 hm25;have hz29:=hm25.size;have hf30:=hn22.at_;refine zS b20 0 (.agg #[.int .i64 m13.f,.int .i64 m13.t,.int .i64 m13.p]) ?_;intro w31 hu32;have hf33:At w31 b20 (.cells (#[.int .i64 m13.f,.int .i64 m13.t,.int .i64 m13.p]) 30 (0,0)):=hu32.at_;have hf34:=At.keep hf26 hu32.mod (not_mem1 (At.ne hf26 hf30 rfl));have hG35:=Glob.keep hG27 hu32.mod (by simp<;>omega);have hm36:=Mod.fresh' hm28 hu32.mod (by simp<;>omega);have hz37:=hu32.mod.size;refine yS 1<|zx<|yS 3<|yE 15 (.bool (!v14)) ?_;cases hc38:(!v14)
 ·have dhc38:=hc38;try simp only [zbq] at dhc38
  refine zv 2 [rz 2 b1,rz 5 b20,(15,.bool false),(16,.agg (spCells P)),(17,.agg (#[.int .i64 m13.f,.int .i64 m13.t,.int .i64 m13.p]))] [.row ⟨b1,0,none⟩ 69 (spCells P),.row ⟨b20,0,none⟩ 3 (#[.int .i64 m13.f,.int .i64 m13.t,.int .i64 m13.p])] [.agg (spCells P),.agg (#[.int .i64 m13.f,.int .i64 m13.t,.int .i64 m13.p])] (⟨(At.row hf34 (spCells_size P)),At.row hf33 rfl⟩) ?_;obtain ⟨hR39,hL40⟩:=hv15 (by simpa using hc38);replace hL40:=legM hR39.valid hL40;refine zC (some 18) (c11 P hR39.valid.bd hR39.valid.turn hR39.valid.castle m13.f m13.t m13.p (hL40.ok hR39.valid).f (hL40.ok hR39.valid).t (hL40.ok hR39.valid).p) ?_;rintro _ w41 ⟨v43,rfl,hm42,hv44⟩;refine ⟨_,rfl,?_⟩;have hf45:=At.on hf34 hm42;have hf46:=At.on hf33 hm42;have hG47:=Glob.on hG35 hm42;have hm48:=zt hm36 hm42;have hz49:=hm42.size;refine yS 3<|yE 21 (.bool (!v43)) ?_;cases hc50:(!v43)
  ·have dhc50:=hc50;try simp only [zbq] at dhc50
   refine yV 2 [.row ⟨b1,0,none⟩ 69 (spCells P),.row ⟨b20,0,none⟩ 3 (#[.int .i64 m13.f,.int .i64 m13.t,.int .i64 m13.p])] [.agg (spCells P),.agg (#[.int .i64 m13.f,.int .i64 m13.t,.int .i64 m13.p])] (⟨(At.row hf45 (spCells_size P)),At.row hf46 rfl⟩)<|zk (some 24) (c12l P m13 hG47 hR39 hL40 (hv44 (by simpa using hc50))) ?_;intro w51 hm52;have hm56:=zt hm48 hm52;have hz57:=hm52.size;exact yS 2<|zz<|w_ret<|y1 (⟨rfl,hm56⟩)
  have dhc50:=hc50;try simp only [zbq] at dhc50
  exact yS 5<|zz<|w_ret<|y1 (⟨rfl,hm48⟩)
 have dhc38:=hc38;try simp only [zbq] at dhc38
 exact yS 11<|zz<|w_ret<|y1 (⟨rfl,hm36⟩)
section
variable{P:Program}{n:Nat}{D:List Deferred}{ops:Array Oper}{Q:Exit->Act->World->Prop}{w:World}{L:List (Nat×Value)}
theorem newAt_spec{k:Nat}{cs:Array Value}{t:TypeId}{dst:Option Nat}(h:newAt P n ops.toList k L=some (cs,t,dst)){a:Act}(ha:Hold n L D a)(w:World):
 ∃o,ops.toList[k]?=some o/\o.dst=dst/\dstOk dst n=true/\Region.wanted o (yielded ops a.tmps)=true/\(execOp a.eval o).run P w=.ok (.value (.pointer (some ⟨w.heap.size,0,none⟩))) (w.alloc (.cells cs t (0,0))):=by
 unfold newAt at h;split at h
 ·rename_i o ho;split at h
  ·rename_i hw hd;refine ⟨o,ho,?_⟩;split at h
   ·rename_i t' hop;split at h
    ·rename_i i hi;split at h
     ·rename_i z hz;simp only [Option.some.injEq,Prod.mk.injEq] at h;obtain ⟨rfl,rfl,rfl⟩:=h;refine ⟨rfl,hd,wantedL_spec ha hw,?_⟩;obtain ⟨dst,op,ty,pos,af,g'⟩:=o;simp only at hop;subst hop;simp [execOp,Instr.alloc,zeroValue,typeInfo,hi,hz,newVar,newRow]
     cases h
    cases h
   ·rename_i t' x hop;split at h
    ·rename_i v hv;simp only [Option.some.injEq,Prod.mk.injEq] at h;obtain ⟨rfl,rfl,rfl⟩:=h;refine ⟨rfl,hd,wantedL_spec ha hw,?_⟩;obtain ⟨dst,op,ty,pos,af,g'⟩:=o;simp only at hop;subst hop;simp [execOp,Instr.box,ha.agrees _ _ hv,newVar,newRow]
    cases h
   cases h
  cases h
 cases h
end
section
variable{P:Program}{n:Nat}{D:List Deferred}{ops:Array Oper}{Q:Exit->Act->World->Prop}{w w0:World}{L:List (Nat×Value)}{m:Nat}
def TT(P:Program)(ops:Array Oper)(Q:Exit->Act->World->Prop)(m:Nat):Array Bool->Act->World->Prop:=
 λlisted' a' w'=>Region.seqB .any ops (ops.size-m) m listed'=true/\∀w'',Mod [] w' w''->wpList P ops (onlyN Q) (ops.toList.drop m) a' w''
def AW(P:Program)(n:Nat)(D:List Deferred)(ops:Array Oper)(Q:Exit->Act->World->Prop)(w0:World)(m f:Nat)(ls:List Nat)(L:List (Nat×Value))(w:World):Prop:=
 HeadInv .any ops m (lstd ops ls)->Mod [] w0 w->∀a,Hold n L D a->wpAnyW P .any ops (onlyN Q) w0 m (TT P ops Q m) f (lstd ops ls) a w
def frontB(ops:Array Oper)(m:Nat):Bool:=Region.noSelect ops&&(decide (m<ops.size)&&(Region.sinkB .any ops m&&Region.chainB .any ops m))
theorem w_aw{id:Nat}{ops:Array Oper}(m:Nat)(h:AW P n D ops Q w m m [] L w)(hm:P.follows .mixedOrders=true:=by kernel_rfl)(hB:frontB ops m=true:=by kernel_rfl):W P n D (.region id ops true) Q L w:=by
 intro a ha;simp only [frontB,Bool.and_eq_true,decide_eq_true_eq] at hB;obtain ⟨hsel,hn,hs,hc⟩:=hB;have inv0:HeadInv .any ops m (Array.replicate ops.size false):=
  ⟨by simp,λj oj _ hl=>(by rw [getD_replicate_false] at hl;cases hl),λt _ ht=>getD_in (by simpa using ht) (getD_replicate_false _ _)⟩
 have H:=h inv0 (Mod.refl _ _) a ha;refine wp_region_any hm ?_;have h2:=wpAny_of_W (g:=ops.size-m) (λlisted a' w' (hT:TT P ops Q m listed a' w')=>by
  have h3:=wpAny_of_seq (md:=.any) (Q':=onlyN Q) (ops.toList.drop m) m listed a' w' (λj=>by simp [List.getElem?_drop]) (by simpa using hT.1) (hT.2 w' (Mod.refl _ _))
  simpa using h3) _ _ _ _ (wpAnyW_grow (λl a w w' hh hm=>⟨hh.1,λw'' hm'=>hh.2 w'' (hm.trans hm')⟩) _ _ _ _ _ H (Mod.draw w))
 rw [show m+(ops.size-m)=ops.size by omega] at h2;exact wpAny_monoQ (λe a w hq=>by cases e<;>first|exact hq|exact absurd hq (λh=>h)) _ _ _ _ h2
def takeW(ops:Array Oper)(m:Nat)(ls:List Nat)(i:Nat):Bool:=frontB ops m&&(decide (i<m)&&(Region.free .any ops (lstd ops ls) i&&(Region.ready .any ops (lstd ops ls)).contains i))
theorem aw_y{f:Nat}{ls:List Nat}{i:Nat}{v:Value}{dst:Option Nat}(hY:∀a,Hold n L D a->∃o,ops[i]?=some o/\o.dst=dst/\dstOk dst n=true/\YieldsW P ops w0 o v a)
 (hB:takeW ops m ls i=true)(hk:AW P n D ops Q w0 m f (i::ls) (setD dst v L) w):AW P n D ops Q w0 m (f+1) ls L w:=by
 intro inv h0 a ha;obtain ⟨o,ho,hdst,hd,hy⟩:=hY a ha;simp only [takeW,frontB,Bool.and_eq_true,decide_eq_true_eq] at hB;obtain ⟨⟨hsel,hn,hs,hc⟩,him,hf,hr⟩:=hB;have hr:i∈Region.ready .any ops (lstd ops ls):=by simpa using hr
 refine wpAnyW_first (T:=TT P ops Q m) ho (Region.noSelect_spec hsel) hs hc hn him (λl a w w' hh hm=>⟨hh.1,λw'' hm'=>hh.2 w'' (hm.trans hm')⟩) (λlisted' a' w' hT=>seqB_ready hT.1) (λc a w hq=>absurd hq (λh=>h)) f _ a w inv
  (Region.free_spec ho hf) hr hy h0 ?_
 rw [hdst];exact hk (inv.set hr him) h0 _ (ha.setD hd v)
theorem aw_rd{f:Nat}{ls:List Nat}(i:Nat)(v:Value)(dst:Option Nat)(obs:List Ob)(rs:List Value)(ho:∀w',Mod [] w0 w'->Obs w' obs)(hk:AW P n D ops Q w0 m f (i::ls) (setD dst v L) w)
 (h:pureAt P n ops.toList i L rs=some (v,dst,obs):=by kernel_rfl)(hB:takeW ops m ls i=true:=by kernel_rfl):AW P n D ops Q w0 m (f+1) ls L w:=
 aw_y (λa ha=>by
  obtain ⟨o,ho2,hdst,hd,hr⟩:=pureAt_spec h ha
  refine ⟨o,ho2,hdst,hd,?_⟩
  rcases hr with ⟨hw,hr⟩|hr
  ·refine .inl ⟨hw,λw' hm=>?_⟩
   simp only [Oper.quietAt,hr w' (Obs.all (ho w' hm)),Oper.quietUpon,and_self]
  exact .inr hr) hB hk
theorem aw_call{k:Nat}{ls:List Nat}(i:Nat)(f:FuncId)(vs:List Value)(v:Value)(dst:Option Nat)(hc:∀w',Mod [] w0 w'->Calls P f vs.toArray w' λe w''=>e=.returned v/\Mod [] w' w'')
 (hk:AW P n D ops Q w0 m k (i::ls) (setD dst v L) w)(h:callAt P n ops.toList i L=some (f,vs,dst):=by kernel_rfl)(hB:takeW ops m ls i=true:=by kernel_rfl):AW P n D ops Q w0 m (k+1) ls L w:=
 aw_y (λa ha=>by
  obtain ⟨o,ho,hdst,hd,hw,hrun⟩:=callAt_spec (ops:=ops) h ha
  refine ⟨o,by simpa using ho,hdst,hd,.inl ⟨hw,λw' hm=>?_⟩⟩
  simp only [Oper.quietAt,hrun,Oper.quietUpon,true_and]
  exact hc w' hm) hB hk
def AS(P:Program)(n:Nat)(D:List Deferred)(ops:Array Oper)(Q:Exit->Act->World->Prop)(w0:World)(m f:Nat)(ls:List Nat)(L:List (Nat×Value))(w:World)(i:Nat):Prop:=
 HeadInv .any ops m (lstd ops (i::ls))->Mod [] w0 w->∀a,Hold n L D a->wpOp P ops (onlyN Q) i (λa' w''=>Mod [] w0 w''/\wpAnyW P .any ops (onlyN Q) w0 m (TT P ops Q m) f (lstd ops (i::ls)) a' w'') a w
theorem aw_all{f:Nat}{ls l:List Nat}(hr:Region.ready .any ops (lstd ops ls)=l)(hl:(!l.isEmpty&&l.all λi=>decide (i<m))=true)(h:∀w',Mod [] w w'->∀i∈l,AS P n D ops Q w0 m f ls L w' i):AW P n D ops Q w0 m (f+1) ls L w:=by
 intro inv h0 a ha w' hw';simp only [Bool.and_eq_true,List.all_eq_true,decide_eq_true_eq] at hl;rw [hr];refine ⟨λe=>by rw [e] at hl;simp at hl,λi hi=>⟨hl.2 i hi,h w' hw' i hi (inv.set (by rw [hr];exact hi) (hl.2 i hi)) (h0.trans hw') a ha⟩⟩
theorem aw_1{f:Nat}{ls:List Nat}(i:Nat)(h:∀w',Mod [] w w'->AS P n D ops Q w0 m f ls L w' i)(hr:Region.ready .any ops (lstd ops ls)=[i]:=by kernel_rfl)(hl:(!([i]:List Nat).isEmpty&&([i]:List Nat).all λi=>decide (i<m))=true:=by kernel_rfl):AW P n D ops Q w0 m (f+1) ls L w:=
 aw_all hr hl λw' hm j hj=>by rw [List.mem_singleton.1 hj];exact h w' hm
theorem aw_2{f:Nat}{ls:List Nat}(i j:Nat)(h:∀w',Mod [] w w'->AS P n D ops Q w0 m f ls L w' i)(h':∀w',Mod [] w w'->AS P n D ops Q w0 m f ls L w' j)(hr:Region.ready .any ops (lstd ops ls)=[i,j]:=by kernel_rfl)(hl:(!([i,j]:List Nat).isEmpty&&([i,j]:List Nat).all λi=>decide (i<m))=true:=by kernel_rfl):AW P n D ops Q w0 m (f+1) ls L w:=
 aw_all hr hl λw' hm q hq=>by
  rcases List.mem_cons.1 hq with rfl|hq
  ·exact h w' hm
  rw [List.mem_singleton.1 hq];exact h' w' hm
theorem as_call{k i:Nat}{ls:List Nat}(f:FuncId)(vs:List Value)(dst:Option Nat){R:Ending->World->Prop}(hc:Calls P f vs.toArray w R)
 (hk:∀x w2,R x w2->∃v,x=.returned v/\Mod [] w w2/\AW P n D ops Q w0 m k (i::ls) (setD dst v L) w2)(h:callAt P n ops.toList i L=some (f,vs,dst):=by kernel_rfl):AS P n D ops Q w0 m k ls L w i:=by
 intro inv h0 a ha;obtain ⟨o,ho,hdst,hd,hw,hrun⟩:=callAt_spec (ops:=ops) h ha;have ho2:ops[i]?=some o:=by simpa using ho
 unfold wpOp;simp only [ho2,hw,if_true];refine .inl ?_;simp only [Oper.wp,hrun,Oper.upon];refine hc.mono λx w2 hR=>?_;obtain ⟨v,rfl,hm,hv⟩:=hk x w2 hR;have:=hv inv (h0.trans hm) _ (ha.setD hd v);rw [←hdst] at this;exact ⟨h0.trans hm,this⟩
theorem as_new{f i:Nat}{ls:List Nat}(cs:Array Value)(t:TypeId)(dst:Option Nat)(hk:∀b w',New w w' b (.cells cs t (0,0))->AW P n D ops Q w0 m f (i::ls) (setD dst (.pointer (some ⟨b,0,none⟩)) L) w')
 (h:newAt P n ops.toList i L=some (cs,t,dst):=by kernel_rfl):AS P n D ops Q w0 m f ls L w i:=by
 intro inv h0 a ha;obtain ⟨o,ho,hdst,hd,hw,hrun⟩:=newAt_spec (ops:=ops) h ha w;have ho2:ops[i]?=some o:=by simpa using ho
 unfold wpOp;simp only [ho2,hw,if_true];refine .inl ?_;simp only [Oper.wp,hrun,Oper.upon];have hN:=New.alloc w (.cells cs t (0,0));have:=hk _ _ hN inv (h0.trans hN.mod) _ (ha.setD hd _);rw [←hdst] at this;exact ⟨h0.trans hN.mod,this⟩
theorem as_store{f i:Nat}{ls:List Nat}(b off:Nat)(v:Value){cs:Array Value}{t:TypeId}(hb:At w b (.cells cs t (0,0)))(hfr:w0.heap.size<=b)
 (hk:∀w',Upd w w' b (.cells (storeRow cs off v.cells.toList) t (0,0))->AW P n D ops Q w0 m f (i::ls) (setD none undef L) w')
 (hlen:off+v.cells.size<=cs.size)(hone:oneCells v.cells.toList=true)(h:storeAt P n ops.toList i L=some (⟨b,off,none⟩,v,none,some v.cells.size):=by kernel_rfl):AS P n D ops Q w0 m f ls L w i:=by
 intro inv h0 a ha;unfold storeAt at h;split at h
 ·rename_i o ho;split at h
  ·rename_i hw hd;split at h
   ·rename_i tt x y hop;split at h
    ·rename_i a' v' hx hy;simp only [Option.some.injEq,Prod.mk.injEq] at h;obtain ⟨rfl,rfl,e,hs⟩:=h;have ho2:ops[i]?=some o:=by simpa using ho
     obtain ⟨w',hr,hU⟩:=run_storeCells (P:=P) v'.cells.toList 0 w cs hb (by simpa using hlen) hone;have hrun:(execOp a.eval o).run P w=.ok .skip w':=by
      obtain ⟨dst,op,ty,pos,af,g'⟩:=o;simp only at hop;subst hop;simp [execOp,Instr.storeAt,ha.agrees _ _ hx,ha.agrees _ _ hy,Instr.sureAddr,storeVar,runSize hs,hr]
     rw [show off+0=off from rfl] at hU;have hM:Mod [] w0 w':=h0.fresh hU.mod λx hx=>by rw [List.mem_singleton.1 hx];exact hfr
     unfold wpOp;simp only [ho2,wantedL_spec ha hw,if_true];refine .inl ?_;simp only [Oper.wp,hrun,Oper.upon];have:=hk w' hU inv hM _ (ha.setD (by rw [←e];exact hd) undef);rw [←e] at this;exact ⟨hM,this⟩
    cases h
   cases h
  cases h
 cases h
theorem aw_done{ls:List Nat}(hk:∀w',Mod [] w w'->Reg P n D ops (onlyN Q) m L w')(hB:Region.seqB .any ops (ops.size-m) m (lstd ops ls)=true:=by kernel_rfl):AW P n D ops Q w0 m 0 ls L w:=
 λ_ _ a ha=>⟨hB,λw'' hm=>hk w'' hm a ha⟩
end
theorem run_eqItems1(d:Nat){e:TypeId}{c:Nat}(xs:Array Value)(w:World)(he:prog.underlying e=some (.int .i64))(ha:isAggT prog e=some false):∀is:List Nat,(∀i∈is,∃z,xs[i*c]?=some (.int .i64 z))->
 (Op.eqItems (d+1) e c xs xs is).run prog w=.ok true w
 |[],_=>by simp [Op.eqItems]
 |i::is,h=>by
  obtain ⟨z,hz⟩:=h i (by simp);have ih:=run_eqItems1 d xs w he ha is λj hj=>h j (by simp [hj]);simp [Op.eqItems,run_part ha hz,run_eqInt d he,ih]
theorem run_bd22(f:Nat->Int)(w:World):(Op.equalIn 9999 22 (.agg (bdArr f)) (.agg (bdArr f))).run prog w=.ok true w:=by
 have hp:isAggT prog 3=some false:=by unfold isAggT;rw [Tryz.underlying3]
 have ec:prog.cellsOf 3=1:=by kernel_rfl
 obtain ⟨i,hi⟩:∃i,prog.info? 3=some i:=Option.isSome_iff_exists.1 (by kernel_rfl);have h:=run_equalIn_array (P:=prog) w 9998 (t:=22) (bdArr f) (bdArr f) (n:=64) (e:=3) (by kernel_rfl) hi;rw [ec,run_eqItems1 9997 (bdArr f) w Tryz.underlying3 hp (List.range 64) λi hi=>⟨f i,by rw [Nat.mul_one];exact bdArr_at' (List.mem_range.1 hi)⟩] at h;exact h
theorem sp_front(P:SP):(spCells P).extract 0 (0+64)=bdArr P.bd:=by
 unfold spCells;rw [Array.extract_append];simp [bdArr_size]
theorem run_p22(P:SP)(w:World):(part 22 (spCells P) 0).run prog w=.ok (.agg (bdArr P.bd)) w:=by
 have hq:isAggT prog 22=some true:=by kernel_rfl
 have hz:sizeT prog 22=some 64:=by kernel_rfl
 simp only [part,Sem.run_bind,runAgg hq,Result.andThen_ok,if_true,runSize hz,Sem.run_pure,sp_front]
theorem run_eq24(P:SP)(w:World):(Op.equal 24 (.agg (spCells P)) (.agg (spCells P))).run prog w=.ok true w:=by
 have hp:isAggT prog 3=some false:=by unfold isAggT;rw [Tryz.underlying3]
 have e3:=λa=>run_eqInt (P:=prog) (t:=3) (k:=.i64) 9998 Tryz.underlying3 a a w;have h0:=run_part hp (spCells_64 P) w;have h1:=run_part hp (spCells_65 P) w;have h2:=run_part hp (spCells_66 P) w;have h3:=run_part hp (spCells_67 P) w;have h4:=run_part hp (spCells_68 P) w;have h:=run_equalIn_struct (P:=prog) w 9999 24 (spCells P) (spCells P) (by kernel_rfl) (by kernel_rfl);refine Eq.trans ?_ (h.trans ?_)
 ·rfl
 simp only [Program.fieldsOf,Tryz.underlying24];simp [Op.eqFields,run_p22,run_bd22,h0,h1,h2,h3,h4,e3]
section
variable{n:Nat}{D:List Deferred}{ops:Array Oper}{Q:Exit->Act->World->Prop}{w:World}{L:List (Nat×Value)}
def ne24At(n:Nat)(ops:List Oper)(k:Nat)(L:List (Nat×Value)):Option (Value×Value×Option Nat):=
 match ops[k]? with
 |some o=>match wantedL ops L o,dstOk o.dst n with
  |some true,true=>match o.op with
   |.binOp .neq 24 x y _=>match evL L x,evL L y with
    |some u,some v=>some (u,v,o.dst)
    |_,_=>none
   |_=>none
  |_,_=>none
 |none=>none
theorem reg_ne24{k:Nat}(P:SP)(dst:Option Nat)(hk:Reg prog n D ops Q (k+1) (setD dst (.bool false) L) w)
 (h:ne24At n ops.toList k L=some (.agg (spCells P),.agg (spCells P),dst):=by kernel_rfl):Reg prog n D ops Q k L w:=by
 intro a ha;unfold ne24At at h;split at h
 ·rename_i o ho;split at h
  ·rename_i hw hd;split at h
   ·rename_i x y yt hop;split at h
    ·rename_i u v hu hv;simp only [Option.some.injEq,Prod.mk.injEq] at h;obtain ⟨rfl,rfl,rfl⟩:=h;have hrun:(execOp a.eval o).run prog w=.ok (.value (.bool false)) w:=by
      obtain ⟨dst,op,ty,pos,af,g'⟩:=o;simp only at hop;subst hop;simp only [execOp,ha.agrees _ _ hu,ha.agrees _ _ hv];simp [binOp,eqGuard,run_eq24]
     rw [drop_cons ho];simp only [wpList,wantedL_spec ha hw,if_true];refine .inl ?_;simp only [Oper.wp,hrun,Oper.upon];exact hk _ (ha.setD hd _)
    cases h
   cases h
  cases h
 cases h
end
set_option synthInstance.maxSize 2000
set_option synthInstance.maxHeartbeats 400000
def plB(B:Bd):Nat->Int:=λi=>IntKind.i64.wrap (pieceAt B (i:Int))
def plTo(B:Bd):Nat->Nat->Int
 |0=>λ_=>0
 |n+1=>upd (plTo B n) n (plB B n)
theorem plTo_at(B:Bd):∀n i:Nat,plTo B n i=if i<n then plB B i else 0
 |0,i=>by simp [plTo]
 |n+1,i=>by
  show upd (plTo B n) n (plB B n) i=_;unfold upd;rw [plTo_at B n i];by_cases h:i=n
  ·subst h;simp
  by_cases h2:i<n
  ·rw [if_neg h,if_pos h2,if_pos (by omega)]
  rw [if_neg h,if_neg h2,if_neg (by omega)]
theorem bdArr_congr{f g:Nat->Int}(h:∀i,i<64->f i=g i):bdArr f=bdArr g:=by
 unfold bdArr;refine Array.ext_getElem? λi=>?_;by_cases hi:i<64
 ·rw [Array.getElem?_map,Array.getElem?_map,Array.getElem?_range,if_pos hi];simp [h i hi]
 rw [Array.getElem?_eq_none (by simp;omega),Array.getElem?_eq_none (by simp;omega)]
theorem plTo_full(B:Bd):bdArr (plTo B 64)=bdArr (plB B):=bdArr_congr λi hi=>by rw [plTo_at,if_pos hi]
theorem bdStore(f:Nat->Int){k:Nat}(hk:k<64)(v:Int):storeRow (bdArr f) (0+k*1) [.int .i64 v]=bdArr (upd f k v):=by
 rw [show 0+k*1=k by omega];show (bdArr f).setIfInBounds k (.int .i64 v)=_;refine Array.ext_getElem? λi=>?_;rw [Array.getElem?_setIfInBounds];by_cases hi:i<64
 ·rw [bdArr_at' hi];unfold upd;by_cases h:k=i
  ·subst h;rw [if_pos rfl,if_pos (by rw [bdArr_size];exact hk),bdArr_at' hi,if_pos rfl]
  rw [if_neg h,bdArr_at' hi,if_neg (Ne.symm h)]
 have e:∀g:Nat->Int,(bdArr g)[i]?=none:=λg=>Array.getElem?_eq_none (by rw [bdArr_size];omega);rw [e,e,if_neg (by omega)]
theorem bd_one(f:Nat->Int):oneCells (Value.agg (bdArr f)).cells.toList=true:=by
 show oneCells (bdArr f).toList=true;unfold bdArr;rw [Array.toList_map];exact oneCells_ints _ (by intro v hv;obtain ⟨i,_,rfl⟩:=List.mem_map.1 hv;rfl)
theorem bd_all(f g:Nat->Int):storeRow (bdArr f) 0 (bdArr g).toList=bdArr g:=by
 have h:=storeRow_whole (bdArr g).toList (bdArr f) 0 (by rw [Array.length_toList,bdArr_size,bdArr_size]);exact Array.ext' (by rw [h];simp)
theorem bd_bound_all(f g:Nat->Int):0+(Value.agg (bdArr g)).cells.size<=(bdArr f).size:=by
 show 0+(bdArr g).size<=_;rw [bdArr_size,bdArr_size];exact Nat.le_refl _
theorem bd_bound(f:Nat->Int){k:Nat}(h:k<64):0+k*1+1<=(bdArr f).size:=by rw [bdArr_size];omega
theorem plTo_step{B:Bd}{j:Int}(h:0<=j)(h2:j<64):bdArr (upd (plTo B j.toNat) j.toNat (IntKind.i64.wrap (pieceAt B j)))=bdArr (plTo B (j+1).toNat):=by
 rw [show (j+1).toNat=j.toNat+1 by omega];show _=bdArr (upd (plTo B j.toNat) j.toNat (plB B j.toNat));unfold plB;rw [Int.toNat_of_nonneg h]
def colC:Nat->Int
 |0=>1|1=>1|2=>2|_=>2
theorem col_cell{i:Nat}(h:i<4):(#[.int .i8 1,.int .i8 1,.int .i8 2,.int .i8 2]:Array Value)[i]?=some (.int .i8 (colC i)):=by
 rcases (by omega:i=0\/i=1\/i=2\/i=3) with rfl|rfl|rfl|rfl<;>rfl
def plC(S:Ps):Nat->Int
 |0=>0
 |n+1=>bif canC S.castle (colC n) (IntKind.i64.wrap (((n:Int).tmod 2)+1)) then bitsV .or .i64 (plC S n) (IntKind.i64.wrap (1*2^(min n IntKind.i64.bits))) else plC S n
theorem plC_t{S:Ps}{j:Int}(h0:0<=j)(h:canC S.castle (colC (0+j.toNat*1)) (IntKind.i64.wrap ((j.tmod 2)+1))=true):bitsV .or .i64 (plC S j.toNat) (IntKind.i64.wrap (1*2^(min j.toNat IntKind.i64.bits)))=plC S (j+1).toNat:=by
 rw [show (j+1).toNat=j.toNat+1 by omega]
 conv=>rhs;unfold plC
 rw [show 0+j.toNat*1=j.toNat by omega] at h;rw [Int.toNat_of_nonneg h0,h];rfl
theorem plC_f{S:Ps}{j:Int}(h0:0<=j)(h:canC S.castle (colC (0+j.toNat*1)) (IntKind.i64.wrap ((j.tmod 2)+1))=false):plC S j.toNat=plC S (j+1).toNat:=by
 rw [show (j+1).toNat=j.toNat+1 by omega]
 conv=>rhs;unfold plC
 rw [show 0+j.toNat*1=j.toNat by omega] at h;rw [Int.toNat_of_nonneg h0,h];rfl
def plS(B:Bd)(S:Ps):SP:=⟨plB B,bif S.turn==2 then 1 else 0,plC S 4,IntKind.i64.wrap S.ep,S.half,S.full⟩
theorem idle33(p q:Value)(w:World):
 CallsD prog 33 #[p,q] .returning w λe u' w'=>e=.returned (.tuple #[])/\u'=.returning/\w'=w:=by
 refine callsD_of_wpS func33 rfl λc₀ cs hu=>?_;apply wpS_seq;apply wpS_region;simp [wpOpsS,go_sem,recoverD,hu,ntmps33,Exit.thenS];refine wpS_cond (t:=false) (by simp [Act.eval,Array.replicate]) ?_;simp only [Bool.false_eq_true,if_false];refine wpS_of_wp (wp_skip ?_);cases c₀;simp_all [bodyPostS,results,results33,Exit.thenS]
def def33(p q:Value):Deferred:={target:=.fn (.func 33) #[p,q],args:=#[]}
theorem leave33{fn:Func}{tmps:Array Value}{R:Ending->World->Prop}{p q v:Value}{w:World}(h:(results fn tmps).run prog w=.ok v w)(hR:R (.returned v) w):
 Leaves prog fn tmps R [def33 p q] .returning w:=by
 refine leaves_cons (f:=33) (args:=#[p,q]) (by simp) (by kernel_rfl) ((idle33 p q w).mono ?_);rintro e u' w' ⟨rfl,rfl,rfl⟩;exact ⟨v,h,hR⟩
theorem retD33{n:Nat}{L:List (Nat×Value)}{fn:Func}{R:Ending->World->Prop}{w:World}{t u T U m:Nat}{ad bd:Addr}{p q v:Value}{cs:Array Value}(hr:fn.results=#[.cell t T,.cell u U])(ht:look L t=some (.pointer (some ad)))(hu:look L u=some (.pointer (some bd)))
 (hT:isAggT prog T=some true)(hm:sizeT prog T=some m)(hU:isAggT prog U=some false)(h1:(Ob.row ad m cs).holds w)(h2:w.cell? bd=some v)
 (hR:R (.returned (.tuple #[.agg cs,v])) w)(a:Act)(ha:Hold n L [def33 p q] a):bodyPostD prog fn R .ret a w:=by
 show Leaves prog fn a.tmps R a.defers .returning w;rw [ha.defers];exact leave33 (v:=.tuple #[.agg cs,v]) (by simp [results,hr,ha.get _ _ ht,ha.get _ _ hu,asAddr,loadVar,runAgg hT,runAgg hU,runSize hm,run_loadCells h1,h2]) hR
theorem c61{c:GC}{b:Nat}{B:Bd}{w:World}(hb:At w b (.cells (bdCells B) 135 (0,0)))(hG:Glob c w):
  CR 61 [pz b] w (.agg (bdArr (plB B))):=by
 refine en func61 ntmps61 ?_;refine zw<|zA (bdArr (plTo B 0)) 22 (some 2) fun b1 w2 hn3=>zx<|zA (bdArr (plTo B 0)) 22 (some 3) fun b11 w12 hn13=>zz<|w_seq<|zw<|yS 1<|zz<|w_block<|w_loop (γ:=Int) (λg23=>(64-g23).toNat) (λ(g23:Int)=>[(0,pz b),(2,pz b1),(3,pz b11),(5,.int .i64 g23)]) (λ(g23:Int) w_=>(0<=g23/\g23<=64)/\Mod [b11] w12 w_/\At w_ b11 (.cells (bdArr (plTo B g23.toNat)) 22 (0,0))/\(True)) 0 (hold_keep [0,2,3,5] (by kernel_rfl)) ⟨by constructor<;>(try simp only [])<;>omega,Mod.refl _ _,ya,trivial⟩ ?_;rintro g23 w24 ⟨⟨h26,h27⟩,hm25,hf29,hx28⟩;refine zw<|yS 1<|zz<|w_seq<|yC (decide (g23<64)) (λhc34=>?_) λhc34=>?_
 ·have dhc34:=of_decide_eq_true hc34;refine w_skip<|n_then<|w_seq<|w_block<|zw<|yS 2<|zz<|w_region<|zs 4 [rz 0 b,rz 2 b1,rz 3 b11,iz 5 g23,iz 8 g23,rz 9 b,(11,.int .i8 (IntKind.i8.wrap g23))] ?_;rw [(show ((IntKind.i8.wrap g23):Int)=g23 from i8_in' (by omega) (by omega))];refine zk (some 12) (c72 (yA w24 b) (yG w24) g23) fun w35 hm36=>yO 2 [.prop (0<=g23/\g23<((64:Nat):Int))] (zh (by omega))<|reg_store b11 (0+g23.toNat*1) (.int .i64 (IntKind.i64.wrap (pieceAt B g23))) none (by kernel_rfl) ya (bd_bound _ (by omega)) rfl ?_;intro w43 hu44;have hf45:At w43 b11 (.cells (bdArr (upd (plTo B g23.toNat) g23.toNat (IntKind.i64.wrap (pieceAt B g23)))) 22 (0,0)):=at_cast hu44.at_ (congrArg (λA=>Obj.cells A 22 (0,0)) (bdStore (plTo B g23.toNat) (by omega) (IntKind.i64.wrap (pieceAt B g23))));refine ze<|n_block<|n_then<|w_region<|yS 2<|yW 5 (zi (g23+1) (by omega) (by omega))<|ze ?_;have hf51:=at_cast hf45 (congrArg (λA=>Obj.cells A 22 (0,0)) (plTo_step (B:=B) (by omega) (by omega)));exact l_back (g23+1) [0,2,3,5] (by kernel_rfl) (by omega) ⟨by constructor<;>(try simp only [])<;>omega,yt,hf51,trivial⟩
 have dhc34:=of_decide_eq_false hc34;refine w_exit<|x_then<|x_then<|x_hit<|zn<|yV 1 [.row ⟨b11,0,none⟩ 64 (bdArr (plTo B g23.toNat))] [.agg (bdArr (plTo B g23.toNat))] (At.row hf29 (bdArr_size _))<|reg_store b1 0 (.agg (bdArr (plTo B g23.toNat))) none (by kernel_rfl) ya (bd_bound_all _ _) (bd_one _) ?_;intro w52 hu53;have hf54:At w52 b1 (.cells (bdArr (plTo B g23.toNat)) 22 (0,0)):=at_cast hu53.at_ (congrArg (λA=>Obj.cells A 22 (0,0)) (bd_all (plTo B 0) _));exact zz<|w_ret<|retc results61 rfl (by kernel_rfl) (by kernel_rfl) ((At.row hf54 (bdArr_size _))) (⟨by rw [show g23=64 from by omega];exact congrArg (λA=>Ending.returned (.agg A)) (plTo_full B),yt⟩)
theorem c34{c:GC}{p b:Nat}{vm:Value}{S:Ps}{w:World}(hp:At w p (.cells (psCells b vm S) 110 (0,0))){B:Bd}(hb:At w b (.cells (bdCells B) 135 (0,0)))(hG:Glob c w)(hcs:S.castle.size<=1000000):
  CR 34 [.pointer (some ⟨p,0,none⟩)] w (.agg (spCells (plS B S))):=by
 refine en func34 ntmps34 ?_;refine zw<|reg_alloc (spCells zeroSP) 24 (some 2) (by kernel_rfl) fun b1 w2 hn3=>reg_end (by kernel_rfl)<|zn<|yS 1<|zk (some 7) (c62 (yA w2 p)) fun w12 hm13=>zk (some 8) (c61 (yA w12 b) (yG w12)) fun w19 hm20=>yS 1<|zk (some 10) (c63 (yA w19 p)) fun w26 hm27=>yS 2<|zk (some 13) (c64 (yA w26 p)) fun w33 hm34=>yS 1<|zk (some 15) (c65 (yA w33 p)) fun w40 hm41=>yS 1<|reg_alloc (spCells zeroSP) 24 (some 3) (by kernel_rfl) fun b47 w48 hn49=>reg_store b47 0 (.agg (spCells (⟨(plB B),(0:Int),(0:Int),(IntKind.i64.wrap S.ep),S.half,S.full⟩:SP))) none (by kernel_rfl) ya (sp_bound_all zeroSP _) (sp_one (⟨(plB B),(0:Int),(0:Int),(IntKind.i64.wrap S.ep),S.half,S.full⟩:SP)) ?_;intro w60 hu61;have hf62:At w60 b47 (.cells (spCells (⟨(plB B),(0:Int),(0:Int),(IntKind.i64.wrap S.ep),S.half,S.full⟩:SP)) 24 (0,0)):=at_cast hu61.at_ (congrArg (λA=>Obj.cells A 24 (0,0)) (spStore_all zeroSP (⟨(plB B),(0:Int),(0:Int),(IntKind.i64.wrap S.ep),S.half,S.full⟩:SP)));refine zz<|w_cut (γ:=Unit) (λ_=>[(0,.pointer (some ⟨p,0,none⟩)),(2,.pointer (some ⟨b1,0,none⟩)),(3,.pointer (some ⟨b47,0,none⟩))]) (λ_ w_=>Mod [b47] w60 w_/\At w_ b47 (.cells (spCells (⟨(plB B),(bif S.turn==(2:Int) then (1:Int) else (0:Int)),(0:Int),(IntKind.i64.wrap S.ep),S.half,S.full⟩:SP)) 24 (0,0))) ?_ ?_
 ·refine zw<|yS 1<|zk (some 18) (c66 (yA w60 p)) fun w72 hm73=>yS 1<|reg_end (by kernel_rfl)<|n_then<|w_cond (b:=(S.turn==(2:Int))) (by kernel_rfl) (λhc81=>?_) (λhc81=>?_)
  ·have dhc81:=eq_of_beq hc81;refine w_region<|yS 1<|reg_store b47 64 (.int .i64 (1:Int)) none (by kernel_rfl) ya (sp_bound (⟨(plB B),(0:Int),(0:Int),(IntKind.i64.wrap S.ep),S.half,S.full⟩:SP) (1:Int) (by omega)) rfl ?_;intro w82 hu83;have hf84:At w82 b47 (.cells (spCells (⟨(plB B),(1:Int),(0:Int),(IntKind.i64.wrap S.ep),S.half,S.full⟩:SP)) 24 (0,0)):=at_cast hu83.at_ (congrArg (λA=>Obj.cells A 24 (0,0)) (spStore_64 (⟨(plB B),(0:Int),(0:Int),(IntKind.i64.wrap S.ep),S.half,S.full⟩:SP) (1:Int)));exact ze<|zb () ⟨yt,at_cast hf84 (by simp only [hc81,cond_true,cond_false])⟩
  have dhc81:=ne_of_beq_false hc81;exact w_skip<|zb () ⟨yt,at_cast ya (by simp only [hc81,cond_true,cond_false])⟩
 rintro _ w68 ⟨hm69,hf70⟩;refine w_seq<|zw<|reg_bslice (#[.int .i8 (1:Int),.int .i8 (1:Int),.int .i8 (2:Int),.int .i8 (2:Int)]) 81 4 (some 21) (by kernel_rfl) fun b96 w97 hn98=>yS 2<|zz<|w_block<|yP (γ:=Int) (λg109=>(4-g109).toNat) (λ(g109:Int)=>[(0,.pointer (some ⟨p,0,none⟩)),(2,.pointer (some ⟨b1,0,none⟩)),(3,.pointer (some ⟨b47,0,none⟩)),(21,.slice (some ⟨b96,0,none⟩) 4 4),(22,.int .i64 ((4:Nat):Int)),(23,.int .i64 g109)]) (λ(g109:Int) w_=>(0<=g109/\g109<=4)/\Mod [b47] w97 w_/\At w_ b47 (.cells (spCells (⟨(plB B),(bif S.turn==(2:Int) then (1:Int) else (0:Int)),(plC S g109.toNat),(IntKind.i64.wrap S.ep),S.half,S.full⟩:SP)) 24 (0,0))/\(True)) (0:Int) ⟨by omega,Mod.refl _ _,ya,trivial⟩ ?_;rintro g109 w110 ⟨⟨h112,h113⟩,hm111,hf115,hx114⟩;refine zw<|yS 1<|zz<|w_seq<|w_cond (b:=(decide (g109<((4:Nat):Int)))) (by kernel_rfl) (λhc122=>?_) (λhc122=>?_)
 ·have dhc122:=of_decide_eq_true hc122;refine w_skip<|n_then<|w_seq<|w_block<|zw<|yV 5 [.prop (0<=g109/\g109<((4:Nat):Int)),.cell ⟨b96,(0+g109.toNat*1),none⟩ (.int .i8 (colC ((0+g109.toNat*1))))] [.int .i8 (colC ((0+g109.toNat*1)))] (⟨(zh (by omega)),yc (col_cell (by omega))⟩)<|zx<|yS 1<|zk (some 29) (c67 (yA w110 p)) fun w123 hm124=>yO 4 [.prop ((2:Int)≠0)] (show (2:Int)≠0 from (by omega))<|zk (some 34) (c68 S.castle (colC ((0+g109.toNat*1))) (IntKind.i64.wrap ((g109.tmod (2:Int))+(1:Int))) hcs) fun w133 hm134=>reg_end (by kernel_rfl)<|n_then<|w_cond (b:=(canC S.castle (colC ((0+g109.toNat*1))) (IntKind.i64.wrap ((g109.tmod (2:Int))+(1:Int))))) (by kernel_rfl) (λhc143=>?_) (λhc143=>?_)
  ·refine w_tail 6 (by kernel_rfl) (by kernel_rfl)<|yQo 6 [.cell ⟨b47,65,none⟩ (.int .i64 (plC S g109.toNat)),.prop (0<=g109)] (λ_ hC=>⟨At.cell (At.on ya hC) (spCells_65 (⟨(plB B),(bif S.turn==(2:Int) then (1:Int) else (0:Int)),(plC S g109.toNat),(IntKind.i64.wrap S.ep),S.half,S.full⟩:SP)),(show 0<=g109 from (by omega))⟩)<|q_end (by kernel_rfl) (λa ha w144 hm145=>(?_:Reg _ _ _ _ _ 6 _ w144) a ha);refine reg_store b47 65 (.int .i64 (bitsV .or .i64 (plC S g109.toNat) (IntKind.i64.wrap ((1:Int)*2^(min g109.toNat IntKind.i64.bits))))) none (by kernel_rfl) ya (sp_bound (⟨(plB B),(bif S.turn==(2:Int) then (1:Int) else (0:Int)),(plC S g109.toNat),(IntKind.i64.wrap S.ep),S.half,S.full⟩:SP) (bitsV .or .i64 (plC S g109.toNat) (IntKind.i64.wrap ((1:Int)*2^(min g109.toNat IntKind.i64.bits)))) (by omega)) rfl ?_;intro w154 hu155;have hf156:At w154 b47 (.cells (spCells (⟨(plB B),(bif S.turn==(2:Int) then (1:Int) else (0:Int)),(bitsV .or .i64 (plC S g109.toNat) (IntKind.i64.wrap ((1:Int)*2^(min g109.toNat IntKind.i64.bits)))),(IntKind.i64.wrap S.ep),S.half,S.full⟩:SP)) 24 (0,0)):=at_cast hu155.at_ (congrArg (λA=>Obj.cells A 24 (0,0)) (spStore_65 (⟨(plB B),(bif S.turn==(2:Int) then (1:Int) else (0:Int)),(plC S g109.toNat),(IntKind.i64.wrap S.ep),S.half,S.full⟩:SP) (bitsV .or .i64 (plC S g109.toNat) (IntKind.i64.wrap ((1:Int)*2^(min g109.toNat IntKind.i64.bits))))));refine ze<|n_block<|n_then<|w_region<|reg_seg 2 [(0,.pointer (some ⟨p,0,none⟩)),(2,.pointer (some ⟨b1,0,none⟩)),(3,.pointer (some ⟨b47,0,none⟩)),(21,.slice (some ⟨b96,0,none⟩) 4 4),(22,.int .i64 ((4:Nat):Int)),(23,.int .i64 (IntKind.i64.wrap (g109+(1:Int))))] [] [] [0,2,3,21,22,23] (by kernel_rfl) trivial<|ze ?_;rw [(show ((IntKind.i64.wrap (g109+(1:Int))):Int)=(g109+1) from i64_in' (by omega) (by omega))];have hf164:At w154 b47 (.cells (spCells (⟨(plB B),(bif S.turn==(2:Int) then (1:Int) else (0:Int)),(plC S (g109+1).toNat),(IntKind.i64.wrap S.ep),S.half,S.full⟩:SP)) 24 (0,0)):=at_cast hf156 (congrArg (λA=>Obj.cells A 24 (0,0)) (congrArg (λ(x:Int)=>spCells ⟨(plB B),(bif S.turn==(2:Int) then (1:Int) else (0:Int)),x,(IntKind.i64.wrap S.ep),S.half,S.full⟩) (plC_t (S:=S) (by omega) hc143)));exact zl (g109+1) ⟨by omega,yt,hf164,trivial⟩
  refine w_skip<|n_block<|n_then<|w_region<|reg_seg 2 [(0,.pointer (some ⟨p,0,none⟩)),(2,.pointer (some ⟨b1,0,none⟩)),(3,.pointer (some ⟨b47,0,none⟩)),(21,.slice (some ⟨b96,0,none⟩) 4 4),(22,.int .i64 ((4:Nat):Int)),(23,.int .i64 (IntKind.i64.wrap (g109+(1:Int))))] [] [] [0,2,3,21,22,23] (by kernel_rfl) trivial<|reg_end (by kernel_rfl) ?_;rw [(show ((IntKind.i64.wrap (g109+(1:Int))):Int)=(g109+1) from i64_in' (by omega) (by omega))];have hf165:At w133 b47 (.cells (spCells (⟨(plB B),(bif S.turn==(2:Int) then (1:Int) else (0:Int)),(plC S (g109+1).toNat),(IntKind.i64.wrap S.ep),S.half,S.full⟩:SP)) 24 (0,0)):=at_cast ya (congrArg (λA=>Obj.cells A 24 (0,0)) (congrArg (λ(x:Int)=>spCells ⟨(plB B),(bif S.turn==(2:Int) then (1:Int) else (0:Int)),x,(IntKind.i64.wrap S.ep),S.half,S.full⟩) (plC_f (S:=S) (by omega) hc143)));exact l_back (g109+1) [0,2,3,21,22,23] (by kernel_rfl) (by omega) ⟨by constructor<;>(try simp only [])<;>omega,yt,hf165,trivial⟩
 have dhc122:=of_decide_eq_false hc122;refine w_exit<|x_then<|x_then<|x_hit<|zn<|yV 1 [.row ⟨b47,0,none⟩ 69 (spCells (⟨(plB B),(bif S.turn==(2:Int) then (1:Int) else (0:Int)),(plC S g109.toNat),(IntKind.i64.wrap S.ep),S.half,S.full⟩:SP))] [.agg (spCells (⟨(plB B),(bif S.turn==(2:Int) then (1:Int) else (0:Int)),(plC S g109.toNat),(IntKind.i64.wrap S.ep),S.half,S.full⟩:SP))] (At.row hf115 (spCells_size (⟨(plB B),(bif S.turn==(2:Int) then (1:Int) else (0:Int)),(plC S g109.toNat),(IntKind.i64.wrap S.ep),S.half,S.full⟩:SP)))<|reg_store b1 0 (.agg (spCells (⟨(plB B),(bif S.turn==(2:Int) then (1:Int) else (0:Int)),(plC S g109.toNat),(IntKind.i64.wrap S.ep),S.half,S.full⟩:SP))) none (by kernel_rfl) ya (sp_bound_all zeroSP _) (sp_one (⟨(plB B),(bif S.turn==(2:Int) then (1:Int) else (0:Int)),(plC S g109.toNat),(IntKind.i64.wrap S.ep),S.half,S.full⟩:SP)) ?_;intro w166 hu167;have hf168:At w166 b1 (.cells (spCells (⟨(plB B),(bif S.turn==(2:Int) then (1:Int) else (0:Int)),(plC S g109.toNat),(IntKind.i64.wrap S.ep),S.half,S.full⟩:SP)) 24 (0,0)):=at_cast hu167.at_ (congrArg (λA=>Obj.cells A 24 (0,0)) (spStore_all zeroSP (⟨(plB B),(bif S.turn==(2:Int) then (1:Int) else (0:Int)),(plC S g109.toNat),(IntKind.i64.wrap S.ep),S.half,S.full⟩:SP)));exact zz<|w_ret<|retc results34 rfl (by kernel_rfl) (by kernel_rfl) ((At.row hf168 (spCells_size (⟨(plB B),(bif S.turn==(2:Int) then (1:Int) else (0:Int)),(plC S g109.toNat),(IntKind.i64.wrap S.ep),S.half,S.full⟩:SP)))) (⟨by rw [show g109=(4:Int) from by omega];rfl,yt⟩)
set_option maxHeartbeats 2000000 in
theorem c18{c:GC}{w:World}(P:SP)(hG:Glob c w)(hP:SPok P)(hpre:MvPre (boardOf P.bd) (psOf P))(x y z:Int)(hex:∃i,i<(allL (boardOf P.bd) (psOf P)).length/\eqM (mvAt (allL (boardOf P.bd) (psOf P)) i) x y z=true)(hr:∀M∈(allL (boardOf P.bd) (psOf P)),MvOk M)(hu:∀M∈(allL (boardOf P.bd) (psOf P)),UpPre (boardOf P.bd) (psOf P) M):
  CQ 18 [.agg (spCells P),.agg #[.int .i64 x,.int .i64 y,.int .i64 z]] w (λe w'=>∃M∈(allL (boardOf P.bd) (psOf P)),eqM M x y z=true/\e=.returned (.tuple #[.agg (spCells (plS (updB (boardOf P.bd) M) (nextPs (boardOf P.bd) (psOf P) M))),.bool true])/\Mod [] w w'):=by
 have hm0:Mod [] w w:=Mod.refl _ _;have hGs:=hG.size;refine enterD (n:=16) func18 rfl ntmps18 rfl<|zw<|zA (spCells P) 24 (some 2) ?_;intro b1 w2 hn3;have hb4:c.base<=b1:=Glob.lt hG hn3;have hb5:=Nat.le_trans hm0.size hn3.base;have hm6:=hn3.mod;have hG7:=Glob.on hG hm6;have hm8:=zt hm0 hm6;have hf9:=hn3.at_;refine zA (#[.int .i64 x,.int .i64 y,.int .i64 z]) 30 (some 3) ?_;intro b10 w11 hn12;have hb13:c.base<=b10:=Glob.lt hG7 hn12;have hb14:=Nat.le_trans hm8.size hn12.base;have hm15:=hn12.mod;have hf16:=At.on hf9 hm15;have hG17:=Glob.on hG7 hm15;have hm18:=zt hm8 hm15;have hf19:=hn12.at_;refine zA (spCells zeroSP) 24 (some 4) ?_;intro b20 w21 hn22;have ne23:b1≠b20:=hn22.ne hf16;have hb24:c.base<=b20:=Glob.lt hG17 hn22;have hb25:=Nat.le_trans hm18.size hn22.base;have hm26:=hn22.mod;have hf27:=At.on hf16 hm26;have hf28:=At.on hf19 hm26;have hG29:=Glob.on hG17 hm26;have hm30:=zt hm18 hm26;have hf31:=hn22.at_;refine zA (#[.bool false]) 4 (some 5) ?_;intro b32 w33 hn34;have hb35:c.base<=b32:=Glob.lt hG29 hn34;have hb36:=Nat.le_trans hm30.size hn34.base;have hm37:=hn34.mod;have hf38:=At.on hf27 hm37;have hf39:=At.on hf28 hm37;have hf40:=At.on hf31 hm37;have hG41:=Glob.on hG29 hm37;have hm42:=zt hm30 hm37;have hf43:=hn34.at_;refine zx<|reg_run (v:=.func (.func 33) #[] #[pz b20,pz b32]) (w':=w33) rfl rfl rfl (by kernel_rfl) (.inl (by kernel_rfl))<|reg_defer (def33 (pz b20) (pz b32)) rfl rfl rfl (by kernel_rfl) (by kernel_rfl)<|zx<|yV 1 [.row ⟨b1,0,none⟩ 69 (spCells P)] [.agg (spCells P)] (At.row hf38 (spCells_size P))<|reg_call 27 [.agg (spCells P)] (some 9) (by kernel_rfl) (c27 P hG41 hP) ?_;rintro _ w44 ⟨p46,b47,rfl,hm45,hf48,hf49,hb50,hb51⟩;refine ⟨_,rfl,?_⟩;have hb52:=Nat.le_trans hm42.size hb50;have hf54:=At.on hf39 hm45;have hf55:=At.on hf40 hm45;have hf56:=At.on hf43 hm45;have hG57:=Glob.on hG41 hm45;have hm58:=zt hm42 hm45;refine yS 1<|zx<|yV 3 [.row ⟨b10,0,none⟩ 3 (#[.int .i64 x,.int .i64 y,.int .i64 z])] [.agg (#[.int .i64 x,.int .i64 y,.int .i64 z])] (At.row hf54 rfl)<|reg_call 29 [pz p46,.agg (#[.int .i64 x,.int .i64 y,.int .i64 z])] (some 13) (by kernel_rfl) (c29 (S:=psOf P) hf48 hf49 hG57 hpre (by have:=hG.size;omega) (.inl rfl) x y z hex hr) ?_;rintro _ w59 ⟨q61,M62,vm63,rfl,hm60,hf64,hca65,hf66,hb67,hin68,heq69⟩;refine ⟨_,rfl,?_⟩;have hb70:=Nat.le_trans hm58.size hb67;have hf73:=At.keep hf55 hm60 (not_mem1 (At.ne hf55 hf48 rfl));have hf74:=At.keep hf56 hm60 (not_mem1 (At.ne hf56 hf48 rfl));have hf75:=At.keep hf49 hm60 (not_mem1 (At.ne hf49 hf48 rfl));have hG76:=Glob.keep hG57 hm60 (by simp<;>omega);have hm77:=Mod.fresh' hm58 hm60 (by simp<;>omega);obtain ⟨gc78,cc79,rfl,hoc80⟩:=hca65;refine reg_call 35 [pz p46,pz q61] (some 14) (by kernel_rfl) (c35 (S:=psOf P) (M:=M62) hf64 hf75 hf66 hG76 (hu M62 hin68).hs (hu M62 hin68).hs2 (hu M62 hin68).hp1 (hu M62 hin68).hcol (hu M62 hin68).hpro (hu M62 hin68).hnew (hu M62 hin68).cs) ?_;rintro _ w81 ⟨p83,b84,rfl,hm82,hf85,hf86,hb87,hb88⟩;refine ⟨_,rfl,?_⟩
 have hb89:=Nat.le_trans hm77.size hb87;have hb90:=Nat.le_trans hm77.size hb88;have hf93:=At.on hf73 hm82;have hf94:=At.on hf74 hm82;have hG98:=Glob.on hG76 hm82;have hm99:=zt hm77 hm82;refine zk (some 15) (c34 (S:=(nextPs (boardOf P.bd) (psOf P) M62)) hf85 hf86 hG98 (hu M62 hin68).st.cs) ?_;intro w100 hm101;have hf104:=At.on hf93 hm101;have hf105:=At.on hf94 hm101;have hm109:=zt hm99 hm101;refine reg_store b20 0 (.agg (spCells (plS (updB (boardOf P.bd) M62) (nextPs (boardOf P.bd) (psOf P) M62)))) none (by kernel_rfl) hf104 (sp_bound_all zeroSP _) (sp_one (plS (updB (boardOf P.bd) M62) (nextPs (boardOf P.bd) (psOf P) M62))) ?_;intro w110 hu111;have hf112:At w110 b20 (.cells (spCells (plS (updB (boardOf P.bd) M62) (nextPs (boardOf P.bd) (psOf P) M62))) 24 (0,0)):=at_cast hu111.at_ (congrArg (λA=>Obj.cells A 24 (0,0)) (spStore_all zeroSP (plS (updB (boardOf P.bd) M62) (nextPs (boardOf P.bd) (psOf P) M62))));have hf115:=At.keep hf105 hu111.mod (not_mem1 (At.ne hf105 hf104 rfl));have hm119:=Mod.fresh' hm109 hu111.mod (by simp<;>omega);refine zS b32 0 (.bool true) ?_;intro w120 hu121;have hf122:At w120 b32 (.cells (#[.bool true]) 4 (0,0)):=hu121.at_;have hf127:=At.keep hf112 hu121.mod (not_mem1 (At.ne hf112 hf115 rfl));have hm129:=Mod.fresh' hm119 hu121.mod (by simp<;>omega);exact zz<|w_ret<|retD33 results18 rfl rfl (by kernel_rfl) (by kernel_rfl) (by kernel_rfl) (At.row hf127 (spCells_size _)) (At.cell (j:=0) hf122 rfl) ⟨M62,hin68,heq69,rfl,hm129⟩
def I64(x:Int):Prop:=-9223372036854775808<=x/\x<=9223372036854775807
theorem wrap_I64(x:Int):I64 (IntKind.i64.wrap x):=by
 unfold I64;simp only [IntKind.wrap,IntKind.bits,IntKind.signed];simp;omega
theorem wrap_of{x:Int}(h:I64 x):IntKind.i64.wrap x=x:=i64_in' h.1 h.2
theorem sp_congr{P Q:SP}(h:∀i,i<64->P.bd i=Q.bd i)(h1:P.turn=Q.turn)(h2:P.castle=Q.castle)(h3:P.ep=Q.ep)(h4:P.half=Q.half)(h5:P.full=Q.full):spCells P=spCells Q:=by
 unfold spCells spTail;rw [bdArr_congr h,h1,h2,h3,h4,h5]
def plCs(cr:ByteArray):Nat->Int
 |0=>0
 |n+1=>bif canC cr (colC n) (IntKind.i64.wrap (((n:Int).tmod 2)+1)) then bitsV .or .i64 (plCs cr n) (IntKind.i64.wrap (1*2^(min n IntKind.i64.bits))) else plCs cr n
theorem plC_eq(S:Ps):∀n,plC S n=plCs S.castle n
 |0=>rfl
 |n+1=>by unfold plC plCs;rw [plC_eq S n]
theorem plCs_str:∀n,n<16->plCs (castStr (n:Nat)) 4=(n:Nat):=by decide+kernel
theorem plC_str{S:Ps}{x:Int}(h:S.castle=castStr x)(hx:0<=x/\x<=15):plC S 4=x:=by
 rw [plC_eq,h];have:=plCs_str x.toNat (by omega)
 rwa [Int.toNat_of_nonneg hx.1] at this
section
variable{P:SP}{m:Sm}{M:Mv}
theorem epS_rng(hs:SmOk m):-1<=epS P.bd m.f m.t/\epS P.bd m.f m.t<=63:=by
 have hf:=hs.f;have ht:=hs.t;unfold epS;cases ((kindOf (P.bd m.f.toNat)==6)&&((m.t==m.f+16)||(m.t==m.f-16)))<;>simp only [cond_true,cond_false]<;>omega
theorem pl_made(hV:ValidS P)(hF:I64 P.full)(h:LegM P m)(hT:TagM P m M):spCells (plS (updB (boardOf P.bd) M) (nextPs (boardOf P.bd) (psOf P) M))=spCells (madeS P m.f m.t m.p):=by
 have hs:=h.ok hV;have hV':=made_valid hV h;have hP:=hV.turn;have hB:=(base_rep hV').1;refine sp_congr (λi hi=>?_) ?_ ?_ ?_ ?_ ?_
 ·show IntKind.i64.wrap (pieceAt (updB (boardOf P.bd) M) (i:Int))=_;have e:=hB.pieceAt (s:=i) hi;have hr:=hV'.bd i hi;rw [hT.board];refine (congrArg _ e).trans (i64_in' ?_ ?_)
  ·have:=hr.1;omega
  ·have:=hr.2;omega
 ·show (bif otherC (psOf P).turn==2 then 1 else 0)=1-P.turn;rw [next_turn hV];rcases (by omega:P.turn=0\/P.turn=1) with e|e<;>rw [e]<;>rfl
 ·exact plC_str (next_castle hV h hT) (made_castle hV.castle _ _ _)
 ·show IntKind.i64.wrap (newEP (boardOf P.bd) (psOf P) M)=_;rw [next_ep hV h hT];have:=epS_rng (P:=P) hs;exact i64_in' (by omega) (by omega)
 ·show newHalf (boardOf P.bd) (psOf P) M=halfS P.bd P.half m.f m.t;unfold newHalf halfS;rw [type_f hV h hT,tag4,hT.t2];cases h6:(kindOf (P.bd m.f.toNat)==6)
  ·rw [show takesI P.bd m.f m.t=(P.bd m.t.toNat !=0) by unfold takesI;rw [h6,Bool.false_and,Bool.or_false],Bool.false_or,Bool.or_false];rfl
  rw [Bool.true_or,Bool.or_true];rfl
 show newFull (psOf P)=IntKind.i64.wrap (P.full+P.turn);unfold newFull;rw [show (psOf P).turn=turnOf P.turn from rfl];rcases (by omega:P.turn=0\/P.turn=1) with e|e<;>rw [e]
 ·show P.full=_;rw [Int.add_zero,wrap_of hF]
 rfl
end
set_option synthInstance.maxSize 2000
set_option synthInstance.maxHeartbeats 400000
theorem pk_at{w w':World}{n pb po:Nat}{ao:Option Addr}{xs:Nat->Int}(h:∀j,j<n->ao=some ⟨pb,po,none⟩/\w.cell? ⟨pb,po+j,none⟩=some (.int .i64 (xs j)))(hm:Mod [] w w'){j:Nat}(hj:j<n):w'.cell? ⟨pb,po+j,none⟩=some (.int .i64 (xs j)):=by
 have h2:=(h j hj).2;refine (cell_keep hm ?_ (by simp)).trans h2;refine Classical.byContradiction λhh=>?_;have:w.heap[pb]?=none:=by rw [Array.getElem?_eq_none (by omega)]
 simp [World.cell?,this] at h2
def notI(k:Int):Int:=IntKind.i64.wrap ((IntKind.u64.wrap k).tmod 3)
theorem notI_rng(k:Int):0<=notI k/\notI k<=2:=by
 have h:=pick_ok (k:=k) (n:=3) (by decide) (by decide);have e:notI k=pickI k 3:=rfl;omega
def txtA(P:SP)(n:Int)(m:Sm):List UInt8:=if n=0 then bodyS P m.f m.t m.p++sgnS P m.f m.t m.p else if n=1 then lanS P m.f m.t m.p else uciB ⟨0,m.f,m.t,m.p⟩
section
variable{P:SP}{m:Sm}{c:GC}{w:World}
theorem w15a(hG:Glob c w)(hR:RightS P)(h:LegM P m)(ht:Told P m){n:Int}(hn:0<=n/\n<=2):CR 15 [.int .i64 n,.agg (spCells P),.agg #[.int .i64 m.f,.int .i64 m.t,.int .i64 m.p]] w (.tuple #[.string (bstr (txtA P n m)),.bool true]):=by
 rcases (by omega:n=0\/n=1\/n=2) with rfl|rfl|rfl
 ·exact w15s hG hR h ht
 ·exact w15l hG hR h ht
 have hU:=plainU hR (h.okS hR.valid);exact c15u P hG hU.ok hU.pre m.f m.t m.p hU.hex hU.hr
theorem w16a(hG:Glob c w)(hR:RightS P)(h:LegM P m){n:Int}(hn:0<=n/\n<=2):CQ 16 [.int .i64 n,.agg (spCells P),.string (bstr (txtA P n m))] w (λe w'=>∃t,e=.returned (.tuple #[.agg #[.int .i64 m.f,.int .i64 m.t,.int .i64 m.p],.int .i64 t,.bool true])/\Mod [] w w'):=by
 rcases (by omega:n=0\/n=1\/n=2) with rfl|rfl|rfl
 ·exact w16s hG hR h
 ·exact w16l hG hR h
 have hU:=plainU hR (h.okS hR.valid);exact c16 P hG hU.ok hU.pre ⟨(uciB ⟨0,m.f,m.t,m.p⟩).toArray⟩ m.f m.t m.p hU.sm.f hU.sm.t (by have:=hU.sm.p;omega) (uciB_len hU.sm.p) (uciB_at hU.sm.f hU.sm.t).1 (uciB_at hU.sm.f hU.sm.t).2.1 (uciB_at hU.sm.f hU.sm.t).2.2.1 (uciB_at hU.sm.f hU.sm.t).2.2.2 (λh=>uciB_pr (by have:=hU.sm.p;omega)) hU.pc (castle_size P)
theorem w18(hG:Glob c w)(hR:RightS P)(hF:I64 P.full)(h:LegM P m):CR 18 [.agg (spCells P),.agg #[.int .i64 m.f,.int .i64 m.t,.int .i64 m.p]] w (.tuple #[.agg (spCells (madeS P m.f m.t m.p)),.bool true]):=by
 have hV:=hR.valid;refine (c18 P hG (spok hV) (mvPre hR) m.f m.t m.p (hR.h.2 h) (mvOk_all hV) λM hM=>?_).mono λe w' ⟨M,hM,he,e1,e2⟩=>?_
 ·obtain ⟨n,hn,hT⟩:=tag_all hV hM;exact upPre hV hn hT
 obtain ⟨n,hn,hT⟩:=tag_all hV hM;unfold eqM at he;simp only [Bool.and_eq_true,beq_iff_eq] at he;obtain rfl:n=m:=sm_ext (hT.s1.symm.trans he.1) (hT.s2.symm.trans he.2.1) (hT.pr.symm.trans he.2.2);exact ⟨by rw [e1,pl_made hV hF hn hT],e2⟩
end
set_option maxHeartbeats 4000000 in
theorem c8{c:GC}{w:World}(P:SP)(hF:I64 P.full)(ao:Option Addr)(n cap:Nat)(k:Int)(pb po:Nat)(xs:Nat->Int)(hG:Glob c w)(hpk:∀j,j<n->ao=some ⟨pb,po,none⟩/\w.cell? ⟨pb,po+j,none⟩=some (.int .i64 (xs j))):
  CR 8 [.agg (spCells P),.slice ao n cap,.int .i64 k] w (.bool true):=by
 have hm0:Mod [] w w:=Mod.refl _ _;have hGs:=hG.size;have hn:=notI_rng k;refine en func8 ntmps8 ?_;refine zw<|zA (spCells P) 24 (some 3) ?_;intro b1 w2 hn3;have hb4:c.base<=b1:=Glob.lt hG hn3;have hb5:=Nat.le_trans hm0.size hn3.base;have hm6:=hn3.mod;have hm8:=Mod.trans hm0 (Mod.of_nil hm6);have hz9:=hm6.size;refine yS 1<|zz<|w_seq<|zw<|yS 3<|zz<|w_cond (b:=(decide (((n:Nat):Int)>(2147483647:Int)))) (by kernel_rfl) (λhc11=>?_) (λhc11=>?_)
 ·have dhc11:=of_decide_eq_true hc11;exact zw<|yS 1<|zz<|w_ret<|r_then<|y1 (⟨rfl,hm8⟩)
 have dhc11:=of_decide_eq_false hc11;refine w_skip<|n_then<|w_seq<|zw<|yS 3<|zz<|w_cond (b:=(decide (((n:Nat):Int)>(12:Int)))) (by kernel_rfl) (λhc12=>?_) (λhc12=>?_)
 ·have dhc12:=of_decide_eq_true hc12;exact zw<|yS 1<|zz<|w_ret<|r_then<|y1 (⟨rfl,hm8⟩)
 have dhc12:=of_decide_eq_false hc12;refine w_skip<|zn<|zo 5 [(1,.slice ao n cap),rz 3 b1,iz 7 (IntKind.i64.wrap ((IntKind.u64.wrap k).tmod (3:Int)))] [.prop ((3:Int)≠0)] (show (3:Int)≠0 from (by omega))<|ze ?_;rw [show (IntKind.i64.wrap ((IntKind.u64.wrap k).tmod (3:Int)))=notI k from rfl];refine n_then<|w_seq<|zw<|yS 1<|zz<|w_block<|yP (γ:=Int×SP) (λg13=>(((n:Nat):Int)-g13.1).toNat) (λ(g13:Int×SP)=>[(1,.slice ao n cap),(3,.pointer (some ⟨b1,0,none⟩)),(7,.int .i64 (notI k)),(8,.int .i64 g13.1)]) (λ(g13:Int×SP) w_=>(0<=g13.1/\g13.1<=((n:Nat):Int))/\Mod [b1] w2 w_/\At w_ b1 (.cells (spCells g13.2) 24 (0,0))/\I64 g13.2.full) ((0:Int),P) ⟨by omega,Mod.refl _ _,ya,hF⟩ ?_;rintro g13 w14 ⟨⟨h16,h17⟩,hm15,hf19,hF18⟩;have hm21:=Mod.fresh' hm8 hm15 (by simp<;>omega);have hz22:=hm15.size;refine w_seq<|zw<|yS 4<|zz<|w_cond (b:=(decide (g13.1<((n:Nat):Int)))) (by kernel_rfl) (λhc23=>?_) (λhc23=>?_)
 ·have dhc23:=of_decide_eq_true hc23;obtain ⟨rfl,_⟩:=hpk 0 (by omega);refine w_skip<|n_then<|w_seq<|w_block<|w_seq<|w_join (γ:=Nat×Sm×Bool) (λ(g24:Nat×Sm×Bool)=>[(1,.slice (some ⟨pb,po,none⟩) n cap),(3,.pointer (some ⟨b1,0,none⟩)),(7,.int .i64 (notI k)),(8,.int .i64 g13.1),(9,.pointer (some ⟨g24.1,0,none⟩)),(10,.bool g24.2.2)]) (λ(g24:Nat×Sm×Bool) w_=>Mod [] w14 w_/\At w_ g24.1 (.cells (#[.int .i64 g24.2.1.f,.int .i64 g24.2.1.t,.int .i64 g24.2.1.p]) 30 (0,0))/\w.heap.size<=g24.1/\(g24.2.2=true->RightS g13.2/\(g24.2.1∈pseudoL g13.2/\okS g13.2 g24.2.1=true))) ?_ ?_
  ·have hm27:Mod [] w14 w14:=Mod.refl _ _;refine w_aw 11<|aw_rd 1 (.slice (some ⟨pb,po,none⟩) n cap) (some 36) [] [] (λ_ _=>trivial)<|aw_rd 2 (.int .i64 g13.1) (some 37) [] [] (λ_ _=>trivial)<|aw_rd 3 (.pointer (some ⟨pb,(po+g13.1.toNat*1),none⟩)) (some 38) [.prop (0<=g13.1/\g13.1<((n:Nat):Int))] [] (λ_ hC=>(show 0<=g13.1/\g13.1<((n:Nat):Int) from (by omega)))<|aw_rd 0 (.agg (spCells g13.2)) (some 35) [.row ⟨b1,0,none⟩ 69 (spCells g13.2)] [.agg (spCells g13.2)] (λ_ hC=>(At.row (At.on hf19 hC) (spCells_size g13.2)))<|aw_rd 4 (.int .i64 (xs (g13.1.toNat*1))) (some 39) [.cell ⟨pb,(po+g13.1.toNat*1),none⟩ (.int .i64 (xs (g13.1.toNat*1)))] [.int .i64 (xs (g13.1.toNat*1))] (λ_ hC=>(pk_at hpk (zt hm21 hC) (j:=g13.1.toNat*1) (by omega)))<|aw_2 5 9 (λw28 hm29=>?_) λw30 hm31=>?_
   ·have hm34:=Mod.trans hm21 (Mod.of_nil hm29);have hm35:=Mod.trans hm15 (Mod.of_nil hm29);have hm36:=Mod.trans hm27 (Mod.of_nil hm29);have hz37:=hm29.size;refine as_call 13 [.agg (spCells g13.2),.int .i64 (xs (g13.1.toNat*1))] (some 40) (c13 g13.2 (xs (g13.1.toNat*1))) ?_;rintro _ w38 ⟨m40,v41,rfl,hm39,hv42⟩;refine ⟨_,rfl,hm39,?_⟩;have hm45:=Mod.trans hm34 (Mod.of_nil hm39);have hm46:=Mod.trans hm35 (Mod.of_nil hm39);have hm47:=Mod.trans hm36 (Mod.of_nil hm39);have hz48:=hm39.size;refine aw_rd 6 (.tuple #[.agg #[.int .i64 m40.f,.int .i64 m40.t,.int .i64 m40.p],.bool v41]) (some 34) [] [] (λ_ _=>trivial)<|aw_rd 7 (.agg #[.int .i64 m40.f,.int .i64 m40.t,.int .i64 m40.p]) (some 41) [] [] (λ_ _=>trivial)<|aw_rd 8 (.bool v41) (some 42) [] [] (λ_ _=>trivial)<|aw_1 9 λw49 hm50=>?_;have hG52:=Glob.on (yG w38) hm50;have hm53:=Mod.trans hm45 (Mod.of_nil hm50);have hm54:=Mod.trans hm46 (Mod.of_nil hm50);have hm55:=Mod.trans hm47 (Mod.of_nil hm50);have hz56:=hm50.size;refine as_new (#[.int .i64 (0:Int),.int .i64 (0:Int),.int .i64 (0:Int)]) 30 (some 9) λb57 w58 hn59=>?_;have hb60:c.base<=b57:=Glob.lt hG52 hn59;have hb61:=Nat.le_trans hm53.size hn59.base;have hb62:=Nat.le_trans hm54.size hn59.base;have hb63:=Nat.le_trans hm55.size hn59.base;have hm64:=hn59.mod;have hz70:=hm64.size;refine aw_1 10 λw72 hm73=>?_;have hz80:=hm73.size;refine as_store b57 0 (.agg #[.int .i64 m40.f,.int .i64 m40.t,.int .i64 m40.p]) ya (by omega) (λw81 hu82=>?_) (Nat.le_of_ble_eq_true rfl) rfl;have hz89:=hu82.mod.size;refine aw_done λw90 hm91=>?_;have hz98:=hm91.size;exact yS 1<|ze<|only_n<|zb (b57,m40,v41) ⟨yt,ya,(by omega),hv42⟩
   have hG100:=Glob.on (yG w14) hm31;have hm101:=Mod.trans hm21 (Mod.of_nil hm31);have hm102:=Mod.trans hm15 (Mod.of_nil hm31);have hm103:=Mod.trans hm27 (Mod.of_nil hm31);have hz104:=hm31.size;refine as_new (#[.int .i64 (0:Int),.int .i64 (0:Int),.int .i64 (0:Int)]) 30 (some 9) λb105 w106 hn107=>?_;have hb108:c.base<=b105:=Glob.lt hG100 hn107;have hb109:=Nat.le_trans hm101.size hn107.base;have hb110:=Nat.le_trans hm102.size hn107.base;have hb111:=Nat.le_trans hm103.size hn107.base;have hm112:=hn107.mod;have hz118:=hm112.size;refine aw_1 5 λw120 hm121=>?_;have hz128:=hm121.size;refine as_call 13 [.agg (spCells g13.2),.int .i64 (xs (g13.1.toNat*1))] (some 40) (c13 g13.2 (xs (g13.1.toNat*1))) ?_;rintro _ w129 ⟨m131,v132,rfl,hm130,hv133⟩;refine ⟨_,rfl,hm130,?_⟩;have hz140:=hm130.size;refine aw_rd 6 (.tuple #[.agg #[.int .i64 m131.f,.int .i64 m131.t,.int .i64 m131.p],.bool v132]) (some 34) [] [] (λ_ _=>trivial)<|aw_rd 7 (.agg #[.int .i64 m131.f,.int .i64 m131.t,.int .i64 m131.p]) (some 41) [] [] (λ_ _=>trivial)<|aw_rd 8 (.bool v132) (some 42) [] [] (λ_ _=>trivial)<|aw_1 10 λw141 hm142=>?_;have hz149:=hm142.size;refine as_store b105 0 (.agg #[.int .i64 m131.f,.int .i64 m131.t,.int .i64 m131.p]) ya (by omega) (λw150 hu151=>?_) (Nat.le_of_ble_eq_true rfl) rfl;have hz158:=hu151.mod.size;refine aw_done λw159 hm160=>?_;have hz167:=hm160.size;exact yS 1<|ze<|only_n<|zb (b105,m131,v132) ⟨yt,ya,(by omega),hv133⟩
  rintro g24 w25 ⟨hm26,hj168,hj169,hj170⟩;have hf171:=At.on hf19 hm26;have hm173:=Mod.trans hm21 (Mod.of_nil hm26);have hm174:=Mod.trans hm15 (Mod.of_nil hm26);have hb176:=Nat.le_trans hGs hj169;refine n_then<|w_seq<|zw<|yS 3<|yE 45 (.bool (!g24.2.2)) ?_;cases hc177:(!g24.2.2)
  ·have dhc177:=hc177;simp only [zbq] at dhc177;refine reg_seg 2 [(1,.slice (some ⟨pb,po,none⟩) n cap),(3,.pointer (some ⟨b1,0,none⟩)),(7,.int .i64 (notI k)),(8,.int .i64 g13.1),(9,.pointer (some ⟨g24.1,0,none⟩)),(45,.bool false),(46,.agg (spCells g13.2)),(47,.agg (#[.int .i64 g24.2.1.f,.int .i64 g24.2.1.t,.int .i64 g24.2.1.p]))] [.row ⟨b1,0,none⟩ 69 (spCells g13.2),.row ⟨g24.1,0,none⟩ 3 (#[.int .i64 g24.2.1.f,.int .i64 g24.2.1.t,.int .i64 g24.2.1.p])] [.agg (spCells g13.2),.agg (#[.int .i64 g24.2.1.f,.int .i64 g24.2.1.t,.int .i64 g24.2.1.p])] [1,3,7,8,9,45,46,47] (by kernel_rfl) (⟨(At.row hf171 (spCells_size g13.2)),At.row hj168 rfl⟩) ?_;obtain ⟨hR178,hL179⟩:=hj170 (by simpa using hc177);replace hL179:=legM hR178.valid hL179;have hO180:=hL179.ok hR178.valid;refine zC (some 48) (c11 g13.2 hR178.valid.bd hR178.valid.turn hR178.valid.castle g24.2.1.f g24.2.1.t g24.2.1.p hO180.f hO180.t hO180.p) ?_;rintro _ w181 ⟨v183,rfl,hm182,hv184⟩;refine ⟨_,rfl,?_⟩;have hf185:=At.on hf171 hm182;have hf186:=At.on hj168 hm182;have hm188:=Mod.trans hm173 (Mod.of_nil hm182);have hm189:=Mod.trans hm174 (Mod.of_nil hm182);refine yS 2<|zz<|w_cond (b:=(!v183)) (by kernel_rfl) (λhc191=>?_) (λhc191=>?_)
   ·have dhc191:=hc191;simp only [zbq] at dhc191;have nhc191:v183=false:=by simpa using hc191
    exact zw<|yS 1<|zz<|w_ret<|r_then<|r_block<|r_then<|r_then<|r_block<|r_then<|y1 (⟨rfl,hm188⟩)
   have dhc191:=hc191;simp only [zbq] at dhc191;have nhc191:v183=true:=by simpa using hc191
   have ht192:=hv184 (by simpa using hc191);refine w_skip<|zn<|yV 3 [.row ⟨b1,0,none⟩ 69 (spCells g13.2),.row ⟨g24.1,0,none⟩ 3 (#[.int .i64 g24.2.1.f,.int .i64 g24.2.1.t,.int .i64 g24.2.1.p])] [.agg (spCells g13.2),.agg (#[.int .i64 g24.2.1.f,.int .i64 g24.2.1.t,.int .i64 g24.2.1.p])] (⟨(At.row hf185 (spCells_size g13.2)),At.row hf186 rfl⟩)<|zk (some 55) (w15a yg hR178 hL179 ht192 hn) ?_;intro w193 hm194;have hf195:=At.on hf185 hm194;have hf196:=At.on hf186 hm194;have hm198:=Mod.trans hm188 (Mod.of_nil hm194);have hm199:=Mod.trans hm189 (Mod.of_nil hm194);refine yS 5<|zx<|yV 3 [.row ⟨b1,0,none⟩ 69 (spCells g13.2)] [.agg (spCells g13.2)] (At.row hf195 (spCells_size g13.2))<|zC (some 62) (w16a yg hR178 hL179 hn) ?_;rintro _ w201 ⟨t203,rfl,hm202⟩;refine ⟨_,rfl,?_⟩;have hf204:=At.on hf195 hm202;have hf205:=At.on hf196 hm202;have hm207:=Mod.trans hm198 (Mod.of_nil hm202);have hm208:=Mod.trans hm199 (Mod.of_nil hm202);refine yS 4<|reg_alloc (#[.int .i64 (0:Int),.int .i64 (0:Int),.int .i64 (0:Int)]) 30 (some 13) (by kernel_rfl) ?_;intro b210 w211 hn212;have ne213:g24.1≠b210:=hn212.ne hf205;have hb216:=Nat.le_trans hm208.size hn212.base;have hm217:=hn212.mod;have hf218:=At.on hf204 hm217;have hf219:=At.on hf205 hm217;have hm221:=Mod.trans hm207 (Mod.of_nil hm217);have hm222:=Mod.trans hm208 (Mod.of_nil hm217);have hz223:=hm217.size;refine reg_store b210 0 (.agg #[.int .i64 g24.2.1.f,.int .i64 g24.2.1.t,.int .i64 g24.2.1.p]) none (by kernel_rfl) ya (Nat.le_of_ble_eq_true rfl) rfl ?_;intro w225 hu226;have hf228:=At.keep hf218 hu226.mod (not_mem1 (At.ne hf218 (yA w211 b210) rfl));have hf229:=At.keep hf219 hu226.mod (not_mem1 ne213);have hm231:=Mod.fresh' hm221 hu226.mod (by simp<;>omega);have hm232:=Mod.fresh' hm222 hu226.mod (by simp<;>omega);refine yS 2<|reg_end (by kernel_rfl)<|zn<|yV 2 [.row ⟨b1,0,none⟩ 69 (spCells g13.2),.row ⟨b210,0,none⟩ 3 (#[.int .i64 g24.2.1.f,.int .i64 g24.2.1.t,.int .i64 g24.2.1.p])] [.agg (spCells g13.2),.agg (#[.int .i64 g24.2.1.f,.int .i64 g24.2.1.t,.int .i64 g24.2.1.p])] (⟨(At.row hf228 (spCells_size g13.2)),At.row ya rfl⟩)<|zk (some 69) (w18 yg hR178 hF18 hL179) ?_;intro w234 hm235;have hf236:=At.on hf228 hm235;have hf237:=At.on hf229 hm235;have hm240:=Mod.trans hm231 (Mod.of_nil hm235);have hm241:=Mod.trans hm232 (Mod.of_nil hm235);refine yS 3<|reg_alloc (spCells zeroSP) 24 (some 16) (by kernel_rfl) ?_;intro b243 w244 hn245;have ne246:b1≠b243:=hn245.ne hf236;have hb248:=Nat.le_trans hm240.size hn245.base;have hb249:=Nat.le_trans hm241.size hn245.base;have hm250:=hn245.mod;have hf251:=At.on hf236 hm250;have hf252:=At.on hf237 hm250;have hm256:=Mod.trans hm241 (Mod.of_nil hm250);have hz257:=hm250.size;have hf258:=hn245.at_;refine reg_store b243 0 (.agg (spCells (madeS g13.2 g24.2.1.f g24.2.1.t g24.2.1.p))) none (by kernel_rfl) hf258 (sp_bound_all zeroSP _) (sp_one (madeS g13.2 g24.2.1.f g24.2.1.t g24.2.1.p)) ?_;intro w259 hu260
   have hf261:At w259 b243 (.cells (spCells (madeS g13.2 g24.2.1.f g24.2.1.t g24.2.1.p)) 24 (0,0)):=at_cast hu260.at_ (congrArg (λA=>Obj.cells A 24 (0,0)) (spStore_all zeroSP (madeS g13.2 g24.2.1.f g24.2.1.t g24.2.1.p)));have hf262:=At.keep hf251 hu260.mod (not_mem1 ne246);have hf263:=At.keep hf252 hu260.mod (not_mem1 (At.ne hf252 hf258 rfl));have hm267:=Mod.fresh' hm256 hu260.mod (by simp<;>omega);have hz268:=hu260.mod.size;refine yS 1<|reg_end (by kernel_rfl)<|n_then<|w_seq<|w_seq<|w_aw 15<|aw_rd 0 (.bool true) (some 72) [] [] (λ_ _=>trivial)<|aw_rd 1 (.bool false) (some 73) [] [] (λ_ _=>trivial)<|aw_rd 2 (.bool false) (some 74) [] [] (λ_ _=>trivial)<|aw_rd 3 (.bool true) (some 75) [] [] (λ_ _=>trivial)<|aw_rd 4 (.bool false) (some 76) [] [] (λ_ _=>trivial)<|aw_rd 5 (.bool false) (some 77) [] [] (λ_ _=>trivial)<|aw_rd 6 (.bool false) (some 78) [] [] (λ_ _=>trivial)<|aw_rd 7 (.bool true) (some 79) [] [] (λ_ _=>trivial)<|aw_rd 8 (.bool false) (some 80) [] [] (λ_ _=>trivial)<|aw_rd 9 (.bool false) (some 81) [] [] (λ_ _=>trivial)<|aw_rd 10 (.bool false) (some 82) [] [] (λ_ _=>trivial)<|aw_rd 11 (.agg (spCells (madeS g13.2 g24.2.1.f g24.2.1.t g24.2.1.p))) (some 83) [.row ⟨b243,0,none⟩ 69 (spCells (madeS g13.2 g24.2.1.f g24.2.1.t g24.2.1.p))] [.agg (spCells (madeS g13.2 g24.2.1.f g24.2.1.t g24.2.1.p))] (λ_ hC=>(At.row (At.on hf261 hC) (spCells_size (madeS g13.2 g24.2.1.f g24.2.1.t g24.2.1.p))))<|aw_rd 12 (.agg (spCells g13.2)) (some 84) [.row ⟨b1,0,none⟩ 69 (spCells g13.2)] [.agg (spCells g13.2)] (λ_ hC=>(At.row (At.on hf262 hC) (spCells_size g13.2)))<|aw_rd 13 (.agg (#[.int .i64 g24.2.1.f,.int .i64 g24.2.1.t,.int .i64 g24.2.1.p])) (some 85) [.row ⟨g24.1,0,none⟩ 3 (#[.int .i64 g24.2.1.f,.int .i64 g24.2.1.t,.int .i64 g24.2.1.p])] [.agg (#[.int .i64 g24.2.1.f,.int .i64 g24.2.1.t,.int .i64 g24.2.1.p])] (λ_ hC=>At.row (At.on hf263 hC) rfl)<|aw_call 14 19 [.agg (spCells g13.2),.agg (#[.int .i64 g24.2.1.f,.int .i64 g24.2.1.t,.int .i64 g24.2.1.p])] (.agg (spCells (madeS g13.2 g24.2.1.f g24.2.1.t g24.2.1.p))) (some 86) (λ_ hC=>c19 g13.2 hR178.valid.bd g24.2.1.f g24.2.1.t g24.2.1.p hO180.f hO180.t (by have:=hO180.p;omega) hR178.valid.turn hR178.valid.castle)<|aw_done λw269 hm270=>?_;have hf271:=At.on hf262 hm270;have hf274:=At.on hf261 hm270;have hm277:=Mod.trans hm267 (Mod.of_nil hm270);have hz278:=hm270.size;refine reg_ne24 (madeS g13.2 g24.2.1.f g24.2.1.t g24.2.1.p) (some 87)<|yS 1<|reg_end (by kernel_rfl)<|only_n<|n_then<|yF<|w_skip<|n_then<|w_region<|yV 1 [.row ⟨b243,0,none⟩ 69 (spCells (madeS g13.2 g24.2.1.f g24.2.1.t g24.2.1.p))] [.agg (spCells (madeS g13.2 g24.2.1.f g24.2.1.t g24.2.1.p))] (At.row hf274 (spCells_size (madeS g13.2 g24.2.1.f g24.2.1.t g24.2.1.p)))<|reg_store b1 0 (.agg (spCells (madeS g13.2 g24.2.1.f g24.2.1.t g24.2.1.p))) none (by kernel_rfl) hf271 (sp_bound_all g13.2 _) (sp_one (madeS g13.2 g24.2.1.f g24.2.1.t g24.2.1.p)) ?_
   intro w279 hu280;have hf281:At w279 b1 (.cells (spCells (madeS g13.2 g24.2.1.f g24.2.1.t g24.2.1.p)) 24 (0,0)):=at_cast hu280.at_ (congrArg (λA=>Obj.cells A 24 (0,0)) (spStore_all g13.2 (madeS g13.2 g24.2.1.f g24.2.1.t g24.2.1.p)));have hm287:=Mod.fresh' hm277 hu280.mod (by simp<;>omega);have hz288:=hu280.mod.size;exact ze<|n_block<|n_then<|w_region<|yS 2<|yW 33 (zi (g13.1+(1:Int)) (by omega) (by omega))<|yS 1<|ze<|zl (g13.1+1,madeS g13.2 g24.2.1.f g24.2.1.t g24.2.1.p) ⟨by omega,hm287,hf281,wrap_I64 _⟩ (hlt:=(by dsimp only;omega))
  have dhc177:=hc177;simp only [zbq] at dhc177;exact yS 5<|zz<|yT<|zw<|yS 1<|zz<|w_ret<|r_then<|r_block<|r_then<|r_then<|r_block<|r_then<|y1 (⟨rfl,hm173⟩)
 have dhc23:=of_decide_eq_false hc23;exact w_exit<|x_then<|x_then<|x_hit<|zn<|yS 1<|zz<|w_ret<|y1 (⟨rfl,hm21⟩)
end Go.Proofs.YtgnhellfhjoaaaaGreatDoor
namespace Go.Proofs.YtgnhellfhjoaaaaGreatDoor
open Go Go.RowKit Go.ChangeShapes Go.WideShapes Go.ChangeAt
set_option maxRecDepth 100000
theorem tab_cells{W:World}{nm:String}{g t e n fuel:Nat}{k:IntKind}{zs:List Int}{cs:Array Value}{p:List MemPlace}(ht:Tryz.prog.underlying t=some (.array n e))(he:Tryz.prog.underlying e=some (.int k))
  (hc:Tryz.prog.cellsOf e=1)(hz:zs.length=n)(hg:Tryz.prog.globalNamed nm=some g)(hv:W.var? Tryz.prog nm=some cs)
  (hd:DataW.trod (λ_=>()) Tryz.prog W 0 (λ_=>true) false fuel t cs.toList=some (.agg (zs.map λn=>.lit (.int k n)),p)):∀r,r<n->W.cell? ⟨g,r,none⟩=some (.int k (zs.getD r 0)):=by
 intro r hr;obtain ⟨xs,m,_,ex,_,hl,hel⟩:=DataW.trod_array ht hd;have hE:=hel r hr;rw [hc,Nat.mul_one,List.getElem?_eq_getElem (by omega)] at hE;obtain ⟨z,e1,e2,_⟩:=DataW.trod_int he hE;have e3:(xs.map (·.1))=zs.map λn=>.lit (.int k n):=(DataW.agg.inj (Prod.mk.inj ex).1).symm;have e4:(xs.map (·.1))[r]?=(zs.map λn=>(DataW.lit (.int k n):DataW Unit))[r]?:=by rw [e3]
 rw [List.getElem?_map,List.getElem?_map,List.getElem?_eq_getElem (by omega:r<xs.length),List.getElem?_eq_getElem (by omega:r<zs.length),e2] at e4;have hz:z=zs.getD r 0:=by
  simp only [Option.map_some,Option.some.injEq,DataW.lit.injEq,Lit.int.injEq,true_and] at e4;rw [e4,List.getD,List.getElem?_eq_getElem (by omega:r<zs.length)];rfl
 rw [World.var?_cell hg hv r,←hz];have:cs.toList[r]?=some (.int k z):=by
  have h0:((cs.toList.drop r).take 1)[0]?=some (.int k z):=by rw [e1];rfl
  simpa using h0
 simpa using this
theorem cell_lt{W:World}{b o:Nat}{v:Value}(h:W.cell? ⟨b,o,none⟩=some v):b<W.heap.size:=by
 refine Classical.byContradiction λhh=>?_;have:W.heap[b]?=none:=by rw [Array.getElem?_eq_none (by omega)]
 simp [World.cell?,this] at h
theorem lits_inj{k:IntKind}:∀{a b:List Int},(a.map λn=>(DataW.lit (.int k n):DataW Unit))=(b.map λn=>.lit (.int k n))->a=b
 |[],[],_=>rfl
 |[],_::_,h=>by cases h
 |_::_,[],h=>by cases h
 |x::a,y::b,h=>by
  simp only [List.map_cons,List.cons.injEq,DataW.lit.injEq,Lit.int.injEq,true_and] at h;rw [h.1,lits_inj h.2]
theorem sl_cells{W:World}{nm:String}{g t e n fuel:Nat}{k:IntKind}{zs:List Int}{cs:Array Value}{p:List MemPlace}(ht:Tryz.prog.underlying t=some (.slice e))(he:Tryz.prog.underlying e=some (.int k))
  (hc:Tryz.prog.cellsOf e=1)(hz:zs.length=n)(hn:0<n)(hg:Tryz.prog.globalNamed nm=some g)(hv:W.var? Tryz.prog nm=some cs)
  (hd:DataW.trod (λ_=>()) Tryz.prog W 0 (λ_=>true) false fuel t cs.toList=some (.slice (zs.map λn=>.lit (.int k n)) [],p)):
  ∃b o,W.cell? ⟨g,0,none⟩=some (.slice (some ⟨b,o,none⟩) n n)/\b<W.heap.size/\∀r,r<n->W.cell? ⟨b,o+r,none⟩=some (.int k (zs.getD r 0)):=by
 rcases open_ints ht he hc hd with ⟨_,hx⟩|⟨a,len,cap,ys,hcs,_,hle,_,hlen,hx,hcell,_⟩
 ·simp at hx
 simp only [if_true] at hlen;have h1:=DataW.slice.inj (Prod.mk.inj hx).1;have h3:ys.drop len=[]:=by have:=h1.2;unfold lits at this;simpa using this.symm
 have h4:cap<=len:=by have:=congrArg List.length h3;simp at this;omega
 have h5:ys.take len=ys:=List.take_of_length_le (by omega);have h2:zs=ys:=by
  have:=h1.1;unfold lits at this;rw [h5] at this;exact lits_inj this
 subst h2;obtain ⟨b,o,rfl,hc2⟩:=_root_.Go.ints_at hcell (by omega);have e1:len=n:=by omega
 have e2:cap=n:=by omega
 subst e1;refine ⟨b,o,?_,cell_lt (hc2 0 (by omega)),λr hr=>hc2 r (by omega)⟩;rw [World.var?_cell hg hv 0];have:cs.toList[0]?=some (.slice (some ⟨b,o,none⟩) len cap):=by rw [hcs];rfl
 rw [e2] at this;simpa using this
theorem tabs_eq:(Rows.laid_pub_fianchetto_pub_chess_bbFiles:DataW Unit)=.agg (fileTab.map λn=>.lit (.int .u64 n))/\(Rows.laid_pub_fianchetto_pub_chess_bbRanks:DataW Unit)=.agg (rankTab.map λn=>.lit (.int .u64 n))/\
  (Rows.laid_pub_fianchetto_pub_chess_bbDiagonals:DataW Unit)=.agg (diagTab.map λn=>.lit (.int .u64 n))/\(Rows.laid_pub_fianchetto_pub_chess_bbAntiDiagonals:DataW Unit)=.agg (antiTab.map λn=>.lit (.int .u64 n))/\
  (Rows.laid_pub_fianchetto_pub_chess_bbKnightMoves:DataW Unit)=.agg (knightTab.map λn=>.lit (.int .u64 n))/\(Rows.laid_pub_fianchetto_pub_chess_bbKingMoves:DataW Unit)=.agg (kingTab.map λn=>.lit (.int .u64 n))/\
  (Rows.laid_pub_fianchetto_pub_chess_allPieces:DataW Unit)=.slice (([1,2,3,4,5,6,7,8,9,10,11,12]:List Int).map λn=>.lit (.int .i8 n)) []/\
  (Rows.laid_pub_fianchetto_pub_chess_promoPieceTypes:DataW Unit)=.slice (([2,3,4,5]:List Int).map λn=>.lit (.int .i8 n)) []:=⟨rfl,rfl,rfl,rfl,rfl,rfl,rfl,rfl⟩
theorem ty_eqs:(Tryz.prog.globals[0]?).map (·.type)=some 137/\(Tryz.prog.globals[1]?).map (·.type)=some 162/\(Tryz.prog.globals[2]?).map (·.type)=some 162/\(Tryz.prog.globals[3]?).map (·.type)=some 162/\
  (Tryz.prog.globals[4]?).map (·.type)=some 162/\(Tryz.prog.globals[5]?).map (·.type)=some 171/\(Tryz.prog.globals[6]?).map (·.type)=some 171/\(Tryz.prog.globals[7]?).map (·.type)=some 178:=by
 refine ⟨?_,?_,?_,?_,?_,?_,?_,?_⟩<;>kernel_rfl
theorem k_nm0:Tryz.prog.globalNamed "pub-fianchetto/pub/chess.allPieces"=some 0:=by kernel_rfl
theorem k_nm1:Tryz.prog.globalNamed "pub-fianchetto/pub/chess.bbKnightMoves"=some 1:=by kernel_rfl
theorem k_nm2:Tryz.prog.globalNamed "pub-fianchetto/pub/chess.bbKingMoves"=some 2:=by kernel_rfl
theorem k_nm3:Tryz.prog.globalNamed "pub-fianchetto/pub/chess.bbDiagonals"=some 3:=by kernel_rfl
theorem k_nm4:Tryz.prog.globalNamed "pub-fianchetto/pub/chess.bbAntiDiagonals"=some 4:=by kernel_rfl
theorem k_nm5:Tryz.prog.globalNamed "pub-fianchetto/pub/chess.bbRanks"=some 5:=by kernel_rfl
theorem k_nm6:Tryz.prog.globalNamed "pub-fianchetto/pub/chess.bbFiles"=some 6:=by kernel_rfl
theorem k_nm7:Tryz.prog.globalNamed "pub-fianchetto/pub/chess.promoPieceTypes"=some 7:=by kernel_rfl
theorem k_un64:Tryz.prog.underlying 162=some (.array 64 133):=by kernel_rfl
theorem k_un8:Tryz.prog.underlying 171=some (.array 8 133):=by kernel_rfl
theorem k_un133:Tryz.prog.underlying 133=some (.int .u64):=by kernel_rfl
theorem k_cl133:Tryz.prog.cellsOf 133=1:=by kernel_rfl
theorem k_un137:Tryz.prog.underlying 137=some (.slice 112):=by kernel_rfl
theorem k_un178:Tryz.prog.underlying 178=some (.slice 93):=by kernel_rfl
theorem k_un112:Tryz.prog.underlying 112=some (.int .i8):=by kernel_rfl
theorem k_un93:Tryz.prog.underlying 93=some (.int .i8):=by kernel_rfl
theorem k_cl112:Tryz.prog.cellsOf 112=1:=by kernel_rfl
theorem k_cl93:Tryz.prog.cellsOf 93=1:=by kernel_rfl
theorem laid_in{W:World}{n:String}{d:DataW Unit}:∀(l:List (String×DataW Unit)) (ps:List MemPlace),DataW.LaidVars Tryz.prog W l ps->(n,d)∈l->
  ∃g t cs fuel p,Tryz.prog.globalNamed n=some g/\(Tryz.prog.globals[g]?).map (·.type)=some t/\W.var? Tryz.prog n=some cs/\DataW.trod (λ_=>()) Tryz.prog W 0 (λ_=>true) false fuel t cs.toList=some (d,p)
 |[],_,_,hm=>by cases hm
 |(x1,x2)::l,_,h,hm=>by
  obtain ⟨g,t,cs,fuel,p,q,h1,h2,h3,h4,h5,_⟩:=h;rcases List.mem_cons.1 hm with e|e
  ·cases e;exact ⟨g,t,cs,fuel,p,h1,h2,h3,h4⟩
  ·exact laid_in l q h5 e
theorem laid_at{W:World}{l:List (String×DataW Unit)}(h:laidMet Tryz.prog l W){n:String}{d:DataW Unit}(hm:(n,d)∈l):
  ∃g t cs fuel p,Tryz.prog.globalNamed n=some g/\(Tryz.prog.globals[g]?).map (·.type)=some t/\W.var? Tryz.prog n=some cs/\DataW.trod (λ_=>()) Tryz.prog W 0 (λ_=>true) false fuel t cs.toList=some (d,p):=by
 obtain ⟨ps,h,_,_⟩:=h;exact laid_in l ps h hm
theorem laid_tab{W:World}{l:List (String×DataW Unit)}(h:laidMet Tryz.prog l W){nm:String}{g t n:Nat}{zs:List Int}(hm:(nm,.agg (zs.map λn=>.lit (.int .u64 n)))∈l)
  (hg:Tryz.prog.globalNamed nm=some g)(ht:(Tryz.prog.globals[g]?).map (·.type)=some t)(hu:Tryz.prog.underlying t=some (.array n 133))(hz:zs.length=n):∀r,r<n->W.cell? ⟨g,r,none⟩=some (.int .u64 (zs.getD r 0)):=by
 obtain ⟨g',t',cs,fuel,p,h1,h2,h3,h4⟩:=laid_at h hm;obtain rfl:=Option.some.inj (hg.symm.trans h1);obtain rfl:=Option.some.inj (ht.symm.trans h2);exact tab_cells hu k_un133 k_cl133 hz hg h3 h4
theorem laid_sl{W:World}{l:List (String×DataW Unit)}(h:laidMet Tryz.prog l W){nm:String}{g t e n:Nat}{zs:List Int}(hm:(nm,.slice (zs.map λn=>.lit (.int .i8 n)) [])∈l)
  (hg:Tryz.prog.globalNamed nm=some g)(ht:(Tryz.prog.globals[g]?).map (·.type)=some t)(hu:Tryz.prog.underlying t=some (.slice e))(he:Tryz.prog.underlying e=some (.int .i8))(hc:Tryz.prog.cellsOf e=1)(hz:zs.length=n)(hn:0<n):
  ∃b o,W.cell? ⟨g,0,none⟩=some (.slice (some ⟨b,o,none⟩) n n)/\b<W.heap.size/\∀r,r<n->W.cell? ⟨b,o+r,none⟩=some (.int .i8 (zs.getD r 0)):=by
 obtain ⟨g',t',cs,fuel,p,h1,h2,h3,h4⟩:=laid_at h hm;obtain rfl:=Option.some.inj (hg.symm.trans h1);obtain rfl:=Option.some.inj (ht.symm.trans h2);exact sl_cells hu he hc hz hn hg h3 h4
def laidAll:List (String×DataW Unit):=[("unicode/utf8.acceptRanges",Rows.laid_unicode_utf8_acceptRanges),("pub-fianchetto/pub/chess.promoPieceTypes",Rows.laid_pub_fianchetto_pub_chess_promoPieceTypes),("pub-fianchetto/pub/chess.bbFiles",Rows.laid_pub_fianchetto_pub_chess_bbFiles),("pub-fianchetto/pub/chess.bbRanks",Rows.laid_pub_fianchetto_pub_chess_bbRanks),("pub-fianchetto/pub/chess.bbDiagonals",Rows.laid_pub_fianchetto_pub_chess_bbDiagonals),("pub-fianchetto/pub/chess.bbAntiDiagonals",Rows.laid_pub_fianchetto_pub_chess_bbAntiDiagonals),("pub-fianchetto/pub/chess.bbKnightMoves",Rows.laid_pub_fianchetto_pub_chess_bbKnightMoves),("pub-fianchetto/pub/chess.bbKingMoves",Rows.laid_pub_fianchetto_pub_chess_bbKingMoves),("pub-fianchetto/pub/chess.allPieces",Rows.laid_pub_fianchetto_pub_chess_allPieces),("unicode.CaseRanges",Rows.laid_unicode_CaseRanges),("unicode/utf8.first",Rows.laid_unicode_utf8_first)]
theorem pcs12:∀j,j<12->([1,2,3,4,5,6,7,8,9,10,11,12]:List Int).getD j 0=(j:Int)+1:=by decide
theorem pcs4:∀j,j<4->([2,3,4,5]:List Int).getD j 0=(j:Int)+2:=by decide
theorem laid_glob{W:World}(h:laidMet Tryz.prog laidAll W):∃c,Glob c W:=by
 obtain ⟨q1,q2,q3,q4,q5,q6,q7,q8⟩:=tabs_eq;obtain ⟨t0,t1,t2,t3,t4,t5,t6,t7⟩:=ty_eqs;obtain ⟨b,o,s1,s2,s3⟩:=laid_sl h (nm:= "pub-fianchetto/pub/chess.allPieces") (n:=12) (by rw [←q7];simp [laidAll]) k_nm0 t0 k_un137 k_un112 k_cl112 rfl (by decide);obtain ⟨b',o',s1',s2',s3'⟩:=laid_sl h (nm:= "pub-fianchetto/pub/chess.promoPieceTypes") (n:=4) (by rw [←q8];simp [laidAll]) k_nm7 t7 k_un178 k_un93 k_cl93 rfl (by decide);refine ⟨⟨W.heap.size,b,o,b',o'⟩,⟨Nat.le_refl _,cell_lt s1',s2,s2',s1,fun j hj=>?_,?_,?_,?_,?_,?_,?_,s1',fun j hj=>?_⟩⟩
 ·rw [s3 j hj,pcs12 j hj]
 ·exact laid_tab h (by rw [←q5];simp [laidAll]) k_nm1 t1 k_un64 rfl
 ·exact laid_tab h (by rw [←q6];simp [laidAll]) k_nm2 t2 k_un64 rfl
 ·exact laid_tab h (by rw [←q3];simp [laidAll]) k_nm3 t3 k_un64 rfl
 ·exact laid_tab h (by rw [←q4];simp [laidAll]) k_nm4 t4 k_un64 rfl
 ·exact laid_tab h (by rw [←q2];simp [laidAll]) k_nm5 t5 k_un8 rfl
 ·exact laid_tab h (by rw [←q1];simp [laidAll]) k_nm6 t6 k_un8 rfl
 rw [s3' j hj,pcs4 j hj]
theorem k_un24:∃fs:Array Field,Tryz.prog.underlying 24=some (.struct fs)/\(fs.map λf=>(f.type,f.offset))=#[(22,0),(3,64),(3,65),(3,66),(3,67),(3,68)]:=by
 refine ⟨_,rfl,?_⟩
 kernel_rfl
theorem k_cl24:Tryz.prog.cellsOf 24=69:=by kernel_rfl
theorem k_cl22:Tryz.prog.cellsOf 22=64:=by kernel_rfl
theorem k_cl3:Tryz.prog.cellsOf 3=1:=by kernel_rfl
theorem k_un22:Tryz.prog.underlying 22=some (.array 64 3):=by kernel_rfl
theorem k_un3:Tryz.prog.underlying 3=some (.int .i64):=by kernel_rfl
def rdI(cs:Array Value)(i:Nat):Int:=match cs[i]? with|some (.int _ z)=>z|_=>0
theorem open_pos{H:Type}{enc:TypeId×Value->H}{W:World}{base b0:Nat}{r:Reach}{sp:Nat->Bool}{held:Bool}{v:Value}{d:DataW H}{p:List MemPlace}(hval:Value.okWide Tryz.prog W r b0 24 v)
  (hd:DataW.Trod enc Tryz.prog W base sp held 24 v d p):∃P:SP,v=.agg (spCells P):=by
 obtain ⟨fs,hu,hf⟩:=k_un24;obtain ⟨cs,rfl,hsz⟩:=okWide_struct hu hval;rw [k_cl24] at hsz;obtain ⟨fuel,hd⟩:=hd;have hcs:(Value.agg cs).cells.toList=cs.toList:=rfl;rw [hcs] at hd;obtain ⟨xs,n,_,_,_,hl,hel⟩:=DataW.trod_struct hu hd;have hfs:∀i t o:Nat,(#[(22,0),(3,64),(3,65),(3,66),(3,67),(3,68)]:Array (Nat×Nat))[i]?=some (t,o)->∃f:Field,fs[i]?=some f/\f.type=t/\f.offset=o:=by
  intro i t o h;rw [←hf,Array.getElem?_map] at h;cases hh:fs[i]? with
  |none=>rw [hh] at h;cases h
  |some f=>rw [hh] at h;simp only [Option.map_some,Option.some.injEq,Prod.mk.injEq] at h;exact ⟨f,rfl,h.1,h.2⟩
 have hfl:fs.size=6:=by have:=congrArg Array.size hf;simpa using this
 have one:∀i o:Nat,(#[(22,0),(3,64),(3,65),(3,66),(3,67),(3,68)]:Array (Nat×Nat))[i]?=some (3,o)->∃z,cs[o]?=some (.int .i64 z):=by
  intro i o h;obtain ⟨f,h1,h2,h3⟩:=hfs i 3 o h;have:=hel i f h1;have hi:i<xs.length:=by rw [hl,hfl];exact (Array.getElem?_eq_some_iff.1 h).1
  rw [h2,h3,k_cl3,List.getElem?_eq_getElem hi] at this;obtain ⟨z,e1,_⟩:=DataW.trod_int k_un3 this;exact ⟨z,by have:=cell_of_cut e1;simpa using this⟩
 have brd:∀i,i<64->∃z,cs[i]?=some (.int .i64 z):=by
  intro i hi;obtain ⟨f,h1,h2,h3⟩:=hfs 0 22 0 rfl;have:=hel 0 f h1;rw [h2,h3,k_cl22,List.getElem?_eq_getElem (by omega)] at this;obtain ⟨ys,m,_,_,_,hl2,hel2⟩:=DataW.trod_array k_un22 this;have h4:=hel2 i hi;rw [k_cl3,Nat.mul_one,List.getElem?_eq_getElem (by omega)] at h4;obtain ⟨z,e1,_⟩:=DataW.trod_int k_un3 h4;refine ⟨z,?_⟩;have:=cell_of_cut e1;rw [List.getElem?_take_of_lt hi] at this;simpa using this
 have all:∀i,i<69->cs[i]?=some (.int .i64 (rdI cs i)):=by
  intro i hi;have:∃z,cs[i]?=some (.int .i64 z):=by
   by_cases h:i<64
   ·exact brd i h
   rcases (by omega:i=64\/i=65\/i=66\/i=67\/i=68) with rfl|rfl|rfl|rfl|rfl
   ·exact one 1 64 rfl
   ·exact one 2 65 rfl
   ·exact one 3 66 rfl
   ·exact one 4 67 rfl
   exact one 5 68 rfl
  obtain ⟨z,hz⟩:=this;unfold rdI;rw [hz]
 refine ⟨⟨rdI cs,rdI cs 64,rdI cs 65,rdI cs 66,rdI cs 67,rdI cs 68⟩,congrArg Value.agg (Array.ext_getElem? λi=>?_)⟩;by_cases h:i<69
 ·rw [all i h];by_cases h2:i<64
  ·rw [spCells_bd _ h2]
  obtain ⟨j,rfl⟩:∃j,i=64+j:=⟨i-64,by omega⟩;rw [spCells_tail];rcases (by omega:j=0\/j=1\/j=2\/j=3\/j=4) with rfl|rfl|rfl|rfl|rfl<;>rfl
 rw [Array.getElem?_eq_none (by omega),Array.getElem?_eq_none (by rw [spCells_size];omega)]
end Go.Proofs.YtgnhellfhjoaaaaGreatDoor
namespace Go.Proofs.YtgnhellfhjoaaaaGreatDoor
open Go Go.RowKit Go.ChangeShapes Go.WideShapes Go.ChangeAt
set_option maxRecDepth 100000
theorem own:ownKnob Tryz.prog.godebug=none:=by kernel_rfl
theorem laidOut:laidOutB Tryz.prog=true:=by kernel_rfl
theorem read24:Tryz.prog.readableRec 24=true:=by kernel_rfl
theorem row24:24<Tryz.prog.types.size:=of_decide_eq_true (by kernel_rfl)
def posZero:Value:=.agg (Array.replicate 69 (.int .i64 0))
theorem k_un4:Tryz.prog.underlying 4=some .bool:=by kernel_rfl
theorem read43:Tryz.prog.readableRec 43=true:=by kernel_rfl
theorem row43:43<Tryz.prog.types.size:=of_decide_eq_true (by kernel_rfl)
theorem k_un43:Tryz.prog.underlying 43=some (.slice 3):=by kernel_rfl
theorem open_full{H:Type}{enc:TypeId×Value->H}{W:World}{base:Nat}{sp:Nat->Bool}{held:Bool}{P:SP}{d:DataW H}{p:List MemPlace}(hd:DataW.Trod enc Tryz.prog W base sp held 24 (.agg (spCells P)) d p):I64 P.full:=by
 obtain ⟨fs,hu,hf⟩:=k_un24;obtain ⟨fuel,hd⟩:=hd;have hcs:(Value.agg (spCells P)).cells.toList=(spCells P).toList:=rfl;rw [hcs] at hd;obtain ⟨xs,n,_,_,_,hl,hel⟩:=DataW.trod_struct hu hd;have hfl:fs.size=6:=by have:=congrArg Array.size hf;simpa using this
 obtain ⟨f,h1,h2,h3⟩:∃f:Field,fs[5]?=some f/\f.type=3/\f.offset=68:=by
  have h:(fs.map λf=>(f.type,f.offset))[5]?=some (3,68):=by rw [hf];rfl
  rw [Array.getElem?_map] at h;cases hh:fs[5]? with
  |none=>rw [hh] at h;cases h
  |some f=>rw [hh] at h;simp only [Option.map_some,Option.some.injEq,Prod.mk.injEq] at h;exact ⟨f,rfl,h.1,h.2⟩
 have:=hel 5 f h1;rw [h2,h3,k_cl3,List.getElem?_eq_getElem (by omega)] at this;obtain ⟨z,e1,_,e3⟩:=DataW.trod_int k_un3 this;have e2:(spCells P)[68]?=some (.int .i64 z):=by have:=cell_of_cut e1;simpa using this
 rw [spCells_68] at e2;obtain rfl:P.full=z:=by simpa using e2
 exact bounds_i64 e3
theorem open_row{H:Type}{enc:TypeId×Value->H}{W:World}{base b0:Nat}{r:Reach}{sp:Nat->Bool}{held:Bool}{v:Value}{d:DataW H}{p:List MemPlace}(hval:Value.okWide Tryz.prog W r b0 43 v)
  (hd:DataW.Trod enc Tryz.prog W base sp held 43 v d p):∃(ao:Option Addr) (n cap pb po:Nat) (xs:Nat->Int),v=.slice ao n cap/\∀j,j<n->ao=some ⟨pb,po,none⟩/\W.cell? ⟨pb,po+j,none⟩=some (.int .i64 (xs j)):=by
 obtain ⟨a,n,cap,rfl⟩:=okWide_slice k_un43 hval;obtain ⟨fuel,hd⟩:=hd;have hcs:(Value.slice a n cap).cells.toList=[.slice a n cap]:=rfl;rw [hcs] at hd;rcases open_ints k_un43 k_un3 k_cl3 hd with ⟨h,_⟩|⟨a',len,cap',ys,h,_,hle,_,hlen,_,hcell,_⟩
 ·simp only [List.cons.injEq,Value.slice.injEq,and_true] at h;obtain ⟨rfl,rfl,rfl⟩:=h;exact ⟨none,0,0,0,0,λ_=>0,rfl,λj hj=>absurd hj (by omega)⟩
 simp only [List.cons.injEq,Value.slice.injEq,and_true] at h;obtain ⟨rfl,rfl,rfl⟩:=h;have hl:n<=ys.length:=by rw [hlen];split<;>omega
 by_cases h0:n=0
 ·subst h0;exact ⟨_,0,_,0,0,λ_=>0,rfl,λj hj=>absurd hj (by omega)⟩
 obtain ⟨pb,po,rfl,hc2⟩:=_root_.Go.ints_at hcell (by omega);exact ⟨_,n,_,pb,po,λj=>ys.getD j 0,rfl,λj hj=>⟨rfl,hc2 j (by omega)⟩⟩
theorem game_lifted(os:Os)(started:os.Started)(H:Type)(enc:TypeId×Value->H):
  ReturnsInHanded {} Tryz.checked os 8 .any (λw args=>(Rows.fnSanGameSpec.pre enc Tryz.prog Tryz.f8 [] false w args/\laidMetH Tryz.prog laidAll w)/\sizedMet enc Tryz.prog Tryz.f8 (OpenSpec.ofChange Rows.fnSanGameSpec) false w args)
   (Rows.fnSanGameSpec.post enc Tryz.prog Tryz.f8 false true false false):=by
 refine returnsInHanded_of_change_and (C:=Tryz.checked) (X:=λw _=>laidMetH Tryz.prog laidAll w) (λ_ _ _ hh h=>h.of_heap hh) own started (by kernel_rfl) Tryz.func8
  (ChangeSpec.witness_shaped (enc:=enc) (C:=Tryz.checked) (os:=os) (X:=λw _=>laidMetH Tryz.prog laidAll w) false (World.laidAll Tryz.prog os laidAll) #[posZero,.slice none 0 0,.int .i64 0] 8 (World.laidAll_os _ _ _)
   (World.shaped_of_ZipB (by kernel_rfl) (by kernel_rfl)) (by kernel_rfl) (by kernel_rfl) (by kernel_rfl)
   (by rw [MakeChecks.laidMetH_plain _ _ _ (by kernel_rfl)];exact laidMet_laidAll _ (by kernel_rfl) (by kernel_rfl))) ?_
 intro W base args ds gs before hval0 hW _ _ hL _;have hval:∀(j:Nat) t v,Tryz.f8.params[j]?=some t->args[j]?=some v->Value.okWide Tryz.prog W .any base t v:=hval0;have hW':=hW;obtain ⟨p,q,hA0,hV,rfl,_,_⟩:=hW;have hA:DataW.TrodAll enc Tryz.prog W 0 (λ_=>true) true Tryz.f8.params.toList args.toList ds p:=hA0;rw [Tryz.params8] at hA hval;obtain ⟨v0,v2,v1,d0,d2,d1,p0,p2,p1,rfl,rfl,rfl,h0,h2,h1⟩:=trodAll_three hA;obtain ⟨rfl,rfl⟩:=trodVars_none hV;obtain ⟨x,rfl,rfl,rfl,wx⟩:=open_int k_un3 (hval 2 3 v1 rfl rfl) h1;obtain ⟨P,rfl⟩:=open_pos (hval 0 24 v0 rfl rfl) h0;rw [MakeChecks.laidMetH_plain _ _ _ (by kernel_rfl)] at hL;obtain ⟨c,hG⟩:=laid_glob hL;have hlt:∀x∈p0,x.block<W.heap.size:=λx hx=>by simpa using hW'.lt x (by simp [hx])
 have hlt2:∀x∈p2,x.block<W.heap.size:=λx hx=>by simpa using hW'.lt x (by simp [hx])
 have hF:=open_full h0;obtain ⟨ao,n,cap,pb,po,xs,rfl,hpk⟩:=open_row (hval 1 43 v2 rfl rfl) h2;refine (c8 P hF ao n cap x pb po xs hG hpk).mono λe W' ⟨he,hb⟩=>?_;subst he;exact ⟨_,rfl,_,_,_,[],_,[],hW',trodAll_mk1 (shut_bool k_un4 _),trodAll_mk3 (Below.trod laidOut read24 row24 h0 hb.below hlt) (Below.trod laidOut read43 row43 h2 hb.below hlt2) (shut_int k_un3 wx),rfl,hb.below.frame _,λh=>by cases h⟩
theorem game_said:Rows.FnSanGameSaid:=
 OpenClaim.holds_of_wide 8 Tryz.f8 rfl rfl rfl rfl rfl rfl rfl ⟨rfl,rfl,rfl,rfl,rfl⟩ rfl rfl rfl rfl rfl (by kernel_rfl) Tryz.func8 (by kernel_rfl)
  (of_decide_eq_true (by kernel_rfl)) (by unfold Func.isWrapper;first|(rw [if_pos (by decide+kernel)];kernel_rfl)|(rw [if_neg (by decide+kernel)];exact ⟨rfl,rfl⟩))
  (λos started H enc _=>game_lifted os started H enc)
theorem game_card:Rows.FnSanGameCardSaid:=
 Claim7.holds_tied_plain_at .later [] [.data,.data,.data,.data,.data,.data,.data,.data,.data,.pinned,.pinned] true (true,"ce2801465da21b391576cf3bcdc9385af78ce6a858cc5da34dd9cf37235d50aa") false game_said (fun _ h=>by cases h) (by kernel_rfl) (fun _ h=>by cases h) fnSanGame_row_tie rfl ⟨rfl,rfl⟩ (by kernel_rfl) rfl
  (fun f fn hf hfn=>by
   obtain rfl:f=8:=Option.some.inj ((show Tryz.prog.funcNamed "pub-fianchetto/laws.FnSanGame"=some 8 by kernel_rfl).symm.trans hf)|>.symm
   obtain rfl:fn=Tryz.f8:=(Option.some.inj (Tryz.func8.symm.trans hfn)).symm
   exact ⟨by kernel_rfl,fun j t ht=>by
    rw [Tryz.params8] at ht
    have hm:t∈[24,43,3]:=by simpa using Array.mem_of_getElem? ht
    have hall:([24,43,3].all fun u=>!Tryz.prog.wantsStandIn u)=true:=by kernel_rfl
    exact (show Tryz.prog.wantsStandIn t=false by simpa using List.all_eq_true.1 hall t hm)⟩)
  (by kernel_rfl)
#print axioms game_card
end Go.Proofs.YtgnhellfhjoaaaaGreatDoor
