/-
  FnSanGame: a row of legal moves, each one written and read again where it stands, leads to the same position as the definition (a part of the proof).
  Conditions: those of each theorem.
-/
import Derived.Test.YtgnhellfhjoaaaaGreatDoorD01
import Derived.Test.YtgnhellfhjoaaaaGreatDoorD05
import Derived.Test.YtgnhellfhjoaaaaGreatDoorD06
set_option linter.unusedVariables false
set_option linter.unusedSimpArgs false
namespace Go.Proofs.YtgnhellfhjoaaaaGreatDoor
open Go Go.RowKit
set_option maxRecDepth 100000
section
variable{P:SP}{m:Sm}{M:Mv}
theorem LegM.ok(hV:ValidS P)(h:LegM P m):SmOk m:=pseudoL_ok hV.turn (h.okS hV).1
theorem LegM.x0(hV:ValidS P)(h:LegM P m):P.bd m.f.toNat≠0:=pseudo_piece hV (h.okS hV).1
theorem LegM.nk(hV:ValidS P)(h:LegM P m):P.bd m.t.toNat≠1/\P.bd m.t.toNat≠7:=by
 cases h with
 |std f t p h ho=>exact std_nk hV h.1
 |cast r h hM=>dsimp only;rw [hM.dst];decide
theorem at_f(hV:ValidS P)(h:LegM P m)(hT:TagM P m M):pieceAt (boardOf P.bd) M.s1=P.bd m.f.toNat:=by
 have hs:=(h.ok hV).f;have:=(base_rep hV).1.pieceAt (s:=m.f.toNat) (by omega);rw [hT.s1,←this,show ((m.f.toNat:Nat):Int)=m.f by omega]
theorem type_f(hV:ValidS P)(h:LegM P m)(hT:TagM P m M):pType (pieceAt (boardOf P.bd) M.s1)=kindOf (P.bd m.f.toNat):=by
 have hs:=(h.ok hV).f;rw [at_f hV h hT,pType_kind (hV.bd _ (by omega)) (h.x0 hV)]
theorem next_castle(hV:ValidS P)(h:LegM P m)(hT:TagM P m M):ncr (boardOf P.bd) (psOf P) M=castStr (madeS P m.f m.t m.p).castle:=by
 have hs:=h.ok hV;have hf:=hs.f;have ht:=hs.t;have hc:=hV.castle;have hnk:=h.nk hV;have e0:(madeS P m.f m.t m.p).castle=leftB P.castle (touch m.f m.t) 4:=leftTo_B _ _ _ 4;rw [ncr_B,at_f hV h hT,hT.s1,hT.s2,e0,(left_get hc (touch m.f m.t)).2.2];rw [show (psOf P).castle=castStr P.castle from rfl,(left_get hc _).2.1,(left_get hc _).2.2];congr 1;refine leftB_congr 4 λk hk=>?_;cases hb:castBit P.castle k
 · rfl
 rw [Bool.true_and,Bool.true_and];have hh:=right_home hV (r:=(k:Int)) (by omega);rw [Int.toNat_natCast,hb] at hh;unfold rightB at hh;have hh:=hh.symm;simp only [Bool.and_eq_true,beq_iff_eq] at hh;obtain ⟨⟨_,hk1⟩,_⟩:=hh;obtain ⟨a,ha,_⟩:=valid_kings hV (c:=(k:Int)/2) (by omega);have hu:=ha.2.2 _ (by have:=(home_rng (g:=(k:Int)) (by omega)).1;omega) hk1;have h1:P.bd m.f.toNat=1+6*((k:Int)/2)↔m.f=homeK (k:Int):=by
  have hkr:=(home_rng (g:=(k:Int)) (by omega)).1;constructor
  · intro e;have:=ha.2.2 m.f.toNat (by omega) e;omega
  intro e;rw [e];exact hk1
 have h2:m.t≠homeK (k:Int):=by
  intro e;rw [←e] at hk1;omega
 rw [Bool.eq_iff_iff];unfold touch;simp only [Bool.or_eq_true,beq_iff_eq];rcases (by omega:k=0\/k=1\/k=2\/k=3) with rfl|rfl|rfl|rfl<;>simp only [four,List.getD_cons_zero,List.getD_cons_succ,Bool.or_eq_true,beq_iff_eq]<;>simp only [homeK,homeR] at*<;>simp at*<;>omega
theorem rank2:∀s,s<64->sb 71776119061217280 s=(decide (8<=s)&&decide (s<16)):=by decide
theorem rank4:∀s,s<64->sb 1095216660480 s=(decide (24<=s)&&decide (s<32)):=by decide
theorem rank7:∀s,s<64->sb 65280 s=(decide (48<=s)&&decide (s<56)):=by decide
theorem rank5:∀s,s<64->sb 4278190080 s=(decide (32<=s)&&decide (s<40)):=by decide
theorem on_row{s:Int}(h:0<=s/\s<=63)(a:Int):((band (bbSq s) a) !=0)=sb a s.toNat:=by
 have:band (bbSq s) a=band a (bbSq s):=by
  refine sb_ext (U_band _ _) (U_band _ _) λt ht=>?_;rw [sb_band,sb_band,Bool.and_comm]
 rw [this];have:=band_bbSq (a:=a) (s:=s.toNat) (by omega);rw [show ((s.toNat:Nat):Int)=s by omega] at this;exact this
theorem i8w{x:Int}(h:-128<=x)(h':x<=127):IntKind.i8.wrap x=x:=by
 simp only [IntKind.wrap,IntKind.bits,IntKind.signed];simp;omega
theorem next_ep(hV:ValidS P)(h:LegM P m)(hT:TagM P m M):newEP (boardOf P.bd) (psOf P) M=epS P.bd m.f m.t:=by
 have hs:=h.ok hV;have hf:=hs.f;have ht:=hs.t;have hP:=hV.turn;have hturn:(psOf P).turn=P.turn+1:=turnOf_eq hP;unfold newEP epS;rw [type_f hV h hT,hturn,hT.s1,hT.s2,on_row hf,on_row ht,on_row hf,on_row ht,rank2 _ (by omega),rank4 _ (by omega),rank7 _ (by omega),rank5 _ (by omega)];cases h6:(kindOf (P.bd m.f.toNat)==(6:Int))
 · rw [show (kindOf (P.bd m.f.toNat) !=(6:Int))=true by simp [bne,h6]];rfl
 rw [show (kindOf (P.bd m.f.toNat) !=(6:Int))=false by simp [bne,h6],Bool.true_and];simp only [cond_false];rw [beq_iff_eq] at h6;have key:(m.t=m.f+8*(1-2*P.turn))\/(m.t=m.f+16*(1-2*P.turn)/\m.f/8=1+5*P.turn)\/((m.t%8-m.f%8=1\/m.t%8-m.f%8=-1)/\m.t/8-m.f/8=1-2*P.turn):=by
  cases h with
  |std f t p h ho=>
   obtain ⟨_,h1⟩:=std_pawn hV h.1 h6;dsimp only;rcases h1 with h1|h1|h1
   · exact Or.inl h1.1
   · exact Or.inr (Or.inl ⟨h1.1,h1.2.1⟩)
   exact Or.inr (Or.inr ⟨h1.1,h1.2.1⟩)
  |cast r h hM=>
   dsimp only at h6;rw [hM.king] at h6;unfold kindOf at h6;split at h6<;>omega
 rcases (by omega:P.turn=0\/P.turn=1) with e|e<;>rw [e] at key⊢
 · rw [show ((0:Int)+1==1)=true from rfl,show ((0:Int)+1==2)=false from rfl];simp only [Bool.true_and,Bool.false_and,cond_false];cases hc:((m.t==m.f+16)||(m.t==m.f-16))
   · rw [Bool.or_eq_false_iff,beq_eq_false_iff_ne,beq_eq_false_iff_ne] at hc;rw [show ((decide (8<=m.f.toNat)&&decide (m.f.toNat<16))&&(decide (24<=m.t.toNat)&&decide (m.t.toNat<32)))=false by
      rw [Bool.eq_false_iff];simp only [ne_eq,Bool.and_eq_true,decide_eq_true_eq];omega];rfl
   rw [Bool.or_eq_true,beq_iff_eq,beq_iff_eq] at hc;rw [show ((decide (8<=m.f.toNat)&&decide (m.f.toNat<16))&&(decide (24<=m.t.toNat)&&decide (m.t.toNat<32)))=true by
      simp only [Bool.and_eq_true,decide_eq_true_eq];omega]
   simp only [cond_true];rw [i8w (by omega) (by omega)];omega
 rw [show ((1:Int)+1==1)=false from rfl,show ((1:Int)+1==2)=true from rfl];simp only [Bool.true_and,Bool.false_and,cond_false];cases hc:((m.t==m.f+16)||(m.t==m.f-16))
 · rw [Bool.or_eq_false_iff,beq_eq_false_iff_ne,beq_eq_false_iff_ne] at hc;rw [show ((decide (48<=m.f.toNat)&&decide (m.f.toNat<56))&&(decide (32<=m.t.toNat)&&decide (m.t.toNat<40)))=false by
      rw [Bool.eq_false_iff];simp only [ne_eq,Bool.and_eq_true,decide_eq_true_eq];omega];rfl
 rw [Bool.or_eq_true,beq_iff_eq,beq_iff_eq] at hc;rw [show ((decide (48<=m.f.toNat)&&decide (m.f.toNat<56))&&(decide (32<=m.t.toNat)&&decide (m.t.toNat<40)))=true by
      simp only [Bool.and_eq_true,decide_eq_true_eq];omega]
 simp only [cond_true];rw [i8w (by omega) (by omega)];omega
theorem next_turn(hV:ValidS P):otherC (psOf P).turn=turnOf (1-P.turn):=by
 have hP:=hV.turn;rw [show (psOf P).turn=turnOf P.turn from rfl,otherC_eq hP,turnOf_eq (by omega)]
theorem stPre_of{Q:SP}(hV:ValidS Q){S:Ps}(h1:S.castle=castStr Q.castle)(h2:S.turn=turnOf Q.turn)(h3:S.ep=Q.ep):StPre (boardOf Q.bd) S:=by
 have hT:=hV.turn;obtain ⟨hB,_⟩:=base_rep hV;obtain ⟨q0,q1,q2,q3⟩:=canC_eq hV;have hp:=passed_get hV.turn hV.passed;have other:∀(s:ByteArray) (t sd:Int),sd≠2->canC s t sd=canC s t 1:=by
  intro s t sd h2;unfold canC;rw [beq_eq_false_iff_ne.2 h2];rfl
 have home:∀(c sd:Int),(c=0\/c=1)->Q.turn=c->canC (castStr Q.castle) (c+1) sd=true->Q.bd (4+56*c).toNat=1+6*c:=by
  intro c sd hc e hcan;have key:∀r:Int,r=2*Q.turn\/r=2*Q.turn+1->castBit Q.castle r.toNat=true->Q.bd (4+56*c).toNat=1+6*c:=by
   intro r hr hb;have:=(king_home hV hr hb).1.2.1;rw [e] at this;rw [←this];congr 2;unfold homeK;omega
  by_cases e2:sd=2
  · rw [e2] at hcan;rcases hc with rfl|rfl
    · exact key 1 (by omega) (by rw [show (0+1:Int)=1 from rfl,q1] at hcan;exact hcan)
    exact key 3 (by omega) (by rw [show (1+1:Int)=2 from rfl,q3] at hcan;exact hcan)
  rw [other _ _ _ e2] at hcan;rcases hc with rfl|rfl
  · exact key 0 (by omega) (by rw [show (0+1:Int)=1 from rfl,q0] at hcan;exact hcan)
  exact key 2 (by omega) (by rw [show (1+1:Int)=2 from rfl,q2] at hcan;exact hcan)
 refine ⟨λp s hp hs h=>band_of hB hp hs h,by have:=castStr_size Q.castle;rw [h1];omega,?_,?_,mkBoard_kings _,?_,?_⟩
 · intro sd a b;have e:Q.turn=0:=by rw [h2] at a;rcases turnOf_cases hT with ⟨x,y⟩|⟨x,y⟩<;>omega
   rw [a,h1] at b;have hk:=home 0 sd (Or.inl rfl) e b;have:=hB.pieceAt (s:=4) (by decide);rw [show ((4:Nat):Int)=4 from rfl] at this;rw [this,show Q.bd 4=Q.bd (4+56*0:Int).toNat from rfl,hk];omega
 · intro sd a b;have e:Q.turn=1:=by rw [h2] at a;rcases turnOf_cases hT with ⟨x,y⟩|⟨x,y⟩<;>omega
   rw [a,h1] at b;have hk:=home 1 sd (Or.inr rfl) e b;have:=hB.pieceAt (s:=60) (by decide);rw [show ((60:Nat):Int)=60 from rfl] at this;rw [this,show Q.bd 60=Q.bd (4+56*1:Int).toNat from rfl,hk];omega
 · rw [h2];rcases turnOf_cases hT with ⟨a,b⟩|⟨a,b⟩<;>omega
 rw [h3];rcases hp with h|h<;>omega
theorem upPre(hV:ValidS P)(h:LegM P m)(hT:TagM P m M):UpPre (boardOf P.bd) (psOf P) M:=by
 have hs:=h.ok hV;have hf:=hs.f;have ht:=hs.t;have hp:=hs.p;have hx:=hV.bd m.f.toNat (by omega);have hx0:=h.x0 hV;have hcol:=pColor_or (p:=P.bd m.f.toNat) (by omega);refine ⟨by rw [hT.s1];exact hf,by rw [hT.s2];exact ht,by rw [at_f hV h hT];omega,by rw [at_f hV h hT];exact hcol,λhh=>?_,λhh=>?_,Nat.le_trans (castStr_size P.castle) (by decide),?_⟩
 · rw [hT.pr] at hh⊢;omega
 · rw [at_f hV h hT];rw [hT.pr] at hh⊢;exact newP_ok (by omega) hcol
 rw [hT.board];exact stPre_of (made_valid hV h) (S:=nextPs (boardOf P.bd) (psOf P) M) (next_castle hV h hT) (next_turn hV) (next_ep hV h hT)
theorem chk_next(hV:ValidS P)(h:LegM P m):inChk (boardOf (madeS P m.f m.t m.p).bd) (turnOf (1-P.turn))=chkS P m:=by
 have hV':=made_valid hV h;have hT:=hV.turn;obtain ⟨hB,hK⟩:=base_rep hV';obtain ⟨k,hk,_⟩:=valid_kings hV' (c:=1-P.turn) (by omega);rw [turnOf_eq (by omega)];exact (inChk_eq hB hK (by omega) hk).trans (inChkS_eq hk).symm
theorem allL_irr{B:Bd}{S S':Ps}(hc:S.castle=S'.castle)(ht:S.turn=S'.turn)(he:S.ep=S'.ep)(hk:S.chk=S'.chk):allL B S=allL B S':=by
 have a1:possMv B S=possMv B S':=by funext pt sq;unfold possMv pawnMv;rw [ht,he]
 have a2:dest B S=dest B S':=by funext p s;unfold dest;rw [a1,ht]
 have b1:tg1 B S=tg1 B S':=by funext M;unfold tg1;rw [he]
 have b2:tg2 B S=tg2 B S':=by funext M;unfold tg2;rw [b1]
 have b3:nextB B S=nextB B S':=by funext M;unfold nextB;rw [b2]
 have b4:tg3 B S=tg3 B S':=by funext M;unfold tg3;rw [b3,b2,ht]
 have b5:tg4 B S=tg4 B S':=by funext M;unfold tg4;rw [b3,b4,ht]
 have c1:promoT B S=promoT B S':=by
  funext s1 s2 k;induction k with
  |zero=>rfl
  |succ k ih=>unfold promoT;rw [ih,b5]
 have c2:promoF B S=promoF B S':=by funext s1 s2 k;unfold promoF;rw [c1,b5]
 have c3:s2F B S=s2F B S':=by funext p s1 s2;unfold s2F plainM;rw [c2,b5,a2]
 have c4:s1F B S=s1F B S':=by funext p s1;unfold s1F;rw [c3,a2]
 have c5:pF B S=pF B S':=by funext j;unfold pF;rw [c4,ht]
 have d1:castM B S=castM B S':=by funext t s1 s2;unfold castM;rw [b5]
 unfold allL stdL castL cl1 cl2 cl3 cl4 cc1 cc2 cc3 cc4;rw [c5,d1,ht,hc,hk]
theorem legal_irr{P Q:SP}(hb:P.bd=Q.bd)(ht:P.turn=Q.turn)(hc:P.castle=Q.castle)(he:P.ep=Q.ep):pseudoL P=pseudoL Q/\okS P=okS Q:=by
 have a1:toL P=toL Q:=by funext s t;unfold toL;rw [hb,ht]
 have a2:fromL P=fromL Q:=by funext s;unfold fromL dstL;rw [a1,hb,ht,he]
 have b1:rightB P=rightB Q:=by funext g;unfold rightB;rw [hb,hc]
 have b2:rightsTo P=rightsTo Q:=by
  funext n;induction n with
  |zero=>rfl
  |succ n ih=>unfold rightsTo;rw [ih,b1]
 have b3:freeTo P=freeTo Q:=by
  funext r n;induction n with
  |zero=>unfold freeTo;rw [hb,ht]
  |succ n ih=>unfold freeTo;rw [ih,hb]
 have b4:castR P=castR Q:=by funext r;unfold castR rightsS;rw [b2,b3,hb,ht]
 refine ⟨?_,?_⟩
 · unfold pseudoL castS;rw [a2,b4,ht]
 funext m;unfold okS atK madeS;dsimp only;rw [hb,ht]
theorem has_next(hV:ValidS P)(h:LegM P m)(hT:TagM P m M)(h4:hasTag M 16=chkS P m):hasMv (updB (boardOf P.bd) M) (nextPs (boardOf P.bd) (psOf P) M)=hasS (madeS P m.f m.t m.p):=by
 have hV':=made_valid hV h;have e:allL (updB (boardOf P.bd) M) (nextPs (boardOf P.bd) (psOf P) M)=allL (boardOf (madeQ P m).bd) (psOf (madeQ P m)):=by
  have e1:nextPs (boardOf P.bd) (psOf P) M=⟨updB (boardOf P.bd) M,castStr (madeS P m.f m.t m.p).castle,newHalf (boardOf P.bd) (psOf P) M,newFull (psOf P),turnOf (1-P.turn),epS P.bd m.f m.t,inChk (boardOf (madeS P m.f m.t m.p).bd) (turnOf (1-P.turn))⟩:=by
   unfold nextPs;rw [next_castle hV h hT,next_turn hV,next_ep hV h hT,chk_next hV h,h4]
  rw [e1,hT.board];exact allL_irr rfl rfl rfl rfl
 have e2:hasS (madeS P m.f m.t m.p)=hasS (madeQ P m):=by
  obtain ⟨x,y⟩:=legal_irr (P:=madeS P m.f m.t m.p) (Q:=madeQ P m) rfl rfl rfl rfl;unfold hasS;rw [x,y]
 unfold hasMv;rw [e,e2];unfold hasS;rw [Bool.eq_iff_iff,decide_eq_true_eq,List.any_eq_true];constructor
 · intro hp;obtain ⟨N,hN⟩:=List.exists_mem_of_length_pos hp;exact ⟨⟨N.s1,N.s2,N.promo⟩,(allL_iff hV' _).1 ⟨N,hN,rfl,rfl,rfl⟩⟩
 rintro ⟨x,hx⟩;obtain ⟨N,hN,_⟩:=(allL_iff hV' x).2 hx;exact List.length_pos_of_mem hN
theorem sgn_nil(P:SP)(f t p:Int):((bstr (sgnS P f t p)).toList==(⟨#[]⟩:ByteArray).toList)=!(chkS P ⟨f,t,p⟩):=by
 rw [bstr_toList,nil_toList];show (sgnS P f t p==[])=!(inChkS (madeS P f t p).bd (madeS P f t p).turn);unfold sgnS;cases inChkS (madeS P f t p).bd (madeS P f t p).turn
 · rfl
 cases hasS (madeS P f t p)<;>rfl
def Told(P:SP)(m:Sm):Prop:=∀k:Int,2<=k->k<m.p->toldAt P m.f m.t m.p k=false
theorem told_tag(hT:TagM P m M)(ht:Told P m):hasTag M 16=chkS P m:=by
 rw [tag16,Bool.eq_iff_iff,hT.t4];refine ⟨λhh=>hh.elim id ?_,Or.inl⟩;rintro ⟨k,a,b,c⟩;have:=ht k a b;unfold toldAt at this;rw [sgn_nil,sgn_nil,c] at this;simpa using this
theorem text_sgn(hV:ValidS P)(h:LegM P m)(hT:TagM P m M)(ht:Told P m):sgnI (boardOf P.bd) (psOf P) M=sgnS P m.f m.t m.p:=by
 have h4:=told_tag hT ht;have hh:=has_next hV h hT h4;unfold sgnI sgnS;have e:inChkS (madeS P m.f m.t m.p).bd (madeS P m.f m.t m.p).turn=chkS P m:=rfl;rw [e,h4];cases hc:chkS P m
 · rfl
 simp only [cond_true,Bool.not_true,cond_false];unfold statV;rw [hh,show (nextPs (boardOf P.bd) (psOf P) M).chk=true by rw [←hc,←h4];rfl];cases hasS (madeS P m.f m.t m.p)<;>rfl
end
theorem any_key{P:SP}(hV:ValidS P)(g:Sm->Bool)(g':Mv->Bool)(h:∀N∈allL (boardOf P.bd) (psOf P),g' N=g (keyM N)):(allL (boardOf P.bd) (psOf P)).any g'=legAny P g:=by
 unfold legAny;rw [Bool.eq_iff_iff,List.any_eq_true,List.any_eq_true];constructor
 · rintro ⟨N,hN,hg⟩;obtain ⟨a,b⟩:=(allL_iff hV (keyM N)).1 ⟨N,hN,rfl,rfl,rfl⟩;exact ⟨keyM N,a,by rw [b,←h N hN,hg];rfl⟩
 rintro ⟨x,hx,hg⟩;rw [Bool.and_eq_true] at hg;obtain ⟨N,hN,e1,e2,e3⟩:=(allL_iff hV x).2 ⟨hx,hg.1⟩;have:keyM N=x:=by unfold keyM;rw [e1,e2,e3]
 exact ⟨N,hN,by rw [h N hN,this];exact hg.2⟩
theorem sqFile_eq{s:Int}(h:0<=s):sqFile s=s%8:=Int.tmod_eq_emod_of_nonneg h
theorem sqRank_eq{s:Int}(h:0<=s/\s<=63):sqRank s=s/8:=by
 have:=sqRank_nat s.toNat (by omega);rw [show ((s.toNat:Nat):Int)=s by omega] at this;rw [this];omega
theorem fB_eq{s:Int}(h:0<=s/\s<=63):fileB (sqFile s)=fB s/\rankB (sqRank s)=rB s:=by
 rw [sqFile_eq h.1,sqRank_eq h];exact ⟨rfl,rfl⟩
section
variable{P:SP}{m:Sm}{M:Mv}
theorem oth_key(hV:ValidS P)(h:LegM P m)(hT:TagM P m M){N:Mv}(hN:N∈allL (boardOf P.bd) (psOf P)):
  othI (boardOf P.bd) M N=othS P.bd m.f m.t (keyM N)/\filI (boardOf P.bd) M N=filS P.bd m.f m.t (keyM N)/\rnkI (boardOf P.bd) M N=rnkS P.bd m.f m.t (keyM N):=by
 obtain ⟨n,hn,hTn⟩:=tag_all hV hN;have hf:=(h.ok hV).f;have hfn:=(hn.ok hV).f;have e:othI (boardOf P.bd) M N=othS P.bd m.f m.t (keyM N):=by
  unfold othI othS skpS keyM;rw [at_f hV h hT,at_f hV hn hTn,hT.s1,hT.s2,hTn.s1,hTn.s2,Bool.eq_iff_iff];simp only [Bool.and_eq_true,bne_iff_ne,beq_iff_eq,Bool.not_eq_true',Bool.or_eq_false_iff,bne_eq_false_iff_eq,beq_eq_false_iff_ne];exact ⟨λ⟨⟨a,b⟩,c⟩=>⟨⟨b,a⟩,c.symm⟩,λ⟨⟨b,a⟩,c⟩=>⟨⟨a,b⟩,c.symm⟩⟩
 refine ⟨e,?_,?_⟩
 · unfold filI filS;rw [e];show (_&&(sqFile N.s1==sqFile M.s1))=(_&&(N.s1%8==m.f%8));rw [hT.s1,hTn.s1,sqFile_eq hf.1,sqFile_eq hfn.1]
 unfold rnkI rnkS;rw [e];show (_&&(sqRank N.s1==sqRank M.s1))=(_&&(N.s1/8==m.f/8));rw [hT.s1,hTn.s1,sqRank_eq hf,sqRank_eq hfn]
theorem legAny_mono{P:SP}{g g':Sm->Bool}(h:∀x,g x=true->g' x=true)(hn:legAny P g'=false):legAny P g=false:=by
 rw [Bool.eq_false_iff] at hn⊢;intro hg;apply hn;unfold legAny at hg⊢;obtain ⟨x,hx,hh⟩:=List.any_eq_true.1 hg;rw [Bool.and_eq_true] at hh;exact List.any_eq_true.2 ⟨x,hx,by rw [hh.1,h x hh.2];rfl⟩
theorem text_form(hV:ValidS P)(h:LegM P m)(hT:TagM P m M)(h6:kindOf (P.bd m.f.toNat)≠6):formI (boardOf P.bd) (allL (boardOf P.bd) (psOf P)) M=apartS P m.f m.t:=by
 have hf:=(h.ok hV).f;have o:=any_key hV (othS P.bd m.f m.t) (othI (boardOf P.bd) M) λN hN=>(oth_key hV h hT hN).1;have f:=any_key hV (filS P.bd m.f m.t) (filI (boardOf P.bd) M) λN hN=>(oth_key hV h hT hN).2.1;have r:=any_key hV (rnkS P.bd m.f m.t) (rnkI (boardOf P.bd) M) λN hN=>(oth_key hV h hT hN).2.2;have hf0:legAny P (othS P.bd m.f m.t)=false->legAny P (filS P.bd m.f m.t)=false:=legAny_mono λx hx=>by unfold filS at hx;rw [Bool.and_eq_true] at hx;exact hx.1
 have hr0:legAny P (othS P.bd m.f m.t)=false->legAny P (rnkS P.bd m.f m.t)=false:=legAny_mono λx hx=>by unfold rnkS at hx;rw [Bool.and_eq_true] at hx;exact hx.1
 unfold formI apartS;rw [type_f hV h hT,beq_eq_false_iff_ne.2 h6,o,f,r,hT.s1,(fB_eq hf).1,(fB_eq hf).2];simp only [cond_false];cases h1:legAny P (othS P.bd m.f m.t)
 · rw [hf0 h1,hr0 h1];rfl
 cases legAny P (filS P.bd m.f m.t)<;>cases legAny P (rnkS P.bd m.f m.t)<;>rfl
theorem leg_promo(h:LegM P m)(h6:kindOf (P.bd m.f.toNat)≠6):m.p=0:=by
 cases h with
 |std f t p h ho=>exact h.1.pr.elim id λhh=>absurd hh.1 h6
 |cast r h hM=>rfl
theorem tag_cap(hT:TagM P m M):(hasTag M 4||hasTag M 8)=takesI P.bd m.f m.t:=by rw [tag4,tag8];exact hT.cap
theorem text_body(hV:ValidS P)(h:LegM P m)(hT:TagM P m M):bodyI (boardOf P.bd) (allL (boardOf P.bd) (psOf P)) M=bodyS P m.f m.t m.p:=by
 have hs:=h.ok hV;have hpt:=type_f hV h hT;unfold bodyI bodyS;rw [tag1,tag2,hT.t0,hT.t1];cases castI P.bd m.f m.t==1
 · cases castI P.bd m.f m.t==2
   · simp only [cond_false];by_cases h6:kindOf (P.bd m.f.toNat)=6
     · have hform:formI (boardOf P.bd) (allL (boardOf P.bd) (psOf P)) M=[]:=by unfold formI;rw [hpt,h6];rfl
       rw [hform];unfold capT promT promS;rw [hpt,h6,hT.pr,hT.s1,hT.s2,tag_cap hT,sqBytes_eq hs.t,(fB_eq hs.f).1];cases takesI P.bd m.f m.t<;>by_cases hp:m.p=0
       · rw [hp];rfl
       · rw [bne_iff_ne.2 hp,beq_eq_false_iff_ne.2 hp];rfl
       · rw [hp];rfl
       rw [bne_iff_ne.2 hp,beq_eq_false_iff_ne.2 hp];rfl
     rw [text_form hV h hT h6];unfold capT promT takT;rw [hpt,hT.pr,hT.s2,tag_cap hT,sqBytes_eq hs.t,beq_eq_false_iff_ne.2 h6,leg_promo h h6];cases takesI P.bd m.f m.t<;>simp
   rfl
 rfl
theorem text_lan(hV:ValidS P)(h:LegM P m)(hT:TagM P m M)(ht:Told P m):lanI (boardOf P.bd) (psOf P) M=lanS P m.f m.t m.p:=by
 have hs:=h.ok hV;have hsg:=text_sgn hV h hT ht;have hc:castI P.bd m.f m.t=0\/castI P.bd m.f m.t=1\/castI P.bd m.f m.t=2:=by
  unfold castI;cases (kindOf (P.bd m.f.toNat) !=(1:Int))<;>cases (m.t-m.f==(2:Int))<;>cases (m.t-m.f==(-2:Int))<;>simp
 unfold lanI lanS bodyS;rw [tag1,tag2,hT.t0,hT.t1,hsg];rcases hc with e|e|e<;>rw [e]
 · simp only [show ((0:Int)==1)=false from rfl,show ((0:Int)==2)=false from rfl,cond_false,show decide ((0:Int)>0)=false from rfl];unfold capL takT promS eqB;rw [type_f hV h hT,hT.pr,hT.s1,hT.s2,tag_cap hT,sqBytes_eq hs.t,sqBytes_eq hs.f];congr 2;have hp:=hs.p;rcases (by omega:m.p=0\/m.p=2\/m.p=3\/m.p=4\/m.p=5) with e|e|e|e|e<;>rw [e]<;>rfl
 · rfl
 rfl
theorem text_san(hV:ValidS P)(h:LegM P m)(hT:TagM P m M)(ht:Told P m):encI (boardOf P.bd) (psOf P) (allL (boardOf P.bd) (psOf P)) M=bodyS P m.f m.t m.p++sgnS P m.f m.t m.p:=by
 unfold encI;rw [text_body hV h hT,text_sgn hV h hT ht]
end
open Go.Proofs.Tryz
def oneI(l:List UInt8)(at_:Int)(set:List UInt8):Int:=if at_<(l.length:Int) then (if l.getD at_.toNat 0∈set then 1 else 0) else 0
theorem oneI_rng(l:List UInt8)(at_:Int)(set:List UInt8):0<=oneI l at_ set/\oneI l at_ set<=1:=by
  unfold oneI;split
  · split<;>decide
  · decide
theorem byteAt_strY(l:List UInt8)(i:Nat)(b:UInt8)(h:l[i]?=some b):byteAt ⟨l.toArray⟩ (i:Int)=b.toNat:=by
 unfold byteAt;have h2:(⟨l.toArray⟩:ByteArray)[((i:Int)).toNat]?=some b:=by
  have hl:i<l.length:=by
   refine Classical.byContradiction λhh=>?_;rw [List.getElem?_eq_none (by omega)] at h;cases h
  have hl2:((i:Int)).toNat<(⟨l.toArray⟩:ByteArray).size:=by show _<l.toArray.size;simp;omega
  rw [getElem?_pos (⟨l.toArray⟩:ByteArray) ((i:Int)).toNat hl2];rw [List.getElem?_eq_getElem hl] at h;rw [←h];rfl
 rw [h2]
theorem byteAt_b{l:List UInt8}{i:Int}(h0:0<=i)(h1:i<(l.length:Int)):byteAt (bstr l) i=((l.getD i.toNat 0).toNat:Int):=by
  obtain ⟨n,rfl⟩:∃n:Nat,i=n:=⟨i.toNat,by omega⟩;have hl:n<l.length:=by omega
  rw [show bstr l=⟨l.toArray⟩ from rfl,byteAt_strY l n (l.getD n 0) (by rw [List.getD_eq_getElem?_getD,List.getElem?_eq_getElem hl];rfl),Int.toNat_natCast]
theorem one_yes{l set:List UInt8}{at_ g:Int}(h0:0<=at_)(h1:at_<((bstr l).size:Int))(g0:0<=g)(g1:g<((bstr set).size:Int))(h:(byteAt (bstr l) at_==byteAt (bstr set) g)=true):oneI l at_ set=1:=by
  rw [bstr_size] at h1 g1;rw [byteAt_b h0 h1,byteAt_b g0 g1,beq_iff_eq] at h;have e:l.getD at_.toNat 0=set.getD g.toNat 0:=UInt8.toNat_inj.1 (by omega);unfold oneI;rw [if_pos h1,e,if_pos];have hl:g.toNat<set.length:=by omega
  rw [List.getD_eq_getElem?_getD,List.getElem?_eq_getElem hl];exact List.getElem_mem hl
theorem one_no{l set:List UInt8}{at_:Int}(h0:0<=at_)(h1:at_<((bstr l).size:Int))(h:∀j:Int,0<=j->j<((bstr set).size:Int)->(byteAt (bstr l) at_==byteAt (bstr set) j)=false):oneI l at_ set=0:=by
  rw [bstr_size] at h1;unfold oneI;rw [if_pos h1,if_neg];intro hm;obtain ⟨i,hi,e⟩:=List.getElem_of_mem hm;have:=h (i:Int) (by omega) (by rw [bstr_size];omega);rw [byteAt_b h0 h1,byteAt_b (by omega) (by omega),beq_eq_false_iff_ne] at this;apply this;rw [Int.toNat_natCast,List.getD_eq_getElem?_getD (l:=set),List.getElem?_eq_getElem hi,e];rfl
theorem one_out{l set:List UInt8}{at_:Int}(h1:¬at_<((bstr l).size:Int)):oneI l at_ set=0:=by
  rw [bstr_size] at h1;unfold oneI;rw [if_neg h1]
def tailB:List UInt8->Bool
  |[]=>true
  |c::r=>if c=43\/c=35\/c=33\/c=63 then tailB r else if (c::r).take 4=[101,46,112,46] then tailB (r.drop 3) else false
termination_by l=>l.length
decreasing_by all_goals (simp;try omega)
theorem tail_nil{l:List UInt8}{g:Int}(h:¬g<((bstr l).size:Int)):tailB (l.drop g.toNat)=true:=by
  rw [bstr_size] at h;rw [List.drop_eq_nil_of_le (by omega),tailB]
theorem tail_cons{l:List UInt8}{g:Int}(h0:0<=g)(h1:g<(l.length:Int)):l.drop g.toNat=l.getD g.toNat 0::l.drop (g+1).toNat:=by
  have hl:g.toNat<l.length:=by omega
  rw [List.drop_eq_getElem_cons hl,show (g+1).toNat=g.toNat+1 by omega,List.getD_eq_getElem?_getD,List.getElem?_eq_getElem hl];rfl
theorem tail_plus{l:List UInt8}{g:Int}(h0:0<=g)(h1:g<((bstr l).size:Int))(h:(((((byteAt (bstr l) g)==43)||((byteAt (bstr l) g)==35))||((byteAt (bstr l) g)==33))||((byteAt (bstr l) g)==63))=true):tailB (l.drop g.toNat)=tailB (l.drop (g+1).toNat):=by
  rw [bstr_size] at h1;rw [tail_cons h0 h1,tailB,if_pos];rw [byteAt_b h0 h1] at h;simp only [Bool.or_eq_true,beq_iff_eq] at h;have key:∀n:Nat,n<256->((l.getD g.toNat 0).toNat:Int)=(n:Int)->l.getD g.toNat 0=UInt8.ofNat n:=λn hn e=>UInt8.toNat_inj.1 (by rw [UInt8.toNat_ofNat'];omega);rcases h with ((h|h)|h)|h
  · exact Or.inl (key 43 (by decide) h)
  · exact Or.inr (Or.inl (key 35 (by decide) h))
  · exact Or.inr (Or.inr (Or.inl (key 33 (by decide) h)))
  · exact Or.inr (Or.inr (Or.inr (key 63 (by decide) h)))
theorem tail_not{l:List UInt8}{g:Int}(h0:0<=g)(h1:g<(l.length:Int))(h:(((((byteAt (bstr l) g)==43)||((byteAt (bstr l) g)==35))||((byteAt (bstr l) g)==33))||((byteAt (bstr l) g)==63))=false):
    ¬(l.getD g.toNat 0=43\/l.getD g.toNat 0=35\/l.getD g.toNat 0=33\/l.getD g.toNat 0=63):=by
  rw [byteAt_b h0 h1] at h;simp only [Bool.or_eq_false_iff,beq_eq_false_iff_ne,ne_eq] at h;obtain ⟨⟨⟨a,b⟩,c⟩,d⟩:=h;rintro (e|e|e|e)<;>rw [e] at a b c d
  · exact a rfl
  · exact b rfl
  · exact c rfl
  · exact d rfl
theorem tail_ext{l:List UInt8}{g:Int}(h0:0<=g)(h4:g+4<=(l.length:Int)):((bstr l).extract g.toNat (g+4).toNat).toList=(l.drop g.toNat).take 4:=by
  rw [ByteArray.toList_eq,Lib.extract_data];show (l.toArray.toList.drop g.toNat).take _=_;rw [show (g+4).toNat-g.toNat=4 by omega]
theorem ep_list:(⟨#[101,46,112,46]⟩:ByteArray).toList=[101,46,112,46]:=bstr_toList [101,46,112,46]
theorem tail_ep{l:List UInt8}{g:Int}(h0:0<=g)(h1:g<((bstr l).size:Int))(h:(((((byteAt (bstr l) g)==43)||((byteAt (bstr l) g)==35))||((byteAt (bstr l) g)==33))||((byteAt (bstr l) g)==63))=false)
    (h4:g+4<=((bstr l).size:Int))(he:(((bstr l).extract g.toNat (g+4).toNat).toList==(⟨#[101,46,112,46]⟩:ByteArray).toList)=true):tailB (l.drop g.toNat)=tailB (l.drop (g+4).toNat):=by
  rw [bstr_size] at h1 h4;rw [tail_ext h0 h4,ep_list,beq_iff_eq] at he;have hn:=tail_not h0 h1 h;rw [tail_cons h0 h1] at he⊢;rw [tailB,if_neg hn,if_pos he,List.drop_drop,show (g+1).toNat+3=(g+4).toNat by omega]
theorem tail_none{l:List UInt8}{g:Int}(h0:0<=g)(h1:g<((bstr l).size:Int))(h:(((((byteAt (bstr l) g)==43)||((byteAt (bstr l) g)==35))||((byteAt (bstr l) g)==33))||((byteAt (bstr l) g)==63))=false)
    (he:(decide (g+4<=((bstr l).size:Int))&&(((bstr l).extract g.toNat (g+4).toNat).toList==(⟨#[101,46,112,46]⟩:ByteArray).toList))=false):tailB (l.drop g.toNat)=false:=by
  rw [bstr_size] at h1 he;have hn:=tail_not h0 h1 h;have hl:(l.drop g.toNat).take 4≠[101,46,112,46]:=by
    intro e;have h4:g+4<=(l.length:Int):=by have:=congrArg List.length e;simp at this;omega
    rw [tail_ext h0 h4,ep_list,e] at he;rw [show decide (g+4<=(l.length:Int))=true by simpa using h4] at he;simp at he
  rw [tail_cons h0 h1] at hl⊢;rw [tailB,if_neg hn,if_neg hl]
theorem and_snd{a b:Bool}(h:(a&&b)=true):b=true:=by revert h;cases a<;>cases b<;>decide
theorem c193{t:Nat}{w:World}{l:List UInt8}(ht:At w t (.cells #[.string (bstr l)] 9 (0,0)))(at_:Int)(set:List UInt8)(h0:0<=at_)(hl:l.length<=1000000)(hs:set.length<=1000000):
    CR 193 [.int .i64 at_,.string (bstr set),.pointer (some ⟨t,0,none⟩)] w (.int .i64 (oneI l at_ set)):=by
  have hsl:=bstr_size l;have hss:=bstr_size set;refine en func193 ntmps193 ?_;refine w_seq<|w_region<|yS 1<|zz<|w_seq<|w_seq<|w_region<|yL 4 t 0<|zz<|w_cond (b:=(decide (at_<(((bstr l).size:Nat):Int)))) (by kernel_rfl) (λhc1=>?_) (λhc1=>?_)
  · skip
    have dhc1:=of_decide_eq_true hc1;refine w_seq<|w_region<|yS 1<|zz<|w_block<|yP (γ:=Int) (λg2=>(((bstr set).size:Int)-g2).toNat) (λ(g2:Int)=>[(0,.int .i64 at_),(1,.string (bstr set)),(2,.pointer (some ⟨t,0,none⟩)),(6,.int .i64 g2)]) (λ(g2:Int) w_=>(0<=g2/\g2<=((bstr set).size:Int))/\Mod [] w w_/\(∀i:Int,0<=i->i<g2->((byteAt (bstr l) at_)==(byteAt (bstr set) i))=false)) 0 ⟨by omega,Mod.refl _ _,(λi h0 h1=>absurd h1 (by omega))⟩ ?_;rintro g2 w3 ⟨⟨h5,h6⟩,hm4,hx7⟩;refine w_seq<|w_seq<|w_region<|yS 4<|zz<|w_cond (b:=(decide (g2<(((bstr set).size:Nat):Int)))) (by kernel_rfl) (λhc11=>?_) (λhc11=>?_)
    · skip
      have dhc11:=of_decide_eq_true hc11;refine w_skip<|n_then<|w_seq<|w_block<|w_seq<|w_qt<|yQv 7 [.cell ⟨t,0,none⟩ (.string (bstr l)),.prop (0<=at_/\∃b,(bstr l)[at_.toNat]?=some b/\(byteAt (bstr l) at_)=b.toNat),.prop (0<=g2/\∃b,(bstr set)[g2.toNat]?=some b/\(byteAt (bstr set) g2)=b.toNat)] [.string (bstr l),.int .u8 (byteAt (bstr l) at_),.int .u8 (byteAt (bstr set) g2)] (λ_ hC=>⟨At.cell (At.on ya hC) rfl,(byteAt_ok (by omega) (by omega)),(byteAt_ok (by omega) (by omega))⟩)<|q_ot fun w12 hm13=>n_then<|w_cond (b:=((byteAt (bstr l) at_)==(byteAt (bstr set) g2))) (by kernel_rfl) (λhc18=>?_) (λhc18=>?_)
      · skip
        have dhc18:=eq_of_beq hc18;exact w_seq<|w_region<|yS 1<|zz<|w_ret<|r_block<|r_then<|r_then<|r_block<|r_then<|y1 (v:=.int .i64 1) (⟨ret_int (one_yes h0 (by omega) (by omega) (by omega) hc18).symm,yt⟩)
      · skip
        have dhc18:=ne_of_beq_false hc18;exact w_skip<|n_block<|n_then<|w_region<|yS 2<|yW 16 (zi (g2+1) (by omega) (by omega))<|yS 1<|ze<|zl (g2+1) ⟨by omega,yt,(forall_step hx7 hc18)⟩
    · skip
      have dhc11:=of_decide_eq_false hc11;exact w_exit<|x_then<|x_then<|x_hit<|n_then<|w_seq<|w_region<|yS 1<|zz<|w_ret<|y1 (v:=.int .i64 0) (⟨ret_int (one_no h0 (by omega) (λi h0 h1=>hx7 i h0 (by omega))).symm,yt⟩)
  · skip
    have dhc1:=of_decide_eq_false hc1;exact w_skip<|n_then<|w_seq<|w_region<|yS 1<|zz<|w_ret<|y1 (v:=.int .i64 0) (⟨ret_int (one_out (by omega)).symm,yt⟩)
theorem c194{w:World}(l:List UInt8)(at_:Int)(h0:0<=at_)(hat:at_<=1000000)(hl:l.length<=1000000):
    CR 194 [.string (bstr l),.int .i64 at_] w (.bool (tailB (l.drop at_.toNat))):=by
  have hsl:=bstr_size l;refine en func194 ntmps194 ?_;refine w_seq<|w_region<|yS 1<|zz<|w_seq<|w_block<|yP (γ:=Int) (λg1=>((bstr l).size-g1).toNat) (λg1=>[(0,.string (bstr l)),(1,.int .i64 g1)]) (λg1 w_=>0<=g1/\Mod [] w w_/\tailB (l.drop at_.toNat)=tailB (l.drop g1.toNat)) at_ ⟨h0,Mod.refl _ _,rfl⟩ ?_;rintro g1 w2 ⟨h4,hm3,hx6⟩;refine w_seq<|w_seq<|w_region<|yS 4<|zz<|w_cond (b:=(decide (g1<(((bstr l).size:Nat):Int)))) (by kernel_rfl) (λhc9=>?_) (λhc9=>?_)
  · skip
    have dhc9:=of_decide_eq_true hc9;refine w_skip<|n_then<|w_block<|w_block<|w_cut (γ:=Unit) (λ_=>[(0,.string (bstr l)),(1,.int .i64 g1),(9,.bool (((((byteAt (bstr l) g1)==43)||((byteAt (bstr l) g1)==35))||((byteAt (bstr l) g1)==33))||((byteAt (bstr l) g1)==63)))]) (λ_ w_=>Mod [] w2 w_) ?_ ?_
    · skip
      refine w_region<|yV 5 [.prop (0<=g1/\∃b,(bstr l)[g1.toNat]?=some b/\(byteAt (bstr l) g1)=b.toNat)] [.int .u8 (byteAt (bstr l) g1)] (byteAt_ok (by omega) (by omega))<|yE 14 (.bool ((byteAt (bstr l) g1)==43)) ?_;cases hc13:((byteAt (bstr l) g1)==43)
      · skip
        have dhc13:=hc13;simp only [zbq] at dhc13;refine yV 6 [.prop (0<=g1/\∃b,(bstr l)[g1.toNat]?=some b/\(byteAt (bstr l) g1)=b.toNat)] [.int .u8 (byteAt (bstr l) g1)] (byteAt_ok (by omega) (by omega))<|yE 20 (.bool ((byteAt (bstr l) g1)==35)) ?_;cases hc14:((byteAt (bstr l) g1)==35)
        · skip
          have dhc14:=hc14;simp only [zbq] at dhc14;refine yV 6 [.prop (0<=g1/\∃b,(bstr l)[g1.toNat]?=some b/\(byteAt (bstr l) g1)=b.toNat)] [.int .u8 (byteAt (bstr l) g1)] (byteAt_ok (by omega) (by omega))<|yE 26 (.bool ((byteAt (bstr l) g1)==33)) ?_;cases hc15:((byteAt (bstr l) g1)==33)
          · skip
            have dhc15:=hc15;simp only [zbq] at dhc15;exact yV 6 [.prop (0<=g1/\∃b,(bstr l)[g1.toNat]?=some b/\(byteAt (bstr l) g1)=b.toNat)] [.int .u8 (byteAt (bstr l) g1)] (byteAt_ok (by omega) (by omega))<|ze<|zb () yt
          · skip
            have dhc15:=hc15;simp only [zbq] at dhc15;exact yS 6<|ze<|zb () yt
        · skip
          have dhc14:=hc14;simp only [zbq] at dhc14;exact yS 12<|ze<|zb () yt
      · skip
        have dhc13:=hc13;simp only [zbq] at dhc13;exact yS 18<|ze<|zb () yt
    intro _ w10 hm11;refine w_cond (b:=(((((byteAt (bstr l) g1)==43)||((byteAt (bstr l) g1)==35))||((byteAt (bstr l) g1)==33))||((byteAt (bstr l) g1)==63))) (by kernel_rfl) (λhc19=>?_) (λhc19=>?_)
    · skip
      have dhc19:=hc19;simp only [zbq] at dhc19;exact w_region<|yS 2<|yW 33 (zi (g1+1) (by omega) (by omega))<|yS 1<|ze<|n_block<|n_block<|zl (g1+1) ⟨by omega,yt,hx6.trans (tail_plus h4 (by omega) hc19)⟩
    · skip
      have dhc19:=hc19;simp only [zbq] at dhc19;refine w_cut (γ:=Unit) (λ_=>[(0,.string (bstr l)),(1,.int .i64 g1),(34,.bool ((decide ((g1+4)<=(((bstr l).size:Nat):Int)))&&(((bstr l).extract g1.toNat (g1+4).toNat).toList==(⟨#[101,46,112,46]⟩:ByteArray).toList)))]) (λ_ w_=>Mod [] w10 w_) ?_ ?_
      · skip
        refine w_region<|yS 2<|yW 36 (zi (g1+4) (by omega) (by omega))<|yS 4<|yE 40 (.bool (decide ((g1+4)<=(((bstr l).size:Nat):Int)))) ?_;cases hc23:(decide ((g1+4)<=(((bstr l).size:Nat):Int)))
        · skip
          have dhc23:=hc23;simp only [zbq] at dhc23;exact yS 8<|ze<|zb () yt
        · skip
          have dhc23:=hc23;simp only [zbq] at dhc23;exact yS 4<|yW 44 (zi (g1+4) (by omega) (by omega))<|yV 4 [.prop (0<=g1/\g1<=(g1+4)/\(g1+4)<=(((bstr l).size:Nat):Int))] [] (show 0<=g1/\g1<=(g1+4)/\(g1+4)<=(((bstr l).size:Nat):Int) from (by omega))<|ze<|zb () yt
      intro _ w20 hm21;refine w_cond (b:=((decide ((g1+4)<=(((bstr l).size:Nat):Int)))&&(((bstr l).extract g1.toNat (g1+4).toNat).toList==(⟨#[101,46,112,46]⟩:ByteArray).toList))) (by kernel_rfl) (λhc27=>?_) (λhc27=>?_)
      · skip
        have dhc27:=hc27;simp only [zbq] at dhc27;exact w_region<|yS 2<|yW 49 (zi (g1+4) (by omega) (by omega))<|yS 1<|ze<|n_block<|n_block<|zl (g1+4) ⟨by omega,yt,hx6.trans (tail_ep h4 (by omega) hc19 (by omega) (and_snd hc27))⟩
      · skip
        have dhc27:=hc27;simp only [zbq] at dhc27;exact w_seq<|w_region<|yS 1<|zz<|w_ret<|r_block<|r_block<|r_then<|r_block<|r_then<|y1 (⟨by rw [hx6,tail_none (by omega) (by omega) hc19 hc27],yt⟩)
  · skip
    have dhc9:=of_decide_eq_false hc9;exact w_exit<|x_then<|x_then<|x_hit<|n_then<|w_seq<|w_region<|yS 1<|zz<|w_ret<|y1 (⟨by rw [hx6,tail_nil (by omega)],yt⟩)
def callAtC(P:Program)(n:Nat)(ops:List Oper)(k:Nat)(L:List (Nat×Value)):Option (FuncId×List Value×Option Nat):=
 match ops[k]? with
 |some o=>match wantedL ops L o,dstOk o.dst n with
  |some true,true=>match o.op with
   |.call c=>match c.callee with
    |.value f=>match evL L f,evAll L c.args.toList with
     |some (.func (.func g) fi ca),some vs=>match P.funcs[g]? with
      |some fn=>if fi.isEmpty&&(fn.body.isSome&&!(fn.name== "runtime.NumGoroutine")) then some (g,vs++ca.toList,o.dst) else none
      |none=>none
     |_,_=>none
    |_=>none
   |_=>none
  |_,_=>none
 |none=>none
section
variable{P:Program}{n:Nat}{D:List Deferred}{ops:Array Oper}{Q:Exit->Act->World->Prop}{w:World}{L:List (Nat×Value)}
theorem callAtC_spec{k:Nat}{f:FuncId}{vs:List Value}{dst:Option Nat}(h:callAtC P n ops.toList k L=some (f,vs,dst)){a:Act}(ha:Hold n L D a):
  ∃o,ops.toList[k]?=some o/\o.dst=dst/\dstOk dst n=true/\Region.wanted o (yielded ops a.tmps)=true/\∀w,(execOp a.eval o).run P w=.ok (.enter f vs.toArray) w:=by
 unfold callAtC at h;split at h
 ·rename_i o ho;split at h
  ·rename_i hw hd;split at h
   ·rename_i c hop;split at h
    ·rename_i f' hc;split at h
     ·rename_i g fi ca us hf hus;split at h
      ·rename_i fn hfn;split at h
       ·rename_i hcond;simp only [Option.some.injEq,Prod.mk.injEq] at h;obtain ⟨rfl,rfl,rfl⟩:=h;simp only [Bool.and_eq_true,Bool.not_eq_true'] at hcond;obtain ⟨h1,h3,h4⟩:=hcond;refine ⟨o,ho,rfl,hd,wantedL_spec ha hw,fun w=>?_⟩;have hargs:c.args.map a.eval=us.toArray:=by
         apply Array.ext';simp [evAll_args ha.agrees hus]
        have e1:fi=#[]:=by simpa using h1
        obtain ⟨dst,op,ty,pos,af,g'⟩:=o;simp only at hop;subst hop;obtain ⟨callee,args,ts⟩:=c;simp only at hc hargs;subst hc;have hb:fn.body≠none:=by intro e;rw [e] at h3;cases h3
        have h4':fn.name≠ "runtime.NumGoroutine":=by simpa using h4
        simp [execOp,resolve,Deferred.ofValue,ha.agrees _ _ hf,e1,hargs,invoke,callFunc,hfn,h4',hb]
       ·cases h
      ·cases h
     ·cases h
    ·cases h
   ·cases h
  ·cases h
 ·cases h
theorem reg_callC{k:Nat}(f:FuncId)(vs:List Value)(dst:Option Nat)(h:callAtC P n ops.toList k L=some (f,vs,dst)){R:Ending->World->Prop}(hc:Calls P f vs.toArray w R)
  (hk:∀e w',R e w'->∃v,e=.returned v/\Reg P n D ops Q (k+1) (setD dst v L) w'):Reg P n D ops Q k L w:=by
 intro a ha;obtain ⟨o,ho,hdst,hd,hw,hrun⟩:=callAtC_spec (ops:=ops) h ha;have e:ops.toList.drop k=o::ops.toList.drop (k+1):=by
  have hlt:k<ops.toList.length:=(List.getElem?_eq_some_iff.1 ho).1;rw [List.drop_eq_getElem_cons hlt];congr 1;exact (List.getElem?_eq_some_iff.1 ho).2
 rw [e];simp only [wpList,hw,if_true];refine .inl ?_;simp only [Oper.wp,hrun,Oper.upon];refine hc.mono λe' w' hR=>?_;obtain ⟨v,rfl,hv⟩:=hk e' w' hR;rw [hdst];exact hv _ (ha.setD hd v)
theorem reg_mk{k:Nat}{o:Oper}(v:Value)(ho:ops.toList[k]?=some o)(hw:wantedL ops.toList L o=some true)(hd:dstOk o.dst n=true)
  (hkn:(knownAll L o.op.operands.toList&&!isSelect o.op)=true)(hrun:(execOp (evT L) o).run P w=.ok (.value v) w)
  (hk:Reg P n D ops Q (k+1) (setD o.dst v L) w):Reg P n D ops Q k L w:=by
 intro a ha;have hx:execOp a.eval o=execOp (evT L) o:=by
  simp only [Bool.and_eq_true,Bool.not_eq_true'] at hkn;refine execOp_congr o (λcs b e=>?_) λx hx=>known_agrees ha.agrees hkn.1 x (by simpa using hx);rw [e] at hkn;simp [isSelect] at hkn
 have e:ops.toList.drop k=o::ops.toList.drop (k+1):=by
  have hlt:k<ops.toList.length:=(List.getElem?_eq_some_iff.1 ho).1;rw [List.drop_eq_getElem_cons hlt];congr 1;exact (List.getElem?_eq_some_iff.1 ho).2
 rw [e];simp only [wpList,wantedL_spec ha hw,if_true];refine .inl ?_;simp only [Oper.wp,hx,hrun,Oper.upon];exact hk _ (ha.setD hd v)
end
def dnN{α:Type}(f:Int->Option α):Nat->Option α
 |0=>none
 |k+1=>match f (k:Int) with|some x=>some x|none=>dnN f k
def dn{α:Type}(n:Int)(f:Int->Option α):Option α:=dnN f (n+1).toNat
theorem dn_neg{α:Type}{n:Int}{f:Int->Option α}(h:n<0):dn n f=none:=by unfold dn;rw [show (n+1).toNat=0 by omega];rfl
theorem dn_step{α:Type}{n:Int}{f:Int->Option α}(h:0<=n)(hf:f n=none):dn n f=dn (n-1) f:=by
 unfold dn;rw [show (n+1).toNat=n.toNat+1 by omega,show (n-1+1).toNat=n.toNat by omega,dnN,show ((n.toNat:Nat):Int)=n by omega,hf]
theorem dn_some{α:Type}{n:Int}{f:Int->Option α}{x:α}(h:0<=n)(hf:f n=some x):dn n f=some x:=by
 unfold dn;rw [show (n+1).toNat=n.toNat+1 by omega,dnN,show ((n.toNat:Nat):Int)=n by omega,hf]
def zE(l:List UInt8)(en p:Int):Option Int:=if p<0 then none else if tailB (l.drop (en+p).toNat) then some p else if p<2 then none else if tailB (l.drop (en+(p-2)).toNat) then some (p-2) else none
def ppI(l:List UInt8)(en:Int):Int:=bif (oneI l en [61]==1)&&(oneI l (en+1) [81,82,66,78]==1) then 2 else 0
def zzD(l:List UInt8)(a b c d:Int):Option (Int×Int×Int×Int×Int):=
 bif (oneI l (a+b+c+d) [97,98,99,100,101,102,103,104]==0)||(oneI l (a+b+c+d+1) [48,49,50,51,52,53,54,55,56,57]==0) then none else (zE l (a+b+c+d+2) (ppI l (a+b+c+d+2))).map λp=>(a,b,c,d,p)
def zzC(l:List UInt8)(a b c:Int):Option (Int×Int×Int×Int×Int):=dn (oneI l (a+b+c) [120]) (zzD l a b c)
def zzB(l:List UInt8)(a b:Int):Option (Int×Int×Int×Int×Int):=dn (oneI l (a+b) [48,49,50,51,52,53,54,55,56,57]) (zzC l a b)
def zzA(l:List UInt8)(a:Int):Option (Int×Int×Int×Int×Int):=dn (oneI l a [97,98,99,100,101,102,103,104]) (zzB l a)
def zzF(l:List UInt8):Option (Int×Int×Int×Int×Int):=dn (oneI l 0 [82,78,66,81,75,80]) (zzA l)
def subL(l:List UInt8)(i n:Int):List UInt8:=(l.drop i.toNat).take n.toNat
structure Parts where
 (a b c d e f g h:List UInt8)
def partsOf(l:List UInt8)(a b c d p:Int):Parts:=⟨subL l 0 a,subL l a b,subL l (a+b) c,subL l (a+b+c) d,subL l (a+b+c+d) 1,subL l (a+b+c+d+1) 1,subL l (a+b+c+d+2) p,[]⟩
def oooS(j:Int):List UInt8:=if j=0 then [79,45,79,45,79] else [79,45,79]
def okK(l:List UInt8)(j:Int):Bool:=((decide ((((bstr l).size:Nat):Int)>=(((bstr (oooS j)).size:Nat):Int)))&&(((bstr l).extract 0 ((((bstr (oooS j)).size:Nat):Int)).toNat).toList==(bstr (oooS j)).toList))&&(tailB (l.drop ((((bstr (oooS j)).size:Nat):Int)).toNat))
def castP(s:List UInt8):Parts:=⟨[],[],[],[],[],[],[],s⟩
def zzR(l:List UInt8):Option Parts:=
 match zzF l with
 |some (a,b,c,d,p)=>some (partsOf l a b c d p)
 |none=>if okK l 0 then some (castP (oooS 0)) else if okK l 1 then some (castP (oooS 1)) else none
def zzV(l:List UInt8)(q:Parts):Array Value:=#[.string (bstr l),.string (bstr q.a),.string (bstr q.b),.string (bstr q.c),.string (bstr q.d),.string (bstr q.e),.string (bstr q.f),.string (bstr q.g),.string (bstr q.h),.string ⟨#[]⟩]
theorem ext_sub(l:List UInt8){i j n:Int}(h0:0<=i)(h1:0<=n)(e:j=i+n):(bstr l).extract i.toNat j.toNat=bstr (subL l i n):=by
 apply ByteArray.ext;apply Array.ext';rw [Lib.extract_data];show (l.toArray.toList.drop i.toNat).take _=(subL l i n).toArray.toList;unfold subL;rw [show j.toNat-i.toNat=n.toNat by omega]
theorem one_lt{l:List UInt8}{at_:Int}{set:List UInt8}(h:(oneI l at_ set==0)=false):at_<(((bstr l).size:Nat):Int):=by
 rw [beq_eq_false_iff_ne] at h;rw [bstr_size];unfold oneI at h;by_cases hh:at_<(l.length:Int)
 ·exact hh
 rw [if_neg hh] at h;exact absurd rfl h
theorem pp_rng(l:List UInt8)(en:Int):(ppI l en=0\/ppI l en=2)/\(ppI l en=2->en+2<=(((bstr l).size:Nat):Int)):=by
 unfold ppI;cases h:((oneI l en [61]==1)&&(oneI l (en+1) [81,82,66,78]==1))
 ·exact ⟨Or.inl rfl,λe=>by cases e⟩
 refine ⟨Or.inr rfl,λ_=>?_⟩;rw [Bool.and_eq_true,beq_iff_eq,beq_iff_eq] at h;have:=one_lt (l:=l) (at_:=en+1) (set:=[81,82,66,78]) (by rw [h.2];rfl);omega
theorem zE_neg{l:List UInt8}{en p:Int}(h:p<0):zE l en p=none:=by unfold zE;rw [if_pos h]
theorem zE_some{l:List UInt8}{en p:Int}(h:0<=p)(ht:tailB (l.drop (en+p).toNat)=true):zE l en p=some p:=by unfold zE;rw [if_neg (by omega),if_pos ht]
theorem zE_step{l:List UInt8}{en p:Int}(h:0<=p)(h2:p<=2)(ht:tailB (l.drop (en+p).toNat)=false):zE l en p=zE l en (p-2):=by
 unfold zE;rw [if_neg (by omega),ht];simp only [Bool.false_eq_true,if_false];by_cases e:p<2
 ·rw [if_pos e,if_pos (show p-2<0 by omega)]
 rw [if_neg e,if_neg (show ¬p-2<0 by omega),if_pos (show p-2<2 by omega)]
theorem zzD_none{l:List UInt8}{a b c d:Int}(h:((oneI l (a+b+c+d) [97,98,99,100,101,102,103,104]==0)||(oneI l (a+b+c+d+1) [48,49,50,51,52,53,54,55,56,57]==0))=true):zzD l a b c d=none:=by unfold zzD;rw [h];rfl
theorem zzD_zE{l:List UInt8}{a b c d:Int}(h:((oneI l (a+b+c+d) [97,98,99,100,101,102,103,104]==0)||(oneI l (a+b+c+d+1) [48,49,50,51,52,53,54,55,56,57]==0))=false):zzD l a b c d=(zE l (a+b+c+d+2) (ppI l (a+b+c+d+2))).map λp=>(a,b,c,d,p):=by unfold zzD;rw [h];rfl
theorem ooo_cell{j:Int}(h:0<=j/\j<2):(#[.string ⟨#[79,45,79,45,79]⟩,.string ⟨#[79,45,79]⟩]:Array Value)[0+j.toNat*1]?=some (.string (bstr (oooS j))):=by
 rcases (by omega:j=0\/j=1) with rfl|rfl<;>rfl
theorem zz_move{l:List UInt8}{q:Parts}{a b c d p:Int}(hz:zzR l=some q)(hF:zzF l=some (a,b,c,d,p))(ha:0<=a)(hb:0<=b)(hc:0<=c)(hd:0<=d)(hp:0<=p):
  (#[.string (bstr l),.string ((bstr l).extract 0 a.toNat),.string ((bstr l).extract a.toNat (a+b).toNat),.string ((bstr l).extract (a+b).toNat ((a+b)+c).toNat),.string ((bstr l).extract ((a+b)+c).toNat (((a+b)+c)+d).toNat),.string ((bstr l).extract (((a+b)+c)+d).toNat ((((a+b)+c)+d)+1).toNat),.string ((bstr l).extract ((((a+b)+c)+d)+1).toNat ((((a+b)+c)+d)+2).toNat),.string ((bstr l).extract ((((a+b)+c)+d)+2).toNat (((((a+b)+c)+d)+2)+p).toNat),.string ⟨#[]⟩,.string ⟨#[]⟩]:Array Value)=zzV l q:=by
 unfold zzR at hz;rw [hF] at hz;cases hz;unfold zzV partsOf;have e0:(bstr l).extract 0 a.toNat=bstr (subL l 0 a):=ext_sub l (i:=0) (j:=a) (n:=a) (by omega) ha (by omega);rw [e0,ext_sub l ha hb rfl,ext_sub l (by omega) hc rfl,ext_sub l (by omega) hd rfl,ext_sub l (n:=1) (by omega) (by omega) rfl,ext_sub l (n:=1) (by omega) (by omega) (by omega),ext_sub l (by omega) hp rfl];rfl
theorem zz_cast{l:List UInt8}{q:Parts}{j:Int}(hz:zzR l=some q)(hF:zzF l=none)(hj:0<=j/\j<2)(h0:0<j->okK l 0=false)(h:okK l j=true):
  (#[.string (bstr l),.string ⟨#[]⟩,.string ⟨#[]⟩,.string ⟨#[]⟩,.string ⟨#[]⟩,.string ⟨#[]⟩,.string ⟨#[]⟩,.string ⟨#[]⟩,.string (bstr (oooS j)),.string ⟨#[]⟩]:Array Value)=zzV l q:=by
 unfold zzR at hz;rw [hF] at hz;rcases (by omega:j=0\/j=1) with rfl|rfl
 ·simp only [h,if_true] at hz;cases hz;rfl
 rw [h0 (by omega)] at hz;simp only [h,if_true,Bool.false_eq_true,if_false] at hz;cases hz;rfl
set_option maxHeartbeats 1600000 in
theorem c189{w:World}(l:List UInt8)(q:Parts)(hz:zzR l=some q)(hl:l.length<=100000):
  CQ 189 [.string (bstr l)] w (λe w'=>∃g,e=.returned (.slice (some ⟨g,0,none⟩) 10 10)/\Mod [] w w'/\w.heap.size<=g/\At w' g (.cells (zzV l q) 9 (0,0))):=by
 have hm0:Mod [] w w:=Mod.refl _ _;have hsl:=bstr_size l;have hl:l.length<=1000000:=by omega
 refine en func189 ntmps189 ?_;refine zw<|zA (#[.string (bstr l)]) 9 (some 1) ?_;intro b1 w2 hn3;have hm5:=hn3.mod;have hm6:=zt hm0 hm5;have hf8:=hn3.at_;refine yS 1<|zx<|reg_mk (.func (.func 193) #[] #[pz b1]) rfl (by kernel_rfl) (by kernel_rfl) (by kernel_rfl) (by kernel_rfl)<|yS 1<|zz<|w_seq<|zw<|yS 1<|reg_callC 193 [.int .i64 0,.string (⟨#[82,78,66,81,75,80]⟩),pz b1] (some 15) (by kernel_rfl) (c193 hf8 0 [82,78,66,81,75,80] (by omega) hl (by decide)) ?_;rintro _ w9 ⟨rfl,hm10⟩;refine ⟨_,rfl,?_⟩;have hf11:=At.on hf8 hm10;have hm12:=zt hm6 hm10;have hr14:=oneI_rng l 0 [82,78,66,81,75,80];refine yS 1<|zz<|w_block<|yP (γ:=Int) (λg15=>(g15+1).toNat) (λg15=>[(1,pz b1),(3,.func (.func 193) #[] #[pz b1]),(4,.int .i64 g15)]) (λg15 w_=>(-1<=g15/\g15<=1)/\Mod [] w9 w_/\dn (oneI l 0 [82,78,66,81,75,80]) (zzA l)=dn g15 (zzA l)) (oneI l 0 [82,78,66,81,75,80]) ⟨by constructor<;>omega,Mod.refl _ _,rfl⟩ ?_;rintro g15 w16 ⟨⟨h18,h19⟩,hm17,hx20⟩;have hf21:=At.on hf11 hm17;have hm22:=zt hm12 hm17;refine w_seq<|zw<|yS 2<|zz<|yC (decide (g15>=0)) (λhc24=>?_) λhc24=>?_
 ·have dhc24:=of_decide_eq_true hc24;refine w_skip<|n_then<|w_seq<|w_block<|zw<|yS 2<|reg_callC 193 [.int .i64 g15,.string (⟨#[97,98,99,100,101,102,103,104]⟩),pz b1] (some 22) (by kernel_rfl) (c193 hf21 g15 [97,98,99,100,101,102,103,104] (by omega) hl (by decide)) ?_;rintro _ w25 ⟨rfl,hm26⟩;refine ⟨_,rfl,?_⟩;have hf27:=At.on hf21 hm26;have hm28:=zt hm22 hm26;have hm29:=zt hm17 hm26;have hr31:=oneI_rng l g15 [97,98,99,100,101,102,103,104];refine yS 1<|zz<|w_block<|yP (γ:=Int) (λg32=>(g32+1).toNat) (λg32=>[(1,pz b1),(3,.func (.func 193) #[] #[pz b1]),(4,.int .i64 g15),(5,.int .i64 g32)]) (λg32 w_=>(-1<=g32/\g32<=1)/\Mod [] w25 w_/\dn (oneI l g15 [97,98,99,100,101,102,103,104]) (zzB l g15)=dn g32 (zzB l g15)) (oneI l g15 [97,98,99,100,101,102,103,104]) ⟨by constructor<;>omega,Mod.refl _ _,rfl⟩ ?_;rintro g32 w33 ⟨⟨h35,h36⟩,hm34,hx37⟩;have hf38:=At.on hf27 hm34;have hm39:=zt hm28 hm34;have hm40:=zt hm29 hm34;refine w_seq<|zw<|yS 2<|zz<|yC (decide (g32>=0)) (λhc42=>?_) λhc42=>?_
  ·have dhc42:=of_decide_eq_true hc42;refine w_skip<|n_then<|w_seq<|w_block<|zw<|yS 4<|yW 30 (zi (g15+g32) (by omega) (by omega))<|reg_callC 193 [.int .i64 (g15+g32),.string (⟨#[48,49,50,51,52,53,54,55,56,57]⟩),pz b1] (some 31) (by kernel_rfl) (c193 hf38 (g15+g32) [48,49,50,51,52,53,54,55,56,57] (by omega) hl (by decide)) ?_;rintro _ w43 ⟨rfl,hm44⟩;refine ⟨_,rfl,?_⟩;have hf45:=At.on hf38 hm44;have hm46:=zt hm39 hm44;have hm47:=zt hm40 hm44;have hm48:=zt hm34 hm44;have hr50:=oneI_rng l (g15+g32) [48,49,50,51,52,53,54,55,56,57];refine yS 1<|zz<|w_block<|yP (γ:=Int) (λg51=>(g51+1).toNat) (λg51=>[(1,pz b1),(3,.func (.func 193) #[] #[pz b1]),(4,.int .i64 g15),(5,.int .i64 g32),(6,.int .i64 g51)]) (λg51 w_=>(-1<=g51/\g51<=1)/\Mod [] w43 w_/\dn (oneI l (g15+g32) [48,49,50,51,52,53,54,55,56,57]) (zzC l g15 g32)=dn g51 (zzC l g15 g32)) (oneI l (g15+g32) [48,49,50,51,52,53,54,55,56,57]) ⟨by constructor<;>omega,Mod.refl _ _,rfl⟩ ?_;rintro g51 w52 ⟨⟨h54,h55⟩,hm53,hx56⟩;have hf57:=At.on hf45 hm53;have hm58:=zt hm46 hm53;have hm59:=zt hm47 hm53;have hm60:=zt hm48 hm53;refine w_seq<|zw<|yS 2<|zz<|yC (decide (g51>=0)) (λhc62=>?_) λhc62=>?_
   ·have dhc62:=of_decide_eq_true hc62;refine w_skip<|n_then<|w_seq<|w_block<|zw<|yS 4<|yW 39 (zi (g15+g32) (by omega) (by omega))<|yS 2<|yW 41 (zi ((g15+g32)+g51) (by omega) (by omega))<|reg_callC 193 [.int .i64 ((g15+g32)+g51),.string (⟨#[120]⟩),pz b1] (some 42) (by kernel_rfl) (c193 hf57 ((g15+g32)+g51) [120] (by omega) hl (by decide)) ?_;rintro _ w63 ⟨rfl,hm64⟩;refine ⟨_,rfl,?_⟩;have hf65:=At.on hf57 hm64;have hm66:=zt hm58 hm64;have hm67:=zt hm59 hm64;have hm68:=zt hm60 hm64;have hm69:=zt hm53 hm64;have hr71:=oneI_rng l ((g15+g32)+g51) [120];refine yS 1<|zz<|w_block<|yP (γ:=Int) (λg72=>(g72+1).toNat) (λg72=>[(1,pz b1),(3,.func (.func 193) #[] #[pz b1]),(4,.int .i64 g15),(5,.int .i64 g32),(6,.int .i64 g51),(7,.int .i64 g72)]) (λg72 w_=>(-1<=g72/\g72<=1)/\Mod [] w63 w_/\dn (oneI l ((g15+g32)+g51) [120]) (zzD l g15 g32 g51)=dn g72 (zzD l g15 g32 g51)) (oneI l ((g15+g32)+g51) [120]) ⟨by constructor<;>omega,Mod.refl _ _,rfl⟩ ?_;rintro g72 w73 ⟨⟨h75,h76⟩,hm74,hx77⟩;have hf78:=At.on hf65 hm74;have hm79:=zt hm66 hm74;have hm80:=zt hm67 hm74;have hm81:=zt hm68 hm74;have hm82:=zt hm69 hm74;refine w_seq<|zw<|yS 2<|zz<|yC (decide (g72>=0)) (λhc84=>?_) λhc84=>?_
    ·have dhc84:=of_decide_eq_true hc84;refine w_skip<|n_then<|w_seq<|w_block<|zw<|yS 3<|yW 49 (zi (g15+g32) (by omega) (by omega))<|yS 2<|yW 51 (zi ((g15+g32)+g51) (by omega) (by omega))<|yS 2<|yW 53 (zi (((g15+g32)+g51)+g72) (by omega) (by omega))<|yS 1<|zz<|w_seq<|w_cut (γ:=Unit) (λ_=>[(1,pz b1),(3,.func (.func 193) #[] #[pz b1]),(4,.int .i64 g15),(5,.int .i64 g32),(6,.int .i64 g51),(7,.int .i64 g72),(8,.int .i64 (((g15+g32)+g51)+g72)),(64,.bool (((oneI l (((g15+g32)+g51)+g72) [97,98,99,100,101,102,103,104])==0)||((oneI l ((((g15+g32)+g51)+g72)+1) [48,49,50,51,52,53,54,55,56,57])==0)))]) (λ_ w_=>Mod [] w73 w_) ?_ ?_
     ·refine w_region<|yS 2<|reg_callC 193 [.int .i64 (((g15+g32)+g51)+g72),.string (⟨#[97,98,99,100,101,102,103,104]⟩),pz b1] (some 56) (by kernel_rfl) (c193 hf78 (((g15+g32)+g51)+g72) [97,98,99,100,101,102,103,104] (by omega) hl (by decide)) ?_;rintro _ w88 ⟨rfl,hm89⟩;refine ⟨_,rfl,?_⟩;have hr97:=oneI_rng l (((g15+g32)+g51)+g72) [97,98,99,100,101,102,103,104];refine yS 2<|yE 58 (.bool ((oneI l (((g15+g32)+g51)+g72) [97,98,99,100,101,102,103,104])==0)) ?_;cases hc98:((oneI l (((g15+g32)+g51)+g72) [97,98,99,100,101,102,103,104])==0)
      ·have dhc98:=hc98;try simp only [zbq] at dhc98
       refine yS 3<|yW 61 (zi ((((g15+g32)+g51)+g72)+1) (by omega) (by omega))<|reg_callC 193 [.int .i64 ((((g15+g32)+g51)+g72)+1),.string (⟨#[48,49,50,51,52,53,54,55,56,57]⟩),pz b1] (some 62) (by kernel_rfl) (c193 ya ((((g15+g32)+g51)+g72)+1) [48,49,50,51,52,53,54,55,56,57] (by omega) hl (by decide)) ?_;rintro _ w99 ⟨rfl,hm100⟩;refine ⟨_,rfl,?_⟩;have hr108:=oneI_rng l ((((g15+g32)+g51)+g72)+1) [48,49,50,51,52,53,54,55,56,57];exact yS 2<|ze<|zb () yt
      have dhc98:=hc98;try simp only [zbq] at dhc98
      exact yS 6<|ze<|zb () yt
     intro _ w85 hm86;have hf109:=At.on hf78 hm86;have hm110:=zt hm79 hm86;have hm111:=zt hm80 hm86;have hm112:=zt hm81 hm86;have hm113:=zt hm82 hm86;have hm114:=zt hm74 hm86;refine yC (((oneI l (((g15+g32)+g51)+g72) [97,98,99,100,101,102,103,104])==0)||((oneI l ((((g15+g32)+g51)+g72)+1) [48,49,50,51,52,53,54,55,56,57])==0)) (λhc116=>?_) λhc116=>?_
     ·have dhc116:=hc116;try simp only [zbq] at dhc116
      exact w_exit<|x_then<|x_hit<|n_then<|w_region<|yS 2<|yW 46 (zi (g72-1) (by omega) (by omega))<|yS 1<|ze<|zl (g72-1) ⟨by constructor<;>omega,hm114,hx77.trans (dn_step (by omega) (zzD_none hc116))⟩
     have dhc116:=hc116;try simp only [zbq] at dhc116
     refine w_skip<|zn<|yS 2<|yW 66 (zi ((((g15+g32)+g51)+g72)+2) (by omega) (by omega))<|yS 1<|zx<|yS 1<|zz<|w_cut (γ:=Int) (λg117=>[(1,pz b1),(3,.func (.func 193) #[] #[pz b1]),(4,.int .i64 g15),(5,.int .i64 g32),(6,.int .i64 g51),(7,.int .i64 g72),(8,.int .i64 (((g15+g32)+g51)+g72)),(9,.int .i64 ((((g15+g32)+g51)+g72)+2)),(10,.int .i64 g117)]) (λg117 w_=>Mod [] w85 w_/\g117=(ppI l ((((g15+g32)+g51)+g72)+2))) ?_ ?_
     ·refine w_cut (γ:=Unit) (λ_=>[(1,pz b1),(3,.func (.func 193) #[] #[pz b1]),(4,.int .i64 g15),(5,.int .i64 g32),(6,.int .i64 g51),(7,.int .i64 g72),(8,.int .i64 (((g15+g32)+g51)+g72)),(9,.int .i64 ((((g15+g32)+g51)+g72)+2)),(10,.int .i64 0),(77,.bool (((oneI l ((((g15+g32)+g51)+g72)+2) [61])==1)&&((oneI l (((((g15+g32)+g51)+g72)+2)+1) [81,82,66,78])==1)))]) (λ_ w_=>Mod [] w85 w_) ?_ ?_
      ·refine w_region<|yS 2<|reg_callC 193 [.int .i64 ((((g15+g32)+g51)+g72)+2),.string (⟨#[61]⟩),pz b1] (some 69) (by kernel_rfl) (c193 hf109 ((((g15+g32)+g51)+g72)+2) [61] (by omega) hl (by decide)) ?_;rintro _ w124 ⟨rfl,hm125⟩;refine ⟨_,rfl,?_⟩;have hr134:=oneI_rng l ((((g15+g32)+g51)+g72)+2) [61];refine yS 2<|yE 71 (.bool ((oneI l ((((g15+g32)+g51)+g72)+2) [61])==1)) ?_;cases hc135:((oneI l ((((g15+g32)+g51)+g72)+2) [61])==1)
       ·have dhc135:=hc135;try simp only [zbq] at dhc135
        exact yS 6<|ze<|zb () yt
       have dhc135:=hc135;try simp only [zbq] at dhc135
       refine yS 3<|yW 74 (zi (((((g15+g32)+g51)+g72)+2)+1) (by omega) (by omega))<|reg_callC 193 [.int .i64 (((((g15+g32)+g51)+g72)+2)+1),.string (⟨#[81,82,66,78]⟩),pz b1] (some 75) (by kernel_rfl) (c193 ya (((((g15+g32)+g51)+g72)+2)+1) [81,82,66,78] (by omega) hl (by decide)) ?_;rintro _ w136 ⟨rfl,hm137⟩;refine ⟨_,rfl,?_⟩;have hr146:=oneI_rng l (((((g15+g32)+g51)+g72)+2)+1) [81,82,66,78];exact yS 2<|ze<|zb () yt
      intro _ w121 hm122;have hz154:=hm122.size;refine yC (((oneI l ((((g15+g32)+g51)+g72)+2) [61])==1)&&((oneI l (((((g15+g32)+g51)+g72)+2)+1) [81,82,66,78])==1)) (λhc155=>?_) λhc155=>?_
      ·have dhc155:=hc155;try simp only [zbq] at dhc155
       exact w_region<|yS 1<|ze<|zb 2 ⟨yt,(by simp only [ppI,hc155,cond_true,cond_false])⟩
      have dhc155:=hc155;try simp only [zbq] at dhc155
      exact w_skip<|zb 0 ⟨yt,(by simp only [ppI,hc155,cond_true,cond_false])⟩
     rintro _ w118 ⟨hm119,rfl⟩;have hf156:=At.on hf109 hm119;have hm157:=zt hm110 hm119;have hm158:=zt hm111 hm119;have hm159:=zt hm112 hm119;have hm160:=zt hm113 hm119;have hm161:=zt hm114 hm119;have hz162:=hm119.size;refine w_block ?_;have hpp:=pp_rng l ((((g15+g32)+g51)+g72)+2);refine yP (γ:=Int) (λg163=>(g163+2).toNat) (λg163=>[(1,pz b1),(3,.func (.func 193) #[] #[pz b1]),(4,.int .i64 g15),(5,.int .i64 g32),(6,.int .i64 g51),(7,.int .i64 g72),(8,.int .i64 (((g15+g32)+g51)+g72)),(9,.int .i64 ((((g15+g32)+g51)+g72)+2)),(10,.int .i64 g163)]) (λg163 w_=>(-2<=g163/\g163<=(ppI l ((((g15+g32)+g51)+g72)+2)))/\Mod [] w118 w_/\zE l ((((g15+g32)+g51)+g72)+2) (ppI l ((((g15+g32)+g51)+g72)+2))=zE l ((((g15+g32)+g51)+g72)+2) g163) (ppI l ((((g15+g32)+g51)+g72)+2)) ⟨by constructor<;>omega,Mod.refl _ _,rfl⟩ ?_;rintro g163 w164 ⟨⟨h166,h167⟩,hm165,hx168⟩;have hf169:=At.on hf156 hm165;have hm170:=zt hm157 hm165;have hm171:=zt hm158 hm165;have hm172:=zt hm159 hm165;have hm173:=zt hm160 hm165;have hm174:=zt hm161 hm165;have hz175:=hm165.size;refine w_seq<|zw<|yS 2<|zz<|yC (decide (g163>=0)) (λhc176=>?_) λhc176=>?_
     ·have dhc176:=of_decide_eq_true hc176;refine w_skip<|n_then<|w_seq<|w_block<|zw<|yL 4 b1 0<|yW 85 (zi (((((g15+g32)+g51)+g72)+2)+g163) (by omega) (by omega))<|zk (some 86) (c194 l (((((g15+g32)+g51)+g72)+2)+g163) (by omega) (by omega) hl) ?_;intro w177 hm178;have hf179:=At.on hf169 hm178;have hm180:=zt hm170 hm178;have hm181:=zt hm171 hm178;have hm182:=zt hm172 hm178;have hm183:=zt hm173 hm178;have hm184:=zt hm174 hm178;have hm185:=zt hm165 hm178;have hz186:=hm178.size;refine zz<|zc (λhc187=>?_) λhc187=>?_
      ·have dhc187:=hc187;try simp only [zbq] at dhc187
       refine w_seq ?_;have hq1:=one_lt (Bool.or_eq_false_iff.1 hc116).2;refine w_tail 44 (by kernel_rfl) (by kernel_rfl)<|zqo 9 [rz 1 b1,iz 4 g15,iz 5 g32,iz 6 g51,iz 8 (((g15+g32)+g51)+g72),iz 9 ((((g15+g32)+g51)+g72)+2),iz 10 g163,(87,.string (bstr l)),(90,.string ((bstr l).extract 0 g15.toNat)),(91,.string (bstr l)),iz 92 g15,iz 95 (IntKind.i64.wrap (g15+g32))] [.cell ⟨b1,0,none⟩ (.string (bstr l)),.cell ⟨b1,0,none⟩ (.string (bstr l)),.prop (0<=g15/\g15<=(((bstr l).size:Nat):Int)),.cell ⟨b1,0,none⟩ (.string (bstr l))] (λ_ hC=>⟨At.cell (At.on hf179 hC) rfl,At.cell (At.on hf179 hC) rfl,(zh (by omega)),At.cell (At.on hf179 hC) rfl⟩) ?_;rw [zi (g15+g32) (by omega) (by omega)];refine zqo 5 [rz 1 b1,iz 4 g15,iz 5 g32,iz 6 g51,iz 8 (((g15+g32)+g51)+g72),iz 9 ((((g15+g32)+g51)+g72)+2),iz 10 g163,(87,.string (bstr l)),(90,.string ((bstr l).extract 0 g15.toNat)),(96,.string ((bstr l).extract g15.toNat (g15+g32).toNat)),(97,.string (bstr l)),iz 100 (IntKind.i64.wrap (g15+g32))] [.prop (0<=g15/\g15<=(g15+g32)/\(g15+g32)<=(((bstr l).size:Nat):Int)),.cell ⟨b1,0,none⟩ (.string (bstr l))] (λ_ hC=>⟨(zh (by omega)),At.cell (At.on hf179 hC) rfl⟩) ?_;rw [zi (g15+g32) (by omega) (by omega)];refine zq 3 [rz 1 b1,iz 4 g15,iz 5 g32,iz 6 g51,iz 8 (((g15+g32)+g51)+g72),iz 9 ((((g15+g32)+g51)+g72)+2),iz 10 g163,(87,.string (bstr l)),(90,.string ((bstr l).extract 0 g15.toNat)),(96,.string ((bstr l).extract g15.toNat (g15+g32).toNat)),(97,.string (bstr l)),iz 100 (g15+g32),iz 103 (IntKind.i64.wrap (g15+g32))] ?_;rw [zi (g15+g32) (by omega) (by omega)];refine zq 2 [rz 1 b1,iz 4 g15,iz 5 g32,iz 6 g51,iz 8 (((g15+g32)+g51)+g72),iz 9 ((((g15+g32)+g51)+g72)+2),iz 10 g163,(87,.string (bstr l)),(90,.string ((bstr l).extract 0 g15.toNat)),(96,.string ((bstr l).extract g15.toNat (g15+g32).toNat)),(97,.string (bstr l)),iz 100 (g15+g32),iz 105 (IntKind.i64.wrap ((g15+g32)+g51))] ?_;rw [zi ((g15+g32)+g51) (by omega) (by omega)];refine zqo 5 [rz 1 b1,iz 6 g51,iz 8 (((g15+g32)+g51)+g72),iz 9 ((((g15+g32)+g51)+g72)+2),iz 10 g163,(87,.string (bstr l)),(90,.string ((bstr l).extract 0 g15.toNat)),(96,.string ((bstr l).extract g15.toNat (g15+g32).toNat)),(106,.string ((bstr l).extract (g15+g32).toNat ((g15+g32)+g51).toNat)),(107,.string (bstr l)),iz 110 (IntKind.i64.wrap (g15+g32))] [.prop (0<=(g15+g32)/\(g15+g32)<=((g15+g32)+g51)/\((g15+g32)+g51)<=(((bstr l).size:Nat):Int)),.cell ⟨b1,0,none⟩ (.string (bstr l))] (λ_ hC=>⟨(zh (by omega)),At.cell (At.on hf179 hC) rfl⟩) ?_;rw [zi (g15+g32) (by omega) (by omega)];refine zq 2 [rz 1 b1,iz 8 (((g15+g32)+g51)+g72),iz 9 ((((g15+g32)+g51)+g72)+2),iz 10 g163,(87,.string (bstr l)),(90,.string ((bstr l).extract 0 g15.toNat)),(96,.string ((bstr l).extract g15.toNat (g15+g32).toNat)),(106,.string ((bstr l).extract (g15+g32).toNat ((g15+g32)+g51).toNat)),(107,.string (bstr l)),iz 112 (IntKind.i64.wrap ((g15+g32)+g51))] ?_;rw [zi ((g15+g32)+g51) (by omega) (by omega)];refine zqo 6 [rz 1 b1,iz 8 (((g15+g32)+g51)+g72),iz 9 ((((g15+g32)+g51)+g72)+2),iz 10 g163,(87,.string (bstr l)),(90,.string ((bstr l).extract 0 g15.toNat)),(96,.string ((bstr l).extract g15.toNat (g15+g32).toNat)),(106,.string ((bstr l).extract (g15+g32).toNat ((g15+g32)+g51).toNat)),(114,.string ((bstr l).extract ((g15+g32)+g51).toNat (((g15+g32)+g51)+g72).toNat)),(115,.string (bstr l)),iz 116 (((g15+g32)+g51)+g72),iz 118 (IntKind.i64.wrap ((((g15+g32)+g51)+g72)+1))] [.prop (0<=((g15+g32)+g51)/\((g15+g32)+g51)<=(((g15+g32)+g51)+g72)/\(((g15+g32)+g51)+g72)<=(((bstr l).size:Nat):Int)),.cell ⟨b1,0,none⟩ (.string (bstr l))] (λ_ hC=>⟨(zh (by omega)),At.cell (At.on hf179 hC) rfl⟩) ?_
       rw [zi ((((g15+g32)+g51)+g72)+1) (by omega) (by omega)];refine zqo 4 [rz 1 b1,iz 9 ((((g15+g32)+g51)+g72)+2),iz 10 g163,(87,.string (bstr l)),(90,.string ((bstr l).extract 0 g15.toNat)),(96,.string ((bstr l).extract g15.toNat (g15+g32).toNat)),(106,.string ((bstr l).extract (g15+g32).toNat ((g15+g32)+g51).toNat)),(114,.string ((bstr l).extract ((g15+g32)+g51).toNat (((g15+g32)+g51)+g72).toNat)),(119,.string ((bstr l).extract (((g15+g32)+g51)+g72).toNat ((((g15+g32)+g51)+g72)+1).toNat)),(120,.string (bstr l)),iz 122 (IntKind.i64.wrap ((((g15+g32)+g51)+g72)+1))] [.prop (0<=(((g15+g32)+g51)+g72)/\(((g15+g32)+g51)+g72)<=((((g15+g32)+g51)+g72)+1)/\((((g15+g32)+g51)+g72)+1)<=(((bstr l).size:Nat):Int)),.cell ⟨b1,0,none⟩ (.string (bstr l))] (λ_ hC=>⟨(zh (by omega)),At.cell (At.on hf179 hC) rfl⟩) ?_;rw [zi ((((g15+g32)+g51)+g72)+1) (by omega) (by omega)];refine zqo 7 [(87,.string (bstr l)),(90,.string ((bstr l).extract 0 g15.toNat)),(96,.string ((bstr l).extract g15.toNat (g15+g32).toNat)),(106,.string ((bstr l).extract (g15+g32).toNat ((g15+g32)+g51).toNat)),(114,.string ((bstr l).extract ((g15+g32)+g51).toNat (((g15+g32)+g51)+g72).toNat)),(119,.string ((bstr l).extract (((g15+g32)+g51)+g72).toNat ((((g15+g32)+g51)+g72)+1).toNat)),(124,.string ((bstr l).extract ((((g15+g32)+g51)+g72)+1).toNat ((((g15+g32)+g51)+g72)+2).toNat)),(125,.string (bstr l)),iz 126 ((((g15+g32)+g51)+g72)+2),iz 129 (IntKind.i64.wrap (((((g15+g32)+g51)+g72)+2)+g163))] [.prop (0<=((((g15+g32)+g51)+g72)+1)/\((((g15+g32)+g51)+g72)+1)<=((((g15+g32)+g51)+g72)+2)/\((((g15+g32)+g51)+g72)+2)<=(((bstr l).size:Nat):Int)),.cell ⟨b1,0,none⟩ (.string (bstr l))] (λ_ hC=>⟨(zh (by omega)),At.cell (At.on hf179 hC) rfl⟩) ?_;rw [zi (((((g15+g32)+g51)+g72)+2)+g163) (by omega) (by omega)];refine yQo 1 [.prop (0<=((((g15+g32)+g51)+g72)+2)/\((((g15+g32)+g51)+g72)+2)<=(((((g15+g32)+g51)+g72)+2)+g163)/\(((((g15+g32)+g51)+g72)+2)+g163)<=(((bstr l).size:Nat):Int))] (λ_ hC=>(zh (by omega)))<|q_end (by kernel_rfl) (λa ha w188 hm189=>(?_:Reg _ _ _ _ _ 44 _ w188) a ha);have hf190:=At.on hf179 hm189;have hm191:=zt hm180 hm189;have hm192:=zt hm181 hm189;have hm193:=zt hm182 hm189;have hm194:=zt hm183 hm189;have hm195:=zt hm184 hm189;have hm196:=zt hm185 hm189;have hz197:=hm189.size;refine reg_bslice (#[.string (bstr l),.string ((bstr l).extract 0 g15.toNat),.string ((bstr l).extract g15.toNat (g15+g32).toNat),.string ((bstr l).extract (g15+g32).toNat ((g15+g32)+g51).toNat),.string ((bstr l).extract ((g15+g32)+g51).toNat (((g15+g32)+g51)+g72).toNat),.string ((bstr l).extract (((g15+g32)+g51)+g72).toNat ((((g15+g32)+g51)+g72)+1).toNat),.string ((bstr l).extract ((((g15+g32)+g51)+g72)+1).toNat ((((g15+g32)+g51)+g72)+2).toNat),.string ((bstr l).extract ((((g15+g32)+g51)+g72)+2).toNat (((((g15+g32)+g51)+g72)+2)+g163).toNat),.string (⟨#[]⟩),.string (⟨#[]⟩)]) 9 10 (some 131) (by kernel_rfl) ?_;intro b198 w199 hn200;have ne201:b1≠b198:=hn200.ne hf190;have hb202:=Nat.le_trans hm191.size hn200.base;have hb203:=Nat.le_trans hm192.size hn200.base
       have hb204:=Nat.le_trans hm193.size hn200.base;have hb205:=Nat.le_trans hm194.size hn200.base;have hb206:=Nat.le_trans hm195.size hn200.base;have hb207:=Nat.le_trans hm196.size hn200.base;have hm208:=hn200.mod;have hm210:=zt hm191 hm208;have hz216:=hm208.size;have hf217:=hn200.at_;refine yS 1<|zz<|w_ret<|r_block<|r_then<|r_then<|r_block<|r_block<|r_then<|r_then<|r_block<|r_block<|r_then<|r_then<|r_block<|r_block<|r_then<|r_then<|r_block<|r_block<|r_then<|r_then<|r_block<|r_then ?_;have hzD:zzD l g15 g32 g51 g72=some (g15,g32,g51,g72,g163):=by rw [zzD_zE hc116,hx168,zE_some (by omega) hc187];rfl
       have hzC:zzC l g15 g32 g51=some (g15,g32,g51,g72,g163):=hx77.trans (dn_some (by omega) hzD);have hzB:zzB l g15 g32=some (g15,g32,g51,g72,g163):=hx56.trans (dn_some (by omega) hzC);have hzA:zzA l g15=some (g15,g32,g51,g72,g163):=hx37.trans (dn_some (by omega) hzB);have hzF:zzF l=some (g15,g32,g51,g72,g163):=hx20.trans (dn_some (by omega) hzA);exact y1 (⟨b198,rfl,hm210,by omega,at_cast hf217 (congrArg (λA=>Obj.cells A 9 (0,0)) (zz_move hz hzF (by omega) (by omega) (by omega) (by omega) (by omega)))⟩)
      have dhc187:=hc187;try simp only [zbq] at dhc187
      exact w_skip<|n_block<|n_then<|w_region<|yS 2<|yW 81 (zi (g163-2) (by omega) (by omega))<|yS 1<|ze<|zl (g163-2) ⟨by constructor<;>omega,hm185,hx168.trans (zE_step (by omega) (by omega) hc187)⟩
     have dhc176:=of_decide_eq_false hc176;exact w_exit<|x_then<|x_then<|x_hit<|n_block<|n_then<|w_region<|yS 2<|yW 46 (zi (g72-1) (by omega) (by omega))<|yS 1<|ze<|zl (g72-1) ⟨by constructor<;>omega,hm174,hx77.trans (dn_step (by omega) (by rw [zzD_zE hc116,hx168,zE_neg (by omega)];rfl))⟩
    have dhc84:=of_decide_eq_false hc84;exact w_exit<|x_then<|x_then<|x_hit<|n_block<|n_then<|w_region<|yS 2<|yW 35 (zi (g51-1) (by omega) (by omega))<|yS 1<|ze<|zl (g51-1) ⟨by constructor<;>omega,hm82,hx56.trans (dn_step (by omega) (hx77.trans (dn_neg (by omega))))⟩
   have dhc62:=of_decide_eq_false hc62;exact w_exit<|x_then<|x_then<|x_hit<|n_block<|n_then<|w_region<|yS 2<|yW 26 (zi (g32-1) (by omega) (by omega))<|yS 1<|ze<|zl (g32-1) ⟨by constructor<;>omega,hm60,hx37.trans (dn_step (by omega) (hx56.trans (dn_neg (by omega))))⟩
  have dhc42:=of_decide_eq_false hc42;exact w_exit<|x_then<|x_then<|x_hit<|n_block<|n_then<|w_region<|yS 2<|yW 19 (zi (g15-1) (by omega) (by omega))<|yS 1<|ze<|zl (g15-1) ⟨by constructor<;>omega,hm40,hx20.trans (dn_step (by omega) (hx37.trans (dn_neg (by omega))))⟩
 have dhc24:=of_decide_eq_false hc24;refine w_exit<|x_then<|x_then<|x_hit<|n_then<|w_seq<|zw<|reg_bslice (#[.string (⟨#[79,45,79,45,79]⟩),.string (⟨#[79,45,79]⟩)]) 9 2 (some 132) (by kernel_rfl) ?_;intro b218 w219 hn220;have ne221:b1≠b218:=hn220.ne hf21;have hb222:=Nat.le_trans hm22.size hn220.base;have hm223:=hn220.mod;have hf224:=At.on hf21 hm223;have hm225:=zt hm22 hm223;have hz226:=hm223.size;have hf227:=hn220.at_;refine yS 2<|zz<|w_block<|yP (γ:=Int) (λg228=>(2-g228).toNat) (λ(g228:Int)=>[(1,pz b1),(132,.slice (some ⟨b218,0,none⟩) 2 2),(133,.int .i64 ((2:Nat):Int)),(134,.int .i64 g228)]) (λ(g228:Int) w_=>(0<=g228/\g228<=2)/\Mod [] w219 w_/\(∀i:Int,0<=i->i<g228->okK l i=false)) 0 ⟨by omega,Mod.refl _ _,(λi h0 h1=>absurd h1 (by omega))⟩ ?_;rintro g228 w229 ⟨⟨h231,h232⟩,hm230,hx233⟩;have hf234:=At.on hf224 hm230;have hf235:=At.on hf227 hm230;have hm236:=zt hm225 hm230;have hz237:=hm230.size;refine zw<|yS 1<|zz<|w_seq<|yC (decide (g228<((2:Nat):Int))) (λhc238=>?_) λhc238=>?_
 ·have dhc238:=of_decide_eq_true hc238;refine w_skip<|n_then<|w_seq<|w_block<|zw<|yO 3 [.prop (0<=g228/\g228<((2:Nat):Int)),.cell ⟨b218,(0+g228.toNat*1),none⟩ (.string (bstr (oooS g228)))] (⟨(zh (by omega)),At.cell hf235 (ooo_cell (by omega))⟩)<|zz<|w_cut (γ:=Unit) (λ_=>[(1,pz b1),(12,.string (bstr (oooS g228))),(132,.slice (some ⟨b218,0,none⟩) 2 2),(133,.int .i64 ((2:Nat):Int)),(134,.int .i64 g228),(156,.bool (((decide ((((bstr l).size:Nat):Int)>=(((bstr (oooS g228)).size:Nat):Int)))&&(((bstr l).extract 0 (((bstr (oooS g228)).size:Nat):Int).toNat).toList==(bstr (oooS g228)).toList))&&(tailB (l.drop (((bstr (oooS g228)).size:Nat):Int).toNat))))]) (λ_ w_=>Mod [] w229 w_) ?_ ?_
  ·refine w_region<|yL 6 b1 0<|yE 143 (.bool (decide ((((bstr l).size:Nat):Int)>=(((bstr (oooS g228)).size:Nat):Int)))) ?_;cases hc242:(decide ((((bstr l).size:Nat):Int)>=(((bstr (oooS g228)).size:Nat):Int)))
   ·have dhc242:=hc242;try simp only [zbq] at dhc242
    exact yS 13<|ze<|zb () yt
   have dhc242:=hc242;try simp only [zbq] at dhc242
   refine yO 8 [.cell ⟨b1,0,none⟩ (.string (bstr l)),.prop (0<=(((bstr (oooS g228)).size:Nat):Int)/\(((bstr (oooS g228)).size:Nat):Int)<=(((bstr l).size:Nat):Int))] (⟨At.cell hf234 rfl,(zh (by omega))⟩)<|yE 151 (.bool (((bstr l).extract 0 (((bstr (oooS g228)).size:Nat):Int).toNat).toList==(bstr (oooS g228)).toList)) ?_;cases hc243:(((bstr l).extract 0 (((bstr (oooS g228)).size:Nat):Int).toNat).toList==(bstr (oooS g228)).toList)
   ·have dhc243:=hc243;try simp only [zbq] at dhc243
    exact yS 5<|ze<|zb () yt
   have dhc243:=hc243;try simp only [zbq] at dhc243
   refine yL 3 b1 0<|zk (some 155) (c194 l (((bstr (oooS g228)).size:Nat):Int) (by omega) (by omega) hl) ?_;intro w244 hm245;have hz250:=hm245.size;exact yS 1<|ze<|zb () yt
  intro _ w239 hm240;have hf251:=At.on hf234 hm240;have hf252:=At.on hf235 hm240;have hm253:=zt hm236 hm240;have hm254:=zt hm230 hm240;have hz255:=hm240.size;refine yC (((decide ((((bstr l).size:Nat):Int)>=(((bstr (oooS g228)).size:Nat):Int)))&&(((bstr l).extract 0 (((bstr (oooS g228)).size:Nat):Int).toNat).toList==(bstr (oooS g228)).toList))&&(tailB (l.drop (((bstr (oooS g228)).size:Nat):Int).toNat))) (λhc256=>?_) λhc256=>?_
  ·have dhc256:=hc256;try simp only [zbq] at dhc256
   refine zw<|yL 2 b1 0<|reg_bslice (#[.string (bstr l),.string (⟨#[]⟩),.string (⟨#[]⟩),.string (⟨#[]⟩),.string (⟨#[]⟩),.string (⟨#[]⟩),.string (⟨#[]⟩),.string (⟨#[]⟩),.string (bstr (oooS g228)),.string (⟨#[]⟩)]) 9 10 (some 159) (by kernel_rfl) ?_;intro b257 w258 hn259;have ne260:b1≠b257:=hn259.ne hf251;have ne261:b218≠b257:=hn259.ne hf252;have hb262:=Nat.le_trans hm253.size hn259.base;have hb263:=Nat.le_trans hm254.size hn259.base;have hm264:=hn259.mod;have hm267:=zt hm253 hm264;have hz269:=hm264.size;have hf270:=hn259.at_;exact yS 1<|zz<|w_ret<|r_block<|r_then<|r_then<|r_block<|r_then<|y1 (⟨b257,rfl,hm267,by omega,at_cast hf270 (congrArg (λA=>Obj.cells A 9 (0,0)) (zz_cast hz (hx20.trans (dn_neg (by omega))) ⟨by omega,by omega⟩ (λh=>hx233 0 (by omega) (by omega)) hc256))⟩)
  have dhc256:=hc256;try simp only [zbq] at dhc256
  exact w_skip<|n_block<|n_then<|w_region<|yS 1<|yW 160 (zi (g228+1) (by omega) (by omega))<|yS 1<|ze<|zl (g228+1) ⟨by omega,hm254,(forall_step hx233 hc256)⟩
 have dhc238:=of_decide_eq_false hc238;exact w_exit<|x_then<|x_then<|x_hit<|zn<|yS 1<|zz<|w_ret<|ret1 rfl rfl (by exfalso;have hz1:zzF l=none:=hx20.trans (dn_neg (by omega));unfold zzR at hz;rw [hz1] at hz;rw [hx233 0 (by omega) (by omega),hx233 1 (by omega) (by omega)] at hz;cases hz)
theorem At.kept{k b:Nat}{c:Array Value}{T:TypeId}{z:Nat×Nat}{w w':World}(h:At w k (.cells c T z))(hk:Lib.OthersKept 5 (some b) w w')(h5:T≠5)(hb:k≠b):At w' k (.cells c T z):=
 ⟨hk k _ h.e (by simpa using hb) (λc' z' e=>by injection e with _ e2;exact h5 e2)⟩
theorem Bld.cells{B b:Nat}{l:List UInt8}{w:World}(h:Bld B b l w):∃x y,At w b (.cells #[x,y] 150 (0,0)):=by
 rcases h with ⟨_,v,hb,_⟩|⟨_,v,hb,_⟩
 ·exact ⟨_,_,⟨hb⟩⟩
 exact ⟨_,_,⟨hb⟩⟩
theorem Bld.ne{B b k:Nat}{l:List UInt8}{w:World}{c:Array Value}{T:TypeId}{z:Nat×Nat}(h:Bld B b l w)(hk:At w k (.cells c T z))(h1:T≠150):k≠b:=by
 obtain ⟨x,y,hb⟩:=h.cells;rintro rfl;have e:=hk.inj hb;injection e with _ e2;exact h1 e2
theorem Own.kept{B b b0 size n cap:Nat}{e:TypeId}{l:List UInt8}{ao:Option Addr}{xs:List Value}{w w':World}(h:Own w b0 e size ao n cap xs)(hk:Lib.OthersKept 5 (Option.some b) w w')(hB:Bld B b l w)(h5:e≠5)(h1:e≠150):Own w' b0 e size ao n cap xs:=by
 obtain ⟨⟨h0,h2⟩⟩:=h;refine ⟨h0,?_⟩;rcases h2 with h2|⟨g,cap',cur,hv,hb,hg,rest⟩
 ·exact .inl h2
 exact .inr ⟨g,cap',cur,hv,hb,(At.kept ⟨hg⟩ hk h5 (Bld.ne hB ⟨hg⟩ h1)).e,rest⟩
theorem cWSk{w0 w:World}{b:Nat}{l t:List UInt8}(h0:Mod [] w0 w)(h:Bld w0.heap.size b l w)(hl:l.length+t.length<=100000000):
  Calls prog 113 #[pz b,.string (bstr t)] w (λe w'=>e=.returned (.tuple #[.int .i64 (bstr t).size,.nilIface])/\Mod [] w0 w'/\Bld w0.heap.size b (l++t) w'/\Lib.OthersKept 5 (some b) w w'):=
 (Tryz.bWriteString w0.heap.size b _ (bstr t) w h (by simp only [Lib.byteCells,List.length_map,bstr_size];omega) h0.size).mono λe w' ⟨he,hb,hbl,hk⟩=>⟨he,h0.of_below' hbl,Or.inr (by rw [strCells_b,byteCells_append] at hb;exact hb),hk⟩
theorem cBSk{w0 w:World}{b:Nat}{l:List UInt8}(h0:Mod [] w0 w)(h:Bld w0.heap.size b l w):
  Calls prog 115 #[pz b] w (λe w'=>e=.returned (.string (bstr l))/\Mod [] w0 w'/\Bld w0.heap.size b l w'/\Lib.OthersKept 5 (some b) w w'):=
 (Tryz.Builder_String_any_k w0.heap.size b l w h h0.size).mono λe w' ⟨he,hb,hbl,hk⟩=>⟨he,h0.of_below' hbl,hb,hk⟩
def partsV(q:Parts):Array Value:=#[.string (bstr q.a),.string (bstr q.b),.string (bstr q.c),.string (bstr q.d),.string (bstr q.e),.string (bstr q.f),.string (bstr q.g),.string (bstr q.h)]
def cleanP(q:Parts):List UInt8:=q.a++q.b++q.c++q.d++q.e++q.f++q.g++q.h
structure Short(q:Parts):Prop where
 a:q.a.length<=100000
 b:q.b.length<=100000
 c:q.c.length<=100000
 d:q.d.length<=100000
 e:q.e.length<=100000
 f:q.f.length<=100000
 g:q.g.length<=100000
 h:q.h.length<=100000
set_option maxHeartbeats 4000000 in
theorem c178{w:World}(l:List UInt8)(q:Parts)(hz:zzR l=some q)(hl:l.length<=100000):
  CR 178 [.string (bstr l)] w (.tuple #[.agg (partsV q),.nilIface]):=by
 refine en func178 ntmps178 ?_;refine zw<|zA (#[.string (⟨#[]⟩),.string (⟨#[]⟩),.string (⟨#[]⟩),.string (⟨#[]⟩),.string (⟨#[]⟩),.string (⟨#[]⟩),.string (⟨#[]⟩),.string (⟨#[]⟩)]) 220 (some 2) fun b1 w2 hn3=>zs 1 [(0,.string (bstr l)),rz 2 b1]<|zx ?_;refine zs 1 [rz 2 b1,(5,.string (bstr l))]<|zC (some 6) (c189 l q hz hl) ?_;rintro _ w8 ⟨g10,rfl,hm9,hb11,hf12⟩;refine ⟨_,rfl,?_⟩;refine zs 1 [rz 2 b1,(4,.slice (some ⟨g10,0,none⟩) 10 10)]<|zz<|w_seq<|zw ?_;refine zs 3 [rz 2 b1,(4,.slice (some ⟨g10,0,none⟩) 10 10),(9,.bool (((10:Nat):Int)==0))]<|zz ?_;have hc15:(((10:Nat):Int)==0)=false:=rfl;refine w_cond (b:=(((10:Nat):Int)==0)) rfl (λhx=>absurd (hc15.symm.trans hx) (by decide)) (λ_=>?_);refine w_skip<|n_then<|w_seq<|w_tail 25 (by kernel_rfl) (by kernel_rfl) ?_;refine zqo 25 [rz 2 b1,(36,.agg #[.string (bstr q.a),.string (bstr q.b),.string (bstr q.c),.string (bstr q.d),.string (bstr q.e),.string (bstr q.f),.string (bstr q.g),.string (bstr q.h)])] [.prop (0<=(1:Int)/\1<((10:Nat):Int)),.cell ⟨g10,1,none⟩ (.string (bstr q.a)),.prop (0<=(2:Int)/\2<((10:Nat):Int)),.cell ⟨g10,2,none⟩ (.string (bstr q.b)),.prop (0<=(3:Int)/\3<((10:Nat):Int)),.cell ⟨g10,3,none⟩ (.string (bstr q.c)),.prop (0<=(4:Int)/\4<((10:Nat):Int)),.cell ⟨g10,4,none⟩ (.string (bstr q.d)),.prop (0<=(5:Int)/\5<((10:Nat):Int)),.cell ⟨g10,5,none⟩ (.string (bstr q.e)),.prop (0<=(6:Int)/\6<((10:Nat):Int)),.cell ⟨g10,6,none⟩ (.string (bstr q.f)),.prop (0<=(7:Int)/\7<((10:Nat):Int)),.cell ⟨g10,7,none⟩ (.string (bstr q.g)),.prop (0<=(8:Int)/\8<((10:Nat):Int)),.cell ⟨g10,8,none⟩ (.string (bstr q.h))] (λ_ hC=>⟨(zh (by omega)),At.cell (At.on hf12 hC) rfl,(zh (by omega)),At.cell (At.on hf12 hC) rfl,(zh (by omega)),At.cell (At.on hf12 hC) rfl,(zh (by omega)),At.cell (At.on hf12 hC) rfl,(zh (by omega)),At.cell (At.on hf12 hC) rfl,(zh (by omega)),At.cell (At.on hf12 hC) rfl,(zh (by omega)),At.cell (At.on hf12 hC) rfl,(zh (by omega)),At.cell (At.on hf12 hC) rfl⟩)<|q_end (by kernel_rfl) (λa ha w16 hm17=>(?_:Reg _ _ _ _ _ 25 _ w16) a ha);refine zS b1 0 (.agg #[.string (bstr q.a),.string (bstr q.b),.string (bstr q.c),.string (bstr q.d),.string (bstr q.e),.string (bstr q.f),.string (bstr q.g),.string (bstr q.h)]) fun w21 hu22=>zs 1 [rz 2 b1,(3,.nilIface)]<|zz<|w_ret ?_;exact retc2 results178 rfl (by kernel_rfl) (by kernel_rfl) (At.row ya rfl) rfl (⟨rfl,yt⟩)
theorem c179{w:World}(q:Parts)(hs:Short q):
  CR 179 [.agg #[.string (bstr q.a),.string (bstr q.b),.string (bstr q.c),.string (bstr q.d),.string (bstr q.e),.string (bstr q.f),.string (bstr q.g),.string (bstr q.h)]] w (.string (bstr (cleanP q))):=by
 have hm0:Mod [] w w:=Mod.refl _ _;refine en func179 ntmps179 ?_;refine zw<|zA (#[.string (bstr q.a),.string (bstr q.b),.string (bstr q.c),.string (bstr q.d),.string (bstr q.e),.string (bstr q.f),.string (bstr q.g),.string (bstr q.h)]) 220 (some 1) ?_;intro b1 w2 hn3;have hb4:=Nat.le_trans hm0.size hn3.base;have hm5:=hn3.mod;have hm6:=zt hm0 hm5;have hf7:=hn3.at_;refine zs 1 [rz 1 b1]<|zx<|zA (#[.pointer none,.slice none 0 0]) 150 (some 4) ?_;intro b8 w9 hn10;have hb11:=Nat.le_trans hm6.size hn10.base;have hm12:=hn10.mod;have hf13:=At.on hf7 hm12;have hm14:=zt hm6 hm12;have hf15:=hn10.at_;refine zs 1 [rz 1 b1,rz 3 b8]<|zx<|zs 1 [rz 1 b1,rz 3 b8,rz 5 b8]<|zC (some 6) (c183 hf15) ?_;rintro _ w16 ⟨rfl,hm17,hf18⟩;refine ⟨_,rfl,?_⟩;have hf19:=At.keep hf13 hm17 (not_mem1 (At.ne hf13 hf15 rfl));have hm20:=Mod.fresh' hm14 hm17 (by simp<;>omega);refine ze ?_;have hbl21:Bld w.heap.size b8 [] w16:=Bld.new hf18 (by omega);refine zn<|zo 3 [rz 1 b1,rz 3 b8,rz 7 b8,(9,.string (bstr q.a))] [.cell ⟨b1,0,none⟩ (.string (bstr q.a))] (At.cell hf19 rfl)<|zC (some 10) (cWSk (t:=q.a) hm20 hbl21 (by have h1:=hs.a;have h2:=hs.b;have h3:=hs.c;have h4:=hs.d;have h5:=hs.e;have h6:=hs.f;have h7:=hs.g;have h8:=hs.h;simp only [List.length_append,List.length_nil];omega)) ?_;rintro _ w22 ⟨rfl,hm23,hbl24,hk25⟩;refine ⟨_,rfl,?_⟩;have hf26:=At.kept hf19 hk25 (by decide) (Bld.ne hbl21 hf19 (by decide));refine zx<|zo 3 [rz 1 b1,rz 3 b8,rz 11 b8,(13,.string (bstr q.b))] [.cell ⟨b1,1,none⟩ (.string (bstr q.b))] (At.cell hf26 rfl)<|zC (some 14) (cWSk (t:=q.b) hm23 hbl24 (by have h1:=hs.a;have h2:=hs.b;have h3:=hs.c;have h4:=hs.d;have h5:=hs.e;have h6:=hs.f;have h7:=hs.g;have h8:=hs.h;simp only [List.length_append,List.length_nil];omega)) ?_;rintro _ w27 ⟨rfl,hm28,hbl29,hk30⟩;refine ⟨_,rfl,?_⟩;have hf31:=At.kept hf26 hk30 (by decide) (Bld.ne hbl24 hf26 (by decide));refine zx<|zo 3 [rz 1 b1,rz 3 b8,rz 15 b8,(17,.string (bstr q.c))] [.cell ⟨b1,2,none⟩ (.string (bstr q.c))] (At.cell hf31 rfl)<|zC (some 18) (cWSk (t:=q.c) hm28 hbl29 (by have h1:=hs.a;have h2:=hs.b;have h3:=hs.c;have h4:=hs.d;have h5:=hs.e;have h6:=hs.f;have h7:=hs.g;have h8:=hs.h;simp only [List.length_append,List.length_nil];omega)) ?_;rintro _ w32 ⟨rfl,hm33,hbl34,hk35⟩;refine ⟨_,rfl,?_⟩;have hf36:=At.kept hf31 hk35 (by decide) (Bld.ne hbl29 hf31 (by decide));refine zx<|zo 3 [rz 1 b1,rz 3 b8,rz 19 b8,(21,.string (bstr q.d))] [.cell ⟨b1,3,none⟩ (.string (bstr q.d))] (At.cell hf36 rfl)<|zC (some 22) (cWSk (t:=q.d) hm33 hbl34 (by have h1:=hs.a;have h2:=hs.b;have h3:=hs.c;have h4:=hs.d;have h5:=hs.e;have h6:=hs.f;have h7:=hs.g;have h8:=hs.h;simp only [List.length_append,List.length_nil];omega)) ?_;rintro _ w37 ⟨rfl,hm38,hbl39,hk40⟩;refine ⟨_,rfl,?_⟩;have hf41:=At.kept hf36 hk40 (by decide) (Bld.ne hbl34 hf36 (by decide));refine zx<|zo 3 [rz 1 b1,rz 3 b8,rz 23 b8,(25,.string (bstr q.e))] [.cell ⟨b1,4,none⟩ (.string (bstr q.e))] (At.cell hf41 rfl) ?_
 refine zC (some 26) (cWSk (t:=q.e) hm38 hbl39 (by have h1:=hs.a;have h2:=hs.b;have h3:=hs.c;have h4:=hs.d;have h5:=hs.e;have h6:=hs.f;have h7:=hs.g;have h8:=hs.h;simp only [List.length_append,List.length_nil];omega)) ?_;rintro _ w42 ⟨rfl,hm43,hbl44,hk45⟩;refine ⟨_,rfl,?_⟩;have hf46:=At.kept hf41 hk45 (by decide) (Bld.ne hbl39 hf41 (by decide));refine zx<|zo 3 [rz 1 b1,rz 3 b8,rz 27 b8,(29,.string (bstr q.f))] [.cell ⟨b1,5,none⟩ (.string (bstr q.f))] (At.cell hf46 rfl)<|zC (some 30) (cWSk (t:=q.f) hm43 hbl44 (by have h1:=hs.a;have h2:=hs.b;have h3:=hs.c;have h4:=hs.d;have h5:=hs.e;have h6:=hs.f;have h7:=hs.g;have h8:=hs.h;simp only [List.length_append,List.length_nil];omega)) ?_;rintro _ w47 ⟨rfl,hm48,hbl49,hk50⟩;refine ⟨_,rfl,?_⟩;have hf51:=At.kept hf46 hk50 (by decide) (Bld.ne hbl44 hf46 (by decide));refine zx<|zo 3 [rz 1 b1,rz 3 b8,rz 31 b8,(33,.string (bstr q.g))] [.cell ⟨b1,6,none⟩ (.string (bstr q.g))] (At.cell hf51 rfl)<|zC (some 34) (cWSk (t:=q.g) hm48 hbl49 (by have h1:=hs.a;have h2:=hs.b;have h3:=hs.c;have h4:=hs.d;have h5:=hs.e;have h6:=hs.f;have h7:=hs.g;have h8:=hs.h;simp only [List.length_append,List.length_nil];omega)) ?_;rintro _ w52 ⟨rfl,hm53,hbl54,hk55⟩;refine ⟨_,rfl,?_⟩;have hf56:=At.kept hf51 hk55 (by decide) (Bld.ne hbl49 hf51 (by decide));refine zx<|zo 3 [rz 3 b8,rz 35 b8,(37,.string (bstr q.h))] [.cell ⟨b1,7,none⟩ (.string (bstr q.h))] (At.cell hf56 rfl)<|zC (some 38) (cWSk (t:=q.h) hm53 hbl54 (by have h1:=hs.a;have h2:=hs.b;have h3:=hs.c;have h4:=hs.d;have h5:=hs.e;have h6:=hs.f;have h7:=hs.g;have h8:=hs.h;simp only [List.length_append,List.length_nil];omega)) ?_;rintro _ w57 ⟨rfl,hm58,hbl59,hk60⟩;refine ⟨_,rfl,?_⟩;refine zx<|zs 1 [rz 39 b8]<|zC (some 40) (cBSk hm58 hbl59) ?_;rintro _ w62 ⟨rfl,hm63,hbl64,hk65⟩;refine ⟨_,rfl,?_⟩;exact zs 1 [(2,.string (bstr (((((((([]++q.a)++q.b)++q.c)++q.d)++q.e)++q.f)++q.g)++q.h)))]<|zz<|w_ret<|ret1 rfl rfl (⟨ret_str (by unfold cleanP;rfl),hm63⟩)
def cls(x:UInt8):Nat:=
 if x∈[97,98,99,100,101,102,103,104] then 1 else if x∈[48,49,50,51,52,53,54,55,56,57] then 2 else if x∈[81,82,66,78] then 3 else if x∈[75,80] then 4 else
 if x=120 then 5 else if x=61 then 6 else if x=43\/x=35\/x=33\/x=63 then 7 else if x=46 then 9 else 8
def setK(k:Nat):List UInt8:=if k=0 then [82,78,66,81,75,80] else if k=1 then [97,98,99,100,101,102,103,104] else if k=2 then [48,49,50,51,52,53,54,55,56,57] else if k=3 then [120] else if k=4 then [61] else [81,82,66,78]
def inC(k c:Nat):Bool:=if k=0 then c==3||c==4 else if k=1 then c==1 else if k=2 then c==2 else if k=3 then c==5 else if k=4 then c==6 else c==3
def clsChk:Bool:=(List.range 256).all λn=>((List.range 6).all λk=>decide (UInt8.ofNat n∈setK k)==inC k (cls (UInt8.ofNat n)))&&
 ((decide (UInt8.ofNat n=43\/UInt8.ofNat n=35\/UInt8.ofNat n=33\/UInt8.ofNat n=63)==(cls (UInt8.ofNat n)==7))&&(decide (UInt8.ofNat n=46)==(cls (UInt8.ofNat n)==9)))
theorem clsChk_ok:clsChk=true:=by decide+kernel
theorem cls_get(x:UInt8):(∀k,k<6->(x∈setK k↔inC k (cls x)=true))/\((x=43\/x=35\/x=33\/x=63)↔cls x=7)/\(x=46↔cls x=9):=by
 have h:=List.all_eq_true.1 clsChk_ok x.toNat (List.mem_range.2 x.toNat_lt);rw [show UInt8.ofNat x.toNat=x from UInt8.toNat_inj.1 (by rw [UInt8.toNat_ofNat'];have:=x.toNat_lt;omega)] at h;simp only [Bool.and_eq_true,List.all_eq_true,List.mem_range,beq_iff_eq] at h;obtain ⟨h1,h2,h3⟩:=h;refine ⟨λk hk=>?_,?_,?_⟩
 · rw [←h1 k hk,decide_eq_true_eq]
 · rw [←decide_eq_true_eq (p:=(x=43\/x=35\/x=33\/x=63)),h2,beq_iff_eq]
 rw [←decide_eq_true_eq (p:=(x=46)),h3,beq_iff_eq]
def Oc(c:List Nat)(at_:Int)(k:Nat):Int:=if at_<(c.length:Int) then (if inC k (c.getD at_.toNat 0)=true then 1 else 0) else 0
def Tc(c:List Nat)(n:Nat):Bool:=(c.drop n).all (·==7)
theorem one_c(l:List UInt8)(at_:Int){k:Nat}(hk:k<6):oneI l at_ (setK k)=Oc (l.map cls) at_ k:=by
 unfold oneI Oc;rw [List.length_map];by_cases h:at_<(l.length:Int)
 · rw [if_pos h,if_pos h];by_cases h2:at_.toNat<l.length
   · have e:(l.map cls).getD at_.toNat 0=cls (l.getD at_.toNat 0):=by
      rw [List.getD_eq_getElem?_getD,List.getElem?_map,List.getElem?_eq_getElem h2,List.getD_eq_getElem?_getD,List.getElem?_eq_getElem h2];rfl
     rw [e];by_cases h3:l.getD at_.toNat 0∈setK k
     · rw [if_pos h3,if_pos (((cls_get _).1 k hk).1 h3)]
     rw [if_neg h3,if_neg (λhh=>h3 (((cls_get _).1 k hk).2 hh))]
   rw [List.getD_eq_getElem?_getD,List.getElem?_eq_none (by omega),List.getD_eq_getElem?_getD,List.getElem?_eq_none (by rw [List.length_map];omega),Option.getD_none,Option.getD_none];rcases (by omega:k=0\/k=1\/k=2\/k=3\/k=4\/k=5) with rfl|rfl|rfl|rfl|rfl|rfl<;>decide
 rw [if_neg h,if_neg h]
theorem tail_c:∀l:List UInt8,(∀x∈l,cls x≠9)->tailB l=(l.map cls).all (·==7)
 |[],_=>by rw [tailB];rfl
 |x::r,h=>by
  have ih:=tail_c r λy hy=>h y (List.mem_cons_of_mem _ hy);rw [tailB,List.map_cons,List.all_cons];by_cases hx:x=43\/x=35\/x=33\/x=63
  · rw [if_pos hx,ih,beq_iff_eq.2 ((cls_get x).2.1.1 hx),Bool.true_and]
  rw [if_neg hx,beq_eq_false_iff_ne.2 (λe=>hx ((cls_get x).2.1.2 e)),Bool.false_and,if_neg];intro e;cases r with
  |nil=>simp at e
  |cons y r=>
    simp only [List.take_succ_cons,List.cons.injEq] at e;exact h y (by simp) ((cls_get y).2.2.1 e.2.1)
section
variable(O:Int->Nat->Int)(T:Nat->Bool)
def gE(en p:Int):Option Int:=if p<0 then none else if T (en+p).toNat then some p else if p<2 then none else if T (en+(p-2)).toNat then some (p-2) else none
def gP(en:Int):Int:=bif (O en 4==1)&&(O (en+1) 5==1) then 2 else 0
def gD(a b c d:Int):Option (Int×Int×Int×Int×Int):=
  bif (O (a+b+c+d) 1==0)||(O (a+b+c+d+1) 2==0) then none else (gE T (a+b+c+d+2) (gP O (a+b+c+d+2))).map λp=>(a,b,c,d,p)
def gC(a b c:Int):=dn (O (a+b+c) 3) (gD O T a b c)
def gB(a b:Int):=dn (O (a+b) 2) (gC O T a b)
def gA(a:Int):=dn (O a 1) (gB O T a)
def gF:=dn (O 0 0) (gA O T)
end
theorem zz_g(l:List UInt8):zzF l=gF (λat_ k=>oneI l at_ (setK k)) (λn=>tailB (l.drop n)):=rfl
theorem g_congr{O O':Int->Nat->Int}{T T':Nat->Bool}(h:∀a k,k<6->O a k=O' a k)(ht:∀n,T n=T' n):gF O T=gF O' T':=by
 have e0:T=T':=funext ht;subst e0;have e1:gP O=gP O':=by funext en;unfold gP;rw [h _ 4 (by decide),h _ 5 (by decide)]
 have e2:gD O T=gD O' T:=by funext a b c d;unfold gD;rw [e1,h _ 1 (by decide),h _ 2 (by decide)]
 have e3:gC O T=gC O' T:=by funext a b c;unfold gC;rw [e2,h _ 3 (by decide)]
 have e4:gB O T=gB O' T:=by funext a b;unfold gB;rw [e3,h _ 2 (by decide)]
 have e5:gA O T=gA O' T:=by funext a;unfold gA;rw [e4,h _ 1 (by decide)]
 unfold gF;rw [e5,h _ 0 (by decide)]
theorem zz_c{l:List UInt8}(h:∀x∈l,cls x≠9):zzF l=gF (Oc (l.map cls)) (Tc (l.map cls)):=by
 rw [zz_g];refine g_congr (λa k hk=>one_c l a hk) λn=>?_;unfold Tc;rw [←List.map_drop];exact tail_c _ λx hx=>h x (List.mem_of_mem_drop hx)
def C0:List (List Nat):=[[],[3],[4]]
def C1:List (List Nat):=[[],[1]]
def C2:List (List Nat):=[[],[2]]
def C5:List (List Nat):=[[],[5]]
def C6:List (List Nat):=[[],[6,3]]
def C7:List (List Nat):=[[],[7]]
def formChk:Bool:=C0.all λa=>C1.all λb=>C2.all λc=>C5.all λd=>C6.all λg=>C7.all λs=>
 gF (Oc (a++b++c++d++[1,2]++g++s)) (Tc (a++b++c++d++[1,2]++g++s))==some ((a.length:Int),(b.length:Int),(c.length:Int),(d.length:Int),(g.length:Int))&&
 (a++b++c++d++[1,2]++g++s).all (·!=9)
theorem formChk_ok:formChk=true:=by decide+kernel
theorem sub_mid(x y z:List UInt8){i n:Int}(hi:i=x.length)(hn:n=y.length):subL (x++y++z) i n=y:=by
 subst hi;subst hn;unfold subL;rw [Int.toNat_natCast,Int.toNat_natCast,List.append_assoc,List.drop_left,List.take_left]
structure Form(q:Parts)(e f:UInt8)(s:List UInt8):Prop where
 a:q.a.map cls∈C0
 b:q.b.map cls∈C1
 c:q.c.map cls∈C2
 d:q.d.map cls∈C5
 e:q.e=[e]/\cls e=1
 f:q.f=[f]/\cls f=2
 g:q.g.map cls∈C6
 h:q.h=[]
 s:s.map cls∈C7
theorem zz_form{q:Parts}{e f:UInt8}{s:List UInt8}(h:Form q e f s):zzR (q.a++q.b++q.c++q.d++[e,f]++q.g++s)=some q:=by
 have hk:=List.all_eq_true.1 (List.all_eq_true.1 (List.all_eq_true.1 (List.all_eq_true.1 (List.all_eq_true.1 (List.all_eq_true.1 formChk_ok _ h.a) _ h.b) _ h.c) _ h.d) _ h.g) _ h.s;have em:(q.a++q.b++q.c++q.d++[e,f]++q.g++s).map cls=q.a.map cls++q.b.map cls++q.c.map cls++q.d.map cls++[1,2]++q.g.map cls++s.map cls:=by
  simp only [List.map_append,List.map_cons,List.map_nil,h.e.2,h.f.2]
 rw [Bool.and_eq_true,←em,beq_iff_eq,List.all_eq_true] at hk;simp only [List.length_map] at hk;have h9:∀x∈(q.a++q.b++q.c++q.d++[e,f]++q.g++s),cls x≠9:=λx hx=>by
  have:=hk.2 (cls x) (List.mem_map.2 ⟨x,hx,rfl⟩);simpa using this
 unfold zzR;rw [zz_c h9,hk.1];show some (partsOf _ _ _ _ _ _)=_;congr 1;obtain ⟨a,b,c,d,e',f',g,z⟩:=q;obtain ⟨_,_,_,_,⟨he,_⟩,⟨hf,_⟩,_,hz,_⟩:=h;dsimp only at he hf hz⊢;subst he;subst hf;subst hz;unfold partsOf;have s1:subL (a++b++c++d++[e,f]++g++s) 0 a.length=a:=by
  have:=sub_mid [] a (b++c++d++[e,f]++g++s) (i:=0) rfl rfl;simpa using this
 have s2:subL (a++b++c++d++[e,f]++g++s) a.length b.length=b:=by
  have:=sub_mid a b (c++d++[e,f]++g++s) rfl rfl;simpa using this
 have s3:subL (a++b++c++d++[e,f]++g++s) (a.length+b.length) c.length=c:=by
  have:=sub_mid (a++b) c (d++[e,f]++g++s) (i:=a.length+b.length) (by simp) rfl;simpa using this
 have s4:subL (a++b++c++d++[e,f]++g++s) (a.length+b.length+c.length) d.length=d:=by
  have:=sub_mid (a++b++c) d ([e,f]++g++s) (i:=a.length+b.length+c.length) (by simp;omega) rfl;simpa using this
 have s5:subL (a++b++c++d++[e,f]++g++s) (a.length+b.length+c.length+d.length) 1=[e]:=by
  have:=sub_mid (a++b++c++d) [e] ([f]++g++s) (i:=a.length+b.length+c.length+d.length) (by simp;omega) (n:=1) rfl;simpa using this
 have s6:subL (a++b++c++d++[e,f]++g++s) (a.length+b.length+c.length+d.length+1) 1=[f]:=by
  have:=sub_mid (a++b++c++d++[e]) [f] (g++s) (i:=a.length+b.length+c.length+d.length+1) (by simp;omega) (n:=1) rfl;simpa using this
 have s7:subL (a++b++c++d++[e,f]++g++s) (a.length+b.length+c.length+d.length+2) g.length=g:=by
  have:=sub_mid (a++b++c++d++[e,f]) g s (i:=a.length+b.length+c.length+d.length+2) (by simp;omega) rfl;simpa using this
 rw [s1,s2,s3,s4,s5,s6,s7]
theorem bstr_ext(l:List UInt8)(n:Nat):((bstr l).extract 0 n).toList=l.take n:=by
 have:=ext_sub l (i:=0) (j:=(n:Int)) (n:=(n:Int)) (by decide) (by omega) (by omega);rw [Int.toNat_natCast,show (0:Int).toNat=0 from rfl] at this;rw [this,bstr_toList];rfl
theorem okK_eq(l:List UInt8)(j:Int):okK l j=((decide ((oooS j).length<=l.length)&&(l.take (oooS j).length==oooS j))&&tailB (l.drop (oooS j).length)):=by
 unfold okK;rw [bstr_size,bstr_size,Int.toNat_natCast,bstr_ext,bstr_toList];congr 2;rw [decide_eq_decide];omega
theorem zz_castle(j:Int)(s:List UInt8)(hs:s.map cls∈C7):zzR (oooS j++s)=some (castP (oooS j)):=by
 have hs':∀x∈s,cls x≠9:=by
  intro x hx e;have:s.map cls=[]\/s.map cls=[7]:=by simpa [C7] using hs
  rcases this with h|h
  · rw [List.map_eq_nil_iff.1 h] at hx;cases hx
  have hm:cls x∈s.map cls:=List.mem_map.2 ⟨x,hx,rfl⟩;rw [h,List.mem_singleton] at hm;omega
 have ht:tailB s=true:=by
  rw [tail_c s hs'];have:s.map cls=[]\/s.map cls=[7]:=by simpa [C7] using hs
  rcases this with h|h<;>rw [h]<;>rfl
 have h9:∀x∈oooS j++s,cls x≠9:=by
  intro x hx;rcases List.mem_append.1 hx with h|h
  · have hx':x=79\/x=45:=by
     by_cases e1:x=79
     · exact Or.inl e1
     by_cases e2:x=45
     · exact Or.inr e2
     exfalso;unfold oooS at h;split at h<;>simp [e1,e2] at h
    rcases hx' with e|e<;>rw [e]<;>decide
  exact hs' x h
 have hc:s.map cls=[]\/s.map cls=[7]:=by simpa [C7] using hs
 have hl:s.length<=1:=by rcases hc with h|h<;>(have:=congrArg List.length h;rw [List.length_map] at this;simp only [List.length_nil,List.length_cons] at this;omega)
 unfold zzR;rw [zz_c h9,List.map_append];by_cases hj:j=0
 · subst hj;have e:(oooS 0).map cls=[8,8,8,8,8]:=by decide
   have hn:gF (Oc ([8,8,8,8,8]++s.map cls)) (Tc ([8,8,8,8,8]++s.map cls))=none:=by rcases hc with h|h<;>rw [h]<;>decide+kernel
   rw [e,hn];show (if okK _ 0=true then _ else _)=_;rw [okK_eq,List.take_left,List.drop_left,ht,if_pos];simp
 have eo:oooS j=[79,45,79]:=by unfold oooS;rw [if_neg hj]
 have e:(oooS j).map cls=[8,8,8]:=by rw [eo];decide
 have hn:gF (Oc ([8,8,8]++s.map cls)) (Tc ([8,8,8]++s.map cls))=none:=by rcases hc with h|h<;>rw [h]<;>decide+kernel
 rw [e,hn];show (if okK _ 0=true then _ else if okK _ 1=true then _ else _)=_;rw [okK_eq,okK_eq,if_neg,if_pos]
 · rw [eo];rfl
 · rw [show oooS 1=[79,45,79] from rfl,eo,List.take_left' rfl,List.drop_left' rfl,ht];simp
 rw [eo,show (oooS 0).length=5 from rfl];have:¬5<=([79,45,79]++s).length:=by simp;omega
 simp [this];omega
section
variable{P:Program}{n:Nat}{D:List Deferred}{ops:Array Oper}{Q:Exit->Act->World->Prop}{w:World}{L:List (Nat×Value)}
theorem a_both2{k:Nat}{ls:List Nat}(i j:Nat)(f:FuncId)(vs:List Value)(dst:Option Nat)(h:callAt P n ops.toList i L=some (f,vs,dst))(v':Value)(dst':Option Nat)(obs:List Ob)(rs:List Value)(h':pureAt P n ops.toList j L rs=some (v',dst',obs))
  (hr:Region.ready .any ops (lstd ops ls)=[j,i]){R:Ending->World->Prop}(hc:Calls P f vs.toArray w R)(ho':Obs w obs)
  (hk:∀x w2,R x w2->∃v,x=.returned v/\AReg P n D ops Q k (i::ls) (setD dst v L) w2)(hk':AReg P n D ops Q k (j::ls) (setD dst' v' L) w):AReg P n D ops Q (k+1) ls L w:=by
 intro a ha;refine wpAny_all hr (by simp) λq hq=>?_;rcases List.mem_cons.1 hq with rfl|hq
 ·exact a_op h' (Obs.all ho') hk' ha
 rw [List.mem_singleton] at hq;subst hq;obtain ⟨o,ho,hdst,hd,hw,hrun⟩:=callAt_spec (ops:=ops) h ha;have ho2:ops[q]?=some o:=by simpa using ho
 unfold wpOp;simp only [ho2,hw,if_true];refine .inl ?_;simp only [Oper.wp,hrun,Oper.upon];refine hc.mono λx w2 hR=>?_;obtain ⟨v,rfl,hv⟩:=hk x w2 hR;have:=hv _ (ha.setD hd v);rw [←hdst] at this;exact this
theorem a_bothS{k:Nat}{ls:List Nat}(i j:Nat)(cs:Array Value)(t:TypeId)(len:Nat)(dst:Option Nat)(h:bsliceAt P n ops.toList i L=some (cs,t,len,dst))(v':Value)(dst':Option Nat)(obs:List Ob)(rs:List Value)(h':pureAt P n ops.toList j L rs=some (v',dst',obs))
  (hr:Region.ready .any ops (lstd ops ls)=[j,i])(ho':Obs w obs)
  (hk:∀b w',New w w' b (.cells cs t (0,0))->AReg P n D ops Q k (i::ls) (setD dst (.slice (some ⟨b,0,none⟩) len len) L) w')(hk':AReg P n D ops Q k (j::ls) (setD dst' v' L) w):AReg P n D ops Q (k+1) ls L w:=by
 intro a ha;refine wpAny_all hr (by simp) λq hq=>?_;rcases List.mem_cons.1 hq with rfl|hq
 ·exact a_op h' (Obs.all ho') hk' ha
 rw [List.mem_singleton] at hq;subst hq;obtain ⟨o,ho,hdst,hd,hw,hrun⟩:=bsliceAt_spec (ops:=ops) h ha;have ho2:ops[q]?=some o:=by simpa using ho
 unfold wpOp;simp only [ho2,hw,if_true];refine .inl ?_;simp only [Oper.wp,hrun,Oper.upon];have:=hk _ _ (New.alloc w _) _ (ha.setD hd _);rw [←hdst] at this;exact this
theorem w_join{γ:Type}{c:Code}(L':γ->List (Nat×Value))(I:γ->World->Prop)(h:W P n D c (Exit.then (λa w'=>∃g,Hold n (L' g) D a/\I g w') (λ_ _ _=>False)) L w)
  (hk:∀g w',I g w'->∀a,Hold n (L' g) D a->Q .normal a w'):W P n D c Q L w:=λa ha=>
 Code.wp_mono (λe a' w' q=>by
  cases e<;>first
   |(obtain ⟨g,hh,hi⟩:=q;exact hk g w' hi a' hh)
   |exact q.elim) (h a ha)
end
theorem Bld.keepO{B b b0 size n cap:Nat}{e:TypeId}{l:List UInt8}{ao:Option Addr}{xs:List Value}{w w':World}(h:Bld B b l w)(ho:Own w b0 e size ao n cap xs)(m:Mod (blk ao) w w')(h1:e≠150)(h2:e≠5):Bld B b l w':=by
 have ne:∀{g:Nat} {c':Array Value} {T':TypeId} {z':Nat×Nat},At w g (.cells c' T' z')->e≠T'->g∉blk ao:=by
  intro g c' T' z' hg hT hm;rcases ho.ow.2 with ⟨hv,_⟩|⟨g',cap',cur,hv,hb,ha,rest⟩
  ·simp only [Value.slice.injEq] at hv;rw [hv.1] at hm;simp [blk] at hm
  ·simp only [Value.slice.injEq] at hv;rw [hv.1] at hm;simp only [blk,List.mem_singleton] at hm;subst hm;have e2:=At.inj ⟨ha⟩ hg;injection e2 with _ e3;exact hT e3
 have key:∀p,Lib.BuilderAtF 150 5 B b p (Lib.byteCells l) w->Lib.BuilderAtF 150 5 B b p (Lib.byteCells l) w':=by
  rintro p ⟨hB,v,hb,hown,hne⟩;refine ⟨hB,v,(At.keep (w:=w) ⟨hb⟩ m (ne ⟨hb⟩ h1)).e,?_,hne⟩;obtain ⟨h1',h2'⟩:=hown;refine ⟨h1',?_⟩;rcases h2' with h2'|⟨g,cap,cur,fz,hv,hg,ha,rest⟩
  ·exact Or.inl h2'
  ·exact Or.inr ⟨g,cap,cur,fz,hv,hg,(At.keep (w:=w) ⟨ha⟩ m (ne ⟨ha⟩ h2)).e,rest⟩
 rcases h with h|h
 ·exact Or.inl (key _ h)
 ·exact Or.inr (key _ h)
def strs(l:List (List UInt8)):List Value:=l.map λs=>.string (bstr s)
theorem strs_append(a b:List (List UInt8)):strs (a++b)=strs a++strs b:=by simp [strs]
theorem strs_one(l:List (List UInt8)):∀u∈strs l,u.oneCell'=true:=by
 intro u hu;obtain ⟨s,_,rfl⟩:=List.mem_map.1 hu;rfl
theorem bstr_ne(l:List UInt8):(!((bstr l).toList==(⟨#[]⟩:ByteArray).toList))=(l !=[]):=by rw [bstr_toList,nil_toList];rfl
def optsP(q:Parts):List (List UInt8):=
 bif q.a !=[] then [q.a++q.d++q.e++q.f++q.g++q.h,q.a++q.c++q.d++q.e++q.f++q.g++q.h,q.a++q.b++q.d++q.e++q.f++q.g++q.h]
 else (bif q.d !=[] then [q.b++q.d++q.e++q.f++q.g] else [])++(bif (q.b !=[])&&(q.c !=[]) then [q.d++q.e++q.f++q.g] else [])
theorem c183k{b:Nat}{x y:Value}{w:World}(hb:At w b (.cells #[x,y] 150 (0,0))):
  CQ 183 [.pointer (some ⟨b,0,none⟩)] w (λe w'=>e=.returned (.tuple #[])/\Mod [b] w w'/\At w' b (.cells #[.pointer none,.slice none 0 0] 150 (0,0))):=by
 have hm0:Mod [b] w w:=Mod.refl _ _;refine en func183 ntmps183 ?_;refine zw<|yS 3<|zS b 0 (.pointer none) ?_;intro w1 hu2;have hm4:=Mod.fresh' hm0 hu2.mod (by simp<;>omega);refine zz<|w_region<|yS 3<|zS b 1 (.slice none 0 0) ?_;intro w6 hu7;have hm9:=Mod.fresh' hm4 hu7.mod (by simp<;>omega);exact ze<|end0 results183 (⟨rfl,hm9,hu7.at_⟩)
structure GO(q:Parts)(w:World)(b1 b3 b4:Nat)(l:List (List UInt8))(bs:List UInt8)(w':World):Prop where
 mod:Mod [] w w'
 box:At w' b1 (.cells (partsV q) 220 (0,0))
 opt:∃ao cap,At w' b3 (.cells #[.slice ao l.length cap] 82 (0,0))/\Own w' w.heap.size 9 1 ao l.length cap (strs l)
 bld:Bld w.heap.size b4 bs w'
 lo:w.heap.size<=b3
abbrev LO(b1 b3 b4:Nat):List (Nat×Value):=[rz 1 b1,rz 3 b3,rz 4 b4]
theorem Bld.base{B b:Nat}{l:List UInt8}{w:World}(h:Bld B b l w):B<=b:=by rcases h with h|h<;>exact h.1
section
variable{ops:Array Oper}{Q:Exit->Act->World->Prop}{y:Code}{id:Nat}{q:Parts}{w w':World}{b1 b3 b4:Nat}{l:List (List UInt8)}{bs:List UInt8}
theorem go_then{L:List (Nat×Value)}(hy:∀w'',GO q w b1 b3 b4 l bs w''->W prog 201 [] y Q (LO b1 b3 b4) w'')(h:GO q w b1 b3 b4 l bs w')(hk:keepL L [1,3,4]=some (LO b1 b3 b4)):
  ∀a,Hold 201 L [] a->Exit.then (λa w=>y.wp prog Q a w) Q .normal a w':=n_then λa ha=>hy w' h a (ha.keep hk)
theorem go_ws(k z:Nat)(t:List UInt8)(h:GO q w b1 b3 b4 l bs w')(hy:∀w'',GO q w b1 b3 b4 l (bs++t) w''->W prog 201 [] y Q (LO b1 b3 b4) w'')
  (hc:(partsV q)[k]?=some (.string (bstr t)):=by rfl)(hl:bs.length+t.length<=100000000:=by (simp only [List.length_append,List.length_nil];omega))
  (h1:evSeg prog 201 ops.toList 0 3 (LO b1 b3 b4) [.string (bstr t)] [1,3,4,z,z+2]=some (LO b1 b3 b4++[rz z b4,(z+2,.string (bstr t))],[.cell ⟨b1,k,none⟩ (.string (bstr t))]):=by kernel_rfl)
  (h2:callAt prog 201 ops.toList 3 (LO b1 b3 b4++[rz z b4,(z+2,.string (bstr t))])=some (113,[pz b4,.string (bstr t)],some (z+3)):=by kernel_rfl)
  (h3:(ops.toList.drop 4).isEmpty=true:=by kernel_rfl)(h4:∀v,keepL (setD (some (z+3)) v (LO b1 b3 b4++[rz z b4,(z+2,.string (bstr t))])) [1,3,4]=some (LO b1 b3 b4):=by intro v;kernel_rfl):
  W prog 201 [] (.seq (.region id ops false) y) Q (LO b1 b3 b4) w':=by
 refine w_seq (w_region ?_);refine reg_seg 3 _ _ _ _ h1 (At.cell h.box hc)<|reg_call 113 _ _ h2 (cWSk h.mod h.bld hl) ?_;rintro _ w2 ⟨rfl,hm,hb,hk⟩;refine ⟨_,rfl,?_⟩;obtain ⟨ao,cap,ho,hw⟩:=h.opt;exact reg_end h3 (go_then hy ⟨hm,At.kept h.box hk (by decide) (Bld.ne h.bld h.box (by decide)),⟨ao,cap,At.kept ho hk (by decide) (Bld.ne h.bld ho (by decide)),Own.kept hw hk h.bld (by decide) (by decide)⟩,hb,h.lo⟩ (h4 _))
theorem go_rs(z:Nat)(h:GO q w b1 b3 b4 l bs w')(hy:∀w'',GO q w b1 b3 b4 l [] w''->W prog 201 [] y Q (LO b1 b3 b4) w'')
  (h1:evSeg prog 201 ops.toList 0 1 (LO b1 b3 b4) [] [1,3,4,z]=some (LO b1 b3 b4++[rz z b4],[]):=by kernel_rfl)
  (h2:callAt prog 201 ops.toList 1 (LO b1 b3 b4++[rz z b4])=some (183,[pz b4],some (z+1)):=by kernel_rfl)
  (h3:(ops.toList.drop 2).isEmpty=true:=by kernel_rfl)(h4:∀v,keepL (setD (some (z+1)) v (LO b1 b3 b4++[rz z b4])) [1,3,4]=some (LO b1 b3 b4):=by intro v;kernel_rfl):
  W prog 201 [] (.seq (.region id ops false) y) Q (LO b1 b3 b4) w':=by
 refine w_seq (w_region ?_);refine reg_seg 1 _ _ _ _ h1 trivial ?_;obtain ⟨x,u,hc⟩:=Bld.cells h.bld;refine reg_call 183 _ _ h2 (c183k hc) ?_;rintro _ w2 ⟨rfl,hm,hb⟩;refine ⟨_,rfl,?_⟩;obtain ⟨ao,cap,ho,hw⟩:=h.opt;have hbase:=Bld.base h.bld;exact reg_end h3 (go_then hy ⟨Mod.fresh' h.mod hm (λx hx=>Or.inr (by simp at hx;omega)),At.keep h.box hm (not_mem1 (At.ne h.box hc rfl)),⟨ao,cap,At.keep ho hm (not_mem1 (At.ne ho hc rfl)),Own.keep hw hm (Own.sep hw hc rfl)⟩,Bld.new hb hbase,h.lo⟩ (h4 _))
theorem go_tl(z:Nat){L:List (Nat×Value)}{g:Nat}(h:GO q w b1 b3 b4 l bs w')(hl:l.length<=10){ao:Option Addr}{cap:Nat}(ho:At w' b3 (.cells #[.slice ao l.length cap] 82 (0,0)))(hw:Own w' w.heap.size 9 1 ao l.length cap (strs l))
  (hg:At w' g (.cells #[.string (bstr bs)] 9 (0,0)))
  (hy:∀w'',GO q w b1 b3 b4 (l++[bs]) bs w''->∀a,Hold 201 (LO b1 b3 b4) [] a->Q .normal a w'')
  (h1:appendAt prog 201 ops.toList 7 L=some (.slice ao l.length cap,.slice (some ⟨g,0,none⟩) 1 1,9,some (z+7),1,16,1))
  (h2:∀v,evSeg prog 201 ops.toList 8 1 (setD (some (z+7)) v L) [] [1,3,4,z+7,z+8]=some (LO b1 b3 b4++[(z+7,v),rz (z+8) b3],[]))
  (h3:∀ao n cap,storeAt prog 201 ops.toList 9 (LO b1 b3 b4++[(z+7,.slice ao n cap),rz (z+8) b3])=some (⟨b3,0,none⟩,.slice ao n cap,none,some 1))
  (h4:(ops.toList.drop 10).isEmpty=true):Reg prog 201 [] ops (onlyN Q) 7 L w':=by
 have hs:=h.mod.size;have hle:(strs [bs])=[.string (bstr bs)]:=rfl;refine reg_append2 ao l.length cap ⟨g,0,none⟩ 1 1 9 (some (z+7)) 1 16 (b0:=w.heap.size) (xs:=strs l) (news:=strs [bs]) h1 hw (by decide) rfl (at_cells (l:=strs [bs]) (by exact hg)) (strs_one _) (by omega) hs fun ao2 cap2 w2 ho2 hm2 _=>reg_seg 1 _ _ _ _ (h2 _) trivial ?_;have hb3:=At.keep ho hm2 (own_off hw ho rfl);refine reg_store b3 0 (.slice ao2 (l.length+1) cap2) none (h3 _ _ _) hb3 (Nat.le_of_ble_eq_true rfl) rfl fun w3 hu=>reg_end h4 (only_n ?_);have hB2:=Bld.keepO h.bld hw hm2 (by decide) (by decide);have hx2:=At.keep h.box hm2 (own_off hw h.box rfl);have hm3:=Mod.fresh' h.mod hm2 (λx hx=>Or.inr (by have:=Own.lt hw x hx;omega));have hlen:(l++[bs]).length=l.length+1:=by simp
 intro a ha;refine hy w3 ⟨Mod.fresh' hm3 hu.mod (λx hx=>Or.inr (by have:=h.lo;simp at hx;omega)),At.keep hx2 hu.mod (not_mem1 (At.ne hx2 hb3 rfl)),⟨ao2,cap2,by rw [hlen];exact hu.at_,?_⟩,Bld.keep hB2 hu.mod hb3 (by decide) (by decide),h.lo⟩ a (ha.keep (ks:=[1,3,4]) rfl);rw [hlen,strs_append];exact Own.keep ho2 hu.mod (Own.sep ho2 hb3 rfl)
abbrev LA(b1 b3 b4 z:Nat):List (Nat×Value):=rz (z+4) b4::rz (z+2) b3::rz (z+1) b3::rz z b3::LO b1 b3 b4
theorem go_add0(z:Nat)(h:GO q w b1 b3 b4 l bs w')(hl:l.length<=10)
  (hy:∀w'',GO q w b1 b3 b4 (l++[bs]) bs w''->∀a,Hold 201 (LO b1 b3 b4) [] a->Q .normal a w'')
  (hsz:ops.size=10:=by kernel_rfl)(hm:(prog).follows .mixedOrders=true:=by kernel_rfl)(hd:(ops.toList.drop 10).isEmpty=true:=by kernel_rfl)
  (p0:pureAt prog 201 ops.toList 0 (LO b1 b3 b4) []=some (pz b3,some z,[]):=by kernel_rfl)
  (p1:pureAt prog 201 ops.toList 1 (rz z b3::LO b1 b3 b4) []=some (pz b3,some (z+1),[]):=by kernel_rfl)
  (p2:pureAt prog 201 ops.toList 2 (rz (z+1) b3::rz z b3::LO b1 b3 b4) []=some (pz b3,some (z+2),[]):=by kernel_rfl)
  (p4:pureAt prog 201 ops.toList 4 (rz (z+2) b3::rz (z+1) b3::rz z b3::LO b1 b3 b4) []=some (pz b4,some (z+4),[]):=by kernel_rfl)
  (t0:(takeB ops [] 0&&(takeB ops [0] 1&&(takeB ops [1,0] 2&&takeB ops [2,1,0] 4)))=true:=by kernel_rfl)
  (r0:Region.ready .any ops (lstd ops [4,2,1,0])=[3,5]:=by kernel_rfl)(r1:Region.ready .any ops (lstd ops [5,4,2,1,0])=[3,6]:=by kernel_rfl)
  (r2:Region.ready .any ops (lstd ops [6,5,4,2,1,0])=[3]:=by kernel_rfl)(r3:Region.ready .any ops (lstd ops [3,4,2,1,0])=[5]:=by kernel_rfl)
  (s1:(Region.seqB .any ops (ops.size-7) 7 (lstd ops [3,6,5,4,2,1,0])&&(Region.seqB .any ops (ops.size-6) 6 (lstd ops [3,5,4,2,1,0])&&Region.seqB .any ops (ops.size-6) 6 (lstd ops [5,3,4,2,1,0])))=true:=by kernel_rfl)
  (c1:callAt prog 201 ops.toList 5 (LA b1 b3 b4 z)=some (115,[pz b4],some (z+5)):=by kernel_rfl)
  (c2:∀x,callAt prog 201 ops.toList 5 ((z+3,x)::LA b1 b3 b4 z)=some (115,[pz b4],some (z+5)):=by intro x;kernel_rfl)
  (q1:∀ao n cap,pureAt prog 201 ops.toList 3 (LA b1 b3 b4 z) [.slice ao n cap]=some (.slice ao n cap,some (z+3),[.cell ⟨b3,0,none⟩ (.slice ao n cap)]):=by intro ao n cap;kernel_rfl)
  (q2:∀ao n cap x,pureAt prog 201 ops.toList 3 ((z+5,x)::LA b1 b3 b4 z) [.slice ao n cap]=some (.slice ao n cap,some (z+3),[.cell ⟨b3,0,none⟩ (.slice ao n cap)]):=by intro ao n cap x;kernel_rfl)
  (q3:∀ao n cap x u,pureAt prog 201 ops.toList 3 ((z+6,u)::(z+5,x)::LA b1 b3 b4 z) [.slice ao n cap]=some (.slice ao n cap,some (z+3),[.cell ⟨b3,0,none⟩ (.slice ao n cap)]):=by intro ao n cap x u;kernel_rfl)
  (b5:∀x,bsliceAt prog 201 ops.toList 6 ((z+5,.string x)::LA b1 b3 b4 z)=some (#[.string x],9,1,some (z+6)):=by intro x;kernel_rfl)
  (b6:∀x u,bsliceAt prog 201 ops.toList 6 ((z+3,u)::(z+5,.string x)::LA b1 b3 b4 z)=some (#[.string x],9,1,some (z+6)):=by intro x u;kernel_rfl)
  (b7:∀x u,bsliceAt prog 201 ops.toList 6 ((z+5,.string x)::(z+3,u)::LA b1 b3 b4 z)=some (#[.string x],9,1,some (z+6)):=by intro x u;kernel_rfl)
  (a1:∀ao n cap x g,appendAt prog 201 ops.toList 7 ((z+3,.slice ao n cap)::(z+6,.slice (some ⟨g,0,none⟩) 1 1)::(z+5,x)::LA b1 b3 b4 z)=some (.slice ao n cap,.slice (some ⟨g,0,none⟩) 1 1,9,some (z+7),1,16,1):=by intro ao n cap x g;kernel_rfl)
  (a2:∀ao n cap x g,appendAt prog 201 ops.toList 7 ((z+6,.slice (some ⟨g,0,none⟩) 1 1)::(z+3,.slice ao n cap)::(z+5,x)::LA b1 b3 b4 z)=some (.slice ao n cap,.slice (some ⟨g,0,none⟩) 1 1,9,some (z+7),1,16,1):=by intro ao n cap x g;kernel_rfl)
  (a3:∀ao n cap x g,appendAt prog 201 ops.toList 7 ((z+6,.slice (some ⟨g,0,none⟩) 1 1)::(z+5,x)::(z+3,.slice ao n cap)::LA b1 b3 b4 z)=some (.slice ao n cap,.slice (some ⟨g,0,none⟩) 1 1,9,some (z+7),1,16,1):=by intro ao n cap x g;kernel_rfl)
  (e1:∀i j k x y u v,(i,j,k)∈[(z+3,z+6,z+5),(z+6,z+3,z+5),(z+6,z+5,z+3)]->evSeg prog 201 ops.toList 8 1 (setD (some (z+7)) v ((i,x)::(j,y)::(k,u)::LA b1 b3 b4 z)) [] [1,3,4,z+7,z+8]=some (LO b1 b3 b4++[(z+7,v),rz (z+8) b3],[]):=by
   (intro i j k x y u v h;simp only [List.mem_cons,Prod.mk.injEq,List.not_mem_nil,or_false] at h;rcases h with ⟨rfl,rfl,rfl⟩|⟨rfl,rfl,rfl⟩|⟨rfl,rfl,rfl⟩<;>kernel_rfl))
  (st:∀ao n cap,storeAt prog 201 ops.toList 9 (LO b1 b3 b4++[(z+7,.slice ao n cap),rz (z+8) b3])=some (⟨b3,0,none⟩,.slice ao n cap,none,some 1):=by intro ao n cap;kernel_rfl):
  W prog 201 [] (.region id ops true) Q (LO b1 b3 b4) w':=by
 simp only [Bool.and_eq_true] at t0 s1;obtain ⟨t0,t1,t2,t4⟩:=t0;obtain ⟨s1,s2,s3⟩:=s1;refine a_start (f:=10) hsz hm λw1 hm1=>?_;have h:GO q w b1 b3 b4 l bs w1:=by
  obtain ⟨ao,cap,ho,hw⟩:=h.opt;exact ⟨h.mod.trans hm1,h.box.on hm1,⟨ao,cap,ho.on hm1,hw.on hm1⟩,h.bld.on hm1,h.lo⟩
 obtain ⟨ao,cap,ho,hw⟩:=h.opt;have hbase:=h.lo;refine a_take 0 (pz b3) (some z) [] [] p0 t0 trivial<|a_take 1 (pz b3) (some (z+1)) [] [] p1 t1 trivial<|a_take 2 (pz b3) (some (z+2)) [] [] p2 t2 trivial<|a_take 4 (pz b4) (some (z+4)) [] [] p4 t4 trivial ?_;have calls:∀{L:List (Nat×Value)} {ls:List Nat} {f:Nat},(∀w2,GO q w b1 b3 b4 l bs w2->At w2 b3 (.cells #[.slice ao l.length cap] 82 (0,0))->Own w2 w.heap.size 9 1 ao l.length cap (strs l)->AReg prog 201 [] ops Q f ls (setD (some (z+5)) (.string (bstr bs)) L) w2)->
   ∀x w2,(λe w'=>e=Ending.returned (.string (bstr bs))/\Mod [] w w'/\Bld w.heap.size b4 bs w'/\Lib.OthersKept 5 (some b4) w1 w') x w2->∃v,x=.returned v/\AReg prog 201 [] ops Q f ls (setD (some (z+5)) v L) w2:=by
  rintro L ls f hk x w2 ⟨rfl,hm2,hb2,hk2⟩;have ho2:=At.kept ho hk2 (by decide) (Bld.ne h.bld ho (by decide));have hw2:=Own.kept hw hk2 h.bld (by decide) (by decide);exact ⟨_,rfl,hk w2 ⟨hm2,At.kept h.box hk2 (by decide) (Bld.ne h.bld h.box (by decide)),⟨ao,cap,ho2,hw2⟩,hb2,h.lo⟩ ho2 hw2⟩
 have news:∀{w2 w3:World} {g:Nat},GO q w b1 b3 b4 l bs w2->New w2 w3 g (.cells #[.string (bstr bs)] 9 (0,0))->GO q w b1 b3 b4 l bs w3:=by
  intro w2 w3 g hh hn;obtain ⟨ao,cap,ho,hw⟩:=hh.opt;exact ⟨hh.mod.trans hn.mod,hh.box.on hn.mod,⟨ao,cap,ho.on hn.mod,hw.on hn.mod⟩,hh.bld.on hn.mod,hh.lo⟩
 refine a_both2 5 3 115 [pz b4] (some (z+5)) c1 (.slice ao l.length cap) (some (z+3)) [.cell ⟨b3,0,none⟩ (.slice ao l.length cap)] [.slice ao l.length cap] (q1 _ _ _) r0 (cBSk h.mod h.bld) (At.cell ho rfl) (calls λw2 h2 ho hw=>?_) ?_
 ·refine a_bothS 6 3 #[.string (bstr bs)] 9 1 (some (z+6)) (b5 _) (.slice ao l.length cap) (some (z+3)) [.cell ⟨b3,0,none⟩ (.slice ao l.length cap)] [.slice ao l.length cap] (q2 _ _ _ _) r1 (At.cell ho rfl) ?_ ?_
  ·intro g w3 hn;have ho3:=ho.on hn.mod;have hw3:=hw.on hn.mod;exact a_one 3 (.slice ao l.length cap) (some (z+3)) [.cell ⟨b3,0,none⟩ (.slice ao l.length cap)] [.slice ao l.length cap] (q3 _ _ _ _ _) r2 (At.cell ho3 rfl)<|a_tail 7 (by omega) s1<|go_tl z (news h2 hn) hl ho3 hw3 hn.at_ hy (a1 _ _ _ _ _) (λv=>e1 _ _ _ _ _ _ _ (by simp)) st hd
  exact a_tail 6 (by omega) s2<|reg_bslice #[.string (bstr bs)] 9 1 (some (z+6)) (b6 _ _) fun g w3 hn=>go_tl z (news h2 hn) hl (ho.on hn.mod) (hw.on hn.mod) hn.at_ hy (a2 _ _ _ _ _) (λv=>e1 _ _ _ _ _ _ _ (by simp)) st hd
 refine a_call 5 115 [pz b4] (some (z+5)) (c2 _) r3 (cBSk h.mod h.bld) (calls λw2 h2 ho' hw'=>?_);exact a_tail 6 (by omega) s3<|reg_bslice #[.string (bstr bs)] 9 1 (some (z+6)) (b7 _ _) fun g w3 hn=>go_tl z (news h2 hn) hl (ho'.on hn.mod) (hw'.on hn.mod) hn.at_ hy (a3 _ _ _ _ _) (λv=>e1 _ _ _ _ _ _ _ (by simp)) st hd
theorem go_keep{L:List (Nat×Value)}(hk:W prog 201 [] y Q (LO b1 b3 b4) w)(h:keepL L [1,3,4]=some (LO b1 b3 b4):=by kernel_rfl):W prog 201 [] y Q L w:=λa ha=>hk a (ha.keep h)
end
theorem c180{w:World}(q:Parts)(hs:Short q):
  CQ 180 [.agg (partsV q)] w (λe w'=>∃ao cap,e=.returned (.slice ao (optsP q).length cap)/\Mod [] w w'/\Own w' w.heap.size 9 1 ao (optsP q).length cap (strs (optsP q))):=by
 have l1:=hs.a;have l2:=hs.b;have l3:=hs.c;have l4:=hs.d;have l5:=hs.e;have l6:=hs.f;have l7:=hs.g;have l8:=hs.h;refine en func180 ntmps180 ?_;refine zw<|reg_alloc (partsV q) 220 (some 1) (by kernel_rfl) λb1 w1 h1=>?_;refine yS 1<|zx<|reg_alloc #[.slice none 0 0] 82 (some 5) (by kernel_rfl) λb3 w3 h3=>?_;refine yS 1<|zx<|yL 4 b3 0<|reg_mk (.slice none 0 0) rfl (by kernel_rfl) (by kernel_rfl) (by kernel_rfl) (by kernel_rfl)<|yS 1<|reg_store b3 0 (.slice none 0 0) none (by kernel_rfl) h3.at_ (Nat.le_of_ble_eq_true rfl) rfl λw5 hu=>?_;refine zx<|reg_alloc #[.pointer none,.slice none 0 0] 150 (some 12) (by kernel_rfl) λb4 w6 h6=>?_;refine zs 1 (LO b1 b3 b4) ?_;have hm1:=h1.mod;have hb1:=h1.base;have hm3:=hm1.trans h3.mod;have hb3:=Nat.le_trans hm1.size h3.base;have hm5:=Mod.fresh' hm3 hu.mod (λx hx=>Or.inr (by simp at hx;omega));have hb4:=Nat.le_trans hm5.size h6.base;have hx1:=(At.keep (h1.at_.on h3.mod) hu.mod (not_mem1 (At.ne (h1.at_.on h3.mod) h3.at_ rfl))).on h6.mod;have hG:GO q w b1 b3 b4 [] [] w6:=⟨hm5.trans h6.mod,hx1,⟨none,0,hu.at_.on h6.mod,Own.nil _ _ _ _⟩,Bld.new h6.at_ hb4,hb3⟩;refine zz<|w_cut (γ:=List (List UInt8)×List UInt8) (λ_=>LO b1 b3 b4) (λg w_=>GO q w b1 b3 b4 g.1 g.2 w_/\g.1=optsP q) ?_ ?_
 ·refine zw<|yL 3 b1 0<|zz<|yC (!((bstr q.a).toList==(⟨#[]⟩:ByteArray).toList)) (λhc=>?_) λhc=>?_
  ·rw [bstr_ne] at hc;refine go_keep (b1:=b1) (b3:=b3) (b4:=b4)<|go_rs 16 hG λw h=>?_;refine go_ws 0 18 q.a h λw h=>?_;refine go_ws 3 22 q.d h λw h=>?_;refine go_ws 4 26 q.e h λw h=>?_;refine go_ws 5 30 q.f h λw h=>?_;refine go_ws 6 34 q.g h λw h=>?_;refine go_ws 7 38 q.h h λw h=>?_;refine w_seq (go_add0 42 h (by decide) λw h=>n_then ?_);refine go_rs 51 h λw h=>?_;refine go_ws 0 53 q.a h λw h=>?_;refine go_ws 2 57 q.c h λw h=>?_;refine go_ws 3 61 q.d h λw h=>?_;refine go_ws 4 65 q.e h λw h=>?_;refine go_ws 5 69 q.f h λw h=>?_;refine go_ws 6 73 q.g h λw h=>?_;refine go_ws 7 77 q.h h λw h=>?_;refine w_seq (go_add0 81 h (by (simp)) λw h=>n_then ?_);refine go_rs 90 h λw h=>?_;refine go_ws 0 92 q.a h λw h=>?_;refine go_ws 1 96 q.b h λw h=>?_;refine go_ws 3 100 q.d h λw h=>?_;refine go_ws 4 104 q.e h λw h=>?_;refine go_ws 5 108 q.f h λw h=>?_;refine go_ws 6 112 q.g h λw h=>?_;refine go_ws 7 116 q.h h λw h=>?_;exact go_add0 120 h (by (simp)) λw h=>zb (_,_) ⟨h,by unfold optsP;rw [hc];rfl⟩
  rw [bstr_ne] at hc;refine go_keep (b1:=b1) (b3:=b3) (b4:=b4)<|w_cut (γ:=List (List UInt8)×List UInt8) (λ_=>LO b1 b3 b4) (λg w_=>GO q w b1 b3 b4 g.1 g.2 w_/\g.1=bif q.d !=[] then [q.b++q.d++q.e++q.f++q.g] else []) ?_ ?_
  ·refine zw<|yL 3 b1 3<|zz<|yC (!((bstr q.d).toList==(⟨#[]⟩:ByteArray).toList)) (λhd=>?_) λhd=>?_
   ·rw [bstr_ne] at hd;refine go_keep (b1:=b1) (b3:=b3) (b4:=b4)<|go_rs 132 hG λw h=>?_;refine go_ws 1 134 q.b h λw h=>?_;refine go_ws 3 138 q.d h λw h=>?_;refine go_ws 4 142 q.e h λw h=>?_;refine go_ws 5 146 q.f h λw h=>?_;refine go_ws 6 150 q.g h λw h=>?_;exact go_add0 154 h (by decide) λw h=>zb (_,_) ⟨h,by rw [hd];rfl⟩
   rw [bstr_ne] at hd;exact w_skip (zb ([],[]) ⟨hG,by rw [hd];rfl⟩)
  rintro ⟨l,bs⟩ w7 ⟨hG,hl⟩;dsimp only at hG hl;have hlen:l.length<=1:=by rw [hl];cases (q.d !=[])<;>simp
  refine zw<|zo 4 [rz 1 b1,rz 3 b3,rz 4 b4,(166,.bool (!((bstr q.b).toList==(⟨#[]⟩:ByteArray).toList)))] [.cell ⟨b1,1,none⟩ (.string (bstr q.b))] (At.cell hG.box rfl) ?_;rw [bstr_ne q.b];cases hb:(q.b !=[])
  ·exact yS 4<|zz<|w_false rfl<|w_skip (zb (l,bs) ⟨hG,by unfold optsP;rw [hc,hl,hb];simp⟩)
  refine zo 4 [rz 1 b1,rz 3 b3,rz 4 b4,(170,.bool (!((bstr q.c).toList==(⟨#[]⟩:ByteArray).toList)))] [.cell ⟨b1,2,none⟩ (.string (bstr q.c))] (At.cell hG.box rfl) ?_;rw [bstr_ne q.c];refine zz<|zc (λhd=>?_) λhd=>?_
  ·refine go_keep (b1:=b1) (b3:=b3) (b4:=b4)<|go_rs 171 hG λw h=>?_;refine go_ws 3 173 q.d h λw h=>?_;refine go_ws 4 177 q.e h λw h=>?_;refine go_ws 5 181 q.f h λw h=>?_;refine go_ws 6 185 q.g h λw h=>?_;exact go_add0 189 h (by omega) λw h=>zb (_,_) ⟨h,by unfold optsP;rw [hc,hl,hb,hd];rfl⟩
  exact w_skip (zb (l,bs) ⟨hG,by unfold optsP;rw [hc,hl,hb,hd];simp⟩)
 rintro ⟨l,bs⟩ w8 ⟨hG,hl⟩;dsimp only at hG hl;subst hl;obtain ⟨ao,cap,ho,hw⟩:=hG.opt;exact zw<|yL 4 b3 0<|zz<|w_ret (ret1 results180 rfl ⟨ao,cap,rfl,hG.mod,hw⟩)
def clT(B:Bd)(S:Ps)(M:Mv):List UInt8:=match zzR (encI B S (allL B S) M) with|some q=>cleanP q|none=>[]
def hitT(B:Bd)(S:Ps)(q:Parts)(M:Mv):Bool:=(cleanP q==clT B S M)||(optsP q).any (·==clT B S M)
structure DecOk(B:Bd)(S:Ps)(M:Mv):Prop where
 up:UpPre B S M
 len:(encI B S (allL B S) M).length<=100000
 pts:∃q,zzR (encI B S (allL B S) M)=some q/\Short q
theorem eq_bstr(a b:List UInt8):((bstr a).toList==(bstr b).toList)=(a==b):=by rw [bstr_toList,bstr_toList]
theorem strs_at{l:List (List UInt8)}{i:Nat}(h:i<l.length):(strs l)[0+i*1]?=some (.string (bstr (l.getD i []))):=by
 unfold strs;rw [Nat.zero_add,Nat.mul_one,List.getElem?_map,List.getElem?_eq_getElem h,List.getD_eq_getElem?_getD,List.getElem?_eq_getElem h];rfl
set_option maxHeartbeats 4000000 in
theorem c175{c:GC}{p b:Nat}{vm:Value}{S:Ps}{w:World}(hp:At w p (.cells (psCells b vm S) 110 (0,0))){B:Bd}(hb:At w b (.cells (bdCells B) 135 (0,0)))(hG:Glob c w)(hpre:MvPre B S)(hbase:c.base<=p)(hca:Cache w vm B S)
  (l:List UInt8)(q:Parts)(hz:zzR l=some q)(hl:l.length<=100000)(hs:Short q)(hd:∀M∈allL B S,DecOk B S M)(hex:∃M∈allL B S,hitT B S q M=true):
  CQ 175 [.agg #[],pz p,.string (bstr l)] w (λe w'=>∃t M,e=.returned (.tuple #[pz t,.nilIface])/\Mod [p] w w'/\At w' t (.cells (mvCells (.pointer none) M) 98 (0,0))/\M∈allL B S/\hitT B S q M=true):=by
 have hpos:0<(allL B S).length:=by obtain ⟨M,hM,_⟩:=hex;exact List.length_pos_of_mem hM
 have hlen:=allL_len hpre;refine en func175 ntmps175 ?_;refine zw<|reg_alloc #[] 89 (some 3) (by kernel_rfl) λb0 w1 hn1=>?_;refine yS 2<|zx<|yS 1<|zk (some 20) (c178 l q hz hl) λw2 hm2=>?_;refine yS 3<|reg_alloc #[.string ⟨#[]⟩,.string ⟨#[]⟩,.string ⟨#[]⟩,.string ⟨#[]⟩,.string ⟨#[]⟩,.string ⟨#[]⟩,.string ⟨#[]⟩,.string ⟨#[]⟩] 220 (some 8) (by kernel_rfl) λb8 w3 hn3=>?_;refine reg_store b8 0 (.agg (partsV q)) none (by kernel_rfl) hn3.at_ (Nat.le_of_ble_eq_true rfl) rfl λw4 hu4=>?_;have hx4:At w4 b8 (.cells (partsV q) 220 (0,0)):=hu4.at_;have hmA:=(hn1.mod.trans hm2).trans hn3.mod;have hsA:=Nat.le_trans (hn1.mod.trans hm2).size hn3.base;have hm4:Mod [] w w4:=Mod.fresh' hmA hu4.mod (λx hx=>Or.inr (by simp at hx;omega));refine yS 1<|zz<|w_seq<|zw<|yS 1<|reg_run (v:=.bool false) (w':=w4) rfl rfl rfl (by kernel_rfl) (.inl (by kernel_rfl))<|zz<|yF<|w_skip<|n_then<|zw<|yV 1 [.row ⟨b8,0,none⟩ 8 (partsV q)] [.agg (partsV q)] (At.row hx4 rfl)<|zk (some 27) (c179 q hs) λw5 hm5=>?_;refine yS 1<|zz<|w_seq<|zw<|yS 1 ?_;have hm5':=hm4.trans hm5;have hp5:=hp.on hm5';have hx5:=hx4.on hm5;refine zC (some 29) (c93 (S:=S) hp5 (hb.on hm5') (Glob.on hG hm5') hpre hbase (Cache.on hca hm5')) ?_;rintro _ w6 ⟨vm6,ao6,cap6,rfl,hm6,hp6,hca6,ho6⟩;refine ⟨_,rfl,?_⟩;obtain ⟨gc,capc,rfl,hoc⟩:=hca6;obtain ⟨g,cur,rfl,hgb,hg6,htk,hn6,hsz⟩:=Own.some ho6 hpos;have hx6:=At.keep hx5 hm6 (not_mem1 (At.ne hx5 hp5 rfl));have hb6:=At.keep (hb.on hm5') hm6 (not_mem1 (At.ne (hb.on hm5') hp5 rfl));have hG6:=Glob.keep (Glob.on hG hm5') hm6 (by simp<;>omega);have hmp:Mod [p] w w6:=Mod.fresh' (Mod.of_nil hm5') hm6 (by simp);refine yS 2<|zz<|w_block<|yP (γ:=Int) (λi=>(((allL B S).length:Int)-i).toNat) (λ(i:Int)=>[rz 1 p,rz 8 b8,(10,.string (bstr (cleanP q))),(29,.slice (some ⟨g,0,none⟩) (allL B S).length cap6),iz 30 (((allL B S).length:Nat):Int),iz 31 i]) (λ(i:Int) w_=>(0<=i/\i<=((allL B S).length:Int))/\Mod [] w6 w_/\(∀j:Int,0<=j->j<i->hitT B S q (mvAt (allL B S) j.toNat)=false)) 0 ⟨(by omega),Mod.refl _ _,(λi h0 h1=>absurd h1 (by omega))⟩ ?_;rintro i w7 ⟨⟨i0,i1⟩,hm7,hx⟩;refine zw<|yS 1<|zz<|w_seq<|yC (decide (i<(((allL B S).length:Nat):Int))) (λhc=>?_) λhc=>?_
 ·have hc:=of_decide_eq_true hc;refine w_skip<|n_then<|w_seq<|w_block ?_;have hmem:=mvAt_mem (l:=allL B S) (i:=i.toNat) (by omega);obtain ⟨hup,hel,q',hz',hs'⟩:=hd _ hmem;have hcl:clT B S (mvAt (allL B S) i.toNat)=cleanP q':=by unfold clT;rw [hz']
  have hin:hitT B S q (mvAt (allL B S) i.toNat)=((cleanP q==cleanP q')||(optsP q).any (·==cleanP q')):=by unfold hitT;rw [hcl]
  have hown:=λw_ (m:Mod [] w6 w_)=>own_mv (l:=allL B S) (i:=i.toNat) (Own.on ho6 m) (by omega);generalize hMM:mvAt (allL B S) i.toNat=M at*
  refine zw<|yV 2 [.prop (0<=i/\i<(((allL B S).length:Nat):Int)),.row ⟨g,(0+i.toNat*11),none⟩ 11 (mvCells (.pointer none) M)] [.agg (mvCells (.pointer none) M)] ⟨zh (by omega),hown _ hm7⟩<|reg_alloc (mvCells (.pointer none) (⟨0,0,0,0⟩:Mv)) 98 (some 12) (by kernel_rfl) λt w8 hn8=>?_;refine reg_store t 0 (.agg (mvCells (.pointer none) M)) none (by kernel_rfl) hn8.at_ (Nat.le_of_ble_eq_true rfl) rfl λw9 hu9=>?_;have ht9:At w9 t (.cells (mvCells (.pointer none) M) 98 (0,0)):=hu9.at_;have hs8:=Nat.le_trans hm7.size hn8.base;have hm9:Mod [] w6 w9:=Mod.fresh' (hm7.trans hn8.mod) hu9.mod (λx hx=>Or.inr (by simp at hx;omega));refine zx<|yS 2<|zk (some 37) (c176 (hp6.on hm9) (hoc.on hm9) (hb6.on hm9) ht9 (Glob.on hG6 hm9) (by omega) hpos hup) λw10 hm10=>?_;refine yS 1<|zx<|yS 1<|zk (some 40) (c178 _ q' hz' hel) λw11 hm11=>?_;refine yS 3<|reg_alloc (#[.string ⟨#[]⟩,.string ⟨#[]⟩,.string ⟨#[]⟩,.string ⟨#[]⟩,.string ⟨#[]⟩,.string ⟨#[]⟩,.string ⟨#[]⟩,.string ⟨#[]⟩]) 220 (some 14) (by kernel_rfl) λb14 w12 hn12=>?_;refine reg_store b14 0 (.agg (partsV q')) none (by kernel_rfl) hn12.at_ (Nat.le_of_ble_eq_true rfl) rfl λw13 hu13=>?_;have hx13:At w13 b14 (.cells (partsV q') 220 (0,0)):=hu13.at_;have hmB:=((hm9.trans hm10).trans hm11).trans hn12.mod;have hmC:=(hm10.trans hm11).trans hn12.mod;have hsB:=Nat.le_trans ((hm9.trans hm10).trans hm11).size hn12.base;have hsC:=Nat.le_trans (hm10.trans hm11).size hn12.base;have hm13:Mod [] w6 w13:=Mod.fresh' hmB hu13.mod (λx hx=>Or.inr (by simp at hx;omega));have hm13':Mod [] w9 w13:=Mod.fresh' hmC hu13.mod (λx hx=>Or.inr (by simp at hx;omega));have hx14:=hx6.on hm13;refine yS 1<|zz<|w_seq<|zw<|yS 1<|reg_run (v:=.bool false) (w':=w13) rfl rfl rfl (by kernel_rfl) (.inl (by kernel_rfl))<|zz<|yF<|w_skip<|n_then<|w_seq<|zw<|zv 2 [rz 1 p,rz 8 b8,(10,.string (bstr (cleanP q))),(29,.slice (some ⟨g,0,none⟩) (allL B S).length cap6),iz 30 (((allL B S).length:Nat):Int),iz 31 i,rz 12 t,rz 14 b14,(45,.string (bstr (cleanP q))),(46,.agg (partsV q'))] [.row ⟨b14,0,none⟩ 8 (partsV q')] [.agg (partsV q')] (At.row hx13 rfl)<|zk (some 47) (c179 q' hs') λw14 hm14=>?_;refine zs 1 [rz 1 p,rz 8 b8,(10,.string (bstr (cleanP q))),(29,.slice (some ⟨g,0,none⟩) (allL B S).length cap6),iz 30 (((allL B S).length:Nat):Int),iz 31 i,rz 12 t,rz 14 b14,(48,.bool ((bstr (cleanP q)).toList==(bstr (cleanP q')).toList))] ?_;rw [eq_bstr];refine zz<|zc (λhq=>?_) λhq=>?_
  ·refine zw<|zs 2 [(6,pz t),(7,.nilIface)]<|zz<|w_ret ?_
   repeat first|refine r_then ?_|refine r_block ?_
   exact ret2 results175 rfl rfl ⟨t,M,rfl,hmp.trans (Mod.of_nil (hm13.trans hm14)),ht9.on (hm13'.trans hm14),hmem,by rw [hin,hq];rfl⟩
  refine w_skip<|n_then ?_;have hx15:=hx14.on hm14;refine zw<|yV 1 [.row ⟨b8,0,none⟩ 8 (partsV q)] [.agg (partsV q)] (At.row hx15 rfl)<|zC (some 50) (c180 q hs) ?_;rintro _ w15 ⟨ao,cap,rfl,hm15,ho15⟩;refine ⟨_,rfl,?_⟩;refine yS 2<|zz<|w_block ?_;have hm15':=hm14.trans hm15;have hx17:=hx13.on hm15';have hol:(optsP q).length<=3:=by unfold optsP;cases (q.a !=[])<;>cases (q.d !=[])<;>cases (q.b !=[])<;>cases (q.c !=[])<;>simp
  refine yP (γ:=Int) (λk=>(((optsP q).length:Int)-k).toNat) (λ(k:Int)=>[rz 1 p,rz 8 b8,(10,.string (bstr (cleanP q))),(29,.slice (some ⟨g,0,none⟩) (allL B S).length cap6),iz 30 (((allL B S).length:Nat):Int),iz 31 i,rz 12 t,rz 14 b14,(50,.slice ao (optsP q).length cap),iz 51 (((optsP q).length:Nat):Int),iz 52 k]) (λ(k:Int) w_=>(0<=k/\k<=((optsP q).length:Int))/\Mod [] w15 w_/\(∀j:Nat,(j:Int)<k->((optsP q).getD j []==cleanP q')=false)) 0 ⟨(by omega),Mod.refl _ _,(λi h1=>absurd h1 (by omega))⟩ ?_;rintro k w16 ⟨⟨k0,k1⟩,hm16,hk⟩;refine zw<|zs 1 [rz 1 p,rz 8 b8,(10,.string (bstr (cleanP q))),(29,.slice (some ⟨g,0,none⟩) (allL B S).length cap6),iz 30 (((allL B S).length:Nat):Int),iz 31 i,rz 12 t,rz 14 b14,(50,.slice ao (optsP q).length cap),iz 51 (((optsP q).length:Nat):Int),iz 52 k,(53,.bool (decide (k<(((optsP q).length:Nat):Int))))]<|zz<|w_seq<|zc (λhc2=>?_) λhc2=>?_
  ·have hc2:=of_decide_eq_true hc2;obtain ⟨g2,cur2,rfl,_,hg2,_,_,_⟩:=Own.some ho15 (by omega);refine w_skip<|n_then<|w_seq<|w_block<|zw<|zo 3 [rz 1 p,rz 8 b8,(10,.string (bstr (cleanP q))),(29,.slice (some ⟨g,0,none⟩) (allL B S).length cap6),iz 30 (((allL B S).length:Nat):Int),iz 31 i,rz 12 t,rz 14 b14,(50,.slice (some ⟨g2,0,none⟩) (optsP q).length cap),iz 51 (((optsP q).length:Nat):Int),iz 52 k,(17,.string (bstr ((optsP q).getD k.toNat [])))] [.prop (0<=k/\k<(((optsP q).length:Nat):Int)),.cell ⟨g2,(0+k.toNat*1),none⟩ (.string (bstr ((optsP q).getD k.toNat [])))] ⟨zh (by omega),Own.cell (Own.on ho15 hm16) (strs_at (by omega))⟩<|zx<|zv 2 [rz 1 p,rz 8 b8,(10,.string (bstr (cleanP q))),(29,.slice (some ⟨g,0,none⟩) (allL B S).length cap6),iz 30 (((allL B S).length:Nat):Int),iz 31 i,rz 12 t,rz 14 b14,(50,.slice (some ⟨g2,0,none⟩) (optsP q).length cap),iz 51 (((optsP q).length:Nat):Int),iz 52 k,(56,.string (bstr ((optsP q).getD k.toNat []))),(57,.agg (partsV q'))] [.row ⟨b14,0,none⟩ 8 (partsV q')] [.agg (partsV q')] (At.row (hx17.on hm16) rfl)<|zk (some 58) (c179 q' hs') λw17 hm17=>?_;refine zs 1 [rz 1 p,rz 8 b8,(10,.string (bstr (cleanP q))),(29,.slice (some ⟨g,0,none⟩) (allL B S).length cap6),iz 30 (((allL B S).length:Nat):Int),iz 31 i,rz 12 t,rz 14 b14,(50,.slice (some ⟨g2,0,none⟩) (optsP q).length cap),iz 51 (((optsP q).length:Nat):Int),iz 52 k,(59,.bool ((bstr ((optsP q).getD k.toNat [])).toList==(bstr (cleanP q')).toList))] ?_;rw [eq_bstr];refine zz ?_;have hm17':=hm15'.trans (hm16.trans hm17);refine zc (λhq2=>?_) λhq2=>?_
   ·refine zw<|zs 2 [(6,pz t),(7,.nilIface)]<|zz<|w_ret ?_
    repeat first|refine r_then ?_|refine r_block ?_
    refine ret2 results175 rfl rfl ⟨t,M,rfl,hmp.trans (Mod.of_nil (hm13.trans hm17')),ht9.on (hm13'.trans hm17'),hmem,?_⟩;rw [hin,Bool.or_eq_true];refine Or.inr (List.any_eq_true.2 ⟨(optsP q).getD k.toNat [],?_,hq2⟩);rw [List.getD_eq_getElem?_getD,List.getElem?_eq_getElem (by omega)];exact List.getElem_mem _
   refine w_skip<|n_block<|n_then<|w_region<|zs 2 [rz 1 p,rz 8 b8,(10,.string (bstr (cleanP q))),(29,.slice (some ⟨g,0,none⟩) (allL B S).length cap6),iz 30 (((allL B S).length:Nat):Int),iz 31 i,rz 12 t,rz 14 b14,(50,.slice (some ⟨g2,0,none⟩) (optsP q).length cap),iz 51 (((optsP q).length:Nat):Int),iz 52 (IntKind.i64.wrap (k+1))]<|ze ?_;rw [zi (k+1) (by omega) (by omega)];refine l_back (k+1) [1,8,10,29,30,31,12,14,50,51,52] (by kernel_rfl) (by omega) ⟨(by omega),hm16.trans hm17,λj hj=>?_⟩;by_cases e:(j:Int)=k
   ·rw [show j=k.toNat by omega];exact hq2
   exact hk j (by omega)
  have hc2:=of_decide_eq_false hc2;refine w_exit<|x_then<|x_then<|x_hit<|n_block<|n_then<|w_region<|zs 2 [rz 1 p,rz 8 b8,(10,.string (bstr (cleanP q))),(29,.slice (some ⟨g,0,none⟩) (allL B S).length cap6),iz 30 (((allL B S).length:Nat):Int),iz 31 (IntKind.i64.wrap (i+1))]<|ze ?_;rw [zi (i+1) (by omega) (by omega)];have hno:hitT B S q M=false:=by
   rw [hin,hq,Bool.false_or,List.any_eq_false];intro x hxm hxe;obtain ⟨j,hj,rfl⟩:=List.getElem_of_mem hxm;have:=hk j (by omega);rw [List.getD_eq_getElem?_getD,List.getElem?_eq_getElem hj] at this;rw [Option.getD_some,hxe] at this;cases this
  refine l_back (i+1) [1,8,10,29,30,31] (by kernel_rfl) (by omega) ⟨(by omega),hm13.trans (hm15'.trans hm16),λj h0 h1=>?_⟩;by_cases e:j=i
  ·subst e;rw [hMM];exact hno
  exact hx j h0 (by omega)
 exfalso;have hc:=of_decide_eq_false hc;obtain ⟨M,hM,hh⟩:=hex;obtain ⟨j,hj,rfl⟩:=List.getElem_of_mem hM;have:=hx (j:Int) (by omega) (by omega);rw [show mvAt (allL B S) ((j:Int)).toNat=(allL B S)[j] by unfold mvAt;rw [Int.toNat_natCast,List.getD_eq_getElem?_getD,List.getElem?_eq_getElem hj];rfl,hh] at this;cases this
theorem sq_cls0:∀n,n<64->cls (fB (n:Nat))=1/\cls (rB (n:Nat))=2:=by decide+kernel
theorem sq_inj0:∀n,n<64->∀k,k<64->(fB (n:Nat)=fB (k:Nat)->n%8=k%8)/\(rB (n:Nat)=rB (k:Nat)->n/8=k/8):=by decide+kernel
theorem sq_cls{s:Int}(h:0<=s/\s<=63):cls (fB s)=1/\cls (rB s)=2:=by
 obtain ⟨n,rfl⟩:∃n:Nat,s=n:=⟨s.toNat,by omega⟩;exact sq_cls0 n (by omega)
theorem sq_inj{s u:Int}(h:0<=s/\s<=63)(h':0<=u/\u<=63):(fB s=fB u->s%8=u%8)/\(rB s=rB u->s/8=u/8):=by
 obtain ⟨n,rfl⟩:∃n:Nat,s=n:=⟨s.toNat,by omega⟩;obtain ⟨k,rfl⟩:∃k:Nat,u=k:=⟨u.toNat,by omega⟩;obtain ⟨a,b⟩:=sq_inj0 n (by omega) k (by omega);exact ⟨λe=>by have:=a e;omega,λe=>by have:=b e;omega⟩
theorem letB_get{k:Int}(h:1<=k/\k<=5):∃x,letB k=[x]/\(cls x=3\/cls x=4):=by
 rcases (by omega:k=1\/k=2\/k=3\/k=4\/k=5) with rfl|rfl|rfl|rfl|rfl
 · exact ⟨75,rfl,by decide⟩
 · exact ⟨81,rfl,by decide⟩
 · exact ⟨82,rfl,by decide⟩
 · exact ⟨66,rfl,by decide⟩
 exact ⟨78,rfl,by decide⟩
theorem letB_inj{k j:Int}(h:1<=k/\k<=5)(h':1<=j/\j<=5)(e:letB k=letB j):k=j:=by
 rcases (by omega:k=1\/k=2\/k=3\/k=4\/k=5) with rfl|rfl|rfl|rfl|rfl<;>rcases (by omega:j=1\/j=2\/j=3\/j=4\/j=5) with rfl|rfl|rfl|rfl|rfl<;>first|rfl|(revert e;decide)
theorem promS_get{p:Int}(h:p=0\/(2<=p/\p<=5)):(p=0/\promS p=[])\/(p≠0/\∃x,promS p=[61,x]/\cls x=3):=by
 rcases (by omega:p=0\/p=2\/p=3\/p=4\/p=5) with rfl|rfl|rfl|rfl|rfl
 · exact Or.inl ⟨rfl,rfl⟩
 · exact Or.inr ⟨by decide,81,rfl,by decide⟩
 · exact Or.inr ⟨by decide,82,rfl,by decide⟩
 · exact Or.inr ⟨by decide,66,rfl,by decide⟩
 exact Or.inr ⟨by decide,78,rfl,by decide⟩
theorem promS_inj{p q:Int}(h:p=0\/(2<=p/\p<=5))(h':q=0\/(2<=q/\q<=5))(e:promS p=promS q):p=q:=by
 rcases (by omega:p=0\/p=2\/p=3\/p=4\/p=5) with rfl|rfl|rfl|rfl|rfl<;>rcases (by omega:q=0\/q=2\/q=3\/q=4\/q=5) with rfl|rfl|rfl|rfl|rfl<;>first|rfl|(revert e;decide)
theorem sgnS_cls(P:SP)(f t p:Int):(sgnS P f t p).map cls∈C7:=by
 unfold sgnS;cases (!(inChkS (madeS P f t p).bd (madeS P f t p).turn))<;>cases (!(hasS (madeS P f t p)))<;>decide
theorem sgnI_cls(B:Bd)(S:Ps)(M:Mv):(sgnI B S M).map cls∈C7/\(sgnI B S M).length<=1:=by
 unfold sgnI;cases hasTag M 16<;>cases (statV (updB B M) (nextPs B S M)==1)<;>decide
theorem castI_rng(bd:Nat->Int)(f t:Int):castI bd f t=0\/castI bd f t=1\/castI bd f t=2:=by
 unfold castI;cases (kindOf (bd f.toNat) !=1)<;>cases (t-f==2)<;>cases (t-f==(-2))<;>simp
def apF(P:SP)(f t:Int):List UInt8:=bif legAny P (othS P.bd f t)&&(!(legAny P (filS P.bd f t))||legAny P (rnkS P.bd f t)) then [fB f] else []
def apR(P:SP)(f t:Int):List UInt8:=bif legAny P (othS P.bd f t)&&legAny P (filS P.bd f t) then [rB f] else []
theorem apart_eq(P:SP)(f t:Int):apartS P f t=apF P f t++apR P f t:=by
 unfold apartS apF apR;cases legAny P (othS P.bd f t)<;>cases legAny P (filS P.bd f t)<;>cases legAny P (rnkS P.bd f t)<;>rfl
def sanQ(P:SP)(m:Sm):Parts:=if castI P.bd m.f m.t≠0 then castP (oooS (2-castI P.bd m.f m.t)) else
 if kindOf (P.bd m.f.toNat)=6 then ⟨[],(bif takesI P.bd m.f m.t then [fB m.f] else []),[],takT P.bd m.f m.t,[fB m.t],[rB m.t],promS m.p,[]⟩
 else ⟨letB (kindOf (P.bd m.f.toNat)),apF P m.f m.t,apR P m.f m.t,takT P.bd m.f m.t,[fB m.t],[rB m.t],[],[]⟩
def lanQ(P:SP)(m:Sm):Parts:=if castI P.bd m.f m.t≠0 then castP (oooS (2-castI P.bd m.f m.t)) else
 ⟨letB (kindOf (P.bd m.f.toNat)),[fB m.f],[rB m.f],takT P.bd m.f m.t,[fB m.t],[rB m.t],promS m.p,[]⟩
theorem castP_short(j:Int):Short (castP (oooS j)):=by
 have:(oooS j).length<=5:=by unfold oooS;split<;>decide
 exact ⟨Nat.zero_le _,Nat.zero_le _,Nat.zero_le _,Nat.zero_le _,Nat.zero_le _,Nat.zero_le _,Nat.zero_le _,by show (oooS j).length<=_;omega⟩
theorem form_short{q:Parts}{e f:UInt8}{s:List UInt8}(h:Form q e f s):Short q:=by
 have key:∀(C:List (List Nat)),(C.all λl=>decide (l.length<=2))=true->∀l:List UInt8,l.map cls∈C->l.length<=100000:=by
  intro C hC l hl;have:=List.all_eq_true.1 hC _ hl;rw [decide_eq_true_eq,List.length_map] at this;omega
 exact ⟨key C0 rfl _ h.a,key C1 rfl _ h.b,key C2 rfl _ h.c,key C5 rfl _ h.d,by rw [h.e.1];simp,by rw [h.f.1];simp,key C6 rfl _ h.g,by rw [h.h];simp⟩
theorem takT_cls(bd:Nat->Int)(f t:Int):(takT bd f t).map cls∈C5:=by unfold takT;cases takesI bd f t<;>decide
theorem promS_cls{p:Int}(h:p=0\/(2<=p/\p<=5)):(promS p).map cls∈C6:=by
 rcases promS_get h with ⟨_,e⟩|⟨_,x,e,hx⟩<;>rw [e]
 · decide
 rw [List.map_cons,List.map_cons,hx];decide
theorem letB_cls{k:Int}(h:0<=k/\k<=6):(letB k).map cls∈C0:=by
 rcases (by omega:k=0\/k=1\/k=2\/k=3\/k=4\/k=5\/k=6) with rfl|rfl|rfl|rfl|rfl|rfl|rfl<;>decide
section
variable{P:SP}{m:Sm}{M:Mv}
theorem leg_kind(hV:ValidS P)(h:LegM P m):1<=kindOf (P.bd m.f.toNat)/\kindOf (P.bd m.f.toNat)<=6:=by
 have hf:=(h.ok hV).f;have:=hV.bd m.f.toNat (by omega);have:=h.x0 hV;unfold kindOf;split<;>omega
theorem san_form(hV:ValidS P)(h:LegM P m)(hc:castI P.bd m.f m.t=0){s:List UInt8}(hs:s.map cls∈C7):Form (sanQ P m) (fB m.t) (rB m.t) s:=by
 have ho:=h.ok hV;have cf:=sq_cls ho.f;have ct:=sq_cls ho.t;have hk:=leg_kind hV h;unfold sanQ;rw [if_neg (λhh=>hh hc)];by_cases h6:kindOf (P.bd m.f.toNat)=6
 · rw [if_pos h6];refine ⟨by show ([]:List UInt8).map cls∈C0;decide,?_,by show ([]:List UInt8).map cls∈C2;decide,takT_cls _ _ _,⟨rfl,ct.1⟩,⟨rfl,ct.2⟩,promS_cls ho.p,rfl,hs⟩;dsimp only;cases takesI P.bd m.f m.t
   · exact List.mem_cons_self
   rw [cond_true,List.map_cons,cf.1];decide
 rw [if_neg h6];refine ⟨letB_cls (by omega),?_,?_,takT_cls _ _ _,⟨rfl,ct.1⟩,⟨rfl,ct.2⟩,by show ([]:List UInt8).map cls∈C6;decide,rfl,hs⟩
 · show (apF P m.f m.t).map cls∈C1;unfold apF;cases (legAny P (othS P.bd m.f m.t)&&(!(legAny P (filS P.bd m.f m.t))||legAny P (rnkS P.bd m.f m.t)))
   · exact List.mem_cons_self
   rw [cond_true,List.map_cons,cf.1];decide
 show (apR P m.f m.t).map cls∈C2;unfold apR;cases (legAny P (othS P.bd m.f m.t)&&legAny P (filS P.bd m.f m.t))
 · exact List.mem_cons_self
 rw [cond_true,List.map_cons,cf.2];decide
theorem lan_form(hV:ValidS P)(h:LegM P m)(hc:castI P.bd m.f m.t=0){s:List UInt8}(hs:s.map cls∈C7):Form (lanQ P m) (fB m.t) (rB m.t) s:=by
 have ho:=h.ok hV;have cf:=sq_cls ho.f;have ct:=sq_cls ho.t;have hk:=leg_kind hV h;unfold lanQ;rw [if_neg (λhh=>hh hc)];refine ⟨letB_cls (by omega),?_,?_,takT_cls _ _ _,⟨rfl,ct.1⟩,⟨rfl,ct.2⟩,promS_cls ho.p,rfl,hs⟩
 · show [fB m.f].map cls∈C1;rw [List.map_cons,cf.1];decide
 show [rB m.f].map cls∈C2;rw [List.map_cons,cf.2];decide
theorem body_cast(hc:castI P.bd m.f m.t≠0):bodyS P m.f m.t m.p=oooS (2-castI P.bd m.f m.t):=by
 unfold bodyS;rcases castI_rng P.bd m.f m.t with e|e|e
 · exact absurd e hc
 · rw [e];rfl
 rw [e];rfl
theorem san_clean(h:LegM P m):cleanP (sanQ P m)=bodyS P m.f m.t m.p:=by
 by_cases hc:castI P.bd m.f m.t=0
 · unfold sanQ bodyS cleanP;rw [if_neg (λhh=>hh hc),hc];simp only [show ((0:Int)==1)=false from rfl,show ((0:Int)==2)=false from rfl,cond_false];by_cases h6:kindOf (P.bd m.f.toNat)=6
   · rw [if_pos h6,h6];simp only [show ((6:Int)==6)=true from rfl,cond_true];unfold takT;cases takesI P.bd m.f m.t<;>simp
   rw [if_neg h6,beq_eq_false_iff_ne.2 h6,apart_eq];simp
 rw [body_cast hc];unfold sanQ;rw [if_pos hc];rfl
theorem san_parts(hV:ValidS P)(h:LegM P m){s:List UInt8}(hs:s.map cls∈C7):zzR (bodyS P m.f m.t m.p++s)=some (sanQ P m)/\Short (sanQ P m):=by
 by_cases hc:castI P.bd m.f m.t=0
 · have hF:=san_form hV h hc hs;refine ⟨?_,form_short hF⟩;have:=zz_form hF;have e:(sanQ P m).a++(sanQ P m).b++(sanQ P m).c++(sanQ P m).d++[fB m.t,rB m.t]++(sanQ P m).g=bodyS P m.f m.t m.p:=by
    rw [←san_clean h];unfold cleanP;rw [hF.e.1,hF.f.1,hF.h];simp
   rw [e] at this;exact this
 rw [body_cast hc];have e:sanQ P m=castP (oooS (2-castI P.bd m.f m.t)):=by unfold sanQ;rw [if_pos hc]
 rw [e];exact ⟨zz_castle _ s hs,castP_short _⟩
theorem lan_parts(hV:ValidS P)(h:LegM P m):zzR (lanS P m.f m.t m.p)=some (lanQ P m)/\Short (lanQ P m):=by
 have hs:=sgnS_cls P m.f m.t m.p;by_cases hc:castI P.bd m.f m.t=0
 · have hF:=lan_form hV h hc hs;refine ⟨?_,form_short hF⟩;have:=zz_form hF;have e:(lanQ P m).a++(lanQ P m).b++(lanQ P m).c++(lanQ P m).d++[fB m.t,rB m.t]++(lanQ P m).g++sgnS P m.f m.t m.p=lanS P m.f m.t m.p:=by
    unfold lanS lanQ;rw [if_neg (λhh=>hh hc),hc];simp only [show decide (0>0)=false from rfl,cond_false];simp
   rw [e] at this;exact this
 have e:lanQ P m=castP (oooS (2-castI P.bd m.f m.t)):=by unfold lanQ;rw [if_pos hc]
 have e2:lanS P m.f m.t m.p=oooS (2-castI P.bd m.f m.t)++sgnS P m.f m.t m.p:=by
  unfold lanS;rw [show decide (castI P.bd m.f m.t>0)=true by rw [decide_eq_true_eq];rcases castI_rng P.bd m.f m.t with e|e|e<;>omega,body_cast hc];rfl
 rw [e,e2];exact ⟨zz_castle _ _ hs,castP_short _⟩
theorem decOk(hV:ValidS P)(h:LegM P m)(hT:TagM P m M):DecOk (boardOf P.bd) (psOf P) M/\clT (boardOf P.bd) (psOf P) M=bodyS P m.f m.t m.p:=by
 have hb:=text_body hV h hT;obtain ⟨c1,c2⟩:=sgnI_cls (boardOf P.bd) (psOf P) M;have hp:=san_parts hV h c1;have e:encI (boardOf P.bd) (psOf P) (allL (boardOf P.bd) (psOf P)) M=bodyS P m.f m.t m.p++sgnI (boardOf P.bd) (psOf P) M:=by unfold encI;rw [hb]
 refine ⟨⟨upPre hV h hT,?_,⟨_,by rw [e];exact hp.1,hp.2⟩⟩,?_⟩
 · rw [e,List.length_append];have:=bodyS_len P m.f m.t m.p;omega
 unfold clT;rw [e,hp.1];exact san_clean h
end
section
variable{P:SP}{m n:Sm}
theorem shape(h:LegM P n):(castI P.bd n.f n.t≠0/\bodyS P n.f n.t n.p=oooS (2-castI P.bd n.f n.t))\/
  (kindOf (P.bd n.f.toNat)=6/\takesI P.bd n.f n.t=true/\bodyS P n.f n.t n.p=fB n.f::120::fB n.t::rB n.t::promS n.p)\/
  (kindOf (P.bd n.f.toNat)=6/\takesI P.bd n.f n.t=false/\bodyS P n.f n.t n.p=fB n.t::rB n.t::promS n.p)\/
  (castI P.bd n.f n.t=0/\kindOf (P.bd n.f.toNat)≠6/\bodyS P n.f n.t n.p=((letB (kindOf (P.bd n.f.toNat))++(apF P n.f n.t++apR P n.f n.t))++takT P.bd n.f n.t)++[fB n.t,rB n.t]):=by
 by_cases hc:castI P.bd n.f n.t=0
 · right;have e0:=san_clean h;by_cases h6:kindOf (P.bd n.f.toNat)=6
   · unfold sanQ cleanP at e0;rw [if_neg (λhh=>hh hc),if_pos h6] at e0;unfold takT at e0;cases ht:takesI P.bd n.f n.t<;>rw [ht] at e0
     · right;left;exact ⟨h6,rfl,by rw [←e0];simp⟩
     left;exact ⟨h6,rfl,by rw [←e0];simp⟩
   right;right;refine ⟨hc,h6,?_⟩;unfold sanQ cleanP at e0;rw [if_neg (λhh=>hh hc),if_neg h6] at e0;rw [←e0];simp
 exact Or.inl ⟨hc,body_cast hc⟩
theorem leg_side(hV:ValidS P)(h:LegM P n):sideOf (P.bd n.f.toNat)=P.turn:=by
 have hT:=hV.turn;cases h with
 |std f t p h ho=>exact h.1.side
 |cast r h hM=>dsimp only;rw [hM.king];unfold sideOf;split<;>omega
theorem leg_bd(hV:ValidS P)(h:LegM P n):P.bd n.f.toNat=kindOf (P.bd n.f.toNat)+6*P.turn:=by
 have hf:=(h.ok hV).f;have hx:=hV.bd n.f.toNat (by omega);have h0:=h.x0 hV;have:=(kind_cases (x:=P.bd n.f.toNat) (by omega)).1;rw [leg_side hV h] at this;omega
theorem legAny_of(hV:ValidS P)(h:LegM P m){g:Sm->Bool}(hg:g m=true):legAny P g=true:=by
 obtain ⟨a,b⟩:=h.okS hV;unfold legAny;exact List.any_eq_true.2 ⟨m,a,by rw [b,hg];rfl⟩
theorem sq_eq{a b:Int}(h:a%8=b%8)(h':a/8=b/8):a=b:=by omega
theorem o_cls(j:Int):∃r,oooS j=79::r:=by unfold oooS;split<;>exact ⟨_,rfl⟩
theorem cls_no{x y:UInt8}(e:x=y)(h:cls x≠cls y):False:=h (by rw [e])
theorem sm_ext{a b:Sm}(h1:a.f=b.f)(h2:a.t=b.t)(h3:a.p=b.p):a=b:=by cases a;cases b;simp only at h1 h2 h3;rw [h1,h2,h3]
theorem piece_one(hV:ValidS P)(h:LegM P m)(h6:kindOf (P.bd m.f.toNat)≠6)(h':LegM P n){b c:List UInt8}(hb:b=[]\/b=[fB m.f])(hc:c=[]\/c=[rB m.f])
  (e:bodyS P n.f n.t n.p=((letB (kindOf (P.bd m.f.toNat))++(b++c))++takT P.bd m.f m.t)++[fB m.t,rB m.t]):n=m:=by
 have ho:=h.ok hV;have ho':=h'.ok hV;have hk:=leg_kind hV h;have hk':=leg_kind hV h';obtain ⟨x,ex,hx⟩:=letB_get (k:=kindOf (P.bd m.f.toNat)) (by omega);have cf:=sq_cls ho.f;have cf':=sq_cls ho'.f;have ct':=sq_cls ho'.t;rcases shape h' with ⟨_,e'⟩|⟨_,_,e'⟩|⟨_,_,e'⟩|⟨hc',h6',e'⟩
 · exfalso;obtain ⟨r,er⟩:=o_cls (2-castI P.bd n.f n.t);rw [e',er,ex] at e;have:=(List.cons.inj e).1;rw [←this] at hx;revert hx;decide
 · exfalso;rw [e',ex] at e;have:=(List.cons.inj e).1;rw [←this,cf'.1] at hx;omega
 · exfalso;rw [e',ex] at e;have:=(List.cons.inj e).1;rw [←this,ct'.1] at hx;omega
 rw [e'] at e;obtain ⟨y,ey,hy⟩:=letB_get (k:=kindOf (P.bd n.f.toNat)) (by omega);obtain ⟨e1,e2⟩:=List.append_inj' e rfl;have et:n.t=m.t:=by
  have a:=(List.cons.inj e2).1;have b:=(List.cons.inj (List.cons.inj e2).2).1;exact sq_eq ((sq_inj ho'.t ho.t).1 a) ((sq_inj ho'.t ho.t).2 b)
 have ek:kindOf (P.bd n.f.toNat)=kindOf (P.bd m.f.toNat):=by
  refine letB_inj (by omega) (by omega) ?_;rw [ex,ey] at e1;rw [ex,ey,(List.cons.inj e1).1]
 have etk:takT P.bd n.f n.t=takT P.bd m.f m.t:=by
  unfold takT takesI;rw [et,beq_eq_false_iff_ne.2 h6,beq_eq_false_iff_ne.2 h6'];rfl
 rw [etk,ek] at e1;have e3:=List.append_cancel_left (List.append_cancel_right e1);have ep:n.p=m.p:=(leg_promo h' h6').trans (leg_promo h h6).symm;by_cases ef:n.f=m.f
 · exact sm_ext ef et ep
 exfalso;have ebd:P.bd m.f.toNat=P.bd n.f.toNat:=by rw [leg_bd hV h,leg_bd hV h',ek]
 have ho1:othS P.bd n.f n.t m=true:=by
  unfold othS skpS;rw [et,ebd,show (m.f==n.f)=false from beq_eq_false_iff_ne.2 (Ne.symm ef)];simp
 have a1:=legAny_of hV h ho1;unfold apF apR at e3;rw [a1] at e3;have hfil:fB m.f=fB n.f->legAny P (filS P.bd n.f n.t)=true:=λhh=>legAny_of hV h (by unfold filS;rw [ho1,(sq_inj ho.f ho'.f).1 hh];simp);have hrnk:rB m.f=rB n.f->legAny P (rnkS P.bd n.f n.t)=true:=λhh=>legAny_of hV h (by unfold rnkS;rw [ho1,(sq_inj ho.f ho'.f).2 hh];simp);have n1:fB n.f≠rB m.f:=λhh=>cls_no hh (by rw [cf'.1,cf.2];decide);have n2:rB n.f≠fB m.f:=λhh=>cls_no hh (by rw [cf'.2,cf.1];decide);cases hF:legAny P (filS P.bd n.f n.t)<;>cases hR:legAny P (rnkS P.bd n.f n.t)<;>rw [hF,hR] at e3<;>rw [hF] at hfil<;>rw [hR] at hrnk<;>
  rcases hb with rfl|rfl<;>rcases hc with rfl|rfl<;>simp at e3<;>
  first
   |exact n1 e3
   |exact n2 e3
   |exact absurd (hfil e3.symm) (by decide)
   |exact absurd (hrnk e3.symm) (by decide)
   |exact ef (sq_eq ((sq_inj ho'.f ho.f).1 e3.1) ((sq_inj ho'.f ho.f).2 e3.2))
theorem pawn_way(hV:ValidS P)(h:LegM P m)(h6:kindOf (P.bd m.f.toNat)=6):(takesI P.bd m.f m.t=true->m.t/8-m.f/8=1-2*P.turn)/\
  (takesI P.bd m.f m.t=false->(m.t=m.f+8*(1-2*P.turn)\/(m.t=m.f+16*(1-2*P.turn)/\P.bd (m.f+8*(1-2*P.turn)).toNat=0))):=by
 have hT:=hV.turn;cases h with
 |cast r h hM=>dsimp only at h6;rw [hM.king] at h6;unfold kindOf at h6;split at h6<;>omega
 |std f t p h ho=>
  dsimp only at*
  obtain ⟨_,h1⟩:=std_pawn hV h.1 h6;unfold takesI;simp only [Int.toNat_natCast] at h6⊢;rw [h6];rcases h1 with ⟨a,b⟩|⟨a,b,c,d⟩|⟨a,b,c⟩
  · refine ⟨λhh=>?_,λ_=>Or.inl a⟩;rw [b] at hh;simp at hh;omega
  · refine ⟨λhh=>?_,λ_=>Or.inr ⟨a,c⟩⟩;rw [d] at hh;simp at hh;omega
  refine ⟨λ_=>b,λhh=>?_⟩;simp at hh;omega
theorem pawn_one(hV:ValidS P)(h:LegM P m)(h6:kindOf (P.bd m.f.toNat)=6)(h':LegM P n){X:List UInt8}
  (hX:(takesI P.bd m.f m.t=true/\X=fB m.f::120::fB m.t::rB m.t::promS m.p)\/(takesI P.bd m.f m.t=false/\X=fB m.t::rB m.t::promS m.p)\/
   (∃y r,X=fB m.f::rB m.f::y::r/\(cls y=5\/cls y=1))\/(∃r,X=120::r))(e:bodyS P n.f n.t n.p=X):n=m:=by
 have hT:=hV.turn;have ho:=h.ok hV;have ho':=h'.ok hV;have hk':=leg_kind hV h';have cf:=sq_cls ho.f;have cf':=sq_cls ho'.f;have ct':=sq_cls ho'.t;have ct:=sq_cls ho.t;have c120:cls 120=5:=by decide
 have c79:cls 79=8:=by decide
 have c61:cls 61=6:=by decide
 have hhead:∀z r,bodyS P n.f n.t n.p=z::r->cls z=1\/cls z=5:=by
  intro z r hz;rw [e] at hz;rcases hX with ⟨_,eX⟩|⟨_,eX⟩|⟨y,r',eX,_⟩|⟨r',eX⟩<;>rw [eX] at hz<;>rw [←(List.cons.inj hz).1]
  · exact Or.inl cf.1
  · exact Or.inl ct.1
  · exact Or.inl cf.1
  exact Or.inr c120
 rcases shape h' with ⟨_,e'⟩|⟨h6',tk',e'⟩|⟨h6',tk',e'⟩|⟨hc',h6',e'⟩
 · exfalso;obtain ⟨r,er⟩:=o_cls (2-castI P.bd n.f n.t);rw [er] at e';have:=hhead _ _ e';omega
 · rw [e'] at e;rcases hX with ⟨tk,eX⟩|⟨tk,eX⟩|⟨y,r',eX,_⟩|⟨r',eX⟩<;>rw [eX] at e
   · simp only [List.cons.injEq,true_and] at e;obtain ⟨e1,e2,e3,e4⟩:=e;have et:=sq_eq ((sq_inj ho'.t ho.t).1 e2) ((sq_inj ho'.t ho.t).2 e3);have w:=(pawn_way hV h h6).1 tk;have w':=(pawn_way hV h' h6').1 tk';exact sm_ext (sq_eq ((sq_inj ho'.f ho.f).1 e1) (by omega)) et (promS_inj ho'.p ho.p e4)
   · simp only [List.cons.injEq] at e;exact (cls_no e.2.1 (by rw [c120,ct.2];decide)).elim
   · simp only [List.cons.injEq] at e;exact (cls_no e.2.1 (by rw [c120,cf.2];decide)).elim
   exact (cls_no (List.cons.inj e).1 (by rw [cf'.1,c120];decide)).elim
 · rw [e'] at e;rcases hX with ⟨tk,eX⟩|⟨tk,eX⟩|⟨y,r',eX,hy⟩|⟨r',eX⟩<;>rw [eX] at e
   · simp only [List.cons.injEq] at e;exact (cls_no e.2.1 (by rw [ct'.2,c120];decide)).elim
   · simp only [List.cons.injEq] at e;obtain ⟨e2,e3,e4⟩:=e;have et:=sq_eq ((sq_inj ho'.t ho.t).1 e2) ((sq_inj ho'.t ho.t).2 e3);have w:=(pawn_way hV h h6).2 tk;have w':=(pawn_way hV h' h6').2 tk';have x0:=h.x0 hV;have x0':=h'.x0 hV;refine sm_ext ?_ et (promS_inj ho'.p ho.p e4);rcases w with w|⟨w,z⟩<;>rcases w' with w'|⟨w',z'⟩
     · omega
     · exfalso;apply x0;rw [←z'];congr 2;omega
     · exfalso;apply x0';rw [←z];congr 2;omega
     omega
   · exfalso;simp only [List.cons.injEq] at e;obtain ⟨_,_,e4⟩:=e;rcases promS_get ho'.p with ⟨_,ep⟩|⟨_,x,ep,_⟩<;>rw [ep] at e4
     · cases e4
     have:=(List.cons.inj e4).1;rw [←this,c61] at hy;omega
   exact (cls_no (List.cons.inj e).1 (by rw [ct'.1,c120];decide)).elim
 exfalso;obtain ⟨y,ey,hy⟩:=letB_get (k:=kindOf (P.bd n.f.toNat)) (by omega);rw [ey] at e';have:=hhead _ _ e';omega
theorem cast_one(hV:ValidS P)(h:LegM P m)(hc:castI P.bd m.f m.t≠0)(h':LegM P n)(e:bodyS P n.f n.t n.p=oooS (2-castI P.bd m.f m.t)):n=m:=by
 have hT:=hV.turn;have ho:=h.ok hV;have ho':=h'.ok hV;have hk':=leg_kind hV h';have cf':=sq_cls ho'.f;have ct':=sq_cls ho'.t;have c79:cls 79=8:=by decide
 obtain ⟨r,er⟩:=o_cls (2-castI P.bd m.f m.t);have k1:∀{x:Sm},castI P.bd x.f x.t≠0->kindOf (P.bd x.f.toNat)=1/\x.t=x.f+(if castI P.bd x.f x.t=1 then 2 else-2):=by
  intro x hx;unfold castI at hx⊢;cases h1:(kindOf (P.bd x.f.toNat) !=1)<;>rw [h1] at hx
  · rw [bne_eq_false_iff_eq] at h1;cases h2:(x.t-x.f==2)<;>rw [h2] at hx
    · cases h3:(x.t-x.f==(-2))<;>rw [h3] at hx
      · exact absurd rfl hx
      rw [beq_iff_eq] at h3;exact ⟨h1,by simp;omega⟩
    rw [beq_iff_eq] at h2;exact ⟨h1,by simp;omega⟩
  exact absurd rfl hx
 rcases shape h' with ⟨hc',e'⟩|⟨h6',tk',e'⟩|⟨h6',tk',e'⟩|⟨hc',h6',e'⟩
 · rw [e'] at e;have ec:castI P.bd n.f n.t=castI P.bd m.f m.t:=by
    rcases castI_rng P.bd n.f n.t with a|a|a<;>rcases castI_rng P.bd m.f m.t with b|b|b<;>rw [a,b] at e<;>first|omega|exact absurd a hc'|exact absurd b hc|(exfalso;revert e;decide)
   obtain ⟨q1,q2⟩:=k1 hc;obtain ⟨q1',q2'⟩:=k1 hc';obtain ⟨k,hk,_⟩:=valid_kings hV hT;have u1:=hk.2.2 m.f.toNat (by have:=ho.f;omega) (by rw [leg_bd hV h,q1]);have u2:=hk.2.2 n.f.toNat (by have:=ho'.f;omega) (by rw [leg_bd hV h',q1']);have ef:n.f=m.f:=by have:=ho.f;have:=ho'.f;omega
   exact sm_ext ef (by rw [q2,q2',ec,ef]) ((leg_promo h' (by omega)).trans (leg_promo h (by omega)).symm)
 · rw [e',er] at e;exact (cls_no (List.cons.inj e).1 (by rw [cf'.1,c79];decide)).elim
 · rw [e',er] at e;exact (cls_no (List.cons.inj e).1 (by rw [ct'.1,c79];decide)).elim
 obtain ⟨y,ey,hy⟩:=letB_get (k:=kindOf (P.bd n.f.toNat)) (by omega);rw [e',er,ey] at e;exact (cls_no (List.cons.inj e).1 (by rw [c79];omega)).elim
end
theorem c196{c:GC}{p b:Nat}{vm:Value}{S:Ps}{w:World}(hp:At w p (.cells (psCells b vm S) 110 (0,0))){B:Bd}(hb:At w b (.cells (bdCells B) 135 (0,0)))(hG:Glob c w)(hpre:MvPre B S)(hbase:c.base<=p)(hca:Cache w vm B S)
  (l:List UInt8)(q:Parts)(hz:zzR l=some q)(hl:l.length<=100000)(hs:Short q)(hd:∀M∈allL B S,DecOk B S M)(hex:∃M∈allL B S,hitT B S q M=true):
  CQ 196 [.agg #[],pz p,.string (bstr l)] w (λe w'=>∃t M,e=.returned (.tuple #[pz t,.nilIface])/\Mod [p] w w'/\At w' t (.cells (mvCells (.pointer none) M) 98 (0,0))/\M∈allL B S/\hitT B S q M=true):=by
 refine en func196 ntmps196 ?_;refine zw<|reg_alloc #[] 90 (some 3) (by kernel_rfl) λb0 w1 hn1=>?_;refine yS 2<|zx<|yS 3<|zC (some 11) (c175 (hp.on hn1.mod) (hb.on hn1.mod) (Glob.on hG hn1.mod) hpre hbase (Cache.on hca hn1.mod) l q hz hl hs hd hex) ?_;rintro _ w2 ⟨t,M,rfl,hm,ht,hM,hh⟩;refine ⟨_,rfl,?_⟩;exact yS 4<|zz<|w_ret (ret2 results196 rfl rfl ⟨t,M,rfl,Mod.fresh' (Mod.of_nil hn1.mod) hm (by simp),ht,hM,hh⟩)
set_option maxHeartbeats 2000000 in
theorem c15s{c:GC}{w:World}(P:SP)(hG:Glob c w)(hP:SPok P)(hpre:MvPre (boardOf P.bd) (psOf P))(x y z:Int)(hex:∃i,i<(allL (boardOf P.bd) (psOf P)).length/\eqM (mvAt (allL (boardOf P.bd) (psOf P)) i) x y z=true)(hr:∀M∈(allL (boardOf P.bd) (psOf P)),MvOk M)(hd:∀M∈(allL (boardOf P.bd) (psOf P)),DecOk (boardOf P.bd) (psOf P) M):
  CQ 15 [.int .i64 0,.agg (spCells P),.agg #[.int .i64 x,.int .i64 y,.int .i64 z]] w (fun e w'=>∃M∈(allL (boardOf P.bd) (psOf P)),eqM M x y z=true/\e=.returned (.tuple #[.string (bstr (encI (boardOf P.bd) (psOf P) (allL (boardOf P.bd) (psOf P)) M)),.bool true])/\Mod [] w w'):=by
 have hm0:Mod [] w w:=Mod.refl _ _;have hGs:=hG.size;refine enterD (n:=22) func15 rfl ntmps15 rfl<|w_seq<|w_region<|zA (spCells P) 24 (some 4) ?_;intro b1 w2 hn3;have hb4:c.base<=b1:=Glob.lt hG hn3;have hb5:=Nat.le_trans hm0.size hn3.base;have hm6:=hn3.mod;have hm8:=Mod.trans hm0 (Mod.of_nil hm6);refine zA (#[.int .i64 x,.int .i64 y,.int .i64 z]) 30 (some 5) ?_;intro b10 w11 hn12;have hb13:c.base<=b10:=Glob.lt (yG w2) hn12;have hb14:=Nat.le_trans hm8.size hn12.base;have hm15:=hn12.mod;have hm18:=Mod.trans hm8 (Mod.of_nil hm15);refine zA (#[.string (⟨#[]⟩)]) 9 (some 6) ?_;intro b20 w21 hn22;have hb23:c.base<=b20:=Glob.lt (yG w11) hn22;have hb24:=Nat.le_trans hm18.size hn22.base;have hm25:=hn22.mod;have hm29:=Mod.trans hm18 (Mod.of_nil hm25);refine zA (#[.bool false]) 4 (some 7) ?_;intro b31 w32 hn33;have hb34:c.base<=b31:=Glob.lt (yG w21) hn33;have hb35:=Nat.le_trans hm29.size hn33.base;have hm36:=hn33.mod;have hm41:=Mod.trans hm29 (Mod.of_nil hm36);refine zz<|w_seq<|w_region<|reg_run (v:=.func (.func 26) #[] #[.pointer (some ⟨b20,0,none⟩),.pointer (some ⟨b31,0,none⟩)]) (w':=w32) rfl rfl rfl (by kernel_rfl) (.inl (by kernel_rfl))<|reg_defer (def26 (.pointer (some ⟨b20,0,none⟩)) (.pointer (some ⟨b31,0,none⟩))) rfl rfl rfl (by kernel_rfl) (by kernel_rfl)<|zz<|w_seq<|w_region<|yV 1 [.row ⟨b1,0,none⟩ 69 (spCells P)] [.agg (spCells P)] (At.row ya (spCells_size P))<|zC (some 11) (c27 P yg hP) ?_;rintro _ w43 ⟨p45,b46,rfl,hm44,hf47,hf48,hb49,hb50⟩;refine ⟨_,rfl,?_⟩;have hb51:=Nat.le_trans hm41.size hb49;have hm57:=Mod.trans hm41 (Mod.of_nil hm44);refine yS 1<|zz<|w_seq<|a_start (f:=12) (by kernel_rfl) (by kernel_rfl) fun w58 hm59=>?_;have hf60:=At.on (yA w43 b1) hm59;have hf61:=At.on (yA w43 b10) hm59;have hf62:=At.on (yA w43 b20) hm59;have hf63:=At.on (yA w43 b31) hm59;have hf64:=At.on hf47 hm59;have hf65:=At.on hf48 hm59;have hG66:=Glob.on (yG w43) hm59;have hm67:=Mod.trans hm57 (Mod.of_nil hm59);refine a_take 0 (.int .i64 0) (some 12) [] [] (by kernel_rfl) (by kernel_rfl) trivial<|a_take 2 (.pointer (some ⟨p45,0,none⟩)) (some 14) [] [] (by kernel_rfl) (by kernel_rfl) trivial<|a_take 3 (.pointer (some ⟨p45,0,none⟩)) (some 15) [] [] (by kernel_rfl) (by kernel_rfl) trivial<|a_both 1 4 28 [.int .i64 0] (some 13) (by kernel_rfl) (.agg (#[.int .i64 x,.int .i64 y,.int .i64 z])) (some 16) [.row ⟨b10,0,none⟩ 3 (#[.int .i64 x,.int .i64 y,.int .i64 z])] [.agg (#[.int .i64 x,.int .i64 y,.int .i64 z])] (by kernel_rfl) (by kernel_rfl) (c28_0) (At.row hf61 rfl) ?_ ?_
 ·skip
  rintro _ w68 ⟨rfl,hm69⟩;refine ⟨_,rfl,?_⟩;have hf74:=At.on hf64 hm69;have hf75:=At.on hf65 hm69;have hm77:=Mod.trans hm67 (Mod.of_nil hm69);refine a_takeR 6 (.func (.method "Encode") #[.iface 89 (.agg #[])] #[]) rfl rfl rfl (by kernel_rfl) (fun _=>by kernel_rfl) (by kernel_rfl)<|a_takeR 7 (.func (.method "Encode") #[.iface 89 (.agg #[])] #[]) rfl rfl rfl (by kernel_rfl) (fun _=>by kernel_rfl) (by kernel_rfl)<|a_take 8 (.iface 89 (.agg #[])) (some 20) [] [] (by kernel_rfl) (by kernel_rfl) trivial<|a_one 4 (.agg (#[.int .i64 x,.int .i64 y,.int .i64 z])) (some 16) [.row ⟨b10,0,none⟩ 3 (#[.int .i64 x,.int .i64 y,.int .i64 z])] [.agg (#[.int .i64 x,.int .i64 y,.int .i64 z])] (by kernel_rfl) (by kernel_rfl) (At.row ya rfl)<|a_call 5 29 [.pointer (some ⟨p45,0,none⟩),.agg (#[.int .i64 x,.int .i64 y,.int .i64 z])] (some 17) (by kernel_rfl) (by kernel_rfl) (c29 (S:=psOf P) hf74 hf75 yg hpre (by have:=hG.size;omega) (.inl rfl) x y z hex hr) ?_;rintro _ w78 ⟨q80,M81,vm82,rfl,hm79,hf83,hca84,hf85,hb86,hin87,heq88⟩;refine ⟨_,rfl,?_⟩;have hb89:=Nat.le_trans hm77.size hb86;have hf94:=At.keep hf75 hm79 (not_mem1 (At.ne hf75 hf74 rfl));have hG95:=Glob.keep (yG w68) hm79 (by simp<;>omega);have hm96:=Mod.fresh' hm77 hm79 (by simp<;>omega);obtain ⟨gc97,cc98,rfl,hoc99⟩:=hca84;refine a_enter 9 176 [.agg #[],.pointer (some ⟨p45,0,none⟩),.pointer (some ⟨q80,0,none⟩)] rfl rfl rfl (by kernel_rfl) (by kernel_rfl) (by kernel_rfl) (c176 hf83 hoc99 hf94 hf85 hG95 (by have:=allL_len hpre;omega) (List.length_pos_of_mem hin87) (hd M81 hin87).up) ?_;rintro _ w100 ⟨rfl,hm101⟩;refine ⟨_,rfl,?_⟩;have hf105:=At.on (yA w78 b31) hm101;have hm110:=Mod.trans hm96 (Mod.of_nil hm101);refine a_tail 10 (by kernel_rfl) (by kernel_rfl)<|zS b20 0 (.string (bstr (encI (boardOf P.bd) (psOf P) (allL (boardOf P.bd) (psOf P)) M81))) ?_;intro w111 hu112;have hf113:At w111 b20 (.cells (#[.string (bstr (encI (boardOf P.bd) (psOf P) (allL (boardOf P.bd) (psOf P)) M81))]) 9 (0,0)):=hu112.at_;have hf116:=At.keep hf105 hu112.mod (not_mem1 (At.ne hf105 (yA w100 b20) rfl));have hm121:=Mod.fresh' hm110 hu112.mod (by simp<;>omega);refine zS b31 0 (.bool true) ?_;intro w122 hu123;have hf124:At w122 b31 (.cells (#[.bool true]) 4 (0,0)):=hu123.at_;have hf130:=At.keep hf113 hu123.mod (not_mem1 (At.ne hf113 hf116 rfl));have hm132:=Mod.fresh' hm121 hu123.mod (by simp<;>omega);exact ze<|only_n<|n_then<|w_ret<|retD26 results15 rfl rfl (by kernel_rfl) (by kernel_rfl) (At.cell (j:=0) hf130 rfl) (At.cell (j:=0) hf124 rfl) ⟨M81,hin87,heq88,rfl,hm132⟩
 ·skip
  refine a_call 1 28 [.int .i64 0] (some 13) (by kernel_rfl) (by kernel_rfl) (c28_0) ?_;rintro _ w133 ⟨rfl,hm134⟩;refine ⟨_,rfl,?_⟩;have hf135:=At.on hf60 hm134;have hf136:=At.on hf61 hm134;have hf137:=At.on hf62 hm134;have hf138:=At.on hf63 hm134;have hf139:=At.on hf64 hm134;have hf140:=At.on hf65 hm134;have hG141:=Glob.on hG66 hm134;have hm142:=Mod.trans hm67 (Mod.of_nil hm134);refine a_takeR 6 (.func (.method "Encode") #[.iface 89 (.agg #[])] #[]) rfl rfl rfl (by kernel_rfl) (fun _=>by kernel_rfl) (by kernel_rfl)<|a_takeR 7 (.func (.method "Encode") #[.iface 89 (.agg #[])] #[]) rfl rfl rfl (by kernel_rfl) (fun _=>by kernel_rfl) (by kernel_rfl)<|a_take 8 (.iface 89 (.agg #[])) (some 20) [] [] (by kernel_rfl) (by kernel_rfl) trivial<|a_call 5 29 [.pointer (some ⟨p45,0,none⟩),.agg (#[.int .i64 x,.int .i64 y,.int .i64 z])] (some 17) (by kernel_rfl) (by kernel_rfl) (c29 (S:=psOf P) hf139 hf140 hG141 hpre (by have:=hG.size;omega) (.inl rfl) x y z hex hr) ?_;rintro _ w143 ⟨q145,M146,vm147,rfl,hm144,hf148,hca149,hf150,hb151,hin152,heq153⟩;refine ⟨_,rfl,?_⟩;have hb154:=Nat.le_trans hm142.size hb151;have hf155:=At.keep hf135 hm144 (not_mem1 (At.ne hf135 hf139 rfl));have hf156:=At.keep hf136 hm144 (not_mem1 (At.ne hf136 hf139 rfl));have hf157:=At.keep hf137 hm144 (not_mem1 (At.ne hf137 hf139 rfl));have hf158:=At.keep hf138 hm144 (not_mem1 (At.ne hf138 hf139 rfl));have hf159:=At.keep hf140 hm144 (not_mem1 (At.ne hf140 hf139 rfl));have hG160:=Glob.keep hG141 hm144 (by simp<;>omega);have hm161:=Mod.fresh' hm142 hm144 (by simp<;>omega);obtain ⟨gc162,cc163,rfl,hoc164⟩:=hca149;refine a_enter 9 176 [.agg #[],.pointer (some ⟨p45,0,none⟩),.pointer (some ⟨q145,0,none⟩)] rfl rfl rfl (by kernel_rfl) (by kernel_rfl) (by kernel_rfl) (c176 hf148 hoc164 hf159 hf150 hG160 (by have:=allL_len hpre;omega) (List.length_pos_of_mem hin152) (hd M146 hin152).up) ?_;rintro _ w165 ⟨rfl,hm166⟩;refine ⟨_,rfl,?_⟩;have hf167:=At.on hf155 hm166;have hf168:=At.on hf156 hm166;have hf169:=At.on hf157 hm166;have hf170:=At.on hf158 hm166;have hf171:=At.on hf159 hm166;have hf172:=At.on hf148 hm166;have hf173:=At.on hf150 hm166;have hG174:=Glob.on hG160 hm166;have hm175:=Mod.trans hm161 (Mod.of_nil hm166);refine a_tail 10 (by kernel_rfl) (by kernel_rfl)<|zS b20 0 (.string (bstr (encI (boardOf P.bd) (psOf P) (allL (boardOf P.bd) (psOf P)) M146))) ?_;intro w176 hu177;have hf178:At w176 b20 (.cells (#[.string (bstr (encI (boardOf P.bd) (psOf P) (allL (boardOf P.bd) (psOf P)) M146))]) 9 (0,0)):=hu177.at_;have hf179:=At.keep hf167 hu177.mod (not_mem1 (At.ne hf167 hf169 rfl));have hf180:=At.keep hf168 hu177.mod (not_mem1 (At.ne hf168 hf169 rfl));have hf181:=At.keep hf170 hu177.mod (not_mem1 (At.ne hf170 hf169 rfl));have hf182:=At.keep hf171 hu177.mod (not_mem1 (At.ne hf171 hf169 rfl));have hf183:=At.keep hf172 hu177.mod (not_mem1 (At.ne hf172 hf169 rfl));have hf184:=At.keep hf173 hu177.mod (not_mem1 (At.ne hf173 hf169 rfl));have hG185:=Glob.keep hG174 hu177.mod (by simp<;>omega)
  have hm186:=Mod.fresh' hm175 hu177.mod (by simp<;>omega);refine zS b31 0 (.bool true) ?_;intro w187 hu188;have hf189:At w187 b31 (.cells (#[.bool true]) 4 (0,0)):=hu188.at_;have hf190:=At.keep hf179 hu188.mod (not_mem1 (At.ne hf179 hf181 rfl));have hf191:=At.keep hf180 hu188.mod (not_mem1 (At.ne hf180 hf181 rfl));have hf192:=At.keep hf182 hu188.mod (not_mem1 (At.ne hf182 hf181 rfl));have hf193:=At.keep hf183 hu188.mod (not_mem1 (At.ne hf183 hf181 rfl));have hf194:=At.keep hf184 hu188.mod (not_mem1 (At.ne hf184 hf181 rfl));have hf195:=At.keep hf178 hu188.mod (not_mem1 (At.ne hf178 hf181 rfl));have hG196:=Glob.keep hG185 hu188.mod (by simp<;>omega);have hm197:=Mod.fresh' hm186 hu188.mod (by simp<;>omega);exact ze<|only_n<|n_then<|w_ret<|retD26 results15 rfl rfl (by kernel_rfl) (by kernel_rfl) (At.cell (j:=0) hf195 rfl) (At.cell (j:=0) hf189 rfl) ⟨M146,hin152,heq153,rfl,hm197⟩
set_option maxHeartbeats 2000000 in
theorem c15l{c:GC}{w:World}(P:SP)(hG:Glob c w)(hP:SPok P)(hpre:MvPre (boardOf P.bd) (psOf P))(x y z:Int)(hex:∃i,i<(allL (boardOf P.bd) (psOf P)).length/\eqM (mvAt (allL (boardOf P.bd) (psOf P)) i) x y z=true)(hr:∀M∈(allL (boardOf P.bd) (psOf P)),MvOk M)(hd:∀M∈(allL (boardOf P.bd) (psOf P)),DecOk (boardOf P.bd) (psOf P) M):
  CQ 15 [.int .i64 1,.agg (spCells P),.agg #[.int .i64 x,.int .i64 y,.int .i64 z]] w (fun e w'=>∃M∈(allL (boardOf P.bd) (psOf P)),eqM M x y z=true/\e=.returned (.tuple #[.string (bstr (lanI (boardOf P.bd) (psOf P) M)),.bool true])/\Mod [] w w'):=by
 have hm0:Mod [] w w:=Mod.refl _ _;have hGs:=hG.size;refine enterD (n:=22) func15 rfl ntmps15 rfl<|w_seq<|w_region<|zA (spCells P) 24 (some 4) ?_;intro b1 w2 hn3;have hb4:c.base<=b1:=Glob.lt hG hn3;have hb5:=Nat.le_trans hm0.size hn3.base;have hm6:=hn3.mod;have hm8:=Mod.trans hm0 (Mod.of_nil hm6);refine zA (#[.int .i64 x,.int .i64 y,.int .i64 z]) 30 (some 5) ?_;intro b10 w11 hn12;have hb13:c.base<=b10:=Glob.lt (yG w2) hn12;have hb14:=Nat.le_trans hm8.size hn12.base;have hm15:=hn12.mod;have hm18:=Mod.trans hm8 (Mod.of_nil hm15);refine zA (#[.string (⟨#[]⟩)]) 9 (some 6) ?_;intro b20 w21 hn22;have hb23:c.base<=b20:=Glob.lt (yG w11) hn22;have hb24:=Nat.le_trans hm18.size hn22.base;have hm25:=hn22.mod;have hm29:=Mod.trans hm18 (Mod.of_nil hm25);refine zA (#[.bool false]) 4 (some 7) ?_;intro b31 w32 hn33;have hb34:c.base<=b31:=Glob.lt (yG w21) hn33;have hb35:=Nat.le_trans hm29.size hn33.base;have hm36:=hn33.mod;have hm41:=Mod.trans hm29 (Mod.of_nil hm36);refine zz<|w_seq<|w_region<|reg_run (v:=.func (.func 26) #[] #[.pointer (some ⟨b20,0,none⟩),.pointer (some ⟨b31,0,none⟩)]) (w':=w32) rfl rfl rfl (by kernel_rfl) (.inl (by kernel_rfl))<|reg_defer (def26 (.pointer (some ⟨b20,0,none⟩)) (.pointer (some ⟨b31,0,none⟩))) rfl rfl rfl (by kernel_rfl) (by kernel_rfl)<|zz<|w_seq<|w_region<|yV 1 [.row ⟨b1,0,none⟩ 69 (spCells P)] [.agg (spCells P)] (At.row ya (spCells_size P))<|zC (some 11) (c27 P yg hP) ?_;rintro _ w43 ⟨p45,b46,rfl,hm44,hf47,hf48,hb49,hb50⟩;refine ⟨_,rfl,?_⟩;have hb51:=Nat.le_trans hm41.size hb49;have hm57:=Mod.trans hm41 (Mod.of_nil hm44);refine yS 1<|zz<|w_seq<|a_start (f:=12) (by kernel_rfl) (by kernel_rfl) fun w58 hm59=>?_;have hf60:=At.on (yA w43 b1) hm59;have hf61:=At.on (yA w43 b10) hm59;have hf62:=At.on (yA w43 b20) hm59;have hf63:=At.on (yA w43 b31) hm59;have hf64:=At.on hf47 hm59;have hf65:=At.on hf48 hm59;have hG66:=Glob.on (yG w43) hm59;have hm67:=Mod.trans hm57 (Mod.of_nil hm59);refine a_take 0 (.int .i64 1) (some 12) [] [] (by kernel_rfl) (by kernel_rfl) trivial<|a_take 2 (.pointer (some ⟨p45,0,none⟩)) (some 14) [] [] (by kernel_rfl) (by kernel_rfl) trivial<|a_take 3 (.pointer (some ⟨p45,0,none⟩)) (some 15) [] [] (by kernel_rfl) (by kernel_rfl) trivial<|a_both 1 4 28 [.int .i64 1] (some 13) (by kernel_rfl) (.agg (#[.int .i64 x,.int .i64 y,.int .i64 z])) (some 16) [.row ⟨b10,0,none⟩ 3 (#[.int .i64 x,.int .i64 y,.int .i64 z])] [.agg (#[.int .i64 x,.int .i64 y,.int .i64 z])] (by kernel_rfl) (by kernel_rfl) (c28_1) (At.row hf61 rfl) ?_ ?_
 ·skip
  rintro _ w68 ⟨rfl,hm69⟩;refine ⟨_,rfl,?_⟩;have hf74:=At.on hf64 hm69;have hf75:=At.on hf65 hm69;have hm77:=Mod.trans hm67 (Mod.of_nil hm69);refine a_takeR 6 (.func (.method "Encode") #[.iface 90 (.agg #[])] #[]) rfl rfl rfl (by kernel_rfl) (fun _=>by kernel_rfl) (by kernel_rfl)<|a_takeR 7 (.func (.method "Encode") #[.iface 90 (.agg #[])] #[]) rfl rfl rfl (by kernel_rfl) (fun _=>by kernel_rfl) (by kernel_rfl)<|a_take 8 (.iface 90 (.agg #[])) (some 20) [] [] (by kernel_rfl) (by kernel_rfl) trivial<|a_one 4 (.agg (#[.int .i64 x,.int .i64 y,.int .i64 z])) (some 16) [.row ⟨b10,0,none⟩ 3 (#[.int .i64 x,.int .i64 y,.int .i64 z])] [.agg (#[.int .i64 x,.int .i64 y,.int .i64 z])] (by kernel_rfl) (by kernel_rfl) (At.row ya rfl)<|a_call 5 29 [.pointer (some ⟨p45,0,none⟩),.agg (#[.int .i64 x,.int .i64 y,.int .i64 z])] (some 17) (by kernel_rfl) (by kernel_rfl) (c29 (S:=psOf P) hf74 hf75 yg hpre (by have:=hG.size;omega) (.inl rfl) x y z hex hr) ?_;rintro _ w78 ⟨q80,M81,vm82,rfl,hm79,hf83,hca84,hf85,hb86,hin87,heq88⟩;refine ⟨_,rfl,?_⟩;have hb89:=Nat.le_trans hm77.size hb86;have hf94:=At.keep hf75 hm79 (not_mem1 (At.ne hf75 hf74 rfl));have hG95:=Glob.keep (yG w68) hm79 (by simp<;>omega);have hm96:=Mod.fresh' hm77 hm79 (by simp<;>omega);obtain ⟨gc97,cc98,rfl,hoc99⟩:=hca84;refine a_enter 9 197 [.agg #[],.pointer (some ⟨p45,0,none⟩),.pointer (some ⟨q80,0,none⟩)] rfl rfl rfl (by kernel_rfl) (by kernel_rfl) (by kernel_rfl) (c197 hf83 hoc99 hf94 hf85 hG95 (by have:=allL_len hpre;omega) (List.length_pos_of_mem hin87) (hd M81 hin87).up) ?_;rintro _ w100 ⟨rfl,hm101⟩;refine ⟨_,rfl,?_⟩;have hf105:=At.on (yA w78 b31) hm101;have hm110:=Mod.trans hm96 (Mod.of_nil hm101);refine a_tail 10 (by kernel_rfl) (by kernel_rfl)<|zS b20 0 (.string (bstr (lanI (boardOf P.bd) (psOf P) M81))) ?_;intro w111 hu112;have hf113:At w111 b20 (.cells (#[.string (bstr (lanI (boardOf P.bd) (psOf P) M81))]) 9 (0,0)):=hu112.at_;have hf116:=At.keep hf105 hu112.mod (not_mem1 (At.ne hf105 (yA w100 b20) rfl));have hm121:=Mod.fresh' hm110 hu112.mod (by simp<;>omega);refine zS b31 0 (.bool true) ?_;intro w122 hu123;have hf124:At w122 b31 (.cells (#[.bool true]) 4 (0,0)):=hu123.at_;have hf130:=At.keep hf113 hu123.mod (not_mem1 (At.ne hf113 hf116 rfl));have hm132:=Mod.fresh' hm121 hu123.mod (by simp<;>omega);exact ze<|only_n<|n_then<|w_ret<|retD26 results15 rfl rfl (by kernel_rfl) (by kernel_rfl) (At.cell (j:=0) hf130 rfl) (At.cell (j:=0) hf124 rfl) ⟨M81,hin87,heq88,rfl,hm132⟩
 ·skip
  refine a_call 1 28 [.int .i64 1] (some 13) (by kernel_rfl) (by kernel_rfl) (c28_1) ?_;rintro _ w133 ⟨rfl,hm134⟩;refine ⟨_,rfl,?_⟩;have hf135:=At.on hf60 hm134;have hf136:=At.on hf61 hm134;have hf137:=At.on hf62 hm134;have hf138:=At.on hf63 hm134;have hf139:=At.on hf64 hm134;have hf140:=At.on hf65 hm134;have hG141:=Glob.on hG66 hm134;have hm142:=Mod.trans hm67 (Mod.of_nil hm134);refine a_takeR 6 (.func (.method "Encode") #[.iface 90 (.agg #[])] #[]) rfl rfl rfl (by kernel_rfl) (fun _=>by kernel_rfl) (by kernel_rfl)<|a_takeR 7 (.func (.method "Encode") #[.iface 90 (.agg #[])] #[]) rfl rfl rfl (by kernel_rfl) (fun _=>by kernel_rfl) (by kernel_rfl)<|a_take 8 (.iface 90 (.agg #[])) (some 20) [] [] (by kernel_rfl) (by kernel_rfl) trivial<|a_call 5 29 [.pointer (some ⟨p45,0,none⟩),.agg (#[.int .i64 x,.int .i64 y,.int .i64 z])] (some 17) (by kernel_rfl) (by kernel_rfl) (c29 (S:=psOf P) hf139 hf140 hG141 hpre (by have:=hG.size;omega) (.inl rfl) x y z hex hr) ?_;rintro _ w143 ⟨q145,M146,vm147,rfl,hm144,hf148,hca149,hf150,hb151,hin152,heq153⟩;refine ⟨_,rfl,?_⟩;have hb154:=Nat.le_trans hm142.size hb151;have hf155:=At.keep hf135 hm144 (not_mem1 (At.ne hf135 hf139 rfl));have hf156:=At.keep hf136 hm144 (not_mem1 (At.ne hf136 hf139 rfl));have hf157:=At.keep hf137 hm144 (not_mem1 (At.ne hf137 hf139 rfl));have hf158:=At.keep hf138 hm144 (not_mem1 (At.ne hf138 hf139 rfl));have hf159:=At.keep hf140 hm144 (not_mem1 (At.ne hf140 hf139 rfl));have hG160:=Glob.keep hG141 hm144 (by simp<;>omega);have hm161:=Mod.fresh' hm142 hm144 (by simp<;>omega);obtain ⟨gc162,cc163,rfl,hoc164⟩:=hca149;refine a_enter 9 197 [.agg #[],.pointer (some ⟨p45,0,none⟩),.pointer (some ⟨q145,0,none⟩)] rfl rfl rfl (by kernel_rfl) (by kernel_rfl) (by kernel_rfl) (c197 hf148 hoc164 hf159 hf150 hG160 (by have:=allL_len hpre;omega) (List.length_pos_of_mem hin152) (hd M146 hin152).up) ?_;rintro _ w165 ⟨rfl,hm166⟩;refine ⟨_,rfl,?_⟩;have hf167:=At.on hf155 hm166;have hf168:=At.on hf156 hm166;have hf169:=At.on hf157 hm166;have hf170:=At.on hf158 hm166;have hf171:=At.on hf159 hm166;have hf172:=At.on hf148 hm166;have hf173:=At.on hf150 hm166;have hG174:=Glob.on hG160 hm166;have hm175:=Mod.trans hm161 (Mod.of_nil hm166);refine a_tail 10 (by kernel_rfl) (by kernel_rfl)<|zS b20 0 (.string (bstr (lanI (boardOf P.bd) (psOf P) M146))) ?_;intro w176 hu177;have hf178:At w176 b20 (.cells (#[.string (bstr (lanI (boardOf P.bd) (psOf P) M146))]) 9 (0,0)):=hu177.at_;have hf179:=At.keep hf167 hu177.mod (not_mem1 (At.ne hf167 hf169 rfl));have hf180:=At.keep hf168 hu177.mod (not_mem1 (At.ne hf168 hf169 rfl));have hf181:=At.keep hf170 hu177.mod (not_mem1 (At.ne hf170 hf169 rfl));have hf182:=At.keep hf171 hu177.mod (not_mem1 (At.ne hf171 hf169 rfl));have hf183:=At.keep hf172 hu177.mod (not_mem1 (At.ne hf172 hf169 rfl));have hf184:=At.keep hf173 hu177.mod (not_mem1 (At.ne hf173 hf169 rfl));have hG185:=Glob.keep hG174 hu177.mod (by simp<;>omega);have hm186:=Mod.fresh' hm175 hu177.mod (by simp<;>omega)
  refine zS b31 0 (.bool true) ?_;intro w187 hu188;have hf189:At w187 b31 (.cells (#[.bool true]) 4 (0,0)):=hu188.at_;have hf190:=At.keep hf179 hu188.mod (not_mem1 (At.ne hf179 hf181 rfl));have hf191:=At.keep hf180 hu188.mod (not_mem1 (At.ne hf180 hf181 rfl));have hf192:=At.keep hf182 hu188.mod (not_mem1 (At.ne hf182 hf181 rfl));have hf193:=At.keep hf183 hu188.mod (not_mem1 (At.ne hf183 hf181 rfl));have hf194:=At.keep hf184 hu188.mod (not_mem1 (At.ne hf184 hf181 rfl));have hf195:=At.keep hf178 hu188.mod (not_mem1 (At.ne hf178 hf181 rfl));have hG196:=Glob.keep hG185 hu188.mod (by simp<;>omega);have hm197:=Mod.fresh' hm186 hu188.mod (by simp<;>omega);exact ze<|only_n<|n_then<|w_ret<|retD26 results15 rfl rfl (by kernel_rfl) (by kernel_rfl) (At.cell (j:=0) hf195 rfl) (At.cell (j:=0) hf189 rfl) ⟨M146,hin152,heq153,rfl,hm197⟩
set_option maxHeartbeats 2000000 in
theorem c16s{c:GC}{w:World}(P:SP)(hG:Glob c w)(hP:SPok P)(hpre:MvPre (boardOf P.bd) (psOf P))(l:List UInt8)(q:Parts)(hz:zzR l=some q)(hl:l.length<=100000)(hs:Short q)(hr:∀M∈(allL (boardOf P.bd) (psOf P)),MvOk M)(hd:∀M∈(allL (boardOf P.bd) (psOf P)),DecOk (boardOf P.bd) (psOf P) M)(hex:∃M∈(allL (boardOf P.bd) (psOf P)),hitT (boardOf P.bd) (psOf P) q M=true):
  CQ 16 [.int .i64 0,.agg (spCells P),.string (bstr l)] w (fun e w'=>∃M t,M∈(allL (boardOf P.bd) (psOf P))/\hitT (boardOf P.bd) (psOf P) q M=true/\e=.returned (.tuple #[.agg #[.int .i64 M.s1,.int .i64 M.s2,.int .i64 M.promo],.int .i64 t,.bool true])/\Mod [] w w'):=by
 have hm0:Mod [] w w:=Mod.refl _ _;refine enterD (n:=32) func16 rfl ntmps16 rfl<|w_seq<|w_region<|zA (spCells P) 24 (some 4) ?_;intro b1 w2 hn3;have hm6:=hn3.mod;have hm8:=Mod.trans hm0 (Mod.of_nil hm6);refine zA (#[.int .i64 0,.int .i64 0,.int .i64 0]) 30 (some 6) ?_;intro b10 w11 hn12;have hb14:=Nat.le_trans hm8.size hn12.base;have hm15:=hn12.mod;have hG17:=Glob.on (yG w2) hm15;have hm18:=Mod.trans hm8 (Mod.of_nil hm15);refine zA (#[.int .i64 0]) 3 (some 7) ?_;intro b20 w21 hn22;have hb23:c.base<=b20:=Glob.lt hG17 hn22;have hb24:=Nat.le_trans hm18.size hn22.base;have hm25:=hn22.mod;have hm29:=Mod.trans hm18 (Mod.of_nil hm25);refine zA (#[.bool false]) 4 (some 8) ?_;intro b31 w32 hn33;have hb34:c.base<=b31:=Glob.lt (yG w21) hn33;have hb35:=Nat.le_trans hm29.size hn33.base;have hm36:=hn33.mod;have hm41:=Mod.trans hm29 (Mod.of_nil hm36);refine zz<|w_seq<|w_region<|reg_run (v:=.func (.func 30) #[] #[.pointer (some ⟨b10,0,none⟩),.pointer (some ⟨b20,0,none⟩),.pointer (some ⟨b31,0,none⟩)]) (w':=w32) rfl rfl rfl (by kernel_rfl) (.inl (by kernel_rfl))<|reg_defer (def30 (.pointer (some ⟨b10,0,none⟩)) (.pointer (some ⟨b20,0,none⟩)) (.pointer (some ⟨b31,0,none⟩))) rfl rfl rfl (by kernel_rfl) (by kernel_rfl)<|zz<|w_seq<|a_start (f:=14) (by kernel_rfl) (by kernel_rfl) fun w43 hm44=>?_;have hm50:=Mod.trans hm41 (Mod.of_nil hm44);refine a_take 0 (.int .i64 0) (some 13) [] [] (by kernel_rfl) (by kernel_rfl) trivial<|a_take 4 (.string (bstr l)) (some 17) [] [] (by kernel_rfl) (by kernel_rfl) trivial<|a_both 1 2 28 [.int .i64 0] (some 14) (by kernel_rfl) (.agg (spCells P)) (some 15) [.row ⟨b1,0,none⟩ 69 (spCells P)] [.agg (spCells P)] (by kernel_rfl) (by kernel_rfl) (c28_0) (At.row ya (spCells_size P)) ?_ ?_
 ·skip
  rintro _ w51 ⟨rfl,hm52⟩;refine ⟨_,rfl,?_⟩;have hm58:=Mod.trans hm50 (Mod.of_nil hm52);refine a_takeR 5 (.func (.method "Decode") #[.iface 89 (.agg #[])] #[]) rfl rfl rfl (by kernel_rfl) (fun _=>by kernel_rfl) (by kernel_rfl)<|a_takeR 6 (.func (.method "Decode") #[.iface 89 (.agg #[])] #[]) rfl rfl rfl (by kernel_rfl) (fun _=>by kernel_rfl) (by kernel_rfl)<|a_take 7 (.iface 89 (.agg #[])) (some 20) [] [] (by kernel_rfl) (by kernel_rfl) trivial<|a_one 2 (.agg (spCells P)) (some 15) [.row ⟨b1,0,none⟩ 69 (spCells P)] [.agg (spCells P)] (by kernel_rfl) (by kernel_rfl) (At.row ya (spCells_size P))<|a_call 3 27 [.agg (spCells P)] (some 16) (by kernel_rfl) (by kernel_rfl) (c27 P yg hP) ?_;rintro _ w59 ⟨p61,b62,rfl,hm60,hf63,hf64,hb65,hb66⟩;refine ⟨_,rfl,?_⟩;have hb67:=Nat.le_trans hm58.size hb65;have hm73:=Mod.trans hm58 (Mod.of_nil hm60);refine a_enter 8 175 [.agg #[],.pointer (some ⟨p61,0,none⟩),.string (bstr l)] rfl rfl rfl (by kernel_rfl) (by kernel_rfl) (by kernel_rfl) (c175 (S:=psOf P) hf63 hf64 yg hpre (by have:=hG.size;omega) (.inl rfl) l q hz hl hs hd hex) ?_;rintro _ w76 ⟨t74,M75,rfl,hm77,hf78,hin79,hh80⟩;refine ⟨_,rfl,?_⟩;have hm87:=Mod.fresh' hm73 hm77 (by simp<;>omega);refine a_take 9 (.tuple #[.pointer (some ⟨t74,0,none⟩),.nilIface]) (some 12) [] [] (by kernel_rfl) (by kernel_rfl) trivial<|a_take 10 (.pointer (some ⟨t74,0,none⟩)) (some 22) [] [] (by kernel_rfl) (by kernel_rfl) trivial<|a_take 11 (.nilIface) (some 23) [] [] (by kernel_rfl) (by kernel_rfl) trivial<|a_take 12 (.pointer (some ⟨t74,0,none⟩)) (some 9) [] [] (by kernel_rfl) (by kernel_rfl) trivial<|a_take 13 (.nilIface) (some 10) [] [] (by kernel_rfl) (by kernel_rfl) trivial<|a_done (by kernel_rfl)<|n_then<|w_seq<|w_seq<|w_region<|yS 1<|reg_run (v:=.bool false) (w':=w76) rfl rfl rfl (by kernel_rfl) (.inl (by kernel_rfl))<|zz<|yF<|w_skip<|n_then<|w_seq<|w_region<|yS 1<|zk (some 28) (c31 (M:=M75) hf78 (hr M75 hin79)) ?_;intro w88 hm89;have hf95:=At.on hf78 hm89;have hm97:=Mod.trans hm87 (Mod.of_nil hm89);refine yS 1<|zk (some 30) (c32 hf95) ?_;intro w98 hm99;have hm107:=Mod.trans hm97 (Mod.of_nil hm99);refine yS 1<|zS b10 0 (.agg (#[.int .i64 M75.s1,.int .i64 M75.s2,.int .i64 M75.promo])) ?_;intro w108 hu109;have hm117:=Mod.fresh' hm107 hu109.mod (by simp<;>omega);refine zS b20 0 (.int .i64 (IntKind.i64.wrap M75.tags)) ?_;intro w118 hu119;have hm127:=Mod.fresh' hm117 hu119.mod (by simp<;>omega);refine zS b31 0 (.bool true) ?_;intro w128 hu129;have hf130:At w128 b31 (.cells (#[.bool true]) 4 (0,0)):=hu129.at_;have hf134:=At.keep (yA w118 b10) hu129.mod (not_mem1 (At.ne (yA w118 b10) (yA w118 b31) rfl));have hf135:=At.keep (yA w118 b20) hu129.mod (not_mem1 (At.ne (yA w118 b20) (yA w118 b31) rfl));have hm137:=Mod.fresh' hm127 hu129.mod (by simp<;>omega);refine zz ?_
  exact w_ret<|retD30 results16 rfl rfl rfl (by kernel_rfl) (by kernel_rfl) (by kernel_rfl) (by kernel_rfl) (At.row hf134 rfl) (At.cell (j:=0) hf135 rfl) (At.cell (j:=0) hf130 rfl) ⟨M75,_,hin79,hh80,rfl,hm137⟩
 ·skip
  refine a_call 1 28 [.int .i64 0] (some 14) (by kernel_rfl) (by kernel_rfl) (c28_0) ?_;rintro _ w138 ⟨rfl,hm139⟩;refine ⟨_,rfl,?_⟩;have hm145:=Mod.trans hm50 (Mod.of_nil hm139);refine a_takeR 5 (.func (.method "Decode") #[.iface 89 (.agg #[])] #[]) rfl rfl rfl (by kernel_rfl) (fun _=>by kernel_rfl) (by kernel_rfl)<|a_takeR 6 (.func (.method "Decode") #[.iface 89 (.agg #[])] #[]) rfl rfl rfl (by kernel_rfl) (fun _=>by kernel_rfl) (by kernel_rfl)<|a_take 7 (.iface 89 (.agg #[])) (some 20) [] [] (by kernel_rfl) (by kernel_rfl) trivial<|a_call 3 27 [.agg (spCells P)] (some 16) (by kernel_rfl) (by kernel_rfl) (c27 P yg hP) ?_;rintro _ w146 ⟨p148,b149,rfl,hm147,hf150,hf151,hb152,hb153⟩;refine ⟨_,rfl,?_⟩;have hb154:=Nat.le_trans hm145.size hb152;have hf156:=At.on (yA w138 b10) hm147;have hf157:=At.on (yA w138 b20) hm147;have hf158:=At.on (yA w138 b31) hm147;have hG159:=Glob.on (yG w138) hm147;have hm160:=Mod.trans hm145 (Mod.of_nil hm147);refine a_enter 8 175 [.agg #[],.pointer (some ⟨p148,0,none⟩),.string (bstr l)] rfl rfl rfl (by kernel_rfl) (by kernel_rfl) (by kernel_rfl) (c175 (S:=psOf P) hf150 hf151 hG159 hpre (by have:=hG.size;omega) (.inl rfl) l q hz hl hs hd hex) ?_;rintro _ w163 ⟨t161,M162,rfl,hm164,hf165,hin166,hh167⟩;refine ⟨_,rfl,?_⟩;have hf169:=At.keep hf156 hm164 (not_mem1 (At.ne hf156 hf150 rfl));have hf170:=At.keep hf157 hm164 (not_mem1 (At.ne hf157 hf150 rfl));have hf171:=At.keep hf158 hm164 (not_mem1 (At.ne hf158 hf150 rfl));have hm174:=Mod.fresh' hm160 hm164 (by simp<;>omega);refine a_take 9 (.tuple #[.pointer (some ⟨t161,0,none⟩),.nilIface]) (some 12) [] [] (by kernel_rfl) (by kernel_rfl) trivial<|a_take 10 (.pointer (some ⟨t161,0,none⟩)) (some 22) [] [] (by kernel_rfl) (by kernel_rfl) trivial<|a_take 11 (.nilIface) (some 23) [] [] (by kernel_rfl) (by kernel_rfl) trivial<|a_take 12 (.pointer (some ⟨t161,0,none⟩)) (some 9) [] [] (by kernel_rfl) (by kernel_rfl) trivial<|a_take 13 (.nilIface) (some 10) [] [] (by kernel_rfl) (by kernel_rfl) trivial<|a_done (by kernel_rfl)<|n_then<|w_seq<|w_seq<|w_region<|yS 1<|reg_run (v:=.bool false) (w':=w163) rfl rfl rfl (by kernel_rfl) (.inl (by kernel_rfl))<|zz<|yF<|w_skip<|n_then<|w_seq<|w_region<|yS 1<|zk (some 28) (c31 (M:=M162) hf165 (hr M162 hin166)) ?_;intro w175 hm176;have hf178:=At.on hf169 hm176;have hf179:=At.on hf170 hm176;have hf180:=At.on hf171 hm176;have hf182:=At.on hf165 hm176;have hm184:=Mod.trans hm174 (Mod.of_nil hm176);refine yS 1<|zk (some 30) (c32 hf182) ?_;intro w185 hm186;have hf188:=At.on hf178 hm186;have hf189:=At.on hf179 hm186;have hf190:=At.on hf180 hm186;have hm194:=Mod.trans hm184 (Mod.of_nil hm186);refine yS 1<|zS b10 0 (.agg (#[.int .i64 M162.s1,.int .i64 M162.s2,.int .i64 M162.promo])) ?_;intro w195 hu196;have hf197:At w195 b10 (.cells (#[.int .i64 M162.s1,.int .i64 M162.s2,.int .i64 M162.promo]) 30 (0,0)):=hu196.at_
  have hf199:=At.keep hf189 hu196.mod (not_mem1 (At.ne hf189 hf188 rfl));have hf200:=At.keep hf190 hu196.mod (not_mem1 (At.ne hf190 hf188 rfl));have hm204:=Mod.fresh' hm194 hu196.mod (by simp<;>omega);refine zS b20 0 (.int .i64 (IntKind.i64.wrap M162.tags)) ?_;intro w205 hu206;have hf207:At w205 b20 (.cells (#[.int .i64 (IntKind.i64.wrap M162.tags)]) 3 (0,0)):=hu206.at_;have hf209:=At.keep hf200 hu206.mod (not_mem1 (At.ne hf200 hf199 rfl));have hf212:=At.keep hf197 hu206.mod (not_mem1 (At.ne hf197 hf199 rfl));have hm214:=Mod.fresh' hm204 hu206.mod (by simp<;>omega);refine zS b31 0 (.bool true) ?_;intro w215 hu216;have hf217:At w215 b31 (.cells (#[.bool true]) 4 (0,0)):=hu216.at_;have hf221:=At.keep hf212 hu216.mod (not_mem1 (At.ne hf212 hf209 rfl));have hf222:=At.keep hf207 hu216.mod (not_mem1 (At.ne hf207 hf209 rfl));have hm224:=Mod.fresh' hm214 hu216.mod (by simp<;>omega);exact zz<|w_ret<|retD30 results16 rfl rfl rfl (by kernel_rfl) (by kernel_rfl) (by kernel_rfl) (by kernel_rfl) (At.row hf221 rfl) (At.cell (j:=0) hf222 rfl) (At.cell (j:=0) hf217 rfl) ⟨M162,_,hin166,hh167,rfl,hm224⟩
set_option maxHeartbeats 2000000 in
theorem c16l{c:GC}{w:World}(P:SP)(hG:Glob c w)(hP:SPok P)(hpre:MvPre (boardOf P.bd) (psOf P))(l:List UInt8)(q:Parts)(hz:zzR l=some q)(hl:l.length<=100000)(hs:Short q)(hr:∀M∈(allL (boardOf P.bd) (psOf P)),MvOk M)(hd:∀M∈(allL (boardOf P.bd) (psOf P)),DecOk (boardOf P.bd) (psOf P) M)(hex:∃M∈(allL (boardOf P.bd) (psOf P)),hitT (boardOf P.bd) (psOf P) q M=true):
  CQ 16 [.int .i64 1,.agg (spCells P),.string (bstr l)] w (fun e w'=>∃M t,M∈(allL (boardOf P.bd) (psOf P))/\hitT (boardOf P.bd) (psOf P) q M=true/\e=.returned (.tuple #[.agg #[.int .i64 M.s1,.int .i64 M.s2,.int .i64 M.promo],.int .i64 t,.bool true])/\Mod [] w w'):=by
 have hm0:Mod [] w w:=Mod.refl _ _;refine enterD (n:=32) func16 rfl ntmps16 rfl<|w_seq<|w_region<|zA (spCells P) 24 (some 4) ?_;intro b1 w2 hn3;have hm6:=hn3.mod;have hm8:=Mod.trans hm0 (Mod.of_nil hm6);refine zA (#[.int .i64 0,.int .i64 0,.int .i64 0]) 30 (some 6) ?_;intro b10 w11 hn12;have hb14:=Nat.le_trans hm8.size hn12.base;have hm15:=hn12.mod;have hG17:=Glob.on (yG w2) hm15;have hm18:=Mod.trans hm8 (Mod.of_nil hm15);refine zA (#[.int .i64 0]) 3 (some 7) ?_;intro b20 w21 hn22;have hb23:c.base<=b20:=Glob.lt hG17 hn22;have hb24:=Nat.le_trans hm18.size hn22.base;have hm25:=hn22.mod;have hm29:=Mod.trans hm18 (Mod.of_nil hm25);refine zA (#[.bool false]) 4 (some 8) ?_;intro b31 w32 hn33;have hb34:c.base<=b31:=Glob.lt (yG w21) hn33;have hb35:=Nat.le_trans hm29.size hn33.base;have hm36:=hn33.mod;have hm41:=Mod.trans hm29 (Mod.of_nil hm36);refine zz<|w_seq<|w_region<|reg_run (v:=.func (.func 30) #[] #[.pointer (some ⟨b10,0,none⟩),.pointer (some ⟨b20,0,none⟩),.pointer (some ⟨b31,0,none⟩)]) (w':=w32) rfl rfl rfl (by kernel_rfl) (.inl (by kernel_rfl))<|reg_defer (def30 (.pointer (some ⟨b10,0,none⟩)) (.pointer (some ⟨b20,0,none⟩)) (.pointer (some ⟨b31,0,none⟩))) rfl rfl rfl (by kernel_rfl) (by kernel_rfl)<|zz<|w_seq<|a_start (f:=14) (by kernel_rfl) (by kernel_rfl) fun w43 hm44=>?_;have hm50:=Mod.trans hm41 (Mod.of_nil hm44);refine a_take 0 (.int .i64 1) (some 13) [] [] (by kernel_rfl) (by kernel_rfl) trivial<|a_take 4 (.string (bstr l)) (some 17) [] [] (by kernel_rfl) (by kernel_rfl) trivial<|a_both 1 2 28 [.int .i64 1] (some 14) (by kernel_rfl) (.agg (spCells P)) (some 15) [.row ⟨b1,0,none⟩ 69 (spCells P)] [.agg (spCells P)] (by kernel_rfl) (by kernel_rfl) (c28_1) (At.row ya (spCells_size P)) ?_ ?_
 ·skip
  rintro _ w51 ⟨rfl,hm52⟩;refine ⟨_,rfl,?_⟩;have hm58:=Mod.trans hm50 (Mod.of_nil hm52);refine a_takeR 5 (.func (.method "Decode") #[.iface 90 (.agg #[])] #[]) rfl rfl rfl (by kernel_rfl) (fun _=>by kernel_rfl) (by kernel_rfl)<|a_takeR 6 (.func (.method "Decode") #[.iface 90 (.agg #[])] #[]) rfl rfl rfl (by kernel_rfl) (fun _=>by kernel_rfl) (by kernel_rfl)<|a_take 7 (.iface 90 (.agg #[])) (some 20) [] [] (by kernel_rfl) (by kernel_rfl) trivial<|a_one 2 (.agg (spCells P)) (some 15) [.row ⟨b1,0,none⟩ 69 (spCells P)] [.agg (spCells P)] (by kernel_rfl) (by kernel_rfl) (At.row ya (spCells_size P))<|a_call 3 27 [.agg (spCells P)] (some 16) (by kernel_rfl) (by kernel_rfl) (c27 P yg hP) ?_;rintro _ w59 ⟨p61,b62,rfl,hm60,hf63,hf64,hb65,hb66⟩;refine ⟨_,rfl,?_⟩;have hb67:=Nat.le_trans hm58.size hb65;have hm73:=Mod.trans hm58 (Mod.of_nil hm60);refine a_enter 8 196 [.agg #[],.pointer (some ⟨p61,0,none⟩),.string (bstr l)] rfl rfl rfl (by kernel_rfl) (by kernel_rfl) (by kernel_rfl) (c196 (S:=psOf P) hf63 hf64 yg hpre (by have:=hG.size;omega) (.inl rfl) l q hz hl hs hd hex) ?_;rintro _ w76 ⟨t74,M75,rfl,hm77,hf78,hin79,hh80⟩;refine ⟨_,rfl,?_⟩;have hm87:=Mod.fresh' hm73 hm77 (by simp<;>omega);refine a_take 9 (.tuple #[.pointer (some ⟨t74,0,none⟩),.nilIface]) (some 12) [] [] (by kernel_rfl) (by kernel_rfl) trivial<|a_take 10 (.pointer (some ⟨t74,0,none⟩)) (some 22) [] [] (by kernel_rfl) (by kernel_rfl) trivial<|a_take 11 (.nilIface) (some 23) [] [] (by kernel_rfl) (by kernel_rfl) trivial<|a_take 12 (.pointer (some ⟨t74,0,none⟩)) (some 9) [] [] (by kernel_rfl) (by kernel_rfl) trivial<|a_take 13 (.nilIface) (some 10) [] [] (by kernel_rfl) (by kernel_rfl) trivial<|a_done (by kernel_rfl)<|n_then<|w_seq<|w_seq<|w_region<|yS 1<|reg_run (v:=.bool false) (w':=w76) rfl rfl rfl (by kernel_rfl) (.inl (by kernel_rfl))<|zz<|yF<|w_skip<|n_then<|w_seq<|w_region<|yS 1<|zk (some 28) (c31 (M:=M75) hf78 (hr M75 hin79)) ?_;intro w88 hm89;have hf95:=At.on hf78 hm89;have hm97:=Mod.trans hm87 (Mod.of_nil hm89);refine yS 1<|zk (some 30) (c32 hf95) ?_;intro w98 hm99;have hm107:=Mod.trans hm97 (Mod.of_nil hm99);refine yS 1<|zS b10 0 (.agg (#[.int .i64 M75.s1,.int .i64 M75.s2,.int .i64 M75.promo])) ?_;intro w108 hu109;have hm117:=Mod.fresh' hm107 hu109.mod (by simp<;>omega);refine zS b20 0 (.int .i64 (IntKind.i64.wrap M75.tags)) ?_;intro w118 hu119;have hm127:=Mod.fresh' hm117 hu119.mod (by simp<;>omega);refine zS b31 0 (.bool true) ?_;intro w128 hu129;have hf130:At w128 b31 (.cells (#[.bool true]) 4 (0,0)):=hu129.at_;have hf134:=At.keep (yA w118 b10) hu129.mod (not_mem1 (At.ne (yA w118 b10) (yA w118 b31) rfl));have hf135:=At.keep (yA w118 b20) hu129.mod (not_mem1 (At.ne (yA w118 b20) (yA w118 b31) rfl));have hm137:=Mod.fresh' hm127 hu129.mod (by simp<;>omega);refine zz ?_
  exact w_ret<|retD30 results16 rfl rfl rfl (by kernel_rfl) (by kernel_rfl) (by kernel_rfl) (by kernel_rfl) (At.row hf134 rfl) (At.cell (j:=0) hf135 rfl) (At.cell (j:=0) hf130 rfl) ⟨M75,_,hin79,hh80,rfl,hm137⟩
 ·skip
  refine a_call 1 28 [.int .i64 1] (some 14) (by kernel_rfl) (by kernel_rfl) (c28_1) ?_;rintro _ w138 ⟨rfl,hm139⟩;refine ⟨_,rfl,?_⟩;have hm145:=Mod.trans hm50 (Mod.of_nil hm139);refine a_takeR 5 (.func (.method "Decode") #[.iface 90 (.agg #[])] #[]) rfl rfl rfl (by kernel_rfl) (fun _=>by kernel_rfl) (by kernel_rfl)<|a_takeR 6 (.func (.method "Decode") #[.iface 90 (.agg #[])] #[]) rfl rfl rfl (by kernel_rfl) (fun _=>by kernel_rfl) (by kernel_rfl)<|a_take 7 (.iface 90 (.agg #[])) (some 20) [] [] (by kernel_rfl) (by kernel_rfl) trivial<|a_call 3 27 [.agg (spCells P)] (some 16) (by kernel_rfl) (by kernel_rfl) (c27 P yg hP) ?_;rintro _ w146 ⟨p148,b149,rfl,hm147,hf150,hf151,hb152,hb153⟩;refine ⟨_,rfl,?_⟩;have hb154:=Nat.le_trans hm145.size hb152;have hf156:=At.on (yA w138 b10) hm147;have hf157:=At.on (yA w138 b20) hm147;have hf158:=At.on (yA w138 b31) hm147;have hG159:=Glob.on (yG w138) hm147;have hm160:=Mod.trans hm145 (Mod.of_nil hm147);refine a_enter 8 196 [.agg #[],.pointer (some ⟨p148,0,none⟩),.string (bstr l)] rfl rfl rfl (by kernel_rfl) (by kernel_rfl) (by kernel_rfl) (c196 (S:=psOf P) hf150 hf151 hG159 hpre (by have:=hG.size;omega) (.inl rfl) l q hz hl hs hd hex) ?_;rintro _ w163 ⟨t161,M162,rfl,hm164,hf165,hin166,hh167⟩;refine ⟨_,rfl,?_⟩;have hf169:=At.keep hf156 hm164 (not_mem1 (At.ne hf156 hf150 rfl));have hf170:=At.keep hf157 hm164 (not_mem1 (At.ne hf157 hf150 rfl));have hf171:=At.keep hf158 hm164 (not_mem1 (At.ne hf158 hf150 rfl));have hm174:=Mod.fresh' hm160 hm164 (by simp<;>omega);refine a_take 9 (.tuple #[.pointer (some ⟨t161,0,none⟩),.nilIface]) (some 12) [] [] (by kernel_rfl) (by kernel_rfl) trivial<|a_take 10 (.pointer (some ⟨t161,0,none⟩)) (some 22) [] [] (by kernel_rfl) (by kernel_rfl) trivial<|a_take 11 (.nilIface) (some 23) [] [] (by kernel_rfl) (by kernel_rfl) trivial<|a_take 12 (.pointer (some ⟨t161,0,none⟩)) (some 9) [] [] (by kernel_rfl) (by kernel_rfl) trivial<|a_take 13 (.nilIface) (some 10) [] [] (by kernel_rfl) (by kernel_rfl) trivial<|a_done (by kernel_rfl)<|n_then<|w_seq<|w_seq<|w_region<|yS 1<|reg_run (v:=.bool false) (w':=w163) rfl rfl rfl (by kernel_rfl) (.inl (by kernel_rfl))<|zz<|yF<|w_skip<|n_then<|w_seq<|w_region<|yS 1<|zk (some 28) (c31 (M:=M162) hf165 (hr M162 hin166)) ?_;intro w175 hm176;have hf178:=At.on hf169 hm176;have hf179:=At.on hf170 hm176;have hf180:=At.on hf171 hm176;have hf182:=At.on hf165 hm176;have hm184:=Mod.trans hm174 (Mod.of_nil hm176);refine yS 1<|zk (some 30) (c32 hf182) ?_;intro w185 hm186;have hf188:=At.on hf178 hm186;have hf189:=At.on hf179 hm186;have hf190:=At.on hf180 hm186;have hm194:=Mod.trans hm184 (Mod.of_nil hm186);refine yS 1<|zS b10 0 (.agg (#[.int .i64 M162.s1,.int .i64 M162.s2,.int .i64 M162.promo])) ?_;intro w195 hu196;have hf197:At w195 b10 (.cells (#[.int .i64 M162.s1,.int .i64 M162.s2,.int .i64 M162.promo]) 30 (0,0)):=hu196.at_
  have hf199:=At.keep hf189 hu196.mod (not_mem1 (At.ne hf189 hf188 rfl));have hf200:=At.keep hf190 hu196.mod (not_mem1 (At.ne hf190 hf188 rfl));have hm204:=Mod.fresh' hm194 hu196.mod (by simp<;>omega);refine zS b20 0 (.int .i64 (IntKind.i64.wrap M162.tags)) ?_;intro w205 hu206;have hf207:At w205 b20 (.cells (#[.int .i64 (IntKind.i64.wrap M162.tags)]) 3 (0,0)):=hu206.at_;have hf209:=At.keep hf200 hu206.mod (not_mem1 (At.ne hf200 hf199 rfl));have hf212:=At.keep hf197 hu206.mod (not_mem1 (At.ne hf197 hf199 rfl));have hm214:=Mod.fresh' hm204 hu206.mod (by simp<;>omega);refine zS b31 0 (.bool true) ?_;intro w215 hu216;have hf217:At w215 b31 (.cells (#[.bool true]) 4 (0,0)):=hu216.at_;have hf221:=At.keep hf212 hu216.mod (not_mem1 (At.ne hf212 hf209 rfl));have hf222:=At.keep hf207 hu216.mod (not_mem1 (At.ne hf207 hf209 rfl));have hm224:=Mod.fresh' hm214 hu216.mod (by simp<;>omega);exact zz<|w_ret<|retD30 results16 rfl rfl rfl (by kernel_rfl) (by kernel_rfl) (by kernel_rfl) (by kernel_rfl) (At.row hf221 rfl) (At.cell (j:=0) hf222 rfl) (At.cell (j:=0) hf217 rfl) ⟨M162,_,hin166,hh167,rfl,hm224⟩
section
variable{P:SP}{m n:Sm}{M N:Mv}
theorem cons_ne(x:UInt8)(l:List UInt8):((x::l) !=[])=true:=rfl
theorem opts_a{q:Parts}(ha:q.a≠[]):optsP q=[q.a++q.d++q.e++q.f++q.g++q.h,q.a++q.c++q.d++q.e++q.f++q.g++q.h,q.a++q.b++q.d++q.e++q.f++q.g++q.h]:=by
 unfold optsP;rw [bne_iff_ne.2 ha];rfl
theorem opts_p{q:Parts}(ha:q.a=[]):optsP q=(bif q.d !=[] then [q.b++q.d++q.e++q.f++q.g] else [])++(bif (q.b !=[])&&(q.c !=[]) then [q.d++q.e++q.f++q.g] else []):=by
 unfold optsP;rw [ha];rfl
theorem hit_iff(hV:ValidS P)(hn:LegM P n)(hT:TagM P n N)(q:Parts):hitT (boardOf P.bd) (psOf P) q N=true↔cleanP q=bodyS P n.f n.t n.p\/bodyS P n.f n.t n.p∈optsP q:=by
 unfold hitT;rw [(decOk hV hn hT).2,Bool.or_eq_true,beq_iff_eq,List.any_eq_true];constructor
 · rintro (h|⟨x,hx,he⟩)
   · exact Or.inl h
   rw [beq_iff_eq] at he;exact Or.inr (he▸hx)
 rintro (h|h)
 · exact Or.inl h
 exact Or.inr ⟨_,h,beq_self_eq_true _⟩
theorem letB_ne(hV:ValidS P)(h:LegM P m)(h6:kindOf (P.bd m.f.toNat)≠6):letB (kindOf (P.bd m.f.toNat))≠[]:=by
 have hk:=leg_kind hV h;obtain ⟨x,ex,_⟩:=letB_get (k:=kindOf (P.bd m.f.toNat)) (by omega);rw [ex];simp
theorem apF_or(P:SP)(f t:Int):apF P f t=[]\/apF P f t=[fB f]:=by unfold apF;cases (legAny P (othS P.bd f t)&&(!(legAny P (filS P.bd f t))||legAny P (rnkS P.bd f t)))<;>simp
theorem apR_or(P:SP)(f t:Int):apR P f t=[]\/apR P f t=[rB f]:=by unfold apR;cases (legAny P (othS P.bd f t)&&legAny P (filS P.bd f t))<;>simp
theorem one_san(hV:ValidS P)(h:LegM P m)(h':LegM P n)(e:cleanP (sanQ P m)=bodyS P n.f n.t n.p\/bodyS P n.f n.t n.p∈optsP (sanQ P m)):n=m:=by
 by_cases hc:castI P.bd m.f m.t=0
 · by_cases h6:kindOf (P.bd m.f.toNat)=6
   · refine pawn_one hV h h6 h' (X:=bodyS P n.f n.t n.p) ?_ rfl;have eq:sanQ P m=⟨[],(bif takesI P.bd m.f m.t then [fB m.f] else []),[],takT P.bd m.f m.t,[fB m.t],[rB m.t],promS m.p,[]⟩:=by unfold sanQ;rw [if_neg (λhh=>hh hc),if_pos h6]
     rw [eq,opts_p rfl] at e;unfold cleanP takT at e;cases ht:takesI P.bd m.f m.t<;>rw [ht] at e<;>simp [cons_ne] at e
     · exact Or.inr (Or.inl ⟨rfl,e.symm⟩)
     refine Or.inl ⟨rfl,?_⟩;rcases e with e|e
     · exact e.symm
     exact e
   have eq:sanQ P m=⟨letB (kindOf (P.bd m.f.toNat)),apF P m.f m.t,apR P m.f m.t,takT P.bd m.f m.t,[fB m.t],[rB m.t],[],[]⟩:=by unfold sanQ;rw [if_neg (λhh=>hh hc),if_neg h6]
   rw [eq,opts_a (letB_ne hV h h6)] at e;unfold cleanP at e;have hb:=apF_or P m.f m.t;have hcc:=apR_or P m.f m.t;simp only [List.mem_cons,List.not_mem_nil,or_false] at e;rcases e with e|e|e|e
   · exact piece_one hV h h6 h' hb hcc (by rw [←e];simp)
   · exact piece_one hV h h6 h' (Or.inl rfl) (Or.inl rfl) (by rw [e];simp)
   · exact piece_one hV h h6 h' (Or.inl rfl) hcc (by rw [e];simp)
   exact piece_one hV h h6 h' hb (Or.inl rfl) (by rw [e];simp)
 refine cast_one hV h hc h' ?_;have eq:sanQ P m=castP (oooS (2-castI P.bd m.f m.t)):=by unfold sanQ;rw [if_pos hc]
 rw [eq] at e;rcases e with e|e
 · exact e.symm
 cases e
theorem one_lan(hV:ValidS P)(h:LegM P m)(h':LegM P n)(e:cleanP (lanQ P m)=bodyS P n.f n.t n.p\/bodyS P n.f n.t n.p∈optsP (lanQ P m)):n=m:=by
 have ct:=sq_cls (h.ok hV).t;by_cases hc:castI P.bd m.f m.t=0
 · have eq:lanQ P m=⟨letB (kindOf (P.bd m.f.toNat)),[fB m.f],[rB m.f],takT P.bd m.f m.t,[fB m.t],[rB m.t],promS m.p,[]⟩:=by unfold lanQ;rw [if_neg (λhh=>hh hc)]
   by_cases h6:kindOf (P.bd m.f.toNat)=6
   · refine pawn_one hV h h6 h' (X:=bodyS P n.f n.t n.p) ?_ rfl;rw [eq,h6,opts_p rfl] at e;unfold cleanP takT at e;rw [show letB 6=[] from rfl] at e;cases ht:takesI P.bd m.f m.t<;>rw [ht] at e<;>simp [cons_ne] at e
     · rcases e with e|e
       · exact Or.inr (Or.inr (Or.inl ⟨_,_,e.symm,Or.inr ct.1⟩))
       exact Or.inr (Or.inl ⟨rfl,e⟩)
     rcases e with e|e|e
     · exact Or.inr (Or.inr (Or.inl ⟨_,_,e.symm,Or.inl (by decide)⟩))
     · exact Or.inl ⟨rfl,e⟩
     exact Or.inr (Or.inr (Or.inr ⟨_,e⟩))
   rw [eq,leg_promo h h6,opts_a (letB_ne hV h h6)] at e;unfold cleanP at e;rw [show promS 0=[] from rfl] at e;simp only [List.mem_cons,List.not_mem_nil,or_false] at e;rcases e with e|e|e|e
   · exact piece_one hV h h6 h' (Or.inr rfl) (Or.inr rfl) (by rw [←e];simp)
   · exact piece_one hV h h6 h' (Or.inl rfl) (Or.inl rfl) (by rw [e];simp)
   · exact piece_one hV h h6 h' (Or.inl rfl) (Or.inr rfl) (by rw [e];simp)
   exact piece_one hV h h6 h' (Or.inr rfl) (Or.inl rfl) (by rw [e];simp)
 refine cast_one hV h hc h' ?_;have eq:lanQ P m=castP (oooS (2-castI P.bd m.f m.t)):=by unfold lanQ;rw [if_pos hc]
 rw [eq] at e;rcases e with e|e
 · exact e.symm
 cases e
theorem self_lan(hV:ValidS P)(h:LegM P m):cleanP (lanQ P m)=bodyS P m.f m.t m.p\/bodyS P m.f m.t m.p∈optsP (lanQ P m):=by
 by_cases hc:castI P.bd m.f m.t=0
 · have eq:lanQ P m=⟨letB (kindOf (P.bd m.f.toNat)),[fB m.f],[rB m.f],takT P.bd m.f m.t,[fB m.t],[rB m.t],promS m.p,[]⟩:=by unfold lanQ;rw [if_neg (λhh=>hh hc)]
   rcases shape h with ⟨hc',_⟩|⟨h6,tk,e'⟩|⟨h6,tk,e'⟩|⟨_,h6,e'⟩
   · exact absurd hc hc'
   · right;rw [eq,h6,opts_p rfl,e'];unfold takT;rw [tk];simp [cons_ne]
   · right;rw [eq,h6,opts_p rfl,e'];unfold takT;rw [tk];simp [cons_ne]
   rw [e',eq,leg_promo h h6,opts_a (letB_ne hV h h6)];unfold cleanP;rw [show promS 0=[] from rfl];rcases apF_or P m.f m.t with a|a<;>rcases apR_or P m.f m.t with b|b<;>rw [a,b]<;>simp
 left;rw [body_cast hc];unfold lanQ;rw [if_pos hc];rfl
theorem leg_mv(hV:ValidS P)(h:LegM P m):∃M∈allL (boardOf P.bd) (psOf P),TagM P m M:=by
 obtain ⟨M,hM,e1,e2,e3⟩:=(allL_iff hV m).2 (h.okS hV);obtain ⟨n,hn,hT⟩:=tag_all hV hM;have:n=m:=sm_ext (hT.s1.symm.trans e1) (hT.s2.symm.trans e2) (hT.pr.symm.trans e3);subst this;exact ⟨M,hM,hT⟩
structure PlainA(P:SP)(m:Sm)(q:Parts):Prop where
 dec:∀M∈allL (boardOf P.bd) (psOf P),DecOk (boardOf P.bd) (psOf P) M
 hit:∃M∈allL (boardOf P.bd) (psOf P),hitT (boardOf P.bd) (psOf P) q M=true
 one:∀M∈allL (boardOf P.bd) (psOf P),hitT (boardOf P.bd) (psOf P) q M=true->M.s1=m.f/\M.s2=m.t/\M.promo=m.p
theorem dec_all(hV:ValidS P):∀M∈allL (boardOf P.bd) (psOf P),DecOk (boardOf P.bd) (psOf P) M:=λM hM=>by
 obtain ⟨n,hn,hT⟩:=tag_all hV hM;exact (decOk hV hn hT).1
theorem plain_of(hV:ValidS P)(h:LegM P m){q:Parts}(hs:cleanP q=bodyS P m.f m.t m.p\/bodyS P m.f m.t m.p∈optsP q)(ho:∀n,LegM P n->(cleanP q=bodyS P n.f n.t n.p\/bodyS P n.f n.t n.p∈optsP q)->n=m):PlainA P m q:=by
 refine ⟨dec_all hV,?_,λM hM hh=>?_⟩
 · obtain ⟨M,hM,hT⟩:=leg_mv hV h;exact ⟨M,hM,(hit_iff hV h hT q).2 hs⟩
 obtain ⟨n,hn,hT⟩:=tag_all hV hM;have:=ho n hn ((hit_iff hV hn hT q).1 hh);subst this;exact ⟨hT.s1,hT.s2,hT.pr⟩
theorem plain_san(hV:ValidS P)(h:LegM P m):PlainA P m (sanQ P m):=plain_of hV h (Or.inl (san_clean h)) λn hn=>one_san hV h hn
theorem plain_lan(hV:ValidS P)(h:LegM P m):PlainA P m (lanQ P m):=plain_of hV h (self_lan hV h) λn hn=>one_lan hV h hn
theorem enc_mv(hV:ValidS P)(h:LegM P m)(ht:Told P m)(hM:M∈allL (boardOf P.bd) (psOf P))(he:eqM M m.f m.t m.p=true):
  encI (boardOf P.bd) (psOf P) (allL (boardOf P.bd) (psOf P)) M=bodyS P m.f m.t m.p++sgnS P m.f m.t m.p/\lanI (boardOf P.bd) (psOf P) M=lanS P m.f m.t m.p:=by
 obtain ⟨n,hn,hT⟩:=tag_all hV hM;unfold eqM at he;simp only [Bool.and_eq_true,beq_iff_eq] at he;have:n=m:=sm_ext (hT.s1.symm.trans he.1) (hT.s2.symm.trans he.2.1) (hT.pr.symm.trans he.2.2);subst this;exact ⟨text_san hV h hT ht,text_lan hV h hT ht⟩
end
end Go.Proofs.YtgnhellfhjoaaaaGreatDoor
