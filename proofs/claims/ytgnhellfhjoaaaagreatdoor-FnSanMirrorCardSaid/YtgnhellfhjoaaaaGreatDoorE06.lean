/-
  FnSanMirror: what is written and read of a legal move is the same in the position seen from the other side, seen so (a part of the proof).
  Conditions: those of each theorem.
-/
import Derived.Test.YtgnhellfhjoaaaaGreatDoorE01
import Derived.Test.YtgnhellfhjoaaaaGreatDoorE02
import Derived.Test.YtgnhellfhjoaaaaGreatDoorE05
set_option linter.unusedVariables false
set_option linter.unusedSimpArgs false
namespace Go.Proofs.YtgnhellfhjoaaaaGreatDoor
open Go Go.RowKit
set_option maxRecDepth 100000
def keyM(M:Mv):Sm:=⟨M.s1,M.s2,M.promo⟩
def Apart2(a b:Mv):Prop:=keyM a≠keyM b
theorem fm_pw{f:Int->List Mv}{n:Nat}(h1:∀k:Nat,k<n->(f k).Pairwise Apart2)(h2:∀i j:Nat,i<j->j<n->∀x∈f i,∀y∈f j,Apart2 x y):(fm f n).Pairwise Apart2:=by
 unfold fm;rw [List.pairwise_flatMap];refine ⟨λk hk=>h1 k (List.mem_range.1 hk),?_⟩;refine List.Pairwise.imp_of_mem (R:=λa b=>a<b) (λ{a b} ha hb hab=>?_) List.pairwise_lt_range;exact h2 a b hab (List.mem_range.1 hb)
theorem keepM_pw(m:Mv):(keepM m).Pairwise Apart2:=by
 unfold keepM;cases hasTag m 32<;>simp
theorem promoF_key{B:Bd}{S:Ps}{s1 s2 k:Int}{M:Mv}(h:M∈promoF B S s1 s2 k):M.s1=s1/\M.s2=s2/\M.promo=k+2:=by
 unfold promoF at h;obtain ⟨_,rfl⟩:=keepM_mem.1 h;exact ⟨rfl,rfl,rfl⟩
theorem s2F_key{B:Bd}{S:Ps}{p s1 s2:Int}{M:Mv}(h:M∈s2F B S p s1 s2):M.s1=s1/\M.s2=s2:=by
 unfold s2F at h;cases h1:(band (dest B S p s1) (bbSq s2)==0)<;>rw [h1] at h
 ·cases h2:isPromo p s2<;>rw [h2] at h
  ·obtain ⟨_,rfl⟩:=keepM_mem.1 h;exact ⟨rfl,rfl⟩
  obtain ⟨k,_,h⟩:=fm_mem.1 h;exact ⟨(promoF_key h).1,(promoF_key h).2.1⟩
 simp at h
theorem s2F_pw{B:Bd}{S:Ps}{p s1 s2:Int}:(s2F B S p s1 s2).Pairwise Apart2:=by
 unfold s2F;cases h1:(band (dest B S p s1) (bbSq s2)==0)
 ·cases h2:isPromo p s2
  ·exact keepM_pw _
  refine fm_pw (λk _=>keepM_pw _) λi j hij _ x hx y hy e=>?_;have a:=(promoF_key hx).2.2;have b:=(promoF_key hy).2.2;have c:x.promo=y.promo:=congrArg Sm.p e;omega
 exact List.Pairwise.nil
theorem s1F_key{B:Bd}{S:Ps}{p s1:Int}{M:Mv}(h:M∈s1F B S p s1):M.s1=s1/\(band (Bd.of B p) (bbSq s1)==0)=false:=by
 unfold s1F at h;cases h1:(band (Bd.of B p) (bbSq s1)==0)<;>rw [h1] at h
 ·cases h2:(dest B S p s1==0)<;>rw [h2] at h
  ·obtain ⟨k,_,h⟩:=fm_mem.1 h;exact ⟨(s2F_key h).1,rfl⟩
  simp at h
 simp at h
theorem s1F_pw{B:Bd}{S:Ps}{p s1:Int}:(s1F B S p s1).Pairwise Apart2:=by
 unfold s1F;cases h1:(band (Bd.of B p) (bbSq s1)==0)
 ·cases h2:(dest B S p s1==0)
  ·refine fm_pw (λk _=>s2F_pw) λi j hij _ x hx y hy e=>?_;have a:=(s2F_key hx).2;have b:=(s2F_key hy).2;have c:x.s2=y.s2:=congrArg Sm.t e;omega
  exact List.Pairwise.nil
 exact List.Pairwise.nil
theorem pF_key{P:SP}(hV:ValidS P){j:Nat}(hj:j<12){M:Mv}(h:M∈pF (boardOf P.bd) (psOf P) j):P.bd M.s1.toNat=(j:Int)+1:=by
 unfold pF at h;cases h1:((psOf P).turn !=pColor ((j:Int)+1))<;>rw [h1] at h
 ·cases h2:(Bd.of (boardOf P.bd) ((j:Int)+1)==0)<;>rw [h2] at h
  ·obtain ⟨s,hs,h⟩:=fm_mem.1 h;obtain ⟨a,b⟩:=s1F_key h;rw [pieces_of hV j s hs hj] at b;rw [a,Int.toNat_natCast];simpa using b
  simp at h
 simp at h
theorem pF_pw{B:Bd}{S:Ps}{j:Int}:(pF B S j).Pairwise Apart2:=by
 unfold pF;cases h1:(S.turn !=pColor (j+1))
 ·cases h2:(Bd.of B (j+1)==0)
  ·refine fm_pw (λk _=>s1F_pw) λi j hij _ x hx y hy e=>?_;have a:=(s1F_key hx).1;have b:=(s1F_key hy).1;have c:x.s1=y.s1:=congrArg Sm.f e;omega
  exact List.Pairwise.nil
 exact List.Pairwise.nil
theorem stdL_pw{P:SP}(hV:ValidS P):(stdL (boardOf P.bd) (psOf P)).Pairwise Apart2:=by
 unfold stdL;refine fm_pw (λk _=>pF_pw) λi j hij hj x hx y hy e=>?_;have a:=pF_key hV (by omega) hx;have b:=pF_key hV hj hy;have c:x.s1=y.s1:=congrArg Sm.f e;rw [c] at a;omega
theorem sub_len:∀(l:List Sm) (r:List Sm),l.Pairwise (·≠·)->(∀m∈l,m∈r)->l.length<=r.length
 |[],r,_,_=>Nat.zero_le _
 |a::l,r,hp,h=>by
  have hp':=List.pairwise_cons.1 hp;obtain ⟨u,v,e⟩:=List.append_of_mem (h a List.mem_cons_self);have:=sub_len l (u++v) hp'.2 (λm hm=>by
   have h1:=h m (List.mem_cons_of_mem _ hm)
   have h2:=hp'.1 m hm
   rw [e] at h1
   rcases List.mem_append.1 h1 with h1|h1
   ·exact List.mem_append.2 (Or.inl h1)
   ·rcases List.mem_cons.1 h1 with h1|h1
    ·exact absurd h1.symm h2
    ·exact List.mem_append.2 (Or.inr h1))
  rw [e];simp only [List.length_append,List.length_cons] at this⊢;omega
theorem stdL_few{P:SP}(hR:RightS P):(stdL (boardOf P.bd) (psOf P)).length<=218:=by
 obtain ⟨l,hl,hn⟩:=hR.few;have hV:=hR.valid;have h1:((stdL (boardOf P.bd) (psOf P)).map keyM).Pairwise (·≠·):=List.pairwise_map.2 (stdL_pw hV);have h2:∀m∈(stdL (boardOf P.bd) (psOf P)).map keyM,m∈l:=by
  intro m hm;obtain ⟨M,hM,rfl⟩:=List.mem_map.1 hm;exact (hl.mem _).2 ((allL_iff hV _).1 ⟨M,List.mem_append.2 (Or.inl hM),rfl,rfl,rfl⟩)
 have:=sub_len _ l h1 h2;rw [List.length_map] at this;omega
theorem spok{P:SP}(hV:ValidS P):SPok P:=by
 have hp:=passed_get hV.turn hV.passed;have hf:=hV.full;exact ⟨hV.bd,hV.turn,hV.castle,by rcases hp with h|h<;>omega,hV.half,by omega⟩
theorem band_of{B:Bd}{bd:Nat->Int}(hB:BRep B bd){p s:Int}(hp:1<=p/\p<=12)(hs:0<=s/\s<=63)(h:(band (Bd.of B p) (bbSq s)==0)=false):1<=pieceAt B s/\pieceAt B s<=12:=by
 obtain ⟨n,rfl⟩:∃n:Nat,s=n:=⟨s.toNat,by omega⟩;rw [beqz_false,band_bbSq (by omega),hB.of hp.1 hp.2 (by omega),beq_iff_eq] at h;rw [hB.pieceAt (by omega)];omega
theorem mvPre{P:SP}(hR:RightS P):MvPre (boardOf P.bd) (psOf P):=by
 have hV:=hR.valid;have hT:=hV.turn;obtain ⟨hB,_⟩:=base_rep hV;obtain ⟨q0,q1,q2,q3⟩:=canC_eq hV;have hS:(psOf P).turn=turnOf P.turn:=rfl;have hC:(psOf P).castle=castStr P.castle:=rfl;have hp:=passed_get hV.turn hV.passed;have other:∀(s:ByteArray) (t sd:Int),sd≠2->canC s t sd=canC s t 1:=by
  intro s t sd h2;unfold canC;rw [beq_eq_false_iff_ne.2 h2];rfl
 refine ⟨stdL_few hR,λp s hp hs h=>band_of hB hp hs h,by have:=castStr_size P.castle;rw [hC];omega,?_,?_,mkBoard_kings _,?_,?_⟩
 ·intro sd h1 h2;have e:P.turn=0:=by rw [hS] at h1;rcases turnOf_cases hT with ⟨a,b⟩|⟨a,b⟩<;>omega
  rw [h1,hC] at h2;have hk:P.bd 4=1:=by
   by_cases e2:sd=2
   ·rw [e2,q1] at h2;have:=(king_home hV (r:=1) (by omega) h2).1.2.1;rw [e] at this;exact this
   rw [other _ _ _ e2,q0] at h2;have:=(king_home hV (r:=0) (by omega) h2).1.2.1;rw [e] at this;exact this
  have:=hB.pieceAt (s:=4) (by decide);rw [show ((4:Nat):Int)=4 from rfl] at this;rw [this,hk];omega
 ·intro sd h1 h2;have e:P.turn=1:=by rw [hS] at h1;rcases turnOf_cases hT with ⟨a,b⟩|⟨a,b⟩<;>omega
  rw [h1,hC] at h2;have hk:P.bd 60=7:=by
   by_cases e2:sd=2
   ·rw [e2,q3] at h2;have:=(king_home hV (r:=3) (by omega) h2).1.2.1;rw [e] at this;exact this
   rw [other _ _ _ e2,q2] at h2;have:=(king_home hV (r:=2) (by omega) h2).1.2.1;rw [e] at this;exact this
  have:=hB.pieceAt (s:=60) (by decide);rw [show ((60:Nat):Int)=60 from rfl] at this;rw [this,hk];omega
 ·rw [hS];rcases turnOf_cases hT with ⟨a,b⟩|⟨a,b⟩<;>omega
 show-1<=P.ep/\P.ep<=63;rcases hp with h|h<;>omega
theorem mvOk_all{P:SP}(hV:ValidS P):∀M∈allL (boardOf P.bd) (psOf P),MvOk M:=by
 intro M hM;have h:=((allL_iff hV ⟨M.s1,M.s2,M.promo⟩).1 ⟨M,hM,rfl,rfl,rfl⟩).1;have hs:=pseudoL_ok hV.turn h;exact ⟨hs.f,hs.t,by have:=hs.p;show 0<=M.promo/\M.promo<=5;have e:(⟨M.s1,M.s2,M.promo⟩:Sm).p=M.promo:=rfl;omega⟩
theorem pseudo_piece{P:SP}(hV:ValidS P){m:Sm}(h:m∈pseudoL P):P.bd m.f.toNat≠0:=by
 rcases pseudo_mem.1 h with ⟨f,t,p,hs,rfl⟩|hc
 ·exact hs.1.x0
 have hT:=hV.turn;unfold castS at hc;have:∃r,(r=2*P.turn\/r=2*P.turn+1)/\m∈castR P r:=by
  rcases List.mem_append.1 hc with h|h
  ·exact ⟨_,Or.inl rfl,h⟩
  exact ⟨_,Or.inr rfl,h⟩
 obtain ⟨r,hr,h⟩:=this;obtain ⟨⟨h1,h2,h3,h4⟩,rfl⟩:=(castR_iff hV hr m).1 h;have hM:=castM_of hV hr h1 h4;show P.bd (homeK r).toNat≠0;rw [hM.king];omega
theorem plainU{P:SP}{m:Sm}(hR:RightS P)(h:m∈pseudoL P/\okS P m=true):PlainU P m:=by
 have hV:=hR.valid;have hs:=pseudoL_ok hV.turn h.1;obtain ⟨M,hM,e1,e2,e3⟩:=(allL_iff hV m).2 h;obtain ⟨i,hi,e⟩:=List.getElem_of_mem hM;have hB:=(base_rep hV).1;refine ⟨spok hV,mvPre hR,⟨i,hi,?_⟩,mvOk_all hV,?_,hs⟩
 ·have:mvAt (allL (boardOf P.bd) (psOf P)) i=M:=by
   unfold mvAt;rw [List.getD_eq_getElem?_getD,List.getElem?_eq_getElem hi];exact e
  rw [this];unfold eqM;rw [e1,e2,e3];simp
 have hf:=hs.f;have hp:=pseudo_piece hV h.1;have:=hB.pieceAt (s:=m.f.toNat) (by omega);rw [show ((m.f.toNat:Nat):Int)=m.f by omega] at this;have hx:=hV.bd m.f.toNat (by omega);rw [this];omega
def Out(B:Bd):Prop:=∀k:Nat,(k<1\/12<k)->B.bb k=0
theorem bd_ext{B B':Bd}{bd:Nat->Int}(h:BRep B bd)(h':BRep B' bd)(k:KRep B bd)(k':KRep B' bd)(o:Out B)(o':Out B'):B=B':=by
 have e1:B.bb=B'.bb:=by
  funext j;by_cases hj:1<=j/\j<=12
  · exact sb_ext (h.u j) (h'.u j) λs hs=>by rw [h.bit j hj.1 hj.2 s hs,h'.bit j hj.1 hj.2 s hs]
  rw [o j (by omega),o' j (by omega)]
 have e2:B.white=B'.white:=sb_ext h.uw h'.uw λs hs=>by rw [h.white s hs,h'.white s hs]
 have e3:B.black=B'.black:=sb_ext h.ub h'.ub λs hs=>by rw [h.black s hs,h'.black s hs]
 have e4:B.empty=B'.empty:=sb_ext h.ue h'.ue λs hs=>by rw [h.empty s hs,h'.empty s hs]
 obtain ⟨⟨a,ha,ea⟩,⟨b,hb,eb⟩⟩:=k;obtain ⟨⟨a',ha',ea'⟩,⟨b',hb',eb'⟩⟩:=k';have e5:B.wk=B'.wk:=by rw [ea,ea',ha.uniq ha']
 have e6:B.bk=B'.bk:=by rw [eb,eb',hb.uniq hb']
 cases B;cases B';simp only [Bd.mk.injEq];exact ⟨e1,e2,e3,e4,e5,e6⟩
theorem Out.board(g:Nat->Int):Out (boardOf g):=λk hk=>by
 show (if 1<=k/\(k:Int)<=12 then bbAcc (mpTo g 64) (k:Int) 64 else 0)=0;rw [if_neg (by omega)]
theorem Out.set{B:Bd}(h:Out B){k:Nat}(hk:1<=k/\k<=12)(x:Int):Out (B.set k x):=λj hj=>by
 show (if j=k then x else B.bb j)=0;rw [if_neg (by omega)];exact h j hj
theorem Out.upd{B:Bd}(h:Out B){M:Mv}{p:Int}(hp:1<=p/\p<=12)(hn:M.promo≠0->1<=newP M.promo (pColor p)/\newP M.promo (pColor p)<=12)(e:pieceAt B M.s1=p):Out (updB B M):=by
 have h1:Out (updTo B M 12):=λk hk=>by
  show (if 1<=k/\(k:Int)<=12 then mvBB M (B.bb k) else B.bb k)=0;rw [if_neg (by omega)];exact h k hk
 have h2:Out (updPromo M p (updTo B M 12)):=by
  unfold updPromo;cases hc:(M.promo !=0)
  · exact h1
  have:=hn (bne_iff_ne.1 hc);exact Out.set (Out.set h1 (by omega) _) (by omega) _
 have h3:Out (updEP M p (updPromo M p (updTo B M 12))):=by
  unfold updEP;cases hasTag M 8<;>cases (pColor p==1)
  · exact h2
  · exact h2
  · exact Out.set h2 (by omega) _
  exact Out.set h2 (by omega) _
 have h4:Out (updCastle M p (updEP M p (updPromo M p (updTo B M 12)))):=by
  have hr:∀(k:Nat) (a b:Int),1<=k/\k<=12->Out (rook (updEP M p (updPromo M p (updTo B M 12))) k a b):=λk a b hk=>Out.set h3 hk _;unfold updCastle;cases ((pColor p==1)&&(hasTag M 1))<;>cases ((pColor p==1)&&(hasTag M 2))<;>cases ((pColor p==2)&&(hasTag M 1))<;>cases ((pColor p==2)&&(hasTag M 2))<;>
   first|exact h3|exact hr _ _ _ (by omega)
 unfold updB;rw [e];unfold moveK;split
 · exact h4
 split
 · exact h4
 exact h4
theorem board_eq{B:Bd}{bd:Nat->Int}(h:BRep B bd)(k:KRep B bd)(o:Out B):B=boardOf bd:=by
 obtain ⟨⟨a,ha,ea⟩,⟨b,hb,eb⟩⟩:=k;exact bd_ext h (boardOf_rep h.rng) ⟨⟨a,ha,ea⟩,⟨b,hb,eb⟩⟩ (boardOf_kings h.rng ha hb) o (Out.board _)
theorem cast_only{P:SP}(hV:ValidS P){r:Int}(h:CastM P r){kp:Int}{k:Nat}(hkp:kp=1\/kp=7)(ho:OnlyAt P.bd kp k):
  OnlyAt (mk4 P.bd P.turn (homeK r) (homeK r+(2*cwS r)) 0) kp (if k=(homeK r).toNat then (homeK r+(2*cwS r)).toNat else k):=by
 have hT:=hV.turn;have hN:=homeN (r:=r) (by have:=h.hr;omega);have hlt:=hN.lt;have hne:=hN.ne;have hg:=mk4_cast hV h;refine OnlyAt.congr (bd:=castBd P.bd P.turn (homeK r).toNat (homeR r).toNat (homeK r+cwS r).toNat (homeK r+(2*cwS r)).toNat) ?_ λs _=>(hg s).symm;have hking:=h.king;have hrook:=h.rook;have hmid:=h.mid;have hdst:=h.dst;generalize (homeK r).toNat=K at*
 generalize (homeR r).toNat=R at*
 generalize (homeK r+cwS r).toNat=M at*
 generalize (homeK r+(2*cwS r)).toNat=T at*
 have h1:=move_only (y:=1+6*P.turn) ho (by omega) hlt.2.2.2 hne.2.2.1 (by omega) (λe=>by omega) (λe=>by omega) hlt.1;have hkR:R≠k:=by rintro rfl;have:=ho.2.1;omega
 have hkM:M≠k:=by rintro rfl;have:=ho.2.1;omega
 have h2:=upd_only (q:=R) (v:=0) h1 (by split<;>omega) (by omega);have h3:=upd_only (q:=M) (v:=3+6*P.turn) h2 (by split<;>omega) (by omega);exact h3
theorem next_cast{P:SP}(hV:ValidS P){r tags:Int}(h:CastM P r)(h0:tagb tags 0=decide (r%2=0))(h1:tagb tags 1=decide (r%2=1))(h3:tagb tags 3=false):
  BRep (updB (boardOf P.bd) ⟨tags,homeK r,homeK r+(2*cwS r),0⟩) (mk4 P.bd P.turn (homeK r) (homeK r+(2*cwS r)) 0)/\KRep (updB (boardOf P.bd) ⟨tags,homeK r,homeK r+(2*cwS r),0⟩) (mk4 P.bd P.turn (homeK r) (homeK r+(2*cwS r)) 0):=by
 have hT:=hV.turn;obtain ⟨hB,hK⟩:=base_rep hV;have hr3:0<=r/\r<=3:=by have:=h.hr;omega
 have hN:=homeN hr3;have hlt:=hN.lt;have hne:=hN.ne;have hg:=mk4_cast hV h;have hp1:pieceAt (boardOf P.bd) (homeK r)=1+6*P.turn:=by
  have:=hB.pieceAt hlt.1;rw [←hN.ki] at this;rw [this,h.king]
 have t1:hasTag (⟨tags,homeK r,homeK r+(2*cwS r),0⟩:Mv) 1=decide (r%2=0):=by rw [tag1];exact h0
 have t2:hasTag (⟨tags,homeK r,homeK r+(2*cwS r),0⟩:Mv) 2=decide (r%2=1):=by rw [tag2];exact h1
 have t8:hasTag (⟨tags,homeK r,homeK r+(2*cwS r),0⟩:Mv) 8=false:=by rw [tag8];exact h3
 have hb1:=updTo_bits hB.bits (M:=⟨tags,homeK r,homeK r+(2*cwS r),0⟩) (by dsimp only;have:=hN.ki;omega) (by dsimp only;have:=hN.ti;omega) (by dsimp only;have:=hN.ki;have:=hN.ti;omega);dsimp only at hb1;have hk:=chain_k (⟨tags,homeK r,homeK r+(2*cwS r),0⟩:Mv) (1+6*P.turn) (boardOf P.bd);have e:updB (boardOf P.bd) ⟨tags,homeK r,homeK r+(2*cwS r),0⟩=moveK (calcB (updCastle ⟨tags,homeK r,homeK r+(2*cwS r),0⟩ (1+6*P.turn) (updEP ⟨tags,homeK r,homeK r+(2*cwS r),0⟩ (1+6*P.turn) (updPromo ⟨tags,homeK r,homeK r+(2*cwS r),0⟩ (1+6*P.turn) (updTo (boardOf P.bd) ⟨tags,homeK r,homeK r+(2*cwS r),0⟩ 12))))) ⟨tags,homeK r,homeK r+(2*cwS r),0⟩:=by
  unfold updB;dsimp only;rw [hp1]
 rw [e];rw [promo_id rfl,ep_id t8] at hk⊢;have hb2:BBits (updCastle ⟨tags,homeK r,homeK r+(2*cwS r),0⟩ (1+6*P.turn) (updTo (boardOf P.bd) ⟨tags,homeK r,homeK r+(2*cwS r),0⟩ 12)) (mk4 P.bd P.turn (homeK r) (homeK r+(2*cwS r)) 0):=by
  have hrook:=rook_bits hb1 (k:=(3+6*P.turn).toNat) (by omega) hlt.2.1 hlt.2.2.1 hne.2.2.2.1 (by rw [upd_ne hne.2.2.2.2.1,upd_ne (Ne.symm hne.1),h.rook];omega) (by rw [upd_ne hne.2.2.2.2.2,upd_ne (Ne.symm hne.2.1)];exact h.mid);have hrook:=hrook.congr (bd':=mk4 P.bd P.turn (homeK r) (homeK r+(2*cwS r)) 0) λs _=>by
   rw [hg s,h.king];unfold castBd;rw [show (((3+6*P.turn).toNat:Nat):Int)=3+6*P.turn by omega]
  have e2:updCastle ⟨tags,homeK r,homeK r+(2*cwS r),0⟩ (1+6*P.turn) (updTo (boardOf P.bd) ⟨tags,homeK r,homeK r+(2*cwS r),0⟩ 12)=rook (updTo (boardOf P.bd) ⟨tags,homeK r,homeK r+(2*cwS r),0⟩ 12) (3+6*P.turn).toNat (((homeR r).toNat:Nat):Int) (((homeK r+cwS r).toNat:Nat):Int):=by
   unfold updCastle;rw [t1,t2];have:=h.hr;rcases (by omega:(P.turn=0/\r=0)\/(P.turn=0/\r=1)\/(P.turn=1/\r=2)\/(P.turn=1/\r=3)) with ⟨et,rfl⟩|⟨et,rfl⟩|⟨et,rfl⟩|⟨et,rfl⟩<;>rw [et]<;>rfl
  rw [e2];exact hrook
 have hr:=moveK_brep (calc_rep hb2 (mk4_rng hV.bd hV.turn (by have:=hN.ki;omega) (by omega))) ⟨tags,homeK r,homeK r+(2*cwS r),0⟩;refine ⟨hr,moveK_rep hK hk.1 hk.2 hN.ki hN.ti (λk=>?_) (λk=>?_)⟩
 · exact cast_only hV h (Or.inl rfl)
 exact cast_only hV h (Or.inr rfl)
open Go.Proofs.Tryz
noncomputable def zero180:Array Value:=match prog.info? 180 with|some i=>(match i.zero with|some z=>z.cells|none=>#[])|none=>#[]
theorem zero180_size:zero180.size=11:=by kernel_rfl
theorem arr_row{w:World}{b:Nat}{A:Array Value}{q:Value}{m:Mv}{t:TypeId}{fr:Nat×Nat}(h:At w b (.cells (storeRow A 0 (mvCells q m).toList) t fr))(hs:11<=A.size):(Ob.row ⟨b,0,none⟩ 11 (mvCells q m)).holds w:=by
 have hl:(mvCells q m).toList.length=11:=by simp [mvCells]
 have ht:=storeRow_take (mvCells q m).toList A 0 (by omega);rw [hl] at ht;simp only [List.take_zero,List.nil_append,Nat.zero_add] at ht;refine At.part h (by simp [mvCells]) λj hj=>?_;have e:(mvCells q m)[j]?=(mvCells q m).toList[j]?:=by simp
 have e2:=congrArg (λl=>l[j]?) ht;simp only [List.getElem?_take,hj,if_true] at e2;rw [e,←e2,Nat.zero_add];simp
set_option maxHeartbeats 1600000 in
theorem c122t{c:GC}{p b:Nat}{vm:Value}{S:Ps}{w:World}(hp:At w p (.cells (psCells b vm S) 110 (0,0))){B:Bd}(hb:At w b (.cells (bdCells B) 135 (0,0)))(hG:Glob c w)(hpc:∀p s:Int,(1<=p/\p<=12)->(0<=s/\s<=63)->(band (Bd.of B p) (bbSq s)==(0:Int))=false->1<=pieceAt B s/\pieceAt B s<=12)(hk:KingsOk B)(hT:S.turn=1\/S.turn=2)(he:-1<=S.ep/\S.ep<=63):
  CQ 122 [pz p,.bool true] w (λe w'=>∃g n X t,e=.returned (.slice (some ⟨g,0,none⟩) n n)/\Mod [] w w'/\w.heap.size<=g/\At w' g (.cells X t (0,0))/\X.size=n*11/\n<=1/\(0<n↔0<(stdL B S).length)):=by
 have hm0:Mod [] w w:=Mod.refl _ _;refine en func122 ntmps122 ?_;refine zw<|yS 1<|zx<|zA zero176 176 (some 5) ?_;intro b1 w2 hn3;have hb4:c.base<=b1:=Glob.lt hG hn3;have hb5:=Nat.le_trans hm0.size hn3.base;have hm6:=hn3.mod;have hG9:=Glob.on hG hm6;have hm10:=zt hm0 hm6;refine zx<|yS 1<|zx<|zA (mvCells (.pointer none) (⟨0,0,0,0⟩:Mv)) 98 (some 7) ?_;intro b12 w13 hn14;have hb15:c.base<=b12:=Glob.lt hG9 hn14;have hb16:=Nat.le_trans hm10.size hn14.base;have hm17:=hn14.mod;have hG21:=Glob.on hG9 hm17;have hm22:=zt hm10 hm17;refine zx<|yO 9 [.cell ⟨p,0,none⟩ (pz b),.cell ⟨b,12,none⟩ (.int .u64 B.white)] (⟨yc rfl,yc rfl⟩)<|zz<|w_cut (γ:=Int) (λg24=>[(0,pz p),(1,.bool true),(5,pz b1),(6,.int .i64 0),(7,pz b12),(8,.int .u64 g24)]) (λg24 w_=>Mod [] w13 w_/\g24=(allowed B S.turn)) ?_ ?_
 ·refine zw<|yS 1<|zk (some 29) (c66 (yA w13 p)) fun w28 hm29=>yS 1<|zz<|yC (S.turn==2) (λhc37=>?_) λhc37=>?_
  ·have dhc37:=eq_of_beq hc37;exact w_region<|yO 9 [.cell ⟨p,0,none⟩ (pz b),.cell ⟨b,13,none⟩ (.int .u64 B.black)] (⟨yc rfl,yc rfl⟩)<|ze<|zb (bnot B.black) ⟨yt,(by simp only [allowed,hc37,cond_true,cond_false])⟩
  have dhc37:=ne_of_beq_false hc37;exact w_skip<|zb (bnot B.white) ⟨yt,(by simp only [allowed,hc37,cond_true,cond_false])⟩
 rintro _ w25 ⟨hm26,rfl⟩;have hG42:=Glob.on hG21 hm26;have hm43:=zt hm22 hm26;refine w_seq<|zw<|yO 3 [.cell ⟨0,0,none⟩ (.slice (some ⟨c.ap,c.apo,none⟩) 12 12)] (hG42.g0)<|zz<|w_block ?_;have he56:fm (pF B S) (0:Int).toNat=[]:=by simp [fm]
 refine yP (γ:=Int×Array Value×Mv) (λq47=>(12-q47.1).toNat) (λq47=>[(0,pz p),(1,.bool true),(5,pz b1),(6,.int .i64 0),(7,pz b12),(8,.int .u64 (allowed B S.turn)),(39,.slice (some ⟨c.ap,c.apo,none⟩) 12 12),(40,.int .i64 ((12:Nat):Int)),(41,.int .i64 q47.1)]) (λ(q47:Int×Array Value×Mv) w_=>(0<=q47.1/\q47.1<=12)/\Mod [b1,b12] w25 w_/\At w_ b1 (.cells q47.2.1 176 (0,0))/\At w_ b12 (.cells (mvCells (.pointer none) q47.2.2) 98 (0,0))/\MvArr q47.2.1 []/\fm (pF B S) q47.1.toNat=[]) (0,zero176,(⟨0,0,0,0⟩:Mv)) ⟨by constructor<;>dsimp only<;>omega,Mod.refl _ _,ya,ya,MvArr.zero,he56⟩ ?_;rintro ⟨g44,A45,M46⟩ w48 ⟨⟨h50,h51⟩,hm49,hf52,hf53,hx54,hz55⟩;replace h50:0<=g44:=h50;replace h51:g44<=12:=h51;replace hf52:At w48 b1 (.cells A45 176 (0,0)):=hf52;replace hf53:At w48 b12 (.cells (mvCells (.pointer none) M46) 98 (0,0)):=hf53;replace hx54:MvArr A45 []:=hx54;replace hz55:fm (pF B S) g44.toNat=[]:=hz55;have hG59:=Glob.keep hG42 hm49 (by simp<;>omega);have hm60:=Mod.fresh' hm43 hm49 (by simp<;>omega);refine zw<|yS 1<|zz<|w_seq<|yC (decide (g44<((12:Nat):Int))) (λhc61=>?_) λhc61=>?_
 ·have dhc61:=of_decide_eq_true hc61;refine w_skip<|n_then<|w_seq<|w_block<|zw<|yO 3 [.prop (0<=g44/\g44<((12:Nat):Int)),.cell ⟨c.ap,(c.apo+g44.toNat*1),none⟩ (.int .i8 (((g44.toNat*1:Nat):Int)+1))] (⟨(zh (by omega)),(hG59.pieces (g44.toNat*1) (by omega))⟩)<|ze ?_;rw [(show ((((g44.toNat*1:Nat):Int)+1):Int)=(g44+1) from (by omega))];refine n_then<|w_seq<|zw<|yS 1<|zk (some 46) (c66 (yA w48 p)) ?_;intro w62 hm63;have hG68:=Glob.on hG59 hm63;have hm69:=zt hm60 hm63;have hm70:=Mod.trans hm49 (Mod.of_nil hm63);refine yS 1<|zk (some 48) (c102 (g44+1) w62) ?_;intro w71 hm72;have hG77:=Glob.on hG68 hm72;have hm78:=zt hm69 hm72;have hm79:=Mod.trans hm70 (Mod.of_nil hm72);refine yS 1<|zz<|yC (S.turn !=(pColor (g44+1))) (λhc80=>?_) λhc80=>?_
  ·refine w_exit<|x_then<|x_hit<|n_then<|w_region<|yS 2<|yW 41 (zi (g44+1) (by omega) (by omega))<|ze ?_;have he81:fm (pF B S) (g44+1).toNat=[]:=by rw [fm_succ (by omega)];refine Eq.trans ?_ hz55;simp only [pF,hc80,cond_true,cond_false,Bool.not_true,Bool.not_false,List.append_nil]
   have hM84:At w71 b12 (.cells (mvCells (.pointer none) M46) 98 (0,0)):=ya;obtain ⟨Aq85,hA82,hX83⟩:∃A,At w71 b1 (.cells A 176 (0,0))/\MvArr A []:=⟨_,ya,hx54⟩;exact zl ((g44+1),Aq85,M46) ⟨by constructor<;>dsimp only<;>omega,hm79,hA82,hM84,hX83,he81⟩ (hlt:=(by dsimp only;omega))
  refine w_skip<|zn<|yL 5 p 0<|zk (some 55) (c97 (yA w71 b) (g44+1)) ?_;intro w86 hm87;have hG92:=Glob.on hG77 hm87;have hm93:=zt hm78 hm87;have hm94:=Mod.trans hm79 (Mod.of_nil hm87);refine yS 1<|zz<|w_seq<|zw<|yS 2<|zz<|yC ((Bd.of B (g44+1))==0) (λhc95=>?_) λhc95=>?_
  ·have dhc95:=eq_of_beq hc95;refine w_exit<|x_then<|x_hit<|n_then<|w_region<|yS 2<|yW 41 (zi (g44+1) (by omega) (by omega))<|ze ?_;have he96:fm (pF B S) (g44+1).toNat=[]:=by rw [fm_succ (by omega)];refine Eq.trans ?_ hz55;simp only [pF,hc80,hc95,cond_true,cond_false,Bool.not_true,Bool.not_false,List.append_nil]
   have hM99:At w86 b12 (.cells (mvCells (.pointer none) M46) 98 (0,0)):=ya;obtain ⟨Aq100,hA97,hX98⟩:∃A,At w86 b1 (.cells A 176 (0,0))/\MvArr A []:=⟨_,ya,hx54⟩;exact zl ((g44+1),Aq100,M46) ⟨by constructor<;>dsimp only<;>omega,hm94,hA97,hM99,hX98,he96⟩ (hlt:=(by dsimp only;omega))
  have dhc95:=ne_of_beq_false hc95;refine w_skip<|n_then<|w_seq ?_;have hb101:(fm (pF B S) g44.toNat).length+(fm (s1F B S (g44+1)) 64).length<=(stdL B S).length:=by
   have hh:=fm_le (f:=pF B S) (n:=12) (j:=g44) (by omega) (by omega);simp only [pF,hc80,hc95,cond_true,cond_false] at hh;exact hh
  refine w_region<|yS 1<|zz<|w_block ?_;have he114:fm (pF B S) g44.toNat++fm (s1F B S (g44+1)) (0:Int).toNat=[]:=by rw [hz55];simp [fm]
  refine yP (γ:=Int×Array Value×Mv) (λq105=>(64-q105.1).toNat) (λq105=>[(0,pz p),(1,.bool true),(5,pz b1),(6,.int .i64 0),(7,pz b12),(8,.int .u64 (allowed B S.turn)),(10,.int .i8 (g44+1)),(11,.int .u64 (Bd.of B (g44+1))),(39,.slice (some ⟨c.ap,c.apo,none⟩) 12 12),(40,.int .i64 ((12:Nat):Int)),(41,.int .i64 g44),(58,.int .i64 q105.1)]) (λ(q105:Int×Array Value×Mv) w_=>(0<=q105.1/\q105.1<=64)/\Mod [b1,b12] w86 w_/\At w_ b1 (.cells q105.2.1 176 (0,0))/\At w_ b12 (.cells (mvCells (.pointer none) q105.2.2) 98 (0,0))/\MvArr q105.2.1 []/\fm (pF B S) g44.toNat++fm (s1F B S (g44+1)) q105.1.toNat=[]) (0,A45,M46) ⟨by constructor<;>dsimp only<;>omega,Mod.refl _ _,ya,ya,hx54,he114⟩ ?_;rintro ⟨g102,A103,M104⟩ w106 ⟨⟨h108,h109⟩,hm107,hf110,hf111,hx112,hz113⟩;replace h108:0<=g102:=h108;replace h109:g102<=64:=h109;replace hf110:At w106 b1 (.cells A103 176 (0,0)):=hf110;replace hf111:At w106 b12 (.cells (mvCells (.pointer none) M104) 98 (0,0)):=hf111;replace hx112:MvArr A103 []:=hx112;replace hz113:fm (pF B S) g44.toNat++fm (s1F B S (g44+1)) g102.toNat=[]:=hz113;have hG117:=Glob.keep hG92 hm107 (by simp<;>omega);have hm118:=Mod.fresh' hm93 hm107 (by simp<;>omega);have hm119:=Mod.fresh' hm94 hm107 (by simp<;>omega);refine zw<|yS 1<|zz<|w_seq<|yC (decide (g102<64)) (λhc120=>?_) λhc120=>?_
  ·have dhc120:=of_decide_eq_true hc120;refine w_skip<|n_then<|w_seq<|w_block<|zw<|yS 2<|zz<|w_seq<|zw<|zs 3 [rz 0 p,(1,.bool true),rz 5 b1,iz 6 0,rz 7 b12,(8,.int .u64 (allowed B S.turn)),(10,.int .i8 (g44+1)),(11,.int .u64 (Bd.of B (g44+1))),iz 12 g102,(39,.slice (some ⟨c.ap,c.apo,none⟩) 12 12),iz 40 ((12:Nat):Int),iz 41 g44,iz 58 g102,(61,.int .u64 (Bd.of B (g44+1))),(63,.int .i8 (IntKind.i8.wrap g102))] ?_;rw [(show ((IntKind.i8.wrap g102):Int)=g102 from i8_in' (by omega) (by omega))];refine zk (some 64) (c99 g102 w106 (by omega) (by omega)) ?_;intro w121 hm122;have hG127:=Glob.on hG117 hm122;have hm128:=zt hm118 hm122;have hm129:=Mod.trans hm119 (Mod.of_nil hm122);have hm130:=Mod.trans hm107 (Mod.of_nil hm122);refine yS 2<|zz<|yC ((band (Bd.of B (g44+1)) (bbSq g102))==0) (λhc131=>?_) λhc131=>?_
   ·have dhc131:=eq_of_beq hc131;refine w_exit<|x_then<|x_hit<|n_then<|w_region<|yS 2<|yW 58 (zi (g102+1) (by omega) (by omega))<|ze ?_;have he132:fm (pF B S) g44.toNat++fm (s1F B S (g44+1)) (g102+1).toNat=[]:=by rw [fm_succ (by omega),←List.append_assoc];refine Eq.trans ?_ hz113;simp only [s1F,dest,hc80,hc95,hc131,cond_true,cond_false,Bool.not_true,Bool.not_false,List.append_nil]
    have hM135:At w121 b12 (.cells (mvCells (.pointer none) M104) 98 (0,0)):=ya;obtain ⟨Aq136,hA133,hX134⟩:∃A,At w121 b1 (.cells A 176 (0,0))/\MvArr A []:=⟨_,ya,hx112⟩;exact zl ((g102+1),Aq136,M104) ⟨by constructor<;>dsimp only<;>omega,hm130,hA133,hM135,hX134,he132⟩ (hlt:=(by dsimp only;omega))
   have dhc131:=ne_of_beq_false hc131;refine w_skip<|zn<|yS 2<|zk (some 69) (c73 (g44+1) w121) ?_;intro w137 hm138;have hG143:=Glob.on hG127 hm138;have hm144:=zt hm128 hm138;have hm145:=Mod.trans hm129 (Mod.of_nil hm138);have hm146:=Mod.trans hm130 (Mod.of_nil hm138);refine zs 2 [rz 0 p,(1,.bool true),rz 5 b1,iz 6 0,rz 7 b12,(8,.int .u64 (allowed B S.turn)),(10,.int .i8 (g44+1)),(11,.int .u64 (Bd.of B (g44+1))),iz 12 g102,(39,.slice (some ⟨c.ap,c.apo,none⟩) 12 12),iz 40 ((12:Nat):Int),iz 41 g44,iz 58 g102,rz 67 p,(69,.int .i8 (pType (g44+1))),(71,.int .i8 (IntKind.i8.wrap g102))] ?_;rw [(show ((IntKind.i8.wrap g102):Int)=g102 from i8_in' (by omega) (by omega))];refine zk (some 72) (c134 (yA w137 p) (yA w137 b) hG143 (pType (g44+1)) g102 (by omega) (by assumption)) ?_;intro w147 hm148;have hG153:=Glob.on hG143 hm148;have hm154:=zt hm144 hm148;have hm155:=Mod.trans hm145 (Mod.of_nil hm148);have hm156:=Mod.trans hm146 (Mod.of_nil hm148);refine yS 3<|zz<|w_seq<|zw<|yS 2<|zz<|yC ((band (possMv B S (pType (g44+1)) g102) (allowed B S.turn))==0) (λhc157=>?_) λhc157=>?_
   ·have dhc157:=eq_of_beq hc157;refine w_exit<|x_then<|x_hit<|n_then<|w_region<|yS 2<|yW 58 (zi (g102+1) (by omega) (by omega))<|ze ?_;have he158:fm (pF B S) g44.toNat++fm (s1F B S (g44+1)) (g102+1).toNat=[]:=by rw [fm_succ (by omega),←List.append_assoc];refine Eq.trans ?_ hz113;simp only [s1F,dest,hc80,hc95,hc131,hc157,cond_true,cond_false,Bool.not_true,Bool.not_false,List.append_nil]
    have hM161:At w147 b12 (.cells (mvCells (.pointer none) M104) 98 (0,0)):=ya;obtain ⟨Aq162,hA159,hX160⟩:∃A,At w147 b1 (.cells A 176 (0,0))/\MvArr A []:=⟨_,ya,hx112⟩;exact zl ((g102+1),Aq162,M104) ⟨by constructor<;>dsimp only<;>omega,hm156,hA159,hM161,hX160,he158⟩ (hlt:=(by dsimp only;omega))
   have dhc157:=ne_of_beq_false hc157;refine w_skip<|n_then<|w_seq ?_;have hb163:(fm (pF B S) g44.toNat).length+(fm (s1F B S (g44+1)) g102.toNat).length+(fm (s2F B S (g44+1) g102) 64).length<=(stdL B S).length:=by
    have hh:=fm_le (f:=s1F B S (g44+1)) (n:=64) (j:=g102) (by omega) (by omega);simp only [s1F,dest,hc80,hc95,hc131,hc157,cond_true,cond_false] at hh;have h2:=hb101;omega
   refine w_region<|yS 1<|zz<|w_block ?_;have he176:fm (pF B S) g44.toNat++fm (s1F B S (g44+1)) g102.toNat++fm (s2F B S (g44+1) g102) (0:Int).toNat=[]:=by rw [hz113];simp [fm]
   refine yP (γ:=Int×Array Value×Mv) (λq167=>(64-q167.1).toNat) (λq167=>[(0,pz p),(1,.bool true),(5,pz b1),(6,.int .i64 0),(7,pz b12),(8,.int .u64 (allowed B S.turn)),(10,.int .i8 (g44+1)),(11,.int .u64 (Bd.of B (g44+1))),(12,.int .i64 g102),(13,.int .u64 (band (possMv B S (pType (g44+1)) g102) (allowed B S.turn))),(39,.slice (some ⟨c.ap,c.apo,none⟩) 12 12),(40,.int .i64 ((12:Nat):Int)),(41,.int .i64 g44),(58,.int .i64 g102),(77,.int .i64 q167.1)]) (λ(q167:Int×Array Value×Mv) w_=>(0<=q167.1/\q167.1<=64)/\Mod [b1,b12] w147 w_/\At w_ b1 (.cells q167.2.1 176 (0,0))/\At w_ b12 (.cells (mvCells (.pointer none) q167.2.2) 98 (0,0))/\MvArr q167.2.1 []/\fm (pF B S) g44.toNat++fm (s1F B S (g44+1)) g102.toNat++fm (s2F B S (g44+1) g102) q167.1.toNat=[]) (0,A103,M104) ⟨by constructor<;>dsimp only<;>omega,Mod.refl _ _,ya,ya,hx112,he176⟩ ?_;rintro ⟨g164,A165,M166⟩ w168 ⟨⟨h170,h171⟩,hm169,hf172,hf173,hx174,hz175⟩;replace h170:0<=g164:=h170;replace h171:g164<=64:=h171;replace hf172:At w168 b1 (.cells A165 176 (0,0)):=hf172;replace hf173:At w168 b12 (.cells (mvCells (.pointer none) M166) 98 (0,0)):=hf173;replace hx174:MvArr A165 []:=hx174;replace hz175:fm (pF B S) g44.toNat++fm (s1F B S (g44+1)) g102.toNat++fm (s2F B S (g44+1) g102) g164.toNat=[]:=hz175;have hG179:=Glob.keep hG153 hm169 (by simp<;>omega);have hm180:=Mod.fresh' hm154 hm169 (by simp<;>omega);have hm181:=Mod.fresh' hm155 hm169 (by simp<;>omega);have hm182:=Mod.fresh' hm156 hm169 (by simp<;>omega);refine zw<|yS 1<|zz<|w_seq<|yC (decide (g164<64)) (λhc183=>?_) λhc183=>?_
   ·have dhc183:=of_decide_eq_true hc183;refine w_skip<|n_then<|w_seq<|w_block<|zw<|yS 2<|zz<|w_seq<|zw<|zs 3 [rz 0 p,(1,.bool true),rz 5 b1,iz 6 0,rz 7 b12,(8,.int .u64 (allowed B S.turn)),(10,.int .i8 (g44+1)),(11,.int .u64 (Bd.of B (g44+1))),iz 12 g102,(13,.int .u64 (band (possMv B S (pType (g44+1)) g102) (allowed B S.turn))),iz 14 g164,(39,.slice (some ⟨c.ap,c.apo,none⟩) 12 12),iz 40 ((12:Nat):Int),iz 41 g44,iz 58 g102,iz 77 g164,(80,.int .u64 (band (possMv B S (pType (g44+1)) g102) (allowed B S.turn))),(82,.int .i8 (IntKind.i8.wrap g164))] ?_;rw [(show ((IntKind.i8.wrap g164):Int)=g164 from i8_in' (by omega) (by omega))];refine zk (some 83) (c99 g164 w168 (by omega) (by omega)) ?_;intro w184 hm185;have hG190:=Glob.on hG179 hm185;have hm191:=zt hm180 hm185;have hm192:=Mod.trans hm181 (Mod.of_nil hm185);have hm193:=Mod.trans hm182 (Mod.of_nil hm185);have hm194:=Mod.trans hm169 (Mod.of_nil hm185);refine yS 2<|zz<|yC ((band (band (possMv B S (pType (g44+1)) g102) (allowed B S.turn)) (bbSq g164))==0) (λhc195=>?_) λhc195=>?_
    ·have dhc195:=eq_of_beq hc195;refine w_exit<|x_then<|x_hit<|n_then<|w_region<|yS 2<|yW 77 (zi (g164+1) (by omega) (by omega))<|ze ?_;have he196:fm (pF B S) g44.toNat++fm (s1F B S (g44+1)) g102.toNat++fm (s2F B S (g44+1) g102) (g164+1).toNat=[]:=by rw [fm_succ (by omega),←List.append_assoc];refine Eq.trans ?_ hz175;simp only [s2F,dest,isPromo,keepM,plainM,hc80,hc95,hc131,hc157,hc195,cond_true,cond_false,Bool.not_true,Bool.not_false,List.append_nil]
     have hM199:At w184 b12 (.cells (mvCells (.pointer none) M166) 98 (0,0)):=ya;obtain ⟨Aq200,hA197,hX198⟩:∃A,At w184 b1 (.cells A 176 (0,0))/\MvArr A []:=⟨_,ya,hx174⟩;exact zl ((g164+1),Aq200,M166) ⟨by constructor<;>dsimp only<;>omega,hm194,hA197,hM199,hX198,he196⟩ (hlt:=(by dsimp only;omega))
    have dhc195:=ne_of_beq_false hc195;refine w_skip<|zn<|zs 3 [rz 0 p,(1,.bool true),rz 5 b1,iz 6 0,rz 7 b12,(8,.int .u64 (allowed B S.turn)),(10,.int .i8 (g44+1)),(11,.int .u64 (Bd.of B (g44+1))),iz 12 g102,(13,.int .u64 (band (possMv B S (pType (g44+1)) g102) (allowed B S.turn))),iz 14 g164,(39,.slice (some ⟨c.ap,c.apo,none⟩) 12 12),iz 40 ((12:Nat):Int),iz 41 g44,iz 58 g102,iz 77 g164,(87,.int .i8 (IntKind.i8.wrap g102)),(88,.pointer (some ⟨b12,8,none⟩))] ?_;rw [(show ((IntKind.i8.wrap g102):Int)=g102 from i8_in' (by omega) (by omega))];refine zS b12 8 (.int .i8 g102) ?_;intro w201 hu202;have hG207:=Glob.keep hG190 hu202.mod (by simp<;>omega);have hm208:=Mod.fresh' hm191 hu202.mod (by simp<;>omega);have hm209:=Mod.fresh' hm192 hu202.mod (by simp<;>omega);have hm210:=Mod.fresh' hm193 hu202.mod (by simp<;>omega);have hm211:=Mod.fresh' hm194 hu202.mod (by simp<;>omega);refine zx<|zs 3 [rz 0 p,(1,.bool true),rz 5 b1,iz 6 0,rz 7 b12,(8,.int .u64 (allowed B S.turn)),(10,.int .i8 (g44+1)),(11,.int .u64 (Bd.of B (g44+1))),iz 12 g102,(13,.int .u64 (band (possMv B S (pType (g44+1)) g102) (allowed B S.turn))),iz 14 g164,(39,.slice (some ⟨c.ap,c.apo,none⟩) 12 12),iz 40 ((12:Nat):Int),iz 41 g44,iz 58 g102,iz 77 g164,(90,.int .i8 (IntKind.i8.wrap g164)),(91,.pointer (some ⟨b12,9,none⟩))] ?_;rw [(show ((IntKind.i8.wrap g164):Int)=g164 from i8_in' (by omega) (by omega))];refine zS b12 9 (.int .i8 g164) ?_;intro w212 hu213;have hG218:=Glob.keep hG207 hu213.mod (by simp<;>omega);have hm219:=Mod.fresh' hm208 hu213.mod (by simp<;>omega);have hm220:=Mod.fresh' hm209 hu213.mod (by simp<;>omega);have hm221:=Mod.fresh' hm210 hu213.mod (by simp<;>omega);have hm222:=Mod.fresh' hm211 hu213.mod (by simp<;>omega);refine zx<|yS 1<|zS b12 7 (.int .u16 0) ?_;intro w223 hu224;have hG229:=Glob.keep hG218 hu224.mod (by simp<;>omega);have hm230:=Mod.fresh' hm219 hu224.mod (by simp<;>omega);have hm231:=Mod.fresh' hm220 hu224.mod (by simp<;>omega);have hm232:=Mod.fresh' hm221 hu224.mod (by simp<;>omega);have hm233:=Mod.fresh' hm222 hu224.mod (by simp<;>omega);refine zz<|w_cut (γ:=Unit) (λ_=>[(0,pz p),(1,.bool true),(5,pz b1),(6,.int .i64 0),(7,pz b12),(8,.int .u64 (allowed B S.turn)),(10,.int .i8 (g44+1)),(11,.int .u64 (Bd.of B (g44+1))),(12,.int .i64 g102),(13,.int .u64 (band (possMv B S (pType (g44+1)) g102) (allowed B S.turn))),(39,.slice (some ⟨c.ap,c.apo,none⟩) 12 12),(40,.int .i64 ((12:Nat):Int)),(41,.int .i64 g44),(58,.int .i64 g102),(77,.int .i64 g164),(110,.bool ((((g44+1)==6)&&((sqRank (IntKind.i8.wrap g164))==7))||(((g44+1)==12)&&((sqRank (IntKind.i8.wrap g164))==0))))]) (λ_ w_=>Mod [] w223 w_) ?_ ?_
    ·refine w_region<|yS 3<|yE 95 (.bool ((g44+1)==(6:Int))) ?_;cases hc237:((g44+1)==(6:Int))
     ·refine yS 9<|yE 104 (.bool ((g44+1)==(12:Int))) ?_;cases hc238:((g44+1)==(12:Int))
      ·exact yS 6<|ze<|zb () yt
      exact yS 2<|zk (some 107) (c132 (IntKind.i8.wrap g164) w223) fun w239 hm240=>yS 3<|ze<|zb () yt
     refine yS 2<|zk (some 98) (c132 (IntKind.i8.wrap g164) w223) fun w250 hm251=>yS 3<|yE 101 (.bool ((sqRank (IntKind.i8.wrap g164))==(7:Int))) ?_;cases hc261:((sqRank (IntKind.i8.wrap g164))==(7:Int))
     ·refine yS 3<|yE 104 (.bool ((g44+1)==(12:Int))) ?_;cases hc262:((g44+1)==(12:Int))
      ·exact yS 6<|ze<|zb () yt
      exact yS 2<|zk (some 107) (c132 (IntKind.i8.wrap g164) w250) fun w263 hm264=>yS 3<|ze<|zb () yt
     exact yS 9<|ze<|zb () yt
    intro _ w234 hm235;have hG278:=Glob.on hG229 hm235;have hm279:=zt hm230 hm235;have hm280:=Mod.trans hm231 (Mod.of_nil hm235);have hm281:=Mod.trans hm232 (Mod.of_nil hm235);have hm282:=Mod.trans hm233 (Mod.of_nil hm235);rw [(show ((IntKind.i8.wrap g164):Int)=g164 from i8_in' (by omega) (by omega))];refine zc (λhc283=>?_) λhc283=>?_
    ·refine w_seq ?_;have hb284:(fm (pF B S) g44.toNat).length+(fm (s1F B S (g44+1)) g102.toNat).length+(fm (s2F B S (g44+1) g102) g164.toNat).length+(fm (promoF B S g102 g164) 4).length<=(stdL B S).length:=by
      have hh:=fm_le (f:=s2F B S (g44+1) g102) (n:=64) (j:=g164) (by omega) (by omega);have e:s2F B S (g44+1) g102 g164=fm (promoF B S g102 g164) 4:=by simp only [s2F,dest,isPromo,hc80,hc95,hc131,hc157,hc195,hc283,cond_true,cond_false]
      rw [e] at hh;omega
     refine w_region<|yO 3 [.cell ⟨7,0,none⟩ (.slice (some ⟨c.pp,c.ppo,none⟩) 4 4)] (hG278.g7)<|zz<|w_block ?_;have he297:fm (pF B S) g44.toNat++fm (s1F B S (g44+1)) g102.toNat++fm (s2F B S (g44+1) g102) g164.toNat++fm (promoF B S g102 g164) (0:Int).toNat=[]:=by rw [hz175];simp [fm]
     refine yP (γ:=Int×Array Value×Int) (λq288=>(4-q288.1).toNat) (λq288=>[(0,pz p),(1,.bool true),(5,pz b1),(6,.int .i64 0),(7,pz b12),(8,.int .u64 (allowed B S.turn)),(10,.int .i8 (g44+1)),(11,.int .u64 (Bd.of B (g44+1))),(12,.int .i64 g102),(13,.int .u64 (band (possMv B S (pType (g44+1)) g102) (allowed B S.turn))),(39,.slice (some ⟨c.ap,c.apo,none⟩) 12 12),(40,.int .i64 ((12:Nat):Int)),(41,.int .i64 g44),(58,.int .i64 g102),(77,.int .i64 g164),(111,.slice (some ⟨c.pp,c.ppo,none⟩) 4 4),(112,.int .i64 ((4:Nat):Int)),(113,.int .i64 q288.1)]) (λ(q288:Int×Array Value×Int) w_=>(0<=q288.1/\q288.1<=4)/\Mod [b1,b12] w234 w_/\At w_ b1 (.cells q288.2.1 176 (0,0))/\At w_ b12 (.cells (mvCells (.pointer none) ⟨(promoT B S g102 g164 q288.1.toNat),g102,g164,q288.2.2⟩) 98 (0,0))/\MvArr q288.2.1 []/\fm (pF B S) g44.toNat++fm (s1F B S (g44+1)) g102.toNat++fm (s2F B S (g44+1) g102) g164.toNat++fm (promoF B S g102 g164) q288.1.toNat=[]) (0,A165,M166.promo) ⟨by constructor<;>dsimp only<;>omega,Mod.refl _ _,ya,ya,hx174,he297⟩ ?_;rintro ⟨g285,A286,M287⟩ w289 ⟨⟨h291,h292⟩,hm290,hf293,hf294,hx295,hz296⟩;replace h291:0<=g285:=h291;replace h292:g285<=4:=h292;replace hf293:At w289 b1 (.cells A286 176 (0,0)):=hf293;replace hf294:At w289 b12 (.cells (mvCells (.pointer none) ⟨(promoT B S g102 g164 g285.toNat),g102,g164,M287⟩) 98 (0,0)):=hf294;replace hx295:MvArr A286 []:=hx295;replace hz296:fm (pF B S) g44.toNat++fm (s1F B S (g44+1)) g102.toNat++fm (s2F B S (g44+1) g102) g164.toNat++fm (promoF B S g102 g164) g285.toNat=[]:=hz296;have hG300:=Glob.keep hG278 hm290 (by simp<;>omega);have hm301:=Mod.fresh' hm279 hm290 (by simp<;>omega);have hm302:=Mod.fresh' hm280 hm290 (by simp<;>omega);have hm303:=Mod.fresh' hm281 hm290 (by simp<;>omega);have hm304:=Mod.fresh' hm282 hm290 (by simp<;>omega);refine zw<|yS 1<|zz<|w_seq<|yC (decide (g285<((4:Nat):Int))) (λhc305=>?_) λhc305=>?_
     ·have dhc305:=of_decide_eq_true hc305;refine w_skip<|n_then<|w_seq<|w_block<|zw<|yO 3 [.prop (0<=g285/\g285<((4:Nat):Int)),.cell ⟨c.pp,(c.ppo+g285.toNat*1),none⟩ (.int .i8 (((g285.toNat*1:Nat):Int)+2))] (⟨(zh (by omega)),(hG300.promo (g285.toNat*1) (by omega))⟩)<|ze ?_;rw [(show ((((g285.toNat*1:Nat):Int)+2):Int)=(g285+2) from (by omega))];refine zn<|yS 2<|reg_store b12 10 (.int .i8 (g285+2)) none (by kernel_rfl) hf294 (Nat.le_of_ble_eq_true rfl) rfl ?_;intro w306 hu307;have hG312:=Glob.keep hG300 hu307.mod (by simp<;>omega);have hm313:=Mod.fresh' hm301 hu307.mod (by simp<;>omega);have hm314:=Mod.fresh' hm302 hu307.mod (by simp<;>omega);have hm315:=Mod.fresh' hm303 hu307.mod (by simp<;>omega);have hm316:=Mod.fresh' hm304 hu307.mod (by simp<;>omega);have hm317:=Mod.fresh' hm290 hu307.mod (by simp<;>omega);refine zx<|yS 1 ?_;have hq318:0<=g102/\g102<=63:=by omega
      have hq319:0<=g164/\g164<=63:=by omega
      have hq320:=hpc (g44+1) g102 (by omega) (by omega) hc131;refine reg_call 135 [pz b12,pz p] (some 120) (by kernel_rfl) (c135 (M:=(⟨(promoT B S g102 g164 g285.toNat),g102,g164,(g285+2)⟩:Mv)) ya ya ya hG312 hq318 hq319 hq320 (pColor_or hq320) (λ_=>(show 1<=(g285+2)/\(g285+2)<=6 from (by omega))) (λ_=>newP_ok (show 1<=(g285+2)/\(g285+2)<=6 from (by omega)) (pColor_or hq320)) (by omega) (by assumption) (by assumption)) ?_;rintro _ w321 ⟨rfl,hm322,hf323⟩;refine ⟨_,rfl,?_⟩;have hG327:=Glob.keep hG312 hm322 (by simp<;>omega);have hm328:=Mod.fresh' hm313 hm322 (by simp<;>omega);have hm329:=Mod.fresh' hm314 hm322 (by simp<;>omega);have hm330:=Mod.fresh' hm315 hm322 (by simp<;>omega);have hm331:=Mod.fresh' hm316 hm322 (by simp<;>omega);have hm332:=Mod.fresh' hm317 hm322 (by simp<;>omega);refine zx<|zk (some 121) (c74 hf323 32) ?_;intro w333 hm334;have hG339:=Glob.on hG327 hm334;have hm340:=zt hm328 hm334;have hm341:=Mod.trans hm329 (Mod.of_nil hm334);have hm342:=Mod.trans hm330 (Mod.of_nil hm334);have hm343:=Mod.trans hm331 (Mod.of_nil hm334);have hm344:=Mod.trans hm332 (Mod.of_nil hm334);refine yS 1<|zz<|yC (!(hasTag (⟨(tg4 B S (⟨(promoT B S g102 g164 g285.toNat),g102,g164,(g285+2)⟩:Mv)),g102,g164,(g285+2)⟩:Mv) 32)) (λhc345=>?_) λhc345=>?_
      ·have nhc345:(hasTag (⟨(tg4 B S (⟨(promoT B S g102 g164 g285.toNat),g102,g164,(g285+2)⟩:Mv)),g102,g164,(g285+2)⟩:Mv) 32)=false:=by simpa using hc345
       refine w_seq ?_;have hne346:0<(stdL B S).length:=by
        have hh:=fm_le (f:=promoF B S g102 g164) (n:=4) (j:=g285) (by omega) (by omega);have he:(promoF B S g102 g164 g285).length=1:=by simp only [promoF,keepM,nhc345,cond_false];rfl
        rw [he] at hh;omega
       have hlt:([]:List Mv).length<218:=by decide
       refine w_region<|yV 3 [.row ⟨b12,0,none⟩ 11 (mvCells (.pointer none) ⟨(tg4 B S (⟨(promoT B S g102 g164 g285.toNat),g102,g164,(g285+2)⟩:Mv)),g102,g164,(g285+2)⟩),.prop (0<=(0:Int)/\0<((218:Nat):Int))] [.agg (mvCells (.pointer none) ⟨(tg4 B S (⟨(promoT B S g102 g164 g285.toNat),g102,g164,(g285+2)⟩:Mv)),g102,g164,(g285+2)⟩)] (⟨At.row ya rfl,(zh (by omega))⟩)<|reg_store b1 0 (.agg (mvCells (.pointer none) ⟨(tg4 B S (⟨(promoT B S g102 g164 g285.toNat),g102,g164,(g285+2)⟩:Mv)),g102,g164,(g285+2)⟩)) none (by kernel_rfl) ya (by rw [(MvArr.size hx295)];show 0+11<=2398;omega) rfl ?_;intro w347 hu348;have hG353:=Glob.keep hG339 hu348.mod (by simp<;>omega);have hm354:=Mod.fresh' hm340 hu348.mod (by simp<;>omega);have hm355:=Mod.fresh' hm341 hu348.mod (by simp<;>omega);have hm356:=Mod.fresh' hm342 hu348.mod (by simp<;>omega);have hm357:=Mod.fresh' hm343 hu348.mod (by simp<;>omega);have hm358:=Mod.fresh' hm344 hu348.mod (by simp<;>omega);have hx359:MvArr (storeRow A286 0 (mvCells (.pointer none) ⟨(tg4 B S (⟨(promoT B S g102 g164 g285.toNat),g102,g164,(g285+2)⟩:Mv)),g102,g164,(g285+2)⟩).toList) ([]++[(⟨(tg4 B S (⟨(promoT B S g102 g164 g285.toNat),g102,g164,(g285+2)⟩:Mv)),g102,g164,(g285+2)⟩:Mv)]):=MvArr.push hx295 (by decide) rfl;refine zx<|yS 3<|zx<|yS 1<|zz<|yT<|zw<|zA zero180 180 (some 17) ?_;intro b360 w361 hn362;have hb363:c.base<=b360:=Glob.lt hG353 hn362;have hb364:=Nat.le_trans hm354.size hn362.base;have hb365:=Nat.le_trans hm355.size hn362.base;have hb366:=Nat.le_trans hm356.size hn362.base;have hb367:=Nat.le_trans hm357.size hn362.base;have hb368:=Nat.le_trans hm358.size hn362.base;exact zx<|yV 3 [.prop (0<=(0:Int)/\0<((218:Nat):Int)),.row ⟨b1,0,none⟩ 11 (mvCells (.pointer none) ⟨(tg4 B S (⟨(promoT B S g102 g164 g285.toNat),g102,g164,(g285+2)⟩:Mv)),g102,g164,(g285+2)⟩),.prop (0<=(0:Int)/\0<((1:Nat):Int))] [.agg (mvCells (.pointer none) ⟨(tg4 B S (⟨(promoT B S g102 g164 g285.toNat),g102,g164,(g285+2)⟩:Mv)),g102,g164,(g285+2)⟩)] (⟨(zh (by omega)),(arr_row ya (by have:=MvArr.size hx295;omega)),(zh (by omega))⟩)<|zS b360 0 (.agg (mvCells (.pointer none) ⟨(tg4 B S (⟨(promoT B S g102 g164 g285.toNat),g102,g164,(g285+2)⟩:Mv)),g102,g164,(g285+2)⟩)) fun w381 hu382=>zx<|yS 2<|zz<|w_ret<|r_block<|r_then<|r_then<|r_block<|r_block<|r_then<|r_then<|r_block<|r_block<|r_then<|r_then<|r_block<|r_block<|r_then<|r_then<|r_block<|r_then<|y1 (⟨_,1,_,_,rfl,yt,by omega,ya,by simp [storeRow_size,zero180_size],by decide,by omega⟩)
      have nhc345:(hasTag (⟨(tg4 B S (⟨(promoT B S g102 g164 g285.toNat),g102,g164,(g285+2)⟩:Mv)),g102,g164,(g285+2)⟩:Mv) 32)=true:=by simpa using hc345
      refine w_skip<|n_block<|n_then<|w_region<|zs 2 [rz 0 p,(1,.bool true),rz 5 b1,iz 6 0,rz 7 b12,(8,.int .u64 (allowed B S.turn)),(10,.int .i8 (g44+1)),(11,.int .u64 (Bd.of B (g44+1))),iz 12 g102,(13,.int .u64 (band (possMv B S (pType (g44+1)) g102) (allowed B S.turn))),(39,.slice (some ⟨c.ap,c.apo,none⟩) 12 12),iz 40 ((12:Nat):Int),iz 41 g44,iz 58 g102,iz 77 g164,(111,.slice (some ⟨c.pp,c.ppo,none⟩) 4 4),iz 112 ((4:Nat):Int),iz 113 (IntKind.i64.wrap (g285+1))]<|ze ?_;rw [zi (g285+1) (by omega) (by omega)];have he394:fm (pF B S) g44.toNat++fm (s1F B S (g44+1)) g102.toNat++fm (s2F B S (g44+1) g102) g164.toNat++fm (promoF B S g102 g164) (g285+1).toNat=[]:=by rw [fm_succ (by omega),←List.append_assoc];refine Eq.trans ?_ hz296;simp only [promoF,keepM,hc80,hc95,hc131,hc157,hc195,hc283,hc345,nhc345,cond_true,cond_false,Bool.not_true,Bool.not_false,List.append_nil]
      have hM397:At w333 b12 (.cells (mvCells (.pointer none) ⟨(promoT B S g102 g164 (g285+1).toNat),g102,g164,(g285+2)⟩) 98 (0,0)):=(at_cast ya (mv_eq (tags_eq (promoT_succ (by omega)).symm)));obtain ⟨Aq398,hA395,hX396⟩:∃A,At w333 b1 (.cells A 176 (0,0))/\MvArr A []:=⟨_,ya,hx295⟩;exact zl ((g285+1),Aq398,(g285+2)) ⟨by constructor<;>dsimp only<;>omega,hm344,hA395,hM397,hX396,he394⟩ (hlt:=(by dsimp only;omega))
     have dhc305:=of_decide_eq_false hc305;obtain rfl:g285=(4:Int):=by omega
     have hx399:fm (pF B S) g44.toNat++fm (s1F B S (g44+1)) g102.toNat++fm (s2F B S (g44+1) g102) g164.toNat++fm (promoF B S g102 g164) 4=[]:=hz296;refine w_exit<|x_then<|x_then<|x_hit<|n_block<|n_then<|w_region<|zs 2 [rz 0 p,(1,.bool true),rz 5 b1,iz 6 0,rz 7 b12,(8,.int .u64 (allowed B S.turn)),(10,.int .i8 (g44+1)),(11,.int .u64 (Bd.of B (g44+1))),iz 12 g102,(13,.int .u64 (band (possMv B S (pType (g44+1)) g102) (allowed B S.turn))),(39,.slice (some ⟨c.ap,c.apo,none⟩) 12 12),iz 40 ((12:Nat):Int),iz 41 g44,iz 58 g102,iz 77 (IntKind.i64.wrap (g164+1))]<|ze ?_;rw [zi (g164+1) (by omega) (by omega)];have he400:fm (pF B S) g44.toNat++fm (s1F B S (g44+1)) g102.toNat++fm (s2F B S (g44+1) g102) (g164+1).toNat=[]:=by rw [fm_succ (by omega),←List.append_assoc];refine Eq.trans ?_ hx399;simp only [s2F,dest,isPromo,keepM,plainM,hc80,hc95,hc131,hc157,hc195,hc283,cond_true,cond_false,Bool.not_true,Bool.not_false,List.append_nil]
     have hM403:At w289 b12 (.cells (mvCells (.pointer none) (⟨(promoT B S g102 g164 (4:Int).toNat),g102,g164,M287⟩:Mv)) 98 (0,0)):=hf294;obtain ⟨Aq404,hA401,hX402⟩:∃A,At w289 b1 (.cells A 176 (0,0))/\MvArr A []:=⟨_,hf293,hx295⟩;exact l_back ((g164+1),Aq404,(⟨(promoT B S g102 g164 (4:Int).toNat),g102,g164,M287⟩:Mv)) [0,1,5,6,7,8,10,11,12,13,39,40,41,58,77] (by kernel_rfl) (by dsimp only;omega) ⟨by constructor<;>dsimp only<;>omega,hm304,hA401,hM403,hX402,he400⟩
    refine zw<|yS 1<|reg_store b12 10 (.int .i8 0) none (by kernel_rfl) ya (Nat.le_of_ble_eq_true rfl) rfl ?_;intro w405 hu406;have hG411:=Glob.keep hG278 hu406.mod (by simp<;>omega);have hm412:=Mod.fresh' hm279 hu406.mod (by simp<;>omega);have hm413:=Mod.fresh' hm280 hu406.mod (by simp<;>omega);have hm414:=Mod.fresh' hm281 hu406.mod (by simp<;>omega);have hm415:=Mod.fresh' hm282 hu406.mod (by simp<;>omega);refine zx<|yS 1 ?_;have hq416:0<=g102/\g102<=63:=by omega
    have hq417:0<=g164/\g164<=63:=by omega
    have hq418:=hpc (g44+1) g102 (by omega) (by omega) hc131;refine reg_call 135 [pz b12,pz p] (some 136) (by kernel_rfl) (c135 (M:=(⟨0,g102,g164,0⟩:Mv)) ya ya ya hG411 hq416 hq417 hq418 (pColor_or hq418) (λh=>absurd rfl h) (λh=>absurd rfl h) (by omega) (by assumption) (by assumption)) ?_;rintro _ w419 ⟨rfl,hm420,hf421⟩;refine ⟨_,rfl,?_⟩;have hG425:=Glob.keep hG411 hm420 (by simp<;>omega);have hm426:=Mod.fresh' hm412 hm420 (by simp<;>omega);have hm427:=Mod.fresh' hm413 hm420 (by simp<;>omega);have hm428:=Mod.fresh' hm414 hm420 (by simp<;>omega);have hm429:=Mod.fresh' hm415 hm420 (by simp<;>omega);refine zx<|zk (some 137) (c74 hf421 32) ?_;intro w430 hm431;have hG436:=Glob.on hG425 hm431;have hm437:=zt hm426 hm431;have hm438:=Mod.trans hm427 (Mod.of_nil hm431);have hm439:=Mod.trans hm428 (Mod.of_nil hm431);have hm440:=Mod.trans hm429 (Mod.of_nil hm431);refine yS 1<|zz<|zc (λhc441=>?_) λhc441=>?_
    ·have nhc441:(hasTag (⟨(tg4 B S (⟨0,g102,g164,0⟩:Mv)),g102,g164,0⟩:Mv) 32)=false:=by simpa using hc441
     refine w_seq ?_;have hne442:0<(stdL B S).length:=by
      have hh:=fm_le (f:=s2F B S (g44+1) g102) (n:=64) (j:=g164) (by omega) (by omega);have he:(s2F B S (g44+1) g102 g164).length=1:=by simp only [s2F,dest,isPromo,plainM,keepM,hc80,hc95,hc131,hc157,hc195,hc283,hc441,nhc441,cond_true,cond_false];rfl
      rw [he] at hh;omega
     have hlt:([]:List Mv).length<218:=by decide
     refine w_region<|yV 3 [.row ⟨b12,0,none⟩ 11 (mvCells (.pointer none) ⟨(tg4 B S (⟨0,g102,g164,0⟩:Mv)),g102,g164,0⟩),.prop (0<=(0:Int)/\0<((218:Nat):Int))] [.agg (mvCells (.pointer none) ⟨(tg4 B S (⟨0,g102,g164,0⟩:Mv)),g102,g164,0⟩)] (⟨At.row ya rfl,(zh (by omega))⟩)<|reg_store b1 0 (.agg (mvCells (.pointer none) ⟨(tg4 B S (⟨0,g102,g164,0⟩:Mv)),g102,g164,0⟩)) none (by kernel_rfl) ya (by rw [(MvArr.size hx174)];show 0+11<=2398;omega) rfl ?_;intro w443 hu444;have hG449:=Glob.keep hG436 hu444.mod (by simp<;>omega);have hm450:=Mod.fresh' hm437 hu444.mod (by simp<;>omega);have hm451:=Mod.fresh' hm438 hu444.mod (by simp<;>omega);have hm452:=Mod.fresh' hm439 hu444.mod (by simp<;>omega);have hm453:=Mod.fresh' hm440 hu444.mod (by simp<;>omega);have hx454:MvArr (storeRow A165 0 (mvCells (.pointer none) ⟨(tg4 B S (⟨0,g102,g164,0⟩:Mv)),g102,g164,0⟩).toList) ([]++[(⟨(tg4 B S (⟨0,g102,g164,0⟩:Mv)),g102,g164,0⟩:Mv)]):=MvArr.push hx174 (by decide) rfl;refine zx<|yS 3<|zx<|yS 1<|zz<|yT<|zw<|zA zero180 180 (some 18) ?_;intro b455 w456 hn457;have hb458:c.base<=b455:=Glob.lt hG449 hn457;have hb459:=Nat.le_trans hm450.size hn457.base;have hb460:=Nat.le_trans hm451.size hn457.base;have hb461:=Nat.le_trans hm452.size hn457.base;have hb462:=Nat.le_trans hm453.size hn457.base;exact zx<|yV 3 [.prop (0<=(0:Int)/\0<((218:Nat):Int)),.row ⟨b1,0,none⟩ 11 (mvCells (.pointer none) ⟨(tg4 B S (⟨0,g102,g164,0⟩:Mv)),g102,g164,0⟩),.prop (0<=(0:Int)/\0<((1:Nat):Int))] [.agg (mvCells (.pointer none) ⟨(tg4 B S (⟨0,g102,g164,0⟩:Mv)),g102,g164,0⟩)] (⟨(zh (by omega)),(arr_row ya (by have:=MvArr.size hx174;omega)),(zh (by omega))⟩)<|zS b455 0 (.agg (mvCells (.pointer none) ⟨(tg4 B S (⟨0,g102,g164,0⟩:Mv)),g102,g164,0⟩)) fun w474 hu475=>zx<|yS 2<|zz<|w_ret<|r_block<|r_then<|r_then<|r_block<|r_block<|r_then<|r_then<|r_block<|r_block<|r_then<|r_then<|r_block<|r_then<|y1 (v:=.slice (some ⟨b455,0,none⟩) 1 1) (⟨_,1,_,_,rfl,yt,by omega,ya,by simp [storeRow_size,zero180_size],by decide,by omega⟩)
    have nhc441:(hasTag (⟨(tg4 B S (⟨0,g102,g164,0⟩:Mv)),g102,g164,0⟩:Mv) 32)=true:=by simpa using hc441
    refine w_skip<|n_block<|n_then<|w_region<|zs 2 [rz 0 p,(1,.bool true),rz 5 b1,iz 6 0,rz 7 b12,(8,.int .u64 (allowed B S.turn)),(10,.int .i8 (g44+1)),(11,.int .u64 (Bd.of B (g44+1))),iz 12 g102,(13,.int .u64 (band (possMv B S (pType (g44+1)) g102) (allowed B S.turn))),(39,.slice (some ⟨c.ap,c.apo,none⟩) 12 12),iz 40 ((12:Nat):Int),iz 41 g44,iz 58 g102,iz 77 (IntKind.i64.wrap (g164+1))]<|ze ?_;rw [zi (g164+1) (by omega) (by omega)];have he486:fm (pF B S) g44.toNat++fm (s1F B S (g44+1)) g102.toNat++fm (s2F B S (g44+1) g102) (g164+1).toNat=[]:=by rw [fm_succ (by omega),←List.append_assoc];refine Eq.trans ?_ hz175;simp only [s2F,dest,isPromo,keepM,plainM,hc80,hc95,hc131,hc157,hc195,hc283,hc441,nhc441,cond_true,cond_false,Bool.not_true,Bool.not_false,List.append_nil]
    have hM489:At w430 b12 (.cells (mvCells (.pointer none) (⟨(tg4 B S (⟨0,g102,g164,0⟩:Mv)),g102,g164,0⟩:Mv)) 98 (0,0)):=ya;obtain ⟨Aq490,hA487,hX488⟩:∃A,At w430 b1 (.cells A 176 (0,0))/\MvArr A []:=⟨_,ya,hx174⟩;exact zl ((g164+1),Aq490,(⟨(tg4 B S (⟨0,g102,g164,0⟩:Mv)),g102,g164,0⟩:Mv)) ⟨by constructor<;>dsimp only<;>omega,hm440,hA487,hM489,hX488,he486⟩ (hlt:=(by dsimp only;omega))
   have dhc183:=of_decide_eq_false hc183;obtain rfl:g164=(64:Int):=by omega
   have hx491:fm (pF B S) g44.toNat++fm (s1F B S (g44+1)) g102.toNat++fm (s2F B S (g44+1) g102) 64=[]:=hz175;refine w_exit<|x_then<|x_then<|x_hit<|n_block<|n_then<|w_region<|yS 2<|yW 58 (zi (g102+1) (by omega) (by omega))<|ze ?_;have he492:fm (pF B S) g44.toNat++fm (s1F B S (g44+1)) (g102+1).toNat=[]:=by rw [fm_succ (by omega),←List.append_assoc];refine Eq.trans ?_ hx491;simp only [s1F,dest,hc80,hc95,hc131,hc157,cond_true,cond_false,Bool.not_true,Bool.not_false,List.append_nil]
   have hM495:At w168 b12 (.cells (mvCells (.pointer none) M166) 98 (0,0)):=hf173;obtain ⟨Aq496,hA493,hX494⟩:∃A,At w168 b1 (.cells A 176 (0,0))/\MvArr A []:=⟨_,hf172,hx174⟩;exact zl ((g102+1),Aq496,M166) ⟨by constructor<;>dsimp only<;>omega,hm182,hA493,hM495,hX494,he492⟩ (hlt:=(by dsimp only;omega))
  have dhc120:=of_decide_eq_false hc120;obtain rfl:g102=(64:Int):=by omega
  have hx497:fm (pF B S) g44.toNat++fm (s1F B S (g44+1)) 64=[]:=hz113;refine w_exit<|x_then<|x_then<|x_hit<|n_block<|n_then<|w_region<|yS 2<|yW 41 (zi (g44+1) (by omega) (by omega))<|ze ?_;have he498:fm (pF B S) (g44+1).toNat=[]:=by rw [fm_succ (by omega)];refine Eq.trans ?_ hx497;simp only [pF,hc80,hc95,cond_true,cond_false,Bool.not_true,Bool.not_false,List.append_nil]
  have hM501:At w106 b12 (.cells (mvCells (.pointer none) M104) 98 (0,0)):=hf111;obtain ⟨Aq502,hA499,hX500⟩:∃A,At w106 b1 (.cells A 176 (0,0))/\MvArr A []:=⟨_,hf110,hx112⟩;exact zl ((g44+1),Aq502,M104) ⟨by constructor<;>dsimp only<;>omega,hm119,hA499,hM501,hX500,he498⟩ (hlt:=(by dsimp only;omega))
 have dhc61:=of_decide_eq_false hc61;obtain rfl:g44=(12:Int):=by omega
 have hx503:(stdL B S)=[]:=hz55;refine w_exit<|x_then<|x_then<|x_hit<|zn<|yS 1<|reg_mslice ((([]:List Mv).length:Nat):Int) 98 (some 153) 11 96 (by kernel_rfl) (by decide) (by decide) ?_;intro b504 w505 cs506 hcs507 hn508;have ne509:b12≠b504:=hn508.ne hf53;have hb510:c.base<=b504:=Glob.lt hG59 hn508;have hb511:=Nat.le_trans hm60.size hn508.base;have hb512:=Nat.le_trans hm49.size hn508.base;have hm513:=hn508.mod;have hm519:=zt hm60 hm513;refine yS 1<|zx<|yO 3 [.prop (0<=(0:Int)/\0<=((218:Nat):Int))] (zh (by omega))<|reg_copy b504 (([]:List Mv)).length ⟨b1,0,none⟩ (([]:List Mv)).length 218 98 (some 157) 11 (by kernel_rfl) ya (by simpa using hcs507) (MvArr.row hx54 (by decide) ya) (oneCells_mvs _) ?_;intro w522 hu523;have hf524:=hu523.at_;have hm530:=Mod.fresh' hm519 hu523.mod (by simp<;>omega);exact zx<|yS 2<|zz<|w_ret<|y1 (⟨_,0,_,_,rfl,hm530,by omega,hf524,rfl,by decide,by have hz:=hx503;rw [hz];decide⟩)
section
variable{P:Program}{n:Nat}{D:List Deferred}{ops:Array Oper}{Q:Exit->Act->World->Prop}{w:World}{L:List (Nat×Value)}
theorem reg_append_arg{k:Nat}(b off l cap:Nat)(a:Addr)(m c:Nat)(e:TypeId)(dst:Option Nat)(size bytes:Nat)(h:appendAt P n ops.toList k L=some (.slice (some ⟨b,off,none⟩) l cap,.slice (some a) m c,e,dst,size,bytes,size))
  {olds news:List Value}(hlo:olds.length=l*size)(holds:∀j u,olds[j]?=some u->w.cell? ⟨b,off+j,none⟩=some u)(hs:0<size)(hl:news.length=m*size)(hnews:∀j u,news[j]?=some u->w.cell? (a.add j)=some u)(h1:∀u∈news,u.oneCell'=true)
  (hroom:l+m<=cap->m=0)(hb:(l+m)*(bytes+1)<=140737488355328)
  (hk:∀ao' cap' w',Mod [] w w'->Reg P n D ops Q (k+1) (setD dst (.slice ao' (l+m) cap') L) w'):Reg P n D ops Q k L w:=by
 intro act ha;unfold appendAt at h;split at h
 case h_2=>cases h
 rename_i o ho;split at h
 case h_2=>cases h
 rename_i hw hd;split at h
 case h_2=>cases h
 rename_i cc hop;split at h
 case h_2=>cases h
 rename_i s x t t' hc hargs hts;split at h
 case isFalse=>cases h
 rename_i ht;subst ht;split at h
 case h_2=>cases h
 rename_i u v e' hs' hx hu;split at h
 case h_2=>cases h
 rename_i i hi;split at h
 case h_2=>cases h
 rename_i z hz;simp only [Option.some.injEq,Prod.mk.injEq] at h;obtain ⟨rfl,rfl,rfl,rfl,hsz,hby,hzs⟩:=h;rw [drop_cons ho];simp only [wpList,wantedL_spec ha hw,if_true];refine .inl ?_;have hm:(l+m)*bytes<=140737488355328:=Nat.le_trans (Nat.mul_le_mul_left _ (by omega)) hb;have hlm:l+m<=maxLen:=by
  have:l+m<=(l+m)*(bytes+1):=Nat.le_mul_of_pos_right _ (by omega);simp only [maxLen];omega
 have hrun:∃v' w',(Builtin.append_ #[t,t] o.type #[.slice (some ⟨b,off,none⟩) l cap,.slice (some a) m c]).run P w=.ok v' w'/\Mod [] w w'/\∃ao' cap',v'=.slice ao' (l+m) cap':=by
  by_cases hr:l+m<=cap
  ·have hm0:=hroom hr;subst hm0;have hn0:news=[]:=List.eq_nil_of_length_eq_zero (by simpa using hl);subst hn0;subst hsz;have:=run_append_room_cells (P:=P) w t o.type e' i hu hi b off l cap a 0 c [] (by simp) (by simp) (by simp) hr (by simp) (by simp);exact ⟨_,_,this,by simpa [World.setCells] using Mod.refl [] w,_,_,rfl⟩
  ·obtain ⟨v',w',hrun,h2,h3⟩:=run_append_arg_grows (P:=P) w t o.type e' i z size bytes hu hi hz hsz hby hzs hs ⟨b,off,none⟩ l cap olds hlo (λj u hj=>by rw [Addr.add_lit];exact holds j u hj) a m c news hl hnews (by omega) hlm hm;refine ⟨v',w',hrun,⟨h3.os,h3.tape,h3.output,h3.size,λk hk _=>h3.block k hk (by simp)⟩,?_⟩;rcases h2.2 with ⟨hv,h0⟩|⟨g,cap',cur,hv,_⟩
   ·exact ⟨none,0,by rw [hv,h0]⟩
   ·exact ⟨_,_,hv⟩
 obtain ⟨v',w',hrun,hmod,ao',cap',rfl⟩:=hrun;have hr:(execOp act.eval o).run P w=.ok (.value (.slice ao' (l+m) cap')) w':=by
  obtain ⟨dst,op,ty,pos,af,g'⟩:=o;simp only at hop;subst hop;obtain ⟨callee,args,ts⟩:=cc;simp only at hc hargs hts;subst hc;obtain rfl:args=#[s,x]:=by apply Array.ext';simpa using hargs
  obtain rfl:ts=#[t,t]:=by apply Array.ext';simpa using hts
  simp only [execOp,resolve,invoke,builtin,Sem.run_bind,Sem.run_pure,Result.andThen_ok,List.map_toArray,List.map_cons,List.map_nil,ha.agrees _ _ hs',ha.agrees _ _ hx,hrun]
 simp only [Oper.wp,hr,Oper.upon];exact hk ao' cap' w' hmod _ (ha.setD hd _)
end
structure StPre(B:Bd)(S:Ps):Prop where
 pc:∀p s:Int,(1<=p/\p<=12)->(0<=s/\s<=63)->(band (Bd.of B p) (bbSq s)==0)=false->1<=pieceAt B s/\pieceAt B s<=12
 cs:S.castle.size<=1000000
 kW:∀sd,S.turn=1->canC S.castle S.turn sd=true->1<=pieceAt B 4/\pieceAt B 4<=12
 kB:∀sd,S.turn=2->canC S.castle S.turn sd=true->1<=pieceAt B 60/\pieceAt B 60<=12
 kings:KingsOk B
 turn:S.turn=1\/S.turn=2
 ep:-1<=S.ep/\S.ep<=63
def hasMv(B:Bd)(S:Ps):Bool:=decide (0<(allL B S).length)
def statV(B:Bd)(S:Ps):Int:=bif (!S.chk)&&(!hasMv B S) then 4 else bif S.chk&&(!hasMv B S) then 1 else 0
theorem has_of{B:Bd}{S:Ps}{n m:Nat}(h:0<n↔0<(stdL B S).length)(e:m=n+(castL B S).length):decide (((m:Nat):Int)>0)=hasMv B S:=by
 unfold hasMv;rw [decide_eq_decide];unfold allL;rw [List.length_append];omega
theorem c111t{c:GC}{p b:Nat}{vm:Value}{S:Ps}{w:World}(hp:At w p (.cells (psCells b vm S) 110 (0,0))){B:Bd}(hb:At w b (.cells (bdCells B) 135 (0,0)))(hG:Glob c w)(hpre:StPre B S):
  CQ 111 [.agg (#[]),.pointer (some ⟨p,0,none⟩),.bool true] w (λe w'=>∃ao m cap,e=.returned (.slice ao m cap)/\Mod [] w w'/\decide (((m:Nat):Int)>0)=hasMv B S):=by
 have hm0:Mod [] w w:=Mod.refl _ _;refine en func111 ntmps111 ?_;refine w_seq<|w_region<|reg_alloc (#[]) 146 (some 3) (by kernel_rfl) ?_;intro b1 w2 hn3;have hb4:c.base<=b1:=Glob.lt hG hn3;have hb5:=Nat.le_trans hm0.size hn3.base;have hm6:=hn3.mod;have hf7:=At.on hp hm6;have hf8:=At.on hb hm6;have hG9:=Glob.on hG hm6;have hm10:=Mod.trans hm0 (Mod.of_nil hm6);have hf11:=hn3.at_;refine reg_seg 1 [(1,.pointer (some ⟨p,0,none⟩)),(2,.bool true)] [] [] [1,2] (by kernel_rfl) trivial<|reg_end (by kernel_rfl)<|n_then<|w_seq<|w_region<|reg_seg 2 [(1,.pointer (some ⟨p,0,none⟩)),(8,.pointer (some ⟨p,0,none⟩)),(9,.bool true)] [] [] [1,8,9] (by kernel_rfl) trivial<|reg_call 122 [.pointer (some ⟨p,0,none⟩),.bool true] (some 10) (by kernel_rfl) (c122t (S:=S) hf7 hf8 hG9 hpre.pc hpre.kings hpre.turn hpre.ep) ?_;rintro _ w12 ⟨b14,n15,X16,t17,rfl,hm13,hb19,hf18,hs20,hn21,hif22⟩;refine ⟨_,rfl,?_⟩;have hf23:=At.on hf7 hm13;have hf24:=At.on hf8 hm13;have hf25:=At.on hf11 hm13;have hG26:=Glob.on hG9 hm13;have hm27:=Mod.trans hm10 (Mod.of_nil hm13);refine reg_seg 1 [(1,.pointer (some ⟨p,0,none⟩)),(7,.slice (some ⟨b14,0,none⟩) n15 n15)] [] [] [1,7] (by kernel_rfl) trivial<|reg_end (by kernel_rfl)<|n_then<|w_seq<|w_region<|reg_seg 2 [(11,.slice (some ⟨b14,0,none⟩) n15 n15),(12,.pointer (some ⟨p,0,none⟩))] [] [] [11,12] (by kernel_rfl) trivial<|reg_call 123 [.pointer (some ⟨p,0,none⟩)] (some 13) (by kernel_rfl) (c123 (S:=S) hf23 hf24 hG26 hpre.cs hpre.kW hpre.kB hpre.kings hpre.turn) ?_;rintro _ w28 ⟨b30,A31,rfl,hm29,hf32,hx33,hb34⟩;refine ⟨_,rfl,?_⟩;have hf35:=At.on hf23 hm29;have hf36:=At.on hf24 hm29;have hf37:=At.on hf25 hm29;have he38:=At.on hf18 hm29;have hG39:=Glob.on hG26 hm29;have hm40:=Mod.trans hm27 (Mod.of_nil hm29);refine reg_append_arg b14 0 n15 n15 ⟨b30,0,none⟩ (castL B S).length 2 98 (some 14) 11 96 (olds:=X16.toList) (news:=mvsL (castL B S)) (by kernel_rfl) (by simpa using hs20) (λj u hj=>by rw [Nat.zero_add];exact At.cell he38 (by simpa using hj)) (by decide) (mvsL_len _) (MvArrN.cells hx33 hf32) (oneCells_mem (oneCells_mvs _)) (by omega) (by have:=castL_le (B:=B) (S:=S);omega) ?_;intro ao41 cap42 w43 hm44;have hf45:=At.on hf35 hm44;have hf46:=At.on hf36 hm44;have hf47:=At.on hf37 hm44;have hG48:=Glob.on hG39 hm44;have hm49:=Mod.trans hm40 (Mod.of_nil hm44);exact reg_seg 1 [(6,.slice ao41 (n15+(castL B S).length) cap42)] [] [] [6] (by kernel_rfl) trivial<|reg_end (by kernel_rfl)<|n_then<|w_ret<|ret1 rfl rfl (⟨_,_,_,rfl,hm49,has_of hif22 rfl⟩)
theorem c195{c:GC}{p b:Nat}{S:Ps}{w:World}(hp:At w p (.cells (psCells b (.slice none 0 0) S) 110 (0,0))){B:Bd}(hb:At w b (.cells (bdCells B) 135 (0,0)))(hG:Glob c w)(hpre:StPre B S):
  CR 195 [.agg (#[]),.pointer (some ⟨p,0,none⟩)] w (.int .u8 (statV B S)):=by
 have hm0:Mod [] w w:=Mod.refl _ _;refine en func195 ntmps195 ?_;refine w_seq<|w_region<|reg_alloc (#[]) 146 (some 2) (by kernel_rfl) ?_;intro b1 w2 hn3;have hb4:c.base<=b1:=Glob.lt hG hn3;have hb5:=Nat.le_trans hm0.size hn3.base;have hm6:=hn3.mod;have hf7:=At.on hp hm6;have hf8:=At.on hb hm6;have hG9:=Glob.on hG hm6;have hm10:=Mod.trans hm0 (Mod.of_nil hm6);have hf11:=hn3.at_;refine yS 1<|reg_end (by kernel_rfl)<|n_then<|w_seq<|w_region<|yS 1<|reg_end (by kernel_rfl)<|n_then<|w_seq<|w_seq<|w_region<|yV 5 [.cell ⟨p,2,none⟩ (.slice none 0 0)] [.slice none 0 0] (At.cell hf7 rfl)<|reg_end (by kernel_rfl)<|n_then<|yF<|w_region<|yS 2<|reg_call 111 [.agg #[],.pointer (some ⟨p,0,none⟩),.bool true] (some 19) (by kernel_rfl) (c111t (S:=S) hf7 hf8 hG9 hpre) ?_;rintro _ w12 ⟨ao14,m15,cap16,rfl,hm13,hd17⟩;refine ⟨_,rfl,?_⟩;have hf18:=At.on hf7 hm13;have hf19:=At.on hf8 hm13;have hf20:=At.on hf11 hm13;have hG21:=Glob.on hG9 hm13;have hm22:=Mod.trans hm10 (Mod.of_nil hm13);refine reg_seg 2 [(1,.pointer (some ⟨p,0,none⟩)),(21,.bool (decide (((m15:Nat):Int)>0)))] [] [] [1,21] (by kernel_rfl) trivial ?_;rw [hd17];refine yS 1<|reg_end (by kernel_rfl)<|n_then<|w_seq<|w_cut (γ:=Unit) (λ_=>[(1,.pointer (some ⟨p,0,none⟩)),(5,.bool (hasMv B S)),(30,.bool ((!S.chk)&&(!(hasMv B S))))]) (λ_ w_=>Mod [] w12 w_) ?_ ?_
 ·skip
  have hm25:Mod [] w12 w12:=Mod.refl _ _;refine w_region<|yV 6 [.cell ⟨p,7,none⟩ (.bool S.chk)] [.bool S.chk] (At.cell hf18 rfl)<|yE 27 (.bool (!S.chk)) ?_;cases hc26:(!S.chk)
  ·skip
   exact yS 3<|reg_end (by kernel_rfl)<|c_back () [1,5,30] (by kernel_rfl) hm25
  ·skip
   exact yS 3<|reg_end (by kernel_rfl)<|c_back () [1,5,30] (by kernel_rfl) hm25
 intro _ w23 hm24;have hf27:=At.on hf18 hm24;have hf28:=At.on hf19 hm24;have hf29:=At.on hf20 hm24;have hG30:=Glob.on hG21 hm24;have hm31:=Mod.trans hm22 (Mod.of_nil hm24);refine w_cond (b:=((!S.chk)&&(!(hasMv B S)))) (by kernel_rfl) (λhc32=>?_) (λhc32=>?_)
 ·skip
  exact w_seq<|w_region<|yS 1<|reg_end (by kernel_rfl)<|n_then<|w_ret<|r_then<|y1 (v:=.int .u8 4) (⟨ret_int (by simp only [statV,hc32,cond_true,cond_false]),hm31⟩)
 ·skip
  refine w_cut (γ:=Unit) (λ_=>[(38,.bool (S.chk&&(!(hasMv B S))))]) (λ_ w_=>Mod [] w23 w_) ?_ ?_
  ·skip
   have hm35:Mod [] w23 w23:=Mod.refl _ _;refine w_region<|yV 5 [.cell ⟨p,7,none⟩ (.bool S.chk)] [.bool S.chk] (At.cell hf27 rfl)<|yE 35 (.bool S.chk) ?_;cases hc36:S.chk
   ·skip
    exact yS 3<|reg_end (by kernel_rfl)<|c_back () [38] (by kernel_rfl) hm35
   ·skip
    exact yS 3<|reg_end (by kernel_rfl)<|c_back () [38] (by kernel_rfl) hm35
  intro _ w33 hm34;have hf37:=At.on hf27 hm34;have hf38:=At.on hf28 hm34;have hf39:=At.on hf29 hm34;have hG40:=Glob.on hG30 hm34;have hm41:=Mod.trans hm31 (Mod.of_nil hm34);refine w_cond (b:=(S.chk&&(!(hasMv B S)))) (by kernel_rfl) (λhc42=>?_) (λhc42=>?_)
  ·skip
   exact w_seq<|w_region<|yS 1<|reg_end (by kernel_rfl)<|n_then<|w_ret<|r_then<|y1 (v:=.int .u8 1) (⟨ret_int (by simp only [statV,hc32,hc42,cond_true,cond_false]),hm41⟩)
  ·skip
   exact w_skip<|n_then<|w_seq<|w_region<|yS 1<|reg_end (by kernel_rfl)<|n_then<|w_ret<|y1 (v:=.int .u8 0) (⟨ret_int (by simp only [statV,hc32,hc42,cond_true,cond_false]),hm41⟩)
theorem c190{c:GC}{p b:Nat}{S:Ps}{w:World}(hp:At w p (.cells (psCells b (.slice none 0 0) S) 110 (0,0))){B:Bd}(hb:At w b (.cells (bdCells B) 135 (0,0)))(hG:Glob c w)(hpre:StPre B S):
  CR 190 [.pointer (some ⟨p,0,none⟩)] w (.int .u8 (statV B S)):=by
 have hm0:Mod [] w w:=Mod.refl _ _;refine en func190 ntmps190 ?_;refine w_seq<|w_region<|yS 1<|reg_end (by kernel_rfl)<|n_then<|w_seq<|w_region<|yS 2<|zk (some 5) (c195 (S:=S) hp hb hG hpre) ?_;intro w1 hm2;have hf3:=At.on hp hm2;have hf4:=At.on hb hm2;have hG5:=Glob.on hG hm2;have hm6:=Mod.trans hm0 (Mod.of_nil hm2);exact yS 1<|reg_end (by kernel_rfl)<|n_then<|w_ret<|y1 (⟨rfl,hm6⟩)
open Go.RowKit in
def Bld(B b:Nat)(l:List UInt8)(w:World):Prop:=Lib.IsBuilderF 150 5 B b (Lib.byteCells l) w
theorem Bld.on{B b:Nat}{l:List UInt8}{w w':World}(h:Bld B b l w)(m:Mod [] w w'):Bld B b l w':=by
 have key:∀p,Lib.BuilderAtF 150 5 B b p (Lib.byteCells l) w->Lib.BuilderAtF 150 5 B b p (Lib.byteCells l) w':=by
  rintro p ⟨hB,v,hb,hown,hne⟩;refine ⟨hB,v,(At.on (w:=w) ⟨hb⟩ m).e,?_,hne⟩;obtain ⟨h1,h2⟩:=hown;refine ⟨h1,?_⟩;rcases h2 with h2|⟨g,cap,cur,fz,hv,hg,ha,rest⟩
  ·exact Or.inl h2
  exact Or.inr ⟨g,cap,cur,fz,hv,hg,(At.on (w:=w) ⟨ha⟩ m).e,rest⟩
 rcases h with h|h
 ·exact Or.inl (key _ h)
 exact Or.inr (key _ h)
theorem Bld.keep{B b k:Nat}{l:List UInt8}{w w':World}(h:Bld B b l w)(m:Mod [k] w w'){c:Array Value}{T:TypeId}{z:Nat×Nat}(hk:At w k (.cells c T z))(h1:T≠150)(h2:T≠5):Bld B b l w':=by
 have ne:∀{g:Nat} {c':Array Value} {T':TypeId} {z':Nat×Nat},At w g (.cells c' T' z')->T≠T'->g∉[k]:=by
  intro g c' T' z' hg hT hm;rw [List.mem_singleton] at hm;subst hm;have e:=hk.inj hg;injection e with _ e2;exact hT e2
 have key:∀p,Lib.BuilderAtF 150 5 B b p (Lib.byteCells l) w->Lib.BuilderAtF 150 5 B b p (Lib.byteCells l) w':=by
  rintro p ⟨hB,v,hb,hown,hne⟩;refine ⟨hB,v,(At.keep (w:=w) ⟨hb⟩ m (ne ⟨hb⟩ h1)).e,?_,hne⟩;obtain ⟨h1',h2'⟩:=hown;refine ⟨h1',?_⟩;rcases h2' with h2'|⟨g,cap,cur,fz,hv,hg,ha,rest⟩
  ·exact Or.inl h2'
  exact Or.inr ⟨g,cap,cur,fz,hv,hg,(At.keep (w:=w) ⟨ha⟩ m (ne ⟨ha⟩ h2)).e,rest⟩
 rcases h with h|h
 ·exact Or.inl (key _ h)
 exact Or.inr (key _ h)
theorem Bld.new{B b:Nat}{w:World}(hb:At w b (.cells #[.pointer none,.slice none 0 0] 150 (0,0)))(hB:B<=b):Bld B b [] w:=
 Lib.IsBuilderF.of (Or.inl ⟨hB,_,hb.e,World.ownsRow_nil _ _ _ _,by simp [Value.ownBlock]⟩)
theorem strCells_b(t:List UInt8):Lib.strCells (bstr t)=Lib.byteCells t:=by simp [Lib.strCells,Lib.byteCells,bstr]
theorem byteCells_append(a b:List UInt8):Lib.byteCells a++Lib.byteCells b=Lib.byteCells (a++b):=by simp [Lib.byteCells]
theorem cWS{w0 w:World}{b:Nat}{l t:List UInt8}(h0:Mod [] w0 w)(h:Bld w0.heap.size b l w)(hl:l.length+t.length<=100000):
  Calls prog 113 #[pz b,.string (bstr t)] w (λe w'=>e=.returned (.tuple #[.int .i64 (bstr t).size,.nilIface])/\Mod [] w0 w'/\Bld w0.heap.size b (l++t) w'):=
 (Tryz.bWriteString w0.heap.size b _ (bstr t) w h (by simp only [Lib.byteCells,List.length_map,bstr_size];omega) h0.size).mono λe w' ⟨he,hb,hbl,_⟩=>⟨he,h0.of_below' hbl,Or.inr (by rw [strCells_b,byteCells_append] at hb;exact hb)⟩
theorem cWB{w0 w:World}{b:Nat}{l:List UInt8}{x:Int}(h0:Mod [] w0 w)(h:Bld w0.heap.size b l w)(hl:l.length+1<=100000)(hx:0<=x/\x<256):
  Calls prog 114 #[pz b,.int .u8 x] w (λe w'=>e=.returned .nilIface/\Mod [] w0 w'/\Bld w0.heap.size b (l++[UInt8.ofNat x.toNat]) w'):=
 (Tryz.bWriteByte w0.heap.size b _ x w h (by simp only [Lib.byteCells,List.length_map];omega) h0.size).mono λe w' ⟨he,hb,hbl,_⟩=>⟨he,h0.of_below' hbl,Or.inr (by
  have e:(Lib.byteCells l++[Value.int .u8 x])=Lib.byteCells (l++[UInt8.ofNat x.toNat]):=by
   rw [←byteCells_append];congr 1;simp only [Lib.byteCells,List.map_cons,List.map_nil];rw [u8_ofNat hx]
  rw [e] at hb;exact hb)⟩
theorem cBS{w0 w:World}{b:Nat}{l:List UInt8}(h0:Mod [] w0 w)(h:Bld w0.heap.size b l w):
  Calls prog 115 #[pz b] w (λe w'=>e=.returned (.string (bstr l))/\Mod [] w0 w'/\Bld w0.heap.size b l w'):=
 (Tryz.Builder_String_any_f w0.heap.size b l w h h0.size).mono λe w' ⟨he,hb,hbl⟩=>⟨he,h0.of_below' hbl,hb⟩
theorem cBL{B:Nat}{w:World}{b:Nat}{l:List UInt8}(h:Bld B b l w):
  Calls prog 186 #[pz b] w (λe w'=>e=.returned (.int .i64 (l.length:Nat))/\Mod [] w w'):=
 (Tryz.Builder_Len_f B b _ w h).mono λe w' ⟨he,hw⟩=>by subst hw;exact ⟨by rw [he];simp [Lib.byteCells],Mod.refl _ _⟩
def letB(k:Int):List UInt8:=if k=1 then [75] else if k=2 then [81] else if k=3 then [82] else if k=4 then [66] else if k=5 then [78] else []
theorem letB_len(k:Int):(letB k).length<=1:=by unfold letB;split<;>(try split)<;>(try split)<;>(try split)<;>(try split)<;>decide
def fileB(f:Int):UInt8:=UInt8.ofNat (97+f).toNat
def rankB(r:Int):UInt8:=UInt8.ofNat (49+r).toNat
theorem file_text{f:Int}(h:0<=f/\f<=7):(⟨#[97,98,99,100,101,102,103,104]⟩:ByteArray).extract f.toNat (f+1).toNat=bstr [fileB f]:=by
 rcases (by omega:f=0\/f=1\/f=2\/f=3\/f=4\/f=5\/f=6\/f=7) with rfl|rfl|rfl|rfl|rfl|rfl|rfl|rfl<;>decide
theorem rank_text{f:Int}(h:0<=f/\f<=7):(⟨#[49,50,51,52,53,54,55,56]⟩:ByteArray).extract f.toNat (f+1).toNat=bstr [rankB f]:=by
 rcases (by omega:f=0\/f=1\/f=2\/f=3\/f=4\/f=5\/f=6\/f=7) with rfl|rfl|rfl|rfl|rfl|rfl|rfl|rfl<;>decide
def eqB(l:List UInt8):List UInt8:=if l=[] then [] else 61::l
def sgnI(B:Bd)(S:Ps)(M:Mv):List UInt8:=bif hasTag M 16 then (bif statV (updB B M) (nextPs B S M)==1 then [35] else [43]) else []
structure UpPre(B:Bd)(S:Ps)(M:Mv):Prop where
 hs:0<=M.s1/\M.s1<=63
 hs2:0<=M.s2/\M.s2<=63
 hp1:1<=pieceAt B M.s1/\pieceAt B M.s1<=12
 hcol:pColor (pieceAt B M.s1)=1\/pColor (pieceAt B M.s1)=2
 hpro:M.promo≠0->1<=M.promo/\M.promo<=6
 hnew:M.promo≠0->1<=newP M.promo (pColor (pieceAt B M.s1))/\newP M.promo (pColor (pieceAt B M.s1))<=12
 cs:S.castle.size<=1000
 st:StPre (updB B M) (nextPs B S M)
theorem bstr_toList(l:List UInt8):(bstr l).toList=l:=by rw [ByteArray.toList_eq];simp [bstr]
theorem nil_toList:(⟨#[]⟩:ByteArray).toList=[]:=bstr_toList []
theorem bstr_none{l:List UInt8}(h:((bstr l).toList !=(⟨#[]⟩:ByteArray).toList)=false):l=[]:=by
 rw [bstr_toList,nil_toList,bne_eq_false_iff_eq] at h;exact h
theorem eqB_true{k:Int}(h:((bstr (letB k)).toList !=(⟨#[]⟩:ByteArray).toList)=true):(⟨#[61]⟩:ByteArray)++bstr (letB k)=bstr (eqB (letB k)):=by
 rw [bstr_toList,nil_toList,bne_iff_ne] at h;unfold eqB;rw [if_neg h];exact bstr_append [61] _
theorem eqB_false{k:Int}(h:((bstr (letB k)).toList !=(⟨#[]⟩:ByteArray).toList)=false):bstr (letB k)=bstr (eqB (letB k)):=by
 rw [bstr_none h];rfl
theorem c184{w:World}(k:Int):
  CR 184 [.int .i8 k] w (.string (bstr (letB k))):=by
 have hm0:Mod [] w w:=Mod.refl _ _;refine en func184 ntmps184 ?_;refine zw<|yS 1<|zz<|w_seq<|zw<|yS 1<|zz<|w_block<|zw<|yS 2<|zz<|yC (k==1) (λhc1=>?_) λhc1=>?_
 ·have dhc1:=eq_of_beq hc1;exact zw<|yS 1<|zz<|w_ret<|r_block<|r_then<|y1 (v:=.string (⟨#[75]⟩)) (⟨ret_str (by have h0:=hc1;simp only [beq_iff_eq,beq_eq_false_iff_ne,ne_eq] at*;unfold letB;simp only [*,if_true,if_false,not_false_eq_true]<;>rfl),hm0⟩)
 have dhc1:=ne_of_beq_false hc1;refine zw<|yS 2<|zz<|yC (k==2) (λhc2=>?_) λhc2=>?_
 ·have dhc2:=eq_of_beq hc2;exact zw<|yS 1<|zz<|w_ret<|r_block<|r_then<|y1 (v:=.string (⟨#[81]⟩)) (⟨ret_str (by have h0:=hc1;have h1:=hc2;simp only [beq_iff_eq,beq_eq_false_iff_ne,ne_eq] at*;unfold letB;simp only [*,if_true,if_false,not_false_eq_true]<;>rfl),hm0⟩)
 have dhc2:=ne_of_beq_false hc2;refine zw<|yS 2<|zz<|yC (k==3) (λhc3=>?_) λhc3=>?_
 ·have dhc3:=eq_of_beq hc3;exact zw<|yS 1<|zz<|w_ret<|r_block<|r_then<|y1 (v:=.string (⟨#[82]⟩)) (⟨ret_str (by have h0:=hc1;have h1:=hc2;have h2:=hc3;simp only [beq_iff_eq,beq_eq_false_iff_ne,ne_eq] at*;unfold letB;simp only [*,if_true,if_false,not_false_eq_true]<;>rfl),hm0⟩)
 have dhc3:=ne_of_beq_false hc3;refine zw<|yS 2<|zz<|yC (k==4) (λhc4=>?_) λhc4=>?_
 ·have dhc4:=eq_of_beq hc4;exact zw<|yS 1<|zz<|w_ret<|r_block<|r_then<|y1 (v:=.string (⟨#[66]⟩)) (⟨ret_str (by have h0:=hc1;have h1:=hc2;have h2:=hc3;have h3:=hc4;simp only [beq_iff_eq,beq_eq_false_iff_ne,ne_eq] at*;unfold letB;simp only [*,if_true,if_false,not_false_eq_true]<;>rfl),hm0⟩)
 have dhc4:=ne_of_beq_false hc4;refine zw<|yS 2<|zz<|yC (k==5) (λhc5=>?_) λhc5=>?_
 ·have dhc5:=eq_of_beq hc5;exact zw<|yS 1<|zz<|w_ret<|r_block<|r_then<|y1 (v:=.string (⟨#[78]⟩)) (⟨ret_str (by have h0:=hc1;have h1:=hc2;have h2:=hc3;have h3:=hc4;have h4:=hc5;simp only [beq_iff_eq,beq_eq_false_iff_ne,ne_eq] at*;unfold letB;simp only [*,if_true,if_false,not_false_eq_true]<;>rfl),hm0⟩)
 have dhc5:=ne_of_beq_false hc5;exact w_skip<|n_block<|zn<|yS 1<|zz<|w_ret<|y1 (v:=.string (⟨#[]⟩)) (⟨ret_str (by have h0:=hc1;have h1:=hc2;have h2:=hc3;have h3:=hc4;have h4:=hc5;simp only [beq_iff_eq,beq_eq_false_iff_ne,ne_eq] at*;unfold letB;simp only [*,if_true,if_false,not_false_eq_true]<;>rfl),hm0⟩)
theorem c187{w:World}(f:Int)(h:0<=f/\f<=7):
  CR 187 [.int .i8 f] w (.string (bstr [fileB f])):=by
 have hm0:Mod [] w w:=Mod.refl _ _;refine en func187 ntmps187 ?_;refine zw<|yS 1<|zx<|zs 3 [(3,.int .i8 f),(5,.int .i8 (IntKind.i8.wrap (f+1)))] ?_;rw [(show ((IntKind.i8.wrap (f+1)):Int)=(f+1) from i8_in' (by omega) (by omega))];refine yO 2 [.prop (0<=f/\f<=(f+1)/\(f+1)<=(((⟨#[97,98,99,100,101,102,103,104]⟩:ByteArray).size:Nat):Int))] (zh (by refine ⟨by omega,by omega,?_⟩;show f+1<=8;omega)) ?_;exact zz<|w_ret<|y1 (⟨ret_str (file_text h),hm0⟩)
theorem c188{w:World}(f:Int)(h:0<=f/\f<=7):
  CR 188 [.int .i8 f] w (.string (bstr [rankB f])):=by
 have hm0:Mod [] w w:=Mod.refl _ _;refine en func188 ntmps188 ?_;refine zw<|yS 1<|zx<|zs 3 [(3,.int .i8 f),(5,.int .i8 (IntKind.i8.wrap (f+1)))] ?_;rw [(show ((IntKind.i8.wrap (f+1)):Int)=(f+1) from i8_in' (by omega) (by omega))];refine yO 2 [.prop (0<=f/\f<=(f+1)/\(f+1)<=(((⟨#[49,50,51,52,53,54,55,56]⟩:ByteArray).size:Nat):Int))] (zh (by refine ⟨by omega,by omega,?_⟩;show f+1<=8;omega)) ?_;exact zz<|w_ret<|y1 (⟨ret_str (rank_text h),hm0⟩)
theorem c174{w:World}(sq:Int)(h:0<=sq/\sq<=63):
  CR 174 [.int .i8 sq] w (.string (bstr (sqBytes sq))):=by
 have hm0:Mod [] w w:=Mod.refl _ _;refine en func174 ntmps174 ?_;refine zw<|yS 1<|zx<|yS 1<|zk (some 4) (c133 sq w) ?_;intro w1 hm2;have hm3:=zt hm0 hm2;refine zk (some 5) (c187 (sqFile sq) (file_ok (by assumption))) ?_;intro w4 hm5;have hm6:=zt hm3 hm5;refine yS 1<|zk (some 7) (c132 sq w4) ?_;intro w7 hm8;have hm9:=zt hm6 hm8;refine zk (some 8) (c188 (sqRank sq) (rank_ok (by assumption))) ?_;intro w10 hm11;have hm12:=zt hm9 hm11;refine yO 2 [.prop (((bstr [fileB (sqFile sq)]).size+(bstr [rankB (sqRank sq)]).size:Nat)<=9223372036854775807)] (zh (by first|omega|assumption|(have e3:(⟨#[61]⟩:ByteArray).size=1:=rfl;have h5:=letB_len k;simp only [bstr_size] at*;omega)|(simp only [bstr_size,List.length_cons,List.length_nil];omega))) ?_;exact zz<|w_ret<|ret1 rfl rfl (⟨ret_str ((bstr_append _ _).trans rfl),hm12⟩)
theorem c199{w:World}(k:Int):
  CR 199 [.int .i8 k] w (.string (bstr (eqB (letB k)))):=by
 have hm0:Mod [] w w:=Mod.refl _ _;refine en func199 ntmps199 ?_;refine zw<|yS 1<|zx<|yS 1<|zk (some 5) (c184 k) ?_;intro w1 hm2;have hm3:=zt hm0 hm2;refine yS 1<|zz<|w_seq<|zw<|yS 2<|zz<|yC (!((bstr (letB k)).toList==(⟨#[]⟩:ByteArray).toList)) (λhc4=>?_) λhc4=>?_
 ·refine w_region<|yO 3 [.prop (((⟨#[61]⟩:ByteArray).size+(bstr (letB k)).size:Nat)<=9223372036854775807)] (zh (by first|omega|assumption|(have e3:(⟨#[61]⟩:ByteArray).size=1:=rfl;have h5:=letB_len k;simp only [bstr_size] at*;omega)|(simp only [bstr_size,List.length_cons,List.length_nil];omega))) ?_;exact zx<|yS 2<|zz<|w_ret<|y1 (v:=.string ((⟨#[61]⟩:ByteArray)++(bstr (letB k)))) (⟨ret_str (by have hh:=hc4;exact eqB_true hh),hm3⟩)
 exact w_skip<|zn<|yS 2<|zz<|w_ret<|y1 (v:=.string (bstr (letB k))) (⟨ret_str (by have hh:=hc4;exact eqB_false hh),hm3⟩)
theorem c182{c:GC}{p b:Nat}{vm:Value}{S:Ps}{w:World}(hp:At w p (.cells (psCells b vm S) 110 (0,0))){B:Bd}(hb:At w b (.cells (bdCells B) 135 (0,0))){m:Nat}{pos:Value}{M:Mv}(hm:At w m (.cells (mvCells pos M) 98 (0,0)))(hG:Glob c w)(hup:UpPre B S M):
  CR 182 [pz p,pz m] w (.string (bstr (sgnI B S M))):=by
 have hm0:Mod [] w w:=Mod.refl _ _;refine en func182 ntmps182 ?_;refine zw<|yS 1<|zz<|w_seq<|zw<|yS 1<|zk (some 7) (c74 hm 16) ?_;intro w1 hm2;have hf3:=At.on hp hm2;have hf4:=At.on hb hm2;have hf5:=At.on hm hm2;have hG6:=Glob.on hG hm2;have hm7:=zt hm0 hm2;refine yS 1<|zz<|yC (!(hasTag M 16)) (λhc8=>?_) λhc8=>?_
 ·have nhc8:(hasTag M 16)=false:=by simpa using hc8
  exact zw<|yS 1<|zz<|w_ret<|r_then<|y1 (⟨ret_str (by simp only [sgnI,hc8,nhc8,cond_true,cond_false];rfl),hm7⟩)
 have nhc8:(hasTag M 16)=true:=by simpa using hc8
 refine w_skip<|zn<|yS 2<|reg_call 35 [pz p,pz m] (some 11) (by kernel_rfl) (c35 (S:=S) (M:=M) hf3 hf4 hf5 hG6 hup.hs hup.hs2 hup.hp1 hup.hcol hup.hpro hup.hnew hup.cs) ?_;rintro _ w9 ⟨p11,b12,rfl,hm10,hf13,hf14,hb15,hb16⟩;refine ⟨_,rfl,?_⟩;have hG20:=Glob.on hG6 hm10;have hm21:=zt hm7 hm10;refine yS 1<|zz<|w_seq<|zw<|yS 1<|zk (some 13) (c190 (S:=(nextPs B S M)) (B:=(updB B M)) hf13 hf14 hG20 hup.st) ?_;intro w22 hm23;have hm30:=zt hm21 hm23;refine yS 1<|zz<|yC ((statV (updB B M) (nextPs B S M))==1) (λhc31=>?_) λhc31=>?_
 ·have dhc31:=eq_of_beq hc31;exact zw<|yS 1<|zz<|w_ret<|r_then<|y1 (v:=.string (⟨#[35]⟩)) (⟨ret_str (by simp only [sgnI,hc8,nhc8,hc31,cond_true,cond_false];rfl),hm30⟩)
 have dhc31:=ne_of_beq_false hc31;exact w_skip<|zn<|yS 1<|zz<|w_ret<|y1 (v:=.string (⟨#[43]⟩)) (⟨ret_str (by simp only [sgnI,hc8,nhc8,hc31,cond_true,cond_false];rfl),hm30⟩)
def anyTo(f:Mv->Bool)(l:List Mv)(n:Nat):Bool:=(l.take n).any f
theorem anyTo_succ{f:Mv->Bool}{l:List Mv}{j:Int}(h0:0<=j)(h1:j<(l.length:Int)):anyTo f l (j+1).toNat=(anyTo f l j.toNat||f (mvAt l j.toNat)):=by
 have e:(j+1).toNat=j.toNat+1:=by omega
 have hl:j.toNat<l.length:=by omega
 unfold anyTo mvAt;rw [e,List.take_succ_eq_append_getElem hl,List.any_append,List.getD_eq_getElem?_getD,List.getElem?_eq_getElem hl];simp
theorem anyTo_all{f:Mv->Bool}{l:List Mv}{n:Nat}(h:l.length<=n):anyTo f l n=l.any f:=by unfold anyTo;rw [List.take_of_length_le h]
def othI(B:Bd)(M N:Mv):Bool:=((N.s1 !=M.s1)&&(N.s2==M.s2))&&(pieceAt B M.s1==pieceAt B N.s1)
def filI(B:Bd)(M N:Mv):Bool:=othI B M N&&(sqFile N.s1==sqFile M.s1)
def rnkI(B:Bd)(M N:Mv):Bool:=othI B M N&&(sqRank N.s1==sqRank M.s1)
def formI(B:Bd)(l:List Mv)(M:Mv):List UInt8:=
 bif pType (pieceAt B M.s1)==6 then [] else
 (bif l.any (rnkI B M)||(!(l.any (filI B M))&&l.any (othI B M)) then [fileB (sqFile M.s1)] else [])++(bif l.any (filI B M) then [rankB (sqRank M.s1)] else [])
theorem c93s{p b g cap:Nat}{S:Ps}{B:Bd}{w:World}(hp:At w p (.cells (psCells b (.slice (some ⟨g,0,none⟩) (allL B S).length cap) S) 110 (0,0)))(hc:Own w 0 98 11 (some ⟨g,0,none⟩) (allL B S).length cap (mvsL (allL B S)))(hlen:(allL B S).length<=222):
  CQ 93 [pz p] w (λe w'=>∃ao cap',e=.returned (.slice ao (allL B S).length cap')/\Mod [] w w'/\Own w' w.heap.size 98 11 ao (allL B S).length cap' (mvsL (allL B S))):=by
 refine en func93 ntmps93 ?_;refine zw<|yS 1<|zz<|w_seq<|zw<|yL 5 p 2<|zz<|yT<|zw<|yL 4 p 2<|reg_append none 0 0 ⟨g,0,none⟩ ((allL B S).length) cap 98 (some 12) 11 96 (b0:=w.heap.size) (xs:=[]) (news:=(mvsL (allL B S))) (by kernel_rfl) (Own.nil _ _ _ _) (by decide) (mvsL_len _) (Own.cells' hc) (oneCells_mem (oneCells_mvs _)) (by omega) (by omega) ?_;intro ao2 cap3 w4 ho5 hm6 hne7;have hm10:=zt (yM w w) hm6;exact yS 1<|zz<|w_ret<|r_then<|y1 (v:=.slice ao2 (0+(allL B S).length) cap3) (⟨ao2,cap3,by rw [Nat.zero_add],hm10,Own.cast ho5 (Nat.zero_add _) (List.nil_append _)⟩)
theorem c185{c:GC}{p b g cap:Nat}{S:Ps}{B:Bd}{w:World}(hp:At w p (.cells (psCells b (.slice (some ⟨g,0,none⟩) (allL B S).length cap) S) 110 (0,0)))(hc:Own w 0 98 11 (some ⟨g,0,none⟩) (allL B S).length cap (mvsL (allL B S)))(hb:At w b (.cells (bdCells B) 135 (0,0))){m:Nat}{pos:Value}{M:Mv}(hm:At w m (.cells (mvCells pos M) 98 (0,0)))(hG:Glob c w)(hlen:(allL B S).length<=222)(hpos:0<(allL B S).length)(hs1:0<=M.s1/\M.s1<=63):
  CR 185 [pz p,pz m] w (.string (bstr (formI B (allL B S) M))):=by
 refine en func185 ntmps185 ?_;refine zw<|yS 1<|zz<|w_seq<|w_qt<|yQo 8 [.cell ⟨p,0,none⟩ (pz b),.cell ⟨m,8,none⟩ (.int .i8 M.s1)] (λ_ hC=>⟨At.cell (At.on hp hC) rfl,At.cell (At.on hm hC) rfl⟩)<|zqk (some 20) (λw_ hC=>c72 (At.on hb hC) (Glob.on hG hC) M.s1)<|yQ 1<|q_ot fun w1 hm2=>n_then<|w_seq<|zw<|yS 1<|zk (some 22) (c73 (pieceAt B M.s1) w1) ?_;intro w9 hm10;have hm16:=zt (yM w w1) hm10;refine yS 1<|zz<|w_cond (b:=((pType (pieceAt B M.s1))==6)) (by kernel_rfl) (λhc17=>?_) (λhc17=>?_)
 ·have dhc17:=eq_of_beq hc17;exact zw<|yS 1<|zz<|w_ret<|r_then<|y1 (v:=.string (⟨#[]⟩)) (⟨ret_str (by unfold formI;(try simp only [hc17]);rfl),hm16⟩)
 ·have dhc17:=ne_of_beq_false hc17;refine w_skip<|zn<|yS 3<|zx<|zA (#[.pointer none,.slice none 0 0]) 150 (some 24) ?_;intro b18 w19 hn20;have hb21:c.base<=b18:=Glob.lt (yG w9) hn20;have hb22:=Nat.le_trans hm16.size hn20.base;refine yS 1<|zx<|yS 1<|reg_call 183 [pz b18] (some 26) (by kernel_rfl) (c183 ya) ?_;rintro _ w31 ⟨rfl,hm32,hf33⟩;refine ⟨_,rfl,?_⟩;refine ze ?_;have hbl40:Bld w.heap.size b18 [] w31:=Bld.new hf33 (by omega);refine n_then<|w_seq<|zw<|yS 1<|reg_call 93 [pz p] (some 28) (by kernel_rfl) (c93s ya yo hlen) ?_;rintro _ w41 ⟨ao43,cap44,rfl,hm42,ho45⟩;refine ⟨_,rfl,?_⟩;have he49:=Bld.on hbl40 hm42;obtain ⟨g53,cur54,rfl,hb55,hf56,ht57,hn58,hs59⟩:=Own.some ho45 hpos;refine yS 2<|zz<|w_block<|yP (γ:=Int) (λg61=>(((allL B S).length:Int)-g61).toNat) (λ(g61:Int)=>[(0,pz p),(1,pz m),(5,.int .i8 (pieceAt B M.s1)),(6,.bool (anyTo (othI B M) (allL B S) g61.toNat)),(7,.bool (anyTo (rnkI B M) (allL B S) g61.toNat)),(8,.bool (anyTo (filI B M) (allL B S) g61.toNat)),(9,pz b18),(28,.slice (some ⟨g53,0,none⟩) ((allL B S).length) cap44),(29,.int .i64 (((allL B S).length:Nat):Int)),(30,.int .i64 g61)]) (λ(g61:Int) w_=>(0<=g61/\g61<=((allL B S).length:Int))/\Mod [] w41 w_/\(True)) 0 ⟨by omega,Mod.refl _ _,trivial⟩ ?_;rintro g61 w62 ⟨⟨h64,h65⟩,hm63,hx66⟩;have he70:=Bld.on he49 hm63;refine zw<|yS 1<|zz<|w_seq<|w_cond (b:=(decide (g61<(((allL B S).length:Nat):Int)))) (by kernel_rfl) (λhc75=>?_) (λhc75=>?_)
  ·have dhc75:=of_decide_eq_true hc75;refine w_skip<|n_then<|w_cut (γ:=Bool×Bool×Bool) (λg76=>[(0,pz p),(1,pz m),(5,.int .i8 (pieceAt B M.s1)),(6,.bool g76.1),(7,.bool g76.2.1),(8,.bool g76.2.2),(9,pz b18),(28,.slice (some ⟨g53,0,none⟩) ((allL B S).length) cap44),(29,.int .i64 (((allL B S).length:Nat):Int)),(30,.int .i64 g61)]) (λg76 w_=>Mod [] w62 w_/\g76=((anyTo (othI B M) (allL B S) (g61+1).toNat),(anyTo (rnkI B M) (allL B S) (g61+1).toNat),(anyTo (filI B M) (allL B S) (g61+1).toNat))) ?_ ?_
   ·refine w_block<|zw<|yV 2 [.prop (0<=g61/\g61<(((allL B S).length:Nat):Int)),.row ⟨g53,(0+g61.toNat*11),none⟩ 11 (mvCells (.pointer none) (mvAt (allL B S) g61.toNat))] [.agg (mvCells (.pointer none) (mvAt (allL B S) g61.toNat))] (⟨(zh (by omega)),(own_mv (Own.on ho45 yt) (by omega))⟩)<|zA (mvCells (.pointer none) (⟨0,0,0,0⟩:Mv)) 98 (some 11) ?_;intro b80 w81 hn82;have hm89:=hn82.mod;have he93:=Bld.on he70 hm89;refine zS b80 0 (.agg (mvCells (.pointer none) (mvAt (allL B S) g61.toNat))) ?_;intro w101 hu102;have he107:=Bld.keep he93 hu102.mod ya (by decide) (by decide);refine zz<|w_cut (γ:=Unit) (λ_=>[(0,pz p),(1,pz m),(5,.int .i8 (pieceAt B M.s1)),(6,.bool (anyTo (othI B M) (allL B S) g61.toNat)),(7,.bool (anyTo (rnkI B M) (allL B S) g61.toNat)),(8,.bool (anyTo (filI B M) (allL B S) g61.toNat)),(9,pz b18),(11,pz b80),(28,.slice (some ⟨g53,0,none⟩) ((allL B S).length) cap44),(29,.int .i64 (((allL B S).length:Nat):Int)),(30,.int .i64 g61),(60,.bool (((((mvAt (allL B S) g61.toNat).s1) !=M.s1)&&(((mvAt (allL B S) g61.toNat).s2)==M.s2))&&((pieceAt B M.s1)==(pieceAt B ((mvAt (allL B S) g61.toNat).s1)))))]) (λ_ w_=>Mod [] w101 w_) ?_ ?_
    ·refine w_qt<|yQo 8 [.cell ⟨b80,8,none⟩ (.int .i8 ((mvAt (allL B S) g61.toNat).s1)),.cell ⟨m,8,none⟩ (.int .i8 M.s1)] (λ_ hC=>⟨At.cell (At.on ya hC) rfl,At.cell (At.on ya hC) rfl⟩)<|yEq 41 (.bool (((mvAt (allL B S) g61.toNat).s1) !=M.s1)) ?_;cases hc117:(((mvAt (allL B S) g61.toNat).s1) !=M.s1)
     ·refine yQ 19<|q_ot ?_;intro w118 hm119;have he124:=Bld.on he107 hm119;exact zb () yt
     ·refine yQo 9 [.cell ⟨b80,9,none⟩ (.int .i8 ((mvAt (allL B S) g61.toNat).s2)),.cell ⟨m,9,none⟩ (.int .i8 M.s2)] (λ_ hC=>⟨At.cell (At.on ya hC) rfl,At.cell (At.on ya hC) rfl⟩)<|yEq 50 (.bool (((mvAt (allL B S) g61.toNat).s2)==M.s2)) ?_;cases hc131:(((mvAt (allL B S) g61.toNat).s2)==M.s2)
      ·refine yQ 10<|q_ot ?_;intro w132 hm133;have he138:=Bld.on he107 hm133;exact zb () yt
      ·refine yQo 7 [.cell ⟨p,0,none⟩ (pz b),.cell ⟨b80,8,none⟩ (.int .i8 ((mvAt (allL B S) g61.toNat).s1))] (λ_ hC=>⟨At.cell (At.on ya hC) rfl,At.cell (At.on ya hC) rfl⟩)<|zqk (some 58) (λw_ hC=>c72 (At.on (yA w101 b) hC) (Glob.on (yG w101) hC) ((mvAt (allL B S) g61.toNat).s1))<|yQ 2<|q_ot ?_;intro w145 hm146;have he151:=Bld.on he107 hm146;exact zb () yt
    intro _ w114 hm115;have he162:=Bld.on he107 hm115;refine w_cond (b:=(othI B M (mvAt (allL B S) g61.toNat))) (by kernel_rfl) (λhc169=>?_) (λhc169=>?_)
    ·refine zw<|yS 1<|zz<|w_seq<|w_seq<|w_qt<|yQo 2 [.cell ⟨b80,8,none⟩ (.int .i8 ((mvAt (allL B S) g61.toNat).s1))] (λ_ hC=>At.cell (At.on ya hC) rfl)<|zqk (some 63) (λw_ hC=>c133 ((mvAt (allL B S) g61.toNat).s1) w_)<|yQo 4 [.cell ⟨m,8,none⟩ (.int .i8 M.s1)] (λ_ hC=>At.cell (At.on ya hC) rfl)<|zqk (some 68) (λw_ hC=>c133 M.s1 w_)<|yQ 1<|q_ot ?_;intro w170 hm171;have he176:=Bld.on he162 hm171;refine n_then<|w_cond (b:=((sqFile ((mvAt (allL B S) g61.toNat).s1))==(sqFile M.s1))) (by kernel_rfl) (λhc183=>?_) (λhc183=>?_)
     ·have dhc183:=eq_of_beq hc183;refine w_region<|yS 1<|zz<|w_seq<|w_qt<|yQo 2 [.cell ⟨b80,8,none⟩ (.int .i8 ((mvAt (allL B S) g61.toNat).s1))] (λ_ hC=>At.cell (At.on ya hC) rfl)<|zqk (some 72) (λw_ hC=>c132 ((mvAt (allL B S) g61.toNat).s1) w_)<|yQo 4 [.cell ⟨m,8,none⟩ (.int .i8 M.s1)] (λ_ hC=>At.cell (At.on ya hC) rfl)<|zqk (some 77) (λw_ hC=>c132 M.s1 w_)<|yQ 1<|q_ot ?_;intro w184 hm185;have he190:=Bld.on he176 hm185;refine n_then<|w_cond (b:=((sqRank ((mvAt (allL B S) g61.toNat).s1))==(sqRank M.s1))) (by kernel_rfl) (λhc197=>?_) (λhc197=>?_)
      ·have dhc197:=eq_of_beq hc197;exact w_region<|yS 1<|ze<|n_block<|zb (true,true,true) ⟨yt,(by rw [anyTo_succ (by omega) (by omega),anyTo_succ (by omega) (by omega),anyTo_succ (by omega) (by omega)];simp only [filI,rnkI,hc169,hc183,hc197,Bool.or_true,Bool.or_false,Bool.true_and,Bool.false_and,Bool.and_true,Bool.and_false])⟩
      ·have dhc197:=ne_of_beq_false hc197;exact w_skip<|n_block<|zb (true,(anyTo (rnkI B M) (allL B S) g61.toNat),true) ⟨yt,(by rw [anyTo_succ (by omega) (by omega),anyTo_succ (by omega) (by omega),anyTo_succ (by omega) (by omega)];simp only [filI,rnkI,hc169,hc183,hc197,Bool.or_true,Bool.or_false,Bool.true_and,Bool.false_and,Bool.and_true,Bool.and_false])⟩
     ·have dhc183:=ne_of_beq_false hc183;refine w_skip<|n_then<|w_seq<|w_qt<|yQo 2 [.cell ⟨b80,8,none⟩ (.int .i8 ((mvAt (allL B S) g61.toNat).s1))] (λ_ hC=>At.cell (At.on ya hC) rfl)<|zqk (some 72) (λw_ hC=>c132 ((mvAt (allL B S) g61.toNat).s1) w_)<|yQo 4 [.cell ⟨m,8,none⟩ (.int .i8 M.s1)] (λ_ hC=>At.cell (At.on ya hC) rfl)<|zqk (some 77) (λw_ hC=>c132 M.s1 w_)<|yQ 1<|q_ot ?_;intro w198 hm199;have he204:=Bld.on he176 hm199;refine n_then<|w_cond (b:=((sqRank ((mvAt (allL B S) g61.toNat).s1))==(sqRank M.s1))) (by kernel_rfl) (λhc211=>?_) (λhc211=>?_)
      ·have dhc211:=eq_of_beq hc211;exact w_region<|yS 1<|ze<|n_block<|zb (true,true,(anyTo (filI B M) (allL B S) g61.toNat)) ⟨yt,(by rw [anyTo_succ (by omega) (by omega),anyTo_succ (by omega) (by omega),anyTo_succ (by omega) (by omega)];simp only [filI,rnkI,hc169,hc183,hc211,Bool.or_true,Bool.or_false,Bool.true_and,Bool.false_and,Bool.and_true,Bool.and_false])⟩
      ·have dhc211:=ne_of_beq_false hc211;exact w_skip<|n_block<|zb (true,(anyTo (rnkI B M) (allL B S) g61.toNat),(anyTo (filI B M) (allL B S) g61.toNat)) ⟨yt,(by rw [anyTo_succ (by omega) (by omega),anyTo_succ (by omega) (by omega),anyTo_succ (by omega) (by omega)];simp only [filI,rnkI,hc169,hc183,hc211,Bool.or_true,Bool.or_false,Bool.true_and,Bool.false_and,Bool.and_true,Bool.and_false])⟩
    ·exact w_skip<|n_block<|zb ((anyTo (othI B M) (allL B S) g61.toNat),(anyTo (rnkI B M) (allL B S) g61.toNat),(anyTo (filI B M) (allL B S) g61.toNat)) ⟨yt,(by rw [anyTo_succ (by omega) (by omega),anyTo_succ (by omega) (by omega),anyTo_succ (by omega) (by omega)];simp only [filI,rnkI,hc169,Bool.or_true,Bool.or_false,Bool.true_and,Bool.false_and,Bool.and_true,Bool.and_false])⟩
   rintro _ w77 ⟨hm78,rfl⟩;have he215:=Bld.on he70 hm78;exact w_region<|yS 2<|yW 30 (zi (g61+1) (by omega) (by omega))<|ze<|zl (g61+1) ⟨by omega,yt,trivial⟩
  ·have dhc75:=of_decide_eq_false hc75;rw [show (anyTo (othI B M) (allL B S) g61.toNat)=((allL B S).any (othI B M)) from anyTo_all (by omega)];rw [show (anyTo (rnkI B M) (allL B S) g61.toNat)=((allL B S).any (rnkI B M)) from anyTo_all (by omega)];rw [show (anyTo (filI B M) (allL B S) g61.toNat)=((allL B S).any (filI B M)) from anyTo_all (by omega)];refine w_exit<|x_then<|x_then<|x_hit<|n_then<|w_seq<|w_cut (γ:=Unit) (λ_=>[(1,pz m),(8,.bool ((allL B S).any (filI B M))),(9,pz b18),(87,.bool (((allL B S).any (rnkI B M))||((!((allL B S).any (filI B M)))&&((allL B S).any (othI B M)))))]) (λ_ w_=>Mod [] w62 w_) ?_ ?_
   ·refine w_region<|yS 2<|yE 81 (.bool ((allL B S).any (rnkI B M))) ?_;cases hc224:((allL B S).any (rnkI B M))
    ·refine yS 3<|yE 84 (.bool (!((allL B S).any (filI B M)))) ?_;cases hc225:(!((allL B S).any (filI B M)))
     ·exact yS 3<|ze<|zb () yt
     ·exact yS 3<|ze<|zb () yt
    ·exact yS 6<|ze<|zb () yt
   intro _ w221 hm222;have he229:=Bld.on he70 hm222;refine w_cond (b:=(((allL B S).any (rnkI B M))||((!((allL B S).any (filI B M)))&&((allL B S).any (othI B M))))) (by kernel_rfl) (λhc234=>?_) (λhc234=>?_)
   ·refine w_region<|yL 5 m 8<|zk (some 93) (c133 M.s1 w221) ?_;intro w235 hm236;have he240:=Bld.on he229 hm236;refine zk (some 94) (c191 (sqFile M.s1) (file_ok hs1)) ?_;intro w245 hm246;have he250:=Bld.on he240 hm246;refine reg_call 114 [pz b18,.int .u8 (97+(sqFile M.s1))] (some 95) (by kernel_rfl) (cWB yt he250 (by simp) (by first|(have:=file_ok hs1;omega)|(have:=rank_ok hs1;omega))) ?_;rintro _ w255 ⟨rfl,hm256,hbl257⟩;refine ⟨_,rfl,?_⟩;refine zz<|w_seq<|zw<|yS 1<|zz<|w_cond (b:=((allL B S).any (filI B M))) (by kernel_rfl) (λhc263=>?_) (λhc263=>?_)
    ·refine w_region<|yL 5 m 8<|zk (some 102) (c132 M.s1 w255) ?_;intro w264 hm265;have he269:=Bld.on hbl257 hm265;refine zk (some 103) (c192 (sqRank M.s1) (rank_ok hs1)) ?_;intro w273 hm274;have he278:=Bld.on he269 hm274;refine reg_call 114 [pz b18,.int .u8 (49+(sqRank M.s1))] (some 104) (by kernel_rfl) (cWB yt he278 (by simp) (by first|(have:=file_ok hs1;omega)|(have:=rank_ok hs1;omega))) ?_;rintro _ w282 ⟨rfl,hm283,hbl284⟩;refine ⟨_,rfl,?_⟩;refine zx<|yS 1<|zC (some 106) (cBS hm283 hbl284) ?_;rintro _ w290 ⟨rfl,hm291,hbl292⟩;refine ⟨_,rfl,?_⟩;exact yS 1<|zz<|w_ret<|y1 (v:=.string (bstr (([]++[UInt8.ofNat (97+(sqFile M.s1)).toNat])++[UInt8.ofNat (49+(sqRank M.s1)).toNat]))) (⟨ret_str (by unfold formI;(try simp only [hc17]);(try simp only [hc75]);(try simp only [hc234]);(try simp only [hc263]);rfl),hm291⟩)
    ·refine w_skip<|zn<|yS 1<|zC (some 106) (cBS hm256 hbl257) ?_;rintro _ w298 ⟨rfl,hm299,hbl300⟩;refine ⟨_,rfl,?_⟩;exact yS 1<|zz<|w_ret<|y1 (v:=.string (bstr ([]++[UInt8.ofNat (97+(sqFile M.s1)).toNat]))) (⟨ret_str (by unfold formI;(try simp only [hc17]);(try simp only [hc75]);(try simp only [hc234]);(try simp only [hc263]);rfl),hm299⟩)
   ·refine w_skip<|n_then<|w_seq<|zw<|yS 1<|zz<|w_cond (b:=((allL B S).any (filI B M))) (by kernel_rfl) (λhc306=>?_) (λhc306=>?_)
    ·refine w_region<|yL 5 m 8<|zk (some 102) (c132 M.s1 w221) ?_;intro w307 hm308;have he312:=Bld.on he229 hm308;refine zk (some 103) (c192 (sqRank M.s1) (rank_ok hs1)) ?_;intro w317 hm318;have he322:=Bld.on he312 hm318;refine reg_call 114 [pz b18,.int .u8 (49+(sqRank M.s1))] (some 104) (by kernel_rfl) (cWB yt he322 (by simp) (by first|(have:=file_ok hs1;omega)|(have:=rank_ok hs1;omega))) ?_;rintro _ w327 ⟨rfl,hm328,hbl329⟩;refine ⟨_,rfl,?_⟩;refine zx<|yS 1<|zC (some 106) (cBS hm328 hbl329) ?_;rintro _ w335 ⟨rfl,hm336,hbl337⟩;refine ⟨_,rfl,?_⟩;exact yS 1<|zz<|w_ret<|y1 (v:=.string (bstr ([]++[UInt8.ofNat (49+(sqRank M.s1)).toNat]))) (⟨ret_str (by unfold formI;(try simp only [hc17]);(try simp only [hc75]);(try simp only [hc234]);(try simp only [hc306]);rfl),hm336⟩)
    ·refine w_skip<|zn<|yS 1<|zC (some 106) (cBS yt he229) ?_;rintro _ w343 ⟨rfl,hm344,hbl345⟩;refine ⟨_,rfl,?_⟩;exact yS 1<|zz<|w_ret<|y1 (v:=.string (bstr [])) (⟨ret_str (by unfold formI;(try simp only [hc17]);(try simp only [hc75]);(try simp only [hc234]);(try simp only [hc306]);rfl),hm344⟩)
theorem Bld.cast{B b:Nat}{l l':List UInt8}{w:World}(h:Bld B b l w)(e:l=l'):Bld B b l' w:=e▸h
theorem formI_len(B:Bd)(l:List Mv)(M:Mv):(formI B l M).length<=2:=by
 unfold formI;cases (pType (pieceAt B M.s1)==6)<;>cases (l.any (rnkI B M)||(!(l.any (filI B M))&&l.any (othI B M)))<;>cases l.any (filI B M)<;>simp only [cond_true,cond_false,List.nil_append,List.append_nil,List.cons_append,List.length_cons,List.length_nil]<;>omega
theorem sgnI_len(B:Bd)(S:Ps)(M:Mv):(sgnI B S M).length<=1:=by
 unfold sgnI;cases hasTag M 16<;>cases (statV (updB B M) (nextPs B S M)==1)<;>simp only [cond_true,cond_false,List.length_cons,List.length_nil]<;>omega
def capT(B:Bd)(M:Mv)(n:Int):List UInt8:=bif hasTag M 4||hasTag M 8 then (bif (pType (pieceAt B M.s1)==6)&&(n==0) then [fileB (sqFile M.s1)] else [])++[120] else []
theorem bif_len(c:Bool)(x:UInt8):(bif c then [x] else []).length<=1:=by cases c<;>simp
theorem capT_len(B:Bd)(M:Mv)(n:Int):(capT B M n).length<=2:=by
 unfold capT;cases (hasTag M 4||hasTag M 8)<;>cases ((pType (pieceAt B M.s1)==6)&&(n==0))<;>simp only [cond_true,cond_false,List.nil_append,List.append_nil,List.cons_append,List.length_cons,List.length_nil]<;>omega
def promT(M:Mv):List UInt8:=bif M.promo !=0 then [61]++letB M.promo else []
theorem promT_len(M:Mv):(promT M).length<=2:=by
 unfold promT;cases (M.promo !=0)
 ·simp only [cond_false,List.length_nil];omega
 have:=letB_len M.promo;simp only [cond_true,List.length_append,List.length_cons,List.length_nil];omega
def bodyI(B:Bd)(l:List Mv)(M:Mv):List UInt8:=
 bif hasTag M 1 then [79,45,79] else bif hasTag M 2 then [79,45,79,45,79] else
 (((([]++letB (pType (pieceAt B M.s1)))++formI B l M)++capT B M (((([]++letB (pType (pieceAt B M.s1)))++formI B l M).length:Nat):Int))++sqBytes M.s2)++promT M
def encI(B:Bd)(S:Ps)(l:List Mv)(M:Mv):List UInt8:=bodyI B l M++sgnI B S M
def capL(M:Mv):List UInt8:=bif hasTag M 4||hasTag M 8 then [120] else []
def lanI(B:Bd)(S:Ps)(M:Mv):List UInt8:=
 bif hasTag M 1 then [79,45,79]++sgnI B S M else bif hasTag M 2 then [79,45,79,45,79]++sgnI B S M else
 ((((letB (pType (pieceAt B M.s1))++sqBytes M.s1)++capL M)++sqBytes M.s2)++eqB (letB M.promo))++sgnI B S M
theorem eqB_len(k:Int):(eqB (letB k)).length<=2:=by
 have:=letB_len k;unfold eqB;split
 ·simp
 simp only [List.length_cons];omega
theorem c176{c:GC}{p b g cap:Nat}{S:Ps}{B:Bd}{w:World}(hp:At w p (.cells (psCells b (.slice (some ⟨g,0,none⟩) (allL B S).length cap) S) 110 (0,0)))(hc:Own w 0 98 11 (some ⟨g,0,none⟩) (allL B S).length cap (mvsL (allL B S)))(hb:At w b (.cells (bdCells B) 135 (0,0))){m:Nat}{pos:Value}{M:Mv}(hm:At w m (.cells (mvCells pos M) 98 (0,0)))(hG:Glob c w)(hlen:(allL B S).length<=222)(hpos:0<(allL B S).length)(hup:UpPre B S M):
  CR 176 [.agg (#[]),pz p,pz m] w (.string (bstr (encI B S (allL B S) M))):=by
 have hm0:Mod [] w w:=Mod.refl _ _;refine en func176 ntmps176 ?_;refine zw<|zA (#[]) 89 (some 3) ?_;intro b1 w2 hn3;have hb4:c.base<=b1:=Glob.lt hG hn3;have hb5:=Nat.le_trans hm0.size hn3.base;have hm6:=hn3.mod;have hG11:=Glob.on hG hm6;have hm12:=zt hm0 hm6;refine yS 1<|zx<|yS 2<|zk (some 14) (c182 (S:=S) (M:=M) (yA w2 p) (yA w2 b) (yA w2 m) hG11 hup) ?_;intro w14 hm15;have hG21:=Glob.on hG11 hm15;have hm22:=zt hm12 hm15;refine yS 1<|zz<|w_seq<|zw<|yS 1<|zk (some 16) (c74 (yA w14 m) 1) ?_;intro w23 hm24;have hG30:=Glob.on hG21 hm24;have hm31:=zt hm22 hm24;refine zz<|zc (λhc32=>?_) λhc32=>?_
 ·refine zw<|yO 3 [.prop (((⟨#[79,45,79]⟩:ByteArray).size+(bstr (sgnI B S M)).size:Nat)<=9223372036854775807)] (zh (by first|omega|assumption|exact wrapu8_pos _|exact wrapu_pos _|decide|(have e1:(⟨#[79,45,79]⟩:ByteArray).size=3:=rfl;have e2:(⟨#[79,45,79,45,79]⟩:ByteArray).size=5:=rfl;have e3:(⟨#[120]⟩:ByteArray).size=1:=rfl;have h1:=letB_len (pType (pieceAt B M.s1));have h2:=eqB_len M.promo;have h3:(capL M).length<=1:=(by unfold capL;cases (hasTag M 4||hasTag M 8)<;>simp);have h6:=sgnI_len B S M;simp only [ByteArray.size_append,bstr_size,List.length_append,List.length_cons,List.length_nil,sqBytes] at*;omega))) ?_;exact zz<|w_ret<|r_then<|y1 (⟨ret_str (by simp only [encI,bodyI,hc32,cond_true];exact bstr_append [79,45,79] _),hm31⟩)
 refine w_skip<|n_then<|w_seq<|zw<|yS 1<|zk (some 20) (c74 (yA w23 m) 2) ?_;intro w33 hm34;have hG40:=Glob.on hG30 hm34;have hm41:=zt hm31 hm34;refine zz<|zc (λhc42=>?_) λhc42=>?_
 ·refine zw<|yO 3 [.prop (((⟨#[79,45,79,45,79]⟩:ByteArray).size+(bstr (sgnI B S M)).size:Nat)<=9223372036854775807)] (zh (by first|omega|assumption|exact wrapu8_pos _|exact wrapu_pos _|decide|(have e1:(⟨#[79,45,79]⟩:ByteArray).size=3:=rfl;have e2:(⟨#[79,45,79,45,79]⟩:ByteArray).size=5:=rfl;have e3:(⟨#[120]⟩:ByteArray).size=1:=rfl;have h1:=letB_len (pType (pieceAt B M.s1));have h2:=eqB_len M.promo;have h3:(capL M).length<=1:=(by unfold capL;cases (hasTag M 4||hasTag M 8)<;>simp);have h6:=sgnI_len B S M;simp only [ByteArray.size_append,bstr_size,List.length_append,List.length_cons,List.length_nil,sqBytes] at*;omega))) ?_;exact zz<|w_ret<|r_then<|y1 (v:=.string ((⟨#[79,45,79,45,79]⟩:ByteArray)++(bstr (sgnI B S M)))) (⟨ret_str (by simp only [encI,bodyI,hc32,hc42,cond_true,cond_false];exact bstr_append [79,45,79,45,79] _),hm41⟩)
 refine w_skip<|zn<|zA (#[.pointer none,.slice none 0 0]) 150 (some 23) ?_;intro b43 w44 hn45;have hb46:c.base<=b43:=Glob.lt hG40 hn45;have hb47:=Nat.le_trans hm41.size hn45.base;refine yS 1<|zx<|yS 1<|reg_call 183 [pz b43] (some 25) (by kernel_rfl) (c183 ya) ?_;rintro _ w57 ⟨rfl,hm58,hf59⟩;refine ⟨_,rfl,?_⟩;refine ze ?_;have hbl67:Bld w.heap.size b43 [] w57:=Bld.new hf59 (by omega);refine zn<|yS 1<|zk (some 27) (c62 (yA w57 p)) ?_;intro w68 hm69;have he74:=Bld.on hbl67 hm69;refine yS 1<|zk (some 29) (c58 (yA w68 m)) ?_;intro w78 hm79;have he84:=Bld.on he74 hm79;refine zk (some 30) (c72 (yA w78 b) (yG w78) M.s1) ?_;intro w88 hm89;have he94:=Bld.on he84 hm89;refine yS 1<|zz<|w_cut (γ:=Unit) (λ_=>[(1,pz p),(2,pz m),(8,pz b43),(9,.int .i8 (pieceAt B M.s1))]) (λ_ w_=>Mod [] w w_/\Bld w.heap.size b43 ([]++letB (pType (pieceAt B M.s1))) w_) ?_ ?_
 ·refine zw<|yS 1<|zk (some 32) (c73 (pieceAt B M.s1) w88) ?_;intro w101 hm102;have he107:=Bld.on he94 hm102;refine zk (some 33) (c184 (pType (pieceAt B M.s1))) ?_;intro w111 hm112;have he117:=Bld.on he107 hm112;refine yS 1<|zx<|yS 2<|zz<|yC (!((bstr (letB (pType (pieceAt B M.s1)))).toList==(⟨#[]⟩:ByteArray).toList)) (λhc121=>?_) λhc121=>?_
  ·refine w_region<|yS 2<|zC (some 38) (cWS (t:=(letB (pType (pieceAt B M.s1)))) yt he117 (by have h1:=letB_len (pType (pieceAt B M.s1));have h2:=formI_len B (allL B S) M;have h3:=capT_len B M ((((([]++letB (pType (pieceAt B M.s1)))++formI B (allL B S) M)).length:Nat):Int);have h4:=promT_len M;have h5:=letB_len M.promo;have h6:=sgnI_len B S M;have h7:=bif_len ((pType (pieceAt B M.s1)==6)&&(((((([]++letB (pType (pieceAt B M.s1)))++formI B (allL B S) M)).length:Nat):Int)==0)) (fileB (sqFile M.s1));simp only [List.length_append,List.length_cons,List.length_nil,sqBytes] at*;omega)) ?_;rintro _ w122 ⟨rfl,hm123,hbl124⟩;refine ⟨_,rfl,?_⟩;exact ze<|zb () ⟨hm123,Bld.cast hbl124 rfl⟩
  exact w_skip<|zb () ⟨yt,Bld.cast he117 (by rw [bstr_none hc121,List.append_nil])⟩
 rintro _ w98 ⟨hm99,hbl100⟩;refine w_cut (γ:=Unit) (λ_=>[(1,pz p),(2,pz m),(8,pz b43),(9,.int .i8 (pieceAt B M.s1))]) (λ_ w_=>Mod [] w w_/\Bld w.heap.size b43 (([]++letB (pType (pieceAt B M.s1)))++formI B (allL B S) M) w_) ?_ ?_
 ·refine zw<|yS 2<|zk (some 41) (c185 (S:=S) (M:=M) (yA w98 p) yo (yA w98 b) (yA w98 m) (yG w98) hlen hpos hup.hs) ?_;intro w138 hm139;have he143:=Bld.on hbl100 hm139;refine yS 1<|zx<|yS 2<|zz<|yC (!((bstr (formI B (allL B S) M)).toList==(⟨#[]⟩:ByteArray).toList)) (λhc147=>?_) λhc147=>?_
  ·refine w_region<|yS 2<|zC (some 46) (cWS (t:=(formI B (allL B S) M)) yt he143 (by have h1:=letB_len (pType (pieceAt B M.s1));have h2:=formI_len B (allL B S) M;have h3:=capT_len B M ((((([]++letB (pType (pieceAt B M.s1)))++formI B (allL B S) M)).length:Nat):Int);have h4:=promT_len M;have h5:=letB_len M.promo;have h6:=sgnI_len B S M;have h7:=bif_len ((pType (pieceAt B M.s1)==6)&&(((((([]++letB (pType (pieceAt B M.s1)))++formI B (allL B S) M)).length:Nat):Int)==0)) (fileB (sqFile M.s1));simp only [List.length_append,List.length_cons,List.length_nil,sqBytes] at*;omega)) ?_;rintro _ w148 ⟨rfl,hm149,hbl150⟩;refine ⟨_,rfl,?_⟩;exact ze<|zb () ⟨hm149,Bld.cast hbl150 rfl⟩
  exact w_skip<|zb () ⟨yt,Bld.cast he143 (by rw [bstr_none hc147,List.append_nil])⟩
 rintro _ w135 ⟨hm136,hbl137⟩;refine w_cut (γ:=Unit) (λ_=>[(1,pz p),(2,pz m),(8,pz b43)]) (λ_ w_=>Mod [] w w_/\Bld w.heap.size b43 ((([]++letB (pType (pieceAt B M.s1)))++formI B (allL B S) M)++capT B M ((((([]++letB (pType (pieceAt B M.s1)))++formI B (allL B S) M)).length:Nat):Int)) w_) ?_ ?_
 ·refine w_cut (γ:=Unit) (λ_=>[(1,pz p),(2,pz m),(8,pz b43),(9,.int .i8 (pieceAt B M.s1)),(52,.bool ((hasTag M 4)||(hasTag M 8)))]) (λ_ w_=>Mod [] w135 w_) ?_ ?_
  ·refine w_region<|yS 1<|zk (some 48) (c74 (yA w135 m) 4) ?_;intro w167 hm168;have he172:=Bld.on hbl137 hm168;refine yS 1<|yE 49 (.bool (hasTag M 4)) ?_;cases hc176:(hasTag M 4)
   ·refine yS 1<|zk (some 51) (c74 (yA w167 m) 8) ?_;intro w177 hm178;have he182:=Bld.on he172 hm178;exact yS 1<|ze<|zb () yt
   exact yS 3<|ze<|zb () yt
  intro _ w164 hm165;have he189:=Bld.on hbl137 hm165;have hm192:=zt hm136 hm165;refine yC ((hasTag M 4)||(hasTag M 8)) (λhc193=>?_) λhc193=>?_
  ·refine w_cut (γ:=Unit) (λ_=>[(1,pz p),(2,pz m),(8,pz b43)]) (λ_ w_=>Mod [] w w_/\Bld w.heap.size b43 ((([]++letB (pType (pieceAt B M.s1)))++formI B (allL B S) M)++(bif (pType (pieceAt B M.s1)==6)&&(((((([]++letB (pType (pieceAt B M.s1)))++formI B (allL B S) M)).length:Nat):Int)==0) then [fileB (sqFile M.s1)] else [])) w_) ?_ ?_
   ·refine w_cut (γ:=Unit) (λ_=>[(1,pz p),(2,pz m),(8,pz b43),(60,.bool (((pType (pieceAt B M.s1))==6)&&(((((([]++letB (pType (pieceAt B M.s1)))++formI B (allL B S) M)).length:Nat):Int)==0)))]) (λ_ w_=>Mod [] w164 w_) ?_ ?_
    ·refine w_region<|yS 1<|zk (some 54) (c73 (pieceAt B M.s1) w164) ?_;intro w200 hm201;have he205:=Bld.on he189 hm201;refine yS 2<|yE 56 (.bool ((pType (pieceAt B M.s1))==6)) ?_;cases hc209:((pType (pieceAt B M.s1))==6)
     ·exact yS 4<|ze<|zb () yt
     refine yS 1<|zk (some 58) (cBL he205) ?_;intro w210 hm211;have he215:=Bld.on he205 hm211;exact yS 2<|ze<|zb () yt
    intro _ w197 hm198;have he222:=Bld.on he189 hm198;have hm225:=zt hm192 hm198;refine yC (((pType (pieceAt B M.s1))==6)&&(((((([]++letB (pType (pieceAt B M.s1)))++formI B (allL B S) M)).length:Nat):Int)==0)) (λhc226=>?_) λhc226=>?_
    ·refine w_region<|yL 5 m 8<|zk (some 66) (c133 M.s1 w197) ?_;intro w227 hm228;have he232:=Bld.on he222 hm228;have hm235:=zt hm225 hm228;refine zk (some 67) (c187 (sqFile M.s1) (file_ok hup.hs)) ?_;intro w236 hm237;have he241:=Bld.on he232 hm237;have hm244:=zt hm235 hm237;refine zC (some 68) (cWS (t:=[fileB (sqFile M.s1)]) hm244 he241 (by have h1:=letB_len (pType (pieceAt B M.s1));have h2:=formI_len B (allL B S) M;have h3:=capT_len B M ((((([]++letB (pType (pieceAt B M.s1)))++formI B (allL B S) M)).length:Nat):Int);have h4:=promT_len M;have h5:=letB_len M.promo;have h6:=sgnI_len B S M;have h7:=bif_len ((pType (pieceAt B M.s1)==6)&&(((((([]++letB (pType (pieceAt B M.s1)))++formI B (allL B S) M)).length:Nat):Int)==0)) (fileB (sqFile M.s1));simp only [List.length_append,List.length_cons,List.length_nil,sqBytes] at*;omega)) ?_;rintro _ w245 ⟨rfl,hm246,hbl247⟩;refine ⟨_,rfl,?_⟩;exact ze<|zb () ⟨hm246,Bld.cast hbl247 (by (try simp only [capT,promT,hc226,cond_true,cond_false,Bool.true_or,Bool.or_true]);(try simp only [List.append_nil,List.nil_append,List.append_assoc]);try rfl)⟩
    exact w_skip<|zb () ⟨hm225,Bld.cast he222 (by (try simp only [capT,promT,hc226,cond_true,cond_false,Bool.true_or,Bool.or_true]);(try simp only [List.append_nil,List.nil_append,List.append_assoc]);try rfl)⟩
   rintro _ w194 ⟨hm195,hbl196⟩;refine w_region<|yS 1<|zC (some 70) (cWS (t:=[120]) hm195 hbl196 (by have h1:=letB_len (pType (pieceAt B M.s1));have h2:=formI_len B (allL B S) M;have h3:=capT_len B M ((((([]++letB (pType (pieceAt B M.s1)))++formI B (allL B S) M)).length:Nat):Int);have h4:=promT_len M;have h5:=letB_len M.promo;have h6:=sgnI_len B S M;have h7:=bif_len ((pType (pieceAt B M.s1)==6)&&(((((([]++letB (pType (pieceAt B M.s1)))++formI B (allL B S) M)).length:Nat):Int)==0)) (fileB (sqFile M.s1));simp only [List.length_append,List.length_cons,List.length_nil,sqBytes] at*;omega)) ?_;rintro _ w258 ⟨rfl,hm259,hbl260⟩;refine ⟨_,rfl,?_⟩;exact ze<|zb () ⟨hm259,Bld.cast hbl260 (by (try simp only [capT,promT,hc193,cond_true,cond_false,Bool.true_or,Bool.or_true]);(try simp only [List.append_nil,List.nil_append,List.append_assoc]);try rfl)⟩
  exact w_skip<|zb () ⟨hm192,Bld.cast he189 (by (try simp only [capT,promT,hc193,cond_true,cond_false,Bool.true_or,Bool.or_true]);(try simp only [List.append_nil,List.nil_append,List.append_assoc]);try rfl)⟩
 rintro _ w161 ⟨hm162,hbl163⟩;have hf268:=At.on hm hm162;refine zw<|yL 5 m 9<|zk (some 76) (c174 M.s2 (by first|exact hup.hs|exact hup.hs2)) ?_;intro w271 hm272;have he276:=Bld.on hbl163 hm272;have hm279:=zt hm162 hm272;refine zC (some 77) (cWS (t:=(sqBytes M.s2)) hm279 he276 (by have h1:=letB_len (pType (pieceAt B M.s1));have h2:=formI_len B (allL B S) M;have h3:=capT_len B M ((((([]++letB (pType (pieceAt B M.s1)))++formI B (allL B S) M)).length:Nat):Int);have h4:=promT_len M;have h5:=letB_len M.promo;have h6:=sgnI_len B S M;have h7:=bif_len ((pType (pieceAt B M.s1)==6)&&(((((([]++letB (pType (pieceAt B M.s1)))++formI B (allL B S) M)).length:Nat):Int)==0)) (fileB (sqFile M.s1));simp only [List.length_append,List.length_cons,List.length_nil,sqBytes] at*;omega)) ?_;rintro _ w280 ⟨rfl,hm281,hbl282⟩;refine ⟨_,rfl,?_⟩;have hf285:=At.on hm hm281;refine zz<|w_cut (γ:=Unit) (λ_=>[(1,pz p),(2,pz m),(8,pz b43)]) (λ_ w_=>Mod [] w w_/\Bld w.heap.size b43 ((((([]++letB (pType (pieceAt B M.s1)))++formI B (allL B S) M)++capT B M ((((([]++letB (pType (pieceAt B M.s1)))++formI B (allL B S) M)).length:Nat):Int))++sqBytes M.s2)++promT M) w_) ?_ ?_
 ·refine zw<|yL 5 m 10<|zz<|yC (M.promo !=0) (λhc291=>?_) λhc291=>?_
  ·refine zw<|yS 1<|zC (some 84) (cWS (t:=[61]) hm281 hbl282 (by have h1:=letB_len (pType (pieceAt B M.s1));have h2:=formI_len B (allL B S) M;have h3:=capT_len B M ((((([]++letB (pType (pieceAt B M.s1)))++formI B (allL B S) M)).length:Nat):Int);have h4:=promT_len M;have h5:=letB_len M.promo;have h6:=sgnI_len B S M;have h7:=bif_len ((pType (pieceAt B M.s1)==6)&&(((((([]++letB (pType (pieceAt B M.s1)))++formI B (allL B S) M)).length:Nat):Int)==0)) (fileB (sqFile M.s1));simp only [List.length_append,List.length_cons,List.length_nil,sqBytes] at*;omega)) ?_;rintro _ w292 ⟨rfl,hm293,hbl294⟩;refine ⟨_,rfl,?_⟩;have hf297:=At.on hm hm293;refine zz<|w_region<|yL 5 m 10<|zk (some 90) (c184 M.promo) ?_;intro w300 hm301;have he305:=Bld.on hbl294 hm301;have hm308:=zt hm293 hm301;refine zC (some 91) (cWS (t:=(letB M.promo)) hm308 he305 (by have h1:=letB_len (pType (pieceAt B M.s1));have h2:=formI_len B (allL B S) M;have h3:=capT_len B M ((((([]++letB (pType (pieceAt B M.s1)))++formI B (allL B S) M)).length:Nat):Int);have h4:=promT_len M;have h5:=letB_len M.promo;have h6:=sgnI_len B S M;have h7:=bif_len ((pType (pieceAt B M.s1)==6)&&(((((([]++letB (pType (pieceAt B M.s1)))++formI B (allL B S) M)).length:Nat):Int)==0)) (fileB (sqFile M.s1));simp only [List.length_append,List.length_cons,List.length_nil,sqBytes] at*;omega)) ?_;rintro _ w309 ⟨rfl,hm310,hbl311⟩;refine ⟨_,rfl,?_⟩;exact ze<|zb () ⟨hm310,Bld.cast hbl311 (by (try simp only [capT,promT,hc291,cond_true,cond_false,Bool.true_or,Bool.or_true]);(try simp only [List.append_nil,List.nil_append,List.append_assoc]);try rfl)⟩
  exact w_skip<|zb () ⟨hm281,Bld.cast hbl282 (by (try simp only [capT,promT,hc291,cond_true,cond_false,Bool.true_or,Bool.or_true]);(try simp only [List.append_nil,List.nil_append,List.append_assoc]);try rfl)⟩
 rintro _ w288 ⟨hm289,hbl290⟩;have hf317:=At.on hp hm289;have hf318:=At.on hb hm289;have hf319:=At.on hm hm289;have hG320:=Glob.on hG hm289;refine zw<|yS 3<|zk (some 95) (c182 (S:=S) (M:=M) hf317 hf318 hf319 hG320 hup) ?_;intro w322 hm323;have he327:=Bld.on hbl290 hm323;have hm330:=zt hm289 hm323;refine zC (some 96) (cWS (t:=(sgnI B S M)) hm330 he327 (by have h1:=letB_len (pType (pieceAt B M.s1));have h2:=formI_len B (allL B S) M;have h3:=capT_len B M ((((([]++letB (pType (pieceAt B M.s1)))++formI B (allL B S) M)).length:Nat):Int);have h4:=promT_len M;have h5:=letB_len M.promo;have h6:=sgnI_len B S M;have h7:=bif_len ((pType (pieceAt B M.s1)==6)&&(((((([]++letB (pType (pieceAt B M.s1)))++formI B (allL B S) M)).length:Nat):Int)==0)) (fileB (sqFile M.s1));simp only [List.length_append,List.length_cons,List.length_nil,sqBytes] at*;omega)) ?_;rintro _ w331 ⟨rfl,hm332,hbl333⟩;refine ⟨_,rfl,?_⟩;refine zx<|yS 1<|zC (some 98) (cBS hm332 hbl333) ?_;rintro _ w339 ⟨rfl,hm340,hbl341⟩;refine ⟨_,rfl,?_⟩;exact yS 1<|zz<|w_ret<|y1 (v:=.string (bstr (((((([]++letB (pType (pieceAt B M.s1)))++formI B (allL B S) M)++capT B M ((((([]++letB (pType (pieceAt B M.s1)))++formI B (allL B S) M)).length:Nat):Int))++sqBytes M.s2)++promT M)++(sgnI B S M)))) (⟨ret_str (by simp only [encI,bodyI,hc32,hc42,cond_false]),hm340⟩)
theorem c197{c:GC}{p b g cap:Nat}{S:Ps}{B:Bd}{w:World}(hp:At w p (.cells (psCells b (.slice (some ⟨g,0,none⟩) (allL B S).length cap) S) 110 (0,0)))(hc:Own w 0 98 11 (some ⟨g,0,none⟩) (allL B S).length cap (mvsL (allL B S)))(hb:At w b (.cells (bdCells B) 135 (0,0))){m:Nat}{pos:Value}{M:Mv}(hm:At w m (.cells (mvCells pos M) 98 (0,0)))(hG:Glob c w)(hlen:(allL B S).length<=222)(hpos:0<(allL B S).length)(hup:UpPre B S M):
  CR 197 [.agg (#[]),pz p,pz m] w (.string (bstr (lanI B S M))):=by
 refine en func197 ntmps197 ?_;refine zw<|zA (#[]) 90 (some 3) fun b1 w2 hn3=>yS 1<|zx<|yS 2<|zk (some 15) (c182 (S:=S) (M:=M) (yA w2 p) (yA w2 b) (yA w2 m) (yG w2) hup) fun w14 hm15=>yS 1<|zz<|w_seq<|zw<|yS 1<|zk (some 17) (c74 (yA w14 m) 1) fun w23 hm24=>zz<|zc (λhc32=>?_) λhc32=>?_
 ·refine zw<|yO 3 [.prop (((⟨#[79,45,79]⟩:ByteArray).size+(bstr (sgnI B S M)).size:Nat)<=9223372036854775807)] (zh (by first|omega|assumption|exact wrapu8_pos _|exact wrapu_pos _|decide|(have e1:(⟨#[79,45,79]⟩:ByteArray).size=3:=rfl;have e2:(⟨#[79,45,79,45,79]⟩:ByteArray).size=5:=rfl;have e3:(⟨#[120]⟩:ByteArray).size=1:=rfl;have h1:=letB_len (pType (pieceAt B M.s1));have h2:=eqB_len M.promo;have h3:(capL M).length<=1:=(by unfold capL;cases (hasTag M 4||hasTag M 8)<;>simp);have h6:=sgnI_len B S M;simp only [ByteArray.size_append,bstr_size,List.length_append,List.length_cons,List.length_nil,sqBytes] at*;omega))) ?_;exact zz<|w_ret<|r_then<|y1 (⟨ret_str (by simp only [lanI,hc32,cond_true];exact bstr_append [79,45,79] _),yt⟩)
 refine zw<|yS 1<|zk (some 21) (c74 (yA w23 m) 2) fun w33 hm34=>zz<|zc (λhc42=>?_) λhc42=>?_
 ·refine zw<|yO 3 [.prop (((⟨#[79,45,79,45,79]⟩:ByteArray).size+(bstr (sgnI B S M)).size:Nat)<=9223372036854775807)] (zh (by first|omega|assumption|exact wrapu8_pos _|exact wrapu_pos _|decide|(have e1:(⟨#[79,45,79]⟩:ByteArray).size=3:=rfl;have e2:(⟨#[79,45,79,45,79]⟩:ByteArray).size=5:=rfl;have e3:(⟨#[120]⟩:ByteArray).size=1:=rfl;have h1:=letB_len (pType (pieceAt B M.s1));have h2:=eqB_len M.promo;have h3:(capL M).length<=1:=(by unfold capL;cases (hasTag M 4||hasTag M 8)<;>simp);have h6:=sgnI_len B S M;simp only [ByteArray.size_append,bstr_size,List.length_append,List.length_cons,List.length_nil,sqBytes] at*;omega))) ?_;exact zz<|w_ret<|r_then<|y1 (v:=.string ((⟨#[79,45,79,45,79]⟩:ByteArray)++(bstr (sgnI B S M)))) (⟨ret_str (by simp only [lanI,hc32,hc42,cond_true,cond_false];exact bstr_append [79,45,79,45,79] _),yt⟩)
 refine w_skip<|zn<|yS 1<|zk (some 25) (c62 (yA w33 p)) fun w43 hm44=>yS 1<|zk (some 27) (c58 (yA w43 m)) fun w52 hm53=>zk (some 28) (c72 (yA w52 b) (yG w52) M.s1) fun w61 hm62=>yS 1<|zx<|yS 1<|zk (some 30) (c73 (pieceAt B M.s1) w61) fun w70 hm71=>zk (some 31) (c184 (pType (pieceAt B M.s1))) fun w79 hm80=>yS 1<|zx<|yL 4 m 8<|zk (some 36) (c174 M.s1 (by first|exact hup.hs|exact hup.hs2)) fun w88 hm89=>yS 1<|zx<|yS 1<|zz<|w_cut (γ:=ByteArray) (λg97=>[(2,pz m),(7,.string (bstr (sgnI B S M))),(9,.string (bstr (letB (pType (pieceAt B M.s1))))),(10,.string (bstr (sqBytes M.s1))),(11,.string g97)]) (λg97 w_=>Mod [] w88 w_/\g97=(bstr (capL M))) ?_ ?_
 ·refine w_cut (γ:=Unit) (λ_=>[(2,pz m),(7,.string (bstr (sgnI B S M))),(8,.int .i8 (pieceAt B M.s1)),(9,.string (bstr (letB (pType (pieceAt B M.s1))))),(10,.string (bstr (sqBytes M.s1))),(11,.string (⟨#[]⟩)),(42,.bool ((hasTag M 4)||(hasTag M 8)))]) (λ_ w_=>Mod [] w88 w_) ?_ ?_
  ·refine w_region<|yS 1<|zk (some 38) (c74 (yA w88 m) 4) fun w104 hm105=>yS 1<|yE 39 (.bool (hasTag M 4)) ?_;cases hc114:(hasTag M 4)
   ·exact yS 1<|zk (some 41) (c74 (yA w104 m) 8) fun w115 hm116=>yS 1<|ze<|zb () yt
   exact yS 3<|ze<|zb () yt
  intro _ w101 hm102;refine yC ((hasTag M 4)||(hasTag M 8)) (λhc133=>?_) λhc133=>?_
  ·refine zw<|yS 1<|zz<|w_cut (γ:=Unit) (λ_=>[(2,pz m),(7,.string (bstr (sgnI B S M))),(9,.string (bstr (letB (pType (pieceAt B M.s1))))),(10,.string (bstr (sqBytes M.s1))),(11,.string (⟨#[120]⟩)),(49,.bool (((pType (pieceAt B M.s1))==6)&&((bstr (sqBytes M.s1)).toList==(⟨#[]⟩:ByteArray).toList)))]) (λ_ w_=>Mod [] w101 w_) ?_ ?_
   ·refine w_region<|yS 1<|zk (some 44) (c73 (pieceAt B M.s1) w101) fun w137 hm138=>yS 2<|yE 46 (.bool ((pType (pieceAt B M.s1))==6)) ?_;cases hc147:((pType (pieceAt B M.s1))==6)
    ·exact yS 3<|ze<|zb () yt
    exact yS 3<|ze<|zb () yt
   intro _ w134 hm135;have hc156:(((pType (pieceAt B M.s1))==6)&&((bstr (sqBytes M.s1)).toList==(⟨#[]⟩:ByteArray).toList))=false:=(by rw [bstr_toList,nil_toList,show ((sqBytes M.s1)==([]:List UInt8))=false from rfl,Bool.and_false]);refine w_cond (b:=(((pType (pieceAt B M.s1))==6)&&((bstr (sqBytes M.s1)).toList==(⟨#[]⟩:ByteArray).toList))) (by kernel_rfl) (λhx=>absurd (hc156.symm.trans hx) (by decide)) (λ_=>?_);exact w_skip<|zb (⟨#[120]⟩) ⟨yt,(by simp only [capL,hc133,hc156,cond_true,cond_false];rfl)⟩
  exact w_skip<|zb (⟨#[]⟩) ⟨yt,(by simp only [capL,hc133,cond_true,cond_false];rfl)⟩
 rintro _ w98 ⟨hm99,rfl⟩;refine zw<|yL 4 m 10<|zk (some 61) (c199 M.promo) fun w164 hm165=>yS 1<|zx<|yO 9 [.prop (((bstr (letB (pType (pieceAt B M.s1)))).size+(bstr (sqBytes M.s1)).size:Nat)<=9223372036854775807),.prop ((((bstr (letB (pType (pieceAt B M.s1))))++(bstr (sqBytes M.s1))).size+(bstr (capL M)).size:Nat)<=9223372036854775807),.cell ⟨m,9,none⟩ (.int .i8 M.s2)] (⟨(zh (by first|omega|assumption|exact wrapu8_pos _|exact wrapu_pos _|decide|(have e1:(⟨#[79,45,79]⟩:ByteArray).size=3:=rfl;have e2:(⟨#[79,45,79,45,79]⟩:ByteArray).size=5:=rfl;have e3:(⟨#[120]⟩:ByteArray).size=1:=rfl;have h1:=letB_len (pType (pieceAt B M.s1));have h2:=eqB_len M.promo;have h3:(capL M).length<=1:=(by unfold capL;cases (hasTag M 4||hasTag M 8)<;>simp);have h6:=sgnI_len B S M;simp only [ByteArray.size_append,bstr_size,List.length_append,List.length_cons,List.length_nil,sqBytes] at*;omega))),(zh (by first|omega|assumption|exact wrapu8_pos _|exact wrapu_pos _|decide|(have e1:(⟨#[79,45,79]⟩:ByteArray).size=3:=rfl;have e2:(⟨#[79,45,79,45,79]⟩:ByteArray).size=5:=rfl;have e3:(⟨#[120]⟩:ByteArray).size=1:=rfl;have h1:=letB_len (pType (pieceAt B M.s1));have h2:=eqB_len M.promo;have h3:(capL M).length<=1:=(by unfold capL;cases (hasTag M 4||hasTag M 8)<;>simp);have h6:=sgnI_len B S M;simp only [ByteArray.size_append,bstr_size,List.length_append,List.length_cons,List.length_nil,sqBytes] at*;omega))),yc rfl⟩) ?_;refine zk (some 71) (c174 M.s2 (by first|exact hup.hs|exact hup.hs2)) fun w173 hm174=>yO 6 [.prop (((((bstr (letB (pType (pieceAt B M.s1))))++(bstr (sqBytes M.s1)))++(bstr (capL M))).size+(bstr (sqBytes M.s2)).size:Nat)<=9223372036854775807),.prop ((((((bstr (letB (pType (pieceAt B M.s1))))++(bstr (sqBytes M.s1)))++(bstr (capL M)))++(bstr (sqBytes M.s2))).size+(bstr (eqB (letB M.promo))).size:Nat)<=9223372036854775807),.prop (((((((bstr (letB (pType (pieceAt B M.s1))))++(bstr (sqBytes M.s1)))++(bstr (capL M)))++(bstr (sqBytes M.s2)))++(bstr (eqB (letB M.promo)))).size+(bstr (sgnI B S M)).size:Nat)<=9223372036854775807)] (⟨(zh (by first|omega|assumption|exact wrapu8_pos _|exact wrapu_pos _|decide|(have e1:(⟨#[79,45,79]⟩:ByteArray).size=3:=rfl;have e2:(⟨#[79,45,79,45,79]⟩:ByteArray).size=5:=rfl;have e3:(⟨#[120]⟩:ByteArray).size=1:=rfl;have h1:=letB_len (pType (pieceAt B M.s1));have h2:=eqB_len M.promo;have h3:(capL M).length<=1:=(by unfold capL;cases (hasTag M 4||hasTag M 8)<;>simp);have h6:=sgnI_len B S M;simp only [ByteArray.size_append,bstr_size,List.length_append,List.length_cons,List.length_nil,sqBytes] at*;omega))),(zh (by first|omega|assumption|exact wrapu8_pos _|exact wrapu_pos _|decide|(have e1:(⟨#[79,45,79]⟩:ByteArray).size=3:=rfl;have e2:(⟨#[79,45,79,45,79]⟩:ByteArray).size=5:=rfl;have e3:(⟨#[120]⟩:ByteArray).size=1:=rfl;have h1:=letB_len (pType (pieceAt B M.s1));have h2:=eqB_len M.promo;have h3:(capL M).length<=1:=(by unfold capL;cases (hasTag M 4||hasTag M 8)<;>simp);have h6:=sgnI_len B S M;simp only [ByteArray.size_append,bstr_size,List.length_append,List.length_cons,List.length_nil,sqBytes] at*;omega))),(zh (by first|omega|assumption|exact wrapu8_pos _|exact wrapu_pos _|decide|(have e1:(⟨#[79,45,79]⟩:ByteArray).size=3:=rfl;have e2:(⟨#[79,45,79,45,79]⟩:ByteArray).size=5:=rfl;have e3:(⟨#[120]⟩:ByteArray).size=1:=rfl;have h1:=letB_len (pType (pieceAt B M.s1));have h2:=eqB_len M.promo;have h3:(capL M).length<=1:=(by unfold capL;cases (hasTag M 4||hasTag M 8)<;>simp);have h6:=sgnI_len B S M;simp only [ByteArray.size_append,bstr_size,List.length_append,List.length_cons,List.length_nil,sqBytes] at*;omega)))⟩) ?_
 exact zz<|w_ret<|y1 (v:=.string ((((((bstr (letB (pType (pieceAt B M.s1))))++(bstr (sqBytes M.s1)))++(bstr (capL M)))++(bstr (sqBytes M.s2)))++(bstr (eqB (letB M.promo))))++(bstr (sgnI B S M)))) (⟨ret_str (by simp only [lanI,hc32,hc42,cond_false,bstr_append]),yt⟩)
def inChkS(bd:Nat->Int)(side:Int):Bool:=(decide (kingAtS bd side>=0))&&(attS bd (kingAtS bd side).toNat (1-side))
def hasS(Q:SP):Bool:=(pseudoL Q).any (okS Q)
theorem leg_any{Q:SP}{l:List Sm}(h:LegalOf Q l)(f:Sm->Bool):l.any f=(pseudoL Q).any λm=>okS Q m&&f m:=by
 rw [Bool.eq_iff_iff,List.any_eq_true,List.any_eq_true];constructor
 ·rintro ⟨m,hm,hf⟩;have:=(h.mem m).1 hm;exact ⟨m,this.1,by rw [this.2,hf];rfl⟩
 ·rintro ⟨m,hm,hf⟩;rw [Bool.and_eq_true] at hf;exact ⟨m,(h.mem m).2 ⟨hm,hf.1⟩,hf.2⟩
theorem leg_none{Q:SP}{l:List Sm}(h:LegalOf Q l):(((l.length:Nat):Int)==0)=!(hasS Q):=by
 have h1:=leg_any h λ_=>true;simp only [Bool.and_true] at h1;unfold hasS;rw [←h1];cases l with
 |nil=>rfl
 |cons a l=>
  rw [show ((a::l).any λ_=>true)=true by simp,Bool.not_true,beq_eq_false_iff_ne];simp only [List.length_cons];omega
def sgnS(P:SP)(f t p:Int):List UInt8:=bif !(inChkS (madeS P f t p).bd (madeS P f t p).turn) then [] else bif !(hasS (madeS P f t p)) then [35] else [43]
theorem sgnS_len(P:SP)(f t p:Int):(sgnS P f t p).length<=1:=by
 unfold sgnS;cases (!(inChkS (madeS P f t p).bd (madeS P f t p).turn))<;>cases (!(hasS (madeS P f t p)))<;>decide
def toldAt(P:SP)(f t p k:Int):Bool:=(!((bstr (sgnS P f t k)).toList==(⟨#[]⟩:ByteArray).toList))&&((bstr (sgnS P f t p)).toList==(⟨#[]⟩:ByteArray).toList)
def castI(bd:Nat->Int)(f t:Int):Int:=bif kindOf (bd f.toNat) !=1 then 0 else bif t-f==2 then 1 else bif t-f==(-2) then 2 else 0
def promS(p:Int):List UInt8:=bif p==0 then [] else [61]++letB p
theorem promS_len(p:Int):(promS p).length<=2:=by
 have:=letB_len p;unfold promS;cases (p==0)
 ·simp only [cond_false,List.length_append,List.length_cons,List.length_nil];omega
 ·simp only [cond_true,List.length_nil];omega
def skpS(bd:Nat->Int)(f t:Int)(x:Sm):Bool:=((x.t !=t)||(x.f==f))||(bd x.f.toNat !=bd f.toNat)
def othS(bd:Nat->Int)(f t:Int)(x:Sm):Bool:=!(skpS bd f t x)
def filS(bd:Nat->Int)(f t:Int)(x:Sm):Bool:=othS bd f t x&&(x.f%8==f%8)
def rnkS(bd:Nat->Int)(f t:Int)(x:Sm):Bool:=othS bd f t x&&(x.f/8==f/8)
def legAny(P:SP)(g:Sm->Bool):Bool:=(pseudoL P).any λm=>okS P m&&g m
def apartS(P:SP)(f t:Int):List UInt8:=bif !(legAny P (othS P.bd f t)) then [] else bif !(legAny P (filS P.bd f t)) then [fB f] else bif !(legAny P (rnkS P.bd f t)) then [rB f] else [fB f,rB f]
theorem apartS_len(P:SP)(f t:Int):(apartS P f t).length<=2:=by
 unfold apartS;cases (!(legAny P (othS P.bd f t)))<;>cases (!(legAny P (filS P.bd f t)))<;>cases (!(legAny P (rnkS P.bd f t)))<;>simp
def takT(bd:Nat->Int)(f t:Int):List UInt8:=bif takesI bd f t then [120] else []
def bodyS(P:SP)(f t p:Int):List UInt8:=
 bif castI P.bd f t==1 then [79,45,79] else bif castI P.bd f t==2 then [79,45,79,45,79] else
 bif kindOf (P.bd f.toNat)==6 then ((bif takesI P.bd f t then [fB f,120] else [])++[fB t,rB t])++promS p
 else ((letB (kindOf (P.bd f.toNat))++apartS P f t)++takT P.bd f t)++[fB t,rB t]
def lanS(P:SP)(f t p:Int):List UInt8:=
 bif decide (castI P.bd f t>0) then bodyS P f t p++sgnS P f t p else ((((letB (kindOf (P.bd f.toNat))++[fB f,rB f])++takT P.bd f t)++[fB t,rB t])++promS p)++sgnS P f t p
theorem castBit_pw:∀n,n<16->∀k,k<4->castBit (n:Nat) k=true->pw2 (k:Nat)<=(n:Nat):=by decide+kernel
theorem left_rng{castle f t:Int}(h:0<=castle/\castle<=15):∀n:Nat,n<=4->0<=leftTo castle f t n/\leftTo castle f t n<=15
 |0,_=>h
 |n+1,hn=>by
  have ih:=left_rng h n (f:=f) (t:=t) (by omega);have e:=leftTo_succ (castle:=castle) (f:=f) (t:=t) (j:=(n:Int)) (by omega);rw [show ((n:Int)+1).toNat=n+1 by omega,show ((n:Int)).toNat=n by omega] at e;rw [e];obtain ⟨q,hq⟩:∃q:Nat,leftTo castle f t n=q:=⟨(leftTo castle f t n).toNat,by omega⟩;cases hc:(castBit (leftTo castle f t n) n&&(((f==homeK n)||(f==homeR n))||(t==homeK n)||(t==homeR n)))
  ·simpa using ih
  ·simp only [cond_true];rw [Bool.and_eq_true] at hc;have h1:=hc.1;rw [hq] at h1 ih⊢;have h2:=castBit_pw q (by omega) n (by omega) h1;have h3:=pw2_rng n;omega
theorem made_castle{P:SP}(h:0<=P.castle/\P.castle<=15)(f t p:Int):0<=(madeS P f t p).castle/\(madeS P f t p).castle<=15:=left_rng h 4 (by decide)
theorem bodyS_len(P:SP)(f t p:Int):(bodyS P f t p).length<=7:=by
 have h1:=letB_len (kindOf (P.bd f.toNat));have h2:=apartS_len P f t;have h3:=promS_len p;unfold bodyS takT;cases (castI P.bd f t==1)<;>cases (castI P.bd f t==2)<;>cases (kindOf (P.bd f.toNat)==6)<;>cases takesI P.bd f t<;>simp only [cond_true,cond_false,List.length_append,List.length_cons,List.length_nil]<;>omega
theorem told_step{P:SP}{f t p g:Int}(h:∀i:Int,2<=i->i<g->toldAt P f t p i=false)(hg:toldAt P f t p g=false):∀i:Int,2<=i->i<g+1->toldAt P f t p i=false:=by
 intro i h0 h1;by_cases e:i=g
 ·subst e;exact hg
 ·exact h i h0 (by omega)
theorem takT_len(bd:Nat->Int)(f t:Int):(takT bd f t).length<=1:=by unfold takT;cases takesI bd f t<;>decide
theorem c84{w:World}(P:SP)(hB:SPb P)(sd:Int)(hs:0<=sd/\sd<=1):
  CR 84 [.agg (spCells P),.int .i64 sd] w (.bool (inChkS P.bd sd)):=by
 have hkr:=king_rng P.bd sd;refine en func84 ntmps84 ?_;refine zw<|zA (spCells P) 24 (some 2) fun b1 w2 hn3=>yS 1<|zx<|yV 2 [.row ⟨b1,0,none⟩ 69 (spCells P)] [.agg (spCells P)] (At.row ya (spCells_size P))<|zk (some 8) (c22 P sd (by omega)) fun w9 hm10=>yS 1<|zz<|w_cut (γ:=Unit) (λ_=>[(4,.bool ((decide ((kingAtS P.bd sd)>=0))&&(attS P.bd (kingAtS P.bd sd).toNat (1-sd))))]) (λ_ w_=>Mod [] w9 w_) ?_ ?_
 ·refine w_region<|yS 3<|yE 11 (.bool (decide ((kingAtS P.bd sd)>=0))) ?_;cases hc17:(decide ((kingAtS P.bd sd)>=0))
  ·have dhc17:=hc17;try simp only [zbq] at dhc17
   exact yS 7<|ze<|zb () yt
  ·have dhc17:=hc17;try simp only [zbq] at dhc17
   exact yV 4 [.row ⟨b1,0,none⟩ 69 (spCells P)] [.agg (spCells P)] (At.row ya (spCells_size P))<|yW 15 (zi (1-sd) (by omega) (by omega))<|zk (some 16) (c23 P hB (kingAtS P.bd sd) (1-sd) (by omega)) fun w18 hm19=>yS 2<|ze<|zb () yt
 intro _ w14 hm15;exact w_ret<|y1 (⟨rfl,yt⟩)
theorem c51{w:World}(P:SP)(hB:SPb P)(hT:0<=P.turn/\P.turn<=1):
  CR 51 [.agg (spCells P)] w (.bool (inChkS P.bd P.turn)):=by
 refine en func51 ntmps51 ?_;exact zw<|zA (spCells P) 24 (some 1) fun b1 w2 hn3=>yS 1<|zx<|yV 3 [.row ⟨b1,0,none⟩ 69 (spCells P),.cell ⟨b1,64,none⟩ (.int .i64 P.turn)] [.agg (spCells P),.int .i64 P.turn] (⟨(At.row ya (spCells_size P)),yc (spCells_64 P)⟩)<|zk (some 6) (c84 P hB P.turn hT) fun w9 hm10=>yS 1<|zz<|w_ret<|y1 (⟨rfl,yt⟩)
theorem c24{w:World}(P:SP)(hB:SPb P)(hT:0<=P.turn/\P.turn<=1)(hc:0<=P.castle/\P.castle<=15)(f t p:Int)(hf:0<=f/\f<=63)(ht:0<=t/\t<=63)(hp:0<=p/\p<=6):
  CR 24 [.agg (spCells P),.agg #[.int .i64 f,.int .i64 t,.int .i64 p]] w (.string (bstr (sgnS P f t p))):=by
 have hBm:SPb (madeS P f t p):=made_b hB hT hf hp;have hTm:0<=(madeS P f t p).turn/\(madeS P f t p).turn<=1:=by show 0<=1-P.turn/\1-P.turn<=1;omega
 have hcm:=made_castle hc f t p;refine en func24 ntmps24 ?_;refine zw<|reg_alloc (spCells P) 24 (some 2) (by kernel_rfl) fun b1 w2 hn3=>reg_alloc (#[.int .i64 f,.int .i64 t,.int .i64 p]) 30 (some 3) (by kernel_rfl) fun b9 w10 hn11=>yS 1<|zx<|yV 2 [.row ⟨b1,0,none⟩ 69 (spCells P),.row ⟨b9,0,none⟩ 3 (#[.int .i64 f,.int .i64 t,.int .i64 p])] [.agg (spCells P),.agg (#[.int .i64 f,.int .i64 t,.int .i64 p])] (⟨(At.row ya (spCells_size P)),At.row ya rfl⟩)<|zk (some 8) (c19 P hB f t p (by omega) (by omega) (by omega) hT hc) fun w18 hm19=>reg_alloc (spCells zeroSP) 24 (some 5) (by kernel_rfl) fun b24 w25 hn26=>reg_store b24 0 (.agg (spCells (madeS P f t p))) none (by kernel_rfl) ya (sp_bound_all zeroSP _) (sp_one (madeS P f t p)) ?_;intro w35 hu36;have hf37:At w35 b24 (.cells (spCells (madeS P f t p)) 24 (0,0)):=at_cast hu36.at_ (congrArg (λA=>Obj.cells A 24 (0,0)) (spStore_all zeroSP (madeS P f t p)));refine zz<|w_seq<|zw<|yV 1 [.row ⟨b24,0,none⟩ 69 (spCells (madeS P f t p))] [.agg (spCells (madeS P f t p))] (At.row hf37 (spCells_size (madeS P f t p)))<|zk (some 10) (c51 (madeS P f t p) hBm hTm) fun w42 hm43=>yS 1<|zz<|w_cond (b:=(!(inChkS (madeS P f t p).bd (madeS P f t p).turn))) (by kernel_rfl) (λhc49=>?_) (λhc49=>?_)
 ·have dhc49:=hc49;try simp only [zbq] at dhc49
  have nhc49:(inChkS (madeS P f t p).bd (madeS P f t p).turn)=false:=by simpa using hc49
  exact zw<|yS 1<|zz<|w_ret<|r_then<|y1 (v:=.string (⟨#[]⟩)) (⟨ret_str (by simp only [sgnS,hc49,nhc49,cond_true,cond_false];rfl),yt⟩)
 ·have dhc49:=hc49;try simp only [zbq] at dhc49
  have nhc49:(inChkS (madeS P f t p).bd (madeS P f t p).turn)=true:=by simpa using hc49
  refine w_skip<|n_then<|w_seq<|zw<|yV 1 [.row ⟨b24,0,none⟩ 69 (spCells (madeS P f t p))] [.agg (spCells (madeS P f t p))] (At.row ya (spCells_size (madeS P f t p)))<|zC (some 13) (c10 (madeS P f t p) hBm hTm hcm) ?_;rintro _ w50 ⟨l52,ao53,cap54,rfl,hm51,hs55,ho56⟩;refine ⟨_,rfl,?_⟩;have hll:=hs55.len;refine zs 2 [(15,.bool (((l52.length:Nat):Int)==0))]<|ze ?_;rw [leg_none hs55];refine n_then<|w_cond (b:=(!(hasS (madeS P f t p)))) (by kernel_rfl) (λhc63=>?_) (λhc63=>?_)
  ·have dhc63:=hc63;try simp only [zbq] at dhc63
   have nhc63:(hasS (madeS P f t p))=false:=by simpa using hc63
   exact zw<|yS 1<|zz<|w_ret<|r_then<|y1 (v:=.string (⟨#[35]⟩)) (⟨ret_str (by simp only [sgnS,hc49,nhc49,hc63,nhc63,cond_true,cond_false];rfl),yt⟩)
  ·have dhc63:=hc63;try simp only [zbq] at dhc63
   have nhc63:(hasS (madeS P f t p))=true:=by simpa using hc63
   exact w_skip<|zn<|yS 1<|zz<|w_ret<|y1 (v:=.string (⟨#[43]⟩)) (⟨ret_str (by simp only [sgnS,hc49,nhc49,hc63,nhc63,cond_true,cond_false];rfl),yt⟩)
theorem c11{w:World}(P:SP)(hB:SPb P)(hT:0<=P.turn/\P.turn<=1)(hc:0<=P.castle/\P.castle<=15)(f t p:Int)(hf:0<=f/\f<=63)(ht:0<=t/\t<=63)(hp:p=0\/(2<=p/\p<=5)):
  CQ 11 [.agg (spCells P),.agg #[.int .i64 f,.int .i64 t,.int .i64 p]] w (λe w'=>∃v:Bool,e=.returned (.bool v)/\Mod [] w w'/\(v=true->∀k:Int,2<=k->k<p->toldAt P f t p k=false)):=by
 refine en func11 ntmps11 ?_;refine zw<|zA (spCells P) 24 (some 2) fun b1 w2 hn3=>zA (#[.int .i64 f,.int .i64 t,.int .i64 p]) 30 (some 3) fun b9 w10 hn11=>yS 1<|zz<|w_seq<|zw<|yS 1<|zz<|w_block<|yP (γ:=Int) (λg18=>((max 2 p)-g18).toNat) (λ(g18:Int)=>[(2,pz b1),(3,pz b9),(5,.int .i64 g18)]) (λ(g18:Int) w_=>(2<=g18/\g18<=(max 2 p))/\Mod [] w10 w_/\(∀i:Int,2<=i->i<g18->toldAt P f t p i=false)) 2 ⟨by omega,Mod.refl _ _,(λi h0 h1=>absurd h1 (by omega))⟩ ?_;rintro g18 w19 ⟨⟨h21,h22⟩,hm20,hx23⟩;refine w_seq<|zw<|yL 4 b9 2<|zz<|w_cond (b:=(decide (g18<p))) (by kernel_rfl) (λhc28=>?_) (λhc28=>?_)
 ·have dhc28:=of_decide_eq_true hc28;refine w_skip<|n_then<|w_seq<|w_block<|w_cut (γ:=Unit) (λ_=>[(2,pz b1),(3,pz b9),(5,.int .i64 g18),(26,.bool ((!((bstr (sgnS P f t g18)).toList==(⟨#[]⟩:ByteArray).toList))&&((bstr (sgnS P f t p)).toList==(⟨#[]⟩:ByteArray).toList)))]) (λ_ w_=>Mod [] w19 w_) ?_ ?_
  ·refine w_region<|yV 7 [.row ⟨b1,0,none⟩ 69 (spCells P),.cell ⟨b9,0,none⟩ (.int .i64 f),.cell ⟨b9,1,none⟩ (.int .i64 t)] [.agg (spCells P),.int .i64 f,.int .i64 t] (⟨(At.row ya (spCells_size P)),yc rfl,yc rfl⟩)<|zk (some 19) (c24 P hB hT hc f t g18 hf ht (by omega)) fun w32 hm33=>yS 2<|yE 21 (.bool (!((bstr (sgnS P f t g18)).toList==(⟨#[]⟩:ByteArray).toList))) ?_;cases hc39:(!((bstr (sgnS P f t g18)).toList==(⟨#[]⟩:ByteArray).toList))
   ·have dhc39:=hc39;try simp only [zbq] at dhc39
    exact yS 5<|ze<|zb () yt
   ·have dhc39:=hc39;try simp only [zbq] at dhc39
    exact yV 2 [.row ⟨b1,0,none⟩ 69 (spCells P),.row ⟨b9,0,none⟩ 3 (#[.int .i64 f,.int .i64 t,.int .i64 p])] [.agg (spCells P),.agg (#[.int .i64 f,.int .i64 t,.int .i64 p])] (⟨(At.row ya (spCells_size P)),At.row ya rfl⟩)<|zk (some 24) (c24 P hB hT hc f t p hf ht (by omega)) fun w40 hm41=>yS 2<|ze<|zb () yt
  intro _ w29 hm30;refine w_cond (b:=(toldAt P f t p g18)) (by kernel_rfl) (λhc52=>?_) (λhc52=>?_)
  ·have dhc52:=hc52;try simp only [zbq] at dhc52
   exact zw<|yS 1<|zz<|w_ret<|r_block<|r_then<|r_then<|r_block<|r_then<|y1 (⟨false,rfl,yt,λh=>absurd h (by decide)⟩)
  ·have dhc52:=hc52;try simp only [zbq] at dhc52
   exact w_skip<|n_block<|n_then<|w_region<|yS 2<|yW 11 (zi (g18+1) (by omega) (by omega))<|yS 1<|ze<|zl (g18+1) ⟨by omega,yt,(told_step hx23 hc52)⟩
 ·have dhc28:=of_decide_eq_false hc28;exact w_exit<|x_then<|x_then<|x_hit<|zn<|yS 1<|zz<|w_ret<|y1 (⟨true,rfl,yt,λ_ k h0 h1=>hx23 k h0 (by omega)⟩)
theorem countTo_only{bd:Nat->Int}{p:Int}{k:Nat}(h:bd k=p):∀n:Nat,(∀s,s<n->bd s=p->s=k)->countTo bd p n=if k<n then 1 else 0
 |0,_=>rfl
 |n+1,hu=>by
  have ih:=countTo_only h n λs hs hp=>hu s (by omega) hp;unfold countTo;by_cases e:n=k
  · subst e;rw [if_pos h,ih,if_neg (by omega),if_pos (by omega)];rfl
  rw [if_neg (λhp=>e (hu n (by omega) hp)),ih];by_cases hk:k<n
  · rw [if_pos hk,if_pos (by omega)]
  rw [if_neg hk,if_neg (by omega)]
theorem count_only{bd:Nat->Int}{p:Int}{k:Nat}(h:OnlyAt bd p k):countS bd p=1:=by
 unfold countS;rw [countTo_only h.2.1 64 h.2.2,if_pos h.1]
theorem std_board{P:SP}(hV:ValidS P){f t:Nat}{p:Int}(h:StdM P f t p)(s:Nat):
  mk4 P.bd P.turn f t p s=(if s=t then (if p≠0 then p+6*P.turn else P.bd f) else if s=f then 0 else P.bd s)\/(s≠t/\s≠f/\P.bd s=6+6*(1-P.turn)/\mk4 P.bd P.turn f t p s=0):=by
 have hT:=hV.turn;have hf:=h.hf;have ht:=h.ht;have hne:=std_ne hV h;rcases std_ep hV h with ⟨⟨ex,et,eep,ea,er⟩,hp0⟩|⟨hn,_⟩
 · subst hp0;have hp:=passed_get hT hV.passed;obtain ⟨q,hq⟩:∃q:Nat,(8*((f:Int)/8)+(t:Int)%8)=q:=⟨(8*((f:Int)/8)+(t:Int)%8).toNat,by omega⟩;have hqb:P.bd q=6+6*(1-P.turn):=by
    rcases hp with hp|⟨_,_,_,hp,_⟩
    · omega
    rw [←eep,show ((t:Int)-8*(1-2*P.turn)).toNat=q by omega] at hp;exact hp
   have h6:kindOf (P.bd f)=6:=by rw [ex];unfold kindOf;split<;>omega
   rw [mk4_ep h6 et (by omega) hq s];unfold upd;by_cases e1:s=t
   · left;rw [if_pos e1,if_pos e1,if_neg (by omega)]
   rw [if_neg e1,if_neg e1];by_cases e2:s=f
   · left;rw [if_pos e2,if_pos e2]
   rw [if_neg e2,if_neg e2];by_cases e3:s=q
   · right;rw [if_pos e3];exact ⟨e1,e2,by rw [e3];exact hqb,rfl⟩
   left;rw [if_neg e3]
 left;rw [mk4_normal hn (std_cast hV h) s];rfl
def leftB(c:Int)(e:Nat->Bool):Nat->Int
 |0=>c
 |n+1=>bif castBit (leftB c e n) n&&e n then leftB c e n-pw2 (n:Int) else leftB c e n
def touch(f t:Int)(k:Nat):Bool:=(((f==homeK (k:Int))||(f==homeR (k:Int)))||(t==homeK (k:Int))||(t==homeR (k:Int)))
theorem leftTo_B(c f t:Int):∀n:Nat,leftTo c f t n=leftB c (touch f t) n
 |0=>rfl
 |n+1=>by unfold leftTo leftB;rw [leftTo_B c f t n];rfl
theorem leftB_congr{c:Int}{e e':Nat->Bool}:∀n:Nat,(∀k,k<n->e k=e' k)->leftB c e n=leftB c e' n
 |0,_=>rfl
 |n+1,h=>by unfold leftB;rw [leftB_congr n λk hk=>h k (by omega),h n (by omega)]
def four(a b c d:Bool)(k:Nat):Bool:=[a,b,c,d].getD k false
theorem four_eq(e:Nat->Bool):∀k,k<4->four (e 0) (e 1) (e 2) (e 3) k=e k:=by
 intro k hk;rcases (by omega:k=0\/k=1\/k=2\/k=3) with rfl|rfl|rfl|rfl<;>rfl
def ncrB(s:ByteArray)(e:Nat->Bool):ByteArray:=
 let s1:=bif e 0 then remB 75 s else s
 let s2:=bif e 1 then remB 81 s1 else s1
 let s3:=bif e 2 then remB 107 s2 else s2
 let s4:=bif e 3 then remB 113 s3 else s3
 bif s4.toList==(⟨#[]⟩:ByteArray).toList then ⟨#[45]⟩ else s4
def bools:List Bool:=[false,true]
def leftChk:Bool:=(List.range 16).all λn=>bools.all λa=>bools.all λb=>bools.all λc=>bools.all λd=>
 ((List.range 4).all λk=>castBit (leftB (n:Nat) (four a b c d) 4) k==(castBit (n:Nat) k&&!(four a b c d k)))&&
 (((ncrB (castStr (n:Nat)) (four a b c d)).data.toList==(castStr (leftB (n:Nat) (four a b c d) 4)).data.toList)&&
  (leftB (n:Nat) (four a b c d) 4==leftB (n:Nat) (four (castBit (n:Nat) 0&&a) (castBit (n:Nat) 1&&b) (castBit (n:Nat) 2&&c) (castBit (n:Nat) 3&&d)) 4))
theorem leftChk_ok:leftChk=true:=by decide+kernel
theorem left_get{n:Int}(hn:0<=n/\n<=15)(e:Nat->Bool):(∀k,k<4->castBit (leftB n e 4) k=(castBit n k&&!(e k)))/\ncrB (castStr n) e=castStr (leftB n e 4)/\leftB n e 4=leftB n (λk=>castBit n k&&e k) 4:=by
 obtain ⟨q,rfl⟩:∃q:Nat,n=q:=⟨n.toNat,by omega⟩;have h:=List.all_eq_true.1 (List.all_eq_true.1 (List.all_eq_true.1 (List.all_eq_true.1 (List.all_eq_true.1 leftChk_ok q (List.mem_range.2 (by omega))) (e 0) (bool_mem _)) (e 1) (bool_mem _)) (e 2) (bool_mem _)) (e 3) (bool_mem _);simp only [Bool.and_eq_true,List.all_eq_true,List.mem_range,beq_iff_eq] at h;obtain ⟨h1,h2,h3⟩:=h;have e1:leftB (q:Int) (four (e 0) (e 1) (e 2) (e 3)) 4=leftB q e 4:=leftB_congr 4 (four_eq e);rw [e1] at h1 h2 h3;refine ⟨λk hk=>?_,?_,?_⟩
 · rw [h1 k hk,four_eq e k hk]
 · have:ncrB (castStr q) (four (e 0) (e 1) (e 2) (e 3))=ncrB (castStr q) e:=rfl;rw [this] at h2;have h4:(ncrB (castStr (q:Int)) e).data=(castStr (leftB q e 4)).data:=Array.toList_inj.1 h2;exact ByteArray.ext h4
 rw [h3];exact leftB_congr 4 λk hk=>four_eq (λk=>castBit (q:Int) k&&e k) k hk
theorem ncr_B(B:Bd)(S:Ps)(M:Mv):ncr B S M=ncrB S.castle (four ((((pieceAt B M.s1)==1)||(M.s1==7))||(M.s2==7)) ((((pieceAt B M.s1)==1)||(M.s1==0))||(M.s2==0)) ((((pieceAt B M.s1)==7)||(M.s1==63))||(M.s2==63)) ((((pieceAt B M.s1)==7)||(M.s1==56))||(M.s2==56))):=rfl
inductive LegM(P:SP):Sm->Prop where
 |std (f t:Nat) (p:Int) (h:StdP P f t p) (ho:okS P ⟨f,t,p⟩=true):LegM P ⟨f,t,p⟩
 |cast (r:Int) (h:CastOk P r) (hM:CastM P r):LegM P ⟨homeK r,homeK r+(2*cwS r),0⟩
theorem legM{P:SP}(hV:ValidS P){m:Sm}(h:m∈pseudoL P/\okS P m=true):LegM P m:=by
 rcases pseudo_mem.1 h.1 with ⟨f,t,p,hs,rfl⟩|hc
 · exact .std f t p hs h.2
 have hT:=hV.turn;unfold castS at hc;have:∃r,(r=2*P.turn\/r=2*P.turn+1)/\m∈castR P r:=by
  rcases List.mem_append.1 hc with h|h
  · exact ⟨_,Or.inl rfl,h⟩
  exact ⟨_,Or.inr rfl,h⟩
 obtain ⟨r,hr,hm⟩:=this;obtain ⟨h1,rfl⟩:=(castR_ok hV hr m).1 ⟨hm,h.2⟩;exact .cast r h1 (castM_of hV hr h1.bit h1.emp)
theorem LegM.okS{P:SP}(hV:ValidS P){m:Sm}(h:LegM P m):m∈pseudoL P/\okS P m=true:=by
 cases h with
 |std f t p h ho=>exact ⟨pseudo_mem.2 (Or.inl ⟨f,t,p,h,rfl⟩),ho⟩
 |cast r h hM=>
  obtain ⟨h1,h2⟩:=(castR_ok hV h.hr _).2 ⟨h,rfl⟩;refine ⟨pseudo_mem.2 (Or.inr ?_),h2⟩;unfold castS;rcases h.hr with e|e
  · exact List.mem_append.2 (Or.inl (by rw [←e];exact h1))
  exact List.mem_append.2 (Or.inr (by rw [←e];exact h1))
theorem leg_only{P:SP}(hV:ValidS P){m:Sm}(h:LegM P m){kp:Int}{k:Nat}(hkp:kp=1\/kp=7)(ho:OnlyAt P.bd kp k):OnlyAt (madeS P m.f m.t m.p).bd kp (if k=m.f.toNat then m.t.toNat else k):=by
 cases h with
 |std f t p h hok=>exact std_only hV h.1 hkp ho
 |cast r h hM=>exact cast_only hV hM hkp ho
def madeQ(P:SP)(m:Sm):SP:={madeS P m.f m.t m.p with half:=0,full:=1}
theorem touch_bd{P:SP}(hV:ValidS P){m:Sm}(h:LegM P m){r:Nat}(hr:r<4)(hb:castBit P.castle r=true)(ht:touch m.f m.t r=false):
  (madeS P m.f m.t m.p).bd (homeK (r:Int)).toNat=P.bd (homeK (r:Int)).toNat/\(madeS P m.f m.t m.p).bd (homeR (r:Int)).toNat=P.bd (homeR (r:Int)).toNat:=by
 have hT:=hV.turn;have hh:=right_home hV (r:=(r:Int)) (by omega);rw [Int.toNat_natCast,hb] at hh;unfold rightB at hh;have hh:=hh.symm;simp only [Bool.and_eq_true,beq_iff_eq] at hh;obtain ⟨⟨_,hk⟩,hrk⟩:=hh;unfold touch at ht;simp only [Bool.or_eq_false_iff,beq_eq_false_iff_ne] at ht;obtain ⟨⟨⟨n1,n2⟩,n3⟩,n4⟩:=ht;have hN:=homeN (r:=(r:Int)) (by omega);have ha:=home_rng (g:=(r:Int)) (by omega);have hr2:(r:Int)/2=0\/(r:Int)/2=1:=by omega
 cases h with
 |std f t p h hok=>
  dsimp only at*
  have key:∀s:Nat,s≠f->s≠t->P.bd s≠6+6*(1-P.turn)->mk4 P.bd P.turn f t p s=P.bd s:=by
   intro s h1 h2 h3;rcases std_board hV h.1 s with e|⟨_,_,e,_⟩
   · rw [e,if_neg h2,if_neg h1]
   exact absurd e h3
  exact ⟨key _ (by omega) (by omega) (by omega),key _ (by omega) (by omega) (by omega)⟩
 |cast q h hM=>
  dsimp only at*
  have hq:=h.hr;have e1:=mk4_cast hV hM;have hNq:=homeN (r:=q) (by omega);have hlt:=hNq.lt;have hne:=hNq.ne;have hqm:=hM.mid;have hqd:=hM.dst;have hqk:=hM.king;have hqr:=hM.rook;have hki:=hNq.ki;have hti:=hNq.ti;show mk4 P.bd P.turn (homeK q) (homeK q+(2*cwS q)) 0 _=_/\mk4 P.bd P.turn (homeK q) (homeK q+(2*cwS q)) 0 _=_;rw [e1,e1,castBd_get _ _ hne,castBd_get _ _ hne];have kk:(homeK (r:Int)).toNat≠(homeK q).toNat:=by omega
  generalize (homeK q).toNat=K at*
  generalize (homeR q).toNat=R at*
  generalize (homeK q+cwS q).toNat=M at*
  generalize (homeK q+(2*cwS q)).toNat=T at*
  have hturn:(r:Int)/2≠P.turn:=by
   intro e;have e3:homeK (r:Int)=homeK q:=by unfold homeK;omega
   omega
  refine ⟨?_,?_⟩
  · rw [if_neg (by rintro rfl;omega),if_neg (by rintro rfl;omega),if_neg (by rintro rfl;omega),if_neg kk]
  rw [if_neg (by rintro rfl;omega),if_neg (by rintro rfl;omega),if_neg (by rintro rfl;omega),if_neg (by rintro rfl;omega)]
theorem std_pawns{P:SP}(hV:ValidS P){f t:Nat}{p:Int}(h:StdP P f t p):∀i,i<64->kindOf (mk4 P.bd P.turn f t p i)=6->mk4 P.bd P.turn f t p i≠0->i/8≠0/\i/8≠7:=by
 have hT:=hV.turn;intro i hi h6 h0;rcases std_board hV h.1 i with e|⟨_,_,_,e⟩
 · rw [e] at h6 h0;by_cases e1:i=t
   · rw [if_pos e1] at h6 h0;by_cases hp:p=0
     · rw [if_neg (by omega)] at h6;have h1:=std_pawn hV h.1 h6;have h2:=h.2 hp;have h3:=hV.pawns f h.1.hf h6 h.1.x0;obtain ⟨_,h1⟩:=h1;have ht:=h.1.ht;have hf:=h.1.hf;rw [h6] at h2;have h2:¬((t:Int)/8=7-7*P.turn):=λhh=>h2 ⟨rfl,hh⟩;rcases h1 with h1|h1|h1<;>omega
     rw [if_pos hp] at h6;rcases h.1.pr with hh|⟨_,_,hh,_⟩
     · omega
     have:=h.1.pr;unfold kindOf at h6;split at h6<;>omega
   rw [if_neg e1] at h6 h0;by_cases e2:i=f
   · rw [if_pos e2] at h0;exact absurd rfl h0
   rw [if_neg e2] at h6 h0;exact hV.pawns i hi h6 h0
 exact absurd e h0
theorem cast_pawns{P:SP}(hV:ValidS P){r:Int}(h:CastM P r):∀i,i<64->kindOf (mk4 P.bd P.turn (homeK r) (homeK r+(2*cwS r)) 0 i)=6->mk4 P.bd P.turn (homeK r) (homeK r+(2*cwS r)) 0 i≠0->i/8≠0/\i/8≠7:=by
 have hT:=hV.turn;intro i hi h6 h0;have hN:=homeN (r:=r) (by have:=h.hr;omega);rw [mk4_cast hV h,castBd_get _ _ hN.ne] at h6 h0;by_cases e1:i=(homeK r+cwS r).toNat
 · rw [if_pos e1] at h6;unfold kindOf at h6;split at h6<;>omega
 rw [if_neg e1] at h6 h0;by_cases e2:i=(homeR r).toNat
 · rw [if_pos e2] at h0;exact absurd rfl h0
 rw [if_neg e2] at h6 h0;by_cases e3:i=(homeK r+(2*cwS r)).toNat
 · rw [if_pos e3] at h6;unfold kindOf at h6;split at h6<;>omega
 rw [if_neg e3] at h6 h0;by_cases e4:i=(homeK r).toNat
 · rw [if_pos e4] at h0;exact absurd rfl h0
 rw [if_neg e4] at h6 h0;exact hV.pawns i hi h6 h0
theorem made_rights{P:SP}(hV:ValidS P){m:Sm}(h:LegM P m):rightsS (madeQ P m)=(madeQ P m).castle:=by
 have hT:=hV.turn;have hc:=hV.castle;have hl:=left_get hc (touch m.f m.t);have e0:(madeQ P m).castle=leftB P.castle (touch m.f m.t) 4:=leftTo_B _ _ _ 4;have hrng:=made_castle hc m.f m.t m.p;have hcr:∀r:Nat,r<4->rightB (madeQ P m) (r:Int)=castBit (madeQ P m).castle r:=by
  intro r hr;unfold rightB;rw [Int.toNat_natCast];cases hb:castBit (madeQ P m).castle r
  · rfl
  rw [e0,hl.1 r hr,Bool.and_eq_true,Bool.not_eq_true'] at hb;obtain ⟨h1,h2⟩:=touch_bd hV h hr hb.1 hb.2;have hh:=right_home hV (r:=(r:Int)) (by omega);rw [Int.toNat_natCast,hb.1] at hh;unfold rightB at hh;have hh:=hh.symm;simp only [Bool.and_eq_true,beq_iff_eq] at hh;rw [show (madeQ P m).bd=(madeS P m.f m.t m.p).bd from rfl,h1,h2,hh.1.2,hh.2];simp
 have e1:rightsS (madeQ P m)=sumB (rightB (madeQ P m) 0) (rightB (madeQ P m) 1) (rightB (madeQ P m) 2) (rightB (madeQ P m) 3):=rfl;rw [e1];have c0:=hcr 0 (by decide);have c1:=hcr 1 (by decide);have c2:=hcr 2 (by decide);have c3:=hcr 3 (by decide);rw [show 0=((0:Nat):Int) from rfl,show 1=((1:Nat):Int) from rfl,show 2=((2:Nat):Int) from rfl,show 3=((3:Nat):Int) from rfl,c0,c1,c2,c3];have hrng':0<=(madeQ P m).castle/\(madeQ P m).castle<=15:=hrng;generalize (madeQ P m).castle=x at*
 obtain ⟨q,rfl⟩:∃q:Nat,x=q:=⟨x.toNat,by omega⟩;have hall:∀q,q<16->sumB (castBit (q:Nat) 0) (castBit (q:Nat) 1) (castBit (q:Nat) 2) (castBit (q:Nat) 3)=(q:Nat):=by decide+kernel
 exact hall q (by omega)
theorem made_passed{P:SP}(hV:ValidS P){m:Sm}(h:LegM P m):passedS (madeQ P m)=true:=by
 have hT:=hV.turn;have e:(madeQ P m).ep=epS P.bd m.f m.t:=rfl;unfold passedS;by_cases hep:epS P.bd m.f m.t=-1
 · rw [e,hep,if_pos (by omega)];rfl
 cases h with
 |cast r h hM=>
  exfalso;apply hep;unfold epS;have hk:kindOf (P.bd (homeK r).toNat)=1:=by rw [hM.king];unfold kindOf;split<;>omega
  dsimp only;rw [hk];rfl
 |std f t p h hok=>
  dsimp only at*
  have hf:=h.1.hf;have ht:=h.1.ht;have hep':=hep;unfold epS at hep';rw [Int.toNat_natCast] at hep';cases h6:(kindOf (P.bd f)==6)
  · rw [h6] at hep';exact absurd rfl hep'
  cases h7:(((t:Int)==(f:Int)+16)||((t:Int)==(f:Int)-16))
  · rw [h6,h7] at hep';exact absurd rfl hep'
  have ee:(madeQ P ⟨f,t,p⟩).ep=((f:Int)+t)/2:=by
   show epS P.bd f t=_;unfold epS;rw [Int.toNat_natCast,h6,h7];rfl
  rw [beq_iff_eq] at h6;simp only [Bool.or_eq_true,beq_iff_eq] at h7;obtain ⟨hx,h1⟩:=std_pawn hV h.1 h6;have h1:(t:Int)=f+16*(1-2*P.turn)/\(f:Int)/8=1+5*P.turn/\P.bd ((f:Int)+8*(1-2*P.turn)).toNat=0/\P.bd t=0:=by
   rcases h1 with h1|h1|h1
   · omega
   · exact h1
   omega
  obtain ⟨a1,a2,a3,a4⟩:=h1;have hp:p=0:=by rcases h.1.pr with hh|hh<;>omega
  subst hp;have et:(madeQ P ⟨f,t,0⟩).turn=1-P.turn:=rfl;have eb:∀s,(madeQ P ⟨f,t,0⟩).bd s=mk4 P.bd P.turn f t 0 s:=λs=>rfl;rw [ee,et,eb,eb,eb];have keep:∀s,mk4 P.bd P.turn f t 0 s=if s=t then P.bd f else if s=f then 0 else P.bd s:=by
   intro s;rw [mk4_normal (λ_ _=>by omega) (std_cast hV h.1) s,if_neg (by omega)];rfl
  rw [keep,keep,keep];rw [if_neg (by omega),if_neg (by rw [if_neg (by omega),if_neg (by omega),show (((f:Int)+t)/2).toNat=((f:Int)+8*(1-2*P.turn)).toNat by omega];omega)];rw [if_pos (by omega),if_neg (by omega),if_pos (by omega)];simp only [Bool.and_eq_true,beq_iff_eq];exact ⟨by omega,trivial⟩
theorem made_valid{P:SP}(hV:ValidS P){m:Sm}(h:LegM P m):ValidS (madeQ P m):=by
 have hT:=hV.turn;have hs:=pseudoL_ok hV.turn (h.okS hV).1;obtain ⟨a,ha,_⟩:=valid_kings hV (c:=0) (by omega);obtain ⟨b,hb,_⟩:=valid_kings hV (c:=1) (by omega);have ha':=leg_only hV h (Or.inl rfl) (by simpa using ha);have hb':=leg_only hV h (Or.inr rfl) (by simpa using hb);refine ⟨?_,?_,?_,made_castle hV.castle m.f m.t m.p,(by show 0<=0;omega),(by show 1<=1;omega),count_only ha',count_only hb',made_rights hV h,made_passed hV h,?_⟩
 · exact mk4_rng hV.bd hV.turn (f:=m.f) (t:=m.t) (p:=m.p) hs.f (by have:=hs.p;omega)
 · cases h with
   |std f t p h ho=>exact std_pawns hV h
   |cast r h hM=>exact cast_pawns hV hM
 · show 0<=1-P.turn/\1-P.turn<=1;omega
 obtain ⟨k,hk,_⟩:=valid_kings hV hT;have hk':=leg_only hV h (by omega) hk;have e1:kingAtS (madeS P m.f m.t m.p).bd P.turn=((if k=m.f.toNat then m.t.toNat else k:Nat):Int):=kingAt_only hk';show attS (madeS P m.f m.t m.p).bd (kingAtS (madeS P m.f m.t m.p).bd (1-(1-P.turn))).toNat (1-P.turn)=false;rw [show 1-(1-P.turn)=P.turn by omega,e1,Int.toNat_natCast];have ho:=(h.okS hV).2;have hsf:=hs.f;have hst:=hs.t;have hok:=okS_eq hV hk (f:=m.f.toNat) (t:=m.t.toNat) (p:=m.p);rw [show ((m.f.toNat:Nat):Int)=m.f by omega,show ((m.t.toNat:Nat):Int)=m.t by omega] at hok;have:okS P m=okS P ⟨m.f,m.t,m.p⟩:=rfl;rw [this,hok,Bool.not_eq_true'] at ho;exact ho
theorem inChkS_eq{bd:Nat->Int}{sd:Int}{k:Nat}(h:OnlyAt bd (1+6*sd) k):inChkS bd sd=attS bd k (1-sd):=by
 unfold inChkS;rw [kingAt_only h,show decide (((k:Nat):Int)>=0)=true by rw [decide_eq_true_eq];omega,Int.toNat_natCast];rfl
def chkS(P:SP)(m:Sm):Bool:=inChkS (madeS P m.f m.t m.p).bd (1-P.turn)
structure TagM(P:SP)(m:Sm)(M:Mv):Prop where
 s1:M.s1=m.f
 s2:M.s2=m.t
 pr:M.promo=m.p
 t0:tagb M.tags 0=(castI P.bd m.f m.t==1)
 t1:tagb M.tags 1=(castI P.bd m.f m.t==2)
 t2:tagb M.tags 2=(P.bd m.t.toNat !=0)
 cap:(tagb M.tags 2||tagb M.tags 3)=takesI P.bd m.f m.t
 t4:tagb M.tags 4=true↔(chkS P m=true\/∃k:Int,2<=k/\k<m.p/\chkS P ⟨m.f,m.t,k⟩=true)
 board:updB (boardOf P.bd) M=boardOf (madeS P m.f m.t m.p).bd
theorem castI_std{P:SP}(hV:ValidS P){f t:Nat}{p:Int}(h:StdM P f t p):castI P.bd f t=0:=by
 have:=std_cast hV h;unfold castlesB at this;unfold castI;rw [Int.toNat_natCast] at*
 cases h1:(kindOf (P.bd f)==1)
 · rw [show (kindOf (P.bd f) !=1)=true by simp [bne,h1]];rfl
 rw [h1,Bool.true_and,Bool.or_eq_false_iff,beq_eq_false_iff_ne,beq_eq_false_iff_ne] at this;rw [show (kindOf (P.bd f) !=1)=false by simp [bne,h1],show ((t:Int)-f==2)=false by rw [beq_eq_false_iff_ne];omega,show ((t:Int)-f==(-2))=false by rw [beq_eq_false_iff_ne];omega];rfl
instance(P:SP)(f t:Nat):Decidable (EPm P f t):=by unfold EPm;infer_instance
theorem std_takes{P:SP}(hV:ValidS P){f t:Nat}{p:Int}(h:StdM P f t p):takesI P.bd f t=((P.bd t !=0)||decide (EPm P f t)):=by
 have hT:=hV.turn;unfold takesI;rw [Int.toNat_natCast,Int.toNat_natCast];cases h0:(P.bd t !=0)
 · rw [Bool.false_or,Bool.false_or];rw [bne_eq_false_iff_eq] at h0;rw [Bool.eq_iff_iff,Bool.and_eq_true,beq_iff_eq,bne_iff_ne,decide_eq_true_eq];rcases std_ep hV h with ⟨hE,_⟩|⟨hn,hn2⟩
   · exact ⟨λ_=>hE,λhE=>⟨by rw [hE.1];unfold kindOf;split<;>omega,by have:=hE.2.2.2.1;omega⟩⟩
   constructor
   · rintro ⟨a,b⟩;exact absurd (hn h0 a) b
   intro hE;exact absurd ⟨h0,hE.2.2.1,by rw [hE.1];unfold kindOf;split<;>omega⟩ hn2
 rfl
theorem std_base{P:SP}(hV:ValidS P){f t:Nat}{p tags:Int}(h:StdM P f t p)(h0:tagb tags 0=false)(h1:tagb tags 1=false)(h3:tagb tags 3=true↔EPm P f t):
  updB (boardOf P.bd) ⟨tags,f,t,p⟩=boardOf (madeS P f t p).bd:=by
 have hT:=hV.turn;obtain ⟨hB,hK⟩:=base_rep hV;obtain ⟨a,b⟩:=next_std hV hB hK h h0 h1 h3;have hx:=hV.bd f h.hf;have hcol:pColor (P.bd f)=P.turn+1:=by rw [pColor_side hx h.x0,h.side]
 have hpr:=std_pr h;refine board_eq a b (Out.upd (Out.board _) (p:=P.bd f) (by have:=h.x0;omega) (λhp=>?_) (hB.pieceAt h.hf));rw [hcol];unfold newP;dsimp only at hp⊢;omega
theorem std_chk{P:SP}(hV:ValidS P){f t:Nat}{p:Int}(h:StdM P f t p){e:Nat}(he:OnlyAt P.bd (1+6*(1-P.turn)) e):chkS P ⟨f,t,p⟩=attS (mk4 P.bd P.turn f t p) e P.turn:=by
 have hT:=hV.turn;have heo:=std_only hV h (by omega) he;have hef:e≠f:=by
  rintro rfl;have:=h.side;rw [he.2.1] at this;unfold sideOf at this;split at this<;>omega
 rw [if_neg hef] at heo;have:=inChkS_eq heo;unfold chkS;rw [show 1-(1-P.turn)=P.turn by omega] at this;exact this
theorem promoT_chk{P:SP}(hV:ValidS P){f t:Nat}(h:StdM P f t 0)(h6:kindOf (P.bd f)=6/\(t:Int)/8=7-7*P.turn):∀k:Nat,k<=4->
  (tagb (promoT (boardOf P.bd) (psOf P) f t k) 4=true↔∃i:Int,2<=i/\i<(k:Int)+2/\chkS P ⟨f,t,i⟩=true)
 |0,_=>by
  rw [show promoT (boardOf P.bd) (psOf P) f t 0=0 from rfl,tb0 4 (by decide)];exact ⟨λhh=>(by cases hh),λ⟨i,a,b,_⟩=>by omega⟩
 |k+1,hk4=>by
  have ih:=promoT_chk hV h h6 k (by omega);have hT:=hV.turn;obtain ⟨i0,i1,i3,_,_⟩:=promoT_tag hV h h6 k (by omega);obtain ⟨kk,hk,_⟩:=valid_kings hV hT;obtain ⟨e,he,_⟩:=valid_kings hV (c:=1-P.turn) (by omega);have hp:=StdM.prom h h6 (p:=(k:Int)+2) (by omega);obtain ⟨_,_,_,_,j4,_⟩:=tg4_std hV hp i0 i1 i3 hk he;show tagb (tg4 (boardOf P.bd) (psOf P) ⟨promoT (boardOf P.bd) (psOf P) f t k,f,t,(k:Int)+2⟩) 4=true↔_;rw [j4,Bool.or_eq_true,ih,←std_chk hV hp he];constructor
  · rintro (⟨i,a,b,c⟩|c)
    · exact ⟨i,a,by omega,c⟩
    exact ⟨(k:Int)+2,by omega,by omega,c⟩
  rintro ⟨i,a,b,c⟩;by_cases e2:i=(k:Int)+2
  · subst e2;exact Or.inr c
  exact Or.inl ⟨i,a,by omega,c⟩
theorem tag_std{P:SP}(hV:ValidS P){f t:Nat}{p:Int}(h:StdP P f t p):TagM P ⟨f,t,p⟩ (mvOf P f t p):=by
 have hT:=hV.turn;obtain ⟨kk,hk,_⟩:=valid_kings hV hT;obtain ⟨e,he,_⟩:=valid_kings hV (c:=1-P.turn) (by omega);obtain ⟨k1,k2,k3⟩:=mvOf_key (P:=P) (f:=f) (t:=t) (p:=p);have hc:=castI_std hV h.1;have htk:=std_takes hV h.1;have fin:∀x,mvOf P f t p=⟨x,f,t,p⟩->tagb x 0=false->tagb x 1=false->tagb x 2=(P.bd t !=0)->(tagb x 3=true↔EPm P f t)->
   (tagb x 4=true↔(chkS P ⟨f,t,p⟩=true\/∃k:Int,2<=k/\k<p/\chkS P ⟨f,t,k⟩=true))->TagM P ⟨f,t,p⟩ (mvOf P f t p):=by
  intro x ex a0 a1 a2 a3 a4;refine ⟨k1,k2,k3,?_,?_,?_,?_,?_,?_⟩<;>rw [ex]<;>dsimp only
  · rw [a0,hc];rfl
  · rw [a1,hc];rfl
  · rw [a2,Int.toNat_natCast]
  · rw [a2,htk];congr 1;rw [Bool.eq_iff_iff,decide_eq_true_eq];exact a3
  · exact a4
  exact std_base hV h.1 a0 a1 a3
 by_cases hp:p=0
 · subst hp;obtain ⟨j0,j1,j2,j3,j4,_⟩:=tg4_std hV h.1 (tags:=0) (tb0 0 (by decide)) (tb0 1 (by decide)) (λhh=>by rw [tb0 3 (by decide)] at hh;cases hh) hk he;refine fin _ (by unfold mvOf;rw [if_pos rfl];rfl) j0 j1 (by rw [j2,tb0 2 (by decide)];rfl) j3 ?_;rw [j4,tb0 4 (by decide),Bool.false_or,←std_chk hV h.1 he];exact ⟨Or.inl,λhh=>hh.elim id λ⟨k,a,b,_⟩=>by omega⟩
 have hr:kindOf (P.bd f)=6/\(t:Int)/8=7-7*P.turn/\2<=p/\p<=5:=h.1.pr.elim (λhh=>absurd hh hp) id;have h0:StdM P f t 0:=⟨h.1.hf,h.1.ht,h.1.x0,h.1.side,h.1.dst,h.1.own,Or.inl rfl⟩;obtain ⟨j0,j1,_,_,j5⟩:=promoT_tag hV h0 ⟨hr.1,hr.2.1⟩ ((p-2).toNat+1) (by omega);obtain ⟨j3,j2⟩:=j5 (by omega);refine fin _ (by unfold mvOf;rw [if_neg hp]) j0 j1 j2 j3 ?_;rw [promoT_chk hV h0 ⟨hr.1,hr.2.1⟩ _ (by omega)];constructor
 · rintro ⟨i,a,b,c⟩;by_cases e2:i=p
   · subst e2;exact Or.inl c
   exact Or.inr ⟨i,a,by omega,c⟩
 rintro (c|⟨i,a,b,c⟩)
 · exact ⟨p,by omega,by omega,c⟩
 exact ⟨i,a,by omega,c⟩
theorem cast_tag2{P:SP}(hV:ValidS P){r:Int}(h:CastM P r):tg2 (boardOf P.bd) (psOf P) ⟨orTag (0:Int) (r%2+1),homeK r,homeK r+(2*cwS r),0⟩=orTag (orTag (0:Int) (r%2+1)) (r%2+1):=by
 have hT:=hV.turn;have hB:=(base_rep hV).1;have hN:=homeN (r:=r) (by have:=h.hr;omega);have hp1:pieceAt (boardOf P.bd) (homeK r)=1+6*P.turn:=by
  have:=hB.pieceAt hN.lt.1;rw [←hN.ki] at this;rw [this,h.king]
 have ho:occd (boardOf P.bd) (homeK r+(2*cwS r))=false:=by
  have:=occd_eq hB hN.lt.2.2.2;rw [←hN.ti] at this;rw [this,h.dst];rfl
 unfold tg2 tg1;dsimp only;rw [hp1,ho];have:=h.hr;rcases (by omega:(P.turn=0/\r=0)\/(P.turn=0/\r=1)\/(P.turn=1/\r=2)\/(P.turn=1/\r=3)) with ⟨et,rfl⟩|⟨et,rfl⟩|⟨et,rfl⟩|⟨et,rfl⟩<;>rw [et]<;>
  simp only [show pType (1+6*0:Int)=1 from rfl,show pType (1+6*1:Int)=1 from rfl,show ((1:Int)==6)=false from rfl,Bool.and_false,cond_false]<;>rfl
theorem tag_cast{P:SP}(hV:ValidS P){r:Int}(h:CastOk P r)(hM:CastM P r):TagM P ⟨homeK r,homeK r+(2*cwS r),0⟩ (castM (boardOf P.bd) (psOf P) (r%2+1) (homeK r) (homeK r+(2*cwS r))):=by
 have hT:=hV.turn;obtain ⟨hB,hK⟩:=base_rep hV;have hr:=h.hr;have hN:=homeN (r:=r) (by omega);obtain ⟨e,he,_⟩:=valid_kings hV (c:=1-P.turn) (by omega);have hc2:=cast_tag2 hV hM;have hr2:r%2=0\/r%2=1:=by omega
 have hb:∀i,i<6->tagb (orTag (orTag 0 (r%2+1)) (r%2+1)) i=((decide (i=0)&&decide (r%2=0))||(decide (i=1)&&decide (r%2=1))):=by
  intro i hi;rw [tagb_or,tagb_or,tb0 i hi];rcases hr2 with e2|e2<;>rw [e2]
  · rw [show (0+1:Int)=1 from rfl,tb1 i hi];simp
  rw [show (1+1:Int)=2 from rfl,tb2 i hi];simp
 have hx:∃c1 c2:Bool,(∀i,i<6->tagb (tg4 (boardOf P.bd) (psOf P) ⟨orTag 0 (r%2+1),homeK r,homeK r+(2*cwS r),0⟩) i=(tagb (orTag (orTag 0 (r%2+1)) (r%2+1)) i||(decide (i=4)&&c2)||(decide (i=5)&&c1)))/\
   c2=inChk (nextB (boardOf P.bd) (psOf P) ⟨orTag 0 (r%2+1),homeK r,homeK r+(2*cwS r),0⟩) (otherC (psOf P).turn):=by
  refine ⟨inChk (nextB (boardOf P.bd) (psOf P) ⟨orTag 0 (r%2+1),homeK r,homeK r+(2*cwS r),0⟩) (psOf P).turn,_,λi hi=>?_,rfl⟩;unfold tg4 tg3;rw [hc2];cases inChk (nextB (boardOf P.bd) (psOf P) ⟨orTag 0 (r%2+1),homeK r,homeK r+(2*cwS r),0⟩) (psOf P).turn<;>cases inChk (nextB (boardOf P.bd) (psOf P) ⟨orTag 0 (r%2+1),homeK r,homeK r+(2*cwS r),0⟩) (otherC (psOf P).turn)
  · simp
  · simp only [cond_true,cond_false];rw [tagb_or,tb16 i hi];simp
  · simp only [cond_true,cond_false];rw [tagb_or,tb32 i hi];simp
  simp only [cond_true];rw [tagb_or (orTag _ 32),tagb_or _ 32,tb32 i hi,tb16 i hi];simp [Bool.or_right_comm]
 obtain ⟨c1,c2,hx,hc⟩:=hx;have n2:=next_cast hV hM (tags:=orTag (orTag 0 (r%2+1)) (r%2+1)) (by rw [hb 0 (by decide)];simp) (by rw [hb 1 (by decide)];simp) (by rw [hb 3 (by decide)];simp);have heo:=cast_only hV hM (kp:=1+6*(1-P.turn)) (by omega) he;have hek:e≠(homeK r).toNat:=by
  intro e2;have h1:=he.2.1;rw [e2,hM.king] at h1;omega
 rw [if_neg hek] at heo;have hchk:c2=chkS P ⟨homeK r,homeK r+(2*cwS r),0⟩:=by
  rw [hc];show inChk (updB (boardOf P.bd) ⟨tg2 (boardOf P.bd) (psOf P) ⟨orTag 0 (r%2+1),homeK r,homeK r+(2*cwS r),0⟩,homeK r,homeK r+(2*cwS r),0⟩) (otherC (turnOf P.turn))=_;rw [hc2,otherC_eq hT,inChk_eq n2.1 n2.2 (by omega) heo];unfold chkS;exact (inChkS_eq heo).symm
 have g0:=hx 0 (by decide);have g1:=hx 1 (by decide);have g2:=hx 2 (by decide);have g3:=hx 3 (by decide);have g4:=hx 4 (by decide);rw [hb 0 (by decide)] at g0;rw [hb 1 (by decide)] at g1;rw [hb 2 (by decide)] at g2;rw [hb 3 (by decide)] at g3;rw [hb 4 (by decide)] at g4;simp at g0 g1 g2 g3 g4;have hcast:castI P.bd (homeK r) (homeK r+(2*cwS r))=if r%2=0 then 1 else 2:=by
  unfold castI;have hk1:kindOf (P.bd (homeK r).toNat)=1:=by rw [hM.king];unfold kindOf;split<;>omega
  rw [hk1];rcases (by omega:r=0\/r=1\/r=2\/r=3) with rfl|rfl|rfl|rfl<;>rfl
 have htk:takesI P.bd (homeK r) (homeK r+(2*cwS r))=false:=by
  have hk1:kindOf (P.bd (homeK r).toNat)=1:=by rw [hM.king];unfold kindOf;split<;>omega
  unfold takesI;rw [hM.dst,hk1];rfl
 refine ⟨rfl,rfl,rfl,?_,?_,?_,?_,?_,?_⟩
 · show tagb (tg4 _ _ _) 0=_;dsimp only;rw [g0,hcast];rcases hr2 with e2|e2<;>rw [e2]<;>rfl
 · show tagb (tg4 _ _ _) 1=_;dsimp only;rw [g1,hcast];rcases hr2 with e2|e2<;>rw [e2]<;>rfl
 · show tagb (tg4 _ _ _) 2=_;dsimp only;rw [g2,hM.dst];rfl
 · show (tagb (tg4 _ _ _) 2||tagb (tg4 _ _ _) 3)=_;dsimp only;rw [g2,g3,htk];rfl
 · show tagb (tg4 _ _ _) 4=true↔_;rw [g4,hchk];exact ⟨Or.inl,λhh=>hh.elim id λ⟨k,a,b,_⟩=>by dsimp only at b;omega⟩
 have n4:=next_cast hV hM (tags:=tg4 (boardOf P.bd) (psOf P) ⟨orTag 0 (r%2+1),homeK r,homeK r+(2*cwS r),0⟩) g0 g1 g3;refine board_eq n4.1 n4.2 (Out.upd (Out.board _) (p:=1+6*P.turn) (by omega) (λhp=>absurd rfl hp) ?_);have:=hB.pieceAt hN.lt.1;rw [←hN.ki] at this;rw [←hM.king];exact this
theorem tag_all{P:SP}(hV:ValidS P){M:Mv}(h:M∈allL (boardOf P.bd) (psOf P)):∃m,LegM P m/\TagM P m M:=by
 rcases List.mem_append.1 h with h|h
 · obtain ⟨f,t,p,hs,ho,rfl⟩:=(stdL_iff hV M).1 h;exact ⟨_,.std f t p hs ho,tag_std hV hs⟩
 obtain ⟨r,hr,rfl⟩:=(castL_iff hV M).1 h;have hM:=castM_of hV hr.hr hr.bit hr.emp;exact ⟨_,.cast r hr hM,tag_cast hV hr hM⟩
section
variable{P:SP}{m:Sm}{M:Mv}
theorem LegM.ok(hV:ValidS P)(h:LegM P m):SmOk m:=pseudoL_ok hV.turn (h.okS hV).1
theorem LegM.x0(hV:ValidS P)(h:LegM P m):P.bd m.f.toNat≠0:=pseudo_piece hV (h.okS hV).1
theorem LegM.nk(hV:ValidS P)(h:LegM P m):P.bd m.t.toNat≠1/\P.bd m.t.toNat≠7:=by
 cases h with
 |std f t p h ho=>exact std_nk hV h.1
 |cast r h hM=>dsimp only;rw [hM.dst];decide
theorem at_f(hV:ValidS P)(h:LegM P m)(hT:TagM P m M):pieceAt (boardOf P.bd) M.s1=P.bd m.f.toNat:=by
 have hs:=(h.ok hV).f;have:=(base_rep hV).1.pieceAt (s:=m.f.toNat) (by omega);rw [hT.s1,←this,show ((m.f.toNat:Nat):Int)=m.f by omega]
theorem type_f(hV:ValidS P)(h:LegM P m)(hT:TagM P m M):pType (pieceAt (boardOf P.bd) M.s1)=kindOf (P.bd m.f.toNat):=by
 have hs:=(h.ok hV).f;rw [at_f hV h hT,pType_kind (hV.bd _ (by omega)) (h.x0 hV)]
theorem next_castle(hV:ValidS P)(h:LegM P m)(hT:TagM P m M):ncr (boardOf P.bd) (psOf P) M=castStr (madeS P m.f m.t m.p).castle:=by
 have hs:=h.ok hV;have hf:=hs.f;have ht:=hs.t;have hc:=hV.castle;have hnk:=h.nk hV;have e0:(madeS P m.f m.t m.p).castle=leftB P.castle (touch m.f m.t) 4:=leftTo_B _ _ _ 4;rw [ncr_B,at_f hV h hT,hT.s1,hT.s2,e0,(left_get hc (touch m.f m.t)).2.2];rw [show (psOf P).castle=castStr P.castle from rfl,(left_get hc _).2.1,(left_get hc _).2.2];congr 1;refine leftB_congr 4 λk hk=>?_;cases hb:castBit P.castle k
 · rfl
 rw [Bool.true_and,Bool.true_and];have hh:=right_home hV (r:=(k:Int)) (by omega);rw [Int.toNat_natCast,hb] at hh;unfold rightB at hh;have hh:=hh.symm;simp only [Bool.and_eq_true,beq_iff_eq] at hh;obtain ⟨⟨_,hk1⟩,_⟩:=hh;obtain ⟨a,ha,_⟩:=valid_kings hV (c:=(k:Int)/2) (by omega);have hu:=ha.2.2 _ (by have:=(home_rng (g:=(k:Int)) (by omega)).1;omega) hk1;have h1:P.bd m.f.toNat=1+6*((k:Int)/2)↔m.f=homeK (k:Int):=by
  have hkr:=(home_rng (g:=(k:Int)) (by omega)).1;constructor
  · intro e;have:=ha.2.2 m.f.toNat (by omega) e;omega
  intro e;rw [e];exact hk1
 have h2:m.t≠homeK (k:Int):=by
  intro e;rw [←e] at hk1;omega
 rw [Bool.eq_iff_iff];unfold touch;simp only [Bool.or_eq_true,beq_iff_eq];rcases (by omega:k=0\/k=1\/k=2\/k=3) with rfl|rfl|rfl|rfl<;>simp only [four,List.getD_cons_zero,List.getD_cons_succ,Bool.or_eq_true,beq_iff_eq]<;>simp only [homeK,homeR] at*<;>simp at*<;>omega
theorem rank2:∀s,s<64->sb 71776119061217280 s=(decide (8<=s)&&decide (s<16)):=by decide
theorem rank4:∀s,s<64->sb 1095216660480 s=(decide (24<=s)&&decide (s<32)):=by decide
theorem rank7:∀s,s<64->sb 65280 s=(decide (48<=s)&&decide (s<56)):=by decide
theorem rank5:∀s,s<64->sb 4278190080 s=(decide (32<=s)&&decide (s<40)):=by decide
theorem on_row{s:Int}(h:0<=s/\s<=63)(a:Int):((band (bbSq s) a) !=0)=sb a s.toNat:=by
 have:band (bbSq s) a=band a (bbSq s):=by
  refine sb_ext (U_band _ _) (U_band _ _) λt ht=>?_;rw [sb_band,sb_band,Bool.and_comm]
 rw [this];have:=band_bbSq (a:=a) (s:=s.toNat) (by omega);rw [show ((s.toNat:Nat):Int)=s by omega] at this;exact this
theorem i8w{x:Int}(h:-128<=x)(h':x<=127):IntKind.i8.wrap x=x:=by
 simp only [IntKind.wrap,IntKind.bits,IntKind.signed];simp;omega
theorem next_ep(hV:ValidS P)(h:LegM P m)(hT:TagM P m M):newEP (boardOf P.bd) (psOf P) M=epS P.bd m.f m.t:=by
 have hs:=h.ok hV;have hf:=hs.f;have ht:=hs.t;have hP:=hV.turn;have hturn:(psOf P).turn=P.turn+1:=turnOf_eq hP;unfold newEP epS;rw [type_f hV h hT,hturn,hT.s1,hT.s2,on_row hf,on_row ht,on_row hf,on_row ht,rank2 _ (by omega),rank4 _ (by omega),rank7 _ (by omega),rank5 _ (by omega)];cases h6:(kindOf (P.bd m.f.toNat)==(6:Int))
 · rw [show (kindOf (P.bd m.f.toNat) !=(6:Int))=true by simp [bne,h6]];rfl
 rw [show (kindOf (P.bd m.f.toNat) !=(6:Int))=false by simp [bne,h6],Bool.true_and];simp only [cond_false];rw [beq_iff_eq] at h6;have key:(m.t=m.f+8*(1-2*P.turn))\/(m.t=m.f+16*(1-2*P.turn)/\m.f/8=1+5*P.turn)\/((m.t%8-m.f%8=1\/m.t%8-m.f%8=-1)/\m.t/8-m.f/8=1-2*P.turn):=by
  cases h with
  |std f t p h ho=>
   obtain ⟨_,h1⟩:=std_pawn hV h.1 h6;dsimp only;rcases h1 with h1|h1|h1
   · exact Or.inl h1.1
   · exact Or.inr (Or.inl ⟨h1.1,h1.2.1⟩)
   exact Or.inr (Or.inr ⟨h1.1,h1.2.1⟩)
  |cast r h hM=>
   dsimp only at h6;rw [hM.king] at h6;unfold kindOf at h6;split at h6<;>omega
 rcases (by omega:P.turn=0\/P.turn=1) with e|e<;>rw [e] at key⊢
 · rw [show ((0:Int)+1==1)=true from rfl,show ((0:Int)+1==2)=false from rfl];simp only [Bool.true_and,Bool.false_and,cond_false];cases hc:((m.t==m.f+16)||(m.t==m.f-16))
   · rw [Bool.or_eq_false_iff,beq_eq_false_iff_ne,beq_eq_false_iff_ne] at hc;rw [show ((decide (8<=m.f.toNat)&&decide (m.f.toNat<16))&&(decide (24<=m.t.toNat)&&decide (m.t.toNat<32)))=false by
      rw [Bool.eq_false_iff];simp only [ne_eq,Bool.and_eq_true,decide_eq_true_eq];omega];rfl
   rw [Bool.or_eq_true,beq_iff_eq,beq_iff_eq] at hc;rw [show ((decide (8<=m.f.toNat)&&decide (m.f.toNat<16))&&(decide (24<=m.t.toNat)&&decide (m.t.toNat<32)))=true by
      simp only [Bool.and_eq_true,decide_eq_true_eq];omega]
   simp only [cond_true];rw [i8w (by omega) (by omega)];omega
 rw [show ((1:Int)+1==1)=false from rfl,show ((1:Int)+1==2)=true from rfl];simp only [Bool.true_and,Bool.false_and,cond_false];cases hc:((m.t==m.f+16)||(m.t==m.f-16))
 · rw [Bool.or_eq_false_iff,beq_eq_false_iff_ne,beq_eq_false_iff_ne] at hc;rw [show ((decide (48<=m.f.toNat)&&decide (m.f.toNat<56))&&(decide (32<=m.t.toNat)&&decide (m.t.toNat<40)))=false by
      rw [Bool.eq_false_iff];simp only [ne_eq,Bool.and_eq_true,decide_eq_true_eq];omega];rfl
 rw [Bool.or_eq_true,beq_iff_eq,beq_iff_eq] at hc;rw [show ((decide (48<=m.f.toNat)&&decide (m.f.toNat<56))&&(decide (32<=m.t.toNat)&&decide (m.t.toNat<40)))=true by
      simp only [Bool.and_eq_true,decide_eq_true_eq];omega]
 simp only [cond_true];rw [i8w (by omega) (by omega)];omega
theorem next_turn(hV:ValidS P):otherC (psOf P).turn=turnOf (1-P.turn):=by
 have hP:=hV.turn;rw [show (psOf P).turn=turnOf P.turn from rfl,otherC_eq hP,turnOf_eq (by omega)]
theorem stPre_of{Q:SP}(hV:ValidS Q){S:Ps}(h1:S.castle=castStr Q.castle)(h2:S.turn=turnOf Q.turn)(h3:S.ep=Q.ep):StPre (boardOf Q.bd) S:=by
 have hT:=hV.turn;obtain ⟨hB,_⟩:=base_rep hV;obtain ⟨q0,q1,q2,q3⟩:=canC_eq hV;have hp:=passed_get hV.turn hV.passed;have other:∀(s:ByteArray) (t sd:Int),sd≠2->canC s t sd=canC s t 1:=by
  intro s t sd h2;unfold canC;rw [beq_eq_false_iff_ne.2 h2];rfl
 have home:∀(c sd:Int),(c=0\/c=1)->Q.turn=c->canC (castStr Q.castle) (c+1) sd=true->Q.bd (4+56*c).toNat=1+6*c:=by
  intro c sd hc e hcan;have key:∀r:Int,r=2*Q.turn\/r=2*Q.turn+1->castBit Q.castle r.toNat=true->Q.bd (4+56*c).toNat=1+6*c:=by
   intro r hr hb;have:=(king_home hV hr hb).1.2.1;rw [e] at this;rw [←this];congr 2;unfold homeK;omega
  by_cases e2:sd=2
  · rw [e2] at hcan;rcases hc with rfl|rfl
    · exact key 1 (by omega) (by rw [show (0+1:Int)=1 from rfl,q1] at hcan;exact hcan)
    exact key 3 (by omega) (by rw [show (1+1:Int)=2 from rfl,q3] at hcan;exact hcan)
  rw [other _ _ _ e2] at hcan;rcases hc with rfl|rfl
  · exact key 0 (by omega) (by rw [show (0+1:Int)=1 from rfl,q0] at hcan;exact hcan)
  exact key 2 (by omega) (by rw [show (1+1:Int)=2 from rfl,q2] at hcan;exact hcan)
 refine ⟨λp s hp hs h=>band_of hB hp hs h,by have:=castStr_size Q.castle;rw [h1];omega,?_,?_,mkBoard_kings _,?_,?_⟩
 · intro sd a b;have e:Q.turn=0:=by rw [h2] at a;rcases turnOf_cases hT with ⟨x,y⟩|⟨x,y⟩<;>omega
   rw [a,h1] at b;have hk:=home 0 sd (Or.inl rfl) e b;have:=hB.pieceAt (s:=4) (by decide);rw [show ((4:Nat):Int)=4 from rfl] at this;rw [this,show Q.bd 4=Q.bd (4+56*0:Int).toNat from rfl,hk];omega
 · intro sd a b;have e:Q.turn=1:=by rw [h2] at a;rcases turnOf_cases hT with ⟨x,y⟩|⟨x,y⟩<;>omega
   rw [a,h1] at b;have hk:=home 1 sd (Or.inr rfl) e b;have:=hB.pieceAt (s:=60) (by decide);rw [show ((60:Nat):Int)=60 from rfl] at this;rw [this,show Q.bd 60=Q.bd (4+56*1:Int).toNat from rfl,hk];omega
 · rw [h2];rcases turnOf_cases hT with ⟨a,b⟩|⟨a,b⟩<;>omega
 rw [h3];rcases hp with h|h<;>omega
theorem upPre(hV:ValidS P)(h:LegM P m)(hT:TagM P m M):UpPre (boardOf P.bd) (psOf P) M:=by
 have hs:=h.ok hV;have hf:=hs.f;have ht:=hs.t;have hp:=hs.p;have hx:=hV.bd m.f.toNat (by omega);have hx0:=h.x0 hV;have hcol:=pColor_or (p:=P.bd m.f.toNat) (by omega);refine ⟨by rw [hT.s1];exact hf,by rw [hT.s2];exact ht,by rw [at_f hV h hT];omega,by rw [at_f hV h hT];exact hcol,λhh=>?_,λhh=>?_,Nat.le_trans (castStr_size P.castle) (by decide),?_⟩
 · rw [hT.pr] at hh⊢;omega
 · rw [at_f hV h hT];rw [hT.pr] at hh⊢;exact newP_ok (by omega) hcol
 rw [hT.board];exact stPre_of (made_valid hV h) (S:=nextPs (boardOf P.bd) (psOf P) M) (next_castle hV h hT) (next_turn hV) (next_ep hV h hT)
theorem chk_next(hV:ValidS P)(h:LegM P m):inChk (boardOf (madeS P m.f m.t m.p).bd) (turnOf (1-P.turn))=chkS P m:=by
 have hV':=made_valid hV h;have hT:=hV.turn;obtain ⟨hB,hK⟩:=base_rep hV';obtain ⟨k,hk,_⟩:=valid_kings hV' (c:=1-P.turn) (by omega);rw [turnOf_eq (by omega)];exact (inChk_eq hB hK (by omega) hk).trans (inChkS_eq hk).symm
theorem allL_irr{B:Bd}{S S':Ps}(hc:S.castle=S'.castle)(ht:S.turn=S'.turn)(he:S.ep=S'.ep)(hk:S.chk=S'.chk):allL B S=allL B S':=by
 have a1:possMv B S=possMv B S':=by funext pt sq;unfold possMv pawnMv;rw [ht,he]
 have a2:dest B S=dest B S':=by funext p s;unfold dest;rw [a1,ht]
 have b1:tg1 B S=tg1 B S':=by funext M;unfold tg1;rw [he]
 have b2:tg2 B S=tg2 B S':=by funext M;unfold tg2;rw [b1]
 have b3:nextB B S=nextB B S':=by funext M;unfold nextB;rw [b2]
 have b4:tg3 B S=tg3 B S':=by funext M;unfold tg3;rw [b3,b2,ht]
 have b5:tg4 B S=tg4 B S':=by funext M;unfold tg4;rw [b3,b4,ht]
 have c1:promoT B S=promoT B S':=by
  funext s1 s2 k;induction k with
  |zero=>rfl
  |succ k ih=>unfold promoT;rw [ih,b5]
 have c2:promoF B S=promoF B S':=by funext s1 s2 k;unfold promoF;rw [c1,b5]
 have c3:s2F B S=s2F B S':=by funext p s1 s2;unfold s2F plainM;rw [c2,b5,a2]
 have c4:s1F B S=s1F B S':=by funext p s1;unfold s1F;rw [c3,a2]
 have c5:pF B S=pF B S':=by funext j;unfold pF;rw [c4,ht]
 have d1:castM B S=castM B S':=by funext t s1 s2;unfold castM;rw [b5]
 unfold allL stdL castL cl1 cl2 cl3 cl4 cc1 cc2 cc3 cc4;rw [c5,d1,ht,hc,hk]
theorem legal_irr{P Q:SP}(hb:P.bd=Q.bd)(ht:P.turn=Q.turn)(hc:P.castle=Q.castle)(he:P.ep=Q.ep):pseudoL P=pseudoL Q/\okS P=okS Q:=by
 have a1:toL P=toL Q:=by funext s t;unfold toL;rw [hb,ht]
 have a2:fromL P=fromL Q:=by funext s;unfold fromL dstL;rw [a1,hb,ht,he]
 have b1:rightB P=rightB Q:=by funext g;unfold rightB;rw [hb,hc]
 have b2:rightsTo P=rightsTo Q:=by
  funext n;induction n with
  |zero=>rfl
  |succ n ih=>unfold rightsTo;rw [ih,b1]
 have b3:freeTo P=freeTo Q:=by
  funext r n;induction n with
  |zero=>unfold freeTo;rw [hb,ht]
  |succ n ih=>unfold freeTo;rw [ih,hb]
 have b4:castR P=castR Q:=by funext r;unfold castR rightsS;rw [b2,b3,hb,ht]
 refine ⟨?_,?_⟩
 · unfold pseudoL castS;rw [a2,b4,ht]
 funext m;unfold okS atK madeS;dsimp only;rw [hb,ht]
theorem has_next(hV:ValidS P)(h:LegM P m)(hT:TagM P m M)(h4:hasTag M 16=chkS P m):hasMv (updB (boardOf P.bd) M) (nextPs (boardOf P.bd) (psOf P) M)=hasS (madeS P m.f m.t m.p):=by
 have hV':=made_valid hV h;have e:allL (updB (boardOf P.bd) M) (nextPs (boardOf P.bd) (psOf P) M)=allL (boardOf (madeQ P m).bd) (psOf (madeQ P m)):=by
  have e1:nextPs (boardOf P.bd) (psOf P) M=⟨updB (boardOf P.bd) M,castStr (madeS P m.f m.t m.p).castle,newHalf (boardOf P.bd) (psOf P) M,newFull (psOf P),turnOf (1-P.turn),epS P.bd m.f m.t,inChk (boardOf (madeS P m.f m.t m.p).bd) (turnOf (1-P.turn))⟩:=by
   unfold nextPs;rw [next_castle hV h hT,next_turn hV,next_ep hV h hT,chk_next hV h,h4]
  rw [e1,hT.board];exact allL_irr rfl rfl rfl rfl
 have e2:hasS (madeS P m.f m.t m.p)=hasS (madeQ P m):=by
  obtain ⟨x,y⟩:=legal_irr (P:=madeS P m.f m.t m.p) (Q:=madeQ P m) rfl rfl rfl rfl;unfold hasS;rw [x,y]
 unfold hasMv;rw [e,e2];unfold hasS;rw [Bool.eq_iff_iff,decide_eq_true_eq,List.any_eq_true];constructor
 · intro hp;obtain ⟨N,hN⟩:=List.exists_mem_of_length_pos hp;exact ⟨⟨N.s1,N.s2,N.promo⟩,(allL_iff hV' _).1 ⟨N,hN,rfl,rfl,rfl⟩⟩
 rintro ⟨x,hx⟩;obtain ⟨N,hN,_⟩:=(allL_iff hV' x).2 hx;exact List.length_pos_of_mem hN
theorem sgn_nil(P:SP)(f t p:Int):((bstr (sgnS P f t p)).toList==(⟨#[]⟩:ByteArray).toList)=!(chkS P ⟨f,t,p⟩):=by
 rw [bstr_toList,nil_toList];show (sgnS P f t p==[])=!(inChkS (madeS P f t p).bd (madeS P f t p).turn);unfold sgnS;cases inChkS (madeS P f t p).bd (madeS P f t p).turn
 · rfl
 cases hasS (madeS P f t p)<;>rfl
def Told(P:SP)(m:Sm):Prop:=∀k:Int,2<=k->k<m.p->toldAt P m.f m.t m.p k=false
theorem told_tag(hT:TagM P m M)(ht:Told P m):hasTag M 16=chkS P m:=by
 rw [tag16,Bool.eq_iff_iff,hT.t4];refine ⟨λhh=>hh.elim id ?_,Or.inl⟩;rintro ⟨k,a,b,c⟩;have:=ht k a b;unfold toldAt at this;rw [sgn_nil,sgn_nil,c] at this;simpa using this
theorem text_sgn(hV:ValidS P)(h:LegM P m)(hT:TagM P m M)(ht:Told P m):sgnI (boardOf P.bd) (psOf P) M=sgnS P m.f m.t m.p:=by
 have h4:=told_tag hT ht;have hh:=has_next hV h hT h4;unfold sgnI sgnS;have e:inChkS (madeS P m.f m.t m.p).bd (madeS P m.f m.t m.p).turn=chkS P m:=rfl;rw [e,h4];cases hc:chkS P m
 · rfl
 simp only [cond_true,Bool.not_true,cond_false];unfold statV;rw [hh,show (nextPs (boardOf P.bd) (psOf P) M).chk=true by rw [←hc,←h4];rfl];cases hasS (madeS P m.f m.t m.p)<;>rfl
end
def mN(i:Nat):Nat:=8*(7-i/8)+i%8
def mI(s:Int):Int:=8*(7-s/8)+s%8
theorem mN_lt{i:Nat}(h:i<64):mN i<64:=by unfold mN;omega
theorem mN_mN{i:Nat}(h:i<64):mN (mN i)=i:=by unfold mN;omega
theorem mI_rng{s:Int}(h:0<=s/\s<=63):0<=mI s/\mI s<=63:=by unfold mI;omega
theorem mI_mI{s:Int}(h:0<=s/\s<=63):mI (mI s)=s:=by unfold mI;omega
theorem mI_toNat{s:Int}(h:0<=s/\s<=63):(mI s).toNat=mN s.toNat:=by unfold mI mN;omega
theorem mI_nat{i:Nat}(h:i<64):mI (i:Int)=(mN i:Nat):=by unfold mI mN;omega
theorem mN_inj{i j:Nat}(hi:i<64)(hj:j<64)(h:mN i=mN j):i=j:=by unfold mN at h;omega
def pm(x:Int):Int:=if x>6 then x-6 else if x>0 then x+6 else x
section
variable{x:Int}
theorem pm_rng(h:0<=x/\x<=12):0<=pm x/\pm x<=12:=by unfold pm;(repeat' split)<;>omega
theorem pm_pm(h:0<=x/\x<=12):pm (pm x)=x:=by unfold pm;(repeat' split)<;>omega
theorem pm_kind(h:0<=x/\x<=12):kindOf (pm x)=kindOf x:=by unfold pm kindOf;(repeat' split)<;>omega
theorem pm_side(h:0<=x/\x<=12)(h0:x≠0):sideOf (pm x)=1-sideOf x:=by unfold pm sideOf;(repeat' split)<;>omega
theorem pm_zero(h:0<=x/\x<=12):pm x=0↔x=0:=by unfold pm;(repeat' split)<;>omega
theorem pm_of{k o:Int}(hk:1<=k/\k<=6)(ho:o=0\/o=1):pm (k+6*o)=k+6*(1-o):=by unfold pm;(repeat' split)<;>omega
theorem pm_bne(h:0<=x/\x<=12):(pm x !=0)=(x !=0):=by rw [Bool.eq_iff_iff,bne_iff_ne,bne_iff_ne,ne_eq,ne_eq,pm_zero h]
end
structure MirB(b c:Nat->Int):Prop where
 e:∀i,i<64->c (mN i)=pm (b i)
 r:∀i,i<64->0<=b i/\b i<=12
section
variable{b c:Nat->Int}
theorem MirB.symm(h:MirB b c):MirB c b:=by
 refine ⟨λi hi=>?_,λi hi=>?_⟩<;>have h1:=h.e (mN i) (mN_lt hi)<;>rw [mN_mN hi] at h1<;>rw [h1]
 ·rw [pm_pm (h.r _ (mN_lt hi))]
 exact pm_rng (h.r _ (mN_lt hi))
theorem df_m{s t:Nat}(hs:s<64)(ht:t<64):df (mN s) (mN t)=df s t:=by unfold df mN;omega
theorem dr_m{s t:Nat}(hs:s<64)(ht:t<64):dr (mN s) (mN t)=-dr s t:=by unfold dr mN;omega
def btwChM:Bool:=(List.range 64).all λs=>(List.range 64).all λt=>!(strt s t||slnt s t)||(btw (mN s) (mN t)==(btw s t).map mN&&(btw s t).all λj=>Nat.blt j 64)
theorem btwChM_ok:btwChM=true:=by decide+kernel
theorem clr_m(h:MirB b c){s t:Nat}(hs:s<64)(ht:t<64)(hal:(strt s t||slnt s t)=true):clr (occS c) (mN s) (mN t)=clr (occS b) s t:=by
 have h1:=List.all_eq_true.1 (List.all_eq_true.1 btwChM_ok s (List.mem_range.2 hs)) t (List.mem_range.2 ht);rw [hal,Bool.not_true,Bool.false_or,Bool.and_eq_true,beq_iff_eq,List.all_eq_true] at h1;unfold clr;rw [h1.1,List.all_map,Bool.eq_iff_iff,List.all_eq_true,List.all_eq_true];refine forall_congr' λj=>forall_congr' λhj=>?_;have hj:j<64:=by have:=h1.2 j hj;simpa using this
 show (!(c (mN j) !=0))=true↔(!(b j !=0))=true;rw [h.e j hj,pm_bne (h.r j hj)]
theorem strt_m{s t:Nat}(hs:s<64)(ht:t<64):strt (mN s) (mN t)=strt s t:=by
 unfold strt;rw [df_m hs ht,dr_m hs ht,Bool.eq_iff_iff];simp only [Bool.or_eq_true,beq_iff_eq];omega
theorem slnt_m{s t:Nat}(hs:s<64)(ht:t<64):slnt (mN s) (mN t)=slnt s t:=by
 unfold slnt;rw [df_m hs ht,dr_m hs ht,Bool.eq_iff_iff];simp only [Bool.or_eq_true,beq_iff_eq];omega
theorem and_clr(h:MirB b c){s t:Nat}(hs:s<64)(ht:t<64){a a':Bool}(e:a'=a)(ha:a=true->(strt s t||slnt s t)=true):(a'&&clr (occS c) (mN s) (mN t))=(a&&clr (occS b) s t):=by
 subst e;cases a'
 ·rfl
 rw [clr_m h hs ht (ha rfl)]
theorem hit_m(h:MirB b c){s t:Nat}(hs:s<64)(ht:t<64):hitS c (mN s) (mN t)=hitS b s t:=by
 have hr:=h.r s hs;have e1:decide (mN s≠mN t)=decide (s≠t):=by rw [decide_eq_decide];exact ⟨λe q=>e (q▸rfl),λe q=>e (mN_inj hs ht q)⟩
 unfold hitS;rw [h.e s hs,pm_bne hr,pm_kind hr,e1];by_cases h0:b s=0
 ·rw [h0];simp
 rw [pm_side hr h0];have hn:near (mN s) (mN t)=near s t:=by unfold near;rw [df_m hs ht,dr_m hs ht,Int.neg_mul_neg]
 have hj:jump (mN s) (mN t)=jump s t:=by unfold jump;rw [df_m hs ht,dr_m hs ht,Int.neg_mul_neg]
 have hp:(dr (mN s) (mN t)==1-2*(1-sideOf (b s)))=(dr s t==1-2*sideOf (b s)):=by rw [dr_m hs ht,Bool.eq_iff_iff,beq_iff_eq,beq_iff_eq];omega
 rw [hn,hj,hp,df_m hs ht,and_clr h hs ht (strt_m hs ht) λe=>by rw [e];rfl,and_clr h hs ht (slnt_m hs ht) λe=>by rw [e,Bool.or_true],
  and_clr h hs ht (a:=strt s t||slnt s t) (by rw [strt_m hs ht,slnt_m hs ht]) id]
theorem att_imp(h:MirB b c){t:Nat}(ht:t<64){o:Int}(ha:attS b t o=true):attS c (mN t) (1-o)=true:=by
 unfold attS at ha;obtain ⟨i,hi,h1⟩:=List.any_eq_true.1 ha;have hi:=List.mem_range.1 hi;simp only [Bool.and_eq_true,bne_iff_ne,beq_iff_eq] at h1;have hr:=h.r i hi;refine att_of (mN_lt hi) (by rw [h.e i hi,ne_eq,pm_zero hr];exact h1.1) (by rw [h.e i hi,pm_side hr h1.1,h1.2.1]) ?_;rw [hit_m h hi ht];exact h1.2.2
theorem att_m(h:MirB b c){t:Nat}(ht:t<64)(o:Int):attS c (mN t) (1-o)=attS b t o:=by
 rw [Bool.eq_iff_iff];refine ⟨λha=>?_,att_imp h ht⟩;have:=att_imp h.symm (mN_lt ht) ha
 rwa [mN_mN ht,show 1-(1-o)=o by omega] at this
theorem only_m(h:MirB b c){k o:Int}(hk:1<=k/\k<=6)(ho:o=0\/o=1){i:Nat}(hi:OnlyAt b (k+6*o) i):OnlyAt c (k+6*(1-o)) (mN i):=by
 refine ⟨mN_lt hi.1,by rw [h.e i hi.1,hi.2.1,pm_of hk ho],λs hs e=>?_⟩;have h1:=h.symm.e s hs;rw [e,pm_of hk (by omega),show 1-(1-o)=o by omega] at h1;have:=hi.2.2 _ (mN_lt hs) h1;rw [←this,mN_mN hs]
end
structure Mir(P Q:SP):Prop where
 b:MirB P.bd Q.bd
 t:Q.turn=1-P.turn
 ep:Q.ep=if P.ep<0 then P.ep else mI P.ep
 cr:0<=Q.castle/\Q.castle<=15
 cb:∀r,r<4->castBit Q.castle r=castBit P.castle ((r+2)%4)
section
variable{P Q:SP}{f t:Nat}{p r:Int}{m:Sm}
theorem ep_cases(hV:ValidS P):P.ep=-1\/(0<=P.ep/\P.ep<=63):=by
 rcases passed_get hV.turn hV.passed with h|h
 ·exact Or.inl h
 exact Or.inr h.1
theorem Mir.symm(hV:ValidS P)(h:Mir P Q):Mir Q P:=by
 have he:=ep_cases hV;refine ⟨h.b.symm,by have:=h.t;omega,?_,hV.castle,λr hr=>?_⟩
 ·rw [h.ep];rcases he with e|e
  ·rw [e];decide
  have h1:=mI_rng e;rw [if_neg (by omega),if_neg (by omega),mI_mI e]
 rw [h.cb _ (by omega),show ((r+2)%4+2)%4=r by omega]
def rI(r:Int):Int:=(r+2)%4
structure HomeM(r:Int):Prop where
 k:homeK (rI r)=mI (homeK r)
 t:homeK (rI r)+(2*cwS (rI r))=mI (homeK r+(2*cwS r))
 kn:(homeK (rI r)).toNat=mN (homeK r).toNat
 rn:(homeR (rI r)).toNat=mN (homeR r).toNat
 mn:(homeK (rI r)+cwS (rI r)).toNat=mN (homeK r+cwS r).toNat
 tn:(homeK (rI r)+(2*cwS (rI r))).toNat=mN (homeK r+(2*cwS r)).toNat
 c:(cnS (rI r)).toNat=(cnS r).toNat
 sq:∀j,j<(cnS r).toNat->(csq (rI r) (j:Nat)).toNat=mN (csq r (j:Nat)).toNat/\(csq r (j:Nat)).toNat<64
 lt:(homeK r).toNat<64/\(homeR r).toNat<64/\(homeK r+cwS r).toNat<64/\(homeK r+(2*cwS r)).toNat<64
theorem home_m(hr:0<=r/\r<=3):HomeM r:=by
 rcases (by omega:r=0\/r=1\/r=2\/r=3) with rfl|rfl|rfl|rfl<;>exact ⟨by decide,by decide,by decide,by decide,by decide,by decide,by decide,by decide,by decide⟩
theorem cb_r(h:Mir P Q)(hr:0<=r/\r<=3):castBit Q.castle (rI r).toNat=castBit P.castle r.toNat:=by
 rw [h.cb _ (by unfold rI;omega),show ((rI r).toNat+2)%4=r.toNat by unfold rI;omega]
theorem rights_bits(hc:0<=P.castle/\P.castle<=15)(h:∀r:Nat,r<4->rightB P (r:Int)=castBit P.castle r):rightsS P=P.castle:=by
 have e1:rightsS P=sumB (rightB P 0) (rightB P 1) (rightB P 2) (rightB P 3):=rfl;have c0:=h 0 (by decide);have c1:=h 1 (by decide);have c2:=h 2 (by decide);have c3:=h 3 (by decide);rw [e1,show 0=((0:Nat):Int) from rfl,show 1=((1:Nat):Int) from rfl,show 2=((2:Nat):Int) from rfl,show 3=((3:Nat):Int) from rfl,c0,c1,c2,c3];generalize P.castle=x at*
 obtain ⟨q,rfl⟩:∃q:Nat,x=q:=⟨x.toNat,by omega⟩;have hall:∀q,q<16->sumB (castBit (q:Nat) 0) (castBit (q:Nat) 1) (castBit (q:Nat) 2) (castBit (q:Nat) 3)=(q:Nat):=by decide+kernel
 exact hall q (by omega)
theorem bd_zero(h:Mir P Q){s:Nat}(hs:s<64):Q.bd (mN s)=0↔P.bd s=0:=by rw [h.b.e s hs,pm_zero (h.b.r s hs)]
theorem bd_of(h:Mir P Q){s:Nat}(hs:s<64){k o:Int}(hk:1<=k/\k<=6)(ho:o=0\/o=1)(e:P.bd s=k+6*o):Q.bd (mN s)=k+6*(1-o):=by rw [h.b.e s hs,e,pm_of hk ho]
theorem valid_m(hV:ValidS P)(h:Mir P Q)(hh:0<=Q.half)(hF:1<=Q.full):ValidS Q:=by
 have hT:=hV.turn;have kings:∀c:Int,0<=c/\c<=1->∃k:Nat,OnlyAt P.bd (1+6*c) k/\OnlyAt Q.bd (1+6*(1-c)) (mN k):=λc hc=>by
  obtain ⟨k,hk,_⟩:=valid_kings hV hc;exact ⟨k,hk,only_m h.b (by omega) (by omega) hk⟩
 refine ⟨h.b.symm.r,λi hi hk h0=>?_,by rw [h.t];omega,h.cr,hh,hF,?_,?_,?_,?_,?_⟩
 ·have h1:=h.b.symm.e i hi;have hr:=h.b.symm.r i hi;have:=hV.pawns (mN i) (mN_lt hi) (by rw [h1,pm_kind hr];exact hk) (by rw [h1,ne_eq,pm_zero hr];exact h0);unfold mN at this;omega
 ·obtain ⟨k,_,hk⟩:=kings 1 (by omega);exact count_only hk
 ·obtain ⟨k,_,hk⟩:=kings 0 (by omega);exact count_only hk
 ·refine rights_bits h.cr λr hr=>?_;unfold rightB;rw [Int.toNat_natCast];cases hb:castBit Q.castle r
  ·rfl
  have hm:=home_m (r:=rI r) (by unfold rI;omega);have er:rI (rI r)=r:=by unfold rI;omega
  have hh:=right_home hV (r:=rI r) (by unfold rI;omega);rw [show (rI r).toNat=(r+2)%4 by unfold rI;omega,←h.cb r hr,hb] at hh;unfold rightB at hh;have hh:=hh.symm;simp only [Bool.and_eq_true,beq_iff_eq] at hh;have h1:=bd_of h hm.lt.1 (by omega) (by unfold rI;omega) hh.1.2;have h2:=bd_of h hm.lt.2.1 (by omega) (by unfold rI;omega) hh.2;rw [←hm.kn,er] at h1;rw [←hm.rn,er] at h2;rw [h1,h2];simp only [Bool.true_and,Bool.and_eq_true,beq_iff_eq];unfold rI;omega
 ·unfold passedS;rcases passed_get hT hV.passed with e|⟨e,e1,e2,e3,e4⟩
  ·rw [h.ep,e];rfl
  have hr:=mI_rng e;rw [show Q.ep=mI P.ep by rw [h.ep,if_neg (by omega)],h.t];have z:=(bd_zero h (by omega)).2 e2;have z4:=(bd_zero h (s:=(P.ep+8*(1-2*P.turn)).toNat) (by omega)).2 e4;have z3:=bd_of h (s:=(P.ep-8*(1-2*P.turn)).toNat) (by omega) (by omega) (by omega) e3;rw [if_neg (by omega),if_neg]
  ·simp only [Bool.and_eq_true,beq_iff_eq];rw [show (8*(mI P.ep/8-(1-2*(1-P.turn)))+mI P.ep%8).toNat=mN (P.ep-8*(1-2*P.turn)).toNat by unfold mI mN;omega,
    show (8*(mI P.ep/8+(1-2*(1-P.turn)))+mI P.ep%8).toNat=mN (P.ep+8*(1-2*P.turn)).toNat by unfold mI mN;omega]
   exact ⟨z3,z4⟩
  rw [mI_toNat e];rintro (hh|hh)
  ·apply hh;unfold mI;omega
  exact hh z
 obtain ⟨k,hk,hk'⟩:=kings (1-P.turn) (by omega);rw [h.t,show 1-(1-P.turn)=P.turn by omega];rw [show 1-(1-P.turn)=P.turn by omega] at hk';rw [kingAt_only hk',Int.toNat_natCast,att_m h.b hk.1];have:=hV.safe
 rwa [kingAt_only hk,Int.toNat_natCast] at this
theorem std_m(hV:ValidS P)(hV':ValidS Q)(h:Mir P Q)(hs:StdM P f t p):StdM Q (mN f) (mN t) p:=by
 have hT:=hV.turn;have hf:=hs.hf;have ht:=hs.ht;have rf:=hV.bd f hf;have rt:=hV.bd t ht;have ef:=h.b.e f hf;have et:=h.b.e t ht;have hft:=mN_lt hf;have htt:=mN_lt ht;have hx:Q.bd (mN f)≠0:=by rw [ne_eq,bd_zero h hf];exact hs.x0
 have hsd:sideOf (Q.bd (mN f))=Q.turn:=by rw [ef,pm_side rf hs.x0,hs.side,h.t]
 have hk:kindOf (Q.bd (mN f))=kindOf (P.bd f):=by rw [ef,pm_kind rf]
 refine ⟨hft,htt,hx,hsd,?_,?_,?_⟩
 ·by_cases h6:kindOf (P.bd f)=6
  ·have hd:dstL Q (mN f:Nat)=stepsL Q.bd Q.ep (mN f:Nat):=by unfold dstL;rw [Int.toNat_natCast,hk,h6];rfl
   rw [hd,steps_iff (sd:=Q.turn) (by omega) (by rw [Int.toNat_natCast];exact hsd)];refine ⟨by omega,?_⟩;simp only [Int.toNat_natCast];rcases (std_pawn hV hs h6).2 with ⟨e,z⟩|⟨e,e1,z1,z⟩|⟨e1,e2,e3⟩
   ·exact Or.inl ⟨by rw [h.t];unfold mN;omega,(bd_zero h ht).2 z⟩
   ·refine Or.inr (Or.inl ⟨by rw [h.t];unfold mN;omega,by rw [h.t];unfold mN;omega,?_,(bd_zero h ht).2 z⟩);rw [show (((mN f:Nat):Int)+8*(1-2*Q.turn)).toNat=mN ((f:Int)+8*(1-2*P.turn)).toNat by rw [h.t];unfold mN;omega];exact (bd_zero h (by omega)).2 z1
   refine Or.inr (Or.inr ⟨by unfold mN;omega,by rw [h.t];unfold mN;omega,?_⟩);unfold stepB at e3⊢;simp only [Int.toNat_natCast,Bool.or_eq_true,Bool.and_eq_true,bne_iff_ne,beq_iff_eq,ne_eq] at e3⊢;rcases e3 with ⟨a,b⟩|⟨⟨a,b⟩,c⟩
   ·exact Or.inl ⟨by rw [bd_zero h ht];exact a,by rw [et,pm_side rt a,h.t];omega⟩
   exact Or.inr ⟨⟨(bd_zero h ht).2 a,by rw [h.ep,if_neg (by omega),←b,mI_nat ht]⟩,by rw [h.t];unfold mN;omega⟩
  have hd:dstL Q (mN f:Nat)=reachL Q.bd (mN f:Nat):=by unfold dstL;rw [Int.toNat_natCast,hk,show (kindOf (P.bd f)==6)=false from beq_eq_false_iff_ne.2 h6];rfl
  rw [hd,reach_iff hV'.bd (by omega) (by rw [Int.toNat_natCast];exact hx) (by rw [Int.toNat_natCast,hk];exact h6)];refine ⟨by omega,?_⟩;simp only [Int.toNat_natCast];rw [hit_m h.b hf ht];exact std_hit hV hs h6
 ·rintro ⟨a,b⟩;have a':P.bd t≠0:=by rwa [ne_eq,bd_zero h ht] at a
  rw [et,pm_side rt a',h.t] at b;exact hs.own ⟨a',by omega⟩
 rcases hs.pr with e|⟨a,b,c⟩
 ·exact Or.inl e
 exact Or.inr ⟨by rw [hk];exact a,by rw [h.t];unfold mN;omega,c⟩
theorem upd_m{b c:Nat->Int}(h:MirB b c){k:Nat}(hk:k<64){v v':Int}(hv:0<=v/\v<=12)(e:v'=pm v):MirB (upd b k v) (upd c (mN k) v'):=by
 refine ⟨λi hi=>?_,upd_rng h.r k hv⟩;unfold upd;by_cases hik:i=k
 ·rw [hik,if_pos rfl,if_pos rfl,e]
 rw [if_neg hik,if_neg λq=>hik (mN_inj hi hk q)];exact h.e i hi
theorem MirB.of{b c b' c':Nat->Int}(h:MirB b c)(hb:∀s,b' s=b s)(hc:∀s,c' s=c s):MirB b' c':=by
 rw [funext hb,funext hc];exact h
theorem std_bd(hV:ValidS P)(hV':ValidS Q)(h:Mir P Q)(hs:StdM P f t p):MirB (mk4 P.bd P.turn f t p) (mk4 Q.bd Q.turn (mN f) (mN t) p):=by
 have hT:=hV.turn;have hf:=hs.hf;have ht:=hs.ht;have rf:=hV.bd f hf;have rt:=hV.bd t ht;have ef:=h.b.e f hf;have hs':=std_m hV hV' h hs;have hk:kindOf (Q.bd (mN f))=kindOf (P.bd f):=by rw [ef,pm_kind rf]
 rcases std_ep hV hs with ⟨⟨ex,et,eep,ea,er⟩,hp0⟩|⟨hn,_⟩
 ·subst hp0;have h6:kindOf (P.bd f)=6:=by rw [ex];unfold kindOf;split<;>omega
  obtain ⟨q,hq⟩:∃q:Nat,(8*((f:Int)/8)+(t:Int)%8)=q:=⟨(8*((f:Int)/8)+(t:Int)%8).toNat,by omega⟩;have h1:=mk4_ep (bd:=P.bd) (turn:=P.turn) h6 et (by omega) hq;have h2:=mk4_ep (bd:=Q.bd) (turn:=Q.turn) (f:=mN f) (t:=mN t) (q:=mN q) (hk.trans h6) ((bd_zero h ht).2 et) (by unfold mN;omega) (by unfold mN;omega);exact (upd_m (upd_m (upd_m h.b (k:=q) (by omega) (by omega) rfl) hf (by omega) rfl) ht rf ef).of h1 h2
 have h1:=mk4_normal (turn:=P.turn) (p:=p) hn (std_cast hV hs);have h2:=mk4_normal (bd:=Q.bd) (turn:=Q.turn) (p:=p) (f:=mN f) (t:=mN t) (λa b=>by have:=hn ((bd_zero h ht).1 a) (hk▸b);unfold mN;omega) (std_cast hV' hs');refine (upd_m (upd_m h.b hf (v:=0) (by omega) rfl) ht (v:=if p≠0 then p+6*P.turn else P.bd f) ?_ ?_).of h1 h2
 ·split
  ·rcases hs.pr with e|e<;>omega
  exact rf
 by_cases hp:p=0
 ·rw [if_neg (by omega),if_neg (by omega)];exact ef
 rw [if_pos hp,if_pos hp,h.t,pm_of (by rcases hs.pr with e|e<;>omega) (by omega)]
end
def mM(m:Sm):Sm:=⟨mI m.f,mI m.t,m.p⟩
section
variable{P Q:SP}{f t:Nat}{p r:Int}{m:Sm}
theorem mM_mM(h:SmOk m):mM (mM m)=m:=by
 have h1:=mI_mI h.f;have h2:=mI_mI h.t;cases m;unfold mM;dsimp only at*;rw [h1,h2]
theorem cast_r(hV:ValidS P)(hr:r=2*P.turn\/r=2*P.turn+1):0<=r/\r<=3:=by have:=hV.turn;omega
theorem castok_m(hV:ValidS P)(hV':ValidS Q)(h:Mir P Q)(hc:CastOk P r):CastOk Q (rI r):=by
 have hT:=hV.turn;have hr:=cast_r hV hc.hr;have hm:=home_m hr;obtain ⟨k,hk,_⟩:=valid_kings hV hT;have hk':=only_m h.b (k:=1) (by omega) (by omega) hk;rw [←h.t] at hk';have e:∀{s:Nat},s<64->attS Q.bd (mN s) (1-Q.turn)=attS P.bd s (1-P.turn):=λhs=>by
  have:=att_m h.b hs (1-P.turn);rwa [show 1-(1-P.turn)=1-Q.turn by rw [h.t]] at this
 refine ⟨by have:=hc.hr;have:=h.t;unfold rI;omega,by rw [cb_r h hr];exact hc.bit,?_,?_,?_,λj hj=>?_⟩
 ·rw [chk_eq hV' hk',e hk.1,←chk_eq hV hk];exact hc.chk
 ·rw [hm.mn,e hm.lt.2.2.1];exact hc.a1
 ·rw [hm.tn,e hm.lt.2.2.2];exact hc.a2
 rw [hm.c] at hj;rw [(hm.sq j hj).1,bd_zero h (hm.sq j hj).2];exact hc.emp j hj
theorem cast_bd(hV:ValidS P)(hV':ValidS Q)(h:Mir P Q)(hc:CastM P r)(hc':CastM Q (rI r)):MirB (mk4 P.bd P.turn (homeK r) (homeK r+(2*cwS r)) 0) (mk4 Q.bd Q.turn (homeK (rI r)) (homeK (rI r)+(2*cwS (rI r))) 0):=by
 have hT:=hV.turn;have hm:=home_m (cast_r hV hc.hr);refine (upd_m (upd_m (upd_m (upd_m h.b hm.lt.1 (v:=0) (by omega) rfl) hm.lt.2.2.2 (v:=1+6*P.turn) (by omega) ?_) hm.lt.2.1 (v:=0) (by omega) rfl) hm.lt.2.2.1 (v:=3+6*P.turn) (by omega) ?_).of (λs=>mk4_cast hV hc s) (λs=>(mk4_cast hV' hc' s).trans (by rw [hm.kn,hm.rn,hm.mn,hm.tn];rfl))
 ·rw [h.t,pm_of (by omega) (by omega)]
 rw [h.t,pm_of (by omega) (by omega)]
theorem made_bd(hV:ValidS P)(hV':ValidS Q)(h:Mir P Q)(hL:LegM P m):MirB (madeS P m.f m.t m.p).bd (madeS Q (mI m.f) (mI m.t) m.p).bd:=by
 cases hL with
 |std f t p hs ho=>
  dsimp only;rw [mI_nat hs.1.hf,mI_nat hs.1.ht];exact std_bd hV hV' h hs.1
 |cast r hc hM=>
  have hm:=home_m (cast_r hV hc.hr);have hc':=castok_m hV hV' h hc;dsimp only;rw [←hm.k,←hm.t];exact cast_bd hV hV' h hM (castM_of hV' hc'.hr hc'.bit hc'.emp)
theorem leg_m(hV:ValidS P)(hV':ValidS Q)(h:Mir P Q)(hL:LegM P m):LegM Q (mM m):=by
 have hT:=hV.turn;cases hL with
 |std f t p hs ho=>
  have hf:=hs.1.hf;have ht:=hs.1.ht;have hs':StdP Q (mN f) (mN t) p:=⟨std_m hV hV' h hs.1,λe hh=>hs.2 e ⟨by rw [←hh.1,h.b.e f hf,pm_kind (h.b.r f hf)],by have:=hh.2;rw [h.t] at this;unfold mN at this;omega⟩⟩;obtain ⟨k,hk,_⟩:=valid_kings hV hT;have hk':=only_m h.b (k:=1) (by omega) (by omega) hk;rw [←h.t] at hk';have o1:=okS_eq hV hk (f:=f) (t:=t) (p:=p);have o2:=okS_eq hV' hk' (f:=mN f) (t:=mN t) (p:=p);have e:(if mN k=mN f then mN t else mN k)=mN (if k=f then t else k):=by
   by_cases q:k=f
   ·rw [if_pos q,if_pos (by rw [q])]
   rw [if_neg q,if_neg λx=>q (mN_inj hk.1 hf x)]
  have a:=att_m (std_bd hV hV' h hs.1) (t:=if k=f then t else k) (by split;exact ht;exact hk.1) (1-P.turn);rw [show 1-(1-P.turn)=1-Q.turn by rw [h.t]] at a;rw [e,a,←o1,ho] at o2;have:=LegM.std _ _ _ hs' o2;show LegM Q ⟨mI f,mI t,p⟩;rw [mI_nat hf,mI_nat ht];exact this
 |cast r hc hM=>
  have hm:=home_m (cast_r hV hc.hr);have hc':=castok_m hV hV' h hc;show LegM Q ⟨mI (homeK r),mI (homeK r+(2*cwS r)),0⟩;rw [←hm.k,←hm.t];exact .cast _ hc' (castM_of hV' hc'.hr hc'.bit hc'.emp)
theorem home_eq{s:Int}(hs:0<=s/\s<=63){k:Nat}(hk:k<4):(mI s==homeK k)=(s==homeK ((k+2)%4:Nat))/\(mI s==homeR k)=(s==homeR ((k+2)%4:Nat)):=by
 constructor<;>rw [Bool.eq_iff_iff,beq_iff_eq,beq_iff_eq]<;>rcases (by omega:k=0\/k=1\/k=2\/k=3) with rfl|rfl|rfl|rfl<;>simp [homeK,homeR]<;>unfold mI<;>omega
theorem touch_m{f t:Int}(hf:0<=f/\f<=63)(ht:0<=t/\t<=63){k:Nat}(hk:k<4):touch (mI f) (mI t) k=touch f t ((k+2)%4):=by
 unfold touch;rw [(home_eq hf hk).1,(home_eq hf hk).2,(home_eq ht hk).1,(home_eq ht hk).2]
theorem ep_m(h:Mir P Q)(hs:SmOk m):epS Q.bd (mI m.f) (mI m.t)=if epS P.bd m.f m.t<0 then epS P.bd m.f m.t else mI (epS P.bd m.f m.t):=by
 have hf:=hs.f;have ht:=hs.t;unfold epS;rw [mI_toNat hf,h.b.e _ (by omega),pm_kind (h.b.r _ (by omega)),show ((mI m.t==mI m.f+16)||(mI m.t==mI m.f-16))=((m.t==m.f+16)||(m.t==m.f-16)) by
  rw [Bool.eq_iff_iff];simp only [Bool.or_eq_true,beq_iff_eq];unfold mI;omega]
 cases hc:((kindOf (P.bd m.f.toNat)==6)&&((m.t==m.f+16)||(m.t==m.f-16)))
 ·rfl
 rw [Bool.and_eq_true] at hc;have h2:=hc.2;simp only [Bool.or_eq_true,beq_iff_eq] at h2;simp only [cond_true];rw [if_neg (by omega)];unfold mI;omega
theorem made_m(hV:ValidS P)(hV':ValidS Q)(h:Mir P Q)(hL:LegM P m):Mir (madeQ P m) (madeQ Q (mM m)):=by
 have hs:=hL.ok hV;refine ⟨made_bd hV hV' h hL,by show 1-Q.turn=1-(1-P.turn);rw [h.t],ep_m h hs,made_castle hV'.castle (mI m.f) (mI m.t) m.p,λr hr=>?_⟩;show castBit (leftTo Q.castle (mI m.f) (mI m.t) 4) r=castBit (leftTo P.castle m.f m.t 4) ((r+2)%4);rw [leftTo_B,leftTo_B,(left_get hV'.castle _).1 r hr,(left_get hV.castle _).1 _ (by omega),h.cb r hr,touch_m hs.f hs.t hr]
theorem has_imp(hV:ValidS P)(hV':ValidS Q)(h:Mir P Q)(ha:hasS P=true):hasS Q=true:=by
 unfold hasS at*
 obtain ⟨n,hn,ho⟩:=List.any_eq_true.1 ha;have:=(leg_m hV hV' h (legM hV ⟨hn,ho⟩)).okS hV';exact List.any_eq_true.2 ⟨_,this.1,this.2⟩
theorem has_m(hV:ValidS P)(hV':ValidS Q)(h:Mir P Q):hasS Q=hasS P:=by
 rw [Bool.eq_iff_iff];exact ⟨has_imp hV' hV (h.symm hV),has_imp hV hV' h⟩
theorem has_irr{P Q:SP}(hb:P.bd=Q.bd)(ht:P.turn=Q.turn)(hc:P.castle=Q.castle)(he:P.ep=Q.ep):hasS P=hasS Q:=by
 obtain ⟨a,b⟩:=legal_irr hb ht hc he;unfold hasS;rw [a,b]
theorem sgn_m(hV:ValidS P)(hV':ValidS Q)(h:Mir P Q)(hL:LegM P m):sgnS Q (mI m.f) (mI m.t) m.p=sgnS P m.f m.t m.p:=by
 have hT:=hV.turn;have hW:=made_valid hV hL;have hL':=leg_m hV hV' h hL;have hW':=made_valid hV' hL';have hM:=made_m hV hV' h hL;have e1:hasS (madeS Q (mI m.f) (mI m.t) m.p)=hasS (madeS P m.f m.t m.p):=(has_irr (P:=madeS Q (mI m.f) (mI m.t) m.p) (Q:=madeQ Q (mM m)) rfl rfl rfl rfl).trans ((has_m hW hW' hM).trans (has_irr (P:=madeQ P m) (Q:=madeS P m.f m.t m.p) rfl rfl rfl rfl));obtain ⟨k,hk,_⟩:=valid_kings hW (c:=1-P.turn) (by omega);have hk':=only_m hM.b (k:=1) (by omega) (by omega) hk;have e2:inChkS (madeS Q (mI m.f) (mI m.t) m.p).bd (madeS Q (mI m.f) (mI m.t) m.p).turn=inChkS (madeS P m.f m.t m.p).bd (madeS P m.f m.t m.p).turn:=by
  show inChkS (madeQ Q (mM m)).bd (1-Q.turn)=inChkS (madeQ P m).bd (1-P.turn);rw [show 1-Q.turn=1-(1-P.turn) by rw [h.t],inChkS_eq hk',inChkS_eq hk,att_m hM.b hk.1]
 unfold sgnS;rw [e1,e2]
theorem leg_k(hV:ValidS P)(hL:LegM P m){k:Int}(h2:2<=k)(hk:k<m.p):LegM P ⟨m.f,m.t,k⟩:=by
 cases hL with
 |std f t p hs ho=>
  dsimp only at*
  have hs':StdM P f t k:=⟨hs.1.hf,hs.1.ht,hs.1.x0,hs.1.side,hs.1.dst,hs.1.own,by rcases hs.1.pr with e|⟨a,b,c⟩;omega;exact Or.inr ⟨a,b,by omega⟩⟩;exact .std f t k ⟨hs',λe=>by omega⟩ (by rw [←okS_prom hV hs.1 hs' (by omega) (by omega)];exact ho)
 |cast r hc hM=>dsimp only at hk;omega
theorem told_m(hV:ValidS P)(hV':ValidS Q)(h:Mir P Q)(hL:LegM P m)(ht:Told P m):Told Q (mM m):=λk h2 hk=>by
 have:=ht k h2 hk;have a:=sgn_m hV hV' h (leg_k hV hL h2 hk);have b:=sgn_m hV hV' h hL;dsimp only at a;show toldAt Q (mI m.f) (mI m.t) m.p k=false;unfold toldAt at this⊢;rw [a,b];exact this
theorem right_m(hR:RightS P)(h:Mir P Q)(hh:0<=Q.half)(hF:1<=Q.full):RightS Q:=by
 have hV:=hR.valid;have hV':=valid_m hV h hh hF;obtain ⟨l,hl,hn⟩:=hR.few;refine ⟨hV',l.map mM,⟨λm=>?_,by rw [List.length_map];exact hl.len⟩,by rw [List.length_map];exact hn⟩;constructor
 ·intro hm;obtain ⟨x,hx,rfl⟩:=List.mem_map.1 hm;exact (leg_m hV hV' h (legM hV ((hl.mem x).1 hx))).okS hV'
 intro hm;have hL:=legM hV' hm;have:=leg_m hV' hV (h.symm hV) hL;exact List.mem_map.2 ⟨_,(hl.mem _).2 (this.okS hV),mM_mM (hL.ok hV')⟩
end
end Go.Proofs.YtgnhellfhjoaaaaGreatDoor
