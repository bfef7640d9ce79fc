/-
  FnLanWritten: in every right position each legal move is written in long algebraic notation as the definition writes it, and what is written is read as the move (a part of the proof).
  Conditions: those of each theorem.
-/
import Derived.Test.YtgnhellfhjoaaaaGreatDoorB01
import Derived.Test.YtgnhellfhjoaaaaGreatDoorB02
import Derived.Test.YtgnhellfhjoaaaaGreatDoorB05
set_option linter.unusedVariables false
set_option linter.unusedSimpArgs false
namespace Go.Proofs.YtgnhellfhjoaaaaGreatDoor
open Go Go.RowKit
set_option maxRecDepth 100000
theorem fm_mem{α:Type}{f:Int→List α}{n:Nat}{x:α}:x∈fm f n↔∃k:Nat,k<n∧x∈f (k:Int):=by
 unfold fm;rw [List.mem_flatMap];exact ⟨fun ⟨k,hk,hx⟩=>⟨k,List.mem_range.1 hk,hx⟩,fun ⟨k,hk,hx⟩=>⟨k,List.mem_range.2 hk,hx⟩⟩
theorem keepM_mem{m M:Mv}:M∈keepM m↔tagb m.tags 5=false∧M=m:=by
 unfold keepM;rw [tag32];cases tagb m.tags 5<;>simp
theorem sqRank_nat:∀t:Nat,t<64→sqRank (t:Int)=((t/8:Nat):Int):=by decide
theorem isPromo_iff{P:SP}(hV:ValidS P){f t:Nat}(hf:f<64)(ht:t<64)(h0:P.bd f≠0)(hs:sideOf (P.bd f)=P.turn):
  isPromo (P.bd f) t=true↔kindOf (P.bd f)=6∧(t:Int)/8=7-7*P.turn:=by
 have hT:=hV.turn;have hx:=side_of (hV.bd f hf) h0;unfold isPromo;rw [sqRank_nat t ht];simp only [Bool.or_eq_true,Bool.and_eq_true,beq_iff_eq];omega
theorem s2F_mem{P:SP}(hV:ValidS P){s t:Nat}(hs:s<64)(ht:t<64)(h0:P.bd s≠0)(hsd:sideOf (P.bd s)=P.turn)(M:Mv):
  M∈s2F (boardOf P.bd) (psOf P) (P.bd s) s t↔StdM P s t 0∧M∈(bif isPromo (P.bd s) t then fm (promoF (boardOf P.bd) (psOf P) s t) 4 else keepM (plainM (boardOf P.bd) (psOf P) s t)):=by
 have hd:=dest_iff hV hs ht h0 hsd;have hb:=band_bbSq (a:=dest (boardOf P.bd) (psOf P) (P.bd s) s) ht;unfold s2F;cases hc:(band (dest (boardOf P.bd) (psOf P) (P.bd s) s) (bbSq t)==0)
 ·rw [beqz_false,hb,hd] at hc;simp only [cond_false];exact ⟨fun h=>⟨⟨hs,ht,h0,hsd,hc.1,hc.2,Or.inl rfl⟩,h⟩,fun h=>h.2⟩
 simp only [cond_true,List.not_mem_nil,false_iff];rintro ⟨h,_⟩;have:=hd.2 ⟨h.dst,h.own⟩;rw [←hb] at this;simp only [bne,hc] at this;cases this
theorem pieces_of{P:SP}(hV:ValidS P)(j s:Nat)(hs:s<64)(hj:j<12):(band (Bd.of (boardOf P.bd) ((j:Int)+1)) (bbSq s)==0)=!(P.bd s==(j:Int)+1):=by
 have hB:=(base_rep hV).1;have h1:=band_bbSq (a:=Bd.of (boardOf P.bd) ((j:Int)+1)) hs;rw [hB.of (by omega) (by omega) hs] at h1;rw [←h1];simp [bne]
theorem std_mem{P:SP}(hV:ValidS P)(M:Mv):M∈stdL (boardOf P.bd) (psOf P)↔∃s t:Nat,StdM P s t 0∧M∈(bif isPromo (P.bd s) t then fm (promoF (boardOf P.bd) (psOf P) s t) 4 else keepM (plainM (boardOf P.bd) (psOf P) s t)):=by
 have hB:=(base_rep hV).1;have hT:=hV.turn;have hturn:(psOf P).turn=P.turn+1:=turnOf_eq hT;unfold stdL;rw [fm_mem];constructor
 ·rintro ⟨j,hj,h⟩;unfold pF at h;cases h1:((psOf P).turn !=pColor ((j:Int)+1))<;>rw [h1] at h
  ·cases h2:(Bd.of (boardOf P.bd) ((j:Int)+1)==0)<;>rw [h2] at h
   ·simp only [cond_false] at h;obtain ⟨s,hs,h⟩:=fm_mem.1 h;unfold s1F at h;rw [pieces_of hV j s hs hj] at h;cases h3:(P.bd s==(j:Int)+1)<;>rw [h3] at h
    ·simp at h
    have hx:(j:Int)+1=P.bd s:=(eq_of_beq h3).symm;rw [hx] at h h1;have h0:P.bd s≠0:=by omega
    rw [pColor_side (hV.bd s hs) h0,hturn] at h1;have hsd:sideOf (P.bd s)=P.turn:=by
     simp only [bne_eq_false_iff_eq] at h1;omega
    simp only [Bool.not_true,cond_false] at h;cases h4:(dest (boardOf P.bd) (psOf P) (P.bd s) s==0)<;>rw [h4] at h
    ·simp only [cond_false] at h;obtain ⟨t,ht,h⟩:=fm_mem.1 h;have h5:=(s2F_mem hV hs ht h0 hsd M).1 h;exact ⟨s,t,h5⟩
    simp at h
   simp at h
  simp at h
 rintro ⟨s,t,h,hm⟩;have hs:=h.hf;have ht:=h.ht;have h0:=h.x0;have hsd:=h.side;have hx:=hV.bd s hs;refine ⟨(P.bd s-1).toNat,by omega,?_⟩;have ej:(((P.bd s-1).toNat:Nat):Int)=P.bd s-1:=by omega
 have e1:(((P.bd s-1).toNat:Nat):Int)+1=P.bd s:=by omega
 unfold pF;have h1:((psOf P).turn !=pColor (P.bd s))=false:=by
  rw [pColor_side hx h0,hturn,hsd];simp
 have hin:=(s2F_mem hV hs ht h0 hsd M).2 ⟨h,hm⟩;have hne:(Bd.of (boardOf P.bd) (P.bd s)==0)=false:=by
  rw [beq_eq_false_iff_ne];intro e;have:=(sb_zero (hB.uof (P.bd s))).1 e s hs;rw [hB.of (by omega) (by omega) hs] at this;simp at this
 have hne2:(dest (boardOf P.bd) (psOf P) (P.bd s) s==0)=false:=by
  rw [beq_eq_false_iff_ne];intro e;have:=(sb_zero (U_band _ _)).1 e t ht;have hd:=(dest_iff hV hs ht h0 hsd).2 ⟨h.dst,h.own⟩;unfold dest at hd;rw [this] at hd;cases hd
 rw [e1,h1,hne];simp only [cond_false];refine fm_mem.2 ⟨s,hs,?_⟩;unfold s1F;have hp:=pieces_of hV (P.bd s-1).toNat s hs (by omega);rw [e1] at hp;rw [hp,hne2];simp only [beq_self_eq_true,Bool.not_true,cond_false];exact fm_mem.2 ⟨t,ht,hin⟩
theorem attS_same{bd bd':Nat→Int}{k:Nat}(hk:k<64){o:Int}(h:∀i,i<64→bd i=bd' i∨(bd i≠0∧bd' i≠0∧sideOf (bd i)≠o∧sideOf (bd' i)≠o)):attS bd k o=attS bd' k o:=by
 have ho:∀j,j<64→occS bd j=occS bd' j:=by
  intro j hj;unfold occS;rcases h j hj with e|⟨a,b,_⟩
  ·rw [e]
  rw [bne_iff_ne.2 a,bne_iff_ne.2 b]
 have key:∀i,i<64→(bd i !=0&&(sideOf (bd i)==o&&hitS bd i k))=(bd' i !=0&&(sideOf (bd' i)==o&&hitS bd' i k)):=by
  intro i hi;rcases h i hi with e|⟨_,_,a,b⟩
  ·rw [e];congr 1;congr 1;have hcl:(strt i k=true∨slnt i k=true)→clr (occS bd) i k=clr (occS bd') i k:=fun hal=>clr_congr hi hk hal ho;have c3:(strt i k&&clr (occS bd) i k)=(strt i k&&clr (occS bd') i k):=by
    cases hh:strt i k
    ·rfl
    rw [hcl (Or.inl hh)]
   have c4:(slnt i k&&clr (occS bd) i k)=(slnt i k&&clr (occS bd') i k):=by
    cases hh:slnt i k
    ·rfl
    rw [hcl (Or.inr hh)]
   have c2:((strt i k||slnt i k)&&clr (occS bd) i k)=((strt i k||slnt i k)&&clr (occS bd') i k):=by
    cases hh:(strt i k||slnt i k)
    ·rfl
    rw [hcl (by simpa using hh)]
   unfold hitS;rw [e,c3,c4,c2]
  rw [beq_eq_false_iff_ne.2 a,beq_eq_false_iff_ne.2 b];simp
 unfold attS;rw [Bool.eq_iff_iff,any64,any64];exact ⟨fun ⟨i,hi,hh⟩=>⟨i,hi,by rw [←key i hi];exact hh⟩,fun ⟨i,hi,hh⟩=>⟨i,hi,by rw [key i hi];exact hh⟩⟩
theorem okS_prom{P:SP}(hV:ValidS P){f t:Nat}{p q:Int}(h:StdM P f t p)(h':StdM P f t q)(hp:p≠0)(hq:q≠0):okS P ⟨f,t,p⟩=okS P ⟨f,t,q⟩:=by
 have hT:=hV.turn;obtain ⟨k,hk,_⟩:=valid_kings hV hT;rw [okS_eq hV hk,okS_eq hV hk];have hn:(P.bd t=0→kindOf (P.bd f)=6→(f:Int)%8=(t:Int)%8):=by
  rcases std_ep hV h with ⟨_,e⟩|⟨hn,_⟩
  ·exact absurd e hp
  exact hn
 have hpr:=h.pr;have hqr:=h'.pr;have hs:∀r:Int,2≤r∧r≤5→r+6*P.turn≠0∧sideOf (r+6*P.turn)≠1-P.turn:=by
  intro r hr;refine ⟨by omega,?_⟩;unfold sideOf;split<;>omega
 rw [attS_same (by have:=hk.1;have:=h.ht;split<;>omega) (fun i hi=>?_)];rw [mk4_normal hn (std_cast hV h) i,mk4_normal hn (std_cast hV h) i,if_pos hp,if_pos hq];by_cases e:i=t
 ·subst e;rw [upd_at,upd_at];have h1:=hs p (by omega);have h2:=hs q (by omega);exact Or.inr ⟨h1.1,h2.1,h1.2,h2.2⟩
 rw [upd_ne e,upd_ne e];exact Or.inl rfl
theorem StdM.prom{P:SP}{f t:Nat}(h:StdM P f t 0)(h6:kindOf (P.bd f)=6∧(t:Int)/8=7-7*P.turn){p:Int}(hp:2≤p∧p≤5):StdM P f t p:=⟨h.hf,h.ht,h.x0,h.side,h.dst,h.own,Or.inr ⟨h6.1,h6.2,hp.1,hp.2⟩⟩
theorem plain_tag{P:SP}(hV:ValidS P){f t:Nat}(h:StdM P f t 0):tagb (plainM (boardOf P.bd) (psOf P) f t).tags 5=!(okS P ⟨f,t,0⟩):=by
 have hT:=hV.turn;obtain ⟨k,hk,_⟩:=valid_kings hV hT;obtain ⟨e,he,_⟩:=valid_kings hV (c:=1-P.turn) (by omega);have:=tg4_std hV h (tags:=0) (tb0 0 (by decide)) (tb0 1 (by decide)) (fun hh=>by rw [tb0 3 (by decide)] at hh;cases hh) hk he;have:=this.2.2.2.2.2;rw [tb0 5 (by decide),Bool.false_or] at this;exact this
theorem promoT_tag{P:SP}(hV:ValidS P){f t:Nat}(h:StdM P f t 0)(h6:kindOf (P.bd f)=6∧(t:Int)/8=7-7*P.turn):∀k:Nat,k≤4→
  let x:=promoT (boardOf P.bd) (psOf P) f t k
  tagb x 0=false∧tagb x 1=false∧(tagb x 3=true→EPm P f t)∧tagb x 5=(decide (0<k)&&!(okS P ⟨f,t,2⟩))∧(0<k→(tagb x 3=true↔EPm P f t)∧tagb x 2=(P.bd t !=0))
 |0,_=>⟨tb0 0 (by decide),tb0 1 (by decide),fun hh=>(by have h3:=tb0 3 (by decide);have h4:tagb 0 3=true:=hh;rw [h3] at h4;cases h4),tb0 5 (by decide),fun hh=>absurd hh (by decide)⟩
 |k+1,hk4=>by
  have ih:=promoT_tag hV h h6 k (by omega);have hT:=hV.turn;obtain ⟨kk,hk,_⟩:=valid_kings hV hT;obtain ⟨e,he,_⟩:=valid_kings hV (c:=1-P.turn) (by omega);have hp:=StdM.prom h h6 (p:=(k:Int)+2) (by omega);have h2:=StdM.prom h h6 (p:=2) (by omega);obtain ⟨i0,i1,i3,i5,i6⟩:=ih;have:=tg4_std hV hp i0 i1 i3 hk he;obtain ⟨j0,j1,j2,j3,_,j5⟩:=this;refine ⟨j0,j1,j3.1,?_,fun _=>⟨j3,?_⟩⟩
  ·show tagb (tg4 _ _ _) 5=_;rw [j5,i5,okS_prom hV hp h2 (by omega) (by omega)];cases decide (0<k)<;>simp
  ·show tagb (tg4 _ _ _) 2=_;rw [j2];by_cases h0:0<k
   ·rw [(i6 h0).2];simp
   ·have:k=0:=by omega
    subst this;rw [show promoT (boardOf P.bd) (psOf P) f t 0=0 from rfl,tb0 2 (by decide)];simp
def StdP(P:SP)(f t:Nat)(p:Int):Prop:=StdM P f t p∧(p=0→¬(kindOf (P.bd f)=6∧(t:Int)/8=7-7*P.turn))
def mvOf(P:SP)(f t:Nat)(p:Int):Mv:=if p=0 then plainM (boardOf P.bd) (psOf P) f t else ⟨promoT (boardOf P.bd) (psOf P) f t ((p-2).toNat+1),f,t,p⟩
theorem stdL_iff{P:SP}(hV:ValidS P)(M:Mv):M∈stdL (boardOf P.bd) (psOf P)↔∃(f t:Nat) (p:Int),StdP P f t p∧okS P ⟨f,t,p⟩=true∧M=mvOf P f t p:=by
 rw [std_mem hV];constructor
 ·rintro ⟨s,t,h,hm⟩;have hpi:=isPromo_iff hV h.hf h.ht h.x0 h.side;cases hi:isPromo (P.bd s) t<;>rw [hi] at hm
  ·simp only [cond_false] at hm;obtain ⟨h1,h2⟩:=keepM_mem.1 hm;rw [plain_tag hV h] at h1;exact ⟨s,t,0,⟨h,fun _ hh=>by rw [hpi.2 hh] at hi;cases hi⟩,by simpa using h1,by rw [h2];rfl⟩
  simp only [cond_true] at hm;have h6:=hpi.1 hi;obtain ⟨k,hk,hm⟩:=fm_mem.1 hm;unfold promoF at hm;obtain ⟨h1,h2⟩:=keepM_mem.1 hm;have hp:=StdM.prom h h6 (p:=(k:Int)+2) (by omega);have ht:=(promoT_tag hV h h6 (k+1) (by omega)).2.2.2.1;have e1:promoT (boardOf P.bd) (psOf P) s t (k+1)=tg4 (boardOf P.bd) (psOf P) ⟨promoT (boardOf P.bd) (psOf P) s t k,s,t,(k:Int)+2⟩:=rfl;rw [Int.toNat_natCast] at h1 h2;rw [e1] at ht;rw [show (⟨tg4 (boardOf P.bd) (psOf P) ⟨promoT (boardOf P.bd) (psOf P) s t k,s,t,(k:Int)+2⟩,s,t,(k:Int)+2⟩:Mv).tags=tg4 (boardOf P.bd) (psOf P) ⟨promoT (boardOf P.bd) (psOf P) s t k,s,t,(k:Int)+2⟩ from rfl,ht] at h1;refine ⟨s,t,(k:Int)+2,⟨hp,fun hh=>by omega⟩,?_,?_⟩
  ·rw [okS_prom hV hp (StdM.prom h h6 (p:=2) (by omega)) (by omega) (by omega)];simpa using h1
  rw [h2];unfold mvOf;rw [if_neg (by omega),show ((k:Int)+2-2).toNat+1=k+1 by omega,e1]
 rintro ⟨f,t,p,⟨h,hn⟩,ho,rfl⟩;have h0:StdM P f t 0:=⟨h.hf,h.ht,h.x0,h.side,h.dst,h.own,Or.inl rfl⟩;have hpi:=isPromo_iff hV h.hf h.ht h.x0 h.side;refine ⟨f,t,h0,?_⟩;rcases h.pr with rfl|⟨h6,h7,hp1,hp2⟩
 ·have hi:isPromo (P.bd f) t=false:=by
   rw [←Bool.not_eq_true];exact fun hh=>hn rfl (hpi.1 hh)
  rw [hi];simp only [cond_false];unfold mvOf;rw [if_pos rfl];exact keepM_mem.2 ⟨by rw [plain_tag hV h0,ho];rfl,rfl⟩
 rw [hpi.2 ⟨h6,h7⟩];simp only [cond_true];refine fm_mem.2 ⟨(p-2).toNat,by omega,?_⟩;have ek:(((p-2).toNat:Nat):Int)+2=p:=by omega
 have ht:=(promoT_tag hV h0 ⟨h6,h7⟩ ((p-2).toNat+1) (by omega)).2.2.2.1;have e1:promoT (boardOf P.bd) (psOf P) f t ((p-2).toNat+1)=tg4 (boardOf P.bd) (psOf P) ⟨promoT (boardOf P.bd) (psOf P) f t (p-2).toNat,f,t,(((p-2).toNat:Nat):Int)+2⟩:=rfl;unfold promoF mvOf;rw [if_neg (by omega),Int.toNat_natCast,e1,ek];rw [e1,ek] at ht;refine keepM_mem.2 ⟨?_,rfl⟩;show tagb (tg4 _ _ _) 5=false;rw [ht,←okS_prom hV h (StdM.prom h0 ⟨h6,h7⟩ (p:=2) (by omega)) (by omega) (by omega),ho];simp
theorem toL_mem{P:SP}{s t:Nat}{m:Sm}:m∈toL P s t↔¬(P.bd t≠0∧sideOf (P.bd t)=P.turn)∧
  ((¬(kindOf (P.bd s)=6∧(t:Int)/8=7-7*P.turn)∧m=⟨s,t,0⟩)∨((kindOf (P.bd s)=6∧(t:Int)/8=7-7*P.turn)∧∃p:Int,(2≤p∧p≤5)∧m=⟨s,t,p⟩)):=by
 unfold toL;rw [Int.toNat_natCast,Int.toNat_natCast];cases h1:((P.bd t !=(0:Int))&&(sideOf (P.bd t)==P.turn))
 ·have h1':¬(P.bd t≠0∧sideOf (P.bd t)=P.turn):=by
   rintro ⟨a,b⟩;rw [bne_iff_ne.2 a,beq_iff_eq.2 b] at h1;cases h1
  simp only [cond_false];cases h2:((kindOf (P.bd s) !=(6:Int))||(((t:Int)/8) !=((7:Int)-((7:Int)*P.turn))))
  ·rw [Bool.or_eq_false_iff,bne_eq_false_iff_eq,bne_eq_false_iff_eq] at h2;simp only [cond_false];unfold promL;rw [List.mem_map];constructor
   ·rintro ⟨k,hk,rfl⟩;have:=List.mem_range.1 hk;exact ⟨h1',Or.inr ⟨h2,(k:Int)+2,by omega,rfl⟩⟩
   rintro ⟨_,hh|⟨_,p,hp,rfl⟩⟩
   ·exact absurd h2 hh.1
   exact ⟨(p-2).toNat,List.mem_range.2 (by omega),by rw [show (((p-2).toNat:Nat):Int)+2=p by omega]⟩
  simp only [cond_true,List.mem_singleton];have h2':¬(kindOf (P.bd s)=6∧(t:Int)/8=7-7*P.turn):=by
   rintro ⟨a,b⟩;rw [a,b] at h2;simp at h2
  exact ⟨fun e=>⟨h1',Or.inl ⟨h2',e⟩⟩,fun hh=>hh.2.elim (fun x=>x.2) (fun x=>absurd x.1 h2')⟩
 simp only [cond_true,List.not_mem_nil,false_iff];rintro ⟨hh,_⟩;rw [Bool.and_eq_true,bne_iff_ne,beq_iff_eq] at h1;exact hh h1
theorem pseudo_mem{P:SP}{m:Sm}:m∈pseudoL P↔(∃(f t:Nat) (p:Int),StdP P f t p∧m=⟨f,t,p⟩)∨m∈castS P:=by
 unfold pseudoL;rw [List.mem_append,List.mem_flatMap];constructor
 ·rintro (⟨s,hs,h⟩|h)
  ·left;have hs:=List.mem_range.1 hs;unfold fromL at h;rw [Int.toNat_natCast] at h;cases h1:((P.bd s==(0:Int))||(sideOf (P.bd s) !=P.turn))<;>rw [h1] at h
   ·rw [Bool.or_eq_false_iff,beq_eq_false_iff_ne,bne_eq_false_iff_eq] at h1;simp only [cond_false] at h;obtain ⟨t,ht,h⟩:=List.mem_flatMap.1 h;have hr:=dstL_rng ht;obtain ⟨u,rfl⟩:∃u:Nat,t=u:=⟨t.toNat,by omega⟩;obtain ⟨ho,hc⟩:=toL_mem.1 h;rcases hc with ⟨hn,rfl⟩|⟨h6,p,hp,rfl⟩
    ·exact ⟨s,u,0,⟨⟨hs,by omega,h1.1,h1.2,ht,ho,Or.inl rfl⟩,fun _=>hn⟩,rfl⟩
    exact ⟨s,u,p,⟨⟨hs,by omega,h1.1,h1.2,ht,ho,Or.inr ⟨h6.1,h6.2,hp.1,hp.2⟩⟩,fun e=>by omega⟩,rfl⟩
   simp at h
  exact Or.inr h
 rintro (⟨f,t,p,⟨h,hn⟩,rfl⟩|h)
 ·left;refine ⟨f,List.mem_range.2 h.hf,?_⟩;unfold fromL;rw [Int.toNat_natCast,beq_eq_false_iff_ne.2 h.x0,h.side];simp only [bne_self_eq_false,Bool.or_self,cond_false];refine List.mem_flatMap.2 ⟨t,h.dst,toL_mem.2 ⟨h.own,?_⟩⟩;rcases h.pr with rfl|⟨a,b,c,d⟩
  ·exact Or.inl ⟨hn rfl,rfl⟩
  exact Or.inr ⟨⟨a,b⟩,p,⟨c,d⟩,rfl⟩
 exact Or.inr h
structure CastOk(P:SP)(r:Int):Prop where
 hr:r=2*P.turn∨r=2*P.turn+1
 bit:castBit P.castle r.toNat=true
 chk:(psOf P).chk=false
 a1:attS P.bd (homeK r+cwS r).toNat (1-P.turn)=false
 a2:attS P.bd (homeK r+(2*cwS r)).toNat (1-P.turn)=false
 emp:∀j:Nat,j<(cnS r).toNat→P.bd (csq r j).toNat=0
theorem king_home{P:SP}(hV:ValidS P){r:Int}(hr:r=2*P.turn∨r=2*P.turn+1)(hb:castBit P.castle r.toNat=true):OnlyAt P.bd (1+6*P.turn) (homeK r).toNat∧P.bd (homeR r).toNat=3+6*P.turn:=by
 have hT:=hV.turn;have hr3:0≤r∧r≤3:=by omega
 have hh:=right_home hV hr3;rw [hb] at hh;unfold rightB at hh;have hh:=hh.symm;simp only [Bool.and_eq_true,beq_iff_eq] at hh;have hrt:r/2=P.turn:=by omega
 rw [hrt] at hh;obtain ⟨k,hk,_⟩:=valid_kings hV hT;have hN:=homeN hr3;have:=hk.2.2 _ hN.lt.1 hh.1.2;exact ⟨by rw [this];exact hk,hh.2⟩
theorem castR_ok{P:SP}(hV:ValidS P){r:Int}(hr:r=2*P.turn∨r=2*P.turn+1)(m:Sm):(m∈castR P r∧okS P m=true)↔CastOk P r∧m=⟨homeK r,homeK r+(2*cwS r),0⟩:=by
 have hT:=hV.turn;have hr3:0≤r∧r≤3:=by omega
 have hN:=homeN hr3;rw [castR_iff hV hr];have hok:CastM P r→castBit P.castle r.toNat=true→okS P ⟨homeK r,homeK r+(2*cwS r),0⟩=!(attS P.bd (homeK r+(2*cwS r)).toNat (1-P.turn)):=by
  intro hM hb;have hk:=(king_home hV hr hb).1;have h1:=okS_eq hV hk (f:=(homeK r).toNat) (t:=(homeK r+(2*cwS r)).toNat) (p:=0);rw [←hN.ki,←hN.ti,if_pos rfl,cast_att hV hM] at h1;exact h1
 constructor
 ·rintro ⟨⟨⟨h1,h2,h3,h4⟩,rfl⟩,h5⟩;have hM:=castM_of hV hr h1 h4;rw [hok hM h1] at h5;refine ⟨⟨hr,h1,?_,h3,by simpa using h5,h4⟩,rfl⟩;rw [chk_eq hV (king_home hV hr h1).1];exact h2
 rintro ⟨h,rfl⟩;have hM:=castM_of hV hr h.bit h.emp;refine ⟨⟨⟨h.bit,?_,h.a1,h.emp⟩,rfl⟩,?_⟩
 ·rw [←chk_eq hV (king_home hV hr h.bit).1];exact h.chk
 rw [hok hM h.bit,h.a2];rfl
theorem emp2{B:Bd}{bd:Nat→Int}(hB:BRep B bd){a b:Nat}(ha:a<64)(hb:b<64):(band (bnot B.empty) (bor (bbSq (a:Int)) (bbSq (b:Int)))==0)=true↔bd a=0∧bd b=0:=by
 have h:=bandNe (a:=bnot B.empty) (b:=bor (bbSq (a:Int)) (bbSq (b:Int)));have hq:∀i,i<64→(sb (bnot B.empty) i=true∧sb (bor (bbSq (a:Int)) (bbSq (b:Int))) i=true↔bd i≠0∧(i=a∨i=b)):=by
  intro i hi;rw [hB.occ hi,sb_bor,bbS ha hi,bbS hb hi,Bool.or_eq_true,decide_eq_true_eq,decide_eq_true_eq,bne_iff_ne]
 cases hc:(band (bnot B.empty) (bor (bbSq (a:Int)) (bbSq (b:Int)))==0)
 ·rw [beqz_false] at hc;obtain ⟨i,hi,h1,h2⟩:=h.1 hc;obtain ⟨h3,h4⟩:=(hq i hi).1 ⟨h1,h2⟩;constructor
  ·intro hh;cases hh
  rintro ⟨x,y⟩;rcases h4 with rfl|rfl<;>contradiction
 simp only [true_iff];have hn:¬(∃i,i<64∧sb (bnot B.empty) i=true∧sb (bor (bbSq (a:Int)) (bbSq (b:Int))) i=true):=by
  intro hh;have:=h.2 hh;simp only [bne,hc] at this;cases this
 constructor
 ·exact Classical.byContradiction fun hh=>hn ⟨a,ha,(hq a ha).2 ⟨hh,Or.inl rfl⟩⟩
 exact Classical.byContradiction fun hh=>hn ⟨b,hb,(hq b hb).2 ⟨hh,Or.inr rfl⟩⟩
theorem emp3{B:Bd}{bd:Nat→Int}(hB:BRep B bd){a b c:Nat}(ha:a<64)(hb:b<64)(hc:c<64):(band (bnot B.empty) (bor (bor (bbSq (a:Int)) (bbSq (b:Int))) (bbSq (c:Int)))==0)=true↔bd a=0∧bd b=0∧bd c=0:=by
 have h:=bandNe (a:=bnot B.empty) (b:=bor (bor (bbSq (a:Int)) (bbSq (b:Int))) (bbSq (c:Int)));have hq:∀i,i<64→(sb (bnot B.empty) i=true∧sb (bor (bor (bbSq (a:Int)) (bbSq (b:Int))) (bbSq (c:Int))) i=true↔bd i≠0∧((i=a∨i=b)∨i=c)):=by
  intro i hi;rw [hB.occ hi,sb_bor,sb_bor,bbS ha hi,bbS hb hi,bbS hc hi,Bool.or_eq_true,Bool.or_eq_true,decide_eq_true_eq,decide_eq_true_eq,decide_eq_true_eq,bne_iff_ne]
 cases hk:(band (bnot B.empty) (bor (bor (bbSq (a:Int)) (bbSq (b:Int))) (bbSq (c:Int)))==0)
 ·rw [beqz_false] at hk;obtain ⟨i,hi,h1,h2⟩:=h.1 hk;obtain ⟨h3,h4⟩:=(hq i hi).1 ⟨h1,h2⟩;constructor
  ·intro hh;cases hh
  rintro ⟨x,y,z⟩;rcases h4 with (rfl|rfl)|rfl<;>contradiction
 simp only [true_iff];have hn:¬(∃i,i<64∧sb (bnot B.empty) i=true∧sb (bor (bor (bbSq (a:Int)) (bbSq (b:Int))) (bbSq (c:Int))) i=true):=by
  intro hh;have:=h.2 hh;simp only [bne,hk] at this;cases this
 refine ⟨?_,?_,?_⟩
 ·exact Classical.byContradiction fun hh=>hn ⟨a,ha,(hq a ha).2 ⟨hh,Or.inl (Or.inl rfl)⟩⟩
 ·exact Classical.byContradiction fun hh=>hn ⟨b,hb,(hq b hb).2 ⟨hh,Or.inl (Or.inr rfl)⟩⟩
 exact Classical.byContradiction fun hh=>hn ⟨c,hc,(hq c hc).2 ⟨hh,Or.inr rfl⟩⟩
theorem attAny2{B:Bd}{bd:Nat→Int}(hB:BRep B bd){turn:Int}(hT:turn=1∨turn=2){a b:Nat}(ha:a<64)(hb:b<64):(!(attAny B turn 2 (fun i=>if i=0 then (a:Int) else (b:Int))))=true↔attS bd a (if turn=1 then 1 else 0)=false∧attS bd b (if turn=1 then 1 else 0)=false:=by
 have e:attAny B turn 2 (fun i=>if i=0 then (a:Int) else (b:Int))=(att1 B turn a||att1 B turn b):=by
  unfold attAny;simp [List.range_succ]
 rw [e,att1_eq hB hT ha,att1_eq hB hT hb];simp
theorem canC_eq{P:SP}(hV:ValidS P):(canC (castStr P.castle) 1 1=castBit P.castle 0)∧(canC (castStr P.castle) 1 2=castBit P.castle 1)∧(canC (castStr P.castle) 2 1=castBit P.castle 2)∧(canC (castStr P.castle) 2 2=castBit P.castle 3):=by
 have hc:=hV.castle;obtain ⟨n,hn⟩:∃n:Nat,P.castle=n:=⟨P.castle.toNat,by omega⟩;rw [hn];exact canC_bits n (by omega)
theorem cc_get{P:SP}(hV:ValidS P):
  (P.turn=0→((cc1 (boardOf P.bd) (psOf P)=true↔CastOk P 0)∧(cc2 (boardOf P.bd) (psOf P)=true↔CastOk P 1)))∧(P.turn=1→((cc3 (boardOf P.bd) (psOf P)=true↔CastOk P 2)∧(cc4 (boardOf P.bd) (psOf P)=true↔CastOk P 3))):=by
 have hT:=hV.turn;have hB:=(base_rep hV).1;obtain ⟨q0,q1,q2,q3⟩:=canC_eq hV;have hS:(psOf P).turn=turnOf P.turn:=rfl;have hC:(psOf P).castle=castStr P.castle:=rfl;have lt2:∀{Q:Nat→Prop},(∀j:Nat,j<2→Q j)↔Q 0∧Q 1:=fun {Q}=>⟨fun h=>⟨h 0 (by decide),h 1 (by decide)⟩,fun h j hj=>by rcases (by omega:j=0∨j=1) with rfl|rfl<;>first|exact h.1|exact h.2⟩;have lt3:∀{Q:Nat→Prop},(∀j:Nat,j<3→Q j)↔Q 0∧Q 1∧Q 2:=fun {Q}=>⟨fun h=>⟨h 0 (by decide),h 1 (by decide),h 2 (by decide)⟩,fun h j hj=>by rcases (by omega:j=0∨j=1∨j=2) with rfl|rfl|rfl<;>first|exact h.1|exact h.2.1|exact h.2.2⟩;refine ⟨fun e=>⟨?_,?_⟩,fun e=>⟨?_,?_⟩⟩
 ·have hS1:(psOf P).turn=1:=by rw [hS,e];rfl
  unfold cc1;rw [hS1,hC,q0];have e1:=emp2 hB (a:=5) (b:=6) (by decide) (by decide);have e2:=attAny2 hB (turn:=1) (Or.inl rfl) (a:=5) (b:=6) (by decide) (by decide);simp only [Bool.and_eq_true];refine Iff.trans (and_congr (and_congr (and_congr (Iff.refl _) e1) e2) Iff.rfl) ?_;constructor
  ·rintro ⟨⟨⟨⟨_,h1⟩,h2⟩,h3⟩,h4⟩;exact ⟨by omega,h1,by simpa using h4,by rw [e];exact h3.1,by rw [e];exact h3.2,(lt2 (Q:=fun j=>P.bd (csq 0 (j:Int)).toNat=0)).2 h2⟩
  intro h;have h2:=(lt2 (Q:=fun j=>P.bd (csq 0 (j:Int)).toNat=0)).1 h.emp;have a1:=h.a1;have a2:=h.a2;rw [e] at a1 a2;exact ⟨⟨⟨⟨rfl,h.bit⟩,h2⟩,⟨a1,a2⟩⟩,by rw [h.chk];rfl⟩
 ·have hS1:(psOf P).turn=1:=by rw [hS,e];rfl
  unfold cc2;rw [hS1,hC,q1];have e1:=emp3 hB (a:=1) (b:=2) (c:=3) (by decide) (by decide) (by decide);have e2:=attAny2 hB (turn:=1) (Or.inl rfl) (a:=2) (b:=3) (by decide) (by decide);simp only [Bool.and_eq_true];refine Iff.trans (and_congr (and_congr (and_congr (Iff.refl _) e1) e2) Iff.rfl) ?_;constructor
  ·rintro ⟨⟨⟨⟨_,h1⟩,h2⟩,h3⟩,h4⟩;exact ⟨by omega,h1,by simpa using h4,by rw [e];exact h3.2,by rw [e];exact h3.1,(lt3 (Q:=fun j=>P.bd (csq 1 (j:Int)).toNat=0)).2 ⟨h2.2.2,h2.2.1,h2.1⟩⟩
  intro h;have h2:=(lt3 (Q:=fun j=>P.bd (csq 1 (j:Int)).toNat=0)).1 h.emp;have a1:=h.a1;have a2:=h.a2;rw [e] at a1 a2;exact ⟨⟨⟨⟨rfl,h.bit⟩,⟨h2.2.2,h2.2.1,h2.1⟩⟩,⟨a2,a1⟩⟩,by rw [h.chk];rfl⟩
 ·have hS1:(psOf P).turn=2:=by rw [hS,e];rfl
  unfold cc3;rw [hS1,hC,q2];have e1:=emp2 hB (a:=61) (b:=62) (by decide) (by decide);have e2:=attAny2 hB (turn:=2) (Or.inr rfl) (a:=61) (b:=62) (by decide) (by decide);simp only [Bool.and_eq_true];refine Iff.trans (and_congr (and_congr (and_congr (Iff.refl _) e1) e2) Iff.rfl) ?_;constructor
  ·rintro ⟨⟨⟨⟨_,h1⟩,h2⟩,h3⟩,h4⟩;exact ⟨by omega,h1,by simpa using h4,by rw [e];exact h3.1,by rw [e];exact h3.2,(lt2 (Q:=fun j=>P.bd (csq 2 (j:Int)).toNat=0)).2 h2⟩
  intro h;have h2:=(lt2 (Q:=fun j=>P.bd (csq 2 (j:Int)).toNat=0)).1 h.emp;have a1:=h.a1;have a2:=h.a2;rw [e] at a1 a2;exact ⟨⟨⟨⟨rfl,h.bit⟩,h2⟩,⟨a1,a2⟩⟩,by rw [h.chk];rfl⟩
 have hS1:(psOf P).turn=2:=by rw [hS,e];rfl
 unfold cc4;rw [hS1,hC,q3];have e1:=emp3 hB (a:=57) (b:=58) (c:=59) (by decide) (by decide) (by decide);have e2:=attAny2 hB (turn:=2) (Or.inr rfl) (a:=58) (b:=59) (by decide) (by decide);simp only [Bool.and_eq_true];refine Iff.trans (and_congr (and_congr (and_congr (Iff.refl _) e1) e2) Iff.rfl) ?_;constructor
 ·rintro ⟨⟨⟨⟨_,h1⟩,h2⟩,h3⟩,h4⟩;exact ⟨by omega,h1,by simpa using h4,by rw [e];exact h3.2,by rw [e];exact h3.1,(lt3 (Q:=fun j=>P.bd (csq 3 (j:Int)).toNat=0)).2 ⟨h2.2.2,h2.2.1,h2.1⟩⟩
 intro h;have h2:=(lt3 (Q:=fun j=>P.bd (csq 3 (j:Int)).toNat=0)).1 h.emp;have a1:=h.a1;have a2:=h.a2;rw [e] at a1 a2;exact ⟨⟨⟨⟨rfl,h.bit⟩,⟨h2.2.2,h2.2.1,h2.1⟩⟩,⟨a2,a1⟩⟩,by rw [h.chk];rfl⟩
theorem castL_iff{P:SP}(hV:ValidS P)(M:Mv):M∈castL (boardOf P.bd) (psOf P)↔∃r:Int,CastOk P r∧M=castM (boardOf P.bd) (psOf P) (r%2+1) (homeK r) (homeK r+(2*cwS r)):=by
 have hT:=hV.turn;have hS:(psOf P).turn=turnOf P.turn:=rfl;obtain ⟨hw,hb⟩:=cc_get hV;have mem:∀(b:Bool) (x:Mv),M∈(bif b then [x] else [])↔b=true∧M=x:=by intro b x;cases b<;>simp
 unfold castL;rcases (by omega:P.turn=0∨P.turn=1) with e|e
 ·have hS1:(psOf P).turn=1:=by rw [hS,e];rfl
  rw [cl3_nil (by omega),cl4_nil (by omega),List.append_nil,List.append_nil,List.mem_append];unfold cl1 cl2;rw [mem,mem,(hw e).1,(hw e).2];constructor
  ·rintro (⟨a,b⟩|⟨a,b⟩)
   ·exact ⟨0,a,b⟩
   exact ⟨1,a,b⟩
  rintro ⟨r,a,b⟩;have:=a.hr;rcases (by omega:r=0∨r=1) with rfl|rfl
  ·exact Or.inl ⟨a,b⟩
  exact Or.inr ⟨a,b⟩
 have hS1:(psOf P).turn=2:=by rw [hS,e];rfl
 rw [cl1_nil (by omega),cl2_nil (by omega),List.append_nil,List.nil_append,List.mem_append];unfold cl3 cl4;rw [mem,mem,(hb e).1,(hb e).2];constructor
 ·rintro (⟨a,b⟩|⟨a,b⟩)
  ·exact ⟨2,a,b⟩
  exact ⟨3,a,b⟩
 rintro ⟨r,a,b⟩;have:=a.hr;rcases (by omega:r=2∨r=3) with rfl|rfl
 ·exact Or.inl ⟨a,b⟩
 exact Or.inr ⟨a,b⟩
theorem mvOf_key{P:SP}{f t:Nat}{p:Int}:(mvOf P f t p).s1=f∧(mvOf P f t p).s2=t∧(mvOf P f t p).promo=p:=by
 unfold mvOf;split
 ·rename_i e;subst e;exact ⟨rfl,rfl,rfl⟩
 exact ⟨rfl,rfl,rfl⟩
theorem allL_iff{P:SP}(hV:ValidS P)(m:Sm):(∃M∈allL (boardOf P.bd) (psOf P),M.s1=m.f∧M.s2=m.t∧M.promo=m.p)↔m∈pseudoL P∧okS P m=true:=by
 have hT:=hV.turn;unfold allL;rw [pseudo_mem];constructor
 ·rintro ⟨M,hM,h1,h2,h3⟩;rcases List.mem_append.1 hM with hM|hM
  ·obtain ⟨f,t,p,hs,ho,rfl⟩:=(stdL_iff hV M).1 hM;obtain ⟨k1,k2,k3⟩:=mvOf_key (P:=P) (f:=f) (t:=t) (p:=p);have e:m=⟨f,t,p⟩:=by cases m;simp only at h1 h2 h3;rw [←h1,←h2,←h3,k1,k2,k3]
   subst e;exact ⟨Or.inl ⟨f,t,p,hs,rfl⟩,ho⟩
  obtain ⟨r,hr,rfl⟩:=(castL_iff hV M).1 hM;have e:m=⟨homeK r,homeK r+(2*cwS r),0⟩:=by cases m;simp only at h1 h2 h3;rw [←h1,←h2,←h3];rfl
  have hc:=(castR_ok hV hr.hr m).2 ⟨hr,e⟩;refine ⟨Or.inr ?_,hc.2⟩;unfold castS;rw [List.mem_append];rcases hr.hr with e2|e2
  ·left;rw [←e2];exact hc.1
  right;rw [←e2];exact hc.1
 rintro ⟨⟨f,t,p,hs,rfl⟩|hc,ho⟩
 ·obtain ⟨k1,k2,k3⟩:=mvOf_key (P:=P) (f:=f) (t:=t) (p:=p);exact ⟨mvOf P f t p,List.mem_append.2 (Or.inl ((stdL_iff hV _).2 ⟨f,t,p,hs,ho,rfl⟩)),k1,k2,k3⟩
 unfold castS at hc;have:∃r,(r=2*P.turn∨r=2*P.turn+1)∧m∈castR P r:=by
  rcases List.mem_append.1 hc with h|h
  ·exact ⟨_,Or.inl rfl,h⟩
  exact ⟨_,Or.inr rfl,h⟩
 obtain ⟨r,hr,h⟩:=this;obtain ⟨h1,rfl⟩:=(castR_ok hV hr m).1 ⟨h,ho⟩;exact ⟨_,List.mem_append.2 (Or.inr ((castL_iff hV _).2 ⟨r,h1,rfl⟩)),rfl,rfl,rfl⟩
def keyM(M:Mv):Sm:=⟨M.s1,M.s2,M.promo⟩
def Apart2(a b:Mv):Prop:=keyM a≠keyM b
theorem fm_pw{f:Int→List Mv}{n:Nat}(h1:∀k:Nat,k<n→(f k).Pairwise Apart2)(h2:∀i j:Nat,i<j→j<n→∀x∈f i,∀y∈f j,Apart2 x y):(fm f n).Pairwise Apart2:=by
 unfold fm;rw [List.pairwise_flatMap];refine ⟨fun k hk=>h1 k (List.mem_range.1 hk),?_⟩;refine List.Pairwise.imp_of_mem (R:=fun a b=>a<b) (fun {a b} ha hb hab=>?_) List.pairwise_lt_range;exact h2 a b hab (List.mem_range.1 hb)
theorem keepM_pw(m:Mv):(keepM m).Pairwise Apart2:=by
 unfold keepM;cases hasTag m 32<;>simp
theorem promoF_key{B:Bd}{S:Ps}{s1 s2 k:Int}{M:Mv}(h:M∈promoF B S s1 s2 k):M.s1=s1∧M.s2=s2∧M.promo=k+2:=by
 unfold promoF at h;obtain ⟨_,rfl⟩:=keepM_mem.1 h;exact ⟨rfl,rfl,rfl⟩
theorem s2F_key{B:Bd}{S:Ps}{p s1 s2:Int}{M:Mv}(h:M∈s2F B S p s1 s2):M.s1=s1∧M.s2=s2:=by
 unfold s2F at h;cases h1:(band (dest B S p s1) (bbSq s2)==0)<;>rw [h1] at h
 ·cases h2:isPromo p s2<;>rw [h2] at h
  ·obtain ⟨_,rfl⟩:=keepM_mem.1 h;exact ⟨rfl,rfl⟩
  obtain ⟨k,_,h⟩:=fm_mem.1 h;exact ⟨(promoF_key h).1,(promoF_key h).2.1⟩
 simp at h
theorem s2F_pw{B:Bd}{S:Ps}{p s1 s2:Int}:(s2F B S p s1 s2).Pairwise Apart2:=by
 unfold s2F;cases h1:(band (dest B S p s1) (bbSq s2)==0)
 ·cases h2:isPromo p s2
  ·exact keepM_pw _
  refine fm_pw (fun k _=>keepM_pw _) fun i j hij _ x hx y hy e=>?_;have a:=(promoF_key hx).2.2;have b:=(promoF_key hy).2.2;have c:x.promo=y.promo:=congrArg Sm.p e;omega
 exact List.Pairwise.nil
theorem s1F_key{B:Bd}{S:Ps}{p s1:Int}{M:Mv}(h:M∈s1F B S p s1):M.s1=s1∧(band (Bd.of B p) (bbSq s1)==0)=false:=by
 unfold s1F at h;cases h1:(band (Bd.of B p) (bbSq s1)==0)<;>rw [h1] at h
 ·cases h2:(dest B S p s1==0)<;>rw [h2] at h
  ·obtain ⟨k,_,h⟩:=fm_mem.1 h;exact ⟨(s2F_key h).1,rfl⟩
  simp at h
 simp at h
theorem s1F_pw{B:Bd}{S:Ps}{p s1:Int}:(s1F B S p s1).Pairwise Apart2:=by
 unfold s1F;cases h1:(band (Bd.of B p) (bbSq s1)==0)
 ·cases h2:(dest B S p s1==0)
  ·refine fm_pw (fun k _=>s2F_pw) fun i j hij _ x hx y hy e=>?_;have a:=(s2F_key hx).2;have b:=(s2F_key hy).2;have c:x.s2=y.s2:=congrArg Sm.t e;omega
  exact List.Pairwise.nil
 exact List.Pairwise.nil
theorem pF_key{P:SP}(hV:ValidS P){j:Nat}(hj:j<12){M:Mv}(h:M∈pF (boardOf P.bd) (psOf P) j):P.bd M.s1.toNat=(j:Int)+1:=by
 unfold pF at h;cases h1:((psOf P).turn !=pColor ((j:Int)+1))<;>rw [h1] at h
 ·cases h2:(Bd.of (boardOf P.bd) ((j:Int)+1)==0)<;>rw [h2] at h
  ·obtain ⟨s,hs,h⟩:=fm_mem.1 h;obtain ⟨a,b⟩:=s1F_key h;rw [pieces_of hV j s hs hj] at b;rw [a,Int.toNat_natCast];simpa using b
  simp at h
 simp at h
theorem pF_pw{B:Bd}{S:Ps}{j:Int}:(pF B S j).Pairwise Apart2:=by
 unfold pF;cases h1:(S.turn !=pColor (j+1))
 ·cases h2:(Bd.of B (j+1)==0)
  ·refine fm_pw (fun k _=>s1F_pw) fun i j hij _ x hx y hy e=>?_;have a:=(s1F_key hx).1;have b:=(s1F_key hy).1;have c:x.s1=y.s1:=congrArg Sm.f e;omega
  exact List.Pairwise.nil
 exact List.Pairwise.nil
theorem stdL_pw{P:SP}(hV:ValidS P):(stdL (boardOf P.bd) (psOf P)).Pairwise Apart2:=by
 unfold stdL;refine fm_pw (fun k _=>pF_pw) fun i j hij hj x hx y hy e=>?_;have a:=pF_key hV (by omega) hx;have b:=pF_key hV hj hy;have c:x.s1=y.s1:=congrArg Sm.f e;rw [c] at a;omega
theorem sub_len:∀(l:List Sm) (r:List Sm),l.Pairwise (·≠·)→(∀m∈l,m∈r)→l.length≤r.length
 |[],r,_,_=>Nat.zero_le _
 |a::l,r,hp,h=>by
  have hp':=List.pairwise_cons.1 hp;obtain ⟨u,v,e⟩:=List.append_of_mem (h a List.mem_cons_self);have:=sub_len l (u++v) hp'.2 (fun m hm=>by
   have h1:=h m (List.mem_cons_of_mem _ hm)
   have h2:=hp'.1 m hm
   rw [e] at h1
   rcases List.mem_append.1 h1 with h1|h1
   ·exact List.mem_append.2 (Or.inl h1)
   ·rcases List.mem_cons.1 h1 with h1|h1
    ·exact absurd h1.symm h2
    ·exact List.mem_append.2 (Or.inr h1))
  rw [e];simp only [List.length_append,List.length_cons] at this⊢;omega
theorem stdL_few{P:SP}(hR:RightS P):(stdL (boardOf P.bd) (psOf P)).length≤218:=by
 obtain ⟨l,hl,hn⟩:=hR.few;have hV:=hR.valid;have h1:((stdL (boardOf P.bd) (psOf P)).map keyM).Pairwise (·≠·):=List.pairwise_map.2 (stdL_pw hV);have h2:∀m∈(stdL (boardOf P.bd) (psOf P)).map keyM,m∈l:=by
  intro m hm;obtain ⟨M,hM,rfl⟩:=List.mem_map.1 hm;exact (hl.mem _).2 ((allL_iff hV _).1 ⟨M,List.mem_append.2 (Or.inl hM),rfl,rfl,rfl⟩)
 have:=sub_len _ l h1 h2;rw [List.length_map] at this;omega
theorem spok{P:SP}(hV:ValidS P):SPok P:=by
 have hp:=passed_get hV.turn hV.passed;have hf:=hV.full;exact ⟨hV.bd,hV.turn,hV.castle,by rcases hp with h|h<;>omega,hV.half,by omega⟩
theorem band_of{B:Bd}{bd:Nat→Int}(hB:BRep B bd){p s:Int}(hp:1≤p∧p≤12)(hs:0≤s∧s≤63)(h:(band (Bd.of B p) (bbSq s)==(0:Int))=false):1≤pieceAt B s∧pieceAt B s≤12:=by
 obtain ⟨n,rfl⟩:∃n:Nat,s=n:=⟨s.toNat,by omega⟩;rw [beqz_false,band_bbSq (by omega),hB.of hp.1 hp.2 (by omega),beq_iff_eq] at h;rw [hB.pieceAt (by omega)];omega
theorem mvPre{P:SP}(hR:RightS P):MvPre (boardOf P.bd) (psOf P):=by
 have hV:=hR.valid;have hT:=hV.turn;obtain ⟨hB,_⟩:=base_rep hV;obtain ⟨q0,q1,q2,q3⟩:=canC_eq hV;have hS:(psOf P).turn=turnOf P.turn:=rfl;have hC:(psOf P).castle=castStr P.castle:=rfl;have hp:=passed_get hV.turn hV.passed;have other:∀(s:ByteArray) (t sd:Int),sd≠2→canC s t sd=canC s t 1:=by
  intro s t sd h2;unfold canC;rw [beq_eq_false_iff_ne.2 h2];rfl
 refine ⟨stdL_few hR,fun p s hp hs h=>band_of hB hp hs h,by have:=castStr_size P.castle;rw [hC];omega,?_,?_,mkBoard_kings _,?_,?_⟩
 ·intro sd h1 h2;have e:P.turn=0:=by rw [hS] at h1;rcases turnOf_cases hT with ⟨a,b⟩|⟨a,b⟩<;>omega
  rw [h1,hC] at h2;have hk:P.bd 4=1:=by
   by_cases e2:sd=2
   ·rw [e2,q1] at h2;have:=(king_home hV (r:=1) (by omega) h2).1.2.1;rw [e] at this;exact this
   rw [other _ _ _ e2,q0] at h2;have:=(king_home hV (r:=0) (by omega) h2).1.2.1;rw [e] at this;exact this
  have:=hB.pieceAt (s:=4) (by decide);rw [show ((4:Nat):Int)=4 from rfl] at this;rw [this,hk];omega
 ·intro sd h1 h2;have e:P.turn=1:=by rw [hS] at h1;rcases turnOf_cases hT with ⟨a,b⟩|⟨a,b⟩<;>omega
  rw [h1,hC] at h2;have hk:P.bd 60=7:=by
   by_cases e2:sd=2
   ·rw [e2,q3] at h2;have:=(king_home hV (r:=3) (by omega) h2).1.2.1;rw [e] at this;exact this
   rw [other _ _ _ e2,q2] at h2;have:=(king_home hV (r:=2) (by omega) h2).1.2.1;rw [e] at this;exact this
  have:=hB.pieceAt (s:=60) (by decide);rw [show ((60:Nat):Int)=60 from rfl] at this;rw [this,hk];omega
 ·rw [hS];rcases turnOf_cases hT with ⟨a,b⟩|⟨a,b⟩<;>omega
 show-1≤P.ep∧P.ep≤63;rcases hp with h|h<;>omega
theorem mvOk_all{P:SP}(hV:ValidS P):∀M∈allL (boardOf P.bd) (psOf P),MvOk M:=by
 intro M hM;have h:=((allL_iff hV ⟨M.s1,M.s2,M.promo⟩).1 ⟨M,hM,rfl,rfl,rfl⟩).1;have hs:=pseudoL_ok hV.turn h;exact ⟨hs.f,hs.t,by have:=hs.p;show 0≤M.promo∧M.promo≤5;have e:(⟨M.s1,M.s2,M.promo⟩:Sm).p=M.promo:=rfl;omega⟩
theorem pseudo_piece{P:SP}(hV:ValidS P){m:Sm}(h:m∈pseudoL P):P.bd m.f.toNat≠0:=by
 rcases pseudo_mem.1 h with ⟨f,t,p,hs,rfl⟩|hc
 ·exact hs.1.x0
 have hT:=hV.turn;unfold castS at hc;have:∃r,(r=2*P.turn∨r=2*P.turn+1)∧m∈castR P r:=by
  rcases List.mem_append.1 hc with h|h
  ·exact ⟨_,Or.inl rfl,h⟩
  exact ⟨_,Or.inr rfl,h⟩
 obtain ⟨r,hr,h⟩:=this;obtain ⟨⟨h1,h2,h3,h4⟩,rfl⟩:=(castR_iff hV hr m).1 h;have hM:=castM_of hV hr h1 h4;show P.bd (homeK r).toNat≠0;rw [hM.king];omega
def Out(B:Bd):Prop:=∀k:Nat,(k<1∨12<k)→B.bb k=0
theorem bd_ext{B B':Bd}{bd:Nat→Int}(h:BRep B bd)(h':BRep B' bd)(k:KRep B bd)(k':KRep B' bd)(o:Out B)(o':Out B'):B=B':=by
 have e1:B.bb=B'.bb:=by
  funext j;by_cases hj:1≤j∧j≤12
  · exact sb_ext (h.u j) (h'.u j) fun s hs=>by rw [h.bit j hj.1 hj.2 s hs,h'.bit j hj.1 hj.2 s hs]
  rw [o j (by omega),o' j (by omega)]
 have e2:B.white=B'.white:=sb_ext h.uw h'.uw fun s hs=>by rw [h.white s hs,h'.white s hs]
 have e3:B.black=B'.black:=sb_ext h.ub h'.ub fun s hs=>by rw [h.black s hs,h'.black s hs]
 have e4:B.empty=B'.empty:=sb_ext h.ue h'.ue fun s hs=>by rw [h.empty s hs,h'.empty s hs]
 obtain ⟨⟨a,ha,ea⟩,⟨b,hb,eb⟩⟩:=k;obtain ⟨⟨a',ha',ea'⟩,⟨b',hb',eb'⟩⟩:=k';have e5:B.wk=B'.wk:=by rw [ea,ea',ha.uniq ha']
 have e6:B.bk=B'.bk:=by rw [eb,eb',hb.uniq hb']
 cases B;cases B';simp only [Bd.mk.injEq];exact ⟨e1,e2,e3,e4,e5,e6⟩
theorem Out.board(g:Nat→Int):Out (boardOf g):=fun k hk=>by
 show (if 1≤k∧(k:Int)≤12 then bbAcc (mpTo g 64) (k:Int) 64 else 0)=0;rw [if_neg (by omega)]
theorem Out.set{B:Bd}(h:Out B){k:Nat}(hk:1≤k∧k≤12)(x:Int):Out (B.set k x):=fun j hj=>by
 show (if j=k then x else B.bb j)=0;rw [if_neg (by omega)];exact h j hj
theorem Out.upd{B:Bd}(h:Out B){M:Mv}{p:Int}(hp:1≤p∧p≤12)(hn:M.promo≠0→1≤newP M.promo (pColor p)∧newP M.promo (pColor p)≤12)(e:pieceAt B M.s1=p):Out (updB B M):=by
 have h1:Out (updTo B M 12):=fun k hk=>by
  show (if 1≤k∧(k:Int)≤12 then mvBB M (B.bb k) else B.bb k)=0;rw [if_neg (by omega)];exact h k hk
 have h2:Out (updPromo M p (updTo B M 12)):=by
  unfold updPromo;cases hc:(M.promo !=(0:Int))
  · exact h1
  have:=hn (bne_iff_ne.1 hc);exact Out.set (Out.set h1 (by omega) _) (by omega) _
 have h3:Out (updEP M p (updPromo M p (updTo B M 12))):=by
  unfold updEP;cases hasTag M 8<;>cases (pColor p==(1:Int))
  · exact h2
  · exact h2
  · exact Out.set h2 (by omega) _
  exact Out.set h2 (by omega) _
 have h4:Out (updCastle M p (updEP M p (updPromo M p (updTo B M 12)))):=by
  have hr:∀(k:Nat) (a b:Int),1≤k∧k≤12→Out (rook (updEP M p (updPromo M p (updTo B M 12))) k a b):=fun k a b hk=>Out.set h3 hk _;unfold updCastle;cases ((pColor p==(1:Int))&&(hasTag M (1:Int)))<;>cases ((pColor p==(1:Int))&&(hasTag M (2:Int)))<;>cases ((pColor p==(2:Int))&&(hasTag M (1:Int)))<;>cases ((pColor p==(2:Int))&&(hasTag M (2:Int)))<;>
   first|exact h3|exact hr _ _ _ (by omega)
 unfold updB;rw [e];unfold moveK;split
 · exact h4
 split
 · exact h4
 exact h4
theorem board_eq{B:Bd}{bd:Nat→Int}(h:BRep B bd)(k:KRep B bd)(o:Out B):B=boardOf bd:=by
 obtain ⟨⟨a,ha,ea⟩,⟨b,hb,eb⟩⟩:=k;exact bd_ext h (boardOf_rep h.rng) ⟨⟨a,ha,ea⟩,⟨b,hb,eb⟩⟩ (boardOf_kings h.rng ha hb) o (Out.board _)
theorem cast_only{P:SP}(hV:ValidS P){r:Int}(h:CastM P r){kp:Int}{k:Nat}(hkp:kp=1∨kp=7)(ho:OnlyAt P.bd kp k):
  OnlyAt (mk4 P.bd P.turn (homeK r) (homeK r+(2*cwS r)) 0) kp (if k=(homeK r).toNat then (homeK r+(2*cwS r)).toNat else k):=by
 have hT:=hV.turn;have hN:=homeN (r:=r) (by have:=h.hr;omega);have hlt:=hN.lt;have hne:=hN.ne;have hg:=mk4_cast hV h;refine OnlyAt.congr (bd:=castBd P.bd P.turn (homeK r).toNat (homeR r).toNat (homeK r+cwS r).toNat (homeK r+(2*cwS r)).toNat) ?_ fun s _=>(hg s).symm;have hking:=h.king;have hrook:=h.rook;have hmid:=h.mid;have hdst:=h.dst;generalize (homeK r).toNat=K at*
 generalize (homeR r).toNat=R at*
 generalize (homeK r+cwS r).toNat=M at*
 generalize (homeK r+(2*cwS r)).toNat=T at*
 have h1:=move_only (y:=1+6*P.turn) ho (by omega) hlt.2.2.2 hne.2.2.1 (by omega) (fun e=>by omega) (fun e=>by omega) hlt.1;have hkR:R≠k:=by rintro rfl;have:=ho.2.1;omega
 have hkM:M≠k:=by rintro rfl;have:=ho.2.1;omega
 have h2:=upd_only (q:=R) (v:=0) h1 (by split<;>omega) (by omega);have h3:=upd_only (q:=M) (v:=3+6*P.turn) h2 (by split<;>omega) (by omega);exact h3
theorem next_cast{P:SP}(hV:ValidS P){r tags:Int}(h:CastM P r)(h0:tagb tags 0=decide (r%2=0))(h1:tagb tags 1=decide (r%2=1))(h3:tagb tags 3=false):
  BRep (updB (boardOf P.bd) ⟨tags,homeK r,homeK r+(2*cwS r),0⟩) (mk4 P.bd P.turn (homeK r) (homeK r+(2*cwS r)) 0)∧KRep (updB (boardOf P.bd) ⟨tags,homeK r,homeK r+(2*cwS r),0⟩) (mk4 P.bd P.turn (homeK r) (homeK r+(2*cwS r)) 0):=by
 have hT:=hV.turn;obtain ⟨hB,hK⟩:=base_rep hV;have hr3:0≤r∧r≤3:=by have:=h.hr;omega
 have hN:=homeN hr3;have hlt:=hN.lt;have hne:=hN.ne;have hg:=mk4_cast hV h;have hp1:pieceAt (boardOf P.bd) (homeK r)=1+6*P.turn:=by
  have:=hB.pieceAt hlt.1;rw [←hN.ki] at this;rw [this,h.king]
 have t1:hasTag (⟨tags,homeK r,homeK r+(2*cwS r),0⟩:Mv) 1=decide (r%2=0):=by rw [tag1];exact h0
 have t2:hasTag (⟨tags,homeK r,homeK r+(2*cwS r),0⟩:Mv) 2=decide (r%2=1):=by rw [tag2];exact h1
 have t8:hasTag (⟨tags,homeK r,homeK r+(2*cwS r),0⟩:Mv) 8=false:=by rw [tag8];exact h3
 have hb1:=updTo_bits hB.bits (M:=⟨tags,homeK r,homeK r+(2*cwS r),0⟩) (by dsimp only;have:=hN.ki;omega) (by dsimp only;have:=hN.ti;omega) (by dsimp only;have:=hN.ki;have:=hN.ti;omega);dsimp only at hb1;have hk:=chain_k (⟨tags,homeK r,homeK r+(2*cwS r),0⟩:Mv) (1+6*P.turn) (boardOf P.bd);have e:updB (boardOf P.bd) ⟨tags,homeK r,homeK r+(2*cwS r),0⟩=moveK (calcB (updCastle ⟨tags,homeK r,homeK r+(2*cwS r),0⟩ (1+6*P.turn) (updEP ⟨tags,homeK r,homeK r+(2*cwS r),0⟩ (1+6*P.turn) (updPromo ⟨tags,homeK r,homeK r+(2*cwS r),0⟩ (1+6*P.turn) (updTo (boardOf P.bd) ⟨tags,homeK r,homeK r+(2*cwS r),0⟩ 12))))) ⟨tags,homeK r,homeK r+(2*cwS r),0⟩:=by
  unfold updB;dsimp only;rw [hp1]
 rw [e];rw [promo_id rfl,ep_id t8] at hk⊢;have hb2:BBits (updCastle ⟨tags,homeK r,homeK r+(2*cwS r),0⟩ (1+6*P.turn) (updTo (boardOf P.bd) ⟨tags,homeK r,homeK r+(2*cwS r),0⟩ 12)) (mk4 P.bd P.turn (homeK r) (homeK r+(2*cwS r)) 0):=by
  have hrook:=rook_bits hb1 (k:=(3+6*P.turn).toNat) (by omega) hlt.2.1 hlt.2.2.1 hne.2.2.2.1 (by rw [upd_ne hne.2.2.2.2.1,upd_ne (Ne.symm hne.1),h.rook];omega) (by rw [upd_ne hne.2.2.2.2.2,upd_ne (Ne.symm hne.2.1)];exact h.mid);have hrook:=hrook.congr (bd':=mk4 P.bd P.turn (homeK r) (homeK r+(2*cwS r)) 0) fun s _=>by
   rw [hg s,h.king];unfold castBd;rw [show (((3+6*P.turn).toNat:Nat):Int)=3+6*P.turn by omega]
  have e2:updCastle ⟨tags,homeK r,homeK r+(2*cwS r),0⟩ (1+6*P.turn) (updTo (boardOf P.bd) ⟨tags,homeK r,homeK r+(2*cwS r),0⟩ 12)=rook (updTo (boardOf P.bd) ⟨tags,homeK r,homeK r+(2*cwS r),0⟩ 12) (3+6*P.turn).toNat (((homeR r).toNat:Nat):Int) (((homeK r+cwS r).toNat:Nat):Int):=by
   unfold updCastle;rw [t1,t2];have:=h.hr;rcases (by omega:(P.turn=0∧r=0)∨(P.turn=0∧r=1)∨(P.turn=1∧r=2)∨(P.turn=1∧r=3)) with ⟨et,rfl⟩|⟨et,rfl⟩|⟨et,rfl⟩|⟨et,rfl⟩<;>rw [et]<;>rfl
  rw [e2];exact hrook
 have hr:=moveK_brep (calc_rep hb2 (mk4_rng hV.bd hV.turn (by have:=hN.ki;omega) (by omega))) ⟨tags,homeK r,homeK r+(2*cwS r),0⟩;refine ⟨hr,moveK_rep hK hk.1 hk.2 hN.ki hN.ti (fun k=>?_) (fun k=>?_)⟩
 · exact cast_only hV h (Or.inl rfl)
 exact cast_only hV h (Or.inr rfl)
noncomputable def zero180:Array Value:=match Tryz.prog.info? 180 with|some i=>(match i.zero with|some z=>z.cells|none=>#[])|none=>#[]
theorem zero180_size:zero180.size=11:=by kernel_rfl
theorem arr_row{w:World}{b:Nat}{A:Array Value}{q:Value}{m:Mv}{t:TypeId}{fr:Nat×Nat}(h:At w b (.cells (storeRow A 0 (mvCells q m).toList) t fr))(hs:11≤A.size):(Ob.row ⟨b,0,none⟩ 11 (mvCells q m)).holds w:=by
 have hl:(mvCells q m).toList.length=11:=by simp [mvCells]
 have ht:=storeRow_take (mvCells q m).toList A 0 (by omega);rw [hl] at ht;simp only [List.take_zero,List.nil_append,Nat.zero_add] at ht;refine At.part h (by simp [mvCells]) fun j hj=>?_;have e:(mvCells q m)[j]?=(mvCells q m).toList[j]?:=by simp
 have e2:=congrArg (fun l=>l[j]?) ht;simp only [List.getElem?_take,hj,if_true] at e2;rw [e,←e2,Nat.zero_add];simp
set_option maxHeartbeats 1600000 in
theorem c122t{c:GC}{p b:Nat}{vm:Value}{S:Ps}{w:World}(hp:At w p (.cells (psCells b vm S) 110 (0,0))){B:Bd}(hb:At w b (.cells (bdCells B) 135 (0,0)))(hG:Glob c w)(hpc:∀p s:Int,(1≤p∧p≤12)→(0≤s∧s≤63)→(band (Bd.of B p) (bbSq s)==(0:Int))=false→1≤pieceAt B s∧pieceAt B s≤12)(hk:KingsOk B)(hT:S.turn=1∨S.turn=2)(he:-1≤S.ep∧S.ep≤63):
  Calls Tryz.prog 122 [pz p,.bool true].toArray w (fun e w'=>∃g n X t,e=.returned (.slice (some ⟨g,0,none⟩) n n)∧Mod [] w w'∧w.heap.size≤g∧At w' g (.cells X t (0,0))∧X.size=n*11∧n≤1∧(0<n↔0<(stdL B S).length)):=by
 have hm0:Mod [] w w:=Mod.refl _ _;refine enter (n:=159) Tryz.func122 rfl Tryz.ntmps122 rfl ?_;refine zw ?_;refine yS 1 ?_;refine zx ?_;refine zA zero176 176 (some 5) ?_;intro b1 w2 hn3;have hb4:c.base≤b1:=Glob.lt hG hn3;have hb5:=Nat.le_trans hm0.size hn3.base;have hm6:=hn3.mod;have hG9:=Glob.on hG hm6;have hm10:=zt hm0 hm6;refine zx ?_;refine yS 1 ?_;refine zx ?_;refine zA (mvCells (.pointer none) (⟨0,0,0,0⟩:Mv)) 98 (some 7) ?_;intro b12 w13 hn14;have hb15:c.base≤b12:=Glob.lt hG9 hn14;have hb16:=Nat.le_trans hm10.size hn14.base;have hm17:=hn14.mod;have hG21:=Glob.on hG9 hm17;have hm22:=zt hm10 hm17;refine zx ?_;refine yO 9 [.cell ⟨p,0,none⟩ (pz b),.cell ⟨b,12,none⟩ (.int .u64 B.white)] (⟨yc rfl,yc rfl⟩) ?_;refine zz ?_;refine w_cut (γ:=Int) (fun g24=>[(0,pz p),(1,.bool true),(5,pz b1),(6,.int .i64 0),(7,pz b12),(8,.int .u64 g24)]) (fun g24 w_=>Mod [] w13 w_∧g24=(allowed B S.turn)) ?_ ?_
 ·refine zw ?_;refine yS 1 ?_;refine zk (some 29) (c66 (yA w13 p)) ?_;intro w28 hm29;refine yS 1 ?_;refine zz ?_;refine yC (S.turn==2) (fun hc37=>?_) fun hc37=>?_
  ·have dhc37:=eq_of_beq hc37;refine w_region ?_;refine yO 9 [.cell ⟨p,0,none⟩ (pz b),.cell ⟨b,13,none⟩ (.int .u64 B.black)] (⟨yc rfl,yc rfl⟩) ?_;refine ze ?_;exact zb (bnot B.black) ⟨yt,(by simp only [allowed,hc37,cond_true,cond_false])⟩
  have dhc37:=ne_of_beq_false hc37;refine w_skip ?_;exact zb (bnot B.white) ⟨yt,(by simp only [allowed,hc37,cond_true,cond_false])⟩
 rintro _ w25 ⟨hm26,rfl⟩;have hG42:=Glob.on hG21 hm26;have hm43:=zt hm22 hm26;refine w_seq ?_;refine zw ?_;refine yO 3 [.cell ⟨0,0,none⟩ (.slice (some ⟨c.ap,c.apo,none⟩) 12 12)] (hG42.g0) ?_;refine zz ?_;refine w_block ?_;have he56:fm (pF B S) (0:Int).toNat=[]:=by simp [fm]
 refine yP (γ:=Int×Array Value×Mv) (fun q47=>(12-q47.1).toNat) (fun q47=>[(0,pz p),(1,.bool true),(5,pz b1),(6,.int .i64 0),(7,pz b12),(8,.int .u64 (allowed B S.turn)),(39,.slice (some ⟨c.ap,c.apo,none⟩) 12 12),(40,.int .i64 ((12:Nat):Int)),(41,.int .i64 q47.1)]) (fun (q47:Int×Array Value×Mv) w_=>(0≤q47.1∧q47.1≤12)∧Mod [b1,b12] w25 w_∧At w_ b1 (.cells q47.2.1 176 (0,0))∧At w_ b12 (.cells (mvCells (.pointer none) q47.2.2) 98 (0,0))∧MvArr q47.2.1 []∧fm (pF B S) q47.1.toNat=[]) (0,zero176,(⟨0,0,0,0⟩:Mv)) ⟨by constructor<;>dsimp only<;>omega,Mod.refl _ _,ya,ya,MvArr.zero,he56⟩ ?_;rintro ⟨g44,A45,M46⟩ w48 ⟨⟨h50,h51⟩,hm49,hf52,hf53,hx54,hz55⟩;replace h50:0≤g44:=h50;replace h51:g44≤12:=h51;replace hf52:At w48 b1 (.cells A45 176 (0,0)):=hf52;replace hf53:At w48 b12 (.cells (mvCells (.pointer none) M46) 98 (0,0)):=hf53;replace hx54:MvArr A45 []:=hx54;replace hz55:fm (pF B S) g44.toNat=[]:=hz55;have hG59:=Glob.keep hG42 hm49 (by simp<;>omega);have hm60:=Mod.fresh' hm43 hm49 (by simp<;>omega);refine zw ?_;refine yS 1 ?_;refine zz ?_;refine w_seq ?_;refine yC (decide (g44<((12:Nat):Int))) (fun hc61=>?_) fun hc61=>?_
 ·have dhc61:=of_decide_eq_true hc61;refine w_skip ?_;refine n_then ?_;refine w_seq ?_;refine w_block ?_;refine zw ?_;refine yO 3 [.prop (0≤g44∧g44<((12:Nat):Int)),.cell ⟨c.ap,(c.apo+g44.toNat*1),none⟩ (.int .i8 (((g44.toNat*1:Nat):Int)+1))] (⟨(zh (by omega)),(hG59.pieces (g44.toNat*1) (by omega))⟩) ?_;refine ze ?_;rw [(show ((((g44.toNat*1:Nat):Int)+1):Int)=(g44+1) from (by omega))];refine n_then ?_;refine w_seq ?_;refine zw ?_;refine yS 1 ?_;refine zk (some 46) (c66 (yA w48 p)) ?_;intro w62 hm63;have hG68:=Glob.on hG59 hm63;have hm69:=zt hm60 hm63;have hm70:=Mod.trans hm49 (Mod.of_nil hm63);refine yS 1 ?_;refine zk (some 48) (c102 (g44+1) w62) ?_;intro w71 hm72;have hG77:=Glob.on hG68 hm72;have hm78:=zt hm69 hm72;have hm79:=Mod.trans hm70 (Mod.of_nil hm72);refine yS 1 ?_;refine zz ?_;refine yC (S.turn !=(pColor (g44+1))) (fun hc80=>?_) fun hc80=>?_
  ·refine w_exit ?_;refine x_then ?_;refine x_hit ?_;refine n_then ?_;refine w_region ?_;refine yS 2 ?_;refine yW 41 (zi (g44+1) (by omega) (by omega)) ?_;refine ze ?_;have he81:fm (pF B S) (g44+1).toNat=[]:=by rw [fm_succ (by omega)];refine Eq.trans ?_ hz55;simp only [pF,hc80,cond_true,cond_false,Bool.not_true,Bool.not_false,List.append_nil]
   have hM84:At w71 b12 (.cells (mvCells (.pointer none) M46) 98 (0,0)):=ya;obtain ⟨Aq85,hA82,hX83⟩:∃A,At w71 b1 (.cells A 176 (0,0))∧MvArr A []:=⟨_,ya,hx54⟩;exact zl ((g44+1),Aq85,M46) ⟨by constructor<;>dsimp only<;>omega,hm79,hA82,hM84,hX83,he81⟩ (hlt:=(by dsimp only;omega))
  refine w_skip ?_;refine zn ?_;refine yL 5 p 0 ?_;refine zk (some 55) (c97 (yA w71 b) (g44+1)) ?_;intro w86 hm87;have hG92:=Glob.on hG77 hm87;have hm93:=zt hm78 hm87;have hm94:=Mod.trans hm79 (Mod.of_nil hm87);refine yS 1 ?_;refine zz ?_;refine w_seq ?_;refine zw ?_;refine yS 2 ?_;refine zz ?_;refine yC ((Bd.of B (g44+1))==0) (fun hc95=>?_) fun hc95=>?_
  ·have dhc95:=eq_of_beq hc95;refine w_exit ?_;refine x_then ?_;refine x_hit ?_;refine n_then ?_;refine w_region ?_;refine yS 2 ?_;refine yW 41 (zi (g44+1) (by omega) (by omega)) ?_;refine ze ?_;have he96:fm (pF B S) (g44+1).toNat=[]:=by rw [fm_succ (by omega)];refine Eq.trans ?_ hz55;simp only [pF,hc80,hc95,cond_true,cond_false,Bool.not_true,Bool.not_false,List.append_nil]
   have hM99:At w86 b12 (.cells (mvCells (.pointer none) M46) 98 (0,0)):=ya;obtain ⟨Aq100,hA97,hX98⟩:∃A,At w86 b1 (.cells A 176 (0,0))∧MvArr A []:=⟨_,ya,hx54⟩;exact zl ((g44+1),Aq100,M46) ⟨by constructor<;>dsimp only<;>omega,hm94,hA97,hM99,hX98,he96⟩ (hlt:=(by dsimp only;omega))
  have dhc95:=ne_of_beq_false hc95;refine w_skip ?_;refine n_then ?_;refine w_seq ?_;have hb101:(fm (pF B S) g44.toNat).length+(fm (s1F B S (g44+1)) 64).length≤(stdL B S).length:=by
   have hh:=fm_le (f:=pF B S) (n:=12) (j:=g44) (by omega) (by omega);simp only [pF,hc80,hc95,cond_true,cond_false] at hh;exact hh
  refine w_region ?_;refine yS 1 ?_;refine zz ?_;refine w_block ?_;have he114:fm (pF B S) g44.toNat++fm (s1F B S (g44+1)) (0:Int).toNat=[]:=by rw [hz55];simp [fm]
  refine yP (γ:=Int×Array Value×Mv) (fun q105=>(64-q105.1).toNat) (fun q105=>[(0,pz p),(1,.bool true),(5,pz b1),(6,.int .i64 0),(7,pz b12),(8,.int .u64 (allowed B S.turn)),(10,.int .i8 (g44+1)),(11,.int .u64 (Bd.of B (g44+1))),(39,.slice (some ⟨c.ap,c.apo,none⟩) 12 12),(40,.int .i64 ((12:Nat):Int)),(41,.int .i64 g44),(58,.int .i64 q105.1)]) (fun (q105:Int×Array Value×Mv) w_=>(0≤q105.1∧q105.1≤64)∧Mod [b1,b12] w86 w_∧At w_ b1 (.cells q105.2.1 176 (0,0))∧At w_ b12 (.cells (mvCells (.pointer none) q105.2.2) 98 (0,0))∧MvArr q105.2.1 []∧fm (pF B S) g44.toNat++fm (s1F B S (g44+1)) q105.1.toNat=[]) (0,A45,M46) ⟨by constructor<;>dsimp only<;>omega,Mod.refl _ _,ya,ya,hx54,he114⟩ ?_;rintro ⟨g102,A103,M104⟩ w106 ⟨⟨h108,h109⟩,hm107,hf110,hf111,hx112,hz113⟩;replace h108:0≤g102:=h108;replace h109:g102≤64:=h109;replace hf110:At w106 b1 (.cells A103 176 (0,0)):=hf110;replace hf111:At w106 b12 (.cells (mvCells (.pointer none) M104) 98 (0,0)):=hf111;replace hx112:MvArr A103 []:=hx112;replace hz113:fm (pF B S) g44.toNat++fm (s1F B S (g44+1)) g102.toNat=[]:=hz113;have hG117:=Glob.keep hG92 hm107 (by simp<;>omega);have hm118:=Mod.fresh' hm93 hm107 (by simp<;>omega);have hm119:=Mod.fresh' hm94 hm107 (by simp<;>omega);refine zw ?_;refine yS 1 ?_;refine zz ?_;refine w_seq ?_;refine yC (decide (g102<64)) (fun hc120=>?_) fun hc120=>?_
  ·have dhc120:=of_decide_eq_true hc120;refine w_skip ?_;refine n_then ?_;refine w_seq ?_;refine w_block ?_;refine zw ?_;refine yS 2 ?_;refine zz ?_;refine w_seq ?_;refine zw ?_;refine zs 3 [rz 0 p,(1,.bool true),rz 5 b1,iz 6 0,rz 7 b12,(8,.int .u64 (allowed B S.turn)),(10,.int .i8 (g44+1)),(11,.int .u64 (Bd.of B (g44+1))),iz 12 g102,(39,.slice (some ⟨c.ap,c.apo,none⟩) 12 12),iz 40 ((12:Nat):Int),iz 41 g44,iz 58 g102,(61,.int .u64 (Bd.of B (g44+1))),(63,.int .i8 (IntKind.i8.wrap g102))] ?_;rw [(show ((IntKind.i8.wrap g102):Int)=g102 from i8_in' (by omega) (by omega))];refine zk (some 64) (c99 g102 w106 (by omega) (by omega)) ?_;intro w121 hm122;have hG127:=Glob.on hG117 hm122;have hm128:=zt hm118 hm122;have hm129:=Mod.trans hm119 (Mod.of_nil hm122);have hm130:=Mod.trans hm107 (Mod.of_nil hm122);refine yS 2 ?_;refine zz ?_;refine yC ((band (Bd.of B (g44+1)) (bbSq g102))==0) (fun hc131=>?_) fun hc131=>?_
   ·have dhc131:=eq_of_beq hc131;refine w_exit ?_;refine x_then ?_;refine x_hit ?_;refine n_then ?_;refine w_region ?_;refine yS 2 ?_;refine yW 58 (zi (g102+1) (by omega) (by omega)) ?_;refine ze ?_;have he132:fm (pF B S) g44.toNat++fm (s1F B S (g44+1)) (g102+1).toNat=[]:=by rw [fm_succ (by omega),←List.append_assoc];refine Eq.trans ?_ hz113;simp only [s1F,dest,hc80,hc95,hc131,cond_true,cond_false,Bool.not_true,Bool.not_false,List.append_nil]
    have hM135:At w121 b12 (.cells (mvCells (.pointer none) M104) 98 (0,0)):=ya;obtain ⟨Aq136,hA133,hX134⟩:∃A,At w121 b1 (.cells A 176 (0,0))∧MvArr A []:=⟨_,ya,hx112⟩;exact zl ((g102+1),Aq136,M104) ⟨by constructor<;>dsimp only<;>omega,hm130,hA133,hM135,hX134,he132⟩ (hlt:=(by dsimp only;omega))
   have dhc131:=ne_of_beq_false hc131;refine w_skip ?_;refine zn ?_;refine yS 2 ?_;refine zk (some 69) (c73 (g44+1) w121) ?_;intro w137 hm138;have hG143:=Glob.on hG127 hm138;have hm144:=zt hm128 hm138;have hm145:=Mod.trans hm129 (Mod.of_nil hm138);have hm146:=Mod.trans hm130 (Mod.of_nil hm138);refine zs 2 [rz 0 p,(1,.bool true),rz 5 b1,iz 6 0,rz 7 b12,(8,.int .u64 (allowed B S.turn)),(10,.int .i8 (g44+1)),(11,.int .u64 (Bd.of B (g44+1))),iz 12 g102,(39,.slice (some ⟨c.ap,c.apo,none⟩) 12 12),iz 40 ((12:Nat):Int),iz 41 g44,iz 58 g102,rz 67 p,(69,.int .i8 (pType (g44+1))),(71,.int .i8 (IntKind.i8.wrap g102))] ?_;rw [(show ((IntKind.i8.wrap g102):Int)=g102 from i8_in' (by omega) (by omega))];refine zk (some 72) (c134 (yA w137 p) (yA w137 b) hG143 (pType (g44+1)) g102 (by omega) (by assumption)) ?_;intro w147 hm148;have hG153:=Glob.on hG143 hm148;have hm154:=zt hm144 hm148;have hm155:=Mod.trans hm145 (Mod.of_nil hm148);have hm156:=Mod.trans hm146 (Mod.of_nil hm148);refine yS 3 ?_;refine zz ?_;refine w_seq ?_;refine zw ?_;refine yS 2 ?_;refine zz ?_;refine yC ((band (possMv B S (pType (g44+1)) g102) (allowed B S.turn))==0) (fun hc157=>?_) fun hc157=>?_
   ·have dhc157:=eq_of_beq hc157;refine w_exit ?_;refine x_then ?_;refine x_hit ?_;refine n_then ?_;refine w_region ?_;refine yS 2 ?_;refine yW 58 (zi (g102+1) (by omega) (by omega)) ?_;refine ze ?_;have he158:fm (pF B S) g44.toNat++fm (s1F B S (g44+1)) (g102+1).toNat=[]:=by rw [fm_succ (by omega),←List.append_assoc];refine Eq.trans ?_ hz113;simp only [s1F,dest,hc80,hc95,hc131,hc157,cond_true,cond_false,Bool.not_true,Bool.not_false,List.append_nil]
    have hM161:At w147 b12 (.cells (mvCells (.pointer none) M104) 98 (0,0)):=ya;obtain ⟨Aq162,hA159,hX160⟩:∃A,At w147 b1 (.cells A 176 (0,0))∧MvArr A []:=⟨_,ya,hx112⟩;exact zl ((g102+1),Aq162,M104) ⟨by constructor<;>dsimp only<;>omega,hm156,hA159,hM161,hX160,he158⟩ (hlt:=(by dsimp only;omega))
   have dhc157:=ne_of_beq_false hc157;refine w_skip ?_;refine n_then ?_;refine w_seq ?_;have hb163:(fm (pF B S) g44.toNat).length+(fm (s1F B S (g44+1)) g102.toNat).length+(fm (s2F B S (g44+1) g102) 64).length≤(stdL B S).length:=by
    have hh:=fm_le (f:=s1F B S (g44+1)) (n:=64) (j:=g102) (by omega) (by omega);simp only [s1F,dest,hc80,hc95,hc131,hc157,cond_true,cond_false] at hh;have h2:=hb101;omega
   refine w_region ?_;refine yS 1 ?_;refine zz ?_;refine w_block ?_;have he176:fm (pF B S) g44.toNat++fm (s1F B S (g44+1)) g102.toNat++fm (s2F B S (g44+1) g102) (0:Int).toNat=[]:=by rw [hz113];simp [fm]
   refine yP (γ:=Int×Array Value×Mv) (fun q167=>(64-q167.1).toNat) (fun q167=>[(0,pz p),(1,.bool true),(5,pz b1),(6,.int .i64 0),(7,pz b12),(8,.int .u64 (allowed B S.turn)),(10,.int .i8 (g44+1)),(11,.int .u64 (Bd.of B (g44+1))),(12,.int .i64 g102),(13,.int .u64 (band (possMv B S (pType (g44+1)) g102) (allowed B S.turn))),(39,.slice (some ⟨c.ap,c.apo,none⟩) 12 12),(40,.int .i64 ((12:Nat):Int)),(41,.int .i64 g44),(58,.int .i64 g102),(77,.int .i64 q167.1)]) (fun (q167:Int×Array Value×Mv) w_=>(0≤q167.1∧q167.1≤64)∧Mod [b1,b12] w147 w_∧At w_ b1 (.cells q167.2.1 176 (0,0))∧At w_ b12 (.cells (mvCells (.pointer none) q167.2.2) 98 (0,0))∧MvArr q167.2.1 []∧fm (pF B S) g44.toNat++fm (s1F B S (g44+1)) g102.toNat++fm (s2F B S (g44+1) g102) q167.1.toNat=[]) (0,A103,M104) ⟨by constructor<;>dsimp only<;>omega,Mod.refl _ _,ya,ya,hx112,he176⟩ ?_;rintro ⟨g164,A165,M166⟩ w168 ⟨⟨h170,h171⟩,hm169,hf172,hf173,hx174,hz175⟩;replace h170:0≤g164:=h170;replace h171:g164≤64:=h171;replace hf172:At w168 b1 (.cells A165 176 (0,0)):=hf172;replace hf173:At w168 b12 (.cells (mvCells (.pointer none) M166) 98 (0,0)):=hf173;replace hx174:MvArr A165 []:=hx174;replace hz175:fm (pF B S) g44.toNat++fm (s1F B S (g44+1)) g102.toNat++fm (s2F B S (g44+1) g102) g164.toNat=[]:=hz175;have hG179:=Glob.keep hG153 hm169 (by simp<;>omega);have hm180:=Mod.fresh' hm154 hm169 (by simp<;>omega);have hm181:=Mod.fresh' hm155 hm169 (by simp<;>omega);have hm182:=Mod.fresh' hm156 hm169 (by simp<;>omega);refine zw ?_;refine yS 1 ?_;refine zz ?_;refine w_seq ?_;refine yC (decide (g164<64)) (fun hc183=>?_) fun hc183=>?_
   ·have dhc183:=of_decide_eq_true hc183;refine w_skip ?_;refine n_then ?_;refine w_seq ?_;refine w_block ?_;refine zw ?_;refine yS 2 ?_;refine zz ?_;refine w_seq ?_;refine zw ?_;refine zs 3 [rz 0 p,(1,.bool true),rz 5 b1,iz 6 0,rz 7 b12,(8,.int .u64 (allowed B S.turn)),(10,.int .i8 (g44+1)),(11,.int .u64 (Bd.of B (g44+1))),iz 12 g102,(13,.int .u64 (band (possMv B S (pType (g44+1)) g102) (allowed B S.turn))),iz 14 g164,(39,.slice (some ⟨c.ap,c.apo,none⟩) 12 12),iz 40 ((12:Nat):Int),iz 41 g44,iz 58 g102,iz 77 g164,(80,.int .u64 (band (possMv B S (pType (g44+1)) g102) (allowed B S.turn))),(82,.int .i8 (IntKind.i8.wrap g164))] ?_;rw [(show ((IntKind.i8.wrap g164):Int)=g164 from i8_in' (by omega) (by omega))];refine zk (some 83) (c99 g164 w168 (by omega) (by omega)) ?_;intro w184 hm185;have hG190:=Glob.on hG179 hm185;have hm191:=zt hm180 hm185;have hm192:=Mod.trans hm181 (Mod.of_nil hm185);have hm193:=Mod.trans hm182 (Mod.of_nil hm185);have hm194:=Mod.trans hm169 (Mod.of_nil hm185);refine yS 2 ?_;refine zz ?_;refine yC ((band (band (possMv B S (pType (g44+1)) g102) (allowed B S.turn)) (bbSq g164))==0) (fun hc195=>?_) fun hc195=>?_
    ·have dhc195:=eq_of_beq hc195;refine w_exit ?_;refine x_then ?_;refine x_hit ?_;refine n_then ?_;refine w_region ?_;refine yS 2 ?_;refine yW 77 (zi (g164+1) (by omega) (by omega)) ?_;refine ze ?_;have he196:fm (pF B S) g44.toNat++fm (s1F B S (g44+1)) g102.toNat++fm (s2F B S (g44+1) g102) (g164+1).toNat=[]:=by rw [fm_succ (by omega),←List.append_assoc];refine Eq.trans ?_ hz175;simp only [s2F,dest,isPromo,keepM,plainM,hc80,hc95,hc131,hc157,hc195,cond_true,cond_false,Bool.not_true,Bool.not_false,List.append_nil]
     have hM199:At w184 b12 (.cells (mvCells (.pointer none) M166) 98 (0,0)):=ya;obtain ⟨Aq200,hA197,hX198⟩:∃A,At w184 b1 (.cells A 176 (0,0))∧MvArr A []:=⟨_,ya,hx174⟩;exact zl ((g164+1),Aq200,M166) ⟨by constructor<;>dsimp only<;>omega,hm194,hA197,hM199,hX198,he196⟩ (hlt:=(by dsimp only;omega))
    have dhc195:=ne_of_beq_false hc195;refine w_skip ?_;refine zn ?_;refine zs 3 [rz 0 p,(1,.bool true),rz 5 b1,iz 6 0,rz 7 b12,(8,.int .u64 (allowed B S.turn)),(10,.int .i8 (g44+1)),(11,.int .u64 (Bd.of B (g44+1))),iz 12 g102,(13,.int .u64 (band (possMv B S (pType (g44+1)) g102) (allowed B S.turn))),iz 14 g164,(39,.slice (some ⟨c.ap,c.apo,none⟩) 12 12),iz 40 ((12:Nat):Int),iz 41 g44,iz 58 g102,iz 77 g164,(87,.int .i8 (IntKind.i8.wrap g102)),(88,.pointer (some ⟨b12,8,none⟩))] ?_;rw [(show ((IntKind.i8.wrap g102):Int)=g102 from i8_in' (by omega) (by omega))];refine zS b12 8 (.int .i8 g102) ?_;intro w201 hu202;have hG207:=Glob.keep hG190 hu202.mod (by simp<;>omega);have hm208:=Mod.fresh' hm191 hu202.mod (by simp<;>omega);have hm209:=Mod.fresh' hm192 hu202.mod (by simp<;>omega);have hm210:=Mod.fresh' hm193 hu202.mod (by simp<;>omega);have hm211:=Mod.fresh' hm194 hu202.mod (by simp<;>omega);refine zx ?_;refine zs 3 [rz 0 p,(1,.bool true),rz 5 b1,iz 6 0,rz 7 b12,(8,.int .u64 (allowed B S.turn)),(10,.int .i8 (g44+1)),(11,.int .u64 (Bd.of B (g44+1))),iz 12 g102,(13,.int .u64 (band (possMv B S (pType (g44+1)) g102) (allowed B S.turn))),iz 14 g164,(39,.slice (some ⟨c.ap,c.apo,none⟩) 12 12),iz 40 ((12:Nat):Int),iz 41 g44,iz 58 g102,iz 77 g164,(90,.int .i8 (IntKind.i8.wrap g164)),(91,.pointer (some ⟨b12,9,none⟩))] ?_;rw [(show ((IntKind.i8.wrap g164):Int)=g164 from i8_in' (by omega) (by omega))];refine zS b12 9 (.int .i8 g164) ?_;intro w212 hu213;have hG218:=Glob.keep hG207 hu213.mod (by simp<;>omega);have hm219:=Mod.fresh' hm208 hu213.mod (by simp<;>omega);have hm220:=Mod.fresh' hm209 hu213.mod (by simp<;>omega);have hm221:=Mod.fresh' hm210 hu213.mod (by simp<;>omega);have hm222:=Mod.fresh' hm211 hu213.mod (by simp<;>omega);refine zx ?_;refine yS 1 ?_;refine zS b12 7 (.int .u16 0) ?_;intro w223 hu224;have hG229:=Glob.keep hG218 hu224.mod (by simp<;>omega);have hm230:=Mod.fresh' hm219 hu224.mod (by simp<;>omega);have hm231:=Mod.fresh' hm220 hu224.mod (by simp<;>omega);have hm232:=Mod.fresh' hm221 hu224.mod (by simp<;>omega);have hm233:=Mod.fresh' hm222 hu224.mod (by simp<;>omega);refine zz ?_;refine w_cut (γ:=Unit) (fun _=>[(0,pz p),(1,.bool true),(5,pz b1),(6,.int .i64 0),(7,pz b12),(8,.int .u64 (allowed B S.turn)),(10,.int .i8 (g44+1)),(11,.int .u64 (Bd.of B (g44+1))),(12,.int .i64 g102),(13,.int .u64 (band (possMv B S (pType (g44+1)) g102) (allowed B S.turn))),(39,.slice (some ⟨c.ap,c.apo,none⟩) 12 12),(40,.int .i64 ((12:Nat):Int)),(41,.int .i64 g44),(58,.int .i64 g102),(77,.int .i64 g164),(110,.bool ((((g44+1)==6)&&((sqRank (IntKind.i8.wrap g164))==7))||(((g44+1)==12)&&((sqRank (IntKind.i8.wrap g164))==0))))]) (fun _ w_=>Mod [] w223 w_) ?_ ?_
    ·refine w_region ?_;refine yS 3 ?_;refine yE 95 (.bool ((g44+1)==(6:Int))) ?_;cases hc237:((g44+1)==(6:Int))
     ·refine yS 9 ?_;refine yE 104 (.bool ((g44+1)==(12:Int))) ?_;cases hc238:((g44+1)==(12:Int))
      ·refine yS 6 ?_;refine ze ?_;exact zb () yt
      refine yS 2 ?_;refine zk (some 107) (c132 (IntKind.i8.wrap g164) w223) ?_;intro w239 hm240;refine yS 3 ?_;refine ze ?_;exact zb () yt
     refine yS 2 ?_;refine zk (some 98) (c132 (IntKind.i8.wrap g164) w223) ?_;intro w250 hm251;refine yS 3 ?_;refine yE 101 (.bool ((sqRank (IntKind.i8.wrap g164))==(7:Int))) ?_;cases hc261:((sqRank (IntKind.i8.wrap g164))==(7:Int))
     ·refine yS 3 ?_;refine yE 104 (.bool ((g44+1)==(12:Int))) ?_;cases hc262:((g44+1)==(12:Int))
      ·refine yS 6 ?_;refine ze ?_;exact zb () yt
      refine yS 2 ?_;refine zk (some 107) (c132 (IntKind.i8.wrap g164) w250) ?_;intro w263 hm264;refine yS 3 ?_;refine ze ?_;exact zb () yt
     refine yS 9 ?_;refine ze ?_;exact zb () yt
    intro _ w234 hm235;have hG278:=Glob.on hG229 hm235;have hm279:=zt hm230 hm235;have hm280:=Mod.trans hm231 (Mod.of_nil hm235);have hm281:=Mod.trans hm232 (Mod.of_nil hm235);have hm282:=Mod.trans hm233 (Mod.of_nil hm235);rw [(show ((IntKind.i8.wrap g164):Int)=g164 from i8_in' (by omega) (by omega))];refine zc (fun hc283=>?_) fun hc283=>?_
    ·refine w_seq ?_;have hb284:(fm (pF B S) g44.toNat).length+(fm (s1F B S (g44+1)) g102.toNat).length+(fm (s2F B S (g44+1) g102) g164.toNat).length+(fm (promoF B S g102 g164) 4).length≤(stdL B S).length:=by
      have hh:=fm_le (f:=s2F B S (g44+1) g102) (n:=64) (j:=g164) (by omega) (by omega);have e:s2F B S (g44+1) g102 g164=fm (promoF B S g102 g164) 4:=by simp only [s2F,dest,isPromo,hc80,hc95,hc131,hc157,hc195,hc283,cond_true,cond_false]
      rw [e] at hh;omega
     refine w_region ?_;refine yO 3 [.cell ⟨7,0,none⟩ (.slice (some ⟨c.pp,c.ppo,none⟩) 4 4)] (hG278.g7) ?_;refine zz ?_;refine w_block ?_;have he297:fm (pF B S) g44.toNat++fm (s1F B S (g44+1)) g102.toNat++fm (s2F B S (g44+1) g102) g164.toNat++fm (promoF B S g102 g164) (0:Int).toNat=[]:=by rw [hz175];simp [fm]
     refine yP (γ:=Int×Array Value×Int) (fun q288=>(4-q288.1).toNat) (fun q288=>[(0,pz p),(1,.bool true),(5,pz b1),(6,.int .i64 0),(7,pz b12),(8,.int .u64 (allowed B S.turn)),(10,.int .i8 (g44+1)),(11,.int .u64 (Bd.of B (g44+1))),(12,.int .i64 g102),(13,.int .u64 (band (possMv B S (pType (g44+1)) g102) (allowed B S.turn))),(39,.slice (some ⟨c.ap,c.apo,none⟩) 12 12),(40,.int .i64 ((12:Nat):Int)),(41,.int .i64 g44),(58,.int .i64 g102),(77,.int .i64 g164),(111,.slice (some ⟨c.pp,c.ppo,none⟩) 4 4),(112,.int .i64 ((4:Nat):Int)),(113,.int .i64 q288.1)]) (fun (q288:Int×Array Value×Int) w_=>(0≤q288.1∧q288.1≤4)∧Mod [b1,b12] w234 w_∧At w_ b1 (.cells q288.2.1 176 (0,0))∧At w_ b12 (.cells (mvCells (.pointer none) ⟨(promoT B S g102 g164 q288.1.toNat),g102,g164,q288.2.2⟩) 98 (0,0))∧MvArr q288.2.1 []∧fm (pF B S) g44.toNat++fm (s1F B S (g44+1)) g102.toNat++fm (s2F B S (g44+1) g102) g164.toNat++fm (promoF B S g102 g164) q288.1.toNat=[]) (0,A165,M166.promo) ⟨by constructor<;>dsimp only<;>omega,Mod.refl _ _,ya,ya,hx174,he297⟩ ?_;rintro ⟨g285,A286,M287⟩ w289 ⟨⟨h291,h292⟩,hm290,hf293,hf294,hx295,hz296⟩;replace h291:0≤g285:=h291;replace h292:g285≤4:=h292;replace hf293:At w289 b1 (.cells A286 176 (0,0)):=hf293;replace hf294:At w289 b12 (.cells (mvCells (.pointer none) ⟨(promoT B S g102 g164 g285.toNat),g102,g164,M287⟩) 98 (0,0)):=hf294;replace hx295:MvArr A286 []:=hx295;replace hz296:fm (pF B S) g44.toNat++fm (s1F B S (g44+1)) g102.toNat++fm (s2F B S (g44+1) g102) g164.toNat++fm (promoF B S g102 g164) g285.toNat=[]:=hz296;have hG300:=Glob.keep hG278 hm290 (by simp<;>omega);have hm301:=Mod.fresh' hm279 hm290 (by simp<;>omega);have hm302:=Mod.fresh' hm280 hm290 (by simp<;>omega);have hm303:=Mod.fresh' hm281 hm290 (by simp<;>omega);have hm304:=Mod.fresh' hm282 hm290 (by simp<;>omega);refine zw ?_;refine yS 1 ?_;refine zz ?_;refine w_seq ?_;refine yC (decide (g285<((4:Nat):Int))) (fun hc305=>?_) fun hc305=>?_
     ·have dhc305:=of_decide_eq_true hc305;refine w_skip ?_;refine n_then ?_;refine w_seq ?_;refine w_block ?_;refine zw ?_;refine yO 3 [.prop (0≤g285∧g285<((4:Nat):Int)),.cell ⟨c.pp,(c.ppo+g285.toNat*1),none⟩ (.int .i8 (((g285.toNat*1:Nat):Int)+2))] (⟨(zh (by omega)),(hG300.promo (g285.toNat*1) (by omega))⟩) ?_;refine ze ?_;rw [(show ((((g285.toNat*1:Nat):Int)+2):Int)=(g285+2) from (by omega))];refine zn ?_;refine yS 2 ?_;refine reg_store b12 10 (.int .i8 (g285+2)) none (by kernel_rfl) hf294 (Nat.le_of_ble_eq_true rfl) rfl ?_;intro w306 hu307;have hG312:=Glob.keep hG300 hu307.mod (by simp<;>omega);have hm313:=Mod.fresh' hm301 hu307.mod (by simp<;>omega);have hm314:=Mod.fresh' hm302 hu307.mod (by simp<;>omega);have hm315:=Mod.fresh' hm303 hu307.mod (by simp<;>omega);have hm316:=Mod.fresh' hm304 hu307.mod (by simp<;>omega);have hm317:=Mod.fresh' hm290 hu307.mod (by simp<;>omega);refine zx ?_;refine yS 1 ?_;have hq318:0≤g102∧g102≤63:=by omega
      have hq319:0≤g164∧g164≤63:=by omega
      have hq320:=hpc (g44+1) g102 (by omega) (by omega) hc131;refine reg_call 135 [pz b12,pz p] (some 120) (by kernel_rfl) (c135 (M:=(⟨(promoT B S g102 g164 g285.toNat),g102,g164,(g285+2)⟩:Mv)) ya ya ya hG312 hq318 hq319 hq320 (pColor_or hq320) (fun _=>(show 1≤(g285+2)∧(g285+2)≤6 from (by omega))) (fun _=>newP_ok (show 1≤(g285+2)∧(g285+2)≤6 from (by omega)) (pColor_or hq320)) (by omega) (by assumption) (by assumption)) ?_;rintro _ w321 ⟨rfl,hm322,hf323⟩;refine ⟨_,rfl,?_⟩;have hG327:=Glob.keep hG312 hm322 (by simp<;>omega);have hm328:=Mod.fresh' hm313 hm322 (by simp<;>omega);have hm329:=Mod.fresh' hm314 hm322 (by simp<;>omega);have hm330:=Mod.fresh' hm315 hm322 (by simp<;>omega);have hm331:=Mod.fresh' hm316 hm322 (by simp<;>omega);have hm332:=Mod.fresh' hm317 hm322 (by simp<;>omega);refine zx ?_;refine zk (some 121) (c74 hf323 32) ?_;intro w333 hm334;have hG339:=Glob.on hG327 hm334;have hm340:=zt hm328 hm334;have hm341:=Mod.trans hm329 (Mod.of_nil hm334);have hm342:=Mod.trans hm330 (Mod.of_nil hm334);have hm343:=Mod.trans hm331 (Mod.of_nil hm334);have hm344:=Mod.trans hm332 (Mod.of_nil hm334);refine yS 1 ?_;refine zz ?_;refine yC (!(hasTag (⟨(tg4 B S (⟨(promoT B S g102 g164 g285.toNat),g102,g164,(g285+2)⟩:Mv)),g102,g164,(g285+2)⟩:Mv) 32)) (fun hc345=>?_) fun hc345=>?_
      ·have nhc345:(hasTag (⟨(tg4 B S (⟨(promoT B S g102 g164 g285.toNat),g102,g164,(g285+2)⟩:Mv)),g102,g164,(g285+2)⟩:Mv) 32)=false:=by simpa using hc345
       refine w_seq ?_;have hne346:0<(stdL B S).length:=by
        have hh:=fm_le (f:=promoF B S g102 g164) (n:=4) (j:=g285) (by omega) (by omega);have he:(promoF B S g102 g164 g285).length=1:=by simp only [promoF,keepM,nhc345,cond_false];rfl
        rw [he] at hh;omega
       have hlt:([]:List Mv).length<218:=by decide
       refine w_region ?_;refine yV 3 [.row ⟨b12,0,none⟩ 11 (mvCells (.pointer none) ⟨(tg4 B S (⟨(promoT B S g102 g164 g285.toNat),g102,g164,(g285+2)⟩:Mv)),g102,g164,(g285+2)⟩),.prop (0≤(0:Int)∧0<((218:Nat):Int))] [.agg (mvCells (.pointer none) ⟨(tg4 B S (⟨(promoT B S g102 g164 g285.toNat),g102,g164,(g285+2)⟩:Mv)),g102,g164,(g285+2)⟩)] (⟨At.row ya rfl,(zh (by omega))⟩) ?_;refine reg_store b1 0 (.agg (mvCells (.pointer none) ⟨(tg4 B S (⟨(promoT B S g102 g164 g285.toNat),g102,g164,(g285+2)⟩:Mv)),g102,g164,(g285+2)⟩)) none (by kernel_rfl) ya (by rw [(MvArr.size hx295)];show 0+11≤2398;omega) rfl ?_;intro w347 hu348;have hG353:=Glob.keep hG339 hu348.mod (by simp<;>omega);have hm354:=Mod.fresh' hm340 hu348.mod (by simp<;>omega);have hm355:=Mod.fresh' hm341 hu348.mod (by simp<;>omega);have hm356:=Mod.fresh' hm342 hu348.mod (by simp<;>omega);have hm357:=Mod.fresh' hm343 hu348.mod (by simp<;>omega);have hm358:=Mod.fresh' hm344 hu348.mod (by simp<;>omega);have hx359:MvArr (storeRow A286 0 (mvCells (.pointer none) ⟨(tg4 B S (⟨(promoT B S g102 g164 g285.toNat),g102,g164,(g285+2)⟩:Mv)),g102,g164,(g285+2)⟩).toList) ([]++[(⟨(tg4 B S (⟨(promoT B S g102 g164 g285.toNat),g102,g164,(g285+2)⟩:Mv)),g102,g164,(g285+2)⟩:Mv)]):=MvArr.push hx295 (by decide) rfl;refine zx ?_;refine yS 3 ?_;refine zx ?_;refine yS 1 ?_;refine zz ?_;refine yT ?_;refine zw ?_;refine zA zero180 180 (some 17) ?_;intro b360 w361 hn362;have hb363:c.base≤b360:=Glob.lt hG353 hn362;have hb364:=Nat.le_trans hm354.size hn362.base;have hb365:=Nat.le_trans hm355.size hn362.base;have hb366:=Nat.le_trans hm356.size hn362.base;have hb367:=Nat.le_trans hm357.size hn362.base;have hb368:=Nat.le_trans hm358.size hn362.base;refine zx ?_;refine yV 3 [.prop (0≤(0:Int)∧0<((218:Nat):Int)),.row ⟨b1,0,none⟩ 11 (mvCells (.pointer none) ⟨(tg4 B S (⟨(promoT B S g102 g164 g285.toNat),g102,g164,(g285+2)⟩:Mv)),g102,g164,(g285+2)⟩),.prop (0≤(0:Int)∧0<((1:Nat):Int))] [.agg (mvCells (.pointer none) ⟨(tg4 B S (⟨(promoT B S g102 g164 g285.toNat),g102,g164,(g285+2)⟩:Mv)),g102,g164,(g285+2)⟩)] (⟨(zh (by omega)),(arr_row ya (by have:=MvArr.size hx295;omega)),(zh (by omega))⟩) ?_;refine zS b360 0 (.agg (mvCells (.pointer none) ⟨(tg4 B S (⟨(promoT B S g102 g164 g285.toNat),g102,g164,(g285+2)⟩:Mv)),g102,g164,(g285+2)⟩)) ?_;intro w381 hu382;refine zx ?_;refine yS 2 ?_;refine zz ?_;refine w_ret ?_;refine r_block ?_;refine r_then ?_;refine r_then ?_;refine r_block ?_;refine r_block ?_;refine r_then ?_;refine r_then ?_;refine r_block ?_;refine r_block ?_;refine r_then ?_;refine r_then ?_;refine r_block ?_;refine r_block ?_;refine r_then ?_;refine r_then ?_;refine r_block ?_;refine r_then ?_;exact y1 (⟨_,1,_,_,rfl,yt,by omega,ya,by simp [storeRow_size,zero180_size],by decide,by omega⟩)
      have nhc345:(hasTag (⟨(tg4 B S (⟨(promoT B S g102 g164 g285.toNat),g102,g164,(g285+2)⟩:Mv)),g102,g164,(g285+2)⟩:Mv) 32)=true:=by simpa using hc345
      refine w_skip ?_;refine n_block ?_;refine n_then ?_;refine w_region ?_;refine zs 2 [rz 0 p,(1,.bool true),rz 5 b1,iz 6 0,rz 7 b12,(8,.int .u64 (allowed B S.turn)),(10,.int .i8 (g44+1)),(11,.int .u64 (Bd.of B (g44+1))),iz 12 g102,(13,.int .u64 (band (possMv B S (pType (g44+1)) g102) (allowed B S.turn))),(39,.slice (some ⟨c.ap,c.apo,none⟩) 12 12),iz 40 ((12:Nat):Int),iz 41 g44,iz 58 g102,iz 77 g164,(111,.slice (some ⟨c.pp,c.ppo,none⟩) 4 4),iz 112 ((4:Nat):Int),iz 113 (IntKind.i64.wrap (g285+1))] ?_;refine ze ?_;rw [zi (g285+1) (by omega) (by omega)];have he394:fm (pF B S) g44.toNat++fm (s1F B S (g44+1)) g102.toNat++fm (s2F B S (g44+1) g102) g164.toNat++fm (promoF B S g102 g164) (g285+1).toNat=[]:=by rw [fm_succ (by omega),←List.append_assoc];refine Eq.trans ?_ hz296;simp only [promoF,keepM,hc80,hc95,hc131,hc157,hc195,hc283,hc345,nhc345,cond_true,cond_false,Bool.not_true,Bool.not_false,List.append_nil]
      have hM397:At w333 b12 (.cells (mvCells (.pointer none) ⟨(promoT B S g102 g164 (g285+1).toNat),g102,g164,(g285+2)⟩) 98 (0,0)):=(at_cast ya (mv_eq (tags_eq (promoT_succ (by omega)).symm)));obtain ⟨Aq398,hA395,hX396⟩:∃A,At w333 b1 (.cells A 176 (0,0))∧MvArr A []:=⟨_,ya,hx295⟩;exact zl ((g285+1),Aq398,(g285+2)) ⟨by constructor<;>dsimp only<;>omega,hm344,hA395,hM397,hX396,he394⟩ (hlt:=(by dsimp only;omega))
     have dhc305:=of_decide_eq_false hc305;obtain rfl:g285=(4:Int):=by omega
     have hx399:fm (pF B S) g44.toNat++fm (s1F B S (g44+1)) g102.toNat++fm (s2F B S (g44+1) g102) g164.toNat++fm (promoF B S g102 g164) 4=[]:=hz296;refine w_exit ?_;refine x_then ?_;refine x_then ?_;refine x_hit ?_;refine n_block ?_;refine n_then ?_;refine w_region ?_;refine zs 2 [rz 0 p,(1,.bool true),rz 5 b1,iz 6 0,rz 7 b12,(8,.int .u64 (allowed B S.turn)),(10,.int .i8 (g44+1)),(11,.int .u64 (Bd.of B (g44+1))),iz 12 g102,(13,.int .u64 (band (possMv B S (pType (g44+1)) g102) (allowed B S.turn))),(39,.slice (some ⟨c.ap,c.apo,none⟩) 12 12),iz 40 ((12:Nat):Int),iz 41 g44,iz 58 g102,iz 77 (IntKind.i64.wrap (g164+1))] ?_;refine ze ?_;rw [zi (g164+1) (by omega) (by omega)];have he400:fm (pF B S) g44.toNat++fm (s1F B S (g44+1)) g102.toNat++fm (s2F B S (g44+1) g102) (g164+1).toNat=[]:=by rw [fm_succ (by omega),←List.append_assoc];refine Eq.trans ?_ hx399;simp only [s2F,dest,isPromo,keepM,plainM,hc80,hc95,hc131,hc157,hc195,hc283,cond_true,cond_false,Bool.not_true,Bool.not_false,List.append_nil]
     have hM403:At w289 b12 (.cells (mvCells (.pointer none) (⟨(promoT B S g102 g164 (4:Int).toNat),g102,g164,M287⟩:Mv)) 98 (0,0)):=hf294;obtain ⟨Aq404,hA401,hX402⟩:∃A,At w289 b1 (.cells A 176 (0,0))∧MvArr A []:=⟨_,hf293,hx295⟩;exact l_back ((g164+1),Aq404,(⟨(promoT B S g102 g164 (4:Int).toNat),g102,g164,M287⟩:Mv)) [0,1,5,6,7,8,10,11,12,13,39,40,41,58,77] (by kernel_rfl) (by dsimp only;omega) ⟨by constructor<;>dsimp only<;>omega,hm304,hA401,hM403,hX402,he400⟩
    refine zw ?_;refine yS 1 ?_;refine reg_store b12 10 (.int .i8 0) none (by kernel_rfl) ya (Nat.le_of_ble_eq_true rfl) rfl ?_;intro w405 hu406;have hG411:=Glob.keep hG278 hu406.mod (by simp<;>omega);have hm412:=Mod.fresh' hm279 hu406.mod (by simp<;>omega);have hm413:=Mod.fresh' hm280 hu406.mod (by simp<;>omega);have hm414:=Mod.fresh' hm281 hu406.mod (by simp<;>omega);have hm415:=Mod.fresh' hm282 hu406.mod (by simp<;>omega);refine zx ?_;refine yS 1 ?_;have hq416:0≤g102∧g102≤63:=by omega
    have hq417:0≤g164∧g164≤63:=by omega
    have hq418:=hpc (g44+1) g102 (by omega) (by omega) hc131;refine reg_call 135 [pz b12,pz p] (some 136) (by kernel_rfl) (c135 (M:=(⟨0,g102,g164,0⟩:Mv)) ya ya ya hG411 hq416 hq417 hq418 (pColor_or hq418) (fun h=>absurd rfl h) (fun h=>absurd rfl h) (by omega) (by assumption) (by assumption)) ?_;rintro _ w419 ⟨rfl,hm420,hf421⟩;refine ⟨_,rfl,?_⟩;have hG425:=Glob.keep hG411 hm420 (by simp<;>omega);have hm426:=Mod.fresh' hm412 hm420 (by simp<;>omega);have hm427:=Mod.fresh' hm413 hm420 (by simp<;>omega);have hm428:=Mod.fresh' hm414 hm420 (by simp<;>omega);have hm429:=Mod.fresh' hm415 hm420 (by simp<;>omega);refine zx ?_;refine zk (some 137) (c74 hf421 32) ?_;intro w430 hm431;have hG436:=Glob.on hG425 hm431;have hm437:=zt hm426 hm431;have hm438:=Mod.trans hm427 (Mod.of_nil hm431);have hm439:=Mod.trans hm428 (Mod.of_nil hm431);have hm440:=Mod.trans hm429 (Mod.of_nil hm431);refine yS 1 ?_;refine zz ?_;refine zc (fun hc441=>?_) fun hc441=>?_
    ·have nhc441:(hasTag (⟨(tg4 B S (⟨0,g102,g164,0⟩:Mv)),g102,g164,0⟩:Mv) 32)=false:=by simpa using hc441
     refine w_seq ?_;have hne442:0<(stdL B S).length:=by
      have hh:=fm_le (f:=s2F B S (g44+1) g102) (n:=64) (j:=g164) (by omega) (by omega);have he:(s2F B S (g44+1) g102 g164).length=1:=by simp only [s2F,dest,isPromo,plainM,keepM,hc80,hc95,hc131,hc157,hc195,hc283,hc441,nhc441,cond_true,cond_false];rfl
      rw [he] at hh;omega
     have hlt:([]:List Mv).length<218:=by decide
     refine w_region ?_;refine yV 3 [.row ⟨b12,0,none⟩ 11 (mvCells (.pointer none) ⟨(tg4 B S (⟨0,g102,g164,0⟩:Mv)),g102,g164,0⟩),.prop (0≤(0:Int)∧0<((218:Nat):Int))] [.agg (mvCells (.pointer none) ⟨(tg4 B S (⟨0,g102,g164,0⟩:Mv)),g102,g164,0⟩)] (⟨At.row ya rfl,(zh (by omega))⟩) ?_;refine reg_store b1 0 (.agg (mvCells (.pointer none) ⟨(tg4 B S (⟨0,g102,g164,0⟩:Mv)),g102,g164,0⟩)) none (by kernel_rfl) ya (by rw [(MvArr.size hx174)];show 0+11≤2398;omega) rfl ?_;intro w443 hu444;have hG449:=Glob.keep hG436 hu444.mod (by simp<;>omega);have hm450:=Mod.fresh' hm437 hu444.mod (by simp<;>omega);have hm451:=Mod.fresh' hm438 hu444.mod (by simp<;>omega);have hm452:=Mod.fresh' hm439 hu444.mod (by simp<;>omega);have hm453:=Mod.fresh' hm440 hu444.mod (by simp<;>omega);have hx454:MvArr (storeRow A165 0 (mvCells (.pointer none) ⟨(tg4 B S (⟨0,g102,g164,0⟩:Mv)),g102,g164,0⟩).toList) ([]++[(⟨(tg4 B S (⟨0,g102,g164,0⟩:Mv)),g102,g164,0⟩:Mv)]):=MvArr.push hx174 (by decide) rfl;refine zx ?_;refine yS 3 ?_;refine zx ?_;refine yS 1 ?_;refine zz ?_;refine yT ?_;refine zw ?_;refine zA zero180 180 (some 18) ?_;intro b455 w456 hn457;have hb458:c.base≤b455:=Glob.lt hG449 hn457;have hb459:=Nat.le_trans hm450.size hn457.base;have hb460:=Nat.le_trans hm451.size hn457.base;have hb461:=Nat.le_trans hm452.size hn457.base;have hb462:=Nat.le_trans hm453.size hn457.base;refine zx ?_;refine yV 3 [.prop (0≤(0:Int)∧0<((218:Nat):Int)),.row ⟨b1,0,none⟩ 11 (mvCells (.pointer none) ⟨(tg4 B S (⟨0,g102,g164,0⟩:Mv)),g102,g164,0⟩),.prop (0≤(0:Int)∧0<((1:Nat):Int))] [.agg (mvCells (.pointer none) ⟨(tg4 B S (⟨0,g102,g164,0⟩:Mv)),g102,g164,0⟩)] (⟨(zh (by omega)),(arr_row ya (by have:=MvArr.size hx174;omega)),(zh (by omega))⟩) ?_;refine zS b455 0 (.agg (mvCells (.pointer none) ⟨(tg4 B S (⟨0,g102,g164,0⟩:Mv)),g102,g164,0⟩)) ?_;intro w474 hu475;refine zx ?_;refine yS 2 ?_;refine zz ?_;refine w_ret ?_;refine r_block ?_;refine r_then ?_;refine r_then ?_;refine r_block ?_;refine r_block ?_;refine r_then ?_;refine r_then ?_;refine r_block ?_;refine r_block ?_;refine r_then ?_;refine r_then ?_;refine r_block ?_;refine r_then ?_;exact y1 (v:=.slice (some ⟨b455,0,none⟩) 1 1) (⟨_,1,_,_,rfl,yt,by omega,ya,by simp [storeRow_size,zero180_size],by decide,by omega⟩)
    have nhc441:(hasTag (⟨(tg4 B S (⟨0,g102,g164,0⟩:Mv)),g102,g164,0⟩:Mv) 32)=true:=by simpa using hc441
    refine w_skip ?_;refine n_block ?_;refine n_then ?_;refine w_region ?_;refine zs 2 [rz 0 p,(1,.bool true),rz 5 b1,iz 6 0,rz 7 b12,(8,.int .u64 (allowed B S.turn)),(10,.int .i8 (g44+1)),(11,.int .u64 (Bd.of B (g44+1))),iz 12 g102,(13,.int .u64 (band (possMv B S (pType (g44+1)) g102) (allowed B S.turn))),(39,.slice (some ⟨c.ap,c.apo,none⟩) 12 12),iz 40 ((12:Nat):Int),iz 41 g44,iz 58 g102,iz 77 (IntKind.i64.wrap (g164+1))] ?_;refine ze ?_;rw [zi (g164+1) (by omega) (by omega)];have he486:fm (pF B S) g44.toNat++fm (s1F B S (g44+1)) g102.toNat++fm (s2F B S (g44+1) g102) (g164+1).toNat=[]:=by rw [fm_succ (by omega),←List.append_assoc];refine Eq.trans ?_ hz175;simp only [s2F,dest,isPromo,keepM,plainM,hc80,hc95,hc131,hc157,hc195,hc283,hc441,nhc441,cond_true,cond_false,Bool.not_true,Bool.not_false,List.append_nil]
    have hM489:At w430 b12 (.cells (mvCells (.pointer none) (⟨(tg4 B S (⟨0,g102,g164,0⟩:Mv)),g102,g164,0⟩:Mv)) 98 (0,0)):=ya;obtain ⟨Aq490,hA487,hX488⟩:∃A,At w430 b1 (.cells A 176 (0,0))∧MvArr A []:=⟨_,ya,hx174⟩;exact zl ((g164+1),Aq490,(⟨(tg4 B S (⟨0,g102,g164,0⟩:Mv)),g102,g164,0⟩:Mv)) ⟨by constructor<;>dsimp only<;>omega,hm440,hA487,hM489,hX488,he486⟩ (hlt:=(by dsimp only;omega))
   have dhc183:=of_decide_eq_false hc183;obtain rfl:g164=(64:Int):=by omega
   have hx491:fm (pF B S) g44.toNat++fm (s1F B S (g44+1)) g102.toNat++fm (s2F B S (g44+1) g102) 64=[]:=hz175;refine w_exit ?_;refine x_then ?_;refine x_then ?_;refine x_hit ?_;refine n_block ?_;refine n_then ?_;refine w_region ?_;refine yS 2 ?_;refine yW 58 (zi (g102+1) (by omega) (by omega)) ?_;refine ze ?_;have he492:fm (pF B S) g44.toNat++fm (s1F B S (g44+1)) (g102+1).toNat=[]:=by rw [fm_succ (by omega),←List.append_assoc];refine Eq.trans ?_ hx491;simp only [s1F,dest,hc80,hc95,hc131,hc157,cond_true,cond_false,Bool.not_true,Bool.not_false,List.append_nil]
   have hM495:At w168 b12 (.cells (mvCells (.pointer none) M166) 98 (0,0)):=hf173;obtain ⟨Aq496,hA493,hX494⟩:∃A,At w168 b1 (.cells A 176 (0,0))∧MvArr A []:=⟨_,hf172,hx174⟩;exact zl ((g102+1),Aq496,M166) ⟨by constructor<;>dsimp only<;>omega,hm182,hA493,hM495,hX494,he492⟩ (hlt:=(by dsimp only;omega))
  have dhc120:=of_decide_eq_false hc120;obtain rfl:g102=(64:Int):=by omega
  have hx497:fm (pF B S) g44.toNat++fm (s1F B S (g44+1)) 64=[]:=hz113;refine w_exit ?_;refine x_then ?_;refine x_then ?_;refine x_hit ?_;refine n_block ?_;refine n_then ?_;refine w_region ?_;refine yS 2 ?_;refine yW 41 (zi (g44+1) (by omega) (by omega)) ?_;refine ze ?_;have he498:fm (pF B S) (g44+1).toNat=[]:=by rw [fm_succ (by omega)];refine Eq.trans ?_ hx497;simp only [pF,hc80,hc95,cond_true,cond_false,Bool.not_true,Bool.not_false,List.append_nil]
  have hM501:At w106 b12 (.cells (mvCells (.pointer none) M104) 98 (0,0)):=hf111;obtain ⟨Aq502,hA499,hX500⟩:∃A,At w106 b1 (.cells A 176 (0,0))∧MvArr A []:=⟨_,hf110,hx112⟩;exact zl ((g44+1),Aq502,M104) ⟨by constructor<;>dsimp only<;>omega,hm119,hA499,hM501,hX500,he498⟩ (hlt:=(by dsimp only;omega))
 have dhc61:=of_decide_eq_false hc61;obtain rfl:g44=(12:Int):=by omega
 have hx503:(stdL B S)=[]:=hz55;refine w_exit ?_;refine x_then ?_;refine x_then ?_;refine x_hit ?_;refine zn ?_;refine yS 1 ?_;refine reg_mslice ((([]:List Mv).length:Nat):Int) 98 (some 153) 11 96 (by kernel_rfl) (by decide) (by decide) ?_;intro b504 w505 cs506 hcs507 hn508;have ne509:b12≠b504:=hn508.ne hf53;have hb510:c.base≤b504:=Glob.lt hG59 hn508;have hb511:=Nat.le_trans hm60.size hn508.base;have hb512:=Nat.le_trans hm49.size hn508.base;have hm513:=hn508.mod;have hm519:=zt hm60 hm513;refine yS 1 ?_;refine zx ?_;refine yO 3 [.prop (0≤(0:Int)∧0≤((218:Nat):Int))] (zh (by omega)) ?_;refine reg_copy b504 (([]:List Mv)).length ⟨b1,0,none⟩ (([]:List Mv)).length 218 98 (some 157) 11 (by kernel_rfl) ya (by simpa using hcs507) (MvArr.row hx54 (by decide) ya) (oneCells_mvs _) ?_;intro w522 hu523;have hf524:=hu523.at_;have hm530:=Mod.fresh' hm519 hu523.mod (by simp<;>omega);refine zx ?_;refine yS 2 ?_;refine zz ?_;refine w_ret ?_;exact y1 (⟨_,0,_,_,rfl,hm530,by omega,hf524,rfl,by decide,by have hz:=hx503;rw [hz];decide⟩)
section
variable{P:Program}{n:Nat}{D:List Deferred}{ops:Array Oper}{Q:Exit→Act→World→Prop}{w:World}{L:List (Nat×Value)}
theorem reg_append_arg{k:Nat}(b off l cap:Nat)(a:Addr)(m c:Nat)(e:TypeId)(dst:Option Nat)(size bytes:Nat)(h:appendAt P n ops.toList k L=some (.slice (some ⟨b,off,none⟩) l cap,.slice (some a) m c,e,dst,size,bytes,size))
  {olds news:List Value}(hlo:olds.length=l*size)(holds:∀j u,olds[j]?=some u→w.cell? ⟨b,off+j,none⟩=some u)(hs:0<size)(hl:news.length=m*size)(hnews:∀j u,news[j]?=some u→w.cell? (a.add j)=some u)(h1:∀u∈news,u.oneCell'=true)
  (hroom:l+m≤cap→m=0)(hb:(l+m)*(bytes+1)≤140737488355328)
  (hk:∀ao' cap' w',Mod [] w w'→Reg P n D ops Q (k+1) (setD dst (.slice ao' (l+m) cap') L) w'):Reg P n D ops Q k L w:=by
 intro act ha;unfold appendAt at h;split at h
 case h_2=>cases h
 rename_i o ho;split at h
 case h_2=>cases h
 rename_i hw hd;split at h
 case h_2=>cases h
 rename_i cc hop;split at h
 case h_2=>cases h
 rename_i s x t t' hc hargs hts;split at h
 case isFalse=>cases h
 rename_i ht;subst ht;split at h
 case h_2=>cases h
 rename_i u v e' hs' hx hu;split at h
 case h_2=>cases h
 rename_i i hi;split at h
 case h_2=>cases h
 rename_i z hz;simp only [Option.some.injEq,Prod.mk.injEq] at h;obtain ⟨rfl,rfl,rfl,rfl,hsz,hby,hzs⟩:=h;rw [drop_cons ho];simp only [wpList,wantedL_spec ha hw,if_true];refine .inl ?_;have hm:(l+m)*bytes≤140737488355328:=Nat.le_trans (Nat.mul_le_mul_left _ (by omega)) hb;have hlm:l+m≤maxLen:=by
  have:l+m≤(l+m)*(bytes+1):=Nat.le_mul_of_pos_right _ (by omega);simp only [maxLen];omega
 have hrun:∃v' w',(Builtin.append_ #[t,t] o.type #[.slice (some ⟨b,off,none⟩) l cap,.slice (some a) m c]).run P w=.ok v' w'∧Mod [] w w'∧∃ao' cap',v'=.slice ao' (l+m) cap':=by
  by_cases hr:l+m≤cap
  ·have hm0:=hroom hr;subst hm0;have hn0:news=[]:=List.eq_nil_of_length_eq_zero (by simpa using hl);subst hn0;subst hsz;have:=run_append_room_cells (P:=P) w t o.type e' i hu hi b off l cap a 0 c [] (by simp) (by simp) (by simp) hr (by simp) (by simp);exact ⟨_,_,this,by simpa [World.setCells] using Mod.refl [] w,_,_,rfl⟩
  ·obtain ⟨v',w',hrun,h2,h3⟩:=run_append_arg_grows (P:=P) w t o.type e' i z size bytes hu hi hz hsz hby hzs hs ⟨b,off,none⟩ l cap olds hlo (fun j u hj=>by rw [Addr.add_lit];exact holds j u hj) a m c news hl hnews (by omega) hlm hm;refine ⟨v',w',hrun,⟨h3.os,h3.tape,h3.output,h3.size,fun k hk _=>h3.block k hk (by simp)⟩,?_⟩;rcases h2.2 with ⟨hv,h0⟩|⟨g,cap',cur,hv,_⟩
   ·exact ⟨none,0,by rw [hv,h0]⟩
   ·exact ⟨_,_,hv⟩
 obtain ⟨v',w',hrun,hmod,ao',cap',rfl⟩:=hrun;have hr:(execOp act.eval o).run P w=.ok (.value (.slice ao' (l+m) cap')) w':=by
  obtain ⟨dst,op,ty,pos,af,g'⟩:=o;simp only at hop;subst hop;obtain ⟨callee,args,ts⟩:=cc;simp only at hc hargs hts;subst hc;obtain rfl:args=#[s,x]:=by apply Array.ext';simpa using hargs
  obtain rfl:ts=#[t,t]:=by apply Array.ext';simpa using hts
  simp only [execOp,resolve,invoke,builtin,Sem.run_bind,Sem.run_pure,Result.andThen_ok,List.map_toArray,List.map_cons,List.map_nil,ha.agrees _ _ hs',ha.agrees _ _ hx,hrun]
 simp only [Oper.wp,hr,Oper.upon];exact hk ao' cap' w' hmod _ (ha.setD hd _)
end
structure StPre(B:Bd)(S:Ps):Prop where
 pc:∀p s:Int,(1≤p∧p≤12)→(0≤s∧s≤63)→(band (Bd.of B p) (bbSq s)==(0:Int))=false→1≤pieceAt B s∧pieceAt B s≤12
 cs:S.castle.size≤1000000
 kW:∀sd,S.turn=1→canC S.castle S.turn sd=true→1≤pieceAt B 4∧pieceAt B 4≤12
 kB:∀sd,S.turn=2→canC S.castle S.turn sd=true→1≤pieceAt B 60∧pieceAt B 60≤12
 kings:KingsOk B
 turn:S.turn=1∨S.turn=2
 ep:-1≤S.ep∧S.ep≤63
def hasMv(B:Bd)(S:Ps):Bool:=decide (0<(allL B S).length)
def statV(B:Bd)(S:Ps):Int:=bif (!S.chk)&&(!hasMv B S) then (4:Int) else bif S.chk&&(!hasMv B S) then (1:Int) else (0:Int)
theorem has_of{B:Bd}{S:Ps}{n m:Nat}(h:0<n↔0<(stdL B S).length)(e:m=n+(castL B S).length):decide (((m:Nat):Int)>(0:Int))=hasMv B S:=by
 unfold hasMv;rw [decide_eq_decide];unfold allL;rw [List.length_append];omega
theorem c111t{c:GC}{p b:Nat}{vm:Value}{S:Ps}{w:World}(hp:At w p (.cells (psCells b vm S) 110 (0,0))){B:Bd}(hb:At w b (.cells (bdCells B) 135 (0,0)))(hG:Glob c w)(hpre:StPre B S):
  Calls Tryz.prog 111 [.agg (#[]),.pointer (some ⟨p,0,none⟩),.bool true].toArray w (fun e w'=>∃ao m cap,e=.returned (.slice ao m cap)∧Mod [] w w'∧decide (((m:Nat):Int)>(0:Int))=hasMv B S):=by
 have hm0:Mod [] w w:=Mod.refl _ _;refine enter (n:=15) Tryz.func111 rfl Tryz.ntmps111 rfl ?_;refine w_seq ?_;refine w_region ?_;refine reg_alloc (#[]) 146 (some 3) (by kernel_rfl) ?_;intro b1 w2 hn3;have hb4:c.base≤b1:=Glob.lt hG hn3;have hb5:=Nat.le_trans hm0.size hn3.base;have hm6:=hn3.mod;have hf7:=At.on hp hm6;have hf8:=At.on hb hm6;have hG9:=Glob.on hG hm6;have hm10:=Mod.trans hm0 (Mod.of_nil hm6);have hf11:=hn3.at_;refine reg_seg 1 [(1,.pointer (some ⟨p,0,none⟩)),(2,.bool true)] [] [] [1,2] (by kernel_rfl) trivial ?_;refine reg_end (by kernel_rfl) ?_;refine n_then ?_;refine w_seq ?_;refine w_region ?_;refine reg_seg 2 [(1,.pointer (some ⟨p,0,none⟩)),(8,.pointer (some ⟨p,0,none⟩)),(9,.bool true)] [] [] [1,8,9] (by kernel_rfl) trivial ?_;refine reg_call 122 [.pointer (some ⟨p,0,none⟩),.bool true] (some 10) (by kernel_rfl) (c122t (S:=S) hf7 hf8 hG9 hpre.pc hpre.kings hpre.turn hpre.ep) ?_;rintro _ w12 ⟨b14,n15,X16,t17,rfl,hm13,hb19,hf18,hs20,hn21,hif22⟩;refine ⟨_,rfl,?_⟩;have hf23:=At.on hf7 hm13;have hf24:=At.on hf8 hm13;have hf25:=At.on hf11 hm13;have hG26:=Glob.on hG9 hm13;have hm27:=Mod.trans hm10 (Mod.of_nil hm13);refine reg_seg 1 [(1,.pointer (some ⟨p,0,none⟩)),(7,.slice (some ⟨b14,0,none⟩) n15 n15)] [] [] [1,7] (by kernel_rfl) trivial ?_;refine reg_end (by kernel_rfl) ?_;refine n_then ?_;refine w_seq ?_;refine w_region ?_;refine reg_seg 2 [(11,.slice (some ⟨b14,0,none⟩) n15 n15),(12,.pointer (some ⟨p,0,none⟩))] [] [] [11,12] (by kernel_rfl) trivial ?_;refine reg_call 123 [.pointer (some ⟨p,0,none⟩)] (some 13) (by kernel_rfl) (c123 (S:=S) hf23 hf24 hG26 hpre.cs hpre.kW hpre.kB hpre.kings hpre.turn) ?_;rintro _ w28 ⟨b30,A31,rfl,hm29,hf32,hx33,hb34⟩;refine ⟨_,rfl,?_⟩;have hf35:=At.on hf23 hm29;have hf36:=At.on hf24 hm29;have hf37:=At.on hf25 hm29;have he38:=At.on hf18 hm29;have hG39:=Glob.on hG26 hm29;have hm40:=Mod.trans hm27 (Mod.of_nil hm29);refine reg_append_arg b14 0 n15 n15 ⟨b30,0,none⟩ (castL B S).length 2 98 (some 14) 11 96 (olds:=X16.toList) (news:=mvsL (castL B S)) (by kernel_rfl) (by simpa using hs20) (fun j u hj=>by rw [Nat.zero_add];exact At.cell he38 (by simpa using hj)) (by decide) (mvsL_len _) (MvArrN.cells hx33 hf32) (oneCells_mem (oneCells_mvs _)) (by omega) (by have:=castL_le (B:=B) (S:=S);omega) ?_;intro ao41 cap42 w43 hm44;have hf45:=At.on hf35 hm44;have hf46:=At.on hf36 hm44;have hf47:=At.on hf37 hm44;have hG48:=Glob.on hG39 hm44;have hm49:=Mod.trans hm40 (Mod.of_nil hm44);refine reg_seg 1 [(6,.slice ao41 (n15+(castL B S).length) cap42)] [] [] [6] (by kernel_rfl) trivial ?_;refine reg_end (by kernel_rfl) ?_;refine n_then ?_;refine w_ret ?_;exact ret1 rfl rfl (⟨_,_,_,rfl,hm49,has_of hif22 rfl⟩)
theorem c195{c:GC}{p b:Nat}{S:Ps}{w:World}(hp:At w p (.cells (psCells b (.slice none 0 0) S) 110 (0,0))){B:Bd}(hb:At w b (.cells (bdCells B) 135 (0,0)))(hG:Glob c w)(hpre:StPre B S):
  Calls Tryz.prog 195 [.agg (#[]),.pointer (some ⟨p,0,none⟩)].toArray w (fun e w'=>e=.returned (.int .u8 (statV B S))∧Mod [] w w'):=by
 have hm0:Mod [] w w:=Mod.refl _ _;refine enter (n:=39) Tryz.func195 rfl Tryz.ntmps195 rfl ?_;refine w_seq ?_;refine w_region ?_;refine reg_alloc (#[]) 146 (some 2) (by kernel_rfl) ?_;intro b1 w2 hn3;have hb4:c.base≤b1:=Glob.lt hG hn3;have hb5:=Nat.le_trans hm0.size hn3.base;have hm6:=hn3.mod;have hf7:=At.on hp hm6;have hf8:=At.on hb hm6;have hG9:=Glob.on hG hm6;have hm10:=Mod.trans hm0 (Mod.of_nil hm6);have hf11:=hn3.at_;refine yS 1 ?_;refine reg_end (by kernel_rfl) ?_;refine n_then ?_;refine w_seq ?_;refine w_region ?_;refine yS 1 ?_;refine reg_end (by kernel_rfl) ?_;refine n_then ?_;refine w_seq ?_;refine w_seq ?_;refine w_region ?_;refine yV 5 [.cell ⟨p,2,none⟩ (.slice none 0 0)] [.slice none 0 0] (At.cell hf7 rfl) ?_;refine reg_end (by kernel_rfl) ?_;refine n_then ?_;refine yF ?_;refine w_region ?_;refine yS 2 ?_;refine reg_call 111 [.agg #[],.pointer (some ⟨p,0,none⟩),.bool true] (some 19) (by kernel_rfl) (c111t (S:=S) hf7 hf8 hG9 hpre) ?_;rintro _ w12 ⟨ao14,m15,cap16,rfl,hm13,hd17⟩;refine ⟨_,rfl,?_⟩;have hf18:=At.on hf7 hm13;have hf19:=At.on hf8 hm13;have hf20:=At.on hf11 hm13;have hG21:=Glob.on hG9 hm13;have hm22:=Mod.trans hm10 (Mod.of_nil hm13);refine reg_seg 2 [(1,.pointer (some ⟨p,0,none⟩)),(21,.bool (decide (((m15:Nat):Int)>(0:Int))))] [] [] [1,21] (by kernel_rfl) trivial ?_;rw [hd17];refine yS 1 ?_;refine reg_end (by kernel_rfl) ?_;refine n_then ?_;refine w_seq ?_;refine w_cut (γ:=Unit) (fun _=>[(1,.pointer (some ⟨p,0,none⟩)),(5,.bool (hasMv B S)),(30,.bool ((!S.chk)&&(!(hasMv B S))))]) (fun _ w_=>Mod [] w12 w_) ?_ ?_
 ·skip
  have hm25:Mod [] w12 w12:=Mod.refl _ _;refine w_region ?_;refine yV 6 [.cell ⟨p,7,none⟩ (.bool S.chk)] [.bool S.chk] (At.cell hf18 rfl) ?_;refine yE 27 (.bool (!S.chk)) ?_;cases hc26:(!S.chk)
  ·skip
   refine yS 3 ?_;refine reg_end (by kernel_rfl) ?_;exact c_back () [1,5,30] (by kernel_rfl) hm25
  ·skip
   refine yS 3 ?_;refine reg_end (by kernel_rfl) ?_;exact c_back () [1,5,30] (by kernel_rfl) hm25
 intro _ w23 hm24;have hf27:=At.on hf18 hm24;have hf28:=At.on hf19 hm24;have hf29:=At.on hf20 hm24;have hG30:=Glob.on hG21 hm24;have hm31:=Mod.trans hm22 (Mod.of_nil hm24);refine w_cond (b:=((!S.chk)&&(!(hasMv B S)))) (by kernel_rfl) (fun hc32=>?_) (fun hc32=>?_)
 ·skip
  refine w_seq ?_;refine w_region ?_;refine yS 1 ?_;refine reg_end (by kernel_rfl) ?_;refine n_then ?_;refine w_ret ?_;refine r_then ?_;exact y1 (v:=.int .u8 (4:Int)) (⟨ret_int (by simp only [statV,hc32,cond_true,cond_false]),hm31⟩)
 ·skip
  refine w_cut (γ:=Unit) (fun _=>[(38,.bool (S.chk&&(!(hasMv B S))))]) (fun _ w_=>Mod [] w23 w_) ?_ ?_
  ·skip
   have hm35:Mod [] w23 w23:=Mod.refl _ _;refine w_region ?_;refine yV 5 [.cell ⟨p,7,none⟩ (.bool S.chk)] [.bool S.chk] (At.cell hf27 rfl) ?_;refine yE 35 (.bool S.chk) ?_;cases hc36:S.chk
   ·skip
    refine yS 3 ?_;refine reg_end (by kernel_rfl) ?_;exact c_back () [38] (by kernel_rfl) hm35
   ·skip
    refine yS 3 ?_;refine reg_end (by kernel_rfl) ?_;exact c_back () [38] (by kernel_rfl) hm35
  intro _ w33 hm34;have hf37:=At.on hf27 hm34;have hf38:=At.on hf28 hm34;have hf39:=At.on hf29 hm34;have hG40:=Glob.on hG30 hm34;have hm41:=Mod.trans hm31 (Mod.of_nil hm34);refine w_cond (b:=(S.chk&&(!(hasMv B S)))) (by kernel_rfl) (fun hc42=>?_) (fun hc42=>?_)
  ·skip
   refine w_seq ?_;refine w_region ?_;refine yS 1 ?_;refine reg_end (by kernel_rfl) ?_;refine n_then ?_;refine w_ret ?_;refine r_then ?_;exact y1 (v:=.int .u8 (1:Int)) (⟨ret_int (by simp only [statV,hc32,hc42,cond_true,cond_false]),hm41⟩)
  ·skip
   refine w_skip ?_;refine n_then ?_;refine w_seq ?_;refine w_region ?_;refine yS 1 ?_;refine reg_end (by kernel_rfl) ?_;refine n_then ?_;refine w_ret ?_;exact y1 (v:=.int .u8 (0:Int)) (⟨ret_int (by simp only [statV,hc32,hc42,cond_true,cond_false]),hm41⟩)
theorem c190{c:GC}{p b:Nat}{S:Ps}{w:World}(hp:At w p (.cells (psCells b (.slice none 0 0) S) 110 (0,0))){B:Bd}(hb:At w b (.cells (bdCells B) 135 (0,0)))(hG:Glob c w)(hpre:StPre B S):
  Calls Tryz.prog 190 [.pointer (some ⟨p,0,none⟩)].toArray w (fun e w'=>e=.returned (.int .u8 (statV B S))∧Mod [] w w'):=by
 have hm0:Mod [] w w:=Mod.refl _ _;refine enter (n:=6) Tryz.func190 rfl Tryz.ntmps190 rfl ?_;refine w_seq ?_;refine w_region ?_;refine yS 1 ?_;refine reg_end (by kernel_rfl) ?_;refine n_then ?_;refine w_seq ?_;refine w_region ?_;refine yS 2 ?_;refine zk (some 5) (c195 (S:=S) hp hb hG hpre) ?_;intro w1 hm2;have hf3:=At.on hp hm2;have hf4:=At.on hb hm2;have hG5:=Glob.on hG hm2;have hm6:=Mod.trans hm0 (Mod.of_nil hm2);refine yS 1 ?_;refine reg_end (by kernel_rfl) ?_;refine n_then ?_;refine w_ret ?_;exact y1 (⟨rfl,hm6⟩)
open Go.RowKit in
def Bld(B b:Nat)(l:List UInt8)(w:World):Prop:=Lib.IsBuilderF 150 5 B b (Lib.byteCells l) w
theorem Bld.on{B b:Nat}{l:List UInt8}{w w':World}(h:Bld B b l w)(m:Mod [] w w'):Bld B b l w':=by
 have key:∀p,Lib.BuilderAtF 150 5 B b p (Lib.byteCells l) w→Lib.BuilderAtF 150 5 B b p (Lib.byteCells l) w':=by
  rintro p ⟨hB,v,hb,hown,hne⟩;refine ⟨hB,v,(At.on (w:=w) ⟨hb⟩ m).e,?_,hne⟩;obtain ⟨h1,h2⟩:=hown;refine ⟨h1,?_⟩;rcases h2 with h2|⟨g,cap,cur,fz,hv,hg,ha,rest⟩
  ·exact Or.inl h2
  exact Or.inr ⟨g,cap,cur,fz,hv,hg,(At.on (w:=w) ⟨ha⟩ m).e,rest⟩
 rcases h with h|h
 ·exact Or.inl (key _ h)
 exact Or.inr (key _ h)
theorem Bld.keep{B b k:Nat}{l:List UInt8}{w w':World}(h:Bld B b l w)(m:Mod [k] w w'){c:Array Value}{T:TypeId}{z:Nat×Nat}(hk:At w k (.cells c T z))(h1:T≠150)(h2:T≠5):Bld B b l w':=by
 have ne:∀{g:Nat} {c':Array Value} {T':TypeId} {z':Nat×Nat},At w g (.cells c' T' z')→T≠T'→g∉[k]:=by
  intro g c' T' z' hg hT hm;rw [List.mem_singleton] at hm;subst hm;have e:=hk.inj hg;injection e with _ e2;exact hT e2
 have key:∀p,Lib.BuilderAtF 150 5 B b p (Lib.byteCells l) w→Lib.BuilderAtF 150 5 B b p (Lib.byteCells l) w':=by
  rintro p ⟨hB,v,hb,hown,hne⟩;refine ⟨hB,v,(At.keep (w:=w) ⟨hb⟩ m (ne ⟨hb⟩ h1)).e,?_,hne⟩;obtain ⟨h1',h2'⟩:=hown;refine ⟨h1',?_⟩;rcases h2' with h2'|⟨g,cap,cur,fz,hv,hg,ha,rest⟩
  ·exact Or.inl h2'
  exact Or.inr ⟨g,cap,cur,fz,hv,hg,(At.keep (w:=w) ⟨ha⟩ m (ne ⟨ha⟩ h2)).e,rest⟩
 rcases h with h|h
 ·exact Or.inl (key _ h)
 exact Or.inr (key _ h)
theorem Bld.new{B b:Nat}{w:World}(hb:At w b (.cells #[.pointer none,.slice none 0 0] 150 (0,0)))(hB:B≤b):Bld B b [] w:=
 Lib.IsBuilderF.of (Or.inl ⟨hB,_,hb.e,World.ownsRow_nil _ _ _ _,by simp [Value.ownBlock]⟩)
theorem strCells_b(t:List UInt8):Lib.strCells (bstr t)=Lib.byteCells t:=by simp [Lib.strCells,Lib.byteCells,bstr]
theorem byteCells_append(a b:List UInt8):Lib.byteCells a++Lib.byteCells b=Lib.byteCells (a++b):=by simp [Lib.byteCells]
theorem cWS{w0 w:World}{b:Nat}{l t:List UInt8}(h0:Mod [] w0 w)(h:Bld w0.heap.size b l w)(hl:l.length+t.length≤100000):
  Calls Tryz.prog 113 #[pz b,.string (bstr t)] w (fun e w'=>e=.returned (.tuple #[.int .i64 (bstr t).size,.nilIface])∧Mod [] w0 w'∧Bld w0.heap.size b (l++t) w'):=
 (Tryz.bWriteString w0.heap.size b _ (bstr t) w h (by simp only [Lib.byteCells,List.length_map,bstr_size];omega) h0.size).mono fun e w' ⟨he,hb,hbl,_⟩=>⟨he,h0.of_below' hbl,Or.inr (by rw [strCells_b,byteCells_append] at hb;exact hb)⟩
theorem cWB{w0 w:World}{b:Nat}{l:List UInt8}{x:Int}(h0:Mod [] w0 w)(h:Bld w0.heap.size b l w)(hl:l.length+1≤100000)(hx:0≤x∧x<256):
  Calls Tryz.prog 114 #[pz b,.int .u8 x] w (fun e w'=>e=.returned .nilIface∧Mod [] w0 w'∧Bld w0.heap.size b (l++[UInt8.ofNat x.toNat]) w'):=
 (Tryz.bWriteByte w0.heap.size b _ x w h (by simp only [Lib.byteCells,List.length_map];omega) h0.size).mono fun e w' ⟨he,hb,hbl,_⟩=>⟨he,h0.of_below' hbl,Or.inr (by
  have e:(Lib.byteCells l++[Value.int .u8 x])=Lib.byteCells (l++[UInt8.ofNat x.toNat]):=by
   rw [←byteCells_append];congr 1;simp only [Lib.byteCells,List.map_cons,List.map_nil];rw [u8_ofNat hx]
  rw [e] at hb;exact hb)⟩
theorem cBS{w0 w:World}{b:Nat}{l:List UInt8}(h0:Mod [] w0 w)(h:Bld w0.heap.size b l w):
  Calls Tryz.prog 115 #[pz b] w (fun e w'=>e=.returned (.string (bstr l))∧Mod [] w0 w'∧Bld w0.heap.size b l w'):=
 (Tryz.Builder_String_any_f w0.heap.size b l w h h0.size).mono fun e w' ⟨he,hb,hbl⟩=>⟨he,h0.of_below' hbl,hb⟩
theorem cBL{B:Nat}{w:World}{b:Nat}{l:List UInt8}(h:Bld B b l w):
  Calls Tryz.prog 186 #[pz b] w (fun e w'=>e=.returned (.int .i64 (l.length:Nat))∧Mod [] w w'):=
 (Tryz.Builder_Len_f B b _ w h).mono fun e w' ⟨he,hw⟩=>by subst hw;exact ⟨by rw [he];simp [Lib.byteCells],Mod.refl _ _⟩
def letB(k:Int):List UInt8:=if k=1 then [75] else if k=2 then [81] else if k=3 then [82] else if k=4 then [66] else if k=5 then [78] else []
theorem letB_len(k:Int):(letB k).length≤1:=by unfold letB;split<;>(try split)<;>(try split)<;>(try split)<;>(try split)<;>decide
def fileB(f:Int):UInt8:=UInt8.ofNat (97+f).toNat
def rankB(r:Int):UInt8:=UInt8.ofNat (49+r).toNat
theorem file_text{f:Int}(h:0≤f∧f≤7):(⟨#[97,98,99,100,101,102,103,104]⟩:ByteArray).extract f.toNat (f+1).toNat=bstr [fileB f]:=by
 rcases (by omega:f=0∨f=1∨f=2∨f=3∨f=4∨f=5∨f=6∨f=7) with rfl|rfl|rfl|rfl|rfl|rfl|rfl|rfl<;>decide
theorem rank_text{f:Int}(h:0≤f∧f≤7):(⟨#[49,50,51,52,53,54,55,56]⟩:ByteArray).extract f.toNat (f+1).toNat=bstr [rankB f]:=by
 rcases (by omega:f=0∨f=1∨f=2∨f=3∨f=4∨f=5∨f=6∨f=7) with rfl|rfl|rfl|rfl|rfl|rfl|rfl|rfl<;>decide
def eqB(l:List UInt8):List UInt8:=if l=[] then [] else 61::l
def sgnI(B:Bd)(S:Ps)(M:Mv):List UInt8:=bif hasTag M (16:Int) then (bif statV (updB B M) (nextPs B S M)==(1:Int) then [35] else [43]) else []
structure UpPre(B:Bd)(S:Ps)(M:Mv):Prop where
 hs:0≤M.s1∧M.s1≤63
 hs2:0≤M.s2∧M.s2≤63
 hp1:1≤pieceAt B M.s1∧pieceAt B M.s1≤12
 hcol:pColor (pieceAt B M.s1)=1∨pColor (pieceAt B M.s1)=2
 hpro:M.promo≠0→1≤M.promo∧M.promo≤6
 hnew:M.promo≠0→1≤newP M.promo (pColor (pieceAt B M.s1))∧newP M.promo (pColor (pieceAt B M.s1))≤12
 cs:S.castle.size≤1000
 st:StPre (updB B M) (nextPs B S M)
theorem bstr_toList(l:List UInt8):(bstr l).toList=l:=by rw [ByteArray.toList_eq];simp [bstr]
theorem nil_toList:(⟨#[]⟩:ByteArray).toList=[]:=bstr_toList []
theorem bstr_none{l:List UInt8}(h:((bstr l).toList !=(⟨#[]⟩:ByteArray).toList)=false):l=[]:=by
 rw [bstr_toList,nil_toList,bne_eq_false_iff_eq] at h;exact h
theorem eqB_true{k:Int}(h:((bstr (letB k)).toList !=(⟨#[]⟩:ByteArray).toList)=true):(⟨#[61]⟩:ByteArray)++bstr (letB k)=bstr (eqB (letB k)):=by
 rw [bstr_toList,nil_toList,bne_iff_ne] at h;unfold eqB;rw [if_neg h];exact bstr_append [61] _
theorem eqB_false{k:Int}(h:((bstr (letB k)).toList !=(⟨#[]⟩:ByteArray).toList)=false):bstr (letB k)=bstr (eqB (letB k)):=by
 rw [bstr_none h];rfl
theorem c184{w:World}(k:Int):
  Calls Tryz.prog 184 [.int .i8 k].toArray w (fun e w'=>e=.returned (.string (bstr (letB k)))∧Mod [] w w'):=by
 have hm0:Mod [] w w:=Mod.refl _ _;refine enter (n:=14) Tryz.func184 rfl Tryz.ntmps184 rfl ?_;refine zw ?_;refine yS 1 ?_;refine zz ?_;refine w_seq ?_;refine zw ?_;refine yS 1 ?_;refine zz ?_;refine w_block ?_;refine zw ?_;refine yS 2 ?_;refine zz ?_;refine yC (k==1) (fun hc1=>?_) fun hc1=>?_
 ·have dhc1:=eq_of_beq hc1;refine zw ?_;refine yS 1 ?_;refine zz ?_;refine w_ret ?_;refine r_block ?_;refine r_then ?_;exact y1 (v:=.string (⟨#[75]⟩)) (⟨ret_str (by have h0:=hc1;simp only [beq_iff_eq,beq_eq_false_iff_ne,ne_eq] at*;unfold letB;simp only [*,if_true,if_false,not_false_eq_true]<;>rfl),hm0⟩)
 have dhc1:=ne_of_beq_false hc1;refine zw ?_;refine yS 2 ?_;refine zz ?_;refine yC (k==2) (fun hc2=>?_) fun hc2=>?_
 ·have dhc2:=eq_of_beq hc2;refine zw ?_;refine yS 1 ?_;refine zz ?_;refine w_ret ?_;refine r_block ?_;refine r_then ?_;exact y1 (v:=.string (⟨#[81]⟩)) (⟨ret_str (by have h0:=hc1;have h1:=hc2;simp only [beq_iff_eq,beq_eq_false_iff_ne,ne_eq] at*;unfold letB;simp only [*,if_true,if_false,not_false_eq_true]<;>rfl),hm0⟩)
 have dhc2:=ne_of_beq_false hc2;refine zw ?_;refine yS 2 ?_;refine zz ?_;refine yC (k==3) (fun hc3=>?_) fun hc3=>?_
 ·have dhc3:=eq_of_beq hc3;refine zw ?_;refine yS 1 ?_;refine zz ?_;refine w_ret ?_;refine r_block ?_;refine r_then ?_;exact y1 (v:=.string (⟨#[82]⟩)) (⟨ret_str (by have h0:=hc1;have h1:=hc2;have h2:=hc3;simp only [beq_iff_eq,beq_eq_false_iff_ne,ne_eq] at*;unfold letB;simp only [*,if_true,if_false,not_false_eq_true]<;>rfl),hm0⟩)
 have dhc3:=ne_of_beq_false hc3;refine zw ?_;refine yS 2 ?_;refine zz ?_;refine yC (k==4) (fun hc4=>?_) fun hc4=>?_
 ·have dhc4:=eq_of_beq hc4;refine zw ?_;refine yS 1 ?_;refine zz ?_;refine w_ret ?_;refine r_block ?_;refine r_then ?_;exact y1 (v:=.string (⟨#[66]⟩)) (⟨ret_str (by have h0:=hc1;have h1:=hc2;have h2:=hc3;have h3:=hc4;simp only [beq_iff_eq,beq_eq_false_iff_ne,ne_eq] at*;unfold letB;simp only [*,if_true,if_false,not_false_eq_true]<;>rfl),hm0⟩)
 have dhc4:=ne_of_beq_false hc4;refine zw ?_;refine yS 2 ?_;refine zz ?_;refine yC (k==5) (fun hc5=>?_) fun hc5=>?_
 ·have dhc5:=eq_of_beq hc5;refine zw ?_;refine yS 1 ?_;refine zz ?_;refine w_ret ?_;refine r_block ?_;refine r_then ?_;exact y1 (v:=.string (⟨#[78]⟩)) (⟨ret_str (by have h0:=hc1;have h1:=hc2;have h2:=hc3;have h3:=hc4;have h4:=hc5;simp only [beq_iff_eq,beq_eq_false_iff_ne,ne_eq] at*;unfold letB;simp only [*,if_true,if_false,not_false_eq_true]<;>rfl),hm0⟩)
 have dhc5:=ne_of_beq_false hc5;refine w_skip ?_;refine n_block ?_;refine zn ?_;refine yS 1 ?_;refine zz ?_;refine w_ret ?_;exact y1 (v:=.string (⟨#[]⟩)) (⟨ret_str (by have h0:=hc1;have h1:=hc2;have h2:=hc3;have h3:=hc4;have h4:=hc5;simp only [beq_iff_eq,beq_eq_false_iff_ne,ne_eq] at*;unfold letB;simp only [*,if_true,if_false,not_false_eq_true]<;>rfl),hm0⟩)
theorem c187{w:World}(f:Int)(h:0≤f∧f≤7):
  Calls Tryz.prog 187 [.int .i8 f].toArray w (fun e w'=>e=.returned (.string (bstr [fileB f]))∧Mod [] w w'):=by
 have hm0:Mod [] w w:=Mod.refl _ _;refine enter (n:=7) Tryz.func187 rfl Tryz.ntmps187 rfl ?_;refine zw ?_;refine yS 1 ?_;refine zx ?_;refine zs 3 [(3,.int .i8 f),(5,.int .i8 (IntKind.i8.wrap (f+1)))] ?_;rw [(show ((IntKind.i8.wrap (f+(1:Int))):Int)=(f+1) from i8_in' (by omega) (by omega))];refine yO 2 [.prop (0≤f∧f≤(f+1)∧(f+1)≤(((⟨#[97,98,99,100,101,102,103,104]⟩:ByteArray).size:Nat):Int))] (zh (by refine ⟨by omega,by omega,?_⟩;show f+1≤8;omega)) ?_;refine zz ?_;refine w_ret ?_;exact y1 (⟨ret_str (file_text h),hm0⟩)
theorem c188{w:World}(f:Int)(h:0≤f∧f≤7):
  Calls Tryz.prog 188 [.int .i8 f].toArray w (fun e w'=>e=.returned (.string (bstr [rankB f]))∧Mod [] w w'):=by
 have hm0:Mod [] w w:=Mod.refl _ _;refine enter (n:=7) Tryz.func188 rfl Tryz.ntmps188 rfl ?_;refine zw ?_;refine yS 1 ?_;refine zx ?_;refine zs 3 [(3,.int .i8 f),(5,.int .i8 (IntKind.i8.wrap (f+1)))] ?_;rw [(show ((IntKind.i8.wrap (f+(1:Int))):Int)=(f+1) from i8_in' (by omega) (by omega))];refine yO 2 [.prop (0≤f∧f≤(f+1)∧(f+1)≤(((⟨#[49,50,51,52,53,54,55,56]⟩:ByteArray).size:Nat):Int))] (zh (by refine ⟨by omega,by omega,?_⟩;show f+1≤8;omega)) ?_;refine zz ?_;refine w_ret ?_;exact y1 (⟨ret_str (rank_text h),hm0⟩)
theorem c174{w:World}(sq:Int)(h:0≤sq∧sq≤63):
  Calls Tryz.prog 174 [.int .i8 sq].toArray w (fun e w'=>e=.returned (.string (bstr (sqBytes sq)))∧Mod [] w w'):=by
 have hm0:Mod [] w w:=Mod.refl _ _;refine enter (n:=10) Tryz.func174 rfl Tryz.ntmps174 rfl ?_;refine zw ?_;refine yS 1 ?_;refine zx ?_;refine yS 1 ?_;refine zk (some 4) (c133 sq w) ?_;intro w1 hm2;have hm3:=zt hm0 hm2;refine zk (some 5) (c187 (sqFile sq) (file_ok (by assumption))) ?_;intro w4 hm5;have hm6:=zt hm3 hm5;refine yS 1 ?_;refine zk (some 7) (c132 sq w4) ?_;intro w7 hm8;have hm9:=zt hm6 hm8;refine zk (some 8) (c188 (sqRank sq) (rank_ok (by assumption))) ?_;intro w10 hm11;have hm12:=zt hm9 hm11;refine yO 2 [.prop (((bstr [fileB (sqFile sq)]).size+(bstr [rankB (sqRank sq)]).size:Nat)≤9223372036854775807)] (zh (by first|omega|assumption|(have e3:(⟨#[61]⟩:ByteArray).size=1:=rfl;have h5:=letB_len k;simp only [bstr_size] at*;omega)|(simp only [bstr_size,List.length_cons,List.length_nil];omega))) ?_;refine zz ?_;refine w_ret ?_;exact ret1 rfl rfl (⟨ret_str ((bstr_append _ _).trans rfl),hm12⟩)
theorem c199{w:World}(k:Int):
  Calls Tryz.prog 199 [.int .i8 k].toArray w (fun e w'=>e=.returned (.string (bstr (eqB (letB k))))∧Mod [] w w'):=by
 have hm0:Mod [] w w:=Mod.refl _ _;refine enter (n:=11) Tryz.func199 rfl Tryz.ntmps199 rfl ?_;refine zw ?_;refine yS 1 ?_;refine zx ?_;refine yS 1 ?_;refine zk (some 5) (c184 k) ?_;intro w1 hm2;have hm3:=zt hm0 hm2;refine yS 1 ?_;refine zz ?_;refine w_seq ?_;refine zw ?_;refine yS 2 ?_;refine zz ?_;refine yC (!((bstr (letB k)).toList==(⟨#[]⟩:ByteArray).toList)) (fun hc4=>?_) fun hc4=>?_
 ·refine w_region ?_;refine yO 3 [.prop (((⟨#[61]⟩:ByteArray).size+(bstr (letB k)).size:Nat)≤9223372036854775807)] (zh (by first|omega|assumption|(have e3:(⟨#[61]⟩:ByteArray).size=1:=rfl;have h5:=letB_len k;simp only [bstr_size] at*;omega)|(simp only [bstr_size,List.length_cons,List.length_nil];omega))) ?_;refine zx ?_;refine yS 2 ?_;refine zz ?_;refine w_ret ?_;exact y1 (v:=.string ((⟨#[61]⟩:ByteArray)++(bstr (letB k)))) (⟨ret_str (by have hh:=hc4;exact eqB_true hh),hm3⟩)
 refine w_skip ?_;refine zn ?_;refine yS 2 ?_;refine zz ?_;refine w_ret ?_;exact y1 (v:=.string (bstr (letB k))) (⟨ret_str (by have hh:=hc4;exact eqB_false hh),hm3⟩)
theorem c182{c:GC}{p b:Nat}{vm:Value}{S:Ps}{w:World}(hp:At w p (.cells (psCells b vm S) 110 (0,0))){B:Bd}(hb:At w b (.cells (bdCells B) 135 (0,0))){m:Nat}{pos:Value}{M:Mv}(hm:At w m (.cells (mvCells pos M) 98 (0,0)))(hG:Glob c w)(hup:UpPre B S M):
  Calls Tryz.prog 182 [pz p,pz m].toArray w (fun e w'=>e=.returned (.string (bstr (sgnI B S M)))∧Mod [] w w'):=by
 have hm0:Mod [] w w:=Mod.refl _ _;refine enter (n:=15) Tryz.func182 rfl Tryz.ntmps182 rfl ?_;refine zw ?_;refine yS 1 ?_;refine zz ?_;refine w_seq ?_;refine zw ?_;refine yS 1 ?_;refine zk (some 7) (c74 hm 16) ?_;intro w1 hm2;have hf3:=At.on hp hm2;have hf4:=At.on hb hm2;have hf5:=At.on hm hm2;have hG6:=Glob.on hG hm2;have hm7:=zt hm0 hm2;refine yS 1 ?_;refine zz ?_;refine yC (!(hasTag M 16)) (fun hc8=>?_) fun hc8=>?_
 ·have nhc8:(hasTag M 16)=false:=by simpa using hc8
  refine zw ?_;refine yS 1 ?_;refine zz ?_;refine w_ret ?_;refine r_then ?_;exact y1 (⟨ret_str (by simp only [sgnI,hc8,nhc8,cond_true,cond_false];rfl),hm7⟩)
 have nhc8:(hasTag M 16)=true:=by simpa using hc8
 refine w_skip ?_;refine zn ?_;refine yS 2 ?_;refine reg_call 35 [pz p,pz m] (some 11) (by kernel_rfl) (c35 (S:=S) (M:=M) hf3 hf4 hf5 hG6 hup.hs hup.hs2 hup.hp1 hup.hcol hup.hpro hup.hnew hup.cs) ?_;rintro _ w9 ⟨p11,b12,rfl,hm10,hf13,hf14,hb15,hb16⟩;refine ⟨_,rfl,?_⟩;have hG20:=Glob.on hG6 hm10;have hm21:=zt hm7 hm10;refine yS 1 ?_;refine zz ?_;refine w_seq ?_;refine zw ?_;refine yS 1 ?_;refine zk (some 13) (c190 (S:=(nextPs B S M)) (B:=(updB B M)) hf13 hf14 hG20 hup.st) ?_;intro w22 hm23;have hm30:=zt hm21 hm23;refine yS 1 ?_;refine zz ?_;refine yC ((statV (updB B M) (nextPs B S M))==1) (fun hc31=>?_) fun hc31=>?_
 ·have dhc31:=eq_of_beq hc31;refine zw ?_;refine yS 1 ?_;refine zz ?_;refine w_ret ?_;refine r_then ?_;exact y1 (v:=.string (⟨#[35]⟩)) (⟨ret_str (by simp only [sgnI,hc8,nhc8,hc31,cond_true,cond_false];rfl),hm30⟩)
 have dhc31:=ne_of_beq_false hc31;refine w_skip ?_;refine zn ?_;refine yS 1 ?_;refine zz ?_;refine w_ret ?_;exact y1 (v:=.string (⟨#[43]⟩)) (⟨ret_str (by simp only [sgnI,hc8,nhc8,hc31,cond_true,cond_false];rfl),hm30⟩)
def anyTo(f:Mv→Bool)(l:List Mv)(n:Nat):Bool:=(l.take n).any f
theorem anyTo_succ{f:Mv→Bool}{l:List Mv}{j:Int}(h0:0≤j)(h1:j<(l.length:Int)):anyTo f l (j+1).toNat=(anyTo f l j.toNat||f (mvAt l j.toNat)):=by
 have e:(j+1).toNat=j.toNat+1:=by omega
 have hl:j.toNat<l.length:=by omega
 unfold anyTo mvAt;rw [e,List.take_succ_eq_append_getElem hl,List.any_append,List.getD_eq_getElem?_getD,List.getElem?_eq_getElem hl];simp
theorem anyTo_all{f:Mv→Bool}{l:List Mv}{n:Nat}(h:l.length≤n):anyTo f l n=l.any f:=by unfold anyTo;rw [List.take_of_length_le h]
def othI(B:Bd)(M N:Mv):Bool:=((N.s1 !=M.s1)&&(N.s2==M.s2))&&(pieceAt B M.s1==pieceAt B N.s1)
def filI(B:Bd)(M N:Mv):Bool:=othI B M N&&(sqFile N.s1==sqFile M.s1)
def rnkI(B:Bd)(M N:Mv):Bool:=othI B M N&&(sqRank N.s1==sqRank M.s1)
def formI(B:Bd)(l:List Mv)(M:Mv):List UInt8:=
 bif pType (pieceAt B M.s1)==(6:Int) then [] else
 (bif l.any (rnkI B M)||(!(l.any (filI B M))&&l.any (othI B M)) then [fileB (sqFile M.s1)] else [])++(bif l.any (filI B M) then [rankB (sqRank M.s1)] else [])
theorem c93s{p b g cap:Nat}{S:Ps}{B:Bd}{w:World}(hp:At w p (.cells (psCells b (.slice (some ⟨g,0,none⟩) (allL B S).length cap) S) 110 (0,0)))(hc:Own w 0 98 11 (some ⟨g,0,none⟩) (allL B S).length cap (mvsL (allL B S)))(hlen:(allL B S).length≤222):
  Calls Tryz.prog 93 [pz p].toArray w (fun e w'=>∃ao cap',e=.returned (.slice ao (allL B S).length cap')∧Mod [] w w'∧Own w' w.heap.size 98 11 ao (allL B S).length cap' (mvsL (allL B S))):=by
 refine enter (n:=24) Tryz.func93 rfl Tryz.ntmps93 rfl ?_;refine zw ?_;refine yS 1 ?_;refine zz ?_;refine w_seq ?_;refine zw ?_;refine yL 5 p 2 ?_;refine zz ?_;refine yT ?_;refine zw ?_;refine yL 4 p 2 ?_;refine reg_append none 0 0 ⟨g,0,none⟩ ((allL B S).length) cap 98 (some 12) 11 96 (b0:=w.heap.size) (xs:=[]) (news:=(mvsL (allL B S))) (by kernel_rfl) (Own.nil _ _ _ _) (by decide) (mvsL_len _) (Own.cells' hc) (oneCells_mem (oneCells_mvs _)) (by omega) (by omega) ?_;intro ao2 cap3 w4 ho5 hm6 hne7;have hm10:=zt (yM w w) hm6;refine yS 1 ?_;refine zz ?_;refine w_ret ?_;refine r_then ?_;exact y1 (v:=.slice ao2 (0+(allL B S).length) cap3) (⟨ao2,cap3,by rw [Nat.zero_add],hm10,Own.cast ho5 (Nat.zero_add _) (List.nil_append _)⟩)
theorem c185{c:GC}{p b g cap:Nat}{S:Ps}{B:Bd}{w:World}(hp:At w p (.cells (psCells b (.slice (some ⟨g,0,none⟩) (allL B S).length cap) S) 110 (0,0)))(hc:Own w 0 98 11 (some ⟨g,0,none⟩) (allL B S).length cap (mvsL (allL B S)))(hb:At w b (.cells (bdCells B) 135 (0,0))){m:Nat}{pos:Value}{M:Mv}(hm:At w m (.cells (mvCells pos M) 98 (0,0)))(hG:Glob c w)(hlen:(allL B S).length≤222)(hpos:0<(allL B S).length)(hs1:0≤M.s1∧M.s1≤63):
  Calls Tryz.prog 185 [pz p,pz m].toArray w (fun e w'=>e=.returned (.string (bstr (formI B (allL B S) M)))∧Mod [] w w'):=by
 refine enter (n:=107) Tryz.func185 rfl Tryz.ntmps185 rfl ?_;refine zw ?_;refine yS 1 ?_;refine zz ?_;refine w_seq ?_;refine w_qt ?_;refine yQo 8 [.cell ⟨p,0,none⟩ (pz b),.cell ⟨m,8,none⟩ (.int .i8 M.s1)] (fun _ hC=>⟨At.cell (At.on hp hC) rfl,At.cell (At.on hm hC) rfl⟩) ?_;refine zqk (some 20) (fun w_ hC=>c72 (At.on hb hC) (Glob.on hG hC) M.s1) ?_;refine yQ 1 ?_;refine q_ot ?_;intro w1 hm2;refine n_then ?_;refine w_seq ?_;refine zw ?_;refine yS 1 ?_;refine zk (some 22) (c73 (pieceAt B M.s1) w1) ?_;intro w9 hm10;have hm16:=zt (yM w w1) hm10;refine yS 1 ?_;refine zz ?_;refine w_cond (b:=((pType (pieceAt B M.s1))==6)) (by kernel_rfl) (fun hc17=>?_) (fun hc17=>?_)
 ·have dhc17:=eq_of_beq hc17;refine zw ?_;refine yS 1 ?_;refine zz ?_;refine w_ret ?_;refine r_then ?_;exact y1 (v:=.string (⟨#[]⟩)) (⟨ret_str (by unfold formI;(try simp only [hc17]);rfl),hm16⟩)
 ·have dhc17:=ne_of_beq_false hc17;refine w_skip ?_;refine zn ?_;refine yS 3 ?_;refine zx ?_;refine zA (#[.pointer none,.slice none 0 0]) 150 (some 24) ?_;intro b18 w19 hn20;have hb21:c.base≤b18:=Glob.lt (yG w9) hn20;have hb22:=Nat.le_trans hm16.size hn20.base;refine yS 1 ?_;refine zx ?_;refine yS 1 ?_;refine reg_call 183 [pz b18] (some 26) (by kernel_rfl) (c183 ya) ?_;rintro _ w31 ⟨rfl,hm32,hf33⟩;refine ⟨_,rfl,?_⟩;refine ze ?_;have hbl40:Bld w.heap.size b18 [] w31:=Bld.new hf33 (by omega);refine n_then ?_;refine w_seq ?_;refine zw ?_;refine yS 1 ?_;refine reg_call 93 [pz p] (some 28) (by kernel_rfl) (c93s ya yo hlen) ?_;rintro _ w41 ⟨ao43,cap44,rfl,hm42,ho45⟩;refine ⟨_,rfl,?_⟩;have he49:=Bld.on hbl40 hm42;obtain ⟨g53,cur54,rfl,hb55,hf56,ht57,hn58,hs59⟩:=Own.some ho45 hpos;refine yS 2 ?_;refine zz ?_;refine w_block ?_;refine yP (γ:=Int) (fun g61=>(((allL B S).length:Int)-g61).toNat) (fun (g61:Int)=>[(0,pz p),(1,pz m),(5,.int .i8 (pieceAt B M.s1)),(6,.bool (anyTo (othI B M) (allL B S) g61.toNat)),(7,.bool (anyTo (rnkI B M) (allL B S) g61.toNat)),(8,.bool (anyTo (filI B M) (allL B S) g61.toNat)),(9,pz b18),(28,.slice (some ⟨g53,0,none⟩) ((allL B S).length) cap44),(29,.int .i64 (((allL B S).length:Nat):Int)),(30,.int .i64 g61)]) (fun (g61:Int) w_=>(0≤g61∧g61≤((allL B S).length:Int))∧Mod [] w41 w_∧(True)) 0 ⟨by omega,Mod.refl _ _,trivial⟩ ?_;rintro g61 w62 ⟨⟨h64,h65⟩,hm63,hx66⟩;have he70:=Bld.on he49 hm63;refine zw ?_;refine yS 1 ?_;refine zz ?_;refine w_seq ?_;refine w_cond (b:=(decide (g61<(((allL B S).length:Nat):Int)))) (by kernel_rfl) (fun hc75=>?_) (fun hc75=>?_)
  ·have dhc75:=of_decide_eq_true hc75;refine w_skip ?_;refine n_then ?_;refine w_cut (γ:=Bool×Bool×Bool) (fun g76=>[(0,pz p),(1,pz m),(5,.int .i8 (pieceAt B M.s1)),(6,.bool g76.1),(7,.bool g76.2.1),(8,.bool g76.2.2),(9,pz b18),(28,.slice (some ⟨g53,0,none⟩) ((allL B S).length) cap44),(29,.int .i64 (((allL B S).length:Nat):Int)),(30,.int .i64 g61)]) (fun g76 w_=>Mod [] w62 w_∧g76=((anyTo (othI B M) (allL B S) (g61+1).toNat),(anyTo (rnkI B M) (allL B S) (g61+1).toNat),(anyTo (filI B M) (allL B S) (g61+1).toNat))) ?_ ?_
   ·refine w_block ?_;refine zw ?_;refine yV 2 [.prop (0≤g61∧g61<(((allL B S).length:Nat):Int)),.row ⟨g53,(0+g61.toNat*11),none⟩ 11 (mvCells (.pointer none) (mvAt (allL B S) g61.toNat))] [.agg (mvCells (.pointer none) (mvAt (allL B S) g61.toNat))] (⟨(zh (by omega)),(own_mv (Own.on ho45 yt) (by omega))⟩) ?_;refine zA (mvCells (.pointer none) (⟨0,0,0,0⟩:Mv)) 98 (some 11) ?_;intro b80 w81 hn82;have hm89:=hn82.mod;have he93:=Bld.on he70 hm89;refine zS b80 0 (.agg (mvCells (.pointer none) (mvAt (allL B S) g61.toNat))) ?_;intro w101 hu102;have he107:=Bld.keep he93 hu102.mod ya (by decide) (by decide);refine zz ?_;refine w_cut (γ:=Unit) (fun _=>[(0,pz p),(1,pz m),(5,.int .i8 (pieceAt B M.s1)),(6,.bool (anyTo (othI B M) (allL B S) g61.toNat)),(7,.bool (anyTo (rnkI B M) (allL B S) g61.toNat)),(8,.bool (anyTo (filI B M) (allL B S) g61.toNat)),(9,pz b18),(11,pz b80),(28,.slice (some ⟨g53,0,none⟩) ((allL B S).length) cap44),(29,.int .i64 (((allL B S).length:Nat):Int)),(30,.int .i64 g61),(60,.bool (((((mvAt (allL B S) g61.toNat).s1) !=M.s1)&&(((mvAt (allL B S) g61.toNat).s2)==M.s2))&&((pieceAt B M.s1)==(pieceAt B ((mvAt (allL B S) g61.toNat).s1)))))]) (fun _ w_=>Mod [] w101 w_) ?_ ?_
    ·refine w_qt ?_;refine yQo 8 [.cell ⟨b80,8,none⟩ (.int .i8 ((mvAt (allL B S) g61.toNat).s1)),.cell ⟨m,8,none⟩ (.int .i8 M.s1)] (fun _ hC=>⟨At.cell (At.on ya hC) rfl,At.cell (At.on ya hC) rfl⟩) ?_;refine yEq 41 (.bool (((mvAt (allL B S) g61.toNat).s1) !=M.s1)) ?_;cases hc117:(((mvAt (allL B S) g61.toNat).s1) !=M.s1)
     ·refine yQ 19 ?_;refine q_ot ?_;intro w118 hm119;have he124:=Bld.on he107 hm119;exact zb () yt
     ·refine yQo 9 [.cell ⟨b80,9,none⟩ (.int .i8 ((mvAt (allL B S) g61.toNat).s2)),.cell ⟨m,9,none⟩ (.int .i8 M.s2)] (fun _ hC=>⟨At.cell (At.on ya hC) rfl,At.cell (At.on ya hC) rfl⟩) ?_;refine yEq 50 (.bool (((mvAt (allL B S) g61.toNat).s2)==M.s2)) ?_;cases hc131:(((mvAt (allL B S) g61.toNat).s2)==M.s2)
      ·refine yQ 10 ?_;refine q_ot ?_;intro w132 hm133;have he138:=Bld.on he107 hm133;exact zb () yt
      ·refine yQo 7 [.cell ⟨p,0,none⟩ (pz b),.cell ⟨b80,8,none⟩ (.int .i8 ((mvAt (allL B S) g61.toNat).s1))] (fun _ hC=>⟨At.cell (At.on ya hC) rfl,At.cell (At.on ya hC) rfl⟩) ?_;refine zqk (some 58) (fun w_ hC=>c72 (At.on (yA w101 b) hC) (Glob.on (yG w101) hC) ((mvAt (allL B S) g61.toNat).s1)) ?_;refine yQ 2 ?_;refine q_ot ?_;intro w145 hm146;have he151:=Bld.on he107 hm146;exact zb () yt
    intro _ w114 hm115;have he162:=Bld.on he107 hm115;refine w_cond (b:=(othI B M (mvAt (allL B S) g61.toNat))) (by kernel_rfl) (fun hc169=>?_) (fun hc169=>?_)
    ·refine zw ?_;refine yS 1 ?_;refine zz ?_;refine w_seq ?_;refine w_seq ?_;refine w_qt ?_;refine yQo 2 [.cell ⟨b80,8,none⟩ (.int .i8 ((mvAt (allL B S) g61.toNat).s1))] (fun _ hC=>At.cell (At.on ya hC) rfl) ?_;refine zqk (some 63) (fun w_ hC=>c133 ((mvAt (allL B S) g61.toNat).s1) w_) ?_;refine yQo 4 [.cell ⟨m,8,none⟩ (.int .i8 M.s1)] (fun _ hC=>At.cell (At.on ya hC) rfl) ?_;refine zqk (some 68) (fun w_ hC=>c133 M.s1 w_) ?_;refine yQ 1 ?_;refine q_ot ?_;intro w170 hm171;have he176:=Bld.on he162 hm171;refine n_then ?_;refine w_cond (b:=((sqFile ((mvAt (allL B S) g61.toNat).s1))==(sqFile M.s1))) (by kernel_rfl) (fun hc183=>?_) (fun hc183=>?_)
     ·have dhc183:=eq_of_beq hc183;refine w_region ?_;refine yS 1 ?_;refine zz ?_;refine w_seq ?_;refine w_qt ?_;refine yQo 2 [.cell ⟨b80,8,none⟩ (.int .i8 ((mvAt (allL B S) g61.toNat).s1))] (fun _ hC=>At.cell (At.on ya hC) rfl) ?_;refine zqk (some 72) (fun w_ hC=>c132 ((mvAt (allL B S) g61.toNat).s1) w_) ?_;refine yQo 4 [.cell ⟨m,8,none⟩ (.int .i8 M.s1)] (fun _ hC=>At.cell (At.on ya hC) rfl) ?_;refine zqk (some 77) (fun w_ hC=>c132 M.s1 w_) ?_;refine yQ 1 ?_;refine q_ot ?_;intro w184 hm185;have he190:=Bld.on he176 hm185;refine n_then ?_;refine w_cond (b:=((sqRank ((mvAt (allL B S) g61.toNat).s1))==(sqRank M.s1))) (by kernel_rfl) (fun hc197=>?_) (fun hc197=>?_)
      ·have dhc197:=eq_of_beq hc197;refine w_region ?_;refine yS 1 ?_;refine ze ?_;refine n_block ?_;exact zb (true,true,true) ⟨yt,(by rw [anyTo_succ (by omega) (by omega),anyTo_succ (by omega) (by omega),anyTo_succ (by omega) (by omega)];simp only [filI,rnkI,hc169,hc183,hc197,Bool.or_true,Bool.or_false,Bool.true_and,Bool.false_and,Bool.and_true,Bool.and_false])⟩
      ·have dhc197:=ne_of_beq_false hc197;refine w_skip ?_;refine n_block ?_;exact zb (true,(anyTo (rnkI B M) (allL B S) g61.toNat),true) ⟨yt,(by rw [anyTo_succ (by omega) (by omega),anyTo_succ (by omega) (by omega),anyTo_succ (by omega) (by omega)];simp only [filI,rnkI,hc169,hc183,hc197,Bool.or_true,Bool.or_false,Bool.true_and,Bool.false_and,Bool.and_true,Bool.and_false])⟩
     ·have dhc183:=ne_of_beq_false hc183;refine w_skip ?_;refine n_then ?_;refine w_seq ?_;refine w_qt ?_;refine yQo 2 [.cell ⟨b80,8,none⟩ (.int .i8 ((mvAt (allL B S) g61.toNat).s1))] (fun _ hC=>At.cell (At.on ya hC) rfl) ?_;refine zqk (some 72) (fun w_ hC=>c132 ((mvAt (allL B S) g61.toNat).s1) w_) ?_;refine yQo 4 [.cell ⟨m,8,none⟩ (.int .i8 M.s1)] (fun _ hC=>At.cell (At.on ya hC) rfl) ?_;refine zqk (some 77) (fun w_ hC=>c132 M.s1 w_) ?_;refine yQ 1 ?_;refine q_ot ?_;intro w198 hm199;have he204:=Bld.on he176 hm199;refine n_then ?_;refine w_cond (b:=((sqRank ((mvAt (allL B S) g61.toNat).s1))==(sqRank M.s1))) (by kernel_rfl) (fun hc211=>?_) (fun hc211=>?_)
      ·have dhc211:=eq_of_beq hc211;refine w_region ?_;refine yS 1 ?_;refine ze ?_;refine n_block ?_;exact zb (true,true,(anyTo (filI B M) (allL B S) g61.toNat)) ⟨yt,(by rw [anyTo_succ (by omega) (by omega),anyTo_succ (by omega) (by omega),anyTo_succ (by omega) (by omega)];simp only [filI,rnkI,hc169,hc183,hc211,Bool.or_true,Bool.or_false,Bool.true_and,Bool.false_and,Bool.and_true,Bool.and_false])⟩
      ·have dhc211:=ne_of_beq_false hc211;refine w_skip ?_;refine n_block ?_;exact zb (true,(anyTo (rnkI B M) (allL B S) g61.toNat),(anyTo (filI B M) (allL B S) g61.toNat)) ⟨yt,(by rw [anyTo_succ (by omega) (by omega),anyTo_succ (by omega) (by omega),anyTo_succ (by omega) (by omega)];simp only [filI,rnkI,hc169,hc183,hc211,Bool.or_true,Bool.or_false,Bool.true_and,Bool.false_and,Bool.and_true,Bool.and_false])⟩
    ·refine w_skip ?_;refine n_block ?_;exact zb ((anyTo (othI B M) (allL B S) g61.toNat),(anyTo (rnkI B M) (allL B S) g61.toNat),(anyTo (filI B M) (allL B S) g61.toNat)) ⟨yt,(by rw [anyTo_succ (by omega) (by omega),anyTo_succ (by omega) (by omega),anyTo_succ (by omega) (by omega)];simp only [filI,rnkI,hc169,Bool.or_true,Bool.or_false,Bool.true_and,Bool.false_and,Bool.and_true,Bool.and_false])⟩
   rintro _ w77 ⟨hm78,rfl⟩;have he215:=Bld.on he70 hm78;refine w_region ?_;refine yS 2 ?_;refine yW 30 (zi (g61+1) (by omega) (by omega)) ?_;refine ze ?_;exact zl (g61+1) ⟨by omega,yt,trivial⟩
  ·have dhc75:=of_decide_eq_false hc75;rw [show (anyTo (othI B M) (allL B S) g61.toNat)=((allL B S).any (othI B M)) from anyTo_all (by omega)];rw [show (anyTo (rnkI B M) (allL B S) g61.toNat)=((allL B S).any (rnkI B M)) from anyTo_all (by omega)];rw [show (anyTo (filI B M) (allL B S) g61.toNat)=((allL B S).any (filI B M)) from anyTo_all (by omega)];refine w_exit ?_;refine x_then ?_;refine x_then ?_;refine x_hit ?_;refine n_then ?_;refine w_seq ?_;refine w_cut (γ:=Unit) (fun _=>[(1,pz m),(8,.bool ((allL B S).any (filI B M))),(9,pz b18),(87,.bool (((allL B S).any (rnkI B M))||((!((allL B S).any (filI B M)))&&((allL B S).any (othI B M)))))]) (fun _ w_=>Mod [] w62 w_) ?_ ?_
   ·refine w_region ?_;refine yS 2 ?_;refine yE 81 (.bool ((allL B S).any (rnkI B M))) ?_;cases hc224:((allL B S).any (rnkI B M))
    ·refine yS 3 ?_;refine yE 84 (.bool (!((allL B S).any (filI B M)))) ?_;cases hc225:(!((allL B S).any (filI B M)))
     ·refine yS 3 ?_;refine ze ?_;exact zb () yt
     ·refine yS 3 ?_;refine ze ?_;exact zb () yt
    ·refine yS 6 ?_;refine ze ?_;exact zb () yt
   intro _ w221 hm222;have he229:=Bld.on he70 hm222;refine w_cond (b:=(((allL B S).any (rnkI B M))||((!((allL B S).any (filI B M)))&&((allL B S).any (othI B M))))) (by kernel_rfl) (fun hc234=>?_) (fun hc234=>?_)
   ·refine w_region ?_;refine yL 5 m 8 ?_;refine zk (some 93) (c133 M.s1 w221) ?_;intro w235 hm236;have he240:=Bld.on he229 hm236;refine zk (some 94) (c191 (sqFile M.s1) (file_ok hs1)) ?_;intro w245 hm246;have he250:=Bld.on he240 hm246;refine reg_call 114 [pz b18,.int .u8 (97+(sqFile M.s1))] (some 95) (by kernel_rfl) (cWB yt he250 (by simp) (by first|(have:=file_ok hs1;omega)|(have:=rank_ok hs1;omega))) ?_;rintro _ w255 ⟨rfl,hm256,hbl257⟩;refine ⟨_,rfl,?_⟩;refine zz ?_;refine w_seq ?_;refine zw ?_;refine yS 1 ?_;refine zz ?_;refine w_cond (b:=((allL B S).any (filI B M))) (by kernel_rfl) (fun hc263=>?_) (fun hc263=>?_)
    ·refine w_region ?_;refine yL 5 m 8 ?_;refine zk (some 102) (c132 M.s1 w255) ?_;intro w264 hm265;have he269:=Bld.on hbl257 hm265;refine zk (some 103) (c192 (sqRank M.s1) (rank_ok hs1)) ?_;intro w273 hm274;have he278:=Bld.on he269 hm274;refine reg_call 114 [pz b18,.int .u8 (49+(sqRank M.s1))] (some 104) (by kernel_rfl) (cWB yt he278 (by simp) (by first|(have:=file_ok hs1;omega)|(have:=rank_ok hs1;omega))) ?_;rintro _ w282 ⟨rfl,hm283,hbl284⟩;refine ⟨_,rfl,?_⟩;refine zx ?_;refine yS 1 ?_;refine zC (some 106) (cBS hm283 hbl284) ?_;rintro _ w290 ⟨rfl,hm291,hbl292⟩;refine ⟨_,rfl,?_⟩;refine yS 1 ?_;refine zz ?_;refine w_ret ?_;exact y1 (v:=.string (bstr (([]++[UInt8.ofNat (97+(sqFile M.s1)).toNat])++[UInt8.ofNat (49+(sqRank M.s1)).toNat]))) (⟨ret_str (by unfold formI;(try simp only [hc17]);(try simp only [hc75]);(try simp only [hc234]);(try simp only [hc263]);rfl),hm291⟩)
    ·refine w_skip ?_;refine zn ?_;refine yS 1 ?_;refine zC (some 106) (cBS hm256 hbl257) ?_;rintro _ w298 ⟨rfl,hm299,hbl300⟩;refine ⟨_,rfl,?_⟩;refine yS 1 ?_;refine zz ?_;refine w_ret ?_;exact y1 (v:=.string (bstr ([]++[UInt8.ofNat (97+(sqFile M.s1)).toNat]))) (⟨ret_str (by unfold formI;(try simp only [hc17]);(try simp only [hc75]);(try simp only [hc234]);(try simp only [hc263]);rfl),hm299⟩)
   ·refine w_skip ?_;refine n_then ?_;refine w_seq ?_;refine zw ?_;refine yS 1 ?_;refine zz ?_;refine w_cond (b:=((allL B S).any (filI B M))) (by kernel_rfl) (fun hc306=>?_) (fun hc306=>?_)
    ·refine w_region ?_;refine yL 5 m 8 ?_;refine zk (some 102) (c132 M.s1 w221) ?_;intro w307 hm308;have he312:=Bld.on he229 hm308;refine zk (some 103) (c192 (sqRank M.s1) (rank_ok hs1)) ?_;intro w317 hm318;have he322:=Bld.on he312 hm318;refine reg_call 114 [pz b18,.int .u8 (49+(sqRank M.s1))] (some 104) (by kernel_rfl) (cWB yt he322 (by simp) (by first|(have:=file_ok hs1;omega)|(have:=rank_ok hs1;omega))) ?_;rintro _ w327 ⟨rfl,hm328,hbl329⟩;refine ⟨_,rfl,?_⟩;refine zx ?_;refine yS 1 ?_;refine zC (some 106) (cBS hm328 hbl329) ?_;rintro _ w335 ⟨rfl,hm336,hbl337⟩;refine ⟨_,rfl,?_⟩;refine yS 1 ?_;refine zz ?_;refine w_ret ?_;exact y1 (v:=.string (bstr ([]++[UInt8.ofNat (49+(sqRank M.s1)).toNat]))) (⟨ret_str (by unfold formI;(try simp only [hc17]);(try simp only [hc75]);(try simp only [hc234]);(try simp only [hc306]);rfl),hm336⟩)
    ·refine w_skip ?_;refine zn ?_;refine yS 1 ?_;refine zC (some 106) (cBS yt he229) ?_;rintro _ w343 ⟨rfl,hm344,hbl345⟩;refine ⟨_,rfl,?_⟩;refine yS 1 ?_;refine zz ?_;refine w_ret ?_;exact y1 (v:=.string (bstr [])) (⟨ret_str (by unfold formI;(try simp only [hc17]);(try simp only [hc75]);(try simp only [hc234]);(try simp only [hc306]);rfl),hm344⟩)
theorem Bld.cast{B b:Nat}{l l':List UInt8}{w:World}(h:Bld B b l w)(e:l=l'):Bld B b l' w:=e▸h
theorem formI_len(B:Bd)(l:List Mv)(M:Mv):(formI B l M).length≤2:=by
 unfold formI;cases (pType (pieceAt B M.s1)==(6:Int))<;>cases (l.any (rnkI B M)||(!(l.any (filI B M))&&l.any (othI B M)))<;>cases l.any (filI B M)<;>simp only [cond_true,cond_false,List.nil_append,List.append_nil,List.cons_append,List.length_cons,List.length_nil]<;>omega
theorem sgnI_len(B:Bd)(S:Ps)(M:Mv):(sgnI B S M).length≤1:=by
 unfold sgnI;cases hasTag M 16<;>cases (statV (updB B M) (nextPs B S M)==(1:Int))<;>simp only [cond_true,cond_false,List.length_cons,List.length_nil]<;>omega
def capT(B:Bd)(M:Mv)(n:Int):List UInt8:=bif hasTag M (4:Int)||hasTag M (8:Int) then (bif (pType (pieceAt B M.s1)==(6:Int))&&(n==(0:Int)) then [fileB (sqFile M.s1)] else [])++[120] else []
theorem bif_len(c:Bool)(x:UInt8):(bif c then [x] else []).length≤1:=by cases c<;>simp
theorem capT_len(B:Bd)(M:Mv)(n:Int):(capT B M n).length≤2:=by
 unfold capT;cases (hasTag M (4:Int)||hasTag M (8:Int))<;>cases ((pType (pieceAt B M.s1)==(6:Int))&&(n==(0:Int)))<;>simp only [cond_true,cond_false,List.nil_append,List.append_nil,List.cons_append,List.length_cons,List.length_nil]<;>omega
def promT(M:Mv):List UInt8:=bif M.promo !=(0:Int) then [61]++letB M.promo else []
theorem promT_len(M:Mv):(promT M).length≤2:=by
 unfold promT;cases (M.promo !=(0:Int))
 ·simp only [cond_false,List.length_nil];omega
 have:=letB_len M.promo;simp only [cond_true,List.length_append,List.length_cons,List.length_nil];omega
def bodyI(B:Bd)(l:List Mv)(M:Mv):List UInt8:=
 bif hasTag M (1:Int) then [79,45,79] else bif hasTag M (2:Int) then [79,45,79,45,79] else
 (((([]++letB (pType (pieceAt B M.s1)))++formI B l M)++capT B M (((([]++letB (pType (pieceAt B M.s1)))++formI B l M).length:Nat):Int))++sqBytes M.s2)++promT M
def encI(B:Bd)(S:Ps)(l:List Mv)(M:Mv):List UInt8:=bodyI B l M++sgnI B S M
def capL(M:Mv):List UInt8:=bif hasTag M (4:Int)||hasTag M (8:Int) then [120] else []
def lanI(B:Bd)(S:Ps)(M:Mv):List UInt8:=
 bif hasTag M (1:Int) then [79,45,79]++sgnI B S M else bif hasTag M (2:Int) then [79,45,79,45,79]++sgnI B S M else
 ((((letB (pType (pieceAt B M.s1))++sqBytes M.s1)++capL M)++sqBytes M.s2)++eqB (letB M.promo))++sgnI B S M
theorem eqB_len(k:Int):(eqB (letB k)).length≤2:=by
 have:=letB_len k;unfold eqB;split
 ·simp
 simp only [List.length_cons];omega
theorem c176{c:GC}{p b g cap:Nat}{S:Ps}{B:Bd}{w:World}(hp:At w p (.cells (psCells b (.slice (some ⟨g,0,none⟩) (allL B S).length cap) S) 110 (0,0)))(hc:Own w 0 98 11 (some ⟨g,0,none⟩) (allL B S).length cap (mvsL (allL B S)))(hb:At w b (.cells (bdCells B) 135 (0,0))){m:Nat}{pos:Value}{M:Mv}(hm:At w m (.cells (mvCells pos M) 98 (0,0)))(hG:Glob c w)(hlen:(allL B S).length≤222)(hpos:0<(allL B S).length)(hup:UpPre B S M):
  Calls Tryz.prog 176 [.agg (#[]),pz p,pz m].toArray w (fun e w'=>e=.returned (.string (bstr (encI B S (allL B S) M)))∧Mod [] w w'):=by
 have hm0:Mod [] w w:=Mod.refl _ _;refine enter (n:=99) Tryz.func176 rfl Tryz.ntmps176 rfl ?_;refine zw ?_;refine zA (#[]) 89 (some 3) ?_;intro b1 w2 hn3;have hb4:c.base≤b1:=Glob.lt hG hn3;have hb5:=Nat.le_trans hm0.size hn3.base;have hm6:=hn3.mod;have hG11:=Glob.on hG hm6;have hm12:=zt hm0 hm6;refine yS 1 ?_;refine zx ?_;refine yS 2 ?_;refine zk (some 14) (c182 (S:=S) (M:=M) (yA w2 p) (yA w2 b) (yA w2 m) hG11 hup) ?_;intro w14 hm15;have hG21:=Glob.on hG11 hm15;have hm22:=zt hm12 hm15;refine yS 1 ?_;refine zz ?_;refine w_seq ?_;refine zw ?_;refine yS 1 ?_;refine zk (some 16) (c74 (yA w14 m) 1) ?_;intro w23 hm24;have hG30:=Glob.on hG21 hm24;have hm31:=zt hm22 hm24;refine zz ?_;refine zc (fun hc32=>?_) fun hc32=>?_
 ·refine zw ?_;refine yO 3 [.prop (((⟨#[79,45,79]⟩:ByteArray).size+(bstr (sgnI B S M)).size:Nat)≤9223372036854775807)] (zh (by first|omega|assumption|exact wrapu8_pos _|exact wrapu_pos _|decide|(have e1:(⟨#[79,45,79]⟩:ByteArray).size=3:=rfl;have e2:(⟨#[79,45,79,45,79]⟩:ByteArray).size=5:=rfl;have e3:(⟨#[120]⟩:ByteArray).size=1:=rfl;have h1:=letB_len (pType (pieceAt B M.s1));have h2:=eqB_len M.promo;have h3:(capL M).length≤1:=(by unfold capL;cases (hasTag M 4||hasTag M 8)<;>simp);have h6:=sgnI_len B S M;simp only [ByteArray.size_append,bstr_size,List.length_append,List.length_cons,List.length_nil,sqBytes] at*;omega))) ?_;refine zz ?_;refine w_ret ?_;refine r_then ?_;exact y1 (⟨ret_str (by simp only [encI,bodyI,hc32,cond_true];exact bstr_append [79,45,79] _),hm31⟩)
 refine w_skip ?_;refine n_then ?_;refine w_seq ?_;refine zw ?_;refine yS 1 ?_;refine zk (some 20) (c74 (yA w23 m) 2) ?_;intro w33 hm34;have hG40:=Glob.on hG30 hm34;have hm41:=zt hm31 hm34;refine zz ?_;refine zc (fun hc42=>?_) fun hc42=>?_
 ·refine zw ?_;refine yO 3 [.prop (((⟨#[79,45,79,45,79]⟩:ByteArray).size+(bstr (sgnI B S M)).size:Nat)≤9223372036854775807)] (zh (by first|omega|assumption|exact wrapu8_pos _|exact wrapu_pos _|decide|(have e1:(⟨#[79,45,79]⟩:ByteArray).size=3:=rfl;have e2:(⟨#[79,45,79,45,79]⟩:ByteArray).size=5:=rfl;have e3:(⟨#[120]⟩:ByteArray).size=1:=rfl;have h1:=letB_len (pType (pieceAt B M.s1));have h2:=eqB_len M.promo;have h3:(capL M).length≤1:=(by unfold capL;cases (hasTag M 4||hasTag M 8)<;>simp);have h6:=sgnI_len B S M;simp only [ByteArray.size_append,bstr_size,List.length_append,List.length_cons,List.length_nil,sqBytes] at*;omega))) ?_;refine zz ?_;refine w_ret ?_;refine r_then ?_;exact y1 (v:=.string ((⟨#[79,45,79,45,79]⟩:ByteArray)++(bstr (sgnI B S M)))) (⟨ret_str (by simp only [encI,bodyI,hc32,hc42,cond_true,cond_false];exact bstr_append [79,45,79,45,79] _),hm41⟩)
 refine w_skip ?_;refine zn ?_;refine zA (#[.pointer none,.slice none 0 0]) 150 (some 23) ?_;intro b43 w44 hn45;have hb46:c.base≤b43:=Glob.lt hG40 hn45;have hb47:=Nat.le_trans hm41.size hn45.base;refine yS 1 ?_;refine zx ?_;refine yS 1 ?_;refine reg_call 183 [pz b43] (some 25) (by kernel_rfl) (c183 ya) ?_;rintro _ w57 ⟨rfl,hm58,hf59⟩;refine ⟨_,rfl,?_⟩;refine ze ?_;have hbl67:Bld w.heap.size b43 [] w57:=Bld.new hf59 (by omega);refine zn ?_;refine yS 1 ?_;refine zk (some 27) (c62 (yA w57 p)) ?_;intro w68 hm69;have he74:=Bld.on hbl67 hm69;refine yS 1 ?_;refine zk (some 29) (c58 (yA w68 m)) ?_;intro w78 hm79;have he84:=Bld.on he74 hm79;refine zk (some 30) (c72 (yA w78 b) (yG w78) M.s1) ?_;intro w88 hm89;have he94:=Bld.on he84 hm89;refine yS 1 ?_;refine zz ?_;refine w_cut (γ:=Unit) (fun _=>[(1,pz p),(2,pz m),(8,pz b43),(9,.int .i8 (pieceAt B M.s1))]) (fun _ w_=>Mod [] w w_∧Bld w.heap.size b43 ([]++letB (pType (pieceAt B M.s1))) w_) ?_ ?_
 ·refine zw ?_;refine yS 1 ?_;refine zk (some 32) (c73 (pieceAt B M.s1) w88) ?_;intro w101 hm102;have he107:=Bld.on he94 hm102;refine zk (some 33) (c184 (pType (pieceAt B M.s1))) ?_;intro w111 hm112;have he117:=Bld.on he107 hm112;refine yS 1 ?_;refine zx ?_;refine yS 2 ?_;refine zz ?_;refine yC (!((bstr (letB (pType (pieceAt B M.s1)))).toList==(⟨#[]⟩:ByteArray).toList)) (fun hc121=>?_) fun hc121=>?_
  ·refine w_region ?_;refine yS 2 ?_;refine zC (some 38) (cWS (t:=(letB (pType (pieceAt B M.s1)))) yt he117 (by have h1:=letB_len (pType (pieceAt B M.s1));have h2:=formI_len B (allL B S) M;have h3:=capT_len B M ((((([]++letB (pType (pieceAt B M.s1)))++formI B (allL B S) M)).length:Nat):Int);have h4:=promT_len M;have h5:=letB_len M.promo;have h6:=sgnI_len B S M;have h7:=bif_len ((pType (pieceAt B M.s1)==6)&&(((((([]++letB (pType (pieceAt B M.s1)))++formI B (allL B S) M)).length:Nat):Int)==0)) (fileB (sqFile M.s1));simp only [List.length_append,List.length_cons,List.length_nil,sqBytes] at*;omega)) ?_;rintro _ w122 ⟨rfl,hm123,hbl124⟩;refine ⟨_,rfl,?_⟩;refine ze ?_;exact zb () ⟨hm123,Bld.cast hbl124 rfl⟩
  refine w_skip ?_;exact zb () ⟨yt,Bld.cast he117 (by rw [bstr_none hc121,List.append_nil])⟩
 rintro _ w98 ⟨hm99,hbl100⟩;refine w_cut (γ:=Unit) (fun _=>[(1,pz p),(2,pz m),(8,pz b43),(9,.int .i8 (pieceAt B M.s1))]) (fun _ w_=>Mod [] w w_∧Bld w.heap.size b43 (([]++letB (pType (pieceAt B M.s1)))++formI B (allL B S) M) w_) ?_ ?_
 ·refine zw ?_;refine yS 2 ?_;refine zk (some 41) (c185 (S:=S) (M:=M) (yA w98 p) yo (yA w98 b) (yA w98 m) (yG w98) hlen hpos hup.hs) ?_;intro w138 hm139;have he143:=Bld.on hbl100 hm139;refine yS 1 ?_;refine zx ?_;refine yS 2 ?_;refine zz ?_;refine yC (!((bstr (formI B (allL B S) M)).toList==(⟨#[]⟩:ByteArray).toList)) (fun hc147=>?_) fun hc147=>?_
  ·refine w_region ?_;refine yS 2 ?_;refine zC (some 46) (cWS (t:=(formI B (allL B S) M)) yt he143 (by have h1:=letB_len (pType (pieceAt B M.s1));have h2:=formI_len B (allL B S) M;have h3:=capT_len B M ((((([]++letB (pType (pieceAt B M.s1)))++formI B (allL B S) M)).length:Nat):Int);have h4:=promT_len M;have h5:=letB_len M.promo;have h6:=sgnI_len B S M;have h7:=bif_len ((pType (pieceAt B M.s1)==6)&&(((((([]++letB (pType (pieceAt B M.s1)))++formI B (allL B S) M)).length:Nat):Int)==0)) (fileB (sqFile M.s1));simp only [List.length_append,List.length_cons,List.length_nil,sqBytes] at*;omega)) ?_;rintro _ w148 ⟨rfl,hm149,hbl150⟩;refine ⟨_,rfl,?_⟩;refine ze ?_;exact zb () ⟨hm149,Bld.cast hbl150 rfl⟩
  refine w_skip ?_;exact zb () ⟨yt,Bld.cast he143 (by rw [bstr_none hc147,List.append_nil])⟩
 rintro _ w135 ⟨hm136,hbl137⟩;refine w_cut (γ:=Unit) (fun _=>[(1,pz p),(2,pz m),(8,pz b43)]) (fun _ w_=>Mod [] w w_∧Bld w.heap.size b43 ((([]++letB (pType (pieceAt B M.s1)))++formI B (allL B S) M)++capT B M ((((([]++letB (pType (pieceAt B M.s1)))++formI B (allL B S) M)).length:Nat):Int)) w_) ?_ ?_
 ·refine w_cut (γ:=Unit) (fun _=>[(1,pz p),(2,pz m),(8,pz b43),(9,.int .i8 (pieceAt B M.s1)),(52,.bool ((hasTag M 4)||(hasTag M 8)))]) (fun _ w_=>Mod [] w135 w_) ?_ ?_
  ·refine w_region ?_;refine yS 1 ?_;refine zk (some 48) (c74 (yA w135 m) 4) ?_;intro w167 hm168;have he172:=Bld.on hbl137 hm168;refine yS 1 ?_;refine yE 49 (.bool (hasTag M (4:Int))) ?_;cases hc176:(hasTag M (4:Int))
   ·refine yS 1 ?_;refine zk (some 51) (c74 (yA w167 m) 8) ?_;intro w177 hm178;have he182:=Bld.on he172 hm178;refine yS 1 ?_;refine ze ?_;exact zb () yt
   refine yS 3 ?_;refine ze ?_;exact zb () yt
  intro _ w164 hm165;have he189:=Bld.on hbl137 hm165;have hm192:=zt hm136 hm165;refine yC ((hasTag M 4)||(hasTag M 8)) (fun hc193=>?_) fun hc193=>?_
  ·refine w_cut (γ:=Unit) (fun _=>[(1,pz p),(2,pz m),(8,pz b43)]) (fun _ w_=>Mod [] w w_∧Bld w.heap.size b43 ((([]++letB (pType (pieceAt B M.s1)))++formI B (allL B S) M)++(bif (pType (pieceAt B M.s1)==6)&&(((((([]++letB (pType (pieceAt B M.s1)))++formI B (allL B S) M)).length:Nat):Int)==0) then [fileB (sqFile M.s1)] else [])) w_) ?_ ?_
   ·refine w_cut (γ:=Unit) (fun _=>[(1,pz p),(2,pz m),(8,pz b43),(60,.bool (((pType (pieceAt B M.s1))==6)&&(((((([]++letB (pType (pieceAt B M.s1)))++formI B (allL B S) M)).length:Nat):Int)==0)))]) (fun _ w_=>Mod [] w164 w_) ?_ ?_
    ·refine w_region ?_;refine yS 1 ?_;refine zk (some 54) (c73 (pieceAt B M.s1) w164) ?_;intro w200 hm201;have he205:=Bld.on he189 hm201;refine yS 2 ?_;refine yE 56 (.bool ((pType (pieceAt B M.s1))==(6:Int))) ?_;cases hc209:((pType (pieceAt B M.s1))==(6:Int))
     ·refine yS 4 ?_;refine ze ?_;exact zb () yt
     refine yS 1 ?_;refine zk (some 58) (cBL he205) ?_;intro w210 hm211;have he215:=Bld.on he205 hm211;refine yS 2 ?_;refine ze ?_;exact zb () yt
    intro _ w197 hm198;have he222:=Bld.on he189 hm198;have hm225:=zt hm192 hm198;refine yC (((pType (pieceAt B M.s1))==6)&&(((((([]++letB (pType (pieceAt B M.s1)))++formI B (allL B S) M)).length:Nat):Int)==0)) (fun hc226=>?_) fun hc226=>?_
    ·refine w_region ?_;refine yL 5 m 8 ?_;refine zk (some 66) (c133 M.s1 w197) ?_;intro w227 hm228;have he232:=Bld.on he222 hm228;have hm235:=zt hm225 hm228;refine zk (some 67) (c187 (sqFile M.s1) (file_ok hup.hs)) ?_;intro w236 hm237;have he241:=Bld.on he232 hm237;have hm244:=zt hm235 hm237;refine zC (some 68) (cWS (t:=[fileB (sqFile M.s1)]) hm244 he241 (by have h1:=letB_len (pType (pieceAt B M.s1));have h2:=formI_len B (allL B S) M;have h3:=capT_len B M ((((([]++letB (pType (pieceAt B M.s1)))++formI B (allL B S) M)).length:Nat):Int);have h4:=promT_len M;have h5:=letB_len M.promo;have h6:=sgnI_len B S M;have h7:=bif_len ((pType (pieceAt B M.s1)==6)&&(((((([]++letB (pType (pieceAt B M.s1)))++formI B (allL B S) M)).length:Nat):Int)==0)) (fileB (sqFile M.s1));simp only [List.length_append,List.length_cons,List.length_nil,sqBytes] at*;omega)) ?_;rintro _ w245 ⟨rfl,hm246,hbl247⟩;refine ⟨_,rfl,?_⟩;refine ze ?_;exact zb () ⟨hm246,Bld.cast hbl247 (by (try simp only [capT,promT,hc226,cond_true,cond_false,Bool.true_or,Bool.or_true]);(try simp only [List.append_nil,List.nil_append,List.append_assoc]);try rfl)⟩
    refine w_skip ?_;exact zb () ⟨hm225,Bld.cast he222 (by (try simp only [capT,promT,hc226,cond_true,cond_false,Bool.true_or,Bool.or_true]);(try simp only [List.append_nil,List.nil_append,List.append_assoc]);try rfl)⟩
   rintro _ w194 ⟨hm195,hbl196⟩;refine w_region ?_;refine yS 1 ?_;refine zC (some 70) (cWS (t:=[120]) hm195 hbl196 (by have h1:=letB_len (pType (pieceAt B M.s1));have h2:=formI_len B (allL B S) M;have h3:=capT_len B M ((((([]++letB (pType (pieceAt B M.s1)))++formI B (allL B S) M)).length:Nat):Int);have h4:=promT_len M;have h5:=letB_len M.promo;have h6:=sgnI_len B S M;have h7:=bif_len ((pType (pieceAt B M.s1)==6)&&(((((([]++letB (pType (pieceAt B M.s1)))++formI B (allL B S) M)).length:Nat):Int)==0)) (fileB (sqFile M.s1));simp only [List.length_append,List.length_cons,List.length_nil,sqBytes] at*;omega)) ?_;rintro _ w258 ⟨rfl,hm259,hbl260⟩;refine ⟨_,rfl,?_⟩;refine ze ?_;exact zb () ⟨hm259,Bld.cast hbl260 (by (try simp only [capT,promT,hc193,cond_true,cond_false,Bool.true_or,Bool.or_true]);(try simp only [List.append_nil,List.nil_append,List.append_assoc]);try rfl)⟩
  refine w_skip ?_;exact zb () ⟨hm192,Bld.cast he189 (by (try simp only [capT,promT,hc193,cond_true,cond_false,Bool.true_or,Bool.or_true]);(try simp only [List.append_nil,List.nil_append,List.append_assoc]);try rfl)⟩
 rintro _ w161 ⟨hm162,hbl163⟩;have hf268:=At.on hm hm162;refine zw ?_;refine yL 5 m 9 ?_;refine zk (some 76) (c174 M.s2 (by first|exact hup.hs|exact hup.hs2)) ?_;intro w271 hm272;have he276:=Bld.on hbl163 hm272;have hm279:=zt hm162 hm272;refine zC (some 77) (cWS (t:=(sqBytes M.s2)) hm279 he276 (by have h1:=letB_len (pType (pieceAt B M.s1));have h2:=formI_len B (allL B S) M;have h3:=capT_len B M ((((([]++letB (pType (pieceAt B M.s1)))++formI B (allL B S) M)).length:Nat):Int);have h4:=promT_len M;have h5:=letB_len M.promo;have h6:=sgnI_len B S M;have h7:=bif_len ((pType (pieceAt B M.s1)==6)&&(((((([]++letB (pType (pieceAt B M.s1)))++formI B (allL B S) M)).length:Nat):Int)==0)) (fileB (sqFile M.s1));simp only [List.length_append,List.length_cons,List.length_nil,sqBytes] at*;omega)) ?_;rintro _ w280 ⟨rfl,hm281,hbl282⟩;refine ⟨_,rfl,?_⟩;have hf285:=At.on hm hm281;refine zz ?_;refine w_cut (γ:=Unit) (fun _=>[(1,pz p),(2,pz m),(8,pz b43)]) (fun _ w_=>Mod [] w w_∧Bld w.heap.size b43 ((((([]++letB (pType (pieceAt B M.s1)))++formI B (allL B S) M)++capT B M ((((([]++letB (pType (pieceAt B M.s1)))++formI B (allL B S) M)).length:Nat):Int))++sqBytes M.s2)++promT M) w_) ?_ ?_
 ·refine zw ?_;refine yL 5 m 10 ?_;refine zz ?_;refine yC (M.promo !=0) (fun hc291=>?_) fun hc291=>?_
  ·refine zw ?_;refine yS 1 ?_;refine zC (some 84) (cWS (t:=[61]) hm281 hbl282 (by have h1:=letB_len (pType (pieceAt B M.s1));have h2:=formI_len B (allL B S) M;have h3:=capT_len B M ((((([]++letB (pType (pieceAt B M.s1)))++formI B (allL B S) M)).length:Nat):Int);have h4:=promT_len M;have h5:=letB_len M.promo;have h6:=sgnI_len B S M;have h7:=bif_len ((pType (pieceAt B M.s1)==6)&&(((((([]++letB (pType (pieceAt B M.s1)))++formI B (allL B S) M)).length:Nat):Int)==0)) (fileB (sqFile M.s1));simp only [List.length_append,List.length_cons,List.length_nil,sqBytes] at*;omega)) ?_;rintro _ w292 ⟨rfl,hm293,hbl294⟩;refine ⟨_,rfl,?_⟩;have hf297:=At.on hm hm293;refine zz ?_;refine w_region ?_;refine yL 5 m 10 ?_;refine zk (some 90) (c184 M.promo) ?_;intro w300 hm301;have he305:=Bld.on hbl294 hm301;have hm308:=zt hm293 hm301;refine zC (some 91) (cWS (t:=(letB M.promo)) hm308 he305 (by have h1:=letB_len (pType (pieceAt B M.s1));have h2:=formI_len B (allL B S) M;have h3:=capT_len B M ((((([]++letB (pType (pieceAt B M.s1)))++formI B (allL B S) M)).length:Nat):Int);have h4:=promT_len M;have h5:=letB_len M.promo;have h6:=sgnI_len B S M;have h7:=bif_len ((pType (pieceAt B M.s1)==6)&&(((((([]++letB (pType (pieceAt B M.s1)))++formI B (allL B S) M)).length:Nat):Int)==0)) (fileB (sqFile M.s1));simp only [List.length_append,List.length_cons,List.length_nil,sqBytes] at*;omega)) ?_;rintro _ w309 ⟨rfl,hm310,hbl311⟩;refine ⟨_,rfl,?_⟩;refine ze ?_;exact zb () ⟨hm310,Bld.cast hbl311 (by (try simp only [capT,promT,hc291,cond_true,cond_false,Bool.true_or,Bool.or_true]);(try simp only [List.append_nil,List.nil_append,List.append_assoc]);try rfl)⟩
  refine w_skip ?_;exact zb () ⟨hm281,Bld.cast hbl282 (by (try simp only [capT,promT,hc291,cond_true,cond_false,Bool.true_or,Bool.or_true]);(try simp only [List.append_nil,List.nil_append,List.append_assoc]);try rfl)⟩
 rintro _ w288 ⟨hm289,hbl290⟩;have hf317:=At.on hp hm289;have hf318:=At.on hb hm289;have hf319:=At.on hm hm289;have hG320:=Glob.on hG hm289;refine zw ?_;refine yS 3 ?_;refine zk (some 95) (c182 (S:=S) (M:=M) hf317 hf318 hf319 hG320 hup) ?_;intro w322 hm323;have he327:=Bld.on hbl290 hm323;have hm330:=zt hm289 hm323;refine zC (some 96) (cWS (t:=(sgnI B S M)) hm330 he327 (by have h1:=letB_len (pType (pieceAt B M.s1));have h2:=formI_len B (allL B S) M;have h3:=capT_len B M ((((([]++letB (pType (pieceAt B M.s1)))++formI B (allL B S) M)).length:Nat):Int);have h4:=promT_len M;have h5:=letB_len M.promo;have h6:=sgnI_len B S M;have h7:=bif_len ((pType (pieceAt B M.s1)==6)&&(((((([]++letB (pType (pieceAt B M.s1)))++formI B (allL B S) M)).length:Nat):Int)==0)) (fileB (sqFile M.s1));simp only [List.length_append,List.length_cons,List.length_nil,sqBytes] at*;omega)) ?_;rintro _ w331 ⟨rfl,hm332,hbl333⟩;refine ⟨_,rfl,?_⟩;refine zx ?_;refine yS 1 ?_;refine zC (some 98) (cBS hm332 hbl333) ?_;rintro _ w339 ⟨rfl,hm340,hbl341⟩;refine ⟨_,rfl,?_⟩;refine yS 1 ?_;refine zz ?_;refine w_ret ?_;exact y1 (v:=.string (bstr (((((([]++letB (pType (pieceAt B M.s1)))++formI B (allL B S) M)++capT B M ((((([]++letB (pType (pieceAt B M.s1)))++formI B (allL B S) M)).length:Nat):Int))++sqBytes M.s2)++promT M)++(sgnI B S M)))) (⟨ret_str (by simp only [encI,bodyI,hc32,hc42,cond_false]),hm340⟩)
theorem c197{c:GC}{p b g cap:Nat}{S:Ps}{B:Bd}{w:World}(hp:At w p (.cells (psCells b (.slice (some ⟨g,0,none⟩) (allL B S).length cap) S) 110 (0,0)))(hc:Own w 0 98 11 (some ⟨g,0,none⟩) (allL B S).length cap (mvsL (allL B S)))(hb:At w b (.cells (bdCells B) 135 (0,0))){m:Nat}{pos:Value}{M:Mv}(hm:At w m (.cells (mvCells pos M) 98 (0,0)))(hG:Glob c w)(hlen:(allL B S).length≤222)(hpos:0<(allL B S).length)(hup:UpPre B S M):
  Calls Tryz.prog 197 [.agg (#[]),pz p,pz m].toArray w (fun e w'=>e=.returned (.string (bstr (lanI B S M)))∧Mod [] w w'):=by
 refine enter (n:=77) Tryz.func197 rfl Tryz.ntmps197 rfl ?_;refine zw ?_;refine zA (#[]) 90 (some 3) ?_;intro b1 w2 hn3;refine yS 1 ?_;refine zx ?_;refine yS 2 ?_;refine zk (some 15) (c182 (S:=S) (M:=M) (yA w2 p) (yA w2 b) (yA w2 m) (yG w2) hup) ?_;intro w14 hm15;refine yS 1 ?_;refine zz ?_;refine w_seq ?_;refine zw ?_;refine yS 1 ?_;refine zk (some 17) (c74 (yA w14 m) 1) ?_;intro w23 hm24;refine zz ?_;refine zc (fun hc32=>?_) fun hc32=>?_
 ·refine zw ?_;refine yO 3 [.prop (((⟨#[79,45,79]⟩:ByteArray).size+(bstr (sgnI B S M)).size:Nat)≤9223372036854775807)] (zh (by first|omega|assumption|exact wrapu8_pos _|exact wrapu_pos _|decide|(have e1:(⟨#[79,45,79]⟩:ByteArray).size=3:=rfl;have e2:(⟨#[79,45,79,45,79]⟩:ByteArray).size=5:=rfl;have e3:(⟨#[120]⟩:ByteArray).size=1:=rfl;have h1:=letB_len (pType (pieceAt B M.s1));have h2:=eqB_len M.promo;have h3:(capL M).length≤1:=(by unfold capL;cases (hasTag M 4||hasTag M 8)<;>simp);have h6:=sgnI_len B S M;simp only [ByteArray.size_append,bstr_size,List.length_append,List.length_cons,List.length_nil,sqBytes] at*;omega))) ?_;refine zz ?_;refine w_ret ?_;refine r_then ?_;exact y1 (⟨ret_str (by simp only [lanI,hc32,cond_true];exact bstr_append [79,45,79] _),yt⟩)
 refine zw ?_;refine yS 1 ?_;refine zk (some 21) (c74 (yA w23 m) 2) ?_;intro w33 hm34;refine zz ?_;refine zc (fun hc42=>?_) fun hc42=>?_
 ·refine zw ?_;refine yO 3 [.prop (((⟨#[79,45,79,45,79]⟩:ByteArray).size+(bstr (sgnI B S M)).size:Nat)≤9223372036854775807)] (zh (by first|omega|assumption|exact wrapu8_pos _|exact wrapu_pos _|decide|(have e1:(⟨#[79,45,79]⟩:ByteArray).size=3:=rfl;have e2:(⟨#[79,45,79,45,79]⟩:ByteArray).size=5:=rfl;have e3:(⟨#[120]⟩:ByteArray).size=1:=rfl;have h1:=letB_len (pType (pieceAt B M.s1));have h2:=eqB_len M.promo;have h3:(capL M).length≤1:=(by unfold capL;cases (hasTag M 4||hasTag M 8)<;>simp);have h6:=sgnI_len B S M;simp only [ByteArray.size_append,bstr_size,List.length_append,List.length_cons,List.length_nil,sqBytes] at*;omega))) ?_;refine zz ?_;refine w_ret ?_;refine r_then ?_;exact y1 (v:=.string ((⟨#[79,45,79,45,79]⟩:ByteArray)++(bstr (sgnI B S M)))) (⟨ret_str (by simp only [lanI,hc32,hc42,cond_true,cond_false];exact bstr_append [79,45,79,45,79] _),yt⟩)
 refine w_skip ?_;refine zn ?_;refine yS 1 ?_;refine zk (some 25) (c62 (yA w33 p)) ?_;intro w43 hm44;refine yS 1 ?_;refine zk (some 27) (c58 (yA w43 m)) ?_;intro w52 hm53;refine zk (some 28) (c72 (yA w52 b) (yG w52) M.s1) ?_;intro w61 hm62;refine yS 1 ?_;refine zx ?_;refine yS 1 ?_;refine zk (some 30) (c73 (pieceAt B M.s1) w61) ?_;intro w70 hm71;refine zk (some 31) (c184 (pType (pieceAt B M.s1))) ?_;intro w79 hm80;refine yS 1 ?_;refine zx ?_;refine yL 4 m 8 ?_;refine zk (some 36) (c174 M.s1 (by first|exact hup.hs|exact hup.hs2)) ?_;intro w88 hm89;refine yS 1 ?_;refine zx ?_;refine yS 1 ?_;refine zz ?_;refine w_cut (γ:=ByteArray) (fun g97=>[(2,pz m),(7,.string (bstr (sgnI B S M))),(9,.string (bstr (letB (pType (pieceAt B M.s1))))),(10,.string (bstr (sqBytes M.s1))),(11,.string g97)]) (fun g97 w_=>Mod [] w88 w_∧g97=(bstr (capL M))) ?_ ?_
 ·refine w_cut (γ:=Unit) (fun _=>[(2,pz m),(7,.string (bstr (sgnI B S M))),(8,.int .i8 (pieceAt B M.s1)),(9,.string (bstr (letB (pType (pieceAt B M.s1))))),(10,.string (bstr (sqBytes M.s1))),(11,.string (⟨#[]⟩)),(42,.bool ((hasTag M 4)||(hasTag M 8)))]) (fun _ w_=>Mod [] w88 w_) ?_ ?_
  ·refine w_region ?_;refine yS 1 ?_;refine zk (some 38) (c74 (yA w88 m) 4) ?_;intro w104 hm105;refine yS 1 ?_;refine yE 39 (.bool (hasTag M (4:Int))) ?_;cases hc114:(hasTag M (4:Int))
   ·refine yS 1 ?_;refine zk (some 41) (c74 (yA w104 m) 8) ?_;intro w115 hm116;refine yS 1 ?_;refine ze ?_;exact zb () yt
   refine yS 3 ?_;refine ze ?_;exact zb () yt
  intro _ w101 hm102;refine yC ((hasTag M 4)||(hasTag M 8)) (fun hc133=>?_) fun hc133=>?_
  ·refine zw ?_;refine yS 1 ?_;refine zz ?_;refine w_cut (γ:=Unit) (fun _=>[(2,pz m),(7,.string (bstr (sgnI B S M))),(9,.string (bstr (letB (pType (pieceAt B M.s1))))),(10,.string (bstr (sqBytes M.s1))),(11,.string (⟨#[120]⟩)),(49,.bool (((pType (pieceAt B M.s1))==6)&&((bstr (sqBytes M.s1)).toList==(⟨#[]⟩:ByteArray).toList)))]) (fun _ w_=>Mod [] w101 w_) ?_ ?_
   ·refine w_region ?_;refine yS 1 ?_;refine zk (some 44) (c73 (pieceAt B M.s1) w101) ?_;intro w137 hm138;refine yS 2 ?_;refine yE 46 (.bool ((pType (pieceAt B M.s1))==(6:Int))) ?_;cases hc147:((pType (pieceAt B M.s1))==(6:Int))
    ·refine yS 3 ?_;refine ze ?_;exact zb () yt
    refine yS 3 ?_;refine ze ?_;exact zb () yt
   intro _ w134 hm135;have hc156:(((pType (pieceAt B M.s1))==6)&&((bstr (sqBytes M.s1)).toList==(⟨#[]⟩:ByteArray).toList))=false:=(by rw [bstr_toList,nil_toList,show ((sqBytes M.s1)==([]:List UInt8))=false from rfl,Bool.and_false]);refine w_cond (b:=(((pType (pieceAt B M.s1))==6)&&((bstr (sqBytes M.s1)).toList==(⟨#[]⟩:ByteArray).toList))) (by kernel_rfl) (fun hx=>absurd (hc156.symm.trans hx) (by decide)) (fun _=>?_);refine w_skip ?_;exact zb (⟨#[120]⟩) ⟨yt,(by simp only [capL,hc133,hc156,cond_true,cond_false];rfl)⟩
  refine w_skip ?_;exact zb (⟨#[]⟩) ⟨yt,(by simp only [capL,hc133,cond_true,cond_false];rfl)⟩
 rintro _ w98 ⟨hm99,rfl⟩;refine zw ?_;refine yL 4 m 10 ?_;refine zk (some 61) (c199 M.promo) ?_;intro w164 hm165;refine yS 1 ?_;refine zx ?_;refine yO 9 [.prop (((bstr (letB (pType (pieceAt B M.s1)))).size+(bstr (sqBytes M.s1)).size:Nat)≤9223372036854775807),.prop ((((bstr (letB (pType (pieceAt B M.s1))))++(bstr (sqBytes M.s1))).size+(bstr (capL M)).size:Nat)≤9223372036854775807),.cell ⟨m,9,none⟩ (.int .i8 M.s2)] (⟨(zh (by first|omega|assumption|exact wrapu8_pos _|exact wrapu_pos _|decide|(have e1:(⟨#[79,45,79]⟩:ByteArray).size=3:=rfl;have e2:(⟨#[79,45,79,45,79]⟩:ByteArray).size=5:=rfl;have e3:(⟨#[120]⟩:ByteArray).size=1:=rfl;have h1:=letB_len (pType (pieceAt B M.s1));have h2:=eqB_len M.promo;have h3:(capL M).length≤1:=(by unfold capL;cases (hasTag M 4||hasTag M 8)<;>simp);have h6:=sgnI_len B S M;simp only [ByteArray.size_append,bstr_size,List.length_append,List.length_cons,List.length_nil,sqBytes] at*;omega))),(zh (by first|omega|assumption|exact wrapu8_pos _|exact wrapu_pos _|decide|(have e1:(⟨#[79,45,79]⟩:ByteArray).size=3:=rfl;have e2:(⟨#[79,45,79,45,79]⟩:ByteArray).size=5:=rfl;have e3:(⟨#[120]⟩:ByteArray).size=1:=rfl;have h1:=letB_len (pType (pieceAt B M.s1));have h2:=eqB_len M.promo;have h3:(capL M).length≤1:=(by unfold capL;cases (hasTag M 4||hasTag M 8)<;>simp);have h6:=sgnI_len B S M;simp only [ByteArray.size_append,bstr_size,List.length_append,List.length_cons,List.length_nil,sqBytes] at*;omega))),yc rfl⟩) ?_;refine zk (some 71) (c174 M.s2 (by first|exact hup.hs|exact hup.hs2)) ?_;intro w173 hm174;refine yO 6 [.prop (((((bstr (letB (pType (pieceAt B M.s1))))++(bstr (sqBytes M.s1)))++(bstr (capL M))).size+(bstr (sqBytes M.s2)).size:Nat)≤9223372036854775807),.prop ((((((bstr (letB (pType (pieceAt B M.s1))))++(bstr (sqBytes M.s1)))++(bstr (capL M)))++(bstr (sqBytes M.s2))).size+(bstr (eqB (letB M.promo))).size:Nat)≤9223372036854775807),.prop (((((((bstr (letB (pType (pieceAt B M.s1))))++(bstr (sqBytes M.s1)))++(bstr (capL M)))++(bstr (sqBytes M.s2)))++(bstr (eqB (letB M.promo)))).size+(bstr (sgnI B S M)).size:Nat)≤9223372036854775807)] (⟨(zh (by first|omega|assumption|exact wrapu8_pos _|exact wrapu_pos _|decide|(have e1:(⟨#[79,45,79]⟩:ByteArray).size=3:=rfl;have e2:(⟨#[79,45,79,45,79]⟩:ByteArray).size=5:=rfl;have e3:(⟨#[120]⟩:ByteArray).size=1:=rfl;have h1:=letB_len (pType (pieceAt B M.s1));have h2:=eqB_len M.promo;have h3:(capL M).length≤1:=(by unfold capL;cases (hasTag M 4||hasTag M 8)<;>simp);have h6:=sgnI_len B S M;simp only [ByteArray.size_append,bstr_size,List.length_append,List.length_cons,List.length_nil,sqBytes] at*;omega))),(zh (by first|omega|assumption|exact wrapu8_pos _|exact wrapu_pos _|decide|(have e1:(⟨#[79,45,79]⟩:ByteArray).size=3:=rfl;have e2:(⟨#[79,45,79,45,79]⟩:ByteArray).size=5:=rfl;have e3:(⟨#[120]⟩:ByteArray).size=1:=rfl;have h1:=letB_len (pType (pieceAt B M.s1));have h2:=eqB_len M.promo;have h3:(capL M).length≤1:=(by unfold capL;cases (hasTag M 4||hasTag M 8)<;>simp);have h6:=sgnI_len B S M;simp only [ByteArray.size_append,bstr_size,List.length_append,List.length_cons,List.length_nil,sqBytes] at*;omega))),(zh (by first|omega|assumption|exact wrapu8_pos _|exact wrapu_pos _|decide|(have e1:(⟨#[79,45,79]⟩:ByteArray).size=3:=rfl;have e2:(⟨#[79,45,79,45,79]⟩:ByteArray).size=5:=rfl;have e3:(⟨#[120]⟩:ByteArray).size=1:=rfl;have h1:=letB_len (pType (pieceAt B M.s1));have h2:=eqB_len M.promo;have h3:(capL M).length≤1:=(by unfold capL;cases (hasTag M 4||hasTag M 8)<;>simp);have h6:=sgnI_len B S M;simp only [ByteArray.size_append,bstr_size,List.length_append,List.length_cons,List.length_nil,sqBytes] at*;omega)))⟩) ?_
 refine zz ?_;refine w_ret ?_;exact y1 (v:=.string ((((((bstr (letB (pType (pieceAt B M.s1))))++(bstr (sqBytes M.s1)))++(bstr (capL M)))++(bstr (sqBytes M.s2)))++(bstr (eqB (letB M.promo))))++(bstr (sgnI B S M)))) (⟨ret_str (by simp only [lanI,hc32,hc42,cond_false,bstr_append]),yt⟩)
end Go.Proofs.YtgnhellfhjoaaaaGreatDoor
