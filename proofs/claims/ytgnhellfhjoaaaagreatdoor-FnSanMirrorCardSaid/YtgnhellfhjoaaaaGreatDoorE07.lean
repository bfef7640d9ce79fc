/-
  FnSanMirror: what is written and read of a legal move is the same in the position seen from the other side, seen so (a part of the proof).
  Conditions: those of each theorem.
-/
import Derived.Test.YtgnhellfhjoaaaaGreatDoorE01
import Derived.Test.YtgnhellfhjoaaaaGreatDoorE05
import Derived.Test.YtgnhellfhjoaaaaGreatDoorE06
set_option linter.unusedVariables false
set_option linter.unusedSimpArgs false
namespace Go.Proofs.YtgnhellfhjoaaaaGreatDoor
open Go Go.RowKit
set_option maxRecDepth 100000
theorem any_key{P:SP}(hV:ValidS P)(g:Sm->Bool)(g':Mv->Bool)(h:∀N∈allL (boardOf P.bd) (psOf P),g' N=g (keyM N)):(allL (boardOf P.bd) (psOf P)).any g'=legAny P g:=by
 unfold legAny;rw [Bool.eq_iff_iff,List.any_eq_true,List.any_eq_true];constructor
 · rintro ⟨N,hN,hg⟩;obtain ⟨a,b⟩:=(allL_iff hV (keyM N)).1 ⟨N,hN,rfl,rfl,rfl⟩;exact ⟨keyM N,a,by rw [b,←h N hN,hg];rfl⟩
 rintro ⟨x,hx,hg⟩;rw [Bool.and_eq_true] at hg;obtain ⟨N,hN,e1,e2,e3⟩:=(allL_iff hV x).2 ⟨hx,hg.1⟩;have:keyM N=x:=by unfold keyM;rw [e1,e2,e3]
 exact ⟨N,hN,by rw [h N hN,this];exact hg.2⟩
theorem sqFile_eq{s:Int}(h:0<=s):sqFile s=s%8:=Int.tmod_eq_emod_of_nonneg h
theorem sqRank_eq{s:Int}(h:0<=s/\s<=63):sqRank s=s/8:=by
 have:=sqRank_nat s.toNat (by omega);rw [show ((s.toNat:Nat):Int)=s by omega] at this;rw [this];omega
theorem fB_eq{s:Int}(h:0<=s/\s<=63):fileB (sqFile s)=fB s/\rankB (sqRank s)=rB s:=by
 rw [sqFile_eq h.1,sqRank_eq h];exact ⟨rfl,rfl⟩
section
variable{P:SP}{m:Sm}{M:Mv}
theorem oth_key(hV:ValidS P)(h:LegM P m)(hT:TagM P m M){N:Mv}(hN:N∈allL (boardOf P.bd) (psOf P)):
  othI (boardOf P.bd) M N=othS P.bd m.f m.t (keyM N)/\filI (boardOf P.bd) M N=filS P.bd m.f m.t (keyM N)/\rnkI (boardOf P.bd) M N=rnkS P.bd m.f m.t (keyM N):=by
 obtain ⟨n,hn,hTn⟩:=tag_all hV hN;have hf:=(h.ok hV).f;have hfn:=(hn.ok hV).f;have e:othI (boardOf P.bd) M N=othS P.bd m.f m.t (keyM N):=by
  unfold othI othS skpS keyM;rw [at_f hV h hT,at_f hV hn hTn,hT.s1,hT.s2,hTn.s1,hTn.s2,Bool.eq_iff_iff];simp only [Bool.and_eq_true,bne_iff_ne,beq_iff_eq,Bool.not_eq_true',Bool.or_eq_false_iff,bne_eq_false_iff_eq,beq_eq_false_iff_ne];exact ⟨λ⟨⟨a,b⟩,c⟩=>⟨⟨b,a⟩,c.symm⟩,λ⟨⟨b,a⟩,c⟩=>⟨⟨a,b⟩,c.symm⟩⟩
 refine ⟨e,?_,?_⟩
 · unfold filI filS;rw [e];show (_&&(sqFile N.s1==sqFile M.s1))=(_&&(N.s1%8==m.f%8));rw [hT.s1,hTn.s1,sqFile_eq hf.1,sqFile_eq hfn.1]
 unfold rnkI rnkS;rw [e];show (_&&(sqRank N.s1==sqRank M.s1))=(_&&(N.s1/8==m.f/8));rw [hT.s1,hTn.s1,sqRank_eq hf,sqRank_eq hfn]
theorem legAny_mono{P:SP}{g g':Sm->Bool}(h:∀x,g x=true->g' x=true)(hn:legAny P g'=false):legAny P g=false:=by
 rw [Bool.eq_false_iff] at hn⊢;intro hg;apply hn;unfold legAny at hg⊢;obtain ⟨x,hx,hh⟩:=List.any_eq_true.1 hg;rw [Bool.and_eq_true] at hh;exact List.any_eq_true.2 ⟨x,hx,by rw [hh.1,h x hh.2];rfl⟩
theorem text_form(hV:ValidS P)(h:LegM P m)(hT:TagM P m M)(h6:kindOf (P.bd m.f.toNat)≠6):formI (boardOf P.bd) (allL (boardOf P.bd) (psOf P)) M=apartS P m.f m.t:=by
 have hf:=(h.ok hV).f;have o:=any_key hV (othS P.bd m.f m.t) (othI (boardOf P.bd) M) λN hN=>(oth_key hV h hT hN).1;have f:=any_key hV (filS P.bd m.f m.t) (filI (boardOf P.bd) M) λN hN=>(oth_key hV h hT hN).2.1;have r:=any_key hV (rnkS P.bd m.f m.t) (rnkI (boardOf P.bd) M) λN hN=>(oth_key hV h hT hN).2.2;have hf0:legAny P (othS P.bd m.f m.t)=false->legAny P (filS P.bd m.f m.t)=false:=legAny_mono λx hx=>by unfold filS at hx;rw [Bool.and_eq_true] at hx;exact hx.1
 have hr0:legAny P (othS P.bd m.f m.t)=false->legAny P (rnkS P.bd m.f m.t)=false:=legAny_mono λx hx=>by unfold rnkS at hx;rw [Bool.and_eq_true] at hx;exact hx.1
 unfold formI apartS;rw [type_f hV h hT,beq_eq_false_iff_ne.2 h6,o,f,r,hT.s1,(fB_eq hf).1,(fB_eq hf).2];simp only [cond_false];cases h1:legAny P (othS P.bd m.f m.t)
 · rw [hf0 h1,hr0 h1];rfl
 cases legAny P (filS P.bd m.f m.t)<;>cases legAny P (rnkS P.bd m.f m.t)<;>rfl
theorem leg_promo(h:LegM P m)(h6:kindOf (P.bd m.f.toNat)≠6):m.p=0:=by
 cases h with
 |std f t p h ho=>exact h.1.pr.elim id λhh=>absurd hh.1 h6
 |cast r h hM=>rfl
theorem tag_cap(hT:TagM P m M):(hasTag M 4||hasTag M 8)=takesI P.bd m.f m.t:=by rw [tag4,tag8];exact hT.cap
theorem text_body(hV:ValidS P)(h:LegM P m)(hT:TagM P m M):bodyI (boardOf P.bd) (allL (boardOf P.bd) (psOf P)) M=bodyS P m.f m.t m.p:=by
 have hs:=h.ok hV;have hpt:=type_f hV h hT;unfold bodyI bodyS;rw [tag1,tag2,hT.t0,hT.t1];cases castI P.bd m.f m.t==1
 · cases castI P.bd m.f m.t==2
   · simp only [cond_false];by_cases h6:kindOf (P.bd m.f.toNat)=6
     · have hform:formI (boardOf P.bd) (allL (boardOf P.bd) (psOf P)) M=[]:=by unfold formI;rw [hpt,h6];rfl
       rw [hform];unfold capT promT promS;rw [hpt,h6,hT.pr,hT.s1,hT.s2,tag_cap hT,sqBytes_eq hs.t,(fB_eq hs.f).1];cases takesI P.bd m.f m.t<;>by_cases hp:m.p=0
       · rw [hp];rfl
       · rw [bne_iff_ne.2 hp,beq_eq_false_iff_ne.2 hp];rfl
       · rw [hp];rfl
       rw [bne_iff_ne.2 hp,beq_eq_false_iff_ne.2 hp];rfl
     rw [text_form hV h hT h6];unfold capT promT takT;rw [hpt,hT.pr,hT.s2,tag_cap hT,sqBytes_eq hs.t,beq_eq_false_iff_ne.2 h6,leg_promo h h6];cases takesI P.bd m.f m.t<;>simp
   rfl
 rfl
theorem text_lan(hV:ValidS P)(h:LegM P m)(hT:TagM P m M)(ht:Told P m):lanI (boardOf P.bd) (psOf P) M=lanS P m.f m.t m.p:=by
 have hs:=h.ok hV;have hsg:=text_sgn hV h hT ht;have hc:castI P.bd m.f m.t=0\/castI P.bd m.f m.t=1\/castI P.bd m.f m.t=2:=by
  unfold castI;cases (kindOf (P.bd m.f.toNat) !=(1:Int))<;>cases (m.t-m.f==(2:Int))<;>cases (m.t-m.f==(-2:Int))<;>simp
 unfold lanI lanS bodyS;rw [tag1,tag2,hT.t0,hT.t1,hsg];rcases hc with e|e|e<;>rw [e]
 · simp only [show ((0:Int)==1)=false from rfl,show ((0:Int)==2)=false from rfl,cond_false,show decide ((0:Int)>0)=false from rfl];unfold capL takT promS eqB;rw [type_f hV h hT,hT.pr,hT.s1,hT.s2,tag_cap hT,sqBytes_eq hs.t,sqBytes_eq hs.f];congr 2;have hp:=hs.p;rcases (by omega:m.p=0\/m.p=2\/m.p=3\/m.p=4\/m.p=5) with e|e|e|e|e<;>rw [e]<;>rfl
 · rfl
 rfl
theorem text_san(hV:ValidS P)(h:LegM P m)(hT:TagM P m M)(ht:Told P m):encI (boardOf P.bd) (psOf P) (allL (boardOf P.bd) (psOf P)) M=bodyS P m.f m.t m.p++sgnS P m.f m.t m.p:=by
 unfold encI;rw [text_body hV h hT,text_sgn hV h hT ht]
end
open Go.Proofs.Tryz
def oneI(l:List UInt8)(at_:Int)(set:List UInt8):Int:=if at_<(l.length:Int) then (if l.getD at_.toNat 0∈set then 1 else 0) else 0
theorem oneI_rng(l:List UInt8)(at_:Int)(set:List UInt8):0<=oneI l at_ set/\oneI l at_ set<=1:=by
  unfold oneI;split
  · split<;>decide
  · decide
theorem byteAt_strY(l:List UInt8)(i:Nat)(b:UInt8)(h:l[i]?=some b):byteAt ⟨l.toArray⟩ (i:Int)=b.toNat:=by
 unfold byteAt;have h2:(⟨l.toArray⟩:ByteArray)[((i:Int)).toNat]?=some b:=by
  have hl:i<l.length:=by
   refine Classical.byContradiction λhh=>?_;rw [List.getElem?_eq_none (by omega)] at h;cases h
  have hl2:((i:Int)).toNat<(⟨l.toArray⟩:ByteArray).size:=by show _<l.toArray.size;simp;omega
  rw [getElem?_pos (⟨l.toArray⟩:ByteArray) ((i:Int)).toNat hl2];rw [List.getElem?_eq_getElem hl] at h;rw [←h];rfl
 rw [h2]
theorem byteAt_b{l:List UInt8}{i:Int}(h0:0<=i)(h1:i<(l.length:Int)):byteAt (bstr l) i=((l.getD i.toNat 0).toNat:Int):=by
  obtain ⟨n,rfl⟩:∃n:Nat,i=n:=⟨i.toNat,by omega⟩;have hl:n<l.length:=by omega
  rw [show bstr l=⟨l.toArray⟩ from rfl,byteAt_strY l n (l.getD n 0) (by rw [List.getD_eq_getElem?_getD,List.getElem?_eq_getElem hl];rfl),Int.toNat_natCast]
theorem one_yes{l set:List UInt8}{at_ g:Int}(h0:0<=at_)(h1:at_<((bstr l).size:Int))(g0:0<=g)(g1:g<((bstr set).size:Int))(h:(byteAt (bstr l) at_==byteAt (bstr set) g)=true):oneI l at_ set=1:=by
  rw [bstr_size] at h1 g1;rw [byteAt_b h0 h1,byteAt_b g0 g1,beq_iff_eq] at h;have e:l.getD at_.toNat 0=set.getD g.toNat 0:=UInt8.toNat_inj.1 (by omega);unfold oneI;rw [if_pos h1,e,if_pos];have hl:g.toNat<set.length:=by omega
  rw [List.getD_eq_getElem?_getD,List.getElem?_eq_getElem hl];exact List.getElem_mem hl
theorem one_no{l set:List UInt8}{at_:Int}(h0:0<=at_)(h1:at_<((bstr l).size:Int))(h:∀j:Int,0<=j->j<((bstr set).size:Int)->(byteAt (bstr l) at_==byteAt (bstr set) j)=false):oneI l at_ set=0:=by
  rw [bstr_size] at h1;unfold oneI;rw [if_pos h1,if_neg];intro hm;obtain ⟨i,hi,e⟩:=List.getElem_of_mem hm;have:=h (i:Int) (by omega) (by rw [bstr_size];omega);rw [byteAt_b h0 h1,byteAt_b (by omega) (by omega),beq_eq_false_iff_ne] at this;apply this;rw [Int.toNat_natCast,List.getD_eq_getElem?_getD (l:=set),List.getElem?_eq_getElem hi,e];rfl
theorem one_out{l set:List UInt8}{at_:Int}(h1:¬at_<((bstr l).size:Int)):oneI l at_ set=0:=by
  rw [bstr_size] at h1;unfold oneI;rw [if_neg h1]
def tailB:List UInt8->Bool
  |[]=>true
  |c::r=>if c=43\/c=35\/c=33\/c=63 then tailB r else if (c::r).take 4=[101,46,112,46] then tailB (r.drop 3) else false
termination_by l=>l.length
decreasing_by all_goals (simp;try omega)
theorem tail_nil{l:List UInt8}{g:Int}(h:¬g<((bstr l).size:Int)):tailB (l.drop g.toNat)=true:=by
  rw [bstr_size] at h;rw [List.drop_eq_nil_of_le (by omega),tailB]
theorem tail_cons{l:List UInt8}{g:Int}(h0:0<=g)(h1:g<(l.length:Int)):l.drop g.toNat=l.getD g.toNat 0::l.drop (g+1).toNat:=by
  have hl:g.toNat<l.length:=by omega
  rw [List.drop_eq_getElem_cons hl,show (g+1).toNat=g.toNat+1 by omega,List.getD_eq_getElem?_getD,List.getElem?_eq_getElem hl];rfl
theorem tail_plus{l:List UInt8}{g:Int}(h0:0<=g)(h1:g<((bstr l).size:Int))(h:(((((byteAt (bstr l) g)==43)||((byteAt (bstr l) g)==35))||((byteAt (bstr l) g)==33))||((byteAt (bstr l) g)==63))=true):tailB (l.drop g.toNat)=tailB (l.drop (g+1).toNat):=by
  rw [bstr_size] at h1;rw [tail_cons h0 h1,tailB,if_pos];rw [byteAt_b h0 h1] at h;simp only [Bool.or_eq_true,beq_iff_eq] at h;have key:∀n:Nat,n<256->((l.getD g.toNat 0).toNat:Int)=(n:Int)->l.getD g.toNat 0=UInt8.ofNat n:=λn hn e=>UInt8.toNat_inj.1 (by rw [UInt8.toNat_ofNat'];omega);rcases h with ((h|h)|h)|h
  · exact Or.inl (key 43 (by decide) h)
  · exact Or.inr (Or.inl (key 35 (by decide) h))
  · exact Or.inr (Or.inr (Or.inl (key 33 (by decide) h)))
  · exact Or.inr (Or.inr (Or.inr (key 63 (by decide) h)))
theorem tail_not{l:List UInt8}{g:Int}(h0:0<=g)(h1:g<(l.length:Int))(h:(((((byteAt (bstr l) g)==43)||((byteAt (bstr l) g)==35))||((byteAt (bstr l) g)==33))||((byteAt (bstr l) g)==63))=false):
    ¬(l.getD g.toNat 0=43\/l.getD g.toNat 0=35\/l.getD g.toNat 0=33\/l.getD g.toNat 0=63):=by
  rw [byteAt_b h0 h1] at h;simp only [Bool.or_eq_false_iff,beq_eq_false_iff_ne,ne_eq] at h;obtain ⟨⟨⟨a,b⟩,c⟩,d⟩:=h;rintro (e|e|e|e)<;>rw [e] at a b c d
  · exact a rfl
  · exact b rfl
  · exact c rfl
  · exact d rfl
theorem tail_ext{l:List UInt8}{g:Int}(h0:0<=g)(h4:g+4<=(l.length:Int)):((bstr l).extract g.toNat (g+4).toNat).toList=(l.drop g.toNat).take 4:=by
  rw [ByteArray.toList_eq,Lib.extract_data];show (l.toArray.toList.drop g.toNat).take _=_;rw [show (g+4).toNat-g.toNat=4 by omega]
theorem ep_list:(⟨#[101,46,112,46]⟩:ByteArray).toList=[101,46,112,46]:=bstr_toList [101,46,112,46]
theorem tail_ep{l:List UInt8}{g:Int}(h0:0<=g)(h1:g<((bstr l).size:Int))(h:(((((byteAt (bstr l) g)==43)||((byteAt (bstr l) g)==35))||((byteAt (bstr l) g)==33))||((byteAt (bstr l) g)==63))=false)
    (h4:g+4<=((bstr l).size:Int))(he:(((bstr l).extract g.toNat (g+4).toNat).toList==(⟨#[101,46,112,46]⟩:ByteArray).toList)=true):tailB (l.drop g.toNat)=tailB (l.drop (g+4).toNat):=by
  rw [bstr_size] at h1 h4;rw [tail_ext h0 h4,ep_list,beq_iff_eq] at he;have hn:=tail_not h0 h1 h;rw [tail_cons h0 h1] at he⊢;rw [tailB,if_neg hn,if_pos he,List.drop_drop,show (g+1).toNat+3=(g+4).toNat by omega]
theorem tail_none{l:List UInt8}{g:Int}(h0:0<=g)(h1:g<((bstr l).size:Int))(h:(((((byteAt (bstr l) g)==43)||((byteAt (bstr l) g)==35))||((byteAt (bstr l) g)==33))||((byteAt (bstr l) g)==63))=false)
    (he:(decide (g+4<=((bstr l).size:Int))&&(((bstr l).extract g.toNat (g+4).toNat).toList==(⟨#[101,46,112,46]⟩:ByteArray).toList))=false):tailB (l.drop g.toNat)=false:=by
  rw [bstr_size] at h1 he;have hn:=tail_not h0 h1 h;have hl:(l.drop g.toNat).take 4≠[101,46,112,46]:=by
    intro e;have h4:g+4<=(l.length:Int):=by have:=congrArg List.length e;simp at this;omega
    rw [tail_ext h0 h4,ep_list,e] at he;rw [show decide (g+4<=(l.length:Int))=true by simpa using h4] at he;simp at he
  rw [tail_cons h0 h1] at hl⊢;rw [tailB,if_neg hn,if_neg hl]
theorem and_snd{a b:Bool}(h:(a&&b)=true):b=true:=by revert h;cases a<;>cases b<;>decide
theorem c193{t:Nat}{w:World}{l:List UInt8}(ht:At w t (.cells #[.string (bstr l)] 9 (0,0)))(at_:Int)(set:List UInt8)(h0:0<=at_)(hl:l.length<=1000000)(hs:set.length<=1000000):
    CR 193 [.int .i64 at_,.string (bstr set),.pointer (some ⟨t,0,none⟩)] w (.int .i64 (oneI l at_ set)):=by
  have hsl:=bstr_size l;have hss:=bstr_size set;refine en func193 ntmps193 ?_;refine w_seq<|w_region<|yS 1<|zz<|w_seq<|w_seq<|w_region<|yL 4 t 0<|zz<|w_cond (b:=(decide (at_<(((bstr l).size:Nat):Int)))) (by kernel_rfl) (λhc1=>?_) (λhc1=>?_)
  · skip
    have dhc1:=of_decide_eq_true hc1;refine w_seq<|w_region<|yS 1<|zz<|w_block<|yP (γ:=Int) (λg2=>(((bstr set).size:Int)-g2).toNat) (λ(g2:Int)=>[(0,.int .i64 at_),(1,.string (bstr set)),(2,.pointer (some ⟨t,0,none⟩)),(6,.int .i64 g2)]) (λ(g2:Int) w_=>(0<=g2/\g2<=((bstr set).size:Int))/\Mod [] w w_/\(∀i:Int,0<=i->i<g2->((byteAt (bstr l) at_)==(byteAt (bstr set) i))=false)) 0 ⟨by omega,Mod.refl _ _,(λi h0 h1=>absurd h1 (by omega))⟩ ?_;rintro g2 w3 ⟨⟨h5,h6⟩,hm4,hx7⟩;refine w_seq<|w_seq<|w_region<|yS 4<|zz<|w_cond (b:=(decide (g2<(((bstr set).size:Nat):Int)))) (by kernel_rfl) (λhc11=>?_) (λhc11=>?_)
    · skip
      have dhc11:=of_decide_eq_true hc11;refine w_skip<|n_then<|w_seq<|w_block<|w_seq<|w_qt<|yQv 7 [.cell ⟨t,0,none⟩ (.string (bstr l)),.prop (0<=at_/\∃b,(bstr l)[at_.toNat]?=some b/\(byteAt (bstr l) at_)=b.toNat),.prop (0<=g2/\∃b,(bstr set)[g2.toNat]?=some b/\(byteAt (bstr set) g2)=b.toNat)] [.string (bstr l),.int .u8 (byteAt (bstr l) at_),.int .u8 (byteAt (bstr set) g2)] (λ_ hC=>⟨At.cell (At.on ya hC) rfl,(byteAt_ok (by omega) (by omega)),(byteAt_ok (by omega) (by omega))⟩)<|q_ot fun w12 hm13=>n_then<|w_cond (b:=((byteAt (bstr l) at_)==(byteAt (bstr set) g2))) (by kernel_rfl) (λhc18=>?_) (λhc18=>?_)
      · skip
        have dhc18:=eq_of_beq hc18;exact w_seq<|w_region<|yS 1<|zz<|w_ret<|r_block<|r_then<|r_then<|r_block<|r_then<|y1 (v:=.int .i64 1) (⟨ret_int (one_yes h0 (by omega) (by omega) (by omega) hc18).symm,yt⟩)
      · skip
        have dhc18:=ne_of_beq_false hc18;exact w_skip<|n_block<|n_then<|w_region<|yS 2<|yW 16 (zi (g2+1) (by omega) (by omega))<|yS 1<|ze<|zl (g2+1) ⟨by omega,yt,(forall_step hx7 hc18)⟩
    · skip
      have dhc11:=of_decide_eq_false hc11;exact w_exit<|x_then<|x_then<|x_hit<|n_then<|w_seq<|w_region<|yS 1<|zz<|w_ret<|y1 (v:=.int .i64 0) (⟨ret_int (one_no h0 (by omega) (λi h0 h1=>hx7 i h0 (by omega))).symm,yt⟩)
  · skip
    have dhc1:=of_decide_eq_false hc1;exact w_skip<|n_then<|w_seq<|w_region<|yS 1<|zz<|w_ret<|y1 (v:=.int .i64 0) (⟨ret_int (one_out (by omega)).symm,yt⟩)
theorem c194{w:World}(l:List UInt8)(at_:Int)(h0:0<=at_)(hat:at_<=1000000)(hl:l.length<=1000000):
    CR 194 [.string (bstr l),.int .i64 at_] w (.bool (tailB (l.drop at_.toNat))):=by
  have hsl:=bstr_size l;refine en func194 ntmps194 ?_;refine w_seq<|w_region<|yS 1<|zz<|w_seq<|w_block<|yP (γ:=Int) (λg1=>((bstr l).size-g1).toNat) (λg1=>[(0,.string (bstr l)),(1,.int .i64 g1)]) (λg1 w_=>0<=g1/\Mod [] w w_/\tailB (l.drop at_.toNat)=tailB (l.drop g1.toNat)) at_ ⟨h0,Mod.refl _ _,rfl⟩ ?_;rintro g1 w2 ⟨h4,hm3,hx6⟩;refine w_seq<|w_seq<|w_region<|yS 4<|zz<|w_cond (b:=(decide (g1<(((bstr l).size:Nat):Int)))) (by kernel_rfl) (λhc9=>?_) (λhc9=>?_)
  · skip
    have dhc9:=of_decide_eq_true hc9;refine w_skip<|n_then<|w_block<|w_block<|w_cut (γ:=Unit) (λ_=>[(0,.string (bstr l)),(1,.int .i64 g1),(9,.bool (((((byteAt (bstr l) g1)==43)||((byteAt (bstr l) g1)==35))||((byteAt (bstr l) g1)==33))||((byteAt (bstr l) g1)==63)))]) (λ_ w_=>Mod [] w2 w_) ?_ ?_
    · skip
      refine w_region<|yV 5 [.prop (0<=g1/\∃b,(bstr l)[g1.toNat]?=some b/\(byteAt (bstr l) g1)=b.toNat)] [.int .u8 (byteAt (bstr l) g1)] (byteAt_ok (by omega) (by omega))<|yE 14 (.bool ((byteAt (bstr l) g1)==43)) ?_;cases hc13:((byteAt (bstr l) g1)==43)
      · skip
        have dhc13:=hc13;simp only [zbq] at dhc13;refine yV 6 [.prop (0<=g1/\∃b,(bstr l)[g1.toNat]?=some b/\(byteAt (bstr l) g1)=b.toNat)] [.int .u8 (byteAt (bstr l) g1)] (byteAt_ok (by omega) (by omega))<|yE 20 (.bool ((byteAt (bstr l) g1)==35)) ?_;cases hc14:((byteAt (bstr l) g1)==35)
        · skip
          have dhc14:=hc14;simp only [zbq] at dhc14;refine yV 6 [.prop (0<=g1/\∃b,(bstr l)[g1.toNat]?=some b/\(byteAt (bstr l) g1)=b.toNat)] [.int .u8 (byteAt (bstr l) g1)] (byteAt_ok (by omega) (by omega))<|yE 26 (.bool ((byteAt (bstr l) g1)==33)) ?_;cases hc15:((byteAt (bstr l) g1)==33)
          · skip
            have dhc15:=hc15;simp only [zbq] at dhc15;exact yV 6 [.prop (0<=g1/\∃b,(bstr l)[g1.toNat]?=some b/\(byteAt (bstr l) g1)=b.toNat)] [.int .u8 (byteAt (bstr l) g1)] (byteAt_ok (by omega) (by omega))<|ze<|zb () yt
          · skip
            have dhc15:=hc15;simp only [zbq] at dhc15;exact yS 6<|ze<|zb () yt
        · skip
          have dhc14:=hc14;simp only [zbq] at dhc14;exact yS 12<|ze<|zb () yt
      · skip
        have dhc13:=hc13;simp only [zbq] at dhc13;exact yS 18<|ze<|zb () yt
    intro _ w10 hm11;refine w_cond (b:=(((((byteAt (bstr l) g1)==43)||((byteAt (bstr l) g1)==35))||((byteAt (bstr l) g1)==33))||((byteAt (bstr l) g1)==63))) (by kernel_rfl) (λhc19=>?_) (λhc19=>?_)
    · skip
      have dhc19:=hc19;simp only [zbq] at dhc19;exact w_region<|yS 2<|yW 33 (zi (g1+1) (by omega) (by omega))<|yS 1<|ze<|n_block<|n_block<|zl (g1+1) ⟨by omega,yt,hx6.trans (tail_plus h4 (by omega) hc19)⟩
    · skip
      have dhc19:=hc19;simp only [zbq] at dhc19;refine w_cut (γ:=Unit) (λ_=>[(0,.string (bstr l)),(1,.int .i64 g1),(34,.bool ((decide ((g1+4)<=(((bstr l).size:Nat):Int)))&&(((bstr l).extract g1.toNat (g1+4).toNat).toList==(⟨#[101,46,112,46]⟩:ByteArray).toList)))]) (λ_ w_=>Mod [] w10 w_) ?_ ?_
      · skip
        refine w_region<|yS 2<|yW 36 (zi (g1+4) (by omega) (by omega))<|yS 4<|yE 40 (.bool (decide ((g1+4)<=(((bstr l).size:Nat):Int)))) ?_;cases hc23:(decide ((g1+4)<=(((bstr l).size:Nat):Int)))
        · skip
          have dhc23:=hc23;simp only [zbq] at dhc23;exact yS 8<|ze<|zb () yt
        · skip
          have dhc23:=hc23;simp only [zbq] at dhc23;exact yS 4<|yW 44 (zi (g1+4) (by omega) (by omega))<|yV 4 [.prop (0<=g1/\g1<=(g1+4)/\(g1+4)<=(((bstr l).size:Nat):Int))] [] (show 0<=g1/\g1<=(g1+4)/\(g1+4)<=(((bstr l).size:Nat):Int) from (by omega))<|ze<|zb () yt
      intro _ w20 hm21;refine w_cond (b:=((decide ((g1+4)<=(((bstr l).size:Nat):Int)))&&(((bstr l).extract g1.toNat (g1+4).toNat).toList==(⟨#[101,46,112,46]⟩:ByteArray).toList))) (by kernel_rfl) (λhc27=>?_) (λhc27=>?_)
      · skip
        have dhc27:=hc27;simp only [zbq] at dhc27;exact w_region<|yS 2<|yW 49 (zi (g1+4) (by omega) (by omega))<|yS 1<|ze<|n_block<|n_block<|zl (g1+4) ⟨by omega,yt,hx6.trans (tail_ep h4 (by omega) hc19 (by omega) (and_snd hc27))⟩
      · skip
        have dhc27:=hc27;simp only [zbq] at dhc27;exact w_seq<|w_region<|yS 1<|zz<|w_ret<|r_block<|r_block<|r_then<|r_block<|r_then<|y1 (⟨by rw [hx6,tail_none (by omega) (by omega) hc19 hc27],yt⟩)
  · skip
    have dhc9:=of_decide_eq_false hc9;exact w_exit<|x_then<|x_then<|x_hit<|n_then<|w_seq<|w_region<|yS 1<|zz<|w_ret<|y1 (⟨by rw [hx6,tail_nil (by omega)],yt⟩)
def callAtC(P:Program)(n:Nat)(ops:List Oper)(k:Nat)(L:List (Nat×Value)):Option (FuncId×List Value×Option Nat):=
 match ops[k]? with
 |some o=>match wantedL ops L o,dstOk o.dst n with
  |some true,true=>match o.op with
   |.call c=>match c.callee with
    |.value f=>match evL L f,evAll L c.args.toList with
     |some (.func (.func g) fi ca),some vs=>match P.funcs[g]? with
      |some fn=>if fi.isEmpty&&(fn.body.isSome&&!(fn.name== "runtime.NumGoroutine")) then some (g,vs++ca.toList,o.dst) else none
      |none=>none
     |_,_=>none
    |_=>none
   |_=>none
  |_,_=>none
 |none=>none
section
variable{P:Program}{n:Nat}{D:List Deferred}{ops:Array Oper}{Q:Exit->Act->World->Prop}{w:World}{L:List (Nat×Value)}
theorem callAtC_spec{k:Nat}{f:FuncId}{vs:List Value}{dst:Option Nat}(h:callAtC P n ops.toList k L=some (f,vs,dst)){a:Act}(ha:Hold n L D a):
  ∃o,ops.toList[k]?=some o/\o.dst=dst/\dstOk dst n=true/\Region.wanted o (yielded ops a.tmps)=true/\∀w,(execOp a.eval o).run P w=.ok (.enter f vs.toArray) w:=by
 unfold callAtC at h;split at h
 ·rename_i o ho;split at h
  ·rename_i hw hd;split at h
   ·rename_i c hop;split at h
    ·rename_i f' hc;split at h
     ·rename_i g fi ca us hf hus;split at h
      ·rename_i fn hfn;split at h
       ·rename_i hcond;simp only [Option.some.injEq,Prod.mk.injEq] at h;obtain ⟨rfl,rfl,rfl⟩:=h;simp only [Bool.and_eq_true,Bool.not_eq_true'] at hcond;obtain ⟨h1,h3,h4⟩:=hcond;refine ⟨o,ho,rfl,hd,wantedL_spec ha hw,fun w=>?_⟩;have hargs:c.args.map a.eval=us.toArray:=by
         apply Array.ext';simp [evAll_args ha.agrees hus]
        have e1:fi=#[]:=by simpa using h1
        obtain ⟨dst,op,ty,pos,af,g'⟩:=o;simp only at hop;subst hop;obtain ⟨callee,args,ts⟩:=c;simp only at hc hargs;subst hc;have hb:fn.body≠none:=by intro e;rw [e] at h3;cases h3
        have h4':fn.name≠ "runtime.NumGoroutine":=by simpa using h4
        simp [execOp,resolve,Deferred.ofValue,ha.agrees _ _ hf,e1,hargs,invoke,callFunc,hfn,h4',hb]
       ·cases h
      ·cases h
     ·cases h
    ·cases h
   ·cases h
  ·cases h
 ·cases h
theorem reg_callC{k:Nat}(f:FuncId)(vs:List Value)(dst:Option Nat)(h:callAtC P n ops.toList k L=some (f,vs,dst)){R:Ending->World->Prop}(hc:Calls P f vs.toArray w R)
  (hk:∀e w',R e w'->∃v,e=.returned v/\Reg P n D ops Q (k+1) (setD dst v L) w'):Reg P n D ops Q k L w:=by
 intro a ha;obtain ⟨o,ho,hdst,hd,hw,hrun⟩:=callAtC_spec (ops:=ops) h ha;have e:ops.toList.drop k=o::ops.toList.drop (k+1):=by
  have hlt:k<ops.toList.length:=(List.getElem?_eq_some_iff.1 ho).1;rw [List.drop_eq_getElem_cons hlt];congr 1;exact (List.getElem?_eq_some_iff.1 ho).2
 rw [e];simp only [wpList,hw,if_true];refine .inl ?_;simp only [Oper.wp,hrun,Oper.upon];refine hc.mono λe' w' hR=>?_;obtain ⟨v,rfl,hv⟩:=hk e' w' hR;rw [hdst];exact hv _ (ha.setD hd v)
theorem reg_mk{k:Nat}{o:Oper}(v:Value)(ho:ops.toList[k]?=some o)(hw:wantedL ops.toList L o=some true)(hd:dstOk o.dst n=true)
  (hkn:(knownAll L o.op.operands.toList&&!isSelect o.op)=true)(hrun:(execOp (evT L) o).run P w=.ok (.value v) w)
  (hk:Reg P n D ops Q (k+1) (setD o.dst v L) w):Reg P n D ops Q k L w:=by
 intro a ha;have hx:execOp a.eval o=execOp (evT L) o:=by
  simp only [Bool.and_eq_true,Bool.not_eq_true'] at hkn;refine execOp_congr o (λcs b e=>?_) λx hx=>known_agrees ha.agrees hkn.1 x (by simpa using hx);rw [e] at hkn;simp [isSelect] at hkn
 have e:ops.toList.drop k=o::ops.toList.drop (k+1):=by
  have hlt:k<ops.toList.length:=(List.getElem?_eq_some_iff.1 ho).1;rw [List.drop_eq_getElem_cons hlt];congr 1;exact (List.getElem?_eq_some_iff.1 ho).2
 rw [e];simp only [wpList,wantedL_spec ha hw,if_true];refine .inl ?_;simp only [Oper.wp,hx,hrun,Oper.upon];exact hk _ (ha.setD hd v)
end
def dnN{α:Type}(f:Int->Option α):Nat->Option α
 |0=>none
 |k+1=>match f (k:Int) with|some x=>some x|none=>dnN f k
def dn{α:Type}(n:Int)(f:Int->Option α):Option α:=dnN f (n+1).toNat
theorem dn_neg{α:Type}{n:Int}{f:Int->Option α}(h:n<0):dn n f=none:=by unfold dn;rw [show (n+1).toNat=0 by omega];rfl
theorem dn_step{α:Type}{n:Int}{f:Int->Option α}(h:0<=n)(hf:f n=none):dn n f=dn (n-1) f:=by
 unfold dn;rw [show (n+1).toNat=n.toNat+1 by omega,show (n-1+1).toNat=n.toNat by omega,dnN,show ((n.toNat:Nat):Int)=n by omega,hf]
theorem dn_some{α:Type}{n:Int}{f:Int->Option α}{x:α}(h:0<=n)(hf:f n=some x):dn n f=some x:=by
 unfold dn;rw [show (n+1).toNat=n.toNat+1 by omega,dnN,show ((n.toNat:Nat):Int)=n by omega,hf]
def zE(l:List UInt8)(en p:Int):Option Int:=if p<0 then none else if tailB (l.drop (en+p).toNat) then some p else if p<2 then none else if tailB (l.drop (en+(p-2)).toNat) then some (p-2) else none
def ppI(l:List UInt8)(en:Int):Int:=bif (oneI l en [61]==1)&&(oneI l (en+1) [81,82,66,78]==1) then 2 else 0
def zzD(l:List UInt8)(a b c d:Int):Option (Int×Int×Int×Int×Int):=
 bif (oneI l (a+b+c+d) [97,98,99,100,101,102,103,104]==0)||(oneI l (a+b+c+d+1) [48,49,50,51,52,53,54,55,56,57]==0) then none else (zE l (a+b+c+d+2) (ppI l (a+b+c+d+2))).map λp=>(a,b,c,d,p)
def zzC(l:List UInt8)(a b c:Int):Option (Int×Int×Int×Int×Int):=dn (oneI l (a+b+c) [120]) (zzD l a b c)
def zzB(l:List UInt8)(a b:Int):Option (Int×Int×Int×Int×Int):=dn (oneI l (a+b) [48,49,50,51,52,53,54,55,56,57]) (zzC l a b)
def zzA(l:List UInt8)(a:Int):Option (Int×Int×Int×Int×Int):=dn (oneI l a [97,98,99,100,101,102,103,104]) (zzB l a)
def zzF(l:List UInt8):Option (Int×Int×Int×Int×Int):=dn (oneI l 0 [82,78,66,81,75,80]) (zzA l)
def subL(l:List UInt8)(i n:Int):List UInt8:=(l.drop i.toNat).take n.toNat
structure Parts where
 (a b c d e f g h:List UInt8)
def partsOf(l:List UInt8)(a b c d p:Int):Parts:=⟨subL l 0 a,subL l a b,subL l (a+b) c,subL l (a+b+c) d,subL l (a+b+c+d) 1,subL l (a+b+c+d+1) 1,subL l (a+b+c+d+2) p,[]⟩
def oooS(j:Int):List UInt8:=if j=0 then [79,45,79,45,79] else [79,45,79]
def okK(l:List UInt8)(j:Int):Bool:=((decide ((((bstr l).size:Nat):Int)>=(((bstr (oooS j)).size:Nat):Int)))&&(((bstr l).extract 0 ((((bstr (oooS j)).size:Nat):Int)).toNat).toList==(bstr (oooS j)).toList))&&(tailB (l.drop ((((bstr (oooS j)).size:Nat):Int)).toNat))
def castP(s:List UInt8):Parts:=⟨[],[],[],[],[],[],[],s⟩
def zzR(l:List UInt8):Option Parts:=
 match zzF l with
 |some (a,b,c,d,p)=>some (partsOf l a b c d p)
 |none=>if okK l 0 then some (castP (oooS 0)) else if okK l 1 then some (castP (oooS 1)) else none
def zzV(l:List UInt8)(q:Parts):Array Value:=#[.string (bstr l),.string (bstr q.a),.string (bstr q.b),.string (bstr q.c),.string (bstr q.d),.string (bstr q.e),.string (bstr q.f),.string (bstr q.g),.string (bstr q.h),.string ⟨#[]⟩]
theorem ext_sub(l:List UInt8){i j n:Int}(h0:0<=i)(h1:0<=n)(e:j=i+n):(bstr l).extract i.toNat j.toNat=bstr (subL l i n):=by
 apply ByteArray.ext;apply Array.ext';rw [Lib.extract_data];show (l.toArray.toList.drop i.toNat).take _=(subL l i n).toArray.toList;unfold subL;rw [show j.toNat-i.toNat=n.toNat by omega]
theorem one_lt{l:List UInt8}{at_:Int}{set:List UInt8}(h:(oneI l at_ set==0)=false):at_<(((bstr l).size:Nat):Int):=by
 rw [beq_eq_false_iff_ne] at h;rw [bstr_size];unfold oneI at h;by_cases hh:at_<(l.length:Int)
 ·exact hh
 rw [if_neg hh] at h;exact absurd rfl h
theorem pp_rng(l:List UInt8)(en:Int):(ppI l en=0\/ppI l en=2)/\(ppI l en=2->en+2<=(((bstr l).size:Nat):Int)):=by
 unfold ppI;cases h:((oneI l en [61]==1)&&(oneI l (en+1) [81,82,66,78]==1))
 ·exact ⟨Or.inl rfl,λe=>by cases e⟩
 refine ⟨Or.inr rfl,λ_=>?_⟩;rw [Bool.and_eq_true,beq_iff_eq,beq_iff_eq] at h;have:=one_lt (l:=l) (at_:=en+1) (set:=[81,82,66,78]) (by rw [h.2];rfl);omega
theorem zE_neg{l:List UInt8}{en p:Int}(h:p<0):zE l en p=none:=by unfold zE;rw [if_pos h]
theorem zE_some{l:List UInt8}{en p:Int}(h:0<=p)(ht:tailB (l.drop (en+p).toNat)=true):zE l en p=some p:=by unfold zE;rw [if_neg (by omega),if_pos ht]
theorem zE_step{l:List UInt8}{en p:Int}(h:0<=p)(h2:p<=2)(ht:tailB (l.drop (en+p).toNat)=false):zE l en p=zE l en (p-2):=by
 unfold zE;rw [if_neg (by omega),ht];simp only [Bool.false_eq_true,if_false];by_cases e:p<2
 ·rw [if_pos e,if_pos (show p-2<0 by omega)]
 rw [if_neg e,if_neg (show ¬p-2<0 by omega),if_pos (show p-2<2 by omega)]
theorem zzD_none{l:List UInt8}{a b c d:Int}(h:((oneI l (a+b+c+d) [97,98,99,100,101,102,103,104]==0)||(oneI l (a+b+c+d+1) [48,49,50,51,52,53,54,55,56,57]==0))=true):zzD l a b c d=none:=by unfold zzD;rw [h];rfl
theorem zzD_zE{l:List UInt8}{a b c d:Int}(h:((oneI l (a+b+c+d) [97,98,99,100,101,102,103,104]==0)||(oneI l (a+b+c+d+1) [48,49,50,51,52,53,54,55,56,57]==0))=false):zzD l a b c d=(zE l (a+b+c+d+2) (ppI l (a+b+c+d+2))).map λp=>(a,b,c,d,p):=by unfold zzD;rw [h];rfl
theorem ooo_cell{j:Int}(h:0<=j/\j<2):(#[.string ⟨#[79,45,79,45,79]⟩,.string ⟨#[79,45,79]⟩]:Array Value)[0+j.toNat*1]?=some (.string (bstr (oooS j))):=by
 rcases (by omega:j=0\/j=1) with rfl|rfl<;>rfl
theorem zz_move{l:List UInt8}{q:Parts}{a b c d p:Int}(hz:zzR l=some q)(hF:zzF l=some (a,b,c,d,p))(ha:0<=a)(hb:0<=b)(hc:0<=c)(hd:0<=d)(hp:0<=p):
  (#[.string (bstr l),.string ((bstr l).extract 0 a.toNat),.string ((bstr l).extract a.toNat (a+b).toNat),.string ((bstr l).extract (a+b).toNat ((a+b)+c).toNat),.string ((bstr l).extract ((a+b)+c).toNat (((a+b)+c)+d).toNat),.string ((bstr l).extract (((a+b)+c)+d).toNat ((((a+b)+c)+d)+1).toNat),.string ((bstr l).extract ((((a+b)+c)+d)+1).toNat ((((a+b)+c)+d)+2).toNat),.string ((bstr l).extract ((((a+b)+c)+d)+2).toNat (((((a+b)+c)+d)+2)+p).toNat),.string ⟨#[]⟩,.string ⟨#[]⟩]:Array Value)=zzV l q:=by
 unfold zzR at hz;rw [hF] at hz;cases hz;unfold zzV partsOf;have e0:(bstr l).extract 0 a.toNat=bstr (subL l 0 a):=ext_sub l (i:=0) (j:=a) (n:=a) (by omega) ha (by omega);rw [e0,ext_sub l ha hb rfl,ext_sub l (by omega) hc rfl,ext_sub l (by omega) hd rfl,ext_sub l (n:=1) (by omega) (by omega) rfl,ext_sub l (n:=1) (by omega) (by omega) (by omega),ext_sub l (by omega) hp rfl];rfl
theorem zz_cast{l:List UInt8}{q:Parts}{j:Int}(hz:zzR l=some q)(hF:zzF l=none)(hj:0<=j/\j<2)(h0:0<j->okK l 0=false)(h:okK l j=true):
  (#[.string (bstr l),.string ⟨#[]⟩,.string ⟨#[]⟩,.string ⟨#[]⟩,.string ⟨#[]⟩,.string ⟨#[]⟩,.string ⟨#[]⟩,.string ⟨#[]⟩,.string (bstr (oooS j)),.string ⟨#[]⟩]:Array Value)=zzV l q:=by
 unfold zzR at hz;rw [hF] at hz;rcases (by omega:j=0\/j=1) with rfl|rfl
 ·simp only [h,if_true] at hz;cases hz;rfl
 rw [h0 (by omega)] at hz;simp only [h,if_true,Bool.false_eq_true,if_false] at hz;cases hz;rfl
set_option maxHeartbeats 1600000 in
theorem c189{w:World}(l:List UInt8)(q:Parts)(hz:zzR l=some q)(hl:l.length<=100000):
  CQ 189 [.string (bstr l)] w (λe w'=>∃g,e=.returned (.slice (some ⟨g,0,none⟩) 10 10)/\Mod [] w w'/\w.heap.size<=g/\At w' g (.cells (zzV l q) 9 (0,0))):=by
 have hm0:Mod [] w w:=Mod.refl _ _;have hsl:=bstr_size l;have hl:l.length<=1000000:=by omega
 refine en func189 ntmps189 ?_;refine zw<|zA (#[.string (bstr l)]) 9 (some 1) ?_;intro b1 w2 hn3;have hm5:=hn3.mod;have hm6:=zt hm0 hm5;have hf8:=hn3.at_;refine yS 1<|zx<|reg_mk (.func (.func 193) #[] #[pz b1]) rfl (by kernel_rfl) (by kernel_rfl) (by kernel_rfl) (by kernel_rfl)<|yS 1<|zz<|w_seq<|zw<|yS 1<|reg_callC 193 [.int .i64 0,.string (⟨#[82,78,66,81,75,80]⟩),pz b1] (some 15) (by kernel_rfl) (c193 hf8 0 [82,78,66,81,75,80] (by omega) hl (by decide)) ?_;rintro _ w9 ⟨rfl,hm10⟩;refine ⟨_,rfl,?_⟩;have hf11:=At.on hf8 hm10;have hm12:=zt hm6 hm10;have hr14:=oneI_rng l 0 [82,78,66,81,75,80];refine yS 1<|zz<|w_block<|yP (γ:=Int) (λg15=>(g15+1).toNat) (λg15=>[(1,pz b1),(3,.func (.func 193) #[] #[pz b1]),(4,.int .i64 g15)]) (λg15 w_=>(-1<=g15/\g15<=1)/\Mod [] w9 w_/\dn (oneI l 0 [82,78,66,81,75,80]) (zzA l)=dn g15 (zzA l)) (oneI l 0 [82,78,66,81,75,80]) ⟨by constructor<;>omega,Mod.refl _ _,rfl⟩ ?_;rintro g15 w16 ⟨⟨h18,h19⟩,hm17,hx20⟩;have hf21:=At.on hf11 hm17;have hm22:=zt hm12 hm17;refine w_seq<|zw<|yS 2<|zz<|yC (decide (g15>=0)) (λhc24=>?_) λhc24=>?_
 ·have dhc24:=of_decide_eq_true hc24;refine w_skip<|n_then<|w_seq<|w_block<|zw<|yS 2<|reg_callC 193 [.int .i64 g15,.string (⟨#[97,98,99,100,101,102,103,104]⟩),pz b1] (some 22) (by kernel_rfl) (c193 hf21 g15 [97,98,99,100,101,102,103,104] (by omega) hl (by decide)) ?_;rintro _ w25 ⟨rfl,hm26⟩;refine ⟨_,rfl,?_⟩;have hf27:=At.on hf21 hm26;have hm28:=zt hm22 hm26;have hm29:=zt hm17 hm26;have hr31:=oneI_rng l g15 [97,98,99,100,101,102,103,104];refine yS 1<|zz<|w_block<|yP (γ:=Int) (λg32=>(g32+1).toNat) (λg32=>[(1,pz b1),(3,.func (.func 193) #[] #[pz b1]),(4,.int .i64 g15),(5,.int .i64 g32)]) (λg32 w_=>(-1<=g32/\g32<=1)/\Mod [] w25 w_/\dn (oneI l g15 [97,98,99,100,101,102,103,104]) (zzB l g15)=dn g32 (zzB l g15)) (oneI l g15 [97,98,99,100,101,102,103,104]) ⟨by constructor<;>omega,Mod.refl _ _,rfl⟩ ?_;rintro g32 w33 ⟨⟨h35,h36⟩,hm34,hx37⟩;have hf38:=At.on hf27 hm34;have hm39:=zt hm28 hm34;have hm40:=zt hm29 hm34;refine w_seq<|zw<|yS 2<|zz<|yC (decide (g32>=0)) (λhc42=>?_) λhc42=>?_
  ·have dhc42:=of_decide_eq_true hc42;refine w_skip<|n_then<|w_seq<|w_block<|zw<|yS 4<|yW 30 (zi (g15+g32) (by omega) (by omega))<|reg_callC 193 [.int .i64 (g15+g32),.string (⟨#[48,49,50,51,52,53,54,55,56,57]⟩),pz b1] (some 31) (by kernel_rfl) (c193 hf38 (g15+g32) [48,49,50,51,52,53,54,55,56,57] (by omega) hl (by decide)) ?_;rintro _ w43 ⟨rfl,hm44⟩;refine ⟨_,rfl,?_⟩;have hf45:=At.on hf38 hm44;have hm46:=zt hm39 hm44;have hm47:=zt hm40 hm44;have hm48:=zt hm34 hm44;have hr50:=oneI_rng l (g15+g32) [48,49,50,51,52,53,54,55,56,57];refine yS 1<|zz<|w_block<|yP (γ:=Int) (λg51=>(g51+1).toNat) (λg51=>[(1,pz b1),(3,.func (.func 193) #[] #[pz b1]),(4,.int .i64 g15),(5,.int .i64 g32),(6,.int .i64 g51)]) (λg51 w_=>(-1<=g51/\g51<=1)/\Mod [] w43 w_/\dn (oneI l (g15+g32) [48,49,50,51,52,53,54,55,56,57]) (zzC l g15 g32)=dn g51 (zzC l g15 g32)) (oneI l (g15+g32) [48,49,50,51,52,53,54,55,56,57]) ⟨by constructor<;>omega,Mod.refl _ _,rfl⟩ ?_;rintro g51 w52 ⟨⟨h54,h55⟩,hm53,hx56⟩;have hf57:=At.on hf45 hm53;have hm58:=zt hm46 hm53;have hm59:=zt hm47 hm53;have hm60:=zt hm48 hm53;refine w_seq<|zw<|yS 2<|zz<|yC (decide (g51>=0)) (λhc62=>?_) λhc62=>?_
   ·have dhc62:=of_decide_eq_true hc62;refine w_skip<|n_then<|w_seq<|w_block<|zw<|yS 4<|yW 39 (zi (g15+g32) (by omega) (by omega))<|yS 2<|yW 41 (zi ((g15+g32)+g51) (by omega) (by omega))<|reg_callC 193 [.int .i64 ((g15+g32)+g51),.string (⟨#[120]⟩),pz b1] (some 42) (by kernel_rfl) (c193 hf57 ((g15+g32)+g51) [120] (by omega) hl (by decide)) ?_;rintro _ w63 ⟨rfl,hm64⟩;refine ⟨_,rfl,?_⟩;have hf65:=At.on hf57 hm64;have hm66:=zt hm58 hm64;have hm67:=zt hm59 hm64;have hm68:=zt hm60 hm64;have hm69:=zt hm53 hm64;have hr71:=oneI_rng l ((g15+g32)+g51) [120];refine yS 1<|zz<|w_block<|yP (γ:=Int) (λg72=>(g72+1).toNat) (λg72=>[(1,pz b1),(3,.func (.func 193) #[] #[pz b1]),(4,.int .i64 g15),(5,.int .i64 g32),(6,.int .i64 g51),(7,.int .i64 g72)]) (λg72 w_=>(-1<=g72/\g72<=1)/\Mod [] w63 w_/\dn (oneI l ((g15+g32)+g51) [120]) (zzD l g15 g32 g51)=dn g72 (zzD l g15 g32 g51)) (oneI l ((g15+g32)+g51) [120]) ⟨by constructor<;>omega,Mod.refl _ _,rfl⟩ ?_;rintro g72 w73 ⟨⟨h75,h76⟩,hm74,hx77⟩;have hf78:=At.on hf65 hm74;have hm79:=zt hm66 hm74;have hm80:=zt hm67 hm74;have hm81:=zt hm68 hm74;have hm82:=zt hm69 hm74;refine w_seq<|zw<|yS 2<|zz<|yC (decide (g72>=0)) (λhc84=>?_) λhc84=>?_
    ·have dhc84:=of_decide_eq_true hc84;refine w_skip<|n_then<|w_seq<|w_block<|zw<|yS 3<|yW 49 (zi (g15+g32) (by omega) (by omega))<|yS 2<|yW 51 (zi ((g15+g32)+g51) (by omega) (by omega))<|yS 2<|yW 53 (zi (((g15+g32)+g51)+g72) (by omega) (by omega))<|yS 1<|zz<|w_seq<|w_cut (γ:=Unit) (λ_=>[(1,pz b1),(3,.func (.func 193) #[] #[pz b1]),(4,.int .i64 g15),(5,.int .i64 g32),(6,.int .i64 g51),(7,.int .i64 g72),(8,.int .i64 (((g15+g32)+g51)+g72)),(64,.bool (((oneI l (((g15+g32)+g51)+g72) [97,98,99,100,101,102,103,104])==0)||((oneI l ((((g15+g32)+g51)+g72)+1) [48,49,50,51,52,53,54,55,56,57])==0)))]) (λ_ w_=>Mod [] w73 w_) ?_ ?_
     ·refine w_region<|yS 2<|reg_callC 193 [.int .i64 (((g15+g32)+g51)+g72),.string (⟨#[97,98,99,100,101,102,103,104]⟩),pz b1] (some 56) (by kernel_rfl) (c193 hf78 (((g15+g32)+g51)+g72) [97,98,99,100,101,102,103,104] (by omega) hl (by decide)) ?_;rintro _ w88 ⟨rfl,hm89⟩;refine ⟨_,rfl,?_⟩;have hr97:=oneI_rng l (((g15+g32)+g51)+g72) [97,98,99,100,101,102,103,104];refine yS 2<|yE 58 (.bool ((oneI l (((g15+g32)+g51)+g72) [97,98,99,100,101,102,103,104])==0)) ?_;cases hc98:((oneI l (((g15+g32)+g51)+g72) [97,98,99,100,101,102,103,104])==0)
      ·have dhc98:=hc98;try simp only [zbq] at dhc98
       refine yS 3<|yW 61 (zi ((((g15+g32)+g51)+g72)+1) (by omega) (by omega))<|reg_callC 193 [.int .i64 ((((g15+g32)+g51)+g72)+1),.string (⟨#[48,49,50,51,52,53,54,55,56,57]⟩),pz b1] (some 62) (by kernel_rfl) (c193 ya ((((g15+g32)+g51)+g72)+1) [48,49,50,51,52,53,54,55,56,57] (by omega) hl (by decide)) ?_;rintro _ w99 ⟨rfl,hm100⟩;refine ⟨_,rfl,?_⟩;have hr108:=oneI_rng l ((((g15+g32)+g51)+g72)+1) [48,49,50,51,52,53,54,55,56,57];exact yS 2<|ze<|zb () yt
      have dhc98:=hc98;try simp only [zbq] at dhc98
      exact yS 6<|ze<|zb () yt
     intro _ w85 hm86;have hf109:=At.on hf78 hm86;have hm110:=zt hm79 hm86;have hm111:=zt hm80 hm86;have hm112:=zt hm81 hm86;have hm113:=zt hm82 hm86;have hm114:=zt hm74 hm86;refine yC (((oneI l (((g15+g32)+g51)+g72) [97,98,99,100,101,102,103,104])==0)||((oneI l ((((g15+g32)+g51)+g72)+1) [48,49,50,51,52,53,54,55,56,57])==0)) (λhc116=>?_) λhc116=>?_
     ·have dhc116:=hc116;try simp only [zbq] at dhc116
      exact w_exit<|x_then<|x_hit<|n_then<|w_region<|yS 2<|yW 46 (zi (g72-1) (by omega) (by omega))<|yS 1<|ze<|zl (g72-1) ⟨by constructor<;>omega,hm114,hx77.trans (dn_step (by omega) (zzD_none hc116))⟩
     have dhc116:=hc116;try simp only [zbq] at dhc116
     refine w_skip<|zn<|yS 2<|yW 66 (zi ((((g15+g32)+g51)+g72)+2) (by omega) (by omega))<|yS 1<|zx<|yS 1<|zz<|w_cut (γ:=Int) (λg117=>[(1,pz b1),(3,.func (.func 193) #[] #[pz b1]),(4,.int .i64 g15),(5,.int .i64 g32),(6,.int .i64 g51),(7,.int .i64 g72),(8,.int .i64 (((g15+g32)+g51)+g72)),(9,.int .i64 ((((g15+g32)+g51)+g72)+2)),(10,.int .i64 g117)]) (λg117 w_=>Mod [] w85 w_/\g117=(ppI l ((((g15+g32)+g51)+g72)+2))) ?_ ?_
     ·refine w_cut (γ:=Unit) (λ_=>[(1,pz b1),(3,.func (.func 193) #[] #[pz b1]),(4,.int .i64 g15),(5,.int .i64 g32),(6,.int .i64 g51),(7,.int .i64 g72),(8,.int .i64 (((g15+g32)+g51)+g72)),(9,.int .i64 ((((g15+g32)+g51)+g72)+2)),(10,.int .i64 0),(77,.bool (((oneI l ((((g15+g32)+g51)+g72)+2) [61])==1)&&((oneI l (((((g15+g32)+g51)+g72)+2)+1) [81,82,66,78])==1)))]) (λ_ w_=>Mod [] w85 w_) ?_ ?_
      ·refine w_region<|yS 2<|reg_callC 193 [.int .i64 ((((g15+g32)+g51)+g72)+2),.string (⟨#[61]⟩),pz b1] (some 69) (by kernel_rfl) (c193 hf109 ((((g15+g32)+g51)+g72)+2) [61] (by omega) hl (by decide)) ?_;rintro _ w124 ⟨rfl,hm125⟩;refine ⟨_,rfl,?_⟩;have hr134:=oneI_rng l ((((g15+g32)+g51)+g72)+2) [61];refine yS 2<|yE 71 (.bool ((oneI l ((((g15+g32)+g51)+g72)+2) [61])==1)) ?_;cases hc135:((oneI l ((((g15+g32)+g51)+g72)+2) [61])==1)
       ·have dhc135:=hc135;try simp only [zbq] at dhc135
        exact yS 6<|ze<|zb () yt
       have dhc135:=hc135;try simp only [zbq] at dhc135
       refine yS 3<|yW 74 (zi (((((g15+g32)+g51)+g72)+2)+1) (by omega) (by omega))<|reg_callC 193 [.int .i64 (((((g15+g32)+g51)+g72)+2)+1),.string (⟨#[81,82,66,78]⟩),pz b1] (some 75) (by kernel_rfl) (c193 ya (((((g15+g32)+g51)+g72)+2)+1) [81,82,66,78] (by omega) hl (by decide)) ?_;rintro _ w136 ⟨rfl,hm137⟩;refine ⟨_,rfl,?_⟩;have hr146:=oneI_rng l (((((g15+g32)+g51)+g72)+2)+1) [81,82,66,78];exact yS 2<|ze<|zb () yt
      intro _ w121 hm122;have hz154:=hm122.size;refine yC (((oneI l ((((g15+g32)+g51)+g72)+2) [61])==1)&&((oneI l (((((g15+g32)+g51)+g72)+2)+1) [81,82,66,78])==1)) (λhc155=>?_) λhc155=>?_
      ·have dhc155:=hc155;try simp only [zbq] at dhc155
       exact w_region<|yS 1<|ze<|zb 2 ⟨yt,(by simp only [ppI,hc155,cond_true,cond_false])⟩
      have dhc155:=hc155;try simp only [zbq] at dhc155
      exact w_skip<|zb 0 ⟨yt,(by simp only [ppI,hc155,cond_true,cond_false])⟩
     rintro _ w118 ⟨hm119,rfl⟩;have hf156:=At.on hf109 hm119;have hm157:=zt hm110 hm119;have hm158:=zt hm111 hm119;have hm159:=zt hm112 hm119;have hm160:=zt hm113 hm119;have hm161:=zt hm114 hm119;have hz162:=hm119.size;refine w_block ?_;have hpp:=pp_rng l ((((g15+g32)+g51)+g72)+2);refine yP (γ:=Int) (λg163=>(g163+2).toNat) (λg163=>[(1,pz b1),(3,.func (.func 193) #[] #[pz b1]),(4,.int .i64 g15),(5,.int .i64 g32),(6,.int .i64 g51),(7,.int .i64 g72),(8,.int .i64 (((g15+g32)+g51)+g72)),(9,.int .i64 ((((g15+g32)+g51)+g72)+2)),(10,.int .i64 g163)]) (λg163 w_=>(-2<=g163/\g163<=(ppI l ((((g15+g32)+g51)+g72)+2)))/\Mod [] w118 w_/\zE l ((((g15+g32)+g51)+g72)+2) (ppI l ((((g15+g32)+g51)+g72)+2))=zE l ((((g15+g32)+g51)+g72)+2) g163) (ppI l ((((g15+g32)+g51)+g72)+2)) ⟨by constructor<;>omega,Mod.refl _ _,rfl⟩ ?_;rintro g163 w164 ⟨⟨h166,h167⟩,hm165,hx168⟩;have hf169:=At.on hf156 hm165;have hm170:=zt hm157 hm165;have hm171:=zt hm158 hm165;have hm172:=zt hm159 hm165;have hm173:=zt hm160 hm165;have hm174:=zt hm161 hm165;have hz175:=hm165.size;refine w_seq<|zw<|yS 2<|zz<|yC (decide (g163>=0)) (λhc176=>?_) λhc176=>?_
     ·have dhc176:=of_decide_eq_true hc176;refine w_skip<|n_then<|w_seq<|w_block<|zw<|yL 4 b1 0<|yW 85 (zi (((((g15+g32)+g51)+g72)+2)+g163) (by omega) (by omega))<|zk (some 86) (c194 l (((((g15+g32)+g51)+g72)+2)+g163) (by omega) (by omega) hl) ?_;intro w177 hm178;have hf179:=At.on hf169 hm178;have hm180:=zt hm170 hm178;have hm181:=zt hm171 hm178;have hm182:=zt hm172 hm178;have hm183:=zt hm173 hm178;have hm184:=zt hm174 hm178;have hm185:=zt hm165 hm178;have hz186:=hm178.size;refine zz<|zc (λhc187=>?_) λhc187=>?_
      ·have dhc187:=hc187;try simp only [zbq] at dhc187
       refine w_seq ?_;have hq1:=one_lt (Bool.or_eq_false_iff.1 hc116).2;refine w_tail 44 (by kernel_rfl) (by kernel_rfl)<|zqo 9 [rz 1 b1,iz 4 g15,iz 5 g32,iz 6 g51,iz 8 (((g15+g32)+g51)+g72),iz 9 ((((g15+g32)+g51)+g72)+2),iz 10 g163,(87,.string (bstr l)),(90,.string ((bstr l).extract 0 g15.toNat)),(91,.string (bstr l)),iz 92 g15,iz 95 (IntKind.i64.wrap (g15+g32))] [.cell ⟨b1,0,none⟩ (.string (bstr l)),.cell ⟨b1,0,none⟩ (.string (bstr l)),.prop (0<=g15/\g15<=(((bstr l).size:Nat):Int)),.cell ⟨b1,0,none⟩ (.string (bstr l))] (λ_ hC=>⟨At.cell (At.on hf179 hC) rfl,At.cell (At.on hf179 hC) rfl,(zh (by omega)),At.cell (At.on hf179 hC) rfl⟩) ?_;rw [zi (g15+g32) (by omega) (by omega)];refine zqo 5 [rz 1 b1,iz 4 g15,iz 5 g32,iz 6 g51,iz 8 (((g15+g32)+g51)+g72),iz 9 ((((g15+g32)+g51)+g72)+2),iz 10 g163,(87,.string (bstr l)),(90,.string ((bstr l).extract 0 g15.toNat)),(96,.string ((bstr l).extract g15.toNat (g15+g32).toNat)),(97,.string (bstr l)),iz 100 (IntKind.i64.wrap (g15+g32))] [.prop (0<=g15/\g15<=(g15+g32)/\(g15+g32)<=(((bstr l).size:Nat):Int)),.cell ⟨b1,0,none⟩ (.string (bstr l))] (λ_ hC=>⟨(zh (by omega)),At.cell (At.on hf179 hC) rfl⟩) ?_;rw [zi (g15+g32) (by omega) (by omega)];refine zq 3 [rz 1 b1,iz 4 g15,iz 5 g32,iz 6 g51,iz 8 (((g15+g32)+g51)+g72),iz 9 ((((g15+g32)+g51)+g72)+2),iz 10 g163,(87,.string (bstr l)),(90,.string ((bstr l).extract 0 g15.toNat)),(96,.string ((bstr l).extract g15.toNat (g15+g32).toNat)),(97,.string (bstr l)),iz 100 (g15+g32),iz 103 (IntKind.i64.wrap (g15+g32))] ?_;rw [zi (g15+g32) (by omega) (by omega)];refine zq 2 [rz 1 b1,iz 4 g15,iz 5 g32,iz 6 g51,iz 8 (((g15+g32)+g51)+g72),iz 9 ((((g15+g32)+g51)+g72)+2),iz 10 g163,(87,.string (bstr l)),(90,.string ((bstr l).extract 0 g15.toNat)),(96,.string ((bstr l).extract g15.toNat (g15+g32).toNat)),(97,.string (bstr l)),iz 100 (g15+g32),iz 105 (IntKind.i64.wrap ((g15+g32)+g51))] ?_;rw [zi ((g15+g32)+g51) (by omega) (by omega)];refine zqo 5 [rz 1 b1,iz 6 g51,iz 8 (((g15+g32)+g51)+g72),iz 9 ((((g15+g32)+g51)+g72)+2),iz 10 g163,(87,.string (bstr l)),(90,.string ((bstr l).extract 0 g15.toNat)),(96,.string ((bstr l).extract g15.toNat (g15+g32).toNat)),(106,.string ((bstr l).extract (g15+g32).toNat ((g15+g32)+g51).toNat)),(107,.string (bstr l)),iz 110 (IntKind.i64.wrap (g15+g32))] [.prop (0<=(g15+g32)/\(g15+g32)<=((g15+g32)+g51)/\((g15+g32)+g51)<=(((bstr l).size:Nat):Int)),.cell ⟨b1,0,none⟩ (.string (bstr l))] (λ_ hC=>⟨(zh (by omega)),At.cell (At.on hf179 hC) rfl⟩) ?_;rw [zi (g15+g32) (by omega) (by omega)];refine zq 2 [rz 1 b1,iz 8 (((g15+g32)+g51)+g72),iz 9 ((((g15+g32)+g51)+g72)+2),iz 10 g163,(87,.string (bstr l)),(90,.string ((bstr l).extract 0 g15.toNat)),(96,.string ((bstr l).extract g15.toNat (g15+g32).toNat)),(106,.string ((bstr l).extract (g15+g32).toNat ((g15+g32)+g51).toNat)),(107,.string (bstr l)),iz 112 (IntKind.i64.wrap ((g15+g32)+g51))] ?_;rw [zi ((g15+g32)+g51) (by omega) (by omega)];refine zqo 6 [rz 1 b1,iz 8 (((g15+g32)+g51)+g72),iz 9 ((((g15+g32)+g51)+g72)+2),iz 10 g163,(87,.string (bstr l)),(90,.string ((bstr l).extract 0 g15.toNat)),(96,.string ((bstr l).extract g15.toNat (g15+g32).toNat)),(106,.string ((bstr l).extract (g15+g32).toNat ((g15+g32)+g51).toNat)),(114,.string ((bstr l).extract ((g15+g32)+g51).toNat (((g15+g32)+g51)+g72).toNat)),(115,.string (bstr l)),iz 116 (((g15+g32)+g51)+g72),iz 118 (IntKind.i64.wrap ((((g15+g32)+g51)+g72)+1))] [.prop (0<=((g15+g32)+g51)/\((g15+g32)+g51)<=(((g15+g32)+g51)+g72)/\(((g15+g32)+g51)+g72)<=(((bstr l).size:Nat):Int)),.cell ⟨b1,0,none⟩ (.string (bstr l))] (λ_ hC=>⟨(zh (by omega)),At.cell (At.on hf179 hC) rfl⟩) ?_
       rw [zi ((((g15+g32)+g51)+g72)+1) (by omega) (by omega)];refine zqo 4 [rz 1 b1,iz 9 ((((g15+g32)+g51)+g72)+2),iz 10 g163,(87,.string (bstr l)),(90,.string ((bstr l).extract 0 g15.toNat)),(96,.string ((bstr l).extract g15.toNat (g15+g32).toNat)),(106,.string ((bstr l).extract (g15+g32).toNat ((g15+g32)+g51).toNat)),(114,.string ((bstr l).extract ((g15+g32)+g51).toNat (((g15+g32)+g51)+g72).toNat)),(119,.string ((bstr l).extract (((g15+g32)+g51)+g72).toNat ((((g15+g32)+g51)+g72)+1).toNat)),(120,.string (bstr l)),iz 122 (IntKind.i64.wrap ((((g15+g32)+g51)+g72)+1))] [.prop (0<=(((g15+g32)+g51)+g72)/\(((g15+g32)+g51)+g72)<=((((g15+g32)+g51)+g72)+1)/\((((g15+g32)+g51)+g72)+1)<=(((bstr l).size:Nat):Int)),.cell ⟨b1,0,none⟩ (.string (bstr l))] (λ_ hC=>⟨(zh (by omega)),At.cell (At.on hf179 hC) rfl⟩) ?_;rw [zi ((((g15+g32)+g51)+g72)+1) (by omega) (by omega)];refine zqo 7 [(87,.string (bstr l)),(90,.string ((bstr l).extract 0 g15.toNat)),(96,.string ((bstr l).extract g15.toNat (g15+g32).toNat)),(106,.string ((bstr l).extract (g15+g32).toNat ((g15+g32)+g51).toNat)),(114,.string ((bstr l).extract ((g15+g32)+g51).toNat (((g15+g32)+g51)+g72).toNat)),(119,.string ((bstr l).extract (((g15+g32)+g51)+g72).toNat ((((g15+g32)+g51)+g72)+1).toNat)),(124,.string ((bstr l).extract ((((g15+g32)+g51)+g72)+1).toNat ((((g15+g32)+g51)+g72)+2).toNat)),(125,.string (bstr l)),iz 126 ((((g15+g32)+g51)+g72)+2),iz 129 (IntKind.i64.wrap (((((g15+g32)+g51)+g72)+2)+g163))] [.prop (0<=((((g15+g32)+g51)+g72)+1)/\((((g15+g32)+g51)+g72)+1)<=((((g15+g32)+g51)+g72)+2)/\((((g15+g32)+g51)+g72)+2)<=(((bstr l).size:Nat):Int)),.cell ⟨b1,0,none⟩ (.string (bstr l))] (λ_ hC=>⟨(zh (by omega)),At.cell (At.on hf179 hC) rfl⟩) ?_;rw [zi (((((g15+g32)+g51)+g72)+2)+g163) (by omega) (by omega)];refine yQo 1 [.prop (0<=((((g15+g32)+g51)+g72)+2)/\((((g15+g32)+g51)+g72)+2)<=(((((g15+g32)+g51)+g72)+2)+g163)/\(((((g15+g32)+g51)+g72)+2)+g163)<=(((bstr l).size:Nat):Int))] (λ_ hC=>(zh (by omega)))<|q_end (by kernel_rfl) (λa ha w188 hm189=>(?_:Reg _ _ _ _ _ 44 _ w188) a ha);have hf190:=At.on hf179 hm189;have hm191:=zt hm180 hm189;have hm192:=zt hm181 hm189;have hm193:=zt hm182 hm189;have hm194:=zt hm183 hm189;have hm195:=zt hm184 hm189;have hm196:=zt hm185 hm189;have hz197:=hm189.size;refine reg_bslice (#[.string (bstr l),.string ((bstr l).extract 0 g15.toNat),.string ((bstr l).extract g15.toNat (g15+g32).toNat),.string ((bstr l).extract (g15+g32).toNat ((g15+g32)+g51).toNat),.string ((bstr l).extract ((g15+g32)+g51).toNat (((g15+g32)+g51)+g72).toNat),.string ((bstr l).extract (((g15+g32)+g51)+g72).toNat ((((g15+g32)+g51)+g72)+1).toNat),.string ((bstr l).extract ((((g15+g32)+g51)+g72)+1).toNat ((((g15+g32)+g51)+g72)+2).toNat),.string ((bstr l).extract ((((g15+g32)+g51)+g72)+2).toNat (((((g15+g32)+g51)+g72)+2)+g163).toNat),.string (⟨#[]⟩),.string (⟨#[]⟩)]) 9 10 (some 131) (by kernel_rfl) ?_;intro b198 w199 hn200;have ne201:b1≠b198:=hn200.ne hf190;have hb202:=Nat.le_trans hm191.size hn200.base;have hb203:=Nat.le_trans hm192.size hn200.base
       have hb204:=Nat.le_trans hm193.size hn200.base;have hb205:=Nat.le_trans hm194.size hn200.base;have hb206:=Nat.le_trans hm195.size hn200.base;have hb207:=Nat.le_trans hm196.size hn200.base;have hm208:=hn200.mod;have hm210:=zt hm191 hm208;have hz216:=hm208.size;have hf217:=hn200.at_;refine yS 1<|zz<|w_ret<|r_block<|r_then<|r_then<|r_block<|r_block<|r_then<|r_then<|r_block<|r_block<|r_then<|r_then<|r_block<|r_block<|r_then<|r_then<|r_block<|r_block<|r_then<|r_then<|r_block<|r_then ?_;have hzD:zzD l g15 g32 g51 g72=some (g15,g32,g51,g72,g163):=by rw [zzD_zE hc116,hx168,zE_some (by omega) hc187];rfl
       have hzC:zzC l g15 g32 g51=some (g15,g32,g51,g72,g163):=hx77.trans (dn_some (by omega) hzD);have hzB:zzB l g15 g32=some (g15,g32,g51,g72,g163):=hx56.trans (dn_some (by omega) hzC);have hzA:zzA l g15=some (g15,g32,g51,g72,g163):=hx37.trans (dn_some (by omega) hzB);have hzF:zzF l=some (g15,g32,g51,g72,g163):=hx20.trans (dn_some (by omega) hzA);exact y1 (⟨b198,rfl,hm210,by omega,at_cast hf217 (congrArg (λA=>Obj.cells A 9 (0,0)) (zz_move hz hzF (by omega) (by omega) (by omega) (by omega) (by omega)))⟩)
      have dhc187:=hc187;try simp only [zbq] at dhc187
      exact w_skip<|n_block<|n_then<|w_region<|yS 2<|yW 81 (zi (g163-2) (by omega) (by omega))<|yS 1<|ze<|zl (g163-2) ⟨by constructor<;>omega,hm185,hx168.trans (zE_step (by omega) (by omega) hc187)⟩
     have dhc176:=of_decide_eq_false hc176;exact w_exit<|x_then<|x_then<|x_hit<|n_block<|n_then<|w_region<|yS 2<|yW 46 (zi (g72-1) (by omega) (by omega))<|yS 1<|ze<|zl (g72-1) ⟨by constructor<;>omega,hm174,hx77.trans (dn_step (by omega) (by rw [zzD_zE hc116,hx168,zE_neg (by omega)];rfl))⟩
    have dhc84:=of_decide_eq_false hc84;exact w_exit<|x_then<|x_then<|x_hit<|n_block<|n_then<|w_region<|yS 2<|yW 35 (zi (g51-1) (by omega) (by omega))<|yS 1<|ze<|zl (g51-1) ⟨by constructor<;>omega,hm82,hx56.trans (dn_step (by omega) (hx77.trans (dn_neg (by omega))))⟩
   have dhc62:=of_decide_eq_false hc62;exact w_exit<|x_then<|x_then<|x_hit<|n_block<|n_then<|w_region<|yS 2<|yW 26 (zi (g32-1) (by omega) (by omega))<|yS 1<|ze<|zl (g32-1) ⟨by constructor<;>omega,hm60,hx37.trans (dn_step (by omega) (hx56.trans (dn_neg (by omega))))⟩
  have dhc42:=of_decide_eq_false hc42;exact w_exit<|x_then<|x_then<|x_hit<|n_block<|n_then<|w_region<|yS 2<|yW 19 (zi (g15-1) (by omega) (by omega))<|yS 1<|ze<|zl (g15-1) ⟨by constructor<;>omega,hm40,hx20.trans (dn_step (by omega) (hx37.trans (dn_neg (by omega))))⟩
 have dhc24:=of_decide_eq_false hc24;refine w_exit<|x_then<|x_then<|x_hit<|n_then<|w_seq<|zw<|reg_bslice (#[.string (⟨#[79,45,79,45,79]⟩),.string (⟨#[79,45,79]⟩)]) 9 2 (some 132) (by kernel_rfl) ?_;intro b218 w219 hn220;have ne221:b1≠b218:=hn220.ne hf21;have hb222:=Nat.le_trans hm22.size hn220.base;have hm223:=hn220.mod;have hf224:=At.on hf21 hm223;have hm225:=zt hm22 hm223;have hz226:=hm223.size;have hf227:=hn220.at_;refine yS 2<|zz<|w_block<|yP (γ:=Int) (λg228=>(2-g228).toNat) (λ(g228:Int)=>[(1,pz b1),(132,.slice (some ⟨b218,0,none⟩) 2 2),(133,.int .i64 ((2:Nat):Int)),(134,.int .i64 g228)]) (λ(g228:Int) w_=>(0<=g228/\g228<=2)/\Mod [] w219 w_/\(∀i:Int,0<=i->i<g228->okK l i=false)) 0 ⟨by omega,Mod.refl _ _,(λi h0 h1=>absurd h1 (by omega))⟩ ?_;rintro g228 w229 ⟨⟨h231,h232⟩,hm230,hx233⟩;have hf234:=At.on hf224 hm230;have hf235:=At.on hf227 hm230;have hm236:=zt hm225 hm230;have hz237:=hm230.size;refine zw<|yS 1<|zz<|w_seq<|yC (decide (g228<((2:Nat):Int))) (λhc238=>?_) λhc238=>?_
 ·have dhc238:=of_decide_eq_true hc238;refine w_skip<|n_then<|w_seq<|w_block<|zw<|yO 3 [.prop (0<=g228/\g228<((2:Nat):Int)),.cell ⟨b218,(0+g228.toNat*1),none⟩ (.string (bstr (oooS g228)))] (⟨(zh (by omega)),At.cell hf235 (ooo_cell (by omega))⟩)<|zz<|w_cut (γ:=Unit) (λ_=>[(1,pz b1),(12,.string (bstr (oooS g228))),(132,.slice (some ⟨b218,0,none⟩) 2 2),(133,.int .i64 ((2:Nat):Int)),(134,.int .i64 g228),(156,.bool (((decide ((((bstr l).size:Nat):Int)>=(((bstr (oooS g228)).size:Nat):Int)))&&(((bstr l).extract 0 (((bstr (oooS g228)).size:Nat):Int).toNat).toList==(bstr (oooS g228)).toList))&&(tailB (l.drop (((bstr (oooS g228)).size:Nat):Int).toNat))))]) (λ_ w_=>Mod [] w229 w_) ?_ ?_
  ·refine w_region<|yL 6 b1 0<|yE 143 (.bool (decide ((((bstr l).size:Nat):Int)>=(((bstr (oooS g228)).size:Nat):Int)))) ?_;cases hc242:(decide ((((bstr l).size:Nat):Int)>=(((bstr (oooS g228)).size:Nat):Int)))
   ·have dhc242:=hc242;try simp only [zbq] at dhc242
    exact yS 13<|ze<|zb () yt
   have dhc242:=hc242;try simp only [zbq] at dhc242
   refine yO 8 [.cell ⟨b1,0,none⟩ (.string (bstr l)),.prop (0<=(((bstr (oooS g228)).size:Nat):Int)/\(((bstr (oooS g228)).size:Nat):Int)<=(((bstr l).size:Nat):Int))] (⟨At.cell hf234 rfl,(zh (by omega))⟩)<|yE 151 (.bool (((bstr l).extract 0 (((bstr (oooS g228)).size:Nat):Int).toNat).toList==(bstr (oooS g228)).toList)) ?_;cases hc243:(((bstr l).extract 0 (((bstr (oooS g228)).size:Nat):Int).toNat).toList==(bstr (oooS g228)).toList)
   ·have dhc243:=hc243;try simp only [zbq] at dhc243
    exact yS 5<|ze<|zb () yt
   have dhc243:=hc243;try simp only [zbq] at dhc243
   refine yL 3 b1 0<|zk (some 155) (c194 l (((bstr (oooS g228)).size:Nat):Int) (by omega) (by omega) hl) ?_;intro w244 hm245;have hz250:=hm245.size;exact yS 1<|ze<|zb () yt
  intro _ w239 hm240;have hf251:=At.on hf234 hm240;have hf252:=At.on hf235 hm240;have hm253:=zt hm236 hm240;have hm254:=zt hm230 hm240;have hz255:=hm240.size;refine yC (((decide ((((bstr l).size:Nat):Int)>=(((bstr (oooS g228)).size:Nat):Int)))&&(((bstr l).extract 0 (((bstr (oooS g228)).size:Nat):Int).toNat).toList==(bstr (oooS g228)).toList))&&(tailB (l.drop (((bstr (oooS g228)).size:Nat):Int).toNat))) (λhc256=>?_) λhc256=>?_
  ·have dhc256:=hc256;try simp only [zbq] at dhc256
   refine zw<|yL 2 b1 0<|reg_bslice (#[.string (bstr l),.string (⟨#[]⟩),.string (⟨#[]⟩),.string (⟨#[]⟩),.string (⟨#[]⟩),.string (⟨#[]⟩),.string (⟨#[]⟩),.string (⟨#[]⟩),.string (bstr (oooS g228)),.string (⟨#[]⟩)]) 9 10 (some 159) (by kernel_rfl) ?_;intro b257 w258 hn259;have ne260:b1≠b257:=hn259.ne hf251;have ne261:b218≠b257:=hn259.ne hf252;have hb262:=Nat.le_trans hm253.size hn259.base;have hb263:=Nat.le_trans hm254.size hn259.base;have hm264:=hn259.mod;have hm267:=zt hm253 hm264;have hz269:=hm264.size;have hf270:=hn259.at_;exact yS 1<|zz<|w_ret<|r_block<|r_then<|r_then<|r_block<|r_then<|y1 (⟨b257,rfl,hm267,by omega,at_cast hf270 (congrArg (λA=>Obj.cells A 9 (0,0)) (zz_cast hz (hx20.trans (dn_neg (by omega))) ⟨by omega,by omega⟩ (λh=>hx233 0 (by omega) (by omega)) hc256))⟩)
  have dhc256:=hc256;try simp only [zbq] at dhc256
  exact w_skip<|n_block<|n_then<|w_region<|yS 1<|yW 160 (zi (g228+1) (by omega) (by omega))<|yS 1<|ze<|zl (g228+1) ⟨by omega,hm254,(forall_step hx233 hc256)⟩
 have dhc238:=of_decide_eq_false hc238;exact w_exit<|x_then<|x_then<|x_hit<|zn<|yS 1<|zz<|w_ret<|ret1 rfl rfl (by exfalso;have hz1:zzF l=none:=hx20.trans (dn_neg (by omega));unfold zzR at hz;rw [hz1] at hz;rw [hx233 0 (by omega) (by omega),hx233 1 (by omega) (by omega)] at hz;cases hz)
theorem At.kept{k b:Nat}{c:Array Value}{T:TypeId}{z:Nat×Nat}{w w':World}(h:At w k (.cells c T z))(hk:Lib.OthersKept 5 (some b) w w')(h5:T≠5)(hb:k≠b):At w' k (.cells c T z):=
 ⟨hk k _ h.e (by simpa using hb) (λc' z' e=>by injection e with _ e2;exact h5 e2)⟩
theorem Bld.cells{B b:Nat}{l:List UInt8}{w:World}(h:Bld B b l w):∃x y,At w b (.cells #[x,y] 150 (0,0)):=by
 rcases h with ⟨_,v,hb,_⟩|⟨_,v,hb,_⟩
 ·exact ⟨_,_,⟨hb⟩⟩
 exact ⟨_,_,⟨hb⟩⟩
theorem Bld.ne{B b k:Nat}{l:List UInt8}{w:World}{c:Array Value}{T:TypeId}{z:Nat×Nat}(h:Bld B b l w)(hk:At w k (.cells c T z))(h1:T≠150):k≠b:=by
 obtain ⟨x,y,hb⟩:=h.cells;rintro rfl;have e:=hk.inj hb;injection e with _ e2;exact h1 e2
theorem Own.kept{B b b0 size n cap:Nat}{e:TypeId}{l:List UInt8}{ao:Option Addr}{xs:List Value}{w w':World}(h:Own w b0 e size ao n cap xs)(hk:Lib.OthersKept 5 (Option.some b) w w')(hB:Bld B b l w)(h5:e≠5)(h1:e≠150):Own w' b0 e size ao n cap xs:=by
 obtain ⟨⟨h0,h2⟩⟩:=h;refine ⟨h0,?_⟩;rcases h2 with h2|⟨g,cap',cur,hv,hb,hg,rest⟩
 ·exact .inl h2
 exact .inr ⟨g,cap',cur,hv,hb,(At.kept ⟨hg⟩ hk h5 (Bld.ne hB ⟨hg⟩ h1)).e,rest⟩
theorem cWSk{w0 w:World}{b:Nat}{l t:List UInt8}(h0:Mod [] w0 w)(h:Bld w0.heap.size b l w)(hl:l.length+t.length<=100000000):
  Calls prog 113 #[pz b,.string (bstr t)] w (λe w'=>e=.returned (.tuple #[.int .i64 (bstr t).size,.nilIface])/\Mod [] w0 w'/\Bld w0.heap.size b (l++t) w'/\Lib.OthersKept 5 (some b) w w'):=
 (Tryz.bWriteString w0.heap.size b _ (bstr t) w h (by simp only [Lib.byteCells,List.length_map,bstr_size];omega) h0.size).mono λe w' ⟨he,hb,hbl,hk⟩=>⟨he,h0.of_below' hbl,Or.inr (by rw [strCells_b,byteCells_append] at hb;exact hb),hk⟩
theorem cBSk{w0 w:World}{b:Nat}{l:List UInt8}(h0:Mod [] w0 w)(h:Bld w0.heap.size b l w):
  Calls prog 115 #[pz b] w (λe w'=>e=.returned (.string (bstr l))/\Mod [] w0 w'/\Bld w0.heap.size b l w'/\Lib.OthersKept 5 (some b) w w'):=
 (Tryz.Builder_String_any_k w0.heap.size b l w h h0.size).mono λe w' ⟨he,hb,hbl,hk⟩=>⟨he,h0.of_below' hbl,hb,hk⟩
def partsV(q:Parts):Array Value:=#[.string (bstr q.a),.string (bstr q.b),.string (bstr q.c),.string (bstr q.d),.string (bstr q.e),.string (bstr q.f),.string (bstr q.g),.string (bstr q.h)]
def cleanP(q:Parts):List UInt8:=q.a++q.b++q.c++q.d++q.e++q.f++q.g++q.h
structure Short(q:Parts):Prop where
 a:q.a.length<=100000
 b:q.b.length<=100000
 c:q.c.length<=100000
 d:q.d.length<=100000
 e:q.e.length<=100000
 f:q.f.length<=100000
 g:q.g.length<=100000
 h:q.h.length<=100000
set_option maxHeartbeats 4000000 in
theorem c178{w:World}(l:List UInt8)(q:Parts)(hz:zzR l=some q)(hl:l.length<=100000):
  CR 178 [.string (bstr l)] w (.tuple #[.agg (partsV q),.nilIface]):=by
 refine en func178 ntmps178 ?_;refine zw<|zA (#[.string (⟨#[]⟩),.string (⟨#[]⟩),.string (⟨#[]⟩),.string (⟨#[]⟩),.string (⟨#[]⟩),.string (⟨#[]⟩),.string (⟨#[]⟩),.string (⟨#[]⟩)]) 220 (some 2) fun b1 w2 hn3=>zs 1 [(0,.string (bstr l)),rz 2 b1]<|zx ?_;refine zs 1 [rz 2 b1,(5,.string (bstr l))]<|zC (some 6) (c189 l q hz hl) ?_;rintro _ w8 ⟨g10,rfl,hm9,hb11,hf12⟩;refine ⟨_,rfl,?_⟩;refine zs 1 [rz 2 b1,(4,.slice (some ⟨g10,0,none⟩) 10 10)]<|zz<|w_seq<|zw ?_;refine zs 3 [rz 2 b1,(4,.slice (some ⟨g10,0,none⟩) 10 10),(9,.bool (((10:Nat):Int)==0))]<|zz ?_;have hc15:(((10:Nat):Int)==0)=false:=rfl;refine w_cond (b:=(((10:Nat):Int)==0)) rfl (λhx=>absurd (hc15.symm.trans hx) (by decide)) (λ_=>?_);refine w_skip<|n_then<|w_seq<|w_tail 25 (by kernel_rfl) (by kernel_rfl) ?_;refine zqo 25 [rz 2 b1,(36,.agg #[.string (bstr q.a),.string (bstr q.b),.string (bstr q.c),.string (bstr q.d),.string (bstr q.e),.string (bstr q.f),.string (bstr q.g),.string (bstr q.h)])] [.prop (0<=(1:Int)/\1<((10:Nat):Int)),.cell ⟨g10,1,none⟩ (.string (bstr q.a)),.prop (0<=(2:Int)/\2<((10:Nat):Int)),.cell ⟨g10,2,none⟩ (.string (bstr q.b)),.prop (0<=(3:Int)/\3<((10:Nat):Int)),.cell ⟨g10,3,none⟩ (.string (bstr q.c)),.prop (0<=(4:Int)/\4<((10:Nat):Int)),.cell ⟨g10,4,none⟩ (.string (bstr q.d)),.prop (0<=(5:Int)/\5<((10:Nat):Int)),.cell ⟨g10,5,none⟩ (.string (bstr q.e)),.prop (0<=(6:Int)/\6<((10:Nat):Int)),.cell ⟨g10,6,none⟩ (.string (bstr q.f)),.prop (0<=(7:Int)/\7<((10:Nat):Int)),.cell ⟨g10,7,none⟩ (.string (bstr q.g)),.prop (0<=(8:Int)/\8<((10:Nat):Int)),.cell ⟨g10,8,none⟩ (.string (bstr q.h))] (λ_ hC=>⟨(zh (by omega)),At.cell (At.on hf12 hC) rfl,(zh (by omega)),At.cell (At.on hf12 hC) rfl,(zh (by omega)),At.cell (At.on hf12 hC) rfl,(zh (by omega)),At.cell (At.on hf12 hC) rfl,(zh (by omega)),At.cell (At.on hf12 hC) rfl,(zh (by omega)),At.cell (At.on hf12 hC) rfl,(zh (by omega)),At.cell (At.on hf12 hC) rfl,(zh (by omega)),At.cell (At.on hf12 hC) rfl⟩)<|q_end (by kernel_rfl) (λa ha w16 hm17=>(?_:Reg _ _ _ _ _ 25 _ w16) a ha);refine zS b1 0 (.agg #[.string (bstr q.a),.string (bstr q.b),.string (bstr q.c),.string (bstr q.d),.string (bstr q.e),.string (bstr q.f),.string (bstr q.g),.string (bstr q.h)]) fun w21 hu22=>zs 1 [rz 2 b1,(3,.nilIface)]<|zz<|w_ret ?_;exact retc2 results178 rfl (by kernel_rfl) (by kernel_rfl) (At.row ya rfl) rfl (⟨rfl,yt⟩)
theorem c179{w:World}(q:Parts)(hs:Short q):
  CR 179 [.agg #[.string (bstr q.a),.string (bstr q.b),.string (bstr q.c),.string (bstr q.d),.string (bstr q.e),.string (bstr q.f),.string (bstr q.g),.string (bstr q.h)]] w (.string (bstr (cleanP q))):=by
 have hm0:Mod [] w w:=Mod.refl _ _;refine en func179 ntmps179 ?_;refine zw<|zA (#[.string (bstr q.a),.string (bstr q.b),.string (bstr q.c),.string (bstr q.d),.string (bstr q.e),.string (bstr q.f),.string (bstr q.g),.string (bstr q.h)]) 220 (some 1) ?_;intro b1 w2 hn3;have hb4:=Nat.le_trans hm0.size hn3.base;have hm5:=hn3.mod;have hm6:=zt hm0 hm5;have hf7:=hn3.at_;refine zs 1 [rz 1 b1]<|zx<|zA (#[.pointer none,.slice none 0 0]) 150 (some 4) ?_;intro b8 w9 hn10;have hb11:=Nat.le_trans hm6.size hn10.base;have hm12:=hn10.mod;have hf13:=At.on hf7 hm12;have hm14:=zt hm6 hm12;have hf15:=hn10.at_;refine zs 1 [rz 1 b1,rz 3 b8]<|zx<|zs 1 [rz 1 b1,rz 3 b8,rz 5 b8]<|zC (some 6) (c183 hf15) ?_;rintro _ w16 ⟨rfl,hm17,hf18⟩;refine ⟨_,rfl,?_⟩;have hf19:=At.keep hf13 hm17 (not_mem1 (At.ne hf13 hf15 rfl));have hm20:=Mod.fresh' hm14 hm17 (by simp<;>omega);refine ze ?_;have hbl21:Bld w.heap.size b8 [] w16:=Bld.new hf18 (by omega);refine zn<|zo 3 [rz 1 b1,rz 3 b8,rz 7 b8,(9,.string (bstr q.a))] [.cell ⟨b1,0,none⟩ (.string (bstr q.a))] (At.cell hf19 rfl)<|zC (some 10) (cWSk (t:=q.a) hm20 hbl21 (by have h1:=hs.a;have h2:=hs.b;have h3:=hs.c;have h4:=hs.d;have h5:=hs.e;have h6:=hs.f;have h7:=hs.g;have h8:=hs.h;simp only [List.length_append,List.length_nil];omega)) ?_;rintro _ w22 ⟨rfl,hm23,hbl24,hk25⟩;refine ⟨_,rfl,?_⟩;have hf26:=At.kept hf19 hk25 (by decide) (Bld.ne hbl21 hf19 (by decide));refine zx<|zo 3 [rz 1 b1,rz 3 b8,rz 11 b8,(13,.string (bstr q.b))] [.cell ⟨b1,1,none⟩ (.string (bstr q.b))] (At.cell hf26 rfl)<|zC (some 14) (cWSk (t:=q.b) hm23 hbl24 (by have h1:=hs.a;have h2:=hs.b;have h3:=hs.c;have h4:=hs.d;have h5:=hs.e;have h6:=hs.f;have h7:=hs.g;have h8:=hs.h;simp only [List.length_append,List.length_nil];omega)) ?_;rintro _ w27 ⟨rfl,hm28,hbl29,hk30⟩;refine ⟨_,rfl,?_⟩;have hf31:=At.kept hf26 hk30 (by decide) (Bld.ne hbl24 hf26 (by decide));refine zx<|zo 3 [rz 1 b1,rz 3 b8,rz 15 b8,(17,.string (bstr q.c))] [.cell ⟨b1,2,none⟩ (.string (bstr q.c))] (At.cell hf31 rfl)<|zC (some 18) (cWSk (t:=q.c) hm28 hbl29 (by have h1:=hs.a;have h2:=hs.b;have h3:=hs.c;have h4:=hs.d;have h5:=hs.e;have h6:=hs.f;have h7:=hs.g;have h8:=hs.h;simp only [List.length_append,List.length_nil];omega)) ?_;rintro _ w32 ⟨rfl,hm33,hbl34,hk35⟩;refine ⟨_,rfl,?_⟩;have hf36:=At.kept hf31 hk35 (by decide) (Bld.ne hbl29 hf31 (by decide));refine zx<|zo 3 [rz 1 b1,rz 3 b8,rz 19 b8,(21,.string (bstr q.d))] [.cell ⟨b1,3,none⟩ (.string (bstr q.d))] (At.cell hf36 rfl)<|zC (some 22) (cWSk (t:=q.d) hm33 hbl34 (by have h1:=hs.a;have h2:=hs.b;have h3:=hs.c;have h4:=hs.d;have h5:=hs.e;have h6:=hs.f;have h7:=hs.g;have h8:=hs.h;simp only [List.length_append,List.length_nil];omega)) ?_;rintro _ w37 ⟨rfl,hm38,hbl39,hk40⟩;refine ⟨_,rfl,?_⟩;have hf41:=At.kept hf36 hk40 (by decide) (Bld.ne hbl34 hf36 (by decide));refine zx<|zo 3 [rz 1 b1,rz 3 b8,rz 23 b8,(25,.string (bstr q.e))] [.cell ⟨b1,4,none⟩ (.string (bstr q.e))] (At.cell hf41 rfl) ?_
 refine zC (some 26) (cWSk (t:=q.e) hm38 hbl39 (by have h1:=hs.a;have h2:=hs.b;have h3:=hs.c;have h4:=hs.d;have h5:=hs.e;have h6:=hs.f;have h7:=hs.g;have h8:=hs.h;simp only [List.length_append,List.length_nil];omega)) ?_;rintro _ w42 ⟨rfl,hm43,hbl44,hk45⟩;refine ⟨_,rfl,?_⟩;have hf46:=At.kept hf41 hk45 (by decide) (Bld.ne hbl39 hf41 (by decide));refine zx<|zo 3 [rz 1 b1,rz 3 b8,rz 27 b8,(29,.string (bstr q.f))] [.cell ⟨b1,5,none⟩ (.string (bstr q.f))] (At.cell hf46 rfl)<|zC (some 30) (cWSk (t:=q.f) hm43 hbl44 (by have h1:=hs.a;have h2:=hs.b;have h3:=hs.c;have h4:=hs.d;have h5:=hs.e;have h6:=hs.f;have h7:=hs.g;have h8:=hs.h;simp only [List.length_append,List.length_nil];omega)) ?_;rintro _ w47 ⟨rfl,hm48,hbl49,hk50⟩;refine ⟨_,rfl,?_⟩;have hf51:=At.kept hf46 hk50 (by decide) (Bld.ne hbl44 hf46 (by decide));refine zx<|zo 3 [rz 1 b1,rz 3 b8,rz 31 b8,(33,.string (bstr q.g))] [.cell ⟨b1,6,none⟩ (.string (bstr q.g))] (At.cell hf51 rfl)<|zC (some 34) (cWSk (t:=q.g) hm48 hbl49 (by have h1:=hs.a;have h2:=hs.b;have h3:=hs.c;have h4:=hs.d;have h5:=hs.e;have h6:=hs.f;have h7:=hs.g;have h8:=hs.h;simp only [List.length_append,List.length_nil];omega)) ?_;rintro _ w52 ⟨rfl,hm53,hbl54,hk55⟩;refine ⟨_,rfl,?_⟩;have hf56:=At.kept hf51 hk55 (by decide) (Bld.ne hbl49 hf51 (by decide));refine zx<|zo 3 [rz 3 b8,rz 35 b8,(37,.string (bstr q.h))] [.cell ⟨b1,7,none⟩ (.string (bstr q.h))] (At.cell hf56 rfl)<|zC (some 38) (cWSk (t:=q.h) hm53 hbl54 (by have h1:=hs.a;have h2:=hs.b;have h3:=hs.c;have h4:=hs.d;have h5:=hs.e;have h6:=hs.f;have h7:=hs.g;have h8:=hs.h;simp only [List.length_append,List.length_nil];omega)) ?_;rintro _ w57 ⟨rfl,hm58,hbl59,hk60⟩;refine ⟨_,rfl,?_⟩;refine zx<|zs 1 [rz 39 b8]<|zC (some 40) (cBSk hm58 hbl59) ?_;rintro _ w62 ⟨rfl,hm63,hbl64,hk65⟩;refine ⟨_,rfl,?_⟩;exact zs 1 [(2,.string (bstr (((((((([]++q.a)++q.b)++q.c)++q.d)++q.e)++q.f)++q.g)++q.h)))]<|zz<|w_ret<|ret1 rfl rfl (⟨ret_str (by unfold cleanP;rfl),hm63⟩)
def cls(x:UInt8):Nat:=
 if x∈[97,98,99,100,101,102,103,104] then 1 else if x∈[48,49,50,51,52,53,54,55,56,57] then 2 else if x∈[81,82,66,78] then 3 else if x∈[75,80] then 4 else
 if x=120 then 5 else if x=61 then 6 else if x=43\/x=35\/x=33\/x=63 then 7 else if x=46 then 9 else 8
def setK(k:Nat):List UInt8:=if k=0 then [82,78,66,81,75,80] else if k=1 then [97,98,99,100,101,102,103,104] else if k=2 then [48,49,50,51,52,53,54,55,56,57] else if k=3 then [120] else if k=4 then [61] else [81,82,66,78]
def inC(k c:Nat):Bool:=if k=0 then c==3||c==4 else if k=1 then c==1 else if k=2 then c==2 else if k=3 then c==5 else if k=4 then c==6 else c==3
def clsChk:Bool:=(List.range 256).all λn=>((List.range 6).all λk=>decide (UInt8.ofNat n∈setK k)==inC k (cls (UInt8.ofNat n)))&&
 ((decide (UInt8.ofNat n=43\/UInt8.ofNat n=35\/UInt8.ofNat n=33\/UInt8.ofNat n=63)==(cls (UInt8.ofNat n)==7))&&(decide (UInt8.ofNat n=46)==(cls (UInt8.ofNat n)==9)))
theorem clsChk_ok:clsChk=true:=by decide+kernel
theorem cls_get(x:UInt8):(∀k,k<6->(x∈setK k↔inC k (cls x)=true))/\((x=43\/x=35\/x=33\/x=63)↔cls x=7)/\(x=46↔cls x=9):=by
 have h:=List.all_eq_true.1 clsChk_ok x.toNat (List.mem_range.2 x.toNat_lt);rw [show UInt8.ofNat x.toNat=x from UInt8.toNat_inj.1 (by rw [UInt8.toNat_ofNat'];have:=x.toNat_lt;omega)] at h;simp only [Bool.and_eq_true,List.all_eq_true,List.mem_range,beq_iff_eq] at h;obtain ⟨h1,h2,h3⟩:=h;refine ⟨λk hk=>?_,?_,?_⟩
 · rw [←h1 k hk,decide_eq_true_eq]
 · rw [←decide_eq_true_eq (p:=(x=43\/x=35\/x=33\/x=63)),h2,beq_iff_eq]
 rw [←decide_eq_true_eq (p:=(x=46)),h3,beq_iff_eq]
def Oc(c:List Nat)(at_:Int)(k:Nat):Int:=if at_<(c.length:Int) then (if inC k (c.getD at_.toNat 0)=true then 1 else 0) else 0
def Tc(c:List Nat)(n:Nat):Bool:=(c.drop n).all (·==7)
theorem one_c(l:List UInt8)(at_:Int){k:Nat}(hk:k<6):oneI l at_ (setK k)=Oc (l.map cls) at_ k:=by
 unfold oneI Oc;rw [List.length_map];by_cases h:at_<(l.length:Int)
 · rw [if_pos h,if_pos h];by_cases h2:at_.toNat<l.length
   · have e:(l.map cls).getD at_.toNat 0=cls (l.getD at_.toNat 0):=by
      rw [List.getD_eq_getElem?_getD,List.getElem?_map,List.getElem?_eq_getElem h2,List.getD_eq_getElem?_getD,List.getElem?_eq_getElem h2];rfl
     rw [e];by_cases h3:l.getD at_.toNat 0∈setK k
     · rw [if_pos h3,if_pos (((cls_get _).1 k hk).1 h3)]
     rw [if_neg h3,if_neg (λhh=>h3 (((cls_get _).1 k hk).2 hh))]
   rw [List.getD_eq_getElem?_getD,List.getElem?_eq_none (by omega),List.getD_eq_getElem?_getD,List.getElem?_eq_none (by rw [List.length_map];omega),Option.getD_none,Option.getD_none];rcases (by omega:k=0\/k=1\/k=2\/k=3\/k=4\/k=5) with rfl|rfl|rfl|rfl|rfl|rfl<;>decide
 rw [if_neg h,if_neg h]
theorem tail_c:∀l:List UInt8,(∀x∈l,cls x≠9)->tailB l=(l.map cls).all (·==7)
 |[],_=>by rw [tailB];rfl
 |x::r,h=>by
  have ih:=tail_c r λy hy=>h y (List.mem_cons_of_mem _ hy);rw [tailB,List.map_cons,List.all_cons];by_cases hx:x=43\/x=35\/x=33\/x=63
  · rw [if_pos hx,ih,beq_iff_eq.2 ((cls_get x).2.1.1 hx),Bool.true_and]
  rw [if_neg hx,beq_eq_false_iff_ne.2 (λe=>hx ((cls_get x).2.1.2 e)),Bool.false_and,if_neg];intro e;cases r with
  |nil=>simp at e
  |cons y r=>
    simp only [List.take_succ_cons,List.cons.injEq] at e;exact h y (by simp) ((cls_get y).2.2.1 e.2.1)
section
variable(O:Int->Nat->Int)(T:Nat->Bool)
def gE(en p:Int):Option Int:=if p<0 then none else if T (en+p).toNat then some p else if p<2 then none else if T (en+(p-2)).toNat then some (p-2) else none
def gP(en:Int):Int:=bif (O en 4==1)&&(O (en+1) 5==1) then 2 else 0
def gD(a b c d:Int):Option (Int×Int×Int×Int×Int):=
  bif (O (a+b+c+d) 1==0)||(O (a+b+c+d+1) 2==0) then none else (gE T (a+b+c+d+2) (gP O (a+b+c+d+2))).map λp=>(a,b,c,d,p)
def gC(a b c:Int):=dn (O (a+b+c) 3) (gD O T a b c)
def gB(a b:Int):=dn (O (a+b) 2) (gC O T a b)
def gA(a:Int):=dn (O a 1) (gB O T a)
def gF:=dn (O 0 0) (gA O T)
end
theorem zz_g(l:List UInt8):zzF l=gF (λat_ k=>oneI l at_ (setK k)) (λn=>tailB (l.drop n)):=rfl
theorem g_congr{O O':Int->Nat->Int}{T T':Nat->Bool}(h:∀a k,k<6->O a k=O' a k)(ht:∀n,T n=T' n):gF O T=gF O' T':=by
 have e0:T=T':=funext ht;subst e0;have e1:gP O=gP O':=by funext en;unfold gP;rw [h _ 4 (by decide),h _ 5 (by decide)]
 have e2:gD O T=gD O' T:=by funext a b c d;unfold gD;rw [e1,h _ 1 (by decide),h _ 2 (by decide)]
 have e3:gC O T=gC O' T:=by funext a b c;unfold gC;rw [e2,h _ 3 (by decide)]
 have e4:gB O T=gB O' T:=by funext a b;unfold gB;rw [e3,h _ 2 (by decide)]
 have e5:gA O T=gA O' T:=by funext a;unfold gA;rw [e4,h _ 1 (by decide)]
 unfold gF;rw [e5,h _ 0 (by decide)]
theorem zz_c{l:List UInt8}(h:∀x∈l,cls x≠9):zzF l=gF (Oc (l.map cls)) (Tc (l.map cls)):=by
 rw [zz_g];refine g_congr (λa k hk=>one_c l a hk) λn=>?_;unfold Tc;rw [←List.map_drop];exact tail_c _ λx hx=>h x (List.mem_of_mem_drop hx)
def C0:List (List Nat):=[[],[3],[4]]
def C1:List (List Nat):=[[],[1]]
def C2:List (List Nat):=[[],[2]]
def C5:List (List Nat):=[[],[5]]
def C6:List (List Nat):=[[],[6,3]]
def C7:List (List Nat):=[[],[7]]
def formChk:Bool:=C0.all λa=>C1.all λb=>C2.all λc=>C5.all λd=>C6.all λg=>C7.all λs=>
 gF (Oc (a++b++c++d++[1,2]++g++s)) (Tc (a++b++c++d++[1,2]++g++s))==some ((a.length:Int),(b.length:Int),(c.length:Int),(d.length:Int),(g.length:Int))&&
 (a++b++c++d++[1,2]++g++s).all (·!=9)
theorem formChk_ok:formChk=true:=by decide+kernel
theorem sub_mid(x y z:List UInt8){i n:Int}(hi:i=x.length)(hn:n=y.length):subL (x++y++z) i n=y:=by
 subst hi;subst hn;unfold subL;rw [Int.toNat_natCast,Int.toNat_natCast,List.append_assoc,List.drop_left,List.take_left]
structure Form(q:Parts)(e f:UInt8)(s:List UInt8):Prop where
 a:q.a.map cls∈C0
 b:q.b.map cls∈C1
 c:q.c.map cls∈C2
 d:q.d.map cls∈C5
 e:q.e=[e]/\cls e=1
 f:q.f=[f]/\cls f=2
 g:q.g.map cls∈C6
 h:q.h=[]
 s:s.map cls∈C7
theorem zz_form{q:Parts}{e f:UInt8}{s:List UInt8}(h:Form q e f s):zzR (q.a++q.b++q.c++q.d++[e,f]++q.g++s)=some q:=by
 have hk:=List.all_eq_true.1 (List.all_eq_true.1 (List.all_eq_true.1 (List.all_eq_true.1 (List.all_eq_true.1 (List.all_eq_true.1 formChk_ok _ h.a) _ h.b) _ h.c) _ h.d) _ h.g) _ h.s;have em:(q.a++q.b++q.c++q.d++[e,f]++q.g++s).map cls=q.a.map cls++q.b.map cls++q.c.map cls++q.d.map cls++[1,2]++q.g.map cls++s.map cls:=by
  simp only [List.map_append,List.map_cons,List.map_nil,h.e.2,h.f.2]
 rw [Bool.and_eq_true,←em,beq_iff_eq,List.all_eq_true] at hk;simp only [List.length_map] at hk;have h9:∀x∈(q.a++q.b++q.c++q.d++[e,f]++q.g++s),cls x≠9:=λx hx=>by
  have:=hk.2 (cls x) (List.mem_map.2 ⟨x,hx,rfl⟩);simpa using this
 unfold zzR;rw [zz_c h9,hk.1];show some (partsOf _ _ _ _ _ _)=_;congr 1;obtain ⟨a,b,c,d,e',f',g,z⟩:=q;obtain ⟨_,_,_,_,⟨he,_⟩,⟨hf,_⟩,_,hz,_⟩:=h;dsimp only at he hf hz⊢;subst he;subst hf;subst hz;unfold partsOf;have s1:subL (a++b++c++d++[e,f]++g++s) 0 a.length=a:=by
  have:=sub_mid [] a (b++c++d++[e,f]++g++s) (i:=0) rfl rfl;simpa using this
 have s2:subL (a++b++c++d++[e,f]++g++s) a.length b.length=b:=by
  have:=sub_mid a b (c++d++[e,f]++g++s) rfl rfl;simpa using this
 have s3:subL (a++b++c++d++[e,f]++g++s) (a.length+b.length) c.length=c:=by
  have:=sub_mid (a++b) c (d++[e,f]++g++s) (i:=a.length+b.length) (by simp) rfl;simpa using this
 have s4:subL (a++b++c++d++[e,f]++g++s) (a.length+b.length+c.length) d.length=d:=by
  have:=sub_mid (a++b++c) d ([e,f]++g++s) (i:=a.length+b.length+c.length) (by simp;omega) rfl;simpa using this
 have s5:subL (a++b++c++d++[e,f]++g++s) (a.length+b.length+c.length+d.length) 1=[e]:=by
  have:=sub_mid (a++b++c++d) [e] ([f]++g++s) (i:=a.length+b.length+c.length+d.length) (by simp;omega) (n:=1) rfl;simpa using this
 have s6:subL (a++b++c++d++[e,f]++g++s) (a.length+b.length+c.length+d.length+1) 1=[f]:=by
  have:=sub_mid (a++b++c++d++[e]) [f] (g++s) (i:=a.length+b.length+c.length+d.length+1) (by simp;omega) (n:=1) rfl;simpa using this
 have s7:subL (a++b++c++d++[e,f]++g++s) (a.length+b.length+c.length+d.length+2) g.length=g:=by
  have:=sub_mid (a++b++c++d++[e,f]) g s (i:=a.length+b.length+c.length+d.length+2) (by simp;omega) rfl;simpa using this
 rw [s1,s2,s3,s4,s5,s6,s7]
theorem bstr_ext(l:List UInt8)(n:Nat):((bstr l).extract 0 n).toList=l.take n:=by
 have:=ext_sub l (i:=0) (j:=(n:Int)) (n:=(n:Int)) (by decide) (by omega) (by omega);rw [Int.toNat_natCast,show (0:Int).toNat=0 from rfl] at this;rw [this,bstr_toList];rfl
theorem okK_eq(l:List UInt8)(j:Int):okK l j=((decide ((oooS j).length<=l.length)&&(l.take (oooS j).length==oooS j))&&tailB (l.drop (oooS j).length)):=by
 unfold okK;rw [bstr_size,bstr_size,Int.toNat_natCast,bstr_ext,bstr_toList];congr 2;rw [decide_eq_decide];omega
theorem zz_castle(j:Int)(s:List UInt8)(hs:s.map cls∈C7):zzR (oooS j++s)=some (castP (oooS j)):=by
 have hs':∀x∈s,cls x≠9:=by
  intro x hx e;have:s.map cls=[]\/s.map cls=[7]:=by simpa [C7] using hs
  rcases this with h|h
  · rw [List.map_eq_nil_iff.1 h] at hx;cases hx
  have hm:cls x∈s.map cls:=List.mem_map.2 ⟨x,hx,rfl⟩;rw [h,List.mem_singleton] at hm;omega
 have ht:tailB s=true:=by
  rw [tail_c s hs'];have:s.map cls=[]\/s.map cls=[7]:=by simpa [C7] using hs
  rcases this with h|h<;>rw [h]<;>rfl
 have h9:∀x∈oooS j++s,cls x≠9:=by
  intro x hx;rcases List.mem_append.1 hx with h|h
  · have hx':x=79\/x=45:=by
     by_cases e1:x=79
     · exact Or.inl e1
     by_cases e2:x=45
     · exact Or.inr e2
     exfalso;unfold oooS at h;split at h<;>simp [e1,e2] at h
    rcases hx' with e|e<;>rw [e]<;>decide
  exact hs' x h
 have hc:s.map cls=[]\/s.map cls=[7]:=by simpa [C7] using hs
 have hl:s.length<=1:=by rcases hc with h|h<;>(have:=congrArg List.length h;rw [List.length_map] at this;simp only [List.length_nil,List.length_cons] at this;omega)
 unfold zzR;rw [zz_c h9,List.map_append];by_cases hj:j=0
 · subst hj;have e:(oooS 0).map cls=[8,8,8,8,8]:=by decide
   have hn:gF (Oc ([8,8,8,8,8]++s.map cls)) (Tc ([8,8,8,8,8]++s.map cls))=none:=by rcases hc with h|h<;>rw [h]<;>decide+kernel
   rw [e,hn];show (if okK _ 0=true then _ else _)=_;rw [okK_eq,List.take_left,List.drop_left,ht,if_pos];simp
 have eo:oooS j=[79,45,79]:=by unfold oooS;rw [if_neg hj]
 have e:(oooS j).map cls=[8,8,8]:=by rw [eo];decide
 have hn:gF (Oc ([8,8,8]++s.map cls)) (Tc ([8,8,8]++s.map cls))=none:=by rcases hc with h|h<;>rw [h]<;>decide+kernel
 rw [e,hn];show (if okK _ 0=true then _ else if okK _ 1=true then _ else _)=_;rw [okK_eq,okK_eq,if_neg,if_pos]
 · rw [eo];rfl
 · rw [show oooS 1=[79,45,79] from rfl,eo,List.take_left' rfl,List.drop_left' rfl,ht];simp
 rw [eo,show (oooS 0).length=5 from rfl];have:¬5<=([79,45,79]++s).length:=by simp;omega
 simp [this];omega
section
variable{P:Program}{n:Nat}{D:List Deferred}{ops:Array Oper}{Q:Exit->Act->World->Prop}{w:World}{L:List (Nat×Value)}
theorem a_both2{k:Nat}{ls:List Nat}(i j:Nat)(f:FuncId)(vs:List Value)(dst:Option Nat)(h:callAt P n ops.toList i L=some (f,vs,dst))(v':Value)(dst':Option Nat)(obs:List Ob)(rs:List Value)(h':pureAt P n ops.toList j L rs=some (v',dst',obs))
  (hr:Region.ready .any ops (lstd ops ls)=[j,i]){R:Ending->World->Prop}(hc:Calls P f vs.toArray w R)(ho':Obs w obs)
  (hk:∀x w2,R x w2->∃v,x=.returned v/\AReg P n D ops Q k (i::ls) (setD dst v L) w2)(hk':AReg P n D ops Q k (j::ls) (setD dst' v' L) w):AReg P n D ops Q (k+1) ls L w:=by
 intro a ha;refine wpAny_all hr (by simp) λq hq=>?_;rcases List.mem_cons.1 hq with rfl|hq
 ·exact a_op h' (Obs.all ho') hk' ha
 rw [List.mem_singleton] at hq;subst hq;obtain ⟨o,ho,hdst,hd,hw,hrun⟩:=callAt_spec (ops:=ops) h ha;have ho2:ops[q]?=some o:=by simpa using ho
 unfold wpOp;simp only [ho2,hw,if_true];refine .inl ?_;simp only [Oper.wp,hrun,Oper.upon];refine hc.mono λx w2 hR=>?_;obtain ⟨v,rfl,hv⟩:=hk x w2 hR;have:=hv _ (ha.setD hd v);rw [←hdst] at this;exact this
theorem a_bothS{k:Nat}{ls:List Nat}(i j:Nat)(cs:Array Value)(t:TypeId)(len:Nat)(dst:Option Nat)(h:bsliceAt P n ops.toList i L=some (cs,t,len,dst))(v':Value)(dst':Option Nat)(obs:List Ob)(rs:List Value)(h':pureAt P n ops.toList j L rs=some (v',dst',obs))
  (hr:Region.ready .any ops (lstd ops ls)=[j,i])(ho':Obs w obs)
  (hk:∀b w',New w w' b (.cells cs t (0,0))->AReg P n D ops Q k (i::ls) (setD dst (.slice (some ⟨b,0,none⟩) len len) L) w')(hk':AReg P n D ops Q k (j::ls) (setD dst' v' L) w):AReg P n D ops Q (k+1) ls L w:=by
 intro a ha;refine wpAny_all hr (by simp) λq hq=>?_;rcases List.mem_cons.1 hq with rfl|hq
 ·exact a_op h' (Obs.all ho') hk' ha
 rw [List.mem_singleton] at hq;subst hq;obtain ⟨o,ho,hdst,hd,hw,hrun⟩:=bsliceAt_spec (ops:=ops) h ha;have ho2:ops[q]?=some o:=by simpa using ho
 unfold wpOp;simp only [ho2,hw,if_true];refine .inl ?_;simp only [Oper.wp,hrun,Oper.upon];have:=hk _ _ (New.alloc w _) _ (ha.setD hd _);rw [←hdst] at this;exact this
theorem w_join{γ:Type}{c:Code}(L':γ->List (Nat×Value))(I:γ->World->Prop)(h:W P n D c (Exit.then (λa w'=>∃g,Hold n (L' g) D a/\I g w') (λ_ _ _=>False)) L w)
  (hk:∀g w',I g w'->∀a,Hold n (L' g) D a->Q .normal a w'):W P n D c Q L w:=λa ha=>
 Code.wp_mono (λe a' w' q=>by
  cases e<;>first
   |(obtain ⟨g,hh,hi⟩:=q;exact hk g w' hi a' hh)
   |exact q.elim) (h a ha)
end
theorem Bld.keepO{B b b0 size n cap:Nat}{e:TypeId}{l:List UInt8}{ao:Option Addr}{xs:List Value}{w w':World}(h:Bld B b l w)(ho:Own w b0 e size ao n cap xs)(m:Mod (blk ao) w w')(h1:e≠150)(h2:e≠5):Bld B b l w':=by
 have ne:∀{g:Nat} {c':Array Value} {T':TypeId} {z':Nat×Nat},At w g (.cells c' T' z')->e≠T'->g∉blk ao:=by
  intro g c' T' z' hg hT hm;rcases ho.ow.2 with ⟨hv,_⟩|⟨g',cap',cur,hv,hb,ha,rest⟩
  ·simp only [Value.slice.injEq] at hv;rw [hv.1] at hm;simp [blk] at hm
  ·simp only [Value.slice.injEq] at hv;rw [hv.1] at hm;simp only [blk,List.mem_singleton] at hm;subst hm;have e2:=At.inj ⟨ha⟩ hg;injection e2 with _ e3;exact hT e3
 have key:∀p,Lib.BuilderAtF 150 5 B b p (Lib.byteCells l) w->Lib.BuilderAtF 150 5 B b p (Lib.byteCells l) w':=by
  rintro p ⟨hB,v,hb,hown,hne⟩;refine ⟨hB,v,(At.keep (w:=w) ⟨hb⟩ m (ne ⟨hb⟩ h1)).e,?_,hne⟩;obtain ⟨h1',h2'⟩:=hown;refine ⟨h1',?_⟩;rcases h2' with h2'|⟨g,cap,cur,fz,hv,hg,ha,rest⟩
  ·exact Or.inl h2'
  ·exact Or.inr ⟨g,cap,cur,fz,hv,hg,(At.keep (w:=w) ⟨ha⟩ m (ne ⟨ha⟩ h2)).e,rest⟩
 rcases h with h|h
 ·exact Or.inl (key _ h)
 ·exact Or.inr (key _ h)
def strs(l:List (List UInt8)):List Value:=l.map λs=>.string (bstr s)
theorem strs_append(a b:List (List UInt8)):strs (a++b)=strs a++strs b:=by simp [strs]
theorem strs_one(l:List (List UInt8)):∀u∈strs l,u.oneCell'=true:=by
 intro u hu;obtain ⟨s,_,rfl⟩:=List.mem_map.1 hu;rfl
theorem bstr_ne(l:List UInt8):(!((bstr l).toList==(⟨#[]⟩:ByteArray).toList))=(l !=[]):=by rw [bstr_toList,nil_toList];rfl
def optsP(q:Parts):List (List UInt8):=
 bif q.a !=[] then [q.a++q.d++q.e++q.f++q.g++q.h,q.a++q.c++q.d++q.e++q.f++q.g++q.h,q.a++q.b++q.d++q.e++q.f++q.g++q.h]
 else (bif q.d !=[] then [q.b++q.d++q.e++q.f++q.g] else [])++(bif (q.b !=[])&&(q.c !=[]) then [q.d++q.e++q.f++q.g] else [])
theorem c183k{b:Nat}{x y:Value}{w:World}(hb:At w b (.cells #[x,y] 150 (0,0))):
  CQ 183 [.pointer (some ⟨b,0,none⟩)] w (λe w'=>e=.returned (.tuple #[])/\Mod [b] w w'/\At w' b (.cells #[.pointer none,.slice none 0 0] 150 (0,0))):=by
 have hm0:Mod [b] w w:=Mod.refl _ _;refine en func183 ntmps183 ?_;refine zw<|yS 3<|zS b 0 (.pointer none) ?_;intro w1 hu2;have hm4:=Mod.fresh' hm0 hu2.mod (by simp<;>omega);refine zz<|w_region<|yS 3<|zS b 1 (.slice none 0 0) ?_;intro w6 hu7;have hm9:=Mod.fresh' hm4 hu7.mod (by simp<;>omega);exact ze<|end0 results183 (⟨rfl,hm9,hu7.at_⟩)
structure GO(q:Parts)(w:World)(b1 b3 b4:Nat)(l:List (List UInt8))(bs:List UInt8)(w':World):Prop where
 mod:Mod [] w w'
 box:At w' b1 (.cells (partsV q) 220 (0,0))
 opt:∃ao cap,At w' b3 (.cells #[.slice ao l.length cap] 82 (0,0))/\Own w' w.heap.size 9 1 ao l.length cap (strs l)
 bld:Bld w.heap.size b4 bs w'
 lo:w.heap.size<=b3
abbrev LO(b1 b3 b4:Nat):List (Nat×Value):=[rz 1 b1,rz 3 b3,rz 4 b4]
theorem Bld.base{B b:Nat}{l:List UInt8}{w:World}(h:Bld B b l w):B<=b:=by rcases h with h|h<;>exact h.1
section
variable{ops:Array Oper}{Q:Exit->Act->World->Prop}{y:Code}{id:Nat}{q:Parts}{w w':World}{b1 b3 b4:Nat}{l:List (List UInt8)}{bs:List UInt8}
theorem go_then{L:List (Nat×Value)}(hy:∀w'',GO q w b1 b3 b4 l bs w''->W prog 201 [] y Q (LO b1 b3 b4) w'')(h:GO q w b1 b3 b4 l bs w')(hk:keepL L [1,3,4]=some (LO b1 b3 b4)):
  ∀a,Hold 201 L [] a->Exit.then (λa w=>y.wp prog Q a w) Q .normal a w':=n_then λa ha=>hy w' h a (ha.keep hk)
theorem go_ws(k z:Nat)(t:List UInt8)(h:GO q w b1 b3 b4 l bs w')(hy:∀w'',GO q w b1 b3 b4 l (bs++t) w''->W prog 201 [] y Q (LO b1 b3 b4) w'')
  (hc:(partsV q)[k]?=some (.string (bstr t)):=by rfl)(hl:bs.length+t.length<=100000000:=by (simp only [List.length_append,List.length_nil];omega))
  (h1:evSeg prog 201 ops.toList 0 3 (LO b1 b3 b4) [.string (bstr t)] [1,3,4,z,z+2]=some (LO b1 b3 b4++[rz z b4,(z+2,.string (bstr t))],[.cell ⟨b1,k,none⟩ (.string (bstr t))]):=by kernel_rfl)
  (h2:callAt prog 201 ops.toList 3 (LO b1 b3 b4++[rz z b4,(z+2,.string (bstr t))])=some (113,[pz b4,.string (bstr t)],some (z+3)):=by kernel_rfl)
  (h3:(ops.toList.drop 4).isEmpty=true:=by kernel_rfl)(h4:∀v,keepL (setD (some (z+3)) v (LO b1 b3 b4++[rz z b4,(z+2,.string (bstr t))])) [1,3,4]=some (LO b1 b3 b4):=by intro v;kernel_rfl):
  W prog 201 [] (.seq (.region id ops false) y) Q (LO b1 b3 b4) w':=by
 refine w_seq (w_region ?_);refine reg_seg 3 _ _ _ _ h1 (At.cell h.box hc)<|reg_call 113 _ _ h2 (cWSk h.mod h.bld hl) ?_;rintro _ w2 ⟨rfl,hm,hb,hk⟩;refine ⟨_,rfl,?_⟩;obtain ⟨ao,cap,ho,hw⟩:=h.opt;exact reg_end h3 (go_then hy ⟨hm,At.kept h.box hk (by decide) (Bld.ne h.bld h.box (by decide)),⟨ao,cap,At.kept ho hk (by decide) (Bld.ne h.bld ho (by decide)),Own.kept hw hk h.bld (by decide) (by decide)⟩,hb,h.lo⟩ (h4 _))
theorem go_rs(z:Nat)(h:GO q w b1 b3 b4 l bs w')(hy:∀w'',GO q w b1 b3 b4 l [] w''->W prog 201 [] y Q (LO b1 b3 b4) w'')
  (h1:evSeg prog 201 ops.toList 0 1 (LO b1 b3 b4) [] [1,3,4,z]=some (LO b1 b3 b4++[rz z b4],[]):=by kernel_rfl)
  (h2:callAt prog 201 ops.toList 1 (LO b1 b3 b4++[rz z b4])=some (183,[pz b4],some (z+1)):=by kernel_rfl)
  (h3:(ops.toList.drop 2).isEmpty=true:=by kernel_rfl)(h4:∀v,keepL (setD (some (z+1)) v (LO b1 b3 b4++[rz z b4])) [1,3,4]=some (LO b1 b3 b4):=by intro v;kernel_rfl):
  W prog 201 [] (.seq (.region id ops false) y) Q (LO b1 b3 b4) w':=by
 refine w_seq (w_region ?_);refine reg_seg 1 _ _ _ _ h1 trivial ?_;obtain ⟨x,u,hc⟩:=Bld.cells h.bld;refine reg_call 183 _ _ h2 (c183k hc) ?_;rintro _ w2 ⟨rfl,hm,hb⟩;refine ⟨_,rfl,?_⟩;obtain ⟨ao,cap,ho,hw⟩:=h.opt;have hbase:=Bld.base h.bld;exact reg_end h3 (go_then hy ⟨Mod.fresh' h.mod hm (λx hx=>Or.inr (by simp at hx;omega)),At.keep h.box hm (not_mem1 (At.ne h.box hc rfl)),⟨ao,cap,At.keep ho hm (not_mem1 (At.ne ho hc rfl)),Own.keep hw hm (Own.sep hw hc rfl)⟩,Bld.new hb hbase,h.lo⟩ (h4 _))
theorem go_tl(z:Nat){L:List (Nat×Value)}{g:Nat}(h:GO q w b1 b3 b4 l bs w')(hl:l.length<=10){ao:Option Addr}{cap:Nat}(ho:At w' b3 (.cells #[.slice ao l.length cap] 82 (0,0)))(hw:Own w' w.heap.size 9 1 ao l.length cap (strs l))
  (hg:At w' g (.cells #[.string (bstr bs)] 9 (0,0)))
  (hy:∀w'',GO q w b1 b3 b4 (l++[bs]) bs w''->∀a,Hold 201 (LO b1 b3 b4) [] a->Q .normal a w'')
  (h1:appendAt prog 201 ops.toList 7 L=some (.slice ao l.length cap,.slice (some ⟨g,0,none⟩) 1 1,9,some (z+7),1,16,1))
  (h2:∀v,evSeg prog 201 ops.toList 8 1 (setD (some (z+7)) v L) [] [1,3,4,z+7,z+8]=some (LO b1 b3 b4++[(z+7,v),rz (z+8) b3],[]))
  (h3:∀ao n cap,storeAt prog 201 ops.toList 9 (LO b1 b3 b4++[(z+7,.slice ao n cap),rz (z+8) b3])=some (⟨b3,0,none⟩,.slice ao n cap,none,some 1))
  (h4:(ops.toList.drop 10).isEmpty=true):Reg prog 201 [] ops (onlyN Q) 7 L w':=by
 have hs:=h.mod.size;have hle:(strs [bs])=[.string (bstr bs)]:=rfl;refine reg_append2 ao l.length cap ⟨g,0,none⟩ 1 1 9 (some (z+7)) 1 16 (b0:=w.heap.size) (xs:=strs l) (news:=strs [bs]) h1 hw (by decide) rfl (at_cells (l:=strs [bs]) (by exact hg)) (strs_one _) (by omega) hs fun ao2 cap2 w2 ho2 hm2 _=>reg_seg 1 _ _ _ _ (h2 _) trivial ?_;have hb3:=At.keep ho hm2 (own_off hw ho rfl);refine reg_store b3 0 (.slice ao2 (l.length+1) cap2) none (h3 _ _ _) hb3 (Nat.le_of_ble_eq_true rfl) rfl fun w3 hu=>reg_end h4 (only_n ?_);have hB2:=Bld.keepO h.bld hw hm2 (by decide) (by decide);have hx2:=At.keep h.box hm2 (own_off hw h.box rfl);have hm3:=Mod.fresh' h.mod hm2 (λx hx=>Or.inr (by have:=Own.lt hw x hx;omega));have hlen:(l++[bs]).length=l.length+1:=by simp
 intro a ha;refine hy w3 ⟨Mod.fresh' hm3 hu.mod (λx hx=>Or.inr (by have:=h.lo;simp at hx;omega)),At.keep hx2 hu.mod (not_mem1 (At.ne hx2 hb3 rfl)),⟨ao2,cap2,by rw [hlen];exact hu.at_,?_⟩,Bld.keep hB2 hu.mod hb3 (by decide) (by decide),h.lo⟩ a (ha.keep (ks:=[1,3,4]) rfl);rw [hlen,strs_append];exact Own.keep ho2 hu.mod (Own.sep ho2 hb3 rfl)
abbrev LA(b1 b3 b4 z:Nat):List (Nat×Value):=rz (z+4) b4::rz (z+2) b3::rz (z+1) b3::rz z b3::LO b1 b3 b4
theorem go_add0(z:Nat)(h:GO q w b1 b3 b4 l bs w')(hl:l.length<=10)
  (hy:∀w'',GO q w b1 b3 b4 (l++[bs]) bs w''->∀a,Hold 201 (LO b1 b3 b4) [] a->Q .normal a w'')
  (hsz:ops.size=10:=by kernel_rfl)(hm:(prog).follows .mixedOrders=true:=by kernel_rfl)(hd:(ops.toList.drop 10).isEmpty=true:=by kernel_rfl)
  (p0:pureAt prog 201 ops.toList 0 (LO b1 b3 b4) []=some (pz b3,some z,[]):=by kernel_rfl)
  (p1:pureAt prog 201 ops.toList 1 (rz z b3::LO b1 b3 b4) []=some (pz b3,some (z+1),[]):=by kernel_rfl)
  (p2:pureAt prog 201 ops.toList 2 (rz (z+1) b3::rz z b3::LO b1 b3 b4) []=some (pz b3,some (z+2),[]):=by kernel_rfl)
  (p4:pureAt prog 201 ops.toList 4 (rz (z+2) b3::rz (z+1) b3::rz z b3::LO b1 b3 b4) []=some (pz b4,some (z+4),[]):=by kernel_rfl)
  (t0:(takeB ops [] 0&&(takeB ops [0] 1&&(takeB ops [1,0] 2&&takeB ops [2,1,0] 4)))=true:=by kernel_rfl)
  (r0:Region.ready .any ops (lstd ops [4,2,1,0])=[3,5]:=by kernel_rfl)(r1:Region.ready .any ops (lstd ops [5,4,2,1,0])=[3,6]:=by kernel_rfl)
  (r2:Region.ready .any ops (lstd ops [6,5,4,2,1,0])=[3]:=by kernel_rfl)(r3:Region.ready .any ops (lstd ops [3,4,2,1,0])=[5]:=by kernel_rfl)
  (s1:(Region.seqB .any ops (ops.size-7) 7 (lstd ops [3,6,5,4,2,1,0])&&(Region.seqB .any ops (ops.size-6) 6 (lstd ops [3,5,4,2,1,0])&&Region.seqB .any ops (ops.size-6) 6 (lstd ops [5,3,4,2,1,0])))=true:=by kernel_rfl)
  (c1:callAt prog 201 ops.toList 5 (LA b1 b3 b4 z)=some (115,[pz b4],some (z+5)):=by kernel_rfl)
  (c2:∀x,callAt prog 201 ops.toList 5 ((z+3,x)::LA b1 b3 b4 z)=some (115,[pz b4],some (z+5)):=by intro x;kernel_rfl)
  (q1:∀ao n cap,pureAt prog 201 ops.toList 3 (LA b1 b3 b4 z) [.slice ao n cap]=some (.slice ao n cap,some (z+3),[.cell ⟨b3,0,none⟩ (.slice ao n cap)]):=by intro ao n cap;kernel_rfl)
  (q2:∀ao n cap x,pureAt prog 201 ops.toList 3 ((z+5,x)::LA b1 b3 b4 z) [.slice ao n cap]=some (.slice ao n cap,some (z+3),[.cell ⟨b3,0,none⟩ (.slice ao n cap)]):=by intro ao n cap x;kernel_rfl)
  (q3:∀ao n cap x u,pureAt prog 201 ops.toList 3 ((z+6,u)::(z+5,x)::LA b1 b3 b4 z) [.slice ao n cap]=some (.slice ao n cap,some (z+3),[.cell ⟨b3,0,none⟩ (.slice ao n cap)]):=by intro ao n cap x u;kernel_rfl)
  (b5:∀x,bsliceAt prog 201 ops.toList 6 ((z+5,.string x)::LA b1 b3 b4 z)=some (#[.string x],9,1,some (z+6)):=by intro x;kernel_rfl)
  (b6:∀x u,bsliceAt prog 201 ops.toList 6 ((z+3,u)::(z+5,.string x)::LA b1 b3 b4 z)=some (#[.string x],9,1,some (z+6)):=by intro x u;kernel_rfl)
  (b7:∀x u,bsliceAt prog 201 ops.toList 6 ((z+5,.string x)::(z+3,u)::LA b1 b3 b4 z)=some (#[.string x],9,1,some (z+6)):=by intro x u;kernel_rfl)
  (a1:∀ao n cap x g,appendAt prog 201 ops.toList 7 ((z+3,.slice ao n cap)::(z+6,.slice (some ⟨g,0,none⟩) 1 1)::(z+5,x)::LA b1 b3 b4 z)=some (.slice ao n cap,.slice (some ⟨g,0,none⟩) 1 1,9,some (z+7),1,16,1):=by intro ao n cap x g;kernel_rfl)
  (a2:∀ao n cap x g,appendAt prog 201 ops.toList 7 ((z+6,.slice (some ⟨g,0,none⟩) 1 1)::(z+3,.slice ao n cap)::(z+5,x)::LA b1 b3 b4 z)=some (.slice ao n cap,.slice (some ⟨g,0,none⟩) 1 1,9,some (z+7),1,16,1):=by intro ao n cap x g;kernel_rfl)
  (a3:∀ao n cap x g,appendAt prog 201 ops.toList 7 ((z+6,.slice (some ⟨g,0,none⟩) 1 1)::(z+5,x)::(z+3,.slice ao n cap)::LA b1 b3 b4 z)=some (.slice ao n cap,.slice (some ⟨g,0,none⟩) 1 1,9,some (z+7),1,16,1):=by intro ao n cap x g;kernel_rfl)
  (e1:∀i j k x y u v,(i,j,k)∈[(z+3,z+6,z+5),(z+6,z+3,z+5),(z+6,z+5,z+3)]->evSeg prog 201 ops.toList 8 1 (setD (some (z+7)) v ((i,x)::(j,y)::(k,u)::LA b1 b3 b4 z)) [] [1,3,4,z+7,z+8]=some (LO b1 b3 b4++[(z+7,v),rz (z+8) b3],[]):=by
   (intro i j k x y u v h;simp only [List.mem_cons,Prod.mk.injEq,List.not_mem_nil,or_false] at h;rcases h with ⟨rfl,rfl,rfl⟩|⟨rfl,rfl,rfl⟩|⟨rfl,rfl,rfl⟩<;>kernel_rfl))
  (st:∀ao n cap,storeAt prog 201 ops.toList 9 (LO b1 b3 b4++[(z+7,.slice ao n cap),rz (z+8) b3])=some (⟨b3,0,none⟩,.slice ao n cap,none,some 1):=by intro ao n cap;kernel_rfl):
  W prog 201 [] (.region id ops true) Q (LO b1 b3 b4) w':=by
 simp only [Bool.and_eq_true] at t0 s1;obtain ⟨t0,t1,t2,t4⟩:=t0;obtain ⟨s1,s2,s3⟩:=s1;refine a_start (f:=10) hsz hm λw1 hm1=>?_;have h:GO q w b1 b3 b4 l bs w1:=by
  obtain ⟨ao,cap,ho,hw⟩:=h.opt;exact ⟨h.mod.trans hm1,h.box.on hm1,⟨ao,cap,ho.on hm1,hw.on hm1⟩,h.bld.on hm1,h.lo⟩
 obtain ⟨ao,cap,ho,hw⟩:=h.opt;have hbase:=h.lo;refine a_take 0 (pz b3) (some z) [] [] p0 t0 trivial<|a_take 1 (pz b3) (some (z+1)) [] [] p1 t1 trivial<|a_take 2 (pz b3) (some (z+2)) [] [] p2 t2 trivial<|a_take 4 (pz b4) (some (z+4)) [] [] p4 t4 trivial ?_;have calls:∀{L:List (Nat×Value)} {ls:List Nat} {f:Nat},(∀w2,GO q w b1 b3 b4 l bs w2->At w2 b3 (.cells #[.slice ao l.length cap] 82 (0,0))->Own w2 w.heap.size 9 1 ao l.length cap (strs l)->AReg prog 201 [] ops Q f ls (setD (some (z+5)) (.string (bstr bs)) L) w2)->
   ∀x w2,(λe w'=>e=Ending.returned (.string (bstr bs))/\Mod [] w w'/\Bld w.heap.size b4 bs w'/\Lib.OthersKept 5 (some b4) w1 w') x w2->∃v,x=.returned v/\AReg prog 201 [] ops Q f ls (setD (some (z+5)) v L) w2:=by
  rintro L ls f hk x w2 ⟨rfl,hm2,hb2,hk2⟩;have ho2:=At.kept ho hk2 (by decide) (Bld.ne h.bld ho (by decide));have hw2:=Own.kept hw hk2 h.bld (by decide) (by decide);exact ⟨_,rfl,hk w2 ⟨hm2,At.kept h.box hk2 (by decide) (Bld.ne h.bld h.box (by decide)),⟨ao,cap,ho2,hw2⟩,hb2,h.lo⟩ ho2 hw2⟩
 have news:∀{w2 w3:World} {g:Nat},GO q w b1 b3 b4 l bs w2->New w2 w3 g (.cells #[.string (bstr bs)] 9 (0,0))->GO q w b1 b3 b4 l bs w3:=by
  intro w2 w3 g hh hn;obtain ⟨ao,cap,ho,hw⟩:=hh.opt;exact ⟨hh.mod.trans hn.mod,hh.box.on hn.mod,⟨ao,cap,ho.on hn.mod,hw.on hn.mod⟩,hh.bld.on hn.mod,hh.lo⟩
 refine a_both2 5 3 115 [pz b4] (some (z+5)) c1 (.slice ao l.length cap) (some (z+3)) [.cell ⟨b3,0,none⟩ (.slice ao l.length cap)] [.slice ao l.length cap] (q1 _ _ _) r0 (cBSk h.mod h.bld) (At.cell ho rfl) (calls λw2 h2 ho hw=>?_) ?_
 ·refine a_bothS 6 3 #[.string (bstr bs)] 9 1 (some (z+6)) (b5 _) (.slice ao l.length cap) (some (z+3)) [.cell ⟨b3,0,none⟩ (.slice ao l.length cap)] [.slice ao l.length cap] (q2 _ _ _ _) r1 (At.cell ho rfl) ?_ ?_
  ·intro g w3 hn;have ho3:=ho.on hn.mod;have hw3:=hw.on hn.mod;exact a_one 3 (.slice ao l.length cap) (some (z+3)) [.cell ⟨b3,0,none⟩ (.slice ao l.length cap)] [.slice ao l.length cap] (q3 _ _ _ _ _) r2 (At.cell ho3 rfl)<|a_tail 7 (by omega) s1<|go_tl z (news h2 hn) hl ho3 hw3 hn.at_ hy (a1 _ _ _ _ _) (λv=>e1 _ _ _ _ _ _ _ (by simp)) st hd
  exact a_tail 6 (by omega) s2<|reg_bslice #[.string (bstr bs)] 9 1 (some (z+6)) (b6 _ _) fun g w3 hn=>go_tl z (news h2 hn) hl (ho.on hn.mod) (hw.on hn.mod) hn.at_ hy (a2 _ _ _ _ _) (λv=>e1 _ _ _ _ _ _ _ (by simp)) st hd
 refine a_call 5 115 [pz b4] (some (z+5)) (c2 _) r3 (cBSk h.mod h.bld) (calls λw2 h2 ho' hw'=>?_);exact a_tail 6 (by omega) s3<|reg_bslice #[.string (bstr bs)] 9 1 (some (z+6)) (b7 _ _) fun g w3 hn=>go_tl z (news h2 hn) hl (ho'.on hn.mod) (hw'.on hn.mod) hn.at_ hy (a3 _ _ _ _ _) (λv=>e1 _ _ _ _ _ _ _ (by simp)) st hd
theorem go_keep{L:List (Nat×Value)}(hk:W prog 201 [] y Q (LO b1 b3 b4) w)(h:keepL L [1,3,4]=some (LO b1 b3 b4):=by kernel_rfl):W prog 201 [] y Q L w:=λa ha=>hk a (ha.keep h)
end
theorem c180{w:World}(q:Parts)(hs:Short q):
  CQ 180 [.agg (partsV q)] w (λe w'=>∃ao cap,e=.returned (.slice ao (optsP q).length cap)/\Mod [] w w'/\Own w' w.heap.size 9 1 ao (optsP q).length cap (strs (optsP q))):=by
 have l1:=hs.a;have l2:=hs.b;have l3:=hs.c;have l4:=hs.d;have l5:=hs.e;have l6:=hs.f;have l7:=hs.g;have l8:=hs.h;refine en func180 ntmps180 ?_;refine zw<|reg_alloc (partsV q) 220 (some 1) (by kernel_rfl) λb1 w1 h1=>?_;refine yS 1<|zx<|reg_alloc #[.slice none 0 0] 82 (some 5) (by kernel_rfl) λb3 w3 h3=>?_;refine yS 1<|zx<|yL 4 b3 0<|reg_mk (.slice none 0 0) rfl (by kernel_rfl) (by kernel_rfl) (by kernel_rfl) (by kernel_rfl)<|yS 1<|reg_store b3 0 (.slice none 0 0) none (by kernel_rfl) h3.at_ (Nat.le_of_ble_eq_true rfl) rfl λw5 hu=>?_;refine zx<|reg_alloc #[.pointer none,.slice none 0 0] 150 (some 12) (by kernel_rfl) λb4 w6 h6=>?_;refine zs 1 (LO b1 b3 b4) ?_;have hm1:=h1.mod;have hb1:=h1.base;have hm3:=hm1.trans h3.mod;have hb3:=Nat.le_trans hm1.size h3.base;have hm5:=Mod.fresh' hm3 hu.mod (λx hx=>Or.inr (by simp at hx;omega));have hb4:=Nat.le_trans hm5.size h6.base;have hx1:=(At.keep (h1.at_.on h3.mod) hu.mod (not_mem1 (At.ne (h1.at_.on h3.mod) h3.at_ rfl))).on h6.mod;have hG:GO q w b1 b3 b4 [] [] w6:=⟨hm5.trans h6.mod,hx1,⟨none,0,hu.at_.on h6.mod,Own.nil _ _ _ _⟩,Bld.new h6.at_ hb4,hb3⟩;refine zz<|w_cut (γ:=List (List UInt8)×List UInt8) (λ_=>LO b1 b3 b4) (λg w_=>GO q w b1 b3 b4 g.1 g.2 w_/\g.1=optsP q) ?_ ?_
 ·refine zw<|yL 3 b1 0<|zz<|yC (!((bstr q.a).toList==(⟨#[]⟩:ByteArray).toList)) (λhc=>?_) λhc=>?_
  ·rw [bstr_ne] at hc;refine go_keep (b1:=b1) (b3:=b3) (b4:=b4)<|go_rs 16 hG λw h=>?_;refine go_ws 0 18 q.a h λw h=>?_;refine go_ws 3 22 q.d h λw h=>?_;refine go_ws 4 26 q.e h λw h=>?_;refine go_ws 5 30 q.f h λw h=>?_;refine go_ws 6 34 q.g h λw h=>?_;refine go_ws 7 38 q.h h λw h=>?_;refine w_seq (go_add0 42 h (by decide) λw h=>n_then ?_);refine go_rs 51 h λw h=>?_;refine go_ws 0 53 q.a h λw h=>?_;refine go_ws 2 57 q.c h λw h=>?_;refine go_ws 3 61 q.d h λw h=>?_;refine go_ws 4 65 q.e h λw h=>?_;refine go_ws 5 69 q.f h λw h=>?_;refine go_ws 6 73 q.g h λw h=>?_;refine go_ws 7 77 q.h h λw h=>?_;refine w_seq (go_add0 81 h (by (simp)) λw h=>n_then ?_);refine go_rs 90 h λw h=>?_;refine go_ws 0 92 q.a h λw h=>?_;refine go_ws 1 96 q.b h λw h=>?_;refine go_ws 3 100 q.d h λw h=>?_;refine go_ws 4 104 q.e h λw h=>?_;refine go_ws 5 108 q.f h λw h=>?_;refine go_ws 6 112 q.g h λw h=>?_;refine go_ws 7 116 q.h h λw h=>?_;exact go_add0 120 h (by (simp)) λw h=>zb (_,_) ⟨h,by unfold optsP;rw [hc];rfl⟩
  rw [bstr_ne] at hc;refine go_keep (b1:=b1) (b3:=b3) (b4:=b4)<|w_cut (γ:=List (List UInt8)×List UInt8) (λ_=>LO b1 b3 b4) (λg w_=>GO q w b1 b3 b4 g.1 g.2 w_/\g.1=bif q.d !=[] then [q.b++q.d++q.e++q.f++q.g] else []) ?_ ?_
  ·refine zw<|yL 3 b1 3<|zz<|yC (!((bstr q.d).toList==(⟨#[]⟩:ByteArray).toList)) (λhd=>?_) λhd=>?_
   ·rw [bstr_ne] at hd;refine go_keep (b1:=b1) (b3:=b3) (b4:=b4)<|go_rs 132 hG λw h=>?_;refine go_ws 1 134 q.b h λw h=>?_;refine go_ws 3 138 q.d h λw h=>?_;refine go_ws 4 142 q.e h λw h=>?_;refine go_ws 5 146 q.f h λw h=>?_;refine go_ws 6 150 q.g h λw h=>?_;exact go_add0 154 h (by decide) λw h=>zb (_,_) ⟨h,by rw [hd];rfl⟩
   rw [bstr_ne] at hd;exact w_skip (zb ([],[]) ⟨hG,by rw [hd];rfl⟩)
  rintro ⟨l,bs⟩ w7 ⟨hG,hl⟩;dsimp only at hG hl;have hlen:l.length<=1:=by rw [hl];cases (q.d !=[])<;>simp
  refine zw<|zo 4 [rz 1 b1,rz 3 b3,rz 4 b4,(166,.bool (!((bstr q.b).toList==(⟨#[]⟩:ByteArray).toList)))] [.cell ⟨b1,1,none⟩ (.string (bstr q.b))] (At.cell hG.box rfl) ?_;rw [bstr_ne q.b];cases hb:(q.b !=[])
  ·exact yS 4<|zz<|w_false rfl<|w_skip (zb (l,bs) ⟨hG,by unfold optsP;rw [hc,hl,hb];simp⟩)
  refine zo 4 [rz 1 b1,rz 3 b3,rz 4 b4,(170,.bool (!((bstr q.c).toList==(⟨#[]⟩:ByteArray).toList)))] [.cell ⟨b1,2,none⟩ (.string (bstr q.c))] (At.cell hG.box rfl) ?_;rw [bstr_ne q.c];refine zz<|zc (λhd=>?_) λhd=>?_
  ·refine go_keep (b1:=b1) (b3:=b3) (b4:=b4)<|go_rs 171 hG λw h=>?_;refine go_ws 3 173 q.d h λw h=>?_;refine go_ws 4 177 q.e h λw h=>?_;refine go_ws 5 181 q.f h λw h=>?_;refine go_ws 6 185 q.g h λw h=>?_;exact go_add0 189 h (by omega) λw h=>zb (_,_) ⟨h,by unfold optsP;rw [hc,hl,hb,hd];rfl⟩
  exact w_skip (zb (l,bs) ⟨hG,by unfold optsP;rw [hc,hl,hb,hd];simp⟩)
 rintro ⟨l,bs⟩ w8 ⟨hG,hl⟩;dsimp only at hG hl;subst hl;obtain ⟨ao,cap,ho,hw⟩:=hG.opt;exact zw<|yL 4 b3 0<|zz<|w_ret (ret1 results180 rfl ⟨ao,cap,rfl,hG.mod,hw⟩)
def clT(B:Bd)(S:Ps)(M:Mv):List UInt8:=match zzR (encI B S (allL B S) M) with|some q=>cleanP q|none=>[]
def hitT(B:Bd)(S:Ps)(q:Parts)(M:Mv):Bool:=(cleanP q==clT B S M)||(optsP q).any (·==clT B S M)
structure DecOk(B:Bd)(S:Ps)(M:Mv):Prop where
 up:UpPre B S M
 len:(encI B S (allL B S) M).length<=100000
 pts:∃q,zzR (encI B S (allL B S) M)=some q/\Short q
theorem eq_bstr(a b:List UInt8):((bstr a).toList==(bstr b).toList)=(a==b):=by rw [bstr_toList,bstr_toList]
theorem strs_at{l:List (List UInt8)}{i:Nat}(h:i<l.length):(strs l)[0+i*1]?=some (.string (bstr (l.getD i []))):=by
 unfold strs;rw [Nat.zero_add,Nat.mul_one,List.getElem?_map,List.getElem?_eq_getElem h,List.getD_eq_getElem?_getD,List.getElem?_eq_getElem h];rfl
set_option maxHeartbeats 4000000 in
theorem c175{c:GC}{p b:Nat}{vm:Value}{S:Ps}{w:World}(hp:At w p (.cells (psCells b vm S) 110 (0,0))){B:Bd}(hb:At w b (.cells (bdCells B) 135 (0,0)))(hG:Glob c w)(hpre:MvPre B S)(hbase:c.base<=p)(hca:Cache w vm B S)
  (l:List UInt8)(q:Parts)(hz:zzR l=some q)(hl:l.length<=100000)(hs:Short q)(hd:∀M∈allL B S,DecOk B S M)(hex:∃M∈allL B S,hitT B S q M=true):
  CQ 175 [.agg #[],pz p,.string (bstr l)] w (λe w'=>∃t M,e=.returned (.tuple #[pz t,.nilIface])/\Mod [p] w w'/\At w' t (.cells (mvCells (.pointer none) M) 98 (0,0))/\M∈allL B S/\hitT B S q M=true):=by
 have hpos:0<(allL B S).length:=by obtain ⟨M,hM,_⟩:=hex;exact List.length_pos_of_mem hM
 have hlen:=allL_len hpre;refine en func175 ntmps175 ?_;refine zw<|reg_alloc #[] 89 (some 3) (by kernel_rfl) λb0 w1 hn1=>?_;refine yS 2<|zx<|yS 1<|zk (some 20) (c178 l q hz hl) λw2 hm2=>?_;refine yS 3<|reg_alloc #[.string ⟨#[]⟩,.string ⟨#[]⟩,.string ⟨#[]⟩,.string ⟨#[]⟩,.string ⟨#[]⟩,.string ⟨#[]⟩,.string ⟨#[]⟩,.string ⟨#[]⟩] 220 (some 8) (by kernel_rfl) λb8 w3 hn3=>?_;refine reg_store b8 0 (.agg (partsV q)) none (by kernel_rfl) hn3.at_ (Nat.le_of_ble_eq_true rfl) rfl λw4 hu4=>?_;have hx4:At w4 b8 (.cells (partsV q) 220 (0,0)):=hu4.at_;have hmA:=(hn1.mod.trans hm2).trans hn3.mod;have hsA:=Nat.le_trans (hn1.mod.trans hm2).size hn3.base;have hm4:Mod [] w w4:=Mod.fresh' hmA hu4.mod (λx hx=>Or.inr (by simp at hx;omega));refine yS 1<|zz<|w_seq<|zw<|yS 1<|reg_run (v:=.bool false) (w':=w4) rfl rfl rfl (by kernel_rfl) (.inl (by kernel_rfl))<|zz<|yF<|w_skip<|n_then<|zw<|yV 1 [.row ⟨b8,0,none⟩ 8 (partsV q)] [.agg (partsV q)] (At.row hx4 rfl)<|zk (some 27) (c179 q hs) λw5 hm5=>?_;refine yS 1<|zz<|w_seq<|zw<|yS 1 ?_;have hm5':=hm4.trans hm5;have hp5:=hp.on hm5';have hx5:=hx4.on hm5;refine zC (some 29) (c93 (S:=S) hp5 (hb.on hm5') (Glob.on hG hm5') hpre hbase (Cache.on hca hm5')) ?_;rintro _ w6 ⟨vm6,ao6,cap6,rfl,hm6,hp6,hca6,ho6⟩;refine ⟨_,rfl,?_⟩;obtain ⟨gc,capc,rfl,hoc⟩:=hca6;obtain ⟨g,cur,rfl,hgb,hg6,htk,hn6,hsz⟩:=Own.some ho6 hpos;have hx6:=At.keep hx5 hm6 (not_mem1 (At.ne hx5 hp5 rfl));have hb6:=At.keep (hb.on hm5') hm6 (not_mem1 (At.ne (hb.on hm5') hp5 rfl));have hG6:=Glob.keep (Glob.on hG hm5') hm6 (by simp<;>omega);have hmp:Mod [p] w w6:=Mod.fresh' (Mod.of_nil hm5') hm6 (by simp);refine yS 2<|zz<|w_block<|yP (γ:=Int) (λi=>(((allL B S).length:Int)-i).toNat) (λ(i:Int)=>[rz 1 p,rz 8 b8,(10,.string (bstr (cleanP q))),(29,.slice (some ⟨g,0,none⟩) (allL B S).length cap6),iz 30 (((allL B S).length:Nat):Int),iz 31 i]) (λ(i:Int) w_=>(0<=i/\i<=((allL B S).length:Int))/\Mod [] w6 w_/\(∀j:Int,0<=j->j<i->hitT B S q (mvAt (allL B S) j.toNat)=false)) 0 ⟨(by omega),Mod.refl _ _,(λi h0 h1=>absurd h1 (by omega))⟩ ?_;rintro i w7 ⟨⟨i0,i1⟩,hm7,hx⟩;refine zw<|yS 1<|zz<|w_seq<|yC (decide (i<(((allL B S).length:Nat):Int))) (λhc=>?_) λhc=>?_
 ·have hc:=of_decide_eq_true hc;refine w_skip<|n_then<|w_seq<|w_block ?_;have hmem:=mvAt_mem (l:=allL B S) (i:=i.toNat) (by omega);obtain ⟨hup,hel,q',hz',hs'⟩:=hd _ hmem;have hcl:clT B S (mvAt (allL B S) i.toNat)=cleanP q':=by unfold clT;rw [hz']
  have hin:hitT B S q (mvAt (allL B S) i.toNat)=((cleanP q==cleanP q')||(optsP q).any (·==cleanP q')):=by unfold hitT;rw [hcl]
  have hown:=λw_ (m:Mod [] w6 w_)=>own_mv (l:=allL B S) (i:=i.toNat) (Own.on ho6 m) (by omega);generalize hMM:mvAt (allL B S) i.toNat=M at*
  refine zw<|yV 2 [.prop (0<=i/\i<(((allL B S).length:Nat):Int)),.row ⟨g,(0+i.toNat*11),none⟩ 11 (mvCells (.pointer none) M)] [.agg (mvCells (.pointer none) M)] ⟨zh (by omega),hown _ hm7⟩<|reg_alloc (mvCells (.pointer none) (⟨0,0,0,0⟩:Mv)) 98 (some 12) (by kernel_rfl) λt w8 hn8=>?_;refine reg_store t 0 (.agg (mvCells (.pointer none) M)) none (by kernel_rfl) hn8.at_ (Nat.le_of_ble_eq_true rfl) rfl λw9 hu9=>?_;have ht9:At w9 t (.cells (mvCells (.pointer none) M) 98 (0,0)):=hu9.at_;have hs8:=Nat.le_trans hm7.size hn8.base;have hm9:Mod [] w6 w9:=Mod.fresh' (hm7.trans hn8.mod) hu9.mod (λx hx=>Or.inr (by simp at hx;omega));refine zx<|yS 2<|zk (some 37) (c176 (hp6.on hm9) (hoc.on hm9) (hb6.on hm9) ht9 (Glob.on hG6 hm9) (by omega) hpos hup) λw10 hm10=>?_;refine yS 1<|zx<|yS 1<|zk (some 40) (c178 _ q' hz' hel) λw11 hm11=>?_;refine yS 3<|reg_alloc (#[.string ⟨#[]⟩,.string ⟨#[]⟩,.string ⟨#[]⟩,.string ⟨#[]⟩,.string ⟨#[]⟩,.string ⟨#[]⟩,.string ⟨#[]⟩,.string ⟨#[]⟩]) 220 (some 14) (by kernel_rfl) λb14 w12 hn12=>?_;refine reg_store b14 0 (.agg (partsV q')) none (by kernel_rfl) hn12.at_ (Nat.le_of_ble_eq_true rfl) rfl λw13 hu13=>?_;have hx13:At w13 b14 (.cells (partsV q') 220 (0,0)):=hu13.at_;have hmB:=((hm9.trans hm10).trans hm11).trans hn12.mod;have hmC:=(hm10.trans hm11).trans hn12.mod;have hsB:=Nat.le_trans ((hm9.trans hm10).trans hm11).size hn12.base;have hsC:=Nat.le_trans (hm10.trans hm11).size hn12.base;have hm13:Mod [] w6 w13:=Mod.fresh' hmB hu13.mod (λx hx=>Or.inr (by simp at hx;omega));have hm13':Mod [] w9 w13:=Mod.fresh' hmC hu13.mod (λx hx=>Or.inr (by simp at hx;omega));have hx14:=hx6.on hm13;refine yS 1<|zz<|w_seq<|zw<|yS 1<|reg_run (v:=.bool false) (w':=w13) rfl rfl rfl (by kernel_rfl) (.inl (by kernel_rfl))<|zz<|yF<|w_skip<|n_then<|w_seq<|zw<|zv 2 [rz 1 p,rz 8 b8,(10,.string (bstr (cleanP q))),(29,.slice (some ⟨g,0,none⟩) (allL B S).length cap6),iz 30 (((allL B S).length:Nat):Int),iz 31 i,rz 12 t,rz 14 b14,(45,.string (bstr (cleanP q))),(46,.agg (partsV q'))] [.row ⟨b14,0,none⟩ 8 (partsV q')] [.agg (partsV q')] (At.row hx13 rfl)<|zk (some 47) (c179 q' hs') λw14 hm14=>?_;refine zs 1 [rz 1 p,rz 8 b8,(10,.string (bstr (cleanP q))),(29,.slice (some ⟨g,0,none⟩) (allL B S).length cap6),iz 30 (((allL B S).length:Nat):Int),iz 31 i,rz 12 t,rz 14 b14,(48,.bool ((bstr (cleanP q)).toList==(bstr (cleanP q')).toList))] ?_;rw [eq_bstr];refine zz<|zc (λhq=>?_) λhq=>?_
  ·refine zw<|zs 2 [(6,pz t),(7,.nilIface)]<|zz<|w_ret ?_
   repeat first|refine r_then ?_|refine r_block ?_
   exact ret2 results175 rfl rfl ⟨t,M,rfl,hmp.trans (Mod.of_nil (hm13.trans hm14)),ht9.on (hm13'.trans hm14),hmem,by rw [hin,hq];rfl⟩
  refine w_skip<|n_then ?_;have hx15:=hx14.on hm14;refine zw<|yV 1 [.row ⟨b8,0,none⟩ 8 (partsV q)] [.agg (partsV q)] (At.row hx15 rfl)<|zC (some 50) (c180 q hs) ?_;rintro _ w15 ⟨ao,cap,rfl,hm15,ho15⟩;refine ⟨_,rfl,?_⟩;refine yS 2<|zz<|w_block ?_;have hm15':=hm14.trans hm15;have hx17:=hx13.on hm15';have hol:(optsP q).length<=3:=by unfold optsP;cases (q.a !=[])<;>cases (q.d !=[])<;>cases (q.b !=[])<;>cases (q.c !=[])<;>simp
  refine yP (γ:=Int) (λk=>(((optsP q).length:Int)-k).toNat) (λ(k:Int)=>[rz 1 p,rz 8 b8,(10,.string (bstr (cleanP q))),(29,.slice (some ⟨g,0,none⟩) (allL B S).length cap6),iz 30 (((allL B S).length:Nat):Int),iz 31 i,rz 12 t,rz 14 b14,(50,.slice ao (optsP q).length cap),iz 51 (((optsP q).length:Nat):Int),iz 52 k]) (λ(k:Int) w_=>(0<=k/\k<=((optsP q).length:Int))/\Mod [] w15 w_/\(∀j:Nat,(j:Int)<k->((optsP q).getD j []==cleanP q')=false)) 0 ⟨(by omega),Mod.refl _ _,(λi h1=>absurd h1 (by omega))⟩ ?_;rintro k w16 ⟨⟨k0,k1⟩,hm16,hk⟩;refine zw<|zs 1 [rz 1 p,rz 8 b8,(10,.string (bstr (cleanP q))),(29,.slice (some ⟨g,0,none⟩) (allL B S).length cap6),iz 30 (((allL B S).length:Nat):Int),iz 31 i,rz 12 t,rz 14 b14,(50,.slice ao (optsP q).length cap),iz 51 (((optsP q).length:Nat):Int),iz 52 k,(53,.bool (decide (k<(((optsP q).length:Nat):Int))))]<|zz<|w_seq<|zc (λhc2=>?_) λhc2=>?_
  ·have hc2:=of_decide_eq_true hc2;obtain ⟨g2,cur2,rfl,_,hg2,_,_,_⟩:=Own.some ho15 (by omega);refine w_skip<|n_then<|w_seq<|w_block<|zw<|zo 3 [rz 1 p,rz 8 b8,(10,.string (bstr (cleanP q))),(29,.slice (some ⟨g,0,none⟩) (allL B S).length cap6),iz 30 (((allL B S).length:Nat):Int),iz 31 i,rz 12 t,rz 14 b14,(50,.slice (some ⟨g2,0,none⟩) (optsP q).length cap),iz 51 (((optsP q).length:Nat):Int),iz 52 k,(17,.string (bstr ((optsP q).getD k.toNat [])))] [.prop (0<=k/\k<(((optsP q).length:Nat):Int)),.cell ⟨g2,(0+k.toNat*1),none⟩ (.string (bstr ((optsP q).getD k.toNat [])))] ⟨zh (by omega),Own.cell (Own.on ho15 hm16) (strs_at (by omega))⟩<|zx<|zv 2 [rz 1 p,rz 8 b8,(10,.string (bstr (cleanP q))),(29,.slice (some ⟨g,0,none⟩) (allL B S).length cap6),iz 30 (((allL B S).length:Nat):Int),iz 31 i,rz 12 t,rz 14 b14,(50,.slice (some ⟨g2,0,none⟩) (optsP q).length cap),iz 51 (((optsP q).length:Nat):Int),iz 52 k,(56,.string (bstr ((optsP q).getD k.toNat []))),(57,.agg (partsV q'))] [.row ⟨b14,0,none⟩ 8 (partsV q')] [.agg (partsV q')] (At.row (hx17.on hm16) rfl)<|zk (some 58) (c179 q' hs') λw17 hm17=>?_;refine zs 1 [rz 1 p,rz 8 b8,(10,.string (bstr (cleanP q))),(29,.slice (some ⟨g,0,none⟩) (allL B S).length cap6),iz 30 (((allL B S).length:Nat):Int),iz 31 i,rz 12 t,rz 14 b14,(50,.slice (some ⟨g2,0,none⟩) (optsP q).length cap),iz 51 (((optsP q).length:Nat):Int),iz 52 k,(59,.bool ((bstr ((optsP q).getD k.toNat [])).toList==(bstr (cleanP q')).toList))] ?_;rw [eq_bstr];refine zz ?_;have hm17':=hm15'.trans (hm16.trans hm17);refine zc (λhq2=>?_) λhq2=>?_
   ·refine zw<|zs 2 [(6,pz t),(7,.nilIface)]<|zz<|w_ret ?_
    repeat first|refine r_then ?_|refine r_block ?_
    refine ret2 results175 rfl rfl ⟨t,M,rfl,hmp.trans (Mod.of_nil (hm13.trans hm17')),ht9.on (hm13'.trans hm17'),hmem,?_⟩;rw [hin,Bool.or_eq_true];refine Or.inr (List.any_eq_true.2 ⟨(optsP q).getD k.toNat [],?_,hq2⟩);rw [List.getD_eq_getElem?_getD,List.getElem?_eq_getElem (by omega)];exact List.getElem_mem _
   refine w_skip<|n_block<|n_then<|w_region<|zs 2 [rz 1 p,rz 8 b8,(10,.string (bstr (cleanP q))),(29,.slice (some ⟨g,0,none⟩) (allL B S).length cap6),iz 30 (((allL B S).length:Nat):Int),iz 31 i,rz 12 t,rz 14 b14,(50,.slice (some ⟨g2,0,none⟩) (optsP q).length cap),iz 51 (((optsP q).length:Nat):Int),iz 52 (IntKind.i64.wrap (k+1))]<|ze ?_;rw [zi (k+1) (by omega) (by omega)];refine l_back (k+1) [1,8,10,29,30,31,12,14,50,51,52] (by kernel_rfl) (by omega) ⟨(by omega),hm16.trans hm17,λj hj=>?_⟩;by_cases e:(j:Int)=k
   ·rw [show j=k.toNat by omega];exact hq2
   exact hk j (by omega)
  have hc2:=of_decide_eq_false hc2;refine w_exit<|x_then<|x_then<|x_hit<|n_block<|n_then<|w_region<|zs 2 [rz 1 p,rz 8 b8,(10,.string (bstr (cleanP q))),(29,.slice (some ⟨g,0,none⟩) (allL B S).length cap6),iz 30 (((allL B S).length:Nat):Int),iz 31 (IntKind.i64.wrap (i+1))]<|ze ?_;rw [zi (i+1) (by omega) (by omega)];have hno:hitT B S q M=false:=by
   rw [hin,hq,Bool.false_or,List.any_eq_false];intro x hxm hxe;obtain ⟨j,hj,rfl⟩:=List.getElem_of_mem hxm;have:=hk j (by omega);rw [List.getD_eq_getElem?_getD,List.getElem?_eq_getElem hj] at this;rw [Option.getD_some,hxe] at this;cases this
  refine l_back (i+1) [1,8,10,29,30,31] (by kernel_rfl) (by omega) ⟨(by omega),hm13.trans (hm15'.trans hm16),λj h0 h1=>?_⟩;by_cases e:j=i
  ·subst e;rw [hMM];exact hno
  exact hx j h0 (by omega)
 exfalso;have hc:=of_decide_eq_false hc;obtain ⟨M,hM,hh⟩:=hex;obtain ⟨j,hj,rfl⟩:=List.getElem_of_mem hM;have:=hx (j:Int) (by omega) (by omega);rw [show mvAt (allL B S) ((j:Int)).toNat=(allL B S)[j] by unfold mvAt;rw [Int.toNat_natCast,List.getD_eq_getElem?_getD,List.getElem?_eq_getElem hj];rfl,hh] at this;cases this
theorem sq_cls0:∀n,n<64->cls (fB (n:Nat))=1/\cls (rB (n:Nat))=2:=by decide+kernel
theorem sq_inj0:∀n,n<64->∀k,k<64->(fB (n:Nat)=fB (k:Nat)->n%8=k%8)/\(rB (n:Nat)=rB (k:Nat)->n/8=k/8):=by decide+kernel
theorem sq_cls{s:Int}(h:0<=s/\s<=63):cls (fB s)=1/\cls (rB s)=2:=by
 obtain ⟨n,rfl⟩:∃n:Nat,s=n:=⟨s.toNat,by omega⟩;exact sq_cls0 n (by omega)
theorem sq_inj{s u:Int}(h:0<=s/\s<=63)(h':0<=u/\u<=63):(fB s=fB u->s%8=u%8)/\(rB s=rB u->s/8=u/8):=by
 obtain ⟨n,rfl⟩:∃n:Nat,s=n:=⟨s.toNat,by omega⟩;obtain ⟨k,rfl⟩:∃k:Nat,u=k:=⟨u.toNat,by omega⟩;obtain ⟨a,b⟩:=sq_inj0 n (by omega) k (by omega);exact ⟨λe=>by have:=a e;omega,λe=>by have:=b e;omega⟩
theorem letB_get{k:Int}(h:1<=k/\k<=5):∃x,letB k=[x]/\(cls x=3\/cls x=4):=by
 rcases (by omega:k=1\/k=2\/k=3\/k=4\/k=5) with rfl|rfl|rfl|rfl|rfl
 · exact ⟨75,rfl,by decide⟩
 · exact ⟨81,rfl,by decide⟩
 · exact ⟨82,rfl,by decide⟩
 · exact ⟨66,rfl,by decide⟩
 exact ⟨78,rfl,by decide⟩
theorem letB_inj{k j:Int}(h:1<=k/\k<=5)(h':1<=j/\j<=5)(e:letB k=letB j):k=j:=by
 rcases (by omega:k=1\/k=2\/k=3\/k=4\/k=5) with rfl|rfl|rfl|rfl|rfl<;>rcases (by omega:j=1\/j=2\/j=3\/j=4\/j=5) with rfl|rfl|rfl|rfl|rfl<;>first|rfl|(revert e;decide)
theorem promS_get{p:Int}(h:p=0\/(2<=p/\p<=5)):(p=0/\promS p=[])\/(p≠0/\∃x,promS p=[61,x]/\cls x=3):=by
 rcases (by omega:p=0\/p=2\/p=3\/p=4\/p=5) with rfl|rfl|rfl|rfl|rfl
 · exact Or.inl ⟨rfl,rfl⟩
 · exact Or.inr ⟨by decide,81,rfl,by decide⟩
 · exact Or.inr ⟨by decide,82,rfl,by decide⟩
 · exact Or.inr ⟨by decide,66,rfl,by decide⟩
 exact Or.inr ⟨by decide,78,rfl,by decide⟩
theorem promS_inj{p q:Int}(h:p=0\/(2<=p/\p<=5))(h':q=0\/(2<=q/\q<=5))(e:promS p=promS q):p=q:=by
 rcases (by omega:p=0\/p=2\/p=3\/p=4\/p=5) with rfl|rfl|rfl|rfl|rfl<;>rcases (by omega:q=0\/q=2\/q=3\/q=4\/q=5) with rfl|rfl|rfl|rfl|rfl<;>first|rfl|(revert e;decide)
theorem sgnS_cls(P:SP)(f t p:Int):(sgnS P f t p).map cls∈C7:=by
 unfold sgnS;cases (!(inChkS (madeS P f t p).bd (madeS P f t p).turn))<;>cases (!(hasS (madeS P f t p)))<;>decide
theorem sgnI_cls(B:Bd)(S:Ps)(M:Mv):(sgnI B S M).map cls∈C7/\(sgnI B S M).length<=1:=by
 unfold sgnI;cases hasTag M 16<;>cases (statV (updB B M) (nextPs B S M)==1)<;>decide
theorem castI_rng(bd:Nat->Int)(f t:Int):castI bd f t=0\/castI bd f t=1\/castI bd f t=2:=by
 unfold castI;cases (kindOf (bd f.toNat) !=1)<;>cases (t-f==2)<;>cases (t-f==(-2))<;>simp
def apF(P:SP)(f t:Int):List UInt8:=bif legAny P (othS P.bd f t)&&(!(legAny P (filS P.bd f t))||legAny P (rnkS P.bd f t)) then [fB f] else []
def apR(P:SP)(f t:Int):List UInt8:=bif legAny P (othS P.bd f t)&&legAny P (filS P.bd f t) then [rB f] else []
theorem apart_eq(P:SP)(f t:Int):apartS P f t=apF P f t++apR P f t:=by
 unfold apartS apF apR;cases legAny P (othS P.bd f t)<;>cases legAny P (filS P.bd f t)<;>cases legAny P (rnkS P.bd f t)<;>rfl
def sanQ(P:SP)(m:Sm):Parts:=if castI P.bd m.f m.t≠0 then castP (oooS (2-castI P.bd m.f m.t)) else
 if kindOf (P.bd m.f.toNat)=6 then ⟨[],(bif takesI P.bd m.f m.t then [fB m.f] else []),[],takT P.bd m.f m.t,[fB m.t],[rB m.t],promS m.p,[]⟩
 else ⟨letB (kindOf (P.bd m.f.toNat)),apF P m.f m.t,apR P m.f m.t,takT P.bd m.f m.t,[fB m.t],[rB m.t],[],[]⟩
def lanQ(P:SP)(m:Sm):Parts:=if castI P.bd m.f m.t≠0 then castP (oooS (2-castI P.bd m.f m.t)) else
 ⟨letB (kindOf (P.bd m.f.toNat)),[fB m.f],[rB m.f],takT P.bd m.f m.t,[fB m.t],[rB m.t],promS m.p,[]⟩
theorem castP_short(j:Int):Short (castP (oooS j)):=by
 have:(oooS j).length<=5:=by unfold oooS;split<;>decide
 exact ⟨Nat.zero_le _,Nat.zero_le _,Nat.zero_le _,Nat.zero_le _,Nat.zero_le _,Nat.zero_le _,Nat.zero_le _,by show (oooS j).length<=_;omega⟩
theorem form_short{q:Parts}{e f:UInt8}{s:List UInt8}(h:Form q e f s):Short q:=by
 have key:∀(C:List (List Nat)),(C.all λl=>decide (l.length<=2))=true->∀l:List UInt8,l.map cls∈C->l.length<=100000:=by
  intro C hC l hl;have:=List.all_eq_true.1 hC _ hl;rw [decide_eq_true_eq,List.length_map] at this;omega
 exact ⟨key C0 rfl _ h.a,key C1 rfl _ h.b,key C2 rfl _ h.c,key C5 rfl _ h.d,by rw [h.e.1];simp,by rw [h.f.1];simp,key C6 rfl _ h.g,by rw [h.h];simp⟩
theorem takT_cls(bd:Nat->Int)(f t:Int):(takT bd f t).map cls∈C5:=by unfold takT;cases takesI bd f t<;>decide
theorem promS_cls{p:Int}(h:p=0\/(2<=p/\p<=5)):(promS p).map cls∈C6:=by
 rcases promS_get h with ⟨_,e⟩|⟨_,x,e,hx⟩<;>rw [e]
 · decide
 rw [List.map_cons,List.map_cons,hx];decide
theorem letB_cls{k:Int}(h:0<=k/\k<=6):(letB k).map cls∈C0:=by
 rcases (by omega:k=0\/k=1\/k=2\/k=3\/k=4\/k=5\/k=6) with rfl|rfl|rfl|rfl|rfl|rfl|rfl<;>decide
section
variable{P:SP}{m:Sm}{M:Mv}
theorem leg_kind(hV:ValidS P)(h:LegM P m):1<=kindOf (P.bd m.f.toNat)/\kindOf (P.bd m.f.toNat)<=6:=by
 have hf:=(h.ok hV).f;have:=hV.bd m.f.toNat (by omega);have:=h.x0 hV;unfold kindOf;split<;>omega
theorem san_form(hV:ValidS P)(h:LegM P m)(hc:castI P.bd m.f m.t=0){s:List UInt8}(hs:s.map cls∈C7):Form (sanQ P m) (fB m.t) (rB m.t) s:=by
 have ho:=h.ok hV;have cf:=sq_cls ho.f;have ct:=sq_cls ho.t;have hk:=leg_kind hV h;unfold sanQ;rw [if_neg (λhh=>hh hc)];by_cases h6:kindOf (P.bd m.f.toNat)=6
 · rw [if_pos h6];refine ⟨by show ([]:List UInt8).map cls∈C0;decide,?_,by show ([]:List UInt8).map cls∈C2;decide,takT_cls _ _ _,⟨rfl,ct.1⟩,⟨rfl,ct.2⟩,promS_cls ho.p,rfl,hs⟩;dsimp only;cases takesI P.bd m.f m.t
   · exact List.mem_cons_self
   rw [cond_true,List.map_cons,cf.1];decide
 rw [if_neg h6];refine ⟨letB_cls (by omega),?_,?_,takT_cls _ _ _,⟨rfl,ct.1⟩,⟨rfl,ct.2⟩,by show ([]:List UInt8).map cls∈C6;decide,rfl,hs⟩
 · show (apF P m.f m.t).map cls∈C1;unfold apF;cases (legAny P (othS P.bd m.f m.t)&&(!(legAny P (filS P.bd m.f m.t))||legAny P (rnkS P.bd m.f m.t)))
   · exact List.mem_cons_self
   rw [cond_true,List.map_cons,cf.1];decide
 show (apR P m.f m.t).map cls∈C2;unfold apR;cases (legAny P (othS P.bd m.f m.t)&&legAny P (filS P.bd m.f m.t))
 · exact List.mem_cons_self
 rw [cond_true,List.map_cons,cf.2];decide
theorem lan_form(hV:ValidS P)(h:LegM P m)(hc:castI P.bd m.f m.t=0){s:List UInt8}(hs:s.map cls∈C7):Form (lanQ P m) (fB m.t) (rB m.t) s:=by
 have ho:=h.ok hV;have cf:=sq_cls ho.f;have ct:=sq_cls ho.t;have hk:=leg_kind hV h;unfold lanQ;rw [if_neg (λhh=>hh hc)];refine ⟨letB_cls (by omega),?_,?_,takT_cls _ _ _,⟨rfl,ct.1⟩,⟨rfl,ct.2⟩,promS_cls ho.p,rfl,hs⟩
 · show [fB m.f].map cls∈C1;rw [List.map_cons,cf.1];decide
 show [rB m.f].map cls∈C2;rw [List.map_cons,cf.2];decide
theorem body_cast(hc:castI P.bd m.f m.t≠0):bodyS P m.f m.t m.p=oooS (2-castI P.bd m.f m.t):=by
 unfold bodyS;rcases castI_rng P.bd m.f m.t with e|e|e
 · exact absurd e hc
 · rw [e];rfl
 rw [e];rfl
theorem san_clean(h:LegM P m):cleanP (sanQ P m)=bodyS P m.f m.t m.p:=by
 by_cases hc:castI P.bd m.f m.t=0
 · unfold sanQ bodyS cleanP;rw [if_neg (λhh=>hh hc),hc];simp only [show ((0:Int)==1)=false from rfl,show ((0:Int)==2)=false from rfl,cond_false];by_cases h6:kindOf (P.bd m.f.toNat)=6
   · rw [if_pos h6,h6];simp only [show ((6:Int)==6)=true from rfl,cond_true];unfold takT;cases takesI P.bd m.f m.t<;>simp
   rw [if_neg h6,beq_eq_false_iff_ne.2 h6,apart_eq];simp
 rw [body_cast hc];unfold sanQ;rw [if_pos hc];rfl
theorem san_parts(hV:ValidS P)(h:LegM P m){s:List UInt8}(hs:s.map cls∈C7):zzR (bodyS P m.f m.t m.p++s)=some (sanQ P m)/\Short (sanQ P m):=by
 by_cases hc:castI P.bd m.f m.t=0
 · have hF:=san_form hV h hc hs;refine ⟨?_,form_short hF⟩;have:=zz_form hF;have e:(sanQ P m).a++(sanQ P m).b++(sanQ P m).c++(sanQ P m).d++[fB m.t,rB m.t]++(sanQ P m).g=bodyS P m.f m.t m.p:=by
    rw [←san_clean h];unfold cleanP;rw [hF.e.1,hF.f.1,hF.h];simp
   rw [e] at this;exact this
 rw [body_cast hc];have e:sanQ P m=castP (oooS (2-castI P.bd m.f m.t)):=by unfold sanQ;rw [if_pos hc]
 rw [e];exact ⟨zz_castle _ s hs,castP_short _⟩
theorem lan_parts(hV:ValidS P)(h:LegM P m):zzR (lanS P m.f m.t m.p)=some (lanQ P m)/\Short (lanQ P m):=by
 have hs:=sgnS_cls P m.f m.t m.p;by_cases hc:castI P.bd m.f m.t=0
 · have hF:=lan_form hV h hc hs;refine ⟨?_,form_short hF⟩;have:=zz_form hF;have e:(lanQ P m).a++(lanQ P m).b++(lanQ P m).c++(lanQ P m).d++[fB m.t,rB m.t]++(lanQ P m).g++sgnS P m.f m.t m.p=lanS P m.f m.t m.p:=by
    unfold lanS lanQ;rw [if_neg (λhh=>hh hc),hc];simp only [show decide (0>0)=false from rfl,cond_false];simp
   rw [e] at this;exact this
 have e:lanQ P m=castP (oooS (2-castI P.bd m.f m.t)):=by unfold lanQ;rw [if_pos hc]
 have e2:lanS P m.f m.t m.p=oooS (2-castI P.bd m.f m.t)++sgnS P m.f m.t m.p:=by
  unfold lanS;rw [show decide (castI P.bd m.f m.t>0)=true by rw [decide_eq_true_eq];rcases castI_rng P.bd m.f m.t with e|e|e<;>omega,body_cast hc];rfl
 rw [e,e2];exact ⟨zz_castle _ _ hs,castP_short _⟩
theorem decOk(hV:ValidS P)(h:LegM P m)(hT:TagM P m M):DecOk (boardOf P.bd) (psOf P) M/\clT (boardOf P.bd) (psOf P) M=bodyS P m.f m.t m.p:=by
 have hb:=text_body hV h hT;obtain ⟨c1,c2⟩:=sgnI_cls (boardOf P.bd) (psOf P) M;have hp:=san_parts hV h c1;have e:encI (boardOf P.bd) (psOf P) (allL (boardOf P.bd) (psOf P)) M=bodyS P m.f m.t m.p++sgnI (boardOf P.bd) (psOf P) M:=by unfold encI;rw [hb]
 refine ⟨⟨upPre hV h hT,?_,⟨_,by rw [e];exact hp.1,hp.2⟩⟩,?_⟩
 · rw [e,List.length_append];have:=bodyS_len P m.f m.t m.p;omega
 unfold clT;rw [e,hp.1];exact san_clean h
end
section
variable{P:SP}{m n:Sm}
theorem shape(h:LegM P n):(castI P.bd n.f n.t≠0/\bodyS P n.f n.t n.p=oooS (2-castI P.bd n.f n.t))\/
  (kindOf (P.bd n.f.toNat)=6/\takesI P.bd n.f n.t=true/\bodyS P n.f n.t n.p=fB n.f::120::fB n.t::rB n.t::promS n.p)\/
  (kindOf (P.bd n.f.toNat)=6/\takesI P.bd n.f n.t=false/\bodyS P n.f n.t n.p=fB n.t::rB n.t::promS n.p)\/
  (castI P.bd n.f n.t=0/\kindOf (P.bd n.f.toNat)≠6/\bodyS P n.f n.t n.p=((letB (kindOf (P.bd n.f.toNat))++(apF P n.f n.t++apR P n.f n.t))++takT P.bd n.f n.t)++[fB n.t,rB n.t]):=by
 by_cases hc:castI P.bd n.f n.t=0
 · right;have e0:=san_clean h;by_cases h6:kindOf (P.bd n.f.toNat)=6
   · unfold sanQ cleanP at e0;rw [if_neg (λhh=>hh hc),if_pos h6] at e0;unfold takT at e0;cases ht:takesI P.bd n.f n.t<;>rw [ht] at e0
     · right;left;exact ⟨h6,rfl,by rw [←e0];simp⟩
     left;exact ⟨h6,rfl,by rw [←e0];simp⟩
   right;right;refine ⟨hc,h6,?_⟩;unfold sanQ cleanP at e0;rw [if_neg (λhh=>hh hc),if_neg h6] at e0;rw [←e0];simp
 exact Or.inl ⟨hc,body_cast hc⟩
theorem leg_side(hV:ValidS P)(h:LegM P n):sideOf (P.bd n.f.toNat)=P.turn:=by
 have hT:=hV.turn;cases h with
 |std f t p h ho=>exact h.1.side
 |cast r h hM=>dsimp only;rw [hM.king];unfold sideOf;split<;>omega
theorem leg_bd(hV:ValidS P)(h:LegM P n):P.bd n.f.toNat=kindOf (P.bd n.f.toNat)+6*P.turn:=by
 have hf:=(h.ok hV).f;have hx:=hV.bd n.f.toNat (by omega);have h0:=h.x0 hV;have:=(kind_cases (x:=P.bd n.f.toNat) (by omega)).1;rw [leg_side hV h] at this;omega
theorem legAny_of(hV:ValidS P)(h:LegM P m){g:Sm->Bool}(hg:g m=true):legAny P g=true:=by
 obtain ⟨a,b⟩:=h.okS hV;unfold legAny;exact List.any_eq_true.2 ⟨m,a,by rw [b,hg];rfl⟩
theorem sq_eq{a b:Int}(h:a%8=b%8)(h':a/8=b/8):a=b:=by omega
theorem o_cls(j:Int):∃r,oooS j=79::r:=by unfold oooS;split<;>exact ⟨_,rfl⟩
theorem cls_no{x y:UInt8}(e:x=y)(h:cls x≠cls y):False:=h (by rw [e])
theorem sm_ext{a b:Sm}(h1:a.f=b.f)(h2:a.t=b.t)(h3:a.p=b.p):a=b:=by cases a;cases b;simp only at h1 h2 h3;rw [h1,h2,h3]
theorem piece_one(hV:ValidS P)(h:LegM P m)(h6:kindOf (P.bd m.f.toNat)≠6)(h':LegM P n){b c:List UInt8}(hb:b=[]\/b=[fB m.f])(hc:c=[]\/c=[rB m.f])
  (e:bodyS P n.f n.t n.p=((letB (kindOf (P.bd m.f.toNat))++(b++c))++takT P.bd m.f m.t)++[fB m.t,rB m.t]):n=m:=by
 have ho:=h.ok hV;have ho':=h'.ok hV;have hk:=leg_kind hV h;have hk':=leg_kind hV h';obtain ⟨x,ex,hx⟩:=letB_get (k:=kindOf (P.bd m.f.toNat)) (by omega);have cf:=sq_cls ho.f;have cf':=sq_cls ho'.f;have ct':=sq_cls ho'.t;rcases shape h' with ⟨_,e'⟩|⟨_,_,e'⟩|⟨_,_,e'⟩|⟨hc',h6',e'⟩
 · exfalso;obtain ⟨r,er⟩:=o_cls (2-castI P.bd n.f n.t);rw [e',er,ex] at e;have:=(List.cons.inj e).1;rw [←this] at hx;revert hx;decide
 · exfalso;rw [e',ex] at e;have:=(List.cons.inj e).1;rw [←this,cf'.1] at hx;omega
 · exfalso;rw [e',ex] at e;have:=(List.cons.inj e).1;rw [←this,ct'.1] at hx;omega
 rw [e'] at e;obtain ⟨y,ey,hy⟩:=letB_get (k:=kindOf (P.bd n.f.toNat)) (by omega);obtain ⟨e1,e2⟩:=List.append_inj' e rfl;have et:n.t=m.t:=by
  have a:=(List.cons.inj e2).1;have b:=(List.cons.inj (List.cons.inj e2).2).1;exact sq_eq ((sq_inj ho'.t ho.t).1 a) ((sq_inj ho'.t ho.t).2 b)
 have ek:kindOf (P.bd n.f.toNat)=kindOf (P.bd m.f.toNat):=by
  refine letB_inj (by omega) (by omega) ?_;rw [ex,ey] at e1;rw [ex,ey,(List.cons.inj e1).1]
 have etk:takT P.bd n.f n.t=takT P.bd m.f m.t:=by
  unfold takT takesI;rw [et,beq_eq_false_iff_ne.2 h6,beq_eq_false_iff_ne.2 h6'];rfl
 rw [etk,ek] at e1;have e3:=List.append_cancel_left (List.append_cancel_right e1);have ep:n.p=m.p:=(leg_promo h' h6').trans (leg_promo h h6).symm;by_cases ef:n.f=m.f
 · exact sm_ext ef et ep
 exfalso;have ebd:P.bd m.f.toNat=P.bd n.f.toNat:=by rw [leg_bd hV h,leg_bd hV h',ek]
 have ho1:othS P.bd n.f n.t m=true:=by
  unfold othS skpS;rw [et,ebd,show (m.f==n.f)=false from beq_eq_false_iff_ne.2 (Ne.symm ef)];simp
 have a1:=legAny_of hV h ho1;unfold apF apR at e3;rw [a1] at e3;have hfil:fB m.f=fB n.f->legAny P (filS P.bd n.f n.t)=true:=λhh=>legAny_of hV h (by unfold filS;rw [ho1,(sq_inj ho.f ho'.f).1 hh];simp);have hrnk:rB m.f=rB n.f->legAny P (rnkS P.bd n.f n.t)=true:=λhh=>legAny_of hV h (by unfold rnkS;rw [ho1,(sq_inj ho.f ho'.f).2 hh];simp);have n1:fB n.f≠rB m.f:=λhh=>cls_no hh (by rw [cf'.1,cf.2];decide);have n2:rB n.f≠fB m.f:=λhh=>cls_no hh (by rw [cf'.2,cf.1];decide);cases hF:legAny P (filS P.bd n.f n.t)<;>cases hR:legAny P (rnkS P.bd n.f n.t)<;>rw [hF,hR] at e3<;>rw [hF] at hfil<;>rw [hR] at hrnk<;>
  rcases hb with rfl|rfl<;>rcases hc with rfl|rfl<;>simp at e3<;>
  first
   |exact n1 e3
   |exact n2 e3
   |exact absurd (hfil e3.symm) (by decide)
   |exact absurd (hrnk e3.symm) (by decide)
   |exact ef (sq_eq ((sq_inj ho'.f ho.f).1 e3.1) ((sq_inj ho'.f ho.f).2 e3.2))
theorem pawn_way(hV:ValidS P)(h:LegM P m)(h6:kindOf (P.bd m.f.toNat)=6):(takesI P.bd m.f m.t=true->m.t/8-m.f/8=1-2*P.turn)/\
  (takesI P.bd m.f m.t=false->(m.t=m.f+8*(1-2*P.turn)\/(m.t=m.f+16*(1-2*P.turn)/\P.bd (m.f+8*(1-2*P.turn)).toNat=0))):=by
 have hT:=hV.turn;cases h with
 |cast r h hM=>dsimp only at h6;rw [hM.king] at h6;unfold kindOf at h6;split at h6<;>omega
 |std f t p h ho=>
  dsimp only at*
  obtain ⟨_,h1⟩:=std_pawn hV h.1 h6;unfold takesI;simp only [Int.toNat_natCast] at h6⊢;rw [h6];rcases h1 with ⟨a,b⟩|⟨a,b,c,d⟩|⟨a,b,c⟩
  · refine ⟨λhh=>?_,λ_=>Or.inl a⟩;rw [b] at hh;simp at hh;omega
  · refine ⟨λhh=>?_,λ_=>Or.inr ⟨a,c⟩⟩;rw [d] at hh;simp at hh;omega
  refine ⟨λ_=>b,λhh=>?_⟩;simp at hh;omega
theorem pawn_one(hV:ValidS P)(h:LegM P m)(h6:kindOf (P.bd m.f.toNat)=6)(h':LegM P n){X:List UInt8}
  (hX:(takesI P.bd m.f m.t=true/\X=fB m.f::120::fB m.t::rB m.t::promS m.p)\/(takesI P.bd m.f m.t=false/\X=fB m.t::rB m.t::promS m.p)\/
   (∃y r,X=fB m.f::rB m.f::y::r/\(cls y=5\/cls y=1))\/(∃r,X=120::r))(e:bodyS P n.f n.t n.p=X):n=m:=by
 have hT:=hV.turn;have ho:=h.ok hV;have ho':=h'.ok hV;have hk':=leg_kind hV h';have cf:=sq_cls ho.f;have cf':=sq_cls ho'.f;have ct':=sq_cls ho'.t;have ct:=sq_cls ho.t;have c120:cls 120=5:=by decide
 have c79:cls 79=8:=by decide
 have c61:cls 61=6:=by decide
 have hhead:∀z r,bodyS P n.f n.t n.p=z::r->cls z=1\/cls z=5:=by
  intro z r hz;rw [e] at hz;rcases hX with ⟨_,eX⟩|⟨_,eX⟩|⟨y,r',eX,_⟩|⟨r',eX⟩<;>rw [eX] at hz<;>rw [←(List.cons.inj hz).1]
  · exact Or.inl cf.1
  · exact Or.inl ct.1
  · exact Or.inl cf.1
  exact Or.inr c120
 rcases shape h' with ⟨_,e'⟩|⟨h6',tk',e'⟩|⟨h6',tk',e'⟩|⟨hc',h6',e'⟩
 · exfalso;obtain ⟨r,er⟩:=o_cls (2-castI P.bd n.f n.t);rw [er] at e';have:=hhead _ _ e';omega
 · rw [e'] at e;rcases hX with ⟨tk,eX⟩|⟨tk,eX⟩|⟨y,r',eX,_⟩|⟨r',eX⟩<;>rw [eX] at e
   · simp only [List.cons.injEq,true_and] at e;obtain ⟨e1,e2,e3,e4⟩:=e;have et:=sq_eq ((sq_inj ho'.t ho.t).1 e2) ((sq_inj ho'.t ho.t).2 e3);have w:=(pawn_way hV h h6).1 tk;have w':=(pawn_way hV h' h6').1 tk';exact sm_ext (sq_eq ((sq_inj ho'.f ho.f).1 e1) (by omega)) et (promS_inj ho'.p ho.p e4)
   · simp only [List.cons.injEq] at e;exact (cls_no e.2.1 (by rw [c120,ct.2];decide)).elim
   · simp only [List.cons.injEq] at e;exact (cls_no e.2.1 (by rw [c120,cf.2];decide)).elim
   exact (cls_no (List.cons.inj e).1 (by rw [cf'.1,c120];decide)).elim
 · rw [e'] at e;rcases hX with ⟨tk,eX⟩|⟨tk,eX⟩|⟨y,r',eX,hy⟩|⟨r',eX⟩<;>rw [eX] at e
   · simp only [List.cons.injEq] at e;exact (cls_no e.2.1 (by rw [ct'.2,c120];decide)).elim
   · simp only [List.cons.injEq] at e;obtain ⟨e2,e3,e4⟩:=e;have et:=sq_eq ((sq_inj ho'.t ho.t).1 e2) ((sq_inj ho'.t ho.t).2 e3);have w:=(pawn_way hV h h6).2 tk;have w':=(pawn_way hV h' h6').2 tk';have x0:=h.x0 hV;have x0':=h'.x0 hV;refine sm_ext ?_ et (promS_inj ho'.p ho.p e4);rcases w with w|⟨w,z⟩<;>rcases w' with w'|⟨w',z'⟩
     · omega
     · exfalso;apply x0;rw [←z'];congr 2;omega
     · exfalso;apply x0';rw [←z];congr 2;omega
     omega
   · exfalso;simp only [List.cons.injEq] at e;obtain ⟨_,_,e4⟩:=e;rcases promS_get ho'.p with ⟨_,ep⟩|⟨_,x,ep,_⟩<;>rw [ep] at e4
     · cases e4
     have:=(List.cons.inj e4).1;rw [←this,c61] at hy;omega
   exact (cls_no (List.cons.inj e).1 (by rw [ct'.1,c120];decide)).elim
 exfalso;obtain ⟨y,ey,hy⟩:=letB_get (k:=kindOf (P.bd n.f.toNat)) (by omega);rw [ey] at e';have:=hhead _ _ e';omega
theorem cast_one(hV:ValidS P)(h:LegM P m)(hc:castI P.bd m.f m.t≠0)(h':LegM P n)(e:bodyS P n.f n.t n.p=oooS (2-castI P.bd m.f m.t)):n=m:=by
 have hT:=hV.turn;have ho:=h.ok hV;have ho':=h'.ok hV;have hk':=leg_kind hV h';have cf':=sq_cls ho'.f;have ct':=sq_cls ho'.t;have c79:cls 79=8:=by decide
 obtain ⟨r,er⟩:=o_cls (2-castI P.bd m.f m.t);have k1:∀{x:Sm},castI P.bd x.f x.t≠0->kindOf (P.bd x.f.toNat)=1/\x.t=x.f+(if castI P.bd x.f x.t=1 then 2 else-2):=by
  intro x hx;unfold castI at hx⊢;cases h1:(kindOf (P.bd x.f.toNat) !=1)<;>rw [h1] at hx
  · rw [bne_eq_false_iff_eq] at h1;cases h2:(x.t-x.f==2)<;>rw [h2] at hx
    · cases h3:(x.t-x.f==(-2))<;>rw [h3] at hx
      · exact absurd rfl hx
      rw [beq_iff_eq] at h3;exact ⟨h1,by simp;omega⟩
    rw [beq_iff_eq] at h2;exact ⟨h1,by simp;omega⟩
  exact absurd rfl hx
 rcases shape h' with ⟨hc',e'⟩|⟨h6',tk',e'⟩|⟨h6',tk',e'⟩|⟨hc',h6',e'⟩
 · rw [e'] at e;have ec:castI P.bd n.f n.t=castI P.bd m.f m.t:=by
    rcases castI_rng P.bd n.f n.t with a|a|a<;>rcases castI_rng P.bd m.f m.t with b|b|b<;>rw [a,b] at e<;>first|omega|exact absurd a hc'|exact absurd b hc|(exfalso;revert e;decide)
   obtain ⟨q1,q2⟩:=k1 hc;obtain ⟨q1',q2'⟩:=k1 hc';obtain ⟨k,hk,_⟩:=valid_kings hV hT;have u1:=hk.2.2 m.f.toNat (by have:=ho.f;omega) (by rw [leg_bd hV h,q1]);have u2:=hk.2.2 n.f.toNat (by have:=ho'.f;omega) (by rw [leg_bd hV h',q1']);have ef:n.f=m.f:=by have:=ho.f;have:=ho'.f;omega
   exact sm_ext ef (by rw [q2,q2',ec,ef]) ((leg_promo h' (by omega)).trans (leg_promo h (by omega)).symm)
 · rw [e',er] at e;exact (cls_no (List.cons.inj e).1 (by rw [cf'.1,c79];decide)).elim
 · rw [e',er] at e;exact (cls_no (List.cons.inj e).1 (by rw [ct'.1,c79];decide)).elim
 obtain ⟨y,ey,hy⟩:=letB_get (k:=kindOf (P.bd n.f.toNat)) (by omega);rw [e',er,ey] at e;exact (cls_no (List.cons.inj e).1 (by rw [c79];omega)).elim
end
def tB(c:UInt8):UInt8:=if 49<=c.toNat/\c.toNat<=56 then UInt8.ofNat (105-c.toNat) else c
theorem fB_m{s:Int}:tB (fB s)=fB (mI s):=by
 have e:mI s%8=s%8:=by unfold mI;omega
 unfold fB;rw [e];rcases (by omega:s%8=0\/s%8=1\/s%8=2\/s%8=3\/s%8=4\/s%8=5\/s%8=6\/s%8=7) with h|h|h|h|h|h|h|h<;>rw [h]<;>rfl
theorem rB_m{s:Int}(hs:0<=s/\s<=63):tB (rB s)=rB (mI s):=by
 have e:mI s/8=7-s/8:=by unfold mI;omega
 unfold rB;rw [e];rcases (by omega:s/8=0\/s/8=1\/s/8=2\/s/8=3\/s/8=4\/s/8=5\/s/8=6\/s/8=7) with h|h|h|h|h|h|h|h<;>rw [h]<;>rfl
theorem letB_m(k:Int):(letB k).map tB=letB k:=by unfold letB;(repeat' split)<;>rfl
theorem promS_m(p:Int):(promS p).map tB=promS p:=by
 unfold promS;cases (p==0)
 ·simp only [cond_false,List.map_append,letB_m];rfl
 rfl
theorem sgnS_tB(P:SP)(f t p:Int):(sgnS P f t p).map tB=sgnS P f t p:=by
 unfold sgnS;cases (!(inChkS (madeS P f t p).bd (madeS P f t p).turn))<;>cases (!(hasS (madeS P f t p)))<;>rfl
section
variable{P Q:SP}{m:Sm}
theorem kind_m(h:Mir P Q){s:Int}(hs:0<=s/\s<=63):kindOf (Q.bd (mI s).toNat)=kindOf (P.bd s.toNat):=by rw [mI_toNat hs,h.b.e _ (by omega),pm_kind (h.b.r _ (by omega))]
theorem takes_m(h:Mir P Q){f t:Int}(hf:0<=f/\f<=63)(ht:0<=t/\t<=63):takesI Q.bd (mI f) (mI t)=takesI P.bd f t:=by
 unfold takesI;rw [kind_m h hf,mI_toNat ht,h.b.e _ (by omega),pm_bne (h.b.r _ (by omega)),show mI f%8=f%8 by unfold mI;omega,show mI t%8=t%8 by unfold mI;omega]
theorem takT_m(h:Mir P Q){f t:Int}(hf:0<=f/\f<=63)(ht:0<=t/\t<=63):(takT P.bd f t).map tB=takT Q.bd (mI f) (mI t):=by
 unfold takT;rw [takes_m h hf ht];cases takesI P.bd f t<;>rfl
theorem castI_m(hV:ValidS P)(hV':ValidS Q)(h:Mir P Q)(hL:LegM P m):castI Q.bd (mI m.f) (mI m.t)=castI P.bd m.f m.t:=by
 have hs:=hL.ok hV;cases hL with
 |std f t p hp ho=>
  dsimp only;rw [castI_std hV hp.1,mI_nat hp.1.hf,mI_nat hp.1.ht,castI_std hV' (std_m hV hV' h hp.1)]
 |cast r hc hM=>
  dsimp only at*
  have hr:=cast_r hV hc.hr;have hm:=home_m hr;have e:mI (homeK r+(2*cwS r))-mI (homeK r)=homeK r+(2*cwS r)-homeK r:=by
   rcases (by omega:r=0\/r=1\/r=2\/r=3) with rfl|rfl|rfl|rfl<;>decide
  unfold castI;rw [kind_m h hs.f,e]
theorem legAny_imp(hV:ValidS P)(hV':ValidS Q)(h:Mir P Q){g g':Sm->Bool}(hg:∀n,LegM P n->g' (mM n)=g n)(ha:legAny P g=true):legAny Q g'=true:=by
 unfold legAny at ha;obtain ⟨n,hn,ho⟩:=List.any_eq_true.1 ha;rw [Bool.and_eq_true] at ho;have hL:=legM hV ⟨hn,ho.1⟩;exact legAny_of hV' (leg_m hV hV' h hL) (by rw [hg n hL];exact ho.2)
theorem legAny_m(hV:ValidS P)(hV':ValidS Q)(h:Mir P Q){g g':Sm->Bool}(hg:∀n,LegM P n->g' (mM n)=g n):legAny Q g'=legAny P g:=by
 rw [Bool.eq_iff_iff];refine ⟨legAny_imp hV' hV (h.symm hV) λn hn=>?_,legAny_imp hV hV' h hg⟩;have:=hg (mM n) (leg_m hV' hV (h.symm hV) hn);rw [mM_mM (hn.ok hV')] at this;exact this.symm
theorem mI_eq{a b:Int}(ha:0<=a/\a<=63)(hb:0<=b/\b<=63):(mI a==mI b)=(a==b):=by rw [Bool.eq_iff_iff,beq_iff_eq,beq_iff_eq];unfold mI;omega
theorem oth_m(h:Mir P Q){f t:Int}(hf:0<=f/\f<=63)(ht:0<=t/\t<=63){n:Sm}(hn:SmOk n):othS Q.bd (mI f) (mI t) (mM n)=othS P.bd f t n:=by
 have h1:=hn.f;have h2:=hn.t;have e:(Q.bd (mI n.f).toNat !=Q.bd (mI f).toNat)=(P.bd n.f.toNat !=P.bd f.toNat):=by
  have a:=h.b.r n.f.toNat (by omega);have b:=h.b.r f.toNat (by omega);rw [mI_toNat h1,mI_toNat hf,h.b.e _ (by omega),h.b.e _ (by omega),Bool.eq_iff_iff,bne_iff_ne,bne_iff_ne];exact ⟨λq r=>q (by rw [r]),λq r=>q (by rw [←pm_pm a,r,pm_pm b])⟩
 unfold othS skpS mM;dsimp only;rw [e,bne,bne,mI_eq h2 ht,mI_eq h1 hf];rfl
theorem apart_m(hV:ValidS P)(hV':ValidS Q)(h:Mir P Q){f t:Int}(hf:0<=f/\f<=63)(ht:0<=t/\t<=63):(apartS P f t).map tB=apartS Q (mI f) (mI t):=by
 have o:∀n,LegM P n->othS Q.bd (mI f) (mI t) (mM n)=othS P.bd f t n:=λn hn=>oth_m h hf ht (hn.ok hV);have e1:=legAny_m hV hV' h o;have e2:legAny Q (filS Q.bd (mI f) (mI t))=legAny P (filS P.bd f t):=legAny_m hV hV' h λn hn=>by
  unfold filS;rw [o n hn,show (mM n).f%8=n.f%8 by show mI n.f%8=_;unfold mI;omega,show mI f%8=f%8 by unfold mI;omega]
 have e3:legAny Q (rnkS Q.bd (mI f) (mI t))=legAny P (rnkS P.bd f t):=legAny_m hV hV' h λn hn=>by
  have:=(hn.ok hV).f;unfold rnkS;rw [o n hn,show ((mM n).f/8==mI f/8)=(n.f/8==f/8) by show (mI n.f/8==mI f/8)=_;rw [Bool.eq_iff_iff,beq_iff_eq,beq_iff_eq];unfold mI;omega]
 unfold apartS;rw [e1,e2,e3];cases (!(legAny P (othS P.bd f t)))<;>cases (!(legAny P (filS P.bd f t)))<;>cases (!(legAny P (rnkS P.bd f t)))<;>simp only [cond_true,cond_false,List.map_cons,List.map_nil,fB_m,rB_m hf]
theorem body_m(hV:ValidS P)(hV':ValidS Q)(h:Mir P Q)(hL:LegM P m):(bodyS P m.f m.t m.p).map tB=bodyS Q (mI m.f) (mI m.t) m.p:=by
 have hs:=hL.ok hV;unfold bodyS;rw [castI_m hV hV' h hL,kind_m h hs.f,takes_m h hs.f hs.t,←takT_m h hs.f hs.t,←apart_m hV hV' h hs.f hs.t];cases (castI P.bd m.f m.t==1)<;>cases (castI P.bd m.f m.t==2)<;>cases (kindOf (P.bd m.f.toNat)==6)<;>cases takesI P.bd m.f m.t<;>
  simp only [cond_true,cond_false,List.map_append,List.map_cons,List.map_nil,fB_m,rB_m hs.t,letB_m,promS_m]<;>rfl
theorem lan_m(hV:ValidS P)(hV':ValidS Q)(h:Mir P Q)(hL:LegM P m):(lanS P m.f m.t m.p).map tB=lanS Q (mI m.f) (mI m.t) m.p:=by
 have hs:=hL.ok hV;unfold lanS;rw [castI_m hV hV' h hL,kind_m h hs.f,←takT_m h hs.f hs.t,←body_m hV hV' h hL,sgn_m hV hV' h hL];cases decide (castI P.bd m.f m.t>0)<;>simp only [cond_true,cond_false,List.map_append,List.map_cons,List.map_nil,fB_m,rB_m hs.f,rB_m hs.t,letB_m,promS_m,sgnS_tB]
theorem uci_m(hs:SmOk m):(uciB ⟨0,m.f,m.t,m.p⟩).map tB=uciB ⟨0,mI m.f,mI m.t,m.p⟩:=by
 have e:∀{s:Int},0<=s/\s<=63->sqBytes s=[fB s,rB s]:=λhs=>by
  obtain ⟨a,b⟩:=fB_eq hs;rw [←a,←b];rfl
 unfold uciB;dsimp only;rw [e hs.f,e hs.t,e (mI_rng hs.f),e (mI_rng hs.t)];have hp:(promoU m.p).map tB=promoU m.p:=by
  rcases (by have:=hs.p;omega:m.p=0\/m.p=2\/m.p=3\/m.p=4\/m.p=5) with h|h|h|h|h<;>rw [h]<;>rfl
 cases (m.p !=0)<;>simp only [cond_true,cond_false,List.map_append,List.map_cons,List.map_nil,fB_m,rB_m hs.f,rB_m hs.t,hp]
end
def tTo(l:List UInt8)(n:Nat):List UInt8:=(l.take n).map tB++l.drop n
def bI(l:List UInt8)(i:Nat):Int:=((l.getD i 0).toNat:Int)
theorem tTo_len(l:List UInt8)(n:Nat):(tTo l n).length=l.length:=by simp [tTo];omega
theorem tTo_at(l:List UInt8)(n i:Nat):(tTo l n)[i]?=if i<n then l[i]?.map tB else l[i]?:=by
 unfold tTo;by_cases h:i<n
 ·rw [if_pos h];by_cases h2:i<l.length
  ·rw [List.getElem?_append_left (by simp;omega),List.getElem?_map,List.getElem?_take,if_pos h]
  rw [List.getElem?_eq_none (by simp;omega),List.getElem?_eq_none (by omega)];rfl
 rw [if_neg h];by_cases h2:n<=l.length
 ·rw [List.getElem?_append_right (by simp;omega),List.getElem?_drop];congr 1;simp;omega
 rw [List.getElem?_eq_none (by simp;omega),List.getElem?_eq_none (by omega)]
theorem tTo_set{l:List UInt8}{j:Int}(h0:0<=j)(h:j<(l.length:Int)):(tTo l j.toNat).set j.toNat (tB (l.getD j.toNat 0))=tTo l (j+1).toNat:=by
 apply List.ext_getElem?;intro i;rw [List.getElem?_set,tTo_at,tTo_at,tTo_len];by_cases e:j.toNat=i
 ·rw [if_pos e,if_pos (by omega),if_pos (by omega),List.getD_eq_getElem?_getD,←e,List.getElem?_eq_getElem (by omega)];rfl
 rw [if_neg e];by_cases h2:i<j.toNat
 ·rw [if_pos h2,if_pos (by omega)]
 rw [if_neg h2,if_neg (by omega)]
theorem tTo_same{l:List UInt8}{j:Int}(h0:0<=j)(h:j<(l.length:Int))(e:tB (l.getD j.toNat 0)=l.getD j.toNat 0):tTo l j.toNat=tTo l (j+1).toNat:=by
 rw [←tTo_set h0 h,e];apply List.ext_getElem?;intro i;rw [List.getElem?_set];by_cases q:j.toNat=i
 ·rw [if_pos q,if_pos (by rw [tTo_len];omega),tTo_at,if_neg (by omega),←q,List.getD_eq_getElem?_getD,List.getElem?_eq_getElem (by omega)];rfl
 rw [if_neg q]
theorem tTo_end{l:List UInt8}{n:Nat}(h:l.length<=n):tTo l n=l.map tB:=by simp [tTo,List.take_of_length_le h,List.drop_eq_nil_of_le h]
theorem byT_at{l:List UInt8}{z:Nat}{j:Int}(h0:0<=j)(h:j<(l.length:Int)):(byA (tTo l j.toNat) z)[0+j.toNat*1]?=some (.int .u8 (bI l j.toNat)):=by
 rw [show 0+j.toNat*1=j.toNat by omega,byA_at (by rw [tTo_len];omega)];have:(tTo l j.toNat).getD j.toNat 0=l.getD j.toNat 0:=by
  rw [List.getD_eq_getElem?_getD,List.getD_eq_getElem?_getD,tTo_at,if_neg (by omega)]
 rw [this];rfl
theorem tB_hit{l:List UInt8}{i:Nat}(h:((decide (bI l i>=49))&&(decide (bI l i<=56)))=true):Value.int .u8 (IntKind.u8.wrap (105-bI l i))=.int .u8 ((tB (l.getD i 0)).toNat:Int):=by
 unfold bI at*
 simp only [Bool.and_eq_true,decide_eq_true_eq] at h;unfold tB;rw [if_pos (by omega),UInt8.toNat_ofNat'];generalize (l.getD i 0).toNat=x at*
 have:IntKind.u8.wrap (105-x)=105-x:=by
  simp only [IntKind.wrap,IntKind.bits,IntKind.signed];simp;omega
 rw [this];congr 1;omega
theorem tB_miss{l:List UInt8}{i:Nat}(h:((decide (bI l i>=49))&&(decide (bI l i<=56)))=false):tB (l.getD i 0)=l.getD i 0:=by
 unfold bI at*
 simp only [Bool.and_eq_false_iff,decide_eq_false_iff_not] at h;unfold tB;rw [if_neg (by omega)]
theorem c17{w:World}(l:List UInt8)(hl:l.length<=100000):
  CR 17 [.string (bstr l)] w (.string (bstr (l.map tB))):=by
 have hm0:Mod [] w w:=Mod.refl _ _;refine en func17 ntmps17 ?_;refine zw<|zs 1 [(0,.string (bstr l))]<|ze<|zn<|zs 1 [(5,.string (bstr l))]<|reg_cvB 9 67 5 l 6 (by kernel_rfl) (by kernel_rfl) (by kernel_rfl) λb1 w2 cap3 z4 M5 N6 hM7 hn8=>?_;have hb9:=Nat.le_trans hm0.size hn8.base;have hm10:=hn8.mod;have hm11:=zt hm0 hm10;have hz12:=hm10.size;have hf13:=hn8.at_;have hf14:At w2 b1 (.cells (byA (tTo l (0:Int).toNat) z4) 5 (M5,N6)):=hf13;refine zs 1 [(3,.slice (some ⟨b1,0,none⟩) l.length cap3)]<|ze<|n_then<|w_seq<|zw<|zs 1 [(3,.slice (some ⟨b1,0,none⟩) l.length cap3),iz 4 0]<|ze<|n_then<|w_block<|w_loop (γ:=Int) (λg15=>(((l.length:Nat):Int)-g15).toNat) (λ(g15:Int)=>[(3,.slice (some ⟨b1,0,none⟩) l.length cap3),(4,.int .i64 g15)]) (λ(g15:Int) w_=>(0<=g15/\g15<=((l.length:Nat):Int))/\Mod [b1] w2 w_/\At w_ b1 (.cells (byA (tTo l g15.toNat) z4) 5 (M5,N6))/\(True)) 0 (hold_keep [3,4] (by kernel_rfl)) ⟨(by constructor<;>(try simp only [])<;>omega),Mod.refl _ _,hf14,trivial⟩ ?_;rintro g15 w16 ⟨⟨h18,h19⟩,hm17,hf21,hx20⟩;have hm22:=Mod.fresh' hm11 hm17 (by simp<;>omega);have hz23:=hm17.size;refine w_seq<|zw<|zs 4 [(3,.slice (some ⟨b1,0,none⟩) l.length cap3),iz 4 g15,(10,.bool (decide (g15<((l.length:Nat):Int))))]<|ze<|n_then<|w_cond rfl (λhc24=>?_) (λhc24=>?_)
 ·have dhc24:=of_decide_eq_true hc24;refine w_skip<|n_then<|w_seq<|w_block<|w_cut (γ:=Unit) (λ_=>[(3,.slice (some ⟨b1,0,none⟩) l.length cap3),(4,.int .i64 g15),(24,.bool ((decide ((bI l g15.toNat)>=49))&&(decide ((bI l g15.toNat)<=56))))]) (λ_ w_=>Mod [] w16 w_) ?_ ?_
  ·have hm27:Mod [] w16 w16:=Mod.refl _ _;refine w_region<|zo 6 [(3,.slice (some ⟨b1,0,none⟩) l.length cap3),iz 4 g15,(18,.bool (decide ((bI l g15.toNat)>=49)))] [.prop (0<=g15/\g15<((l.length:Nat):Int)),.cell ⟨b1,(0+g15.toNat*1),none⟩ (.int .u8 (bI l g15.toNat))] (⟨(zh (by first|omega|assumption|decide|(simp only [ByteArray.size_append,bstr_size,List.length_cons,List.length_nil,List.length_append];omega))),At.cell hf21 (byT_at (by omega) (by omega))⟩) ?_;cases hc28:(decide ((bI l g15.toNat)>=49))
   ·have dhc28:=hc28;try simp only [zbq] at dhc28
    exact zs 6 [(3,.slice (some ⟨b1,0,none⟩) l.length cap3),iz 4 g15,(24,.bool false)]<|ze<|zb () hm27
   ·have dhc28:=hc28;try simp only [zbq] at dhc28
    exact zo 6 [(3,.slice (some ⟨b1,0,none⟩) l.length cap3),iz 4 g15,(24,.bool (decide ((bI l g15.toNat)<=56)))] [.prop (0<=g15/\g15<((l.length:Nat):Int)),.cell ⟨b1,(0+g15.toNat*1),none⟩ (.int .u8 (bI l g15.toNat))] (⟨(zh (by first|omega|assumption|decide|(simp only [ByteArray.size_append,bstr_size,List.length_cons,List.length_nil,List.length_append];omega))),At.cell hf21 (byT_at (by omega) (by omega))⟩)<|ze<|zb () hm27
  intro _ w25 hm26;have hf29:=At.on hf21 hm26;have hm31:=Mod.trans hm17 (Mod.of_nil hm26);have hz32:=hm26.size;refine w_cond rfl (λhc33=>?_) (λhc33=>?_)
  ·have dhc33:=hc33;try simp only [zbq] at dhc33
   refine w_region<|zo 8 [(3,.slice (some ⟨b1,0,none⟩) l.length cap3),iz 4 g15,(31,.int .u8 (IntKind.u8.wrap (105-(bI l g15.toNat)))),(32,.pointer (some ⟨b1,(0+g15.toNat*1),none⟩))] [.prop (0<=g15/\g15<((l.length:Nat):Int)),.cell ⟨b1,(0+g15.toNat*1),none⟩ (.int .u8 (bI l g15.toNat)),.prop (0<=g15/\g15<((l.length:Nat):Int))] (⟨(zh (by first|omega|assumption|decide|(simp only [ByteArray.size_append,bstr_size,List.length_cons,List.length_nil,List.length_append];omega))),At.cell hf29 (byT_at (by omega) (by omega)),(zh (by first|omega|assumption|decide|(simp only [ByteArray.size_append,bstr_size,List.length_cons,List.length_nil,List.length_append];omega)))⟩)<|reg_stB (j:=g15.toNat) (tTo l g15.toNat) (tB (l.getD g15.toNat 0)) (.int .u8 (IntKind.u8.wrap (105-(bI l g15.toNat)))) (tB_hit hc33) hf29 (by rw [tTo_len];omega) (by rw [tTo_len];exact hM7) λw34 hu35=>?_;have hf36:At w34 b1 (.cells (byA (tTo l (g15+1).toNat) z4) 5 (M5,N6)):=at_cast hu35.at_ (by rw [tTo_set (by omega) (by omega)]);have hm38:=Mod.fresh' hm31 hu35.mod (by simp<;>omega);have hz39:=hu35.mod.size;refine ze<|n_block<|n_then<|w_region<|zs 2 [(3,.slice (some ⟨b1,0,none⟩) l.length cap3),iz 12 (IntKind.i64.wrap (g15+1))] ?_;rw [zi (g15+1) (by omega) (by omega)];exact zs 1 [(3,.slice (some ⟨b1,0,none⟩) l.length cap3),iz 4 (g15+1)]<|ze<|l_back (g15+1) [3,4] (by kernel_rfl) (by omega) ⟨(by constructor<;>(try simp only [])<;>omega),hm38,hf36,trivial⟩
  ·have dhc33:=hc33;try simp only [zbq] at dhc33
   have hf40:At w25 b1 (.cells (byA (tTo l (g15+1).toNat) z4) 5 (M5,N6)):=at_cast hf29 (by rw [←tTo_same (by omega) (by omega) (tB_miss hc33)]);refine w_skip<|n_block<|n_then<|w_region<|zs 2 [(3,.slice (some ⟨b1,0,none⟩) l.length cap3),iz 12 (IntKind.i64.wrap (g15+1))] ?_;rw [zi (g15+1) (by omega) (by omega)];exact zs 1 [(3,.slice (some ⟨b1,0,none⟩) l.length cap3),iz 4 (g15+1)]<|ze<|l_back (g15+1) [3,4] (by kernel_rfl) (by omega) ⟨(by constructor<;>(try simp only [])<;>omega),hm31,hf40,trivial⟩
 ·have dhc24:=of_decide_eq_false hc24;exact w_exit<|x_then<|x_then<|x_hit<|zn<|zs 1 [(33,.slice (some ⟨b1,0,none⟩) l.length cap3)]<|reg_cvS (cap:=cap3) 67 9 5 (tTo l g15.toNat) (tTo_len l _).symm 34 (by kernel_rfl) (by kernel_rfl) (by kernel_rfl) hf21<|zs 1 [(2,.string (bstr (tTo l g15.toNat)))]<|ze<|n_then<|w_ret<|ret1 results17 rfl (⟨ret_str (by rw [tTo_end (by omega)]),hm22⟩)
set_option synthInstance.maxSize 2000
set_option synthInstance.maxHeartbeats 400000
def turTo(bd:Nat->Int):Nat->Nat->Int
 |0=>bd
 |n+1=>upd (turTo bd n) (mN n) (pm (bd n))
theorem tur_step{bd:Nat->Int}{j:Int}(h:0<=j/\j<=63):upd (turTo bd j.toNat) (mI j).toNat (pm (bd j.toNat))=turTo bd (j+1).toNat:=by
 rw [show (j+1).toNat=j.toNat+1 by omega,mI_toNat h];rfl
theorem tur_at{bd:Nat->Int}:∀n:Nat,n<=64->∀i,i<64->turTo bd n (mN i)=if i<n then pm (bd i) else bd (mN i)
 |0,_,i,_=>by simp [turTo]
 |n+1,h,i,hi=>by
  show upd (turTo bd n) (mN n) (pm (bd n)) (mN i)=_;unfold upd;by_cases e:i=n
  ·rw [if_pos (by rw [e]),if_pos (by omega),e]
  rw [if_neg λq=>e (mN_inj hi (by omega) q),tur_at n (by omega) i hi];by_cases h2:i<n
  ·rw [if_pos h2,if_pos (by omega)]
  rw [if_neg h2,if_neg (by omega)]
theorem xor56{x:Int}(h:0<=x/\x<=63):bitsV .xor .i64 x 56=mI x:=by
 have hall:∀n,n<64->bitsV .xor .i64 ((n:Nat):Int) 56=mI ((n:Nat):Int):=by decide+kernel
 have:=hall x.toNat (by omega)
 rwa [Int.toNat_of_nonneg h.1] at this
def turC(c:Int):Int:=bitsV .or .i64 (c.fdiv (2^(min (2:Int).toNat IntKind.i64.bits))) (IntKind.i64.wrap (bitsV .and .i64 c 3*2^(min (2:Int).toNat IntKind.i64.bits)))
theorem turC_ok:∀n,n<16->(0<=turC (n:Nat)/\turC (n:Nat)<=15)/\∀r,r<4->castBit (turC (n:Nat)) r=castBit (n:Nat) ((r+2)%4):=by decide+kernel
def turS(P:SP):SP:=⟨turTo P.bd 64,1-P.turn,turC P.castle,if P.ep<0 then P.ep else mI P.ep,P.half,P.full⟩
theorem mir_turS{P:SP}(hV:ValidS P):Mir P (turS P):=by
 have hc:=hV.castle;have h:=turC_ok P.castle.toNat (by omega);rw [Int.toNat_of_nonneg hc.1] at h;exact ⟨⟨λi hi=>(tur_at 64 (Nat.le_refl _) i hi).trans (if_pos hi),hV.bd⟩,rfl,rfl,h.1,h.2⟩
theorem c14{w:World}(P:SP)(hB:SPb P)(hT:0<=P.turn/\P.turn<=1)(hE:-1<=P.ep/\P.ep<=63):
  CR 14 [.agg (spCells P)] w (.agg (spCells (turS P))):=by
 refine en func14 ntmps14 ?_;refine zw<|reg_alloc (spCells P) 24 (some 1) (by kernel_rfl) fun b1 w2 hn3=>reg_alloc (spCells zeroSP) 24 (some 2) (by kernel_rfl) fun b9 w10 hn11=>zx<|yV 1 [.row ⟨b1,0,none⟩ 69 (spCells P)] [.agg (spCells P)] (At.row ya (spCells_size P))<|reg_alloc (spCells zeroSP) 24 (some 3) (by kernel_rfl) fun b19 w20 hn21=>reg_store b19 0 (.agg (spCells P)) none (by kernel_rfl) ya (sp_bound_all zeroSP _) (sp_one P) ?_;intro w31 hu32;have hf33:At w31 b19 (.cells (spCells P) 24 (0,0)):=at_cast hu32.at_ (congrArg (λA=>Obj.cells A 24 (0,0)) (spStore_all zeroSP P));refine zz<|w_seq<|zw<|yS 1<|zz<|w_block ?_;have hf38:At w31 b19 (.cells (spCells (⟨(turTo P.bd (0:Int).toNat),P.turn,P.castle,P.ep,P.half,P.full⟩:SP)) 24 (0,0)):=hf33;refine w_loop (γ:=Int) (λg39=>(64-g39).toNat) (λ(g39:Int)=>[(1,pz b1),(2,pz b9),(3,pz b19),(4,.int .i64 g39)]) (λ(g39:Int) w_=>(0<=g39/\g39<=64)/\Mod [b19] w31 w_/\At w_ b19 (.cells (spCells (⟨(turTo P.bd g39.toNat),P.turn,P.castle,P.ep,P.half,P.full⟩:SP)) 24 (0,0))/\(True)) 0 (hold_keep [1,2,3,4] (by kernel_rfl)) ⟨(by constructor<;>(try simp only [])<;>omega),Mod.refl _ _,hf38,trivial⟩ ?_;rintro g39 w40 ⟨⟨h42,h43⟩,hm41,hf45,hx44⟩;refine w_seq<|zw<|yS 2<|zz<|yC (decide (g39<64)) (λhc50=>?_) λhc50=>?_
 ·have dhc50:=of_decide_eq_true hc50;have hbi:=hB g39.toNat (by omega);have hmi:=mI_rng (s:=g39) (by omega);refine w_skip<|n_then<|w_seq<|w_block<|zw<|yO 4 [.prop (0<=g39/\g39<((64:Nat):Int)),.cell ⟨b1,(0+g39.toNat*1),none⟩ (.int .i64 (P.bd g39.toNat))] (⟨(zh (by omega)),yc (spCells_b0 P (by omega))⟩)<|yS 1<|zz<|w_cut (γ:=Int) (λg51=>[(1,pz b1),(2,pz b9),(3,pz b19),(4,.int .i64 g39),(5,.int .i64 g51)]) (λg51 w_=>Mod [] w40 w_/\g51=(pm (P.bd g39.toNat))) ?_ ?_
  ·refine w_block<|zw<|yS 3<|zz<|yC (decide ((P.bd g39.toNat)>6)) (λhc55=>?_) λhc55=>?_
   ·have dhc55:=of_decide_eq_true hc55;exact w_region<|yS 2<|yW 19 (zi ((P.bd g39.toNat)-(6:Int)) (by omega) (by omega))<|yS 1<|ze<|n_block<|c_back ((P.bd g39.toNat)-6) [1,2,3,4,5] (by kernel_rfl) ⟨yt,(by unfold pm;(repeat' split)<;>omega)⟩
   have dhc55:=of_decide_eq_false hc55;refine zw<|yS 3<|zz<|yC (decide ((P.bd g39.toNat)>0)) (λhc56=>?_) λhc56=>?_
   ·have dhc56:=of_decide_eq_true hc56;exact w_region<|yS 2<|yW 24 (zi ((P.bd g39.toNat)+(6:Int)) (by omega) (by omega))<|yS 1<|ze<|n_block<|c_back ((P.bd g39.toNat)+6) [1,2,3,4,5] (by kernel_rfl) ⟨yt,(by unfold pm;(repeat' split)<;>omega)⟩
   have dhc56:=of_decide_eq_false hc56;exact w_skip<|n_block<|c_back (P.bd g39.toNat) [1,2,3,4,5] (by kernel_rfl) ⟨yt,(by unfold pm;(repeat' split)<;>omega)⟩
  rintro _ w52 ⟨hm53,rfl⟩;refine w_region<|zs 2 [rz 1 b1,rz 2 b9,rz 3 b19,iz 4 g39,iz 5 (pm (P.bd g39.toNat)),iz 26 (bitsV .xor .i64 g39 56)] ?_;rw [(show ((bitsV .xor .i64 g39 (56:Int)):Int)=(mI g39) from (xor56 (by omega)))];refine yO 3 [.prop (0<=(mI g39)/\(mI g39)<((64:Nat):Int))] (zh (by omega))<|reg_store b19 (0+(mI g39).toNat*1) (.int .i64 (pm (P.bd g39.toNat))) none (by kernel_rfl) ya (sp_bound (⟨(turTo P.bd g39.toNat),P.turn,P.castle,P.ep,P.half,P.full⟩:SP) (pm (P.bd g39.toNat)) (by omega)) rfl ?_;intro w63 hu64;have hf65:At w63 b19 (.cells (spCells (⟨(upd (turTo P.bd g39.toNat) (0+(mI g39).toNat*1) (pm (P.bd g39.toNat))),P.turn,P.castle,P.ep,P.half,P.full⟩:SP)) 24 (0,0)):=at_cast hu64.at_ (congrArg (λA=>Obj.cells A 24 (0,0)) (spStore_bd (⟨(turTo P.bd g39.toNat),P.turn,P.castle,P.ep,P.half,P.full⟩:SP) (by omega) (pm (P.bd g39.toNat))));refine ze<|n_block<|n_then<|w_region<|yS 2<|yW 10 (zi (g39+(1:Int)) (by omega) (by omega))<|yS 1<|ze ?_;have hf71:At w63 b19 (.cells (spCells (⟨(turTo P.bd (g39+1).toNat),P.turn,P.castle,P.ep,P.half,P.full⟩:SP)) 24 (0,0)):=at_cast hf65 (by rw [←tur_step (by omega),show 0+(mI g39).toNat*1=(mI g39).toNat by omega]);exact l_back (g39+1) [1,2,3,4] (by kernel_rfl) (by omega) ⟨(by constructor<;>(try simp only [])<;>omega),yt,hf71,trivial⟩
 have dhc50:=of_decide_eq_false hc50;have hf72:At w40 b19 (.cells (spCells (⟨(turTo P.bd 64),P.turn,P.castle,P.ep,P.half,P.full⟩:SP)) 24 (0,0)):=at_cast hf45 (by rw [show g39=64 from by omega];rfl);refine w_exit<|x_then<|x_then<|x_hit<|zn<|yO 3 [.cell ⟨b1,64,none⟩ (.int .i64 P.turn)] (yc (spCells_64 P))<|yW 32 (zi ((1:Int)-P.turn) (by omega) (by omega))<|yS 1<|reg_store b19 64 (.int .i64 (1-P.turn)) none (by kernel_rfl) hf72 (sp_bound (⟨(turTo P.bd 64),P.turn,P.castle,P.ep,P.half,P.full⟩:SP) (1-P.turn) (by omega)) rfl ?_;intro w73 hu74;have hf75:At w73 b19 (.cells (spCells (⟨(turTo P.bd 64),(1-P.turn),P.castle,P.ep,P.half,P.full⟩:SP)) 24 (0,0)):=at_cast hu74.at_ (congrArg (λA=>Obj.cells A 24 (0,0)) (spStore_64 (⟨(turTo P.bd 64),P.turn,P.castle,P.ep,P.half,P.full⟩:SP) (1-P.turn)));refine zx<|zo 8 [rz 1 b1,rz 2 b9,rz 3 b19,iz 41 (bitsV .or .i64 (P.castle.fdiv (2^(min (2:Int).toNat IntKind.i64.bits))) (IntKind.i64.wrap ((bitsV .and .i64 P.castle 3)*2^(min (2:Int).toNat IntKind.i64.bits))))] [.cell ⟨b1,65,none⟩ (.int .i64 P.castle),.prop (0<=(2:Int)),.cell ⟨b1,65,none⟩ (.int .i64 P.castle),.prop (0<=(2:Int))] (⟨yc (spCells_65 P),(zh (by omega)),yc (spCells_65 P),(zh (by omega))⟩) ?_;rw [show (bitsV .or .i64 (P.castle.fdiv (2^(min (2:Int).toNat IntKind.i64.bits))) (IntKind.i64.wrap ((bitsV .and .i64 P.castle (3:Int))*2^(min (2:Int).toNat IntKind.i64.bits))))=turC P.castle from rfl];refine yS 1<|reg_store b19 65 (.int .i64 (turC P.castle)) none (by kernel_rfl) hf75 (sp_bound (⟨(turTo P.bd 64),(1-P.turn),P.castle,P.ep,P.half,P.full⟩:SP) (turC P.castle) (by omega)) rfl ?_;intro w80 hu81;have hf82:At w80 b19 (.cells (spCells (⟨(turTo P.bd 64),(1-P.turn),(turC P.castle),P.ep,P.half,P.full⟩:SP)) 24 (0,0)):=at_cast hu81.at_ (congrArg (λA=>Obj.cells A 24 (0,0)) (spStore_65 (⟨(turTo P.bd 64),(1-P.turn),P.castle,P.ep,P.half,P.full⟩:SP) (turC P.castle)));refine zz<|w_cut (γ:=Unit) (λ_=>[(2,pz b9),(3,pz b19)]) (λ_ w_=>Mod [b19] w80 w_/\At w_ b19 (.cells (spCells (⟨(turTo P.bd 64),(1-P.turn),(turC P.castle),(if P.ep<0 then P.ep else mI P.ep),P.half,P.full⟩:SP)) 24 (0,0))) ?_ ?_
 ·refine zw<|yO 3 [.cell ⟨b1,66,none⟩ (.int .i64 P.ep)] (yc (spCells_66 P))<|zz<|yC (decide (P.ep>=0)) (λhc91=>?_) λhc91=>?_
  ·have dhc91:=of_decide_eq_true hc91;refine w_region<|zo 3 [rz 2 b9,rz 3 b19,iz 48 (bitsV .xor .i64 P.ep 56)] [.cell ⟨b1,66,none⟩ (.int .i64 P.ep)] (yc (spCells_66 P)) ?_;rw [(show ((bitsV .xor .i64 P.ep (56:Int)):Int)=(mI P.ep) from (xor56 (by omega)))];refine yS 1<|reg_store b19 66 (.int .i64 (mI P.ep)) none (by kernel_rfl) hf82 (sp_bound (⟨(turTo P.bd 64),(1-P.turn),(turC P.castle),P.ep,P.half,P.full⟩:SP) (mI P.ep) (by omega)) rfl ?_;intro w92 hu93;have hf94:At w92 b19 (.cells (spCells (⟨(turTo P.bd 64),(1-P.turn),(turC P.castle),(mI P.ep),P.half,P.full⟩:SP)) 24 (0,0)):=at_cast hu93.at_ (congrArg (λA=>Obj.cells A 24 (0,0)) (spStore_66 (⟨(turTo P.bd 64),(1-P.turn),(turC P.castle),P.ep,P.half,P.full⟩:SP) (mI P.ep)));exact ze<|zb () ⟨yt,at_cast hf94 (by first|rw [if_neg (by omega)]|rw [if_pos (by omega)])⟩
  have dhc91:=of_decide_eq_false hc91;exact w_skip<|zb () ⟨yt,at_cast hf82 (by first|rw [if_neg (by omega)]|rw [if_pos (by omega)])⟩
 rintro _ w87 ⟨hm88,hf89⟩;refine zw<|yV 1 [.row ⟨b19,0,none⟩ 69 (spCells (⟨(turTo P.bd 64),(1-P.turn),(turC P.castle),(if P.ep<0 then P.ep else mI P.ep),P.half,P.full⟩:SP))] [.agg (spCells (⟨(turTo P.bd 64),(1-P.turn),(turC P.castle),(if P.ep<0 then P.ep else mI P.ep),P.half,P.full⟩:SP))] (At.row hf89 (spCells_size (⟨(turTo P.bd 64),(1-P.turn),(turC P.castle),(if P.ep<0 then P.ep else mI P.ep),P.half,P.full⟩:SP)))<|reg_store b9 0 (.agg (spCells (⟨(turTo P.bd 64),(1-P.turn),(turC P.castle),(if P.ep<0 then P.ep else mI P.ep),P.half,P.full⟩:SP))) none (by kernel_rfl) ya (sp_bound_all zeroSP _) (sp_one (⟨(turTo P.bd 64),(1-P.turn),(turC P.castle),(if P.ep<0 then P.ep else mI P.ep),P.half,P.full⟩:SP)) ?_;intro w104 hu105;have hf106:At w104 b9 (.cells (spCells (⟨(turTo P.bd 64),(1-P.turn),(turC P.castle),(if P.ep<0 then P.ep else mI P.ep),P.half,P.full⟩:SP)) 24 (0,0)):=at_cast hu105.at_ (congrArg (λA=>Obj.cells A 24 (0,0)) (spStore_all zeroSP (⟨(turTo P.bd 64),(1-P.turn),(turC P.castle),(if P.ep<0 then P.ep else mI P.ep),P.half,P.full⟩:SP)));exact zz<|w_ret<|retc results14 rfl (by kernel_rfl) (by kernel_rfl) ((At.row hf106 (spCells_size (⟨(turTo P.bd 64),(1-P.turn),(turC P.castle),(if P.ep<0 then P.ep else mI P.ep),P.half,P.full⟩:SP)))) (⟨rfl,yt⟩)
theorem c196{c:GC}{p b:Nat}{vm:Value}{S:Ps}{w:World}(hp:At w p (.cells (psCells b vm S) 110 (0,0))){B:Bd}(hb:At w b (.cells (bdCells B) 135 (0,0)))(hG:Glob c w)(hpre:MvPre B S)(hbase:c.base<=p)(hca:Cache w vm B S)
  (l:List UInt8)(q:Parts)(hz:zzR l=some q)(hl:l.length<=100000)(hs:Short q)(hd:∀M∈allL B S,DecOk B S M)(hex:∃M∈allL B S,hitT B S q M=true):
  CQ 196 [.agg #[],pz p,.string (bstr l)] w (λe w'=>∃t M,e=.returned (.tuple #[pz t,.nilIface])/\Mod [p] w w'/\At w' t (.cells (mvCells (.pointer none) M) 98 (0,0))/\M∈allL B S/\hitT B S q M=true):=by
 refine en func196 ntmps196 ?_;refine zw<|reg_alloc #[] 90 (some 3) (by kernel_rfl) λb0 w1 hn1=>?_;refine yS 2<|zx<|yS 3<|zC (some 11) (c175 (hp.on hn1.mod) (hb.on hn1.mod) (Glob.on hG hn1.mod) hpre hbase (Cache.on hca hn1.mod) l q hz hl hs hd hex) ?_;rintro _ w2 ⟨t,M,rfl,hm,ht,hM,hh⟩;refine ⟨_,rfl,?_⟩;exact yS 4<|zz<|w_ret (ret2 results196 rfl rfl ⟨t,M,rfl,Mod.fresh' (Mod.of_nil hn1.mod) hm (by simp),ht,hM,hh⟩)
set_option maxHeartbeats 2000000 in
theorem c15s{c:GC}{w:World}(P:SP)(hG:Glob c w)(hP:SPok P)(hpre:MvPre (boardOf P.bd) (psOf P))(x y z:Int)(hex:∃i,i<(allL (boardOf P.bd) (psOf P)).length/\eqM (mvAt (allL (boardOf P.bd) (psOf P)) i) x y z=true)(hr:∀M∈(allL (boardOf P.bd) (psOf P)),MvOk M)(hd:∀M∈(allL (boardOf P.bd) (psOf P)),DecOk (boardOf P.bd) (psOf P) M):
  CQ 15 [.int .i64 0,.agg (spCells P),.agg #[.int .i64 x,.int .i64 y,.int .i64 z]] w (fun e w'=>∃M∈(allL (boardOf P.bd) (psOf P)),eqM M x y z=true/\e=.returned (.tuple #[.string (bstr (encI (boardOf P.bd) (psOf P) (allL (boardOf P.bd) (psOf P)) M)),.bool true])/\Mod [] w w'):=by
 have hm0:Mod [] w w:=Mod.refl _ _;have hGs:=hG.size;refine enterD (n:=22) func15 rfl ntmps15 rfl<|w_seq<|w_region<|zA (spCells P) 24 (some 4) ?_;intro b1 w2 hn3;have hb4:c.base<=b1:=Glob.lt hG hn3;have hb5:=Nat.le_trans hm0.size hn3.base;have hm6:=hn3.mod;have hm8:=Mod.trans hm0 (Mod.of_nil hm6);refine zA (#[.int .i64 x,.int .i64 y,.int .i64 z]) 30 (some 5) ?_;intro b10 w11 hn12;have hb13:c.base<=b10:=Glob.lt (yG w2) hn12;have hb14:=Nat.le_trans hm8.size hn12.base;have hm15:=hn12.mod;have hm18:=Mod.trans hm8 (Mod.of_nil hm15);refine zA (#[.string (⟨#[]⟩)]) 9 (some 6) ?_;intro b20 w21 hn22;have hb23:c.base<=b20:=Glob.lt (yG w11) hn22;have hb24:=Nat.le_trans hm18.size hn22.base;have hm25:=hn22.mod;have hm29:=Mod.trans hm18 (Mod.of_nil hm25);refine zA (#[.bool false]) 4 (some 7) ?_;intro b31 w32 hn33;have hb34:c.base<=b31:=Glob.lt (yG w21) hn33;have hb35:=Nat.le_trans hm29.size hn33.base;have hm36:=hn33.mod;have hm41:=Mod.trans hm29 (Mod.of_nil hm36);refine zz<|w_seq<|w_region<|reg_run (v:=.func (.func 26) #[] #[.pointer (some ⟨b20,0,none⟩),.pointer (some ⟨b31,0,none⟩)]) (w':=w32) rfl rfl rfl (by kernel_rfl) (.inl (by kernel_rfl))<|reg_defer (def26 (.pointer (some ⟨b20,0,none⟩)) (.pointer (some ⟨b31,0,none⟩))) rfl rfl rfl (by kernel_rfl) (by kernel_rfl)<|zz<|w_seq<|w_region<|yV 1 [.row ⟨b1,0,none⟩ 69 (spCells P)] [.agg (spCells P)] (At.row ya (spCells_size P))<|zC (some 11) (c27 P yg hP) ?_;rintro _ w43 ⟨p45,b46,rfl,hm44,hf47,hf48,hb49,hb50⟩;refine ⟨_,rfl,?_⟩;have hb51:=Nat.le_trans hm41.size hb49;have hm57:=Mod.trans hm41 (Mod.of_nil hm44);refine yS 1<|zz<|w_seq<|a_start (f:=12) (by kernel_rfl) (by kernel_rfl) fun w58 hm59=>?_;have hf60:=At.on (yA w43 b1) hm59;have hf61:=At.on (yA w43 b10) hm59;have hf62:=At.on (yA w43 b20) hm59;have hf63:=At.on (yA w43 b31) hm59;have hf64:=At.on hf47 hm59;have hf65:=At.on hf48 hm59;have hG66:=Glob.on (yG w43) hm59;have hm67:=Mod.trans hm57 (Mod.of_nil hm59);refine a_take 0 (.int .i64 0) (some 12) [] [] (by kernel_rfl) (by kernel_rfl) trivial<|a_take 2 (.pointer (some ⟨p45,0,none⟩)) (some 14) [] [] (by kernel_rfl) (by kernel_rfl) trivial<|a_take 3 (.pointer (some ⟨p45,0,none⟩)) (some 15) [] [] (by kernel_rfl) (by kernel_rfl) trivial<|a_both 1 4 28 [.int .i64 0] (some 13) (by kernel_rfl) (.agg (#[.int .i64 x,.int .i64 y,.int .i64 z])) (some 16) [.row ⟨b10,0,none⟩ 3 (#[.int .i64 x,.int .i64 y,.int .i64 z])] [.agg (#[.int .i64 x,.int .i64 y,.int .i64 z])] (by kernel_rfl) (by kernel_rfl) (c28_0) (At.row hf61 rfl) ?_ ?_
 ·skip
  rintro _ w68 ⟨rfl,hm69⟩;refine ⟨_,rfl,?_⟩;have hf74:=At.on hf64 hm69;have hf75:=At.on hf65 hm69;have hm77:=Mod.trans hm67 (Mod.of_nil hm69);refine a_takeR 6 (.func (.method "Encode") #[.iface 89 (.agg #[])] #[]) rfl rfl rfl (by kernel_rfl) (fun _=>by kernel_rfl) (by kernel_rfl)<|a_takeR 7 (.func (.method "Encode") #[.iface 89 (.agg #[])] #[]) rfl rfl rfl (by kernel_rfl) (fun _=>by kernel_rfl) (by kernel_rfl)<|a_take 8 (.iface 89 (.agg #[])) (some 20) [] [] (by kernel_rfl) (by kernel_rfl) trivial<|a_one 4 (.agg (#[.int .i64 x,.int .i64 y,.int .i64 z])) (some 16) [.row ⟨b10,0,none⟩ 3 (#[.int .i64 x,.int .i64 y,.int .i64 z])] [.agg (#[.int .i64 x,.int .i64 y,.int .i64 z])] (by kernel_rfl) (by kernel_rfl) (At.row ya rfl)<|a_call 5 29 [.pointer (some ⟨p45,0,none⟩),.agg (#[.int .i64 x,.int .i64 y,.int .i64 z])] (some 17) (by kernel_rfl) (by kernel_rfl) (c29 (S:=psOf P) hf74 hf75 yg hpre (by have:=hG.size;omega) (.inl rfl) x y z hex hr) ?_;rintro _ w78 ⟨q80,M81,vm82,rfl,hm79,hf83,hca84,hf85,hb86,hin87,heq88⟩;refine ⟨_,rfl,?_⟩;have hb89:=Nat.le_trans hm77.size hb86;have hf94:=At.keep hf75 hm79 (not_mem1 (At.ne hf75 hf74 rfl));have hG95:=Glob.keep (yG w68) hm79 (by simp<;>omega);have hm96:=Mod.fresh' hm77 hm79 (by simp<;>omega);obtain ⟨gc97,cc98,rfl,hoc99⟩:=hca84;refine a_enter 9 176 [.agg #[],.pointer (some ⟨p45,0,none⟩),.pointer (some ⟨q80,0,none⟩)] rfl rfl rfl (by kernel_rfl) (by kernel_rfl) (by kernel_rfl) (c176 hf83 hoc99 hf94 hf85 hG95 (by have:=allL_len hpre;omega) (List.length_pos_of_mem hin87) (hd M81 hin87).up) ?_;rintro _ w100 ⟨rfl,hm101⟩;refine ⟨_,rfl,?_⟩;have hf105:=At.on (yA w78 b31) hm101;have hm110:=Mod.trans hm96 (Mod.of_nil hm101);refine a_tail 10 (by kernel_rfl) (by kernel_rfl)<|zS b20 0 (.string (bstr (encI (boardOf P.bd) (psOf P) (allL (boardOf P.bd) (psOf P)) M81))) ?_;intro w111 hu112;have hf113:At w111 b20 (.cells (#[.string (bstr (encI (boardOf P.bd) (psOf P) (allL (boardOf P.bd) (psOf P)) M81))]) 9 (0,0)):=hu112.at_;have hf116:=At.keep hf105 hu112.mod (not_mem1 (At.ne hf105 (yA w100 b20) rfl));have hm121:=Mod.fresh' hm110 hu112.mod (by simp<;>omega);refine zS b31 0 (.bool true) ?_;intro w122 hu123;have hf124:At w122 b31 (.cells (#[.bool true]) 4 (0,0)):=hu123.at_;have hf130:=At.keep hf113 hu123.mod (not_mem1 (At.ne hf113 hf116 rfl));have hm132:=Mod.fresh' hm121 hu123.mod (by simp<;>omega);exact ze<|only_n<|n_then<|w_ret<|retD26 results15 rfl rfl (by kernel_rfl) (by kernel_rfl) (At.cell (j:=0) hf130 rfl) (At.cell (j:=0) hf124 rfl) ⟨M81,hin87,heq88,rfl,hm132⟩
 ·skip
  refine a_call 1 28 [.int .i64 0] (some 13) (by kernel_rfl) (by kernel_rfl) (c28_0) ?_;rintro _ w133 ⟨rfl,hm134⟩;refine ⟨_,rfl,?_⟩;have hf135:=At.on hf60 hm134;have hf136:=At.on hf61 hm134;have hf137:=At.on hf62 hm134;have hf138:=At.on hf63 hm134;have hf139:=At.on hf64 hm134;have hf140:=At.on hf65 hm134;have hG141:=Glob.on hG66 hm134;have hm142:=Mod.trans hm67 (Mod.of_nil hm134);refine a_takeR 6 (.func (.method "Encode") #[.iface 89 (.agg #[])] #[]) rfl rfl rfl (by kernel_rfl) (fun _=>by kernel_rfl) (by kernel_rfl)<|a_takeR 7 (.func (.method "Encode") #[.iface 89 (.agg #[])] #[]) rfl rfl rfl (by kernel_rfl) (fun _=>by kernel_rfl) (by kernel_rfl)<|a_take 8 (.iface 89 (.agg #[])) (some 20) [] [] (by kernel_rfl) (by kernel_rfl) trivial<|a_call 5 29 [.pointer (some ⟨p45,0,none⟩),.agg (#[.int .i64 x,.int .i64 y,.int .i64 z])] (some 17) (by kernel_rfl) (by kernel_rfl) (c29 (S:=psOf P) hf139 hf140 hG141 hpre (by have:=hG.size;omega) (.inl rfl) x y z hex hr) ?_;rintro _ w143 ⟨q145,M146,vm147,rfl,hm144,hf148,hca149,hf150,hb151,hin152,heq153⟩;refine ⟨_,rfl,?_⟩;have hb154:=Nat.le_trans hm142.size hb151;have hf155:=At.keep hf135 hm144 (not_mem1 (At.ne hf135 hf139 rfl));have hf156:=At.keep hf136 hm144 (not_mem1 (At.ne hf136 hf139 rfl));have hf157:=At.keep hf137 hm144 (not_mem1 (At.ne hf137 hf139 rfl));have hf158:=At.keep hf138 hm144 (not_mem1 (At.ne hf138 hf139 rfl));have hf159:=At.keep hf140 hm144 (not_mem1 (At.ne hf140 hf139 rfl));have hG160:=Glob.keep hG141 hm144 (by simp<;>omega);have hm161:=Mod.fresh' hm142 hm144 (by simp<;>omega);obtain ⟨gc162,cc163,rfl,hoc164⟩:=hca149;refine a_enter 9 176 [.agg #[],.pointer (some ⟨p45,0,none⟩),.pointer (some ⟨q145,0,none⟩)] rfl rfl rfl (by kernel_rfl) (by kernel_rfl) (by kernel_rfl) (c176 hf148 hoc164 hf159 hf150 hG160 (by have:=allL_len hpre;omega) (List.length_pos_of_mem hin152) (hd M146 hin152).up) ?_;rintro _ w165 ⟨rfl,hm166⟩;refine ⟨_,rfl,?_⟩;have hf167:=At.on hf155 hm166;have hf168:=At.on hf156 hm166;have hf169:=At.on hf157 hm166;have hf170:=At.on hf158 hm166;have hf171:=At.on hf159 hm166;have hf172:=At.on hf148 hm166;have hf173:=At.on hf150 hm166;have hG174:=Glob.on hG160 hm166;have hm175:=Mod.trans hm161 (Mod.of_nil hm166);refine a_tail 10 (by kernel_rfl) (by kernel_rfl)<|zS b20 0 (.string (bstr (encI (boardOf P.bd) (psOf P) (allL (boardOf P.bd) (psOf P)) M146))) ?_;intro w176 hu177;have hf178:At w176 b20 (.cells (#[.string (bstr (encI (boardOf P.bd) (psOf P) (allL (boardOf P.bd) (psOf P)) M146))]) 9 (0,0)):=hu177.at_;have hf179:=At.keep hf167 hu177.mod (not_mem1 (At.ne hf167 hf169 rfl));have hf180:=At.keep hf168 hu177.mod (not_mem1 (At.ne hf168 hf169 rfl));have hf181:=At.keep hf170 hu177.mod (not_mem1 (At.ne hf170 hf169 rfl));have hf182:=At.keep hf171 hu177.mod (not_mem1 (At.ne hf171 hf169 rfl));have hf183:=At.keep hf172 hu177.mod (not_mem1 (At.ne hf172 hf169 rfl));have hf184:=At.keep hf173 hu177.mod (not_mem1 (At.ne hf173 hf169 rfl));have hG185:=Glob.keep hG174 hu177.mod (by simp<;>omega)
  have hm186:=Mod.fresh' hm175 hu177.mod (by simp<;>omega);refine zS b31 0 (.bool true) ?_;intro w187 hu188;have hf189:At w187 b31 (.cells (#[.bool true]) 4 (0,0)):=hu188.at_;have hf190:=At.keep hf179 hu188.mod (not_mem1 (At.ne hf179 hf181 rfl));have hf191:=At.keep hf180 hu188.mod (not_mem1 (At.ne hf180 hf181 rfl));have hf192:=At.keep hf182 hu188.mod (not_mem1 (At.ne hf182 hf181 rfl));have hf193:=At.keep hf183 hu188.mod (not_mem1 (At.ne hf183 hf181 rfl));have hf194:=At.keep hf184 hu188.mod (not_mem1 (At.ne hf184 hf181 rfl));have hf195:=At.keep hf178 hu188.mod (not_mem1 (At.ne hf178 hf181 rfl));have hG196:=Glob.keep hG185 hu188.mod (by simp<;>omega);have hm197:=Mod.fresh' hm186 hu188.mod (by simp<;>omega);exact ze<|only_n<|n_then<|w_ret<|retD26 results15 rfl rfl (by kernel_rfl) (by kernel_rfl) (At.cell (j:=0) hf195 rfl) (At.cell (j:=0) hf189 rfl) ⟨M146,hin152,heq153,rfl,hm197⟩
set_option maxHeartbeats 2000000 in
theorem c15l{c:GC}{w:World}(P:SP)(hG:Glob c w)(hP:SPok P)(hpre:MvPre (boardOf P.bd) (psOf P))(x y z:Int)(hex:∃i,i<(allL (boardOf P.bd) (psOf P)).length/\eqM (mvAt (allL (boardOf P.bd) (psOf P)) i) x y z=true)(hr:∀M∈(allL (boardOf P.bd) (psOf P)),MvOk M)(hd:∀M∈(allL (boardOf P.bd) (psOf P)),DecOk (boardOf P.bd) (psOf P) M):
  CQ 15 [.int .i64 1,.agg (spCells P),.agg #[.int .i64 x,.int .i64 y,.int .i64 z]] w (fun e w'=>∃M∈(allL (boardOf P.bd) (psOf P)),eqM M x y z=true/\e=.returned (.tuple #[.string (bstr (lanI (boardOf P.bd) (psOf P) M)),.bool true])/\Mod [] w w'):=by
 have hm0:Mod [] w w:=Mod.refl _ _;have hGs:=hG.size;refine enterD (n:=22) func15 rfl ntmps15 rfl<|w_seq<|w_region<|zA (spCells P) 24 (some 4) ?_;intro b1 w2 hn3;have hb4:c.base<=b1:=Glob.lt hG hn3;have hb5:=Nat.le_trans hm0.size hn3.base;have hm6:=hn3.mod;have hm8:=Mod.trans hm0 (Mod.of_nil hm6);refine zA (#[.int .i64 x,.int .i64 y,.int .i64 z]) 30 (some 5) ?_;intro b10 w11 hn12;have hb13:c.base<=b10:=Glob.lt (yG w2) hn12;have hb14:=Nat.le_trans hm8.size hn12.base;have hm15:=hn12.mod;have hm18:=Mod.trans hm8 (Mod.of_nil hm15);refine zA (#[.string (⟨#[]⟩)]) 9 (some 6) ?_;intro b20 w21 hn22;have hb23:c.base<=b20:=Glob.lt (yG w11) hn22;have hb24:=Nat.le_trans hm18.size hn22.base;have hm25:=hn22.mod;have hm29:=Mod.trans hm18 (Mod.of_nil hm25);refine zA (#[.bool false]) 4 (some 7) ?_;intro b31 w32 hn33;have hb34:c.base<=b31:=Glob.lt (yG w21) hn33;have hb35:=Nat.le_trans hm29.size hn33.base;have hm36:=hn33.mod;have hm41:=Mod.trans hm29 (Mod.of_nil hm36);refine zz<|w_seq<|w_region<|reg_run (v:=.func (.func 26) #[] #[.pointer (some ⟨b20,0,none⟩),.pointer (some ⟨b31,0,none⟩)]) (w':=w32) rfl rfl rfl (by kernel_rfl) (.inl (by kernel_rfl))<|reg_defer (def26 (.pointer (some ⟨b20,0,none⟩)) (.pointer (some ⟨b31,0,none⟩))) rfl rfl rfl (by kernel_rfl) (by kernel_rfl)<|zz<|w_seq<|w_region<|yV 1 [.row ⟨b1,0,none⟩ 69 (spCells P)] [.agg (spCells P)] (At.row ya (spCells_size P))<|zC (some 11) (c27 P yg hP) ?_;rintro _ w43 ⟨p45,b46,rfl,hm44,hf47,hf48,hb49,hb50⟩;refine ⟨_,rfl,?_⟩;have hb51:=Nat.le_trans hm41.size hb49;have hm57:=Mod.trans hm41 (Mod.of_nil hm44);refine yS 1<|zz<|w_seq<|a_start (f:=12) (by kernel_rfl) (by kernel_rfl) fun w58 hm59=>?_;have hf60:=At.on (yA w43 b1) hm59;have hf61:=At.on (yA w43 b10) hm59;have hf62:=At.on (yA w43 b20) hm59;have hf63:=At.on (yA w43 b31) hm59;have hf64:=At.on hf47 hm59;have hf65:=At.on hf48 hm59;have hG66:=Glob.on (yG w43) hm59;have hm67:=Mod.trans hm57 (Mod.of_nil hm59);refine a_take 0 (.int .i64 1) (some 12) [] [] (by kernel_rfl) (by kernel_rfl) trivial<|a_take 2 (.pointer (some ⟨p45,0,none⟩)) (some 14) [] [] (by kernel_rfl) (by kernel_rfl) trivial<|a_take 3 (.pointer (some ⟨p45,0,none⟩)) (some 15) [] [] (by kernel_rfl) (by kernel_rfl) trivial<|a_both 1 4 28 [.int .i64 1] (some 13) (by kernel_rfl) (.agg (#[.int .i64 x,.int .i64 y,.int .i64 z])) (some 16) [.row ⟨b10,0,none⟩ 3 (#[.int .i64 x,.int .i64 y,.int .i64 z])] [.agg (#[.int .i64 x,.int .i64 y,.int .i64 z])] (by kernel_rfl) (by kernel_rfl) (c28_1) (At.row hf61 rfl) ?_ ?_
 ·skip
  rintro _ w68 ⟨rfl,hm69⟩;refine ⟨_,rfl,?_⟩;have hf74:=At.on hf64 hm69;have hf75:=At.on hf65 hm69;have hm77:=Mod.trans hm67 (Mod.of_nil hm69);refine a_takeR 6 (.func (.method "Encode") #[.iface 90 (.agg #[])] #[]) rfl rfl rfl (by kernel_rfl) (fun _=>by kernel_rfl) (by kernel_rfl)<|a_takeR 7 (.func (.method "Encode") #[.iface 90 (.agg #[])] #[]) rfl rfl rfl (by kernel_rfl) (fun _=>by kernel_rfl) (by kernel_rfl)<|a_take 8 (.iface 90 (.agg #[])) (some 20) [] [] (by kernel_rfl) (by kernel_rfl) trivial<|a_one 4 (.agg (#[.int .i64 x,.int .i64 y,.int .i64 z])) (some 16) [.row ⟨b10,0,none⟩ 3 (#[.int .i64 x,.int .i64 y,.int .i64 z])] [.agg (#[.int .i64 x,.int .i64 y,.int .i64 z])] (by kernel_rfl) (by kernel_rfl) (At.row ya rfl)<|a_call 5 29 [.pointer (some ⟨p45,0,none⟩),.agg (#[.int .i64 x,.int .i64 y,.int .i64 z])] (some 17) (by kernel_rfl) (by kernel_rfl) (c29 (S:=psOf P) hf74 hf75 yg hpre (by have:=hG.size;omega) (.inl rfl) x y z hex hr) ?_;rintro _ w78 ⟨q80,M81,vm82,rfl,hm79,hf83,hca84,hf85,hb86,hin87,heq88⟩;refine ⟨_,rfl,?_⟩;have hb89:=Nat.le_trans hm77.size hb86;have hf94:=At.keep hf75 hm79 (not_mem1 (At.ne hf75 hf74 rfl));have hG95:=Glob.keep (yG w68) hm79 (by simp<;>omega);have hm96:=Mod.fresh' hm77 hm79 (by simp<;>omega);obtain ⟨gc97,cc98,rfl,hoc99⟩:=hca84;refine a_enter 9 197 [.agg #[],.pointer (some ⟨p45,0,none⟩),.pointer (some ⟨q80,0,none⟩)] rfl rfl rfl (by kernel_rfl) (by kernel_rfl) (by kernel_rfl) (c197 hf83 hoc99 hf94 hf85 hG95 (by have:=allL_len hpre;omega) (List.length_pos_of_mem hin87) (hd M81 hin87).up) ?_;rintro _ w100 ⟨rfl,hm101⟩;refine ⟨_,rfl,?_⟩;have hf105:=At.on (yA w78 b31) hm101;have hm110:=Mod.trans hm96 (Mod.of_nil hm101);refine a_tail 10 (by kernel_rfl) (by kernel_rfl)<|zS b20 0 (.string (bstr (lanI (boardOf P.bd) (psOf P) M81))) ?_;intro w111 hu112;have hf113:At w111 b20 (.cells (#[.string (bstr (lanI (boardOf P.bd) (psOf P) M81))]) 9 (0,0)):=hu112.at_;have hf116:=At.keep hf105 hu112.mod (not_mem1 (At.ne hf105 (yA w100 b20) rfl));have hm121:=Mod.fresh' hm110 hu112.mod (by simp<;>omega);refine zS b31 0 (.bool true) ?_;intro w122 hu123;have hf124:At w122 b31 (.cells (#[.bool true]) 4 (0,0)):=hu123.at_;have hf130:=At.keep hf113 hu123.mod (not_mem1 (At.ne hf113 hf116 rfl));have hm132:=Mod.fresh' hm121 hu123.mod (by simp<;>omega);exact ze<|only_n<|n_then<|w_ret<|retD26 results15 rfl rfl (by kernel_rfl) (by kernel_rfl) (At.cell (j:=0) hf130 rfl) (At.cell (j:=0) hf124 rfl) ⟨M81,hin87,heq88,rfl,hm132⟩
 ·skip
  refine a_call 1 28 [.int .i64 1] (some 13) (by kernel_rfl) (by kernel_rfl) (c28_1) ?_;rintro _ w133 ⟨rfl,hm134⟩;refine ⟨_,rfl,?_⟩;have hf135:=At.on hf60 hm134;have hf136:=At.on hf61 hm134;have hf137:=At.on hf62 hm134;have hf138:=At.on hf63 hm134;have hf139:=At.on hf64 hm134;have hf140:=At.on hf65 hm134;have hG141:=Glob.on hG66 hm134;have hm142:=Mod.trans hm67 (Mod.of_nil hm134);refine a_takeR 6 (.func (.method "Encode") #[.iface 90 (.agg #[])] #[]) rfl rfl rfl (by kernel_rfl) (fun _=>by kernel_rfl) (by kernel_rfl)<|a_takeR 7 (.func (.method "Encode") #[.iface 90 (.agg #[])] #[]) rfl rfl rfl (by kernel_rfl) (fun _=>by kernel_rfl) (by kernel_rfl)<|a_take 8 (.iface 90 (.agg #[])) (some 20) [] [] (by kernel_rfl) (by kernel_rfl) trivial<|a_call 5 29 [.pointer (some ⟨p45,0,none⟩),.agg (#[.int .i64 x,.int .i64 y,.int .i64 z])] (some 17) (by kernel_rfl) (by kernel_rfl) (c29 (S:=psOf P) hf139 hf140 hG141 hpre (by have:=hG.size;omega) (.inl rfl) x y z hex hr) ?_;rintro _ w143 ⟨q145,M146,vm147,rfl,hm144,hf148,hca149,hf150,hb151,hin152,heq153⟩;refine ⟨_,rfl,?_⟩;have hb154:=Nat.le_trans hm142.size hb151;have hf155:=At.keep hf135 hm144 (not_mem1 (At.ne hf135 hf139 rfl));have hf156:=At.keep hf136 hm144 (not_mem1 (At.ne hf136 hf139 rfl));have hf157:=At.keep hf137 hm144 (not_mem1 (At.ne hf137 hf139 rfl));have hf158:=At.keep hf138 hm144 (not_mem1 (At.ne hf138 hf139 rfl));have hf159:=At.keep hf140 hm144 (not_mem1 (At.ne hf140 hf139 rfl));have hG160:=Glob.keep hG141 hm144 (by simp<;>omega);have hm161:=Mod.fresh' hm142 hm144 (by simp<;>omega);obtain ⟨gc162,cc163,rfl,hoc164⟩:=hca149;refine a_enter 9 197 [.agg #[],.pointer (some ⟨p45,0,none⟩),.pointer (some ⟨q145,0,none⟩)] rfl rfl rfl (by kernel_rfl) (by kernel_rfl) (by kernel_rfl) (c197 hf148 hoc164 hf159 hf150 hG160 (by have:=allL_len hpre;omega) (List.length_pos_of_mem hin152) (hd M146 hin152).up) ?_;rintro _ w165 ⟨rfl,hm166⟩;refine ⟨_,rfl,?_⟩;have hf167:=At.on hf155 hm166;have hf168:=At.on hf156 hm166;have hf169:=At.on hf157 hm166;have hf170:=At.on hf158 hm166;have hf171:=At.on hf159 hm166;have hf172:=At.on hf148 hm166;have hf173:=At.on hf150 hm166;have hG174:=Glob.on hG160 hm166;have hm175:=Mod.trans hm161 (Mod.of_nil hm166);refine a_tail 10 (by kernel_rfl) (by kernel_rfl)<|zS b20 0 (.string (bstr (lanI (boardOf P.bd) (psOf P) M146))) ?_;intro w176 hu177;have hf178:At w176 b20 (.cells (#[.string (bstr (lanI (boardOf P.bd) (psOf P) M146))]) 9 (0,0)):=hu177.at_;have hf179:=At.keep hf167 hu177.mod (not_mem1 (At.ne hf167 hf169 rfl));have hf180:=At.keep hf168 hu177.mod (not_mem1 (At.ne hf168 hf169 rfl));have hf181:=At.keep hf170 hu177.mod (not_mem1 (At.ne hf170 hf169 rfl));have hf182:=At.keep hf171 hu177.mod (not_mem1 (At.ne hf171 hf169 rfl));have hf183:=At.keep hf172 hu177.mod (not_mem1 (At.ne hf172 hf169 rfl));have hf184:=At.keep hf173 hu177.mod (not_mem1 (At.ne hf173 hf169 rfl));have hG185:=Glob.keep hG174 hu177.mod (by simp<;>omega);have hm186:=Mod.fresh' hm175 hu177.mod (by simp<;>omega)
  refine zS b31 0 (.bool true) ?_;intro w187 hu188;have hf189:At w187 b31 (.cells (#[.bool true]) 4 (0,0)):=hu188.at_;have hf190:=At.keep hf179 hu188.mod (not_mem1 (At.ne hf179 hf181 rfl));have hf191:=At.keep hf180 hu188.mod (not_mem1 (At.ne hf180 hf181 rfl));have hf192:=At.keep hf182 hu188.mod (not_mem1 (At.ne hf182 hf181 rfl));have hf193:=At.keep hf183 hu188.mod (not_mem1 (At.ne hf183 hf181 rfl));have hf194:=At.keep hf184 hu188.mod (not_mem1 (At.ne hf184 hf181 rfl));have hf195:=At.keep hf178 hu188.mod (not_mem1 (At.ne hf178 hf181 rfl));have hG196:=Glob.keep hG185 hu188.mod (by simp<;>omega);have hm197:=Mod.fresh' hm186 hu188.mod (by simp<;>omega);exact ze<|only_n<|n_then<|w_ret<|retD26 results15 rfl rfl (by kernel_rfl) (by kernel_rfl) (At.cell (j:=0) hf195 rfl) (At.cell (j:=0) hf189 rfl) ⟨M146,hin152,heq153,rfl,hm197⟩
set_option maxHeartbeats 2000000 in
theorem c16s{c:GC}{w:World}(P:SP)(hG:Glob c w)(hP:SPok P)(hpre:MvPre (boardOf P.bd) (psOf P))(l:List UInt8)(q:Parts)(hz:zzR l=some q)(hl:l.length<=100000)(hs:Short q)(hr:∀M∈(allL (boardOf P.bd) (psOf P)),MvOk M)(hd:∀M∈(allL (boardOf P.bd) (psOf P)),DecOk (boardOf P.bd) (psOf P) M)(hex:∃M∈(allL (boardOf P.bd) (psOf P)),hitT (boardOf P.bd) (psOf P) q M=true):
  CQ 16 [.int .i64 0,.agg (spCells P),.string (bstr l)] w (fun e w'=>∃M t,M∈(allL (boardOf P.bd) (psOf P))/\hitT (boardOf P.bd) (psOf P) q M=true/\e=.returned (.tuple #[.agg #[.int .i64 M.s1,.int .i64 M.s2,.int .i64 M.promo],.int .i64 t,.bool true])/\Mod [] w w'):=by
 have hm0:Mod [] w w:=Mod.refl _ _;refine enterD (n:=32) func16 rfl ntmps16 rfl<|w_seq<|w_region<|zA (spCells P) 24 (some 4) ?_;intro b1 w2 hn3;have hm6:=hn3.mod;have hm8:=Mod.trans hm0 (Mod.of_nil hm6);refine zA (#[.int .i64 0,.int .i64 0,.int .i64 0]) 30 (some 6) ?_;intro b10 w11 hn12;have hb14:=Nat.le_trans hm8.size hn12.base;have hm15:=hn12.mod;have hG17:=Glob.on (yG w2) hm15;have hm18:=Mod.trans hm8 (Mod.of_nil hm15);refine zA (#[.int .i64 0]) 3 (some 7) ?_;intro b20 w21 hn22;have hb23:c.base<=b20:=Glob.lt hG17 hn22;have hb24:=Nat.le_trans hm18.size hn22.base;have hm25:=hn22.mod;have hm29:=Mod.trans hm18 (Mod.of_nil hm25);refine zA (#[.bool false]) 4 (some 8) ?_;intro b31 w32 hn33;have hb34:c.base<=b31:=Glob.lt (yG w21) hn33;have hb35:=Nat.le_trans hm29.size hn33.base;have hm36:=hn33.mod;have hm41:=Mod.trans hm29 (Mod.of_nil hm36);refine zz<|w_seq<|w_region<|reg_run (v:=.func (.func 30) #[] #[.pointer (some ⟨b10,0,none⟩),.pointer (some ⟨b20,0,none⟩),.pointer (some ⟨b31,0,none⟩)]) (w':=w32) rfl rfl rfl (by kernel_rfl) (.inl (by kernel_rfl))<|reg_defer (def30 (.pointer (some ⟨b10,0,none⟩)) (.pointer (some ⟨b20,0,none⟩)) (.pointer (some ⟨b31,0,none⟩))) rfl rfl rfl (by kernel_rfl) (by kernel_rfl)<|zz<|w_seq<|a_start (f:=14) (by kernel_rfl) (by kernel_rfl) fun w43 hm44=>?_;have hm50:=Mod.trans hm41 (Mod.of_nil hm44);refine a_take 0 (.int .i64 0) (some 13) [] [] (by kernel_rfl) (by kernel_rfl) trivial<|a_take 4 (.string (bstr l)) (some 17) [] [] (by kernel_rfl) (by kernel_rfl) trivial<|a_both 1 2 28 [.int .i64 0] (some 14) (by kernel_rfl) (.agg (spCells P)) (some 15) [.row ⟨b1,0,none⟩ 69 (spCells P)] [.agg (spCells P)] (by kernel_rfl) (by kernel_rfl) (c28_0) (At.row ya (spCells_size P)) ?_ ?_
 ·skip
  rintro _ w51 ⟨rfl,hm52⟩;refine ⟨_,rfl,?_⟩;have hm58:=Mod.trans hm50 (Mod.of_nil hm52);refine a_takeR 5 (.func (.method "Decode") #[.iface 89 (.agg #[])] #[]) rfl rfl rfl (by kernel_rfl) (fun _=>by kernel_rfl) (by kernel_rfl)<|a_takeR 6 (.func (.method "Decode") #[.iface 89 (.agg #[])] #[]) rfl rfl rfl (by kernel_rfl) (fun _=>by kernel_rfl) (by kernel_rfl)<|a_take 7 (.iface 89 (.agg #[])) (some 20) [] [] (by kernel_rfl) (by kernel_rfl) trivial<|a_one 2 (.agg (spCells P)) (some 15) [.row ⟨b1,0,none⟩ 69 (spCells P)] [.agg (spCells P)] (by kernel_rfl) (by kernel_rfl) (At.row ya (spCells_size P))<|a_call 3 27 [.agg (spCells P)] (some 16) (by kernel_rfl) (by kernel_rfl) (c27 P yg hP) ?_;rintro _ w59 ⟨p61,b62,rfl,hm60,hf63,hf64,hb65,hb66⟩;refine ⟨_,rfl,?_⟩;have hb67:=Nat.le_trans hm58.size hb65;have hm73:=Mod.trans hm58 (Mod.of_nil hm60);refine a_enter 8 175 [.agg #[],.pointer (some ⟨p61,0,none⟩),.string (bstr l)] rfl rfl rfl (by kernel_rfl) (by kernel_rfl) (by kernel_rfl) (c175 (S:=psOf P) hf63 hf64 yg hpre (by have:=hG.size;omega) (.inl rfl) l q hz hl hs hd hex) ?_;rintro _ w76 ⟨t74,M75,rfl,hm77,hf78,hin79,hh80⟩;refine ⟨_,rfl,?_⟩;have hm87:=Mod.fresh' hm73 hm77 (by simp<;>omega);refine a_take 9 (.tuple #[.pointer (some ⟨t74,0,none⟩),.nilIface]) (some 12) [] [] (by kernel_rfl) (by kernel_rfl) trivial<|a_take 10 (.pointer (some ⟨t74,0,none⟩)) (some 22) [] [] (by kernel_rfl) (by kernel_rfl) trivial<|a_take 11 (.nilIface) (some 23) [] [] (by kernel_rfl) (by kernel_rfl) trivial<|a_take 12 (.pointer (some ⟨t74,0,none⟩)) (some 9) [] [] (by kernel_rfl) (by kernel_rfl) trivial<|a_take 13 (.nilIface) (some 10) [] [] (by kernel_rfl) (by kernel_rfl) trivial<|a_done (by kernel_rfl)<|n_then<|w_seq<|w_seq<|w_region<|yS 1<|reg_run (v:=.bool false) (w':=w76) rfl rfl rfl (by kernel_rfl) (.inl (by kernel_rfl))<|zz<|yF<|w_skip<|n_then<|w_seq<|w_region<|yS 1<|zk (some 28) (c31 (M:=M75) hf78 (hr M75 hin79)) ?_;intro w88 hm89;have hf95:=At.on hf78 hm89;have hm97:=Mod.trans hm87 (Mod.of_nil hm89);refine yS 1<|zk (some 30) (c32 hf95) ?_;intro w98 hm99;have hm107:=Mod.trans hm97 (Mod.of_nil hm99);refine yS 1<|zS b10 0 (.agg (#[.int .i64 M75.s1,.int .i64 M75.s2,.int .i64 M75.promo])) ?_;intro w108 hu109;have hm117:=Mod.fresh' hm107 hu109.mod (by simp<;>omega);refine zS b20 0 (.int .i64 (IntKind.i64.wrap M75.tags)) ?_;intro w118 hu119;have hm127:=Mod.fresh' hm117 hu119.mod (by simp<;>omega);refine zS b31 0 (.bool true) ?_;intro w128 hu129;have hf130:At w128 b31 (.cells (#[.bool true]) 4 (0,0)):=hu129.at_;have hf134:=At.keep (yA w118 b10) hu129.mod (not_mem1 (At.ne (yA w118 b10) (yA w118 b31) rfl));have hf135:=At.keep (yA w118 b20) hu129.mod (not_mem1 (At.ne (yA w118 b20) (yA w118 b31) rfl));have hm137:=Mod.fresh' hm127 hu129.mod (by simp<;>omega);refine zz ?_
  exact w_ret<|retD30 results16 rfl rfl rfl (by kernel_rfl) (by kernel_rfl) (by kernel_rfl) (by kernel_rfl) (At.row hf134 rfl) (At.cell (j:=0) hf135 rfl) (At.cell (j:=0) hf130 rfl) ⟨M75,_,hin79,hh80,rfl,hm137⟩
 ·skip
  refine a_call 1 28 [.int .i64 0] (some 14) (by kernel_rfl) (by kernel_rfl) (c28_0) ?_;rintro _ w138 ⟨rfl,hm139⟩;refine ⟨_,rfl,?_⟩;have hm145:=Mod.trans hm50 (Mod.of_nil hm139);refine a_takeR 5 (.func (.method "Decode") #[.iface 89 (.agg #[])] #[]) rfl rfl rfl (by kernel_rfl) (fun _=>by kernel_rfl) (by kernel_rfl)<|a_takeR 6 (.func (.method "Decode") #[.iface 89 (.agg #[])] #[]) rfl rfl rfl (by kernel_rfl) (fun _=>by kernel_rfl) (by kernel_rfl)<|a_take 7 (.iface 89 (.agg #[])) (some 20) [] [] (by kernel_rfl) (by kernel_rfl) trivial<|a_call 3 27 [.agg (spCells P)] (some 16) (by kernel_rfl) (by kernel_rfl) (c27 P yg hP) ?_;rintro _ w146 ⟨p148,b149,rfl,hm147,hf150,hf151,hb152,hb153⟩;refine ⟨_,rfl,?_⟩;have hb154:=Nat.le_trans hm145.size hb152;have hf156:=At.on (yA w138 b10) hm147;have hf157:=At.on (yA w138 b20) hm147;have hf158:=At.on (yA w138 b31) hm147;have hG159:=Glob.on (yG w138) hm147;have hm160:=Mod.trans hm145 (Mod.of_nil hm147);refine a_enter 8 175 [.agg #[],.pointer (some ⟨p148,0,none⟩),.string (bstr l)] rfl rfl rfl (by kernel_rfl) (by kernel_rfl) (by kernel_rfl) (c175 (S:=psOf P) hf150 hf151 hG159 hpre (by have:=hG.size;omega) (.inl rfl) l q hz hl hs hd hex) ?_;rintro _ w163 ⟨t161,M162,rfl,hm164,hf165,hin166,hh167⟩;refine ⟨_,rfl,?_⟩;have hf169:=At.keep hf156 hm164 (not_mem1 (At.ne hf156 hf150 rfl));have hf170:=At.keep hf157 hm164 (not_mem1 (At.ne hf157 hf150 rfl));have hf171:=At.keep hf158 hm164 (not_mem1 (At.ne hf158 hf150 rfl));have hm174:=Mod.fresh' hm160 hm164 (by simp<;>omega);refine a_take 9 (.tuple #[.pointer (some ⟨t161,0,none⟩),.nilIface]) (some 12) [] [] (by kernel_rfl) (by kernel_rfl) trivial<|a_take 10 (.pointer (some ⟨t161,0,none⟩)) (some 22) [] [] (by kernel_rfl) (by kernel_rfl) trivial<|a_take 11 (.nilIface) (some 23) [] [] (by kernel_rfl) (by kernel_rfl) trivial<|a_take 12 (.pointer (some ⟨t161,0,none⟩)) (some 9) [] [] (by kernel_rfl) (by kernel_rfl) trivial<|a_take 13 (.nilIface) (some 10) [] [] (by kernel_rfl) (by kernel_rfl) trivial<|a_done (by kernel_rfl)<|n_then<|w_seq<|w_seq<|w_region<|yS 1<|reg_run (v:=.bool false) (w':=w163) rfl rfl rfl (by kernel_rfl) (.inl (by kernel_rfl))<|zz<|yF<|w_skip<|n_then<|w_seq<|w_region<|yS 1<|zk (some 28) (c31 (M:=M162) hf165 (hr M162 hin166)) ?_;intro w175 hm176;have hf178:=At.on hf169 hm176;have hf179:=At.on hf170 hm176;have hf180:=At.on hf171 hm176;have hf182:=At.on hf165 hm176;have hm184:=Mod.trans hm174 (Mod.of_nil hm176);refine yS 1<|zk (some 30) (c32 hf182) ?_;intro w185 hm186;have hf188:=At.on hf178 hm186;have hf189:=At.on hf179 hm186;have hf190:=At.on hf180 hm186;have hm194:=Mod.trans hm184 (Mod.of_nil hm186);refine yS 1<|zS b10 0 (.agg (#[.int .i64 M162.s1,.int .i64 M162.s2,.int .i64 M162.promo])) ?_;intro w195 hu196;have hf197:At w195 b10 (.cells (#[.int .i64 M162.s1,.int .i64 M162.s2,.int .i64 M162.promo]) 30 (0,0)):=hu196.at_
  have hf199:=At.keep hf189 hu196.mod (not_mem1 (At.ne hf189 hf188 rfl));have hf200:=At.keep hf190 hu196.mod (not_mem1 (At.ne hf190 hf188 rfl));have hm204:=Mod.fresh' hm194 hu196.mod (by simp<;>omega);refine zS b20 0 (.int .i64 (IntKind.i64.wrap M162.tags)) ?_;intro w205 hu206;have hf207:At w205 b20 (.cells (#[.int .i64 (IntKind.i64.wrap M162.tags)]) 3 (0,0)):=hu206.at_;have hf209:=At.keep hf200 hu206.mod (not_mem1 (At.ne hf200 hf199 rfl));have hf212:=At.keep hf197 hu206.mod (not_mem1 (At.ne hf197 hf199 rfl));have hm214:=Mod.fresh' hm204 hu206.mod (by simp<;>omega);refine zS b31 0 (.bool true) ?_;intro w215 hu216;have hf217:At w215 b31 (.cells (#[.bool true]) 4 (0,0)):=hu216.at_;have hf221:=At.keep hf212 hu216.mod (not_mem1 (At.ne hf212 hf209 rfl));have hf222:=At.keep hf207 hu216.mod (not_mem1 (At.ne hf207 hf209 rfl));have hm224:=Mod.fresh' hm214 hu216.mod (by simp<;>omega);exact zz<|w_ret<|retD30 results16 rfl rfl rfl (by kernel_rfl) (by kernel_rfl) (by kernel_rfl) (by kernel_rfl) (At.row hf221 rfl) (At.cell (j:=0) hf222 rfl) (At.cell (j:=0) hf217 rfl) ⟨M162,_,hin166,hh167,rfl,hm224⟩
set_option maxHeartbeats 2000000 in
theorem c16l{c:GC}{w:World}(P:SP)(hG:Glob c w)(hP:SPok P)(hpre:MvPre (boardOf P.bd) (psOf P))(l:List UInt8)(q:Parts)(hz:zzR l=some q)(hl:l.length<=100000)(hs:Short q)(hr:∀M∈(allL (boardOf P.bd) (psOf P)),MvOk M)(hd:∀M∈(allL (boardOf P.bd) (psOf P)),DecOk (boardOf P.bd) (psOf P) M)(hex:∃M∈(allL (boardOf P.bd) (psOf P)),hitT (boardOf P.bd) (psOf P) q M=true):
  CQ 16 [.int .i64 1,.agg (spCells P),.string (bstr l)] w (fun e w'=>∃M t,M∈(allL (boardOf P.bd) (psOf P))/\hitT (boardOf P.bd) (psOf P) q M=true/\e=.returned (.tuple #[.agg #[.int .i64 M.s1,.int .i64 M.s2,.int .i64 M.promo],.int .i64 t,.bool true])/\Mod [] w w'):=by
 have hm0:Mod [] w w:=Mod.refl _ _;refine enterD (n:=32) func16 rfl ntmps16 rfl<|w_seq<|w_region<|zA (spCells P) 24 (some 4) ?_;intro b1 w2 hn3;have hm6:=hn3.mod;have hm8:=Mod.trans hm0 (Mod.of_nil hm6);refine zA (#[.int .i64 0,.int .i64 0,.int .i64 0]) 30 (some 6) ?_;intro b10 w11 hn12;have hb14:=Nat.le_trans hm8.size hn12.base;have hm15:=hn12.mod;have hG17:=Glob.on (yG w2) hm15;have hm18:=Mod.trans hm8 (Mod.of_nil hm15);refine zA (#[.int .i64 0]) 3 (some 7) ?_;intro b20 w21 hn22;have hb23:c.base<=b20:=Glob.lt hG17 hn22;have hb24:=Nat.le_trans hm18.size hn22.base;have hm25:=hn22.mod;have hm29:=Mod.trans hm18 (Mod.of_nil hm25);refine zA (#[.bool false]) 4 (some 8) ?_;intro b31 w32 hn33;have hb34:c.base<=b31:=Glob.lt (yG w21) hn33;have hb35:=Nat.le_trans hm29.size hn33.base;have hm36:=hn33.mod;have hm41:=Mod.trans hm29 (Mod.of_nil hm36);refine zz<|w_seq<|w_region<|reg_run (v:=.func (.func 30) #[] #[.pointer (some ⟨b10,0,none⟩),.pointer (some ⟨b20,0,none⟩),.pointer (some ⟨b31,0,none⟩)]) (w':=w32) rfl rfl rfl (by kernel_rfl) (.inl (by kernel_rfl))<|reg_defer (def30 (.pointer (some ⟨b10,0,none⟩)) (.pointer (some ⟨b20,0,none⟩)) (.pointer (some ⟨b31,0,none⟩))) rfl rfl rfl (by kernel_rfl) (by kernel_rfl)<|zz<|w_seq<|a_start (f:=14) (by kernel_rfl) (by kernel_rfl) fun w43 hm44=>?_;have hm50:=Mod.trans hm41 (Mod.of_nil hm44);refine a_take 0 (.int .i64 1) (some 13) [] [] (by kernel_rfl) (by kernel_rfl) trivial<|a_take 4 (.string (bstr l)) (some 17) [] [] (by kernel_rfl) (by kernel_rfl) trivial<|a_both 1 2 28 [.int .i64 1] (some 14) (by kernel_rfl) (.agg (spCells P)) (some 15) [.row ⟨b1,0,none⟩ 69 (spCells P)] [.agg (spCells P)] (by kernel_rfl) (by kernel_rfl) (c28_1) (At.row ya (spCells_size P)) ?_ ?_
 ·skip
  rintro _ w51 ⟨rfl,hm52⟩;refine ⟨_,rfl,?_⟩;have hm58:=Mod.trans hm50 (Mod.of_nil hm52);refine a_takeR 5 (.func (.method "Decode") #[.iface 90 (.agg #[])] #[]) rfl rfl rfl (by kernel_rfl) (fun _=>by kernel_rfl) (by kernel_rfl)<|a_takeR 6 (.func (.method "Decode") #[.iface 90 (.agg #[])] #[]) rfl rfl rfl (by kernel_rfl) (fun _=>by kernel_rfl) (by kernel_rfl)<|a_take 7 (.iface 90 (.agg #[])) (some 20) [] [] (by kernel_rfl) (by kernel_rfl) trivial<|a_one 2 (.agg (spCells P)) (some 15) [.row ⟨b1,0,none⟩ 69 (spCells P)] [.agg (spCells P)] (by kernel_rfl) (by kernel_rfl) (At.row ya (spCells_size P))<|a_call 3 27 [.agg (spCells P)] (some 16) (by kernel_rfl) (by kernel_rfl) (c27 P yg hP) ?_;rintro _ w59 ⟨p61,b62,rfl,hm60,hf63,hf64,hb65,hb66⟩;refine ⟨_,rfl,?_⟩;have hb67:=Nat.le_trans hm58.size hb65;have hm73:=Mod.trans hm58 (Mod.of_nil hm60);refine a_enter 8 196 [.agg #[],.pointer (some ⟨p61,0,none⟩),.string (bstr l)] rfl rfl rfl (by kernel_rfl) (by kernel_rfl) (by kernel_rfl) (c196 (S:=psOf P) hf63 hf64 yg hpre (by have:=hG.size;omega) (.inl rfl) l q hz hl hs hd hex) ?_;rintro _ w76 ⟨t74,M75,rfl,hm77,hf78,hin79,hh80⟩;refine ⟨_,rfl,?_⟩;have hm87:=Mod.fresh' hm73 hm77 (by simp<;>omega);refine a_take 9 (.tuple #[.pointer (some ⟨t74,0,none⟩),.nilIface]) (some 12) [] [] (by kernel_rfl) (by kernel_rfl) trivial<|a_take 10 (.pointer (some ⟨t74,0,none⟩)) (some 22) [] [] (by kernel_rfl) (by kernel_rfl) trivial<|a_take 11 (.nilIface) (some 23) [] [] (by kernel_rfl) (by kernel_rfl) trivial<|a_take 12 (.pointer (some ⟨t74,0,none⟩)) (some 9) [] [] (by kernel_rfl) (by kernel_rfl) trivial<|a_take 13 (.nilIface) (some 10) [] [] (by kernel_rfl) (by kernel_rfl) trivial<|a_done (by kernel_rfl)<|n_then<|w_seq<|w_seq<|w_region<|yS 1<|reg_run (v:=.bool false) (w':=w76) rfl rfl rfl (by kernel_rfl) (.inl (by kernel_rfl))<|zz<|yF<|w_skip<|n_then<|w_seq<|w_region<|yS 1<|zk (some 28) (c31 (M:=M75) hf78 (hr M75 hin79)) ?_;intro w88 hm89;have hf95:=At.on hf78 hm89;have hm97:=Mod.trans hm87 (Mod.of_nil hm89);refine yS 1<|zk (some 30) (c32 hf95) ?_;intro w98 hm99;have hm107:=Mod.trans hm97 (Mod.of_nil hm99);refine yS 1<|zS b10 0 (.agg (#[.int .i64 M75.s1,.int .i64 M75.s2,.int .i64 M75.promo])) ?_;intro w108 hu109;have hm117:=Mod.fresh' hm107 hu109.mod (by simp<;>omega);refine zS b20 0 (.int .i64 (IntKind.i64.wrap M75.tags)) ?_;intro w118 hu119;have hm127:=Mod.fresh' hm117 hu119.mod (by simp<;>omega);refine zS b31 0 (.bool true) ?_;intro w128 hu129;have hf130:At w128 b31 (.cells (#[.bool true]) 4 (0,0)):=hu129.at_;have hf134:=At.keep (yA w118 b10) hu129.mod (not_mem1 (At.ne (yA w118 b10) (yA w118 b31) rfl));have hf135:=At.keep (yA w118 b20) hu129.mod (not_mem1 (At.ne (yA w118 b20) (yA w118 b31) rfl));have hm137:=Mod.fresh' hm127 hu129.mod (by simp<;>omega);refine zz ?_
  exact w_ret<|retD30 results16 rfl rfl rfl (by kernel_rfl) (by kernel_rfl) (by kernel_rfl) (by kernel_rfl) (At.row hf134 rfl) (At.cell (j:=0) hf135 rfl) (At.cell (j:=0) hf130 rfl) ⟨M75,_,hin79,hh80,rfl,hm137⟩
 ·skip
  refine a_call 1 28 [.int .i64 1] (some 14) (by kernel_rfl) (by kernel_rfl) (c28_1) ?_;rintro _ w138 ⟨rfl,hm139⟩;refine ⟨_,rfl,?_⟩;have hm145:=Mod.trans hm50 (Mod.of_nil hm139);refine a_takeR 5 (.func (.method "Decode") #[.iface 90 (.agg #[])] #[]) rfl rfl rfl (by kernel_rfl) (fun _=>by kernel_rfl) (by kernel_rfl)<|a_takeR 6 (.func (.method "Decode") #[.iface 90 (.agg #[])] #[]) rfl rfl rfl (by kernel_rfl) (fun _=>by kernel_rfl) (by kernel_rfl)<|a_take 7 (.iface 90 (.agg #[])) (some 20) [] [] (by kernel_rfl) (by kernel_rfl) trivial<|a_call 3 27 [.agg (spCells P)] (some 16) (by kernel_rfl) (by kernel_rfl) (c27 P yg hP) ?_;rintro _ w146 ⟨p148,b149,rfl,hm147,hf150,hf151,hb152,hb153⟩;refine ⟨_,rfl,?_⟩;have hb154:=Nat.le_trans hm145.size hb152;have hf156:=At.on (yA w138 b10) hm147;have hf157:=At.on (yA w138 b20) hm147;have hf158:=At.on (yA w138 b31) hm147;have hG159:=Glob.on (yG w138) hm147;have hm160:=Mod.trans hm145 (Mod.of_nil hm147);refine a_enter 8 196 [.agg #[],.pointer (some ⟨p148,0,none⟩),.string (bstr l)] rfl rfl rfl (by kernel_rfl) (by kernel_rfl) (by kernel_rfl) (c196 (S:=psOf P) hf150 hf151 hG159 hpre (by have:=hG.size;omega) (.inl rfl) l q hz hl hs hd hex) ?_;rintro _ w163 ⟨t161,M162,rfl,hm164,hf165,hin166,hh167⟩;refine ⟨_,rfl,?_⟩;have hf169:=At.keep hf156 hm164 (not_mem1 (At.ne hf156 hf150 rfl));have hf170:=At.keep hf157 hm164 (not_mem1 (At.ne hf157 hf150 rfl));have hf171:=At.keep hf158 hm164 (not_mem1 (At.ne hf158 hf150 rfl));have hm174:=Mod.fresh' hm160 hm164 (by simp<;>omega);refine a_take 9 (.tuple #[.pointer (some ⟨t161,0,none⟩),.nilIface]) (some 12) [] [] (by kernel_rfl) (by kernel_rfl) trivial<|a_take 10 (.pointer (some ⟨t161,0,none⟩)) (some 22) [] [] (by kernel_rfl) (by kernel_rfl) trivial<|a_take 11 (.nilIface) (some 23) [] [] (by kernel_rfl) (by kernel_rfl) trivial<|a_take 12 (.pointer (some ⟨t161,0,none⟩)) (some 9) [] [] (by kernel_rfl) (by kernel_rfl) trivial<|a_take 13 (.nilIface) (some 10) [] [] (by kernel_rfl) (by kernel_rfl) trivial<|a_done (by kernel_rfl)<|n_then<|w_seq<|w_seq<|w_region<|yS 1<|reg_run (v:=.bool false) (w':=w163) rfl rfl rfl (by kernel_rfl) (.inl (by kernel_rfl))<|zz<|yF<|w_skip<|n_then<|w_seq<|w_region<|yS 1<|zk (some 28) (c31 (M:=M162) hf165 (hr M162 hin166)) ?_;intro w175 hm176;have hf178:=At.on hf169 hm176;have hf179:=At.on hf170 hm176;have hf180:=At.on hf171 hm176;have hf182:=At.on hf165 hm176;have hm184:=Mod.trans hm174 (Mod.of_nil hm176);refine yS 1<|zk (some 30) (c32 hf182) ?_;intro w185 hm186;have hf188:=At.on hf178 hm186;have hf189:=At.on hf179 hm186;have hf190:=At.on hf180 hm186;have hm194:=Mod.trans hm184 (Mod.of_nil hm186);refine yS 1<|zS b10 0 (.agg (#[.int .i64 M162.s1,.int .i64 M162.s2,.int .i64 M162.promo])) ?_;intro w195 hu196;have hf197:At w195 b10 (.cells (#[.int .i64 M162.s1,.int .i64 M162.s2,.int .i64 M162.promo]) 30 (0,0)):=hu196.at_
  have hf199:=At.keep hf189 hu196.mod (not_mem1 (At.ne hf189 hf188 rfl));have hf200:=At.keep hf190 hu196.mod (not_mem1 (At.ne hf190 hf188 rfl));have hm204:=Mod.fresh' hm194 hu196.mod (by simp<;>omega);refine zS b20 0 (.int .i64 (IntKind.i64.wrap M162.tags)) ?_;intro w205 hu206;have hf207:At w205 b20 (.cells (#[.int .i64 (IntKind.i64.wrap M162.tags)]) 3 (0,0)):=hu206.at_;have hf209:=At.keep hf200 hu206.mod (not_mem1 (At.ne hf200 hf199 rfl));have hf212:=At.keep hf197 hu206.mod (not_mem1 (At.ne hf197 hf199 rfl));have hm214:=Mod.fresh' hm204 hu206.mod (by simp<;>omega);refine zS b31 0 (.bool true) ?_;intro w215 hu216;have hf217:At w215 b31 (.cells (#[.bool true]) 4 (0,0)):=hu216.at_;have hf221:=At.keep hf212 hu216.mod (not_mem1 (At.ne hf212 hf209 rfl));have hf222:=At.keep hf207 hu216.mod (not_mem1 (At.ne hf207 hf209 rfl));have hm224:=Mod.fresh' hm214 hu216.mod (by simp<;>omega);exact zz<|w_ret<|retD30 results16 rfl rfl rfl (by kernel_rfl) (by kernel_rfl) (by kernel_rfl) (by kernel_rfl) (At.row hf221 rfl) (At.cell (j:=0) hf222 rfl) (At.cell (j:=0) hf217 rfl) ⟨M162,_,hin166,hh167,rfl,hm224⟩
end Go.Proofs.YtgnhellfhjoaaaaGreatDoor
