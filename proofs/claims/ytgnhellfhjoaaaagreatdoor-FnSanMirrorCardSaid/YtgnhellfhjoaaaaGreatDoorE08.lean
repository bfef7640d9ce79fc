/-
  FnSanMirror: what is written and read of a legal move is the same in the position seen from the other side, seen so (a part of the proof).
  Conditions: those of each theorem.
-/
import Derived.Test.YtgnhellfhjoaaaaGreatDoorE01
import Derived.Test.YtgnhellfhjoaaaaGreatDoorE02
import Derived.Test.YtgnhellfhjoaaaaGreatDoorE03
import Derived.Test.YtgnhellfhjoaaaaGreatDoorE05
import Derived.Test.YtgnhellfhjoaaaaGreatDoorE06
import Derived.Test.YtgnhellfhjoaaaaGreatDoorE07
import Derived.Laws.StructEq
import Derived.ChangeKeysEq
import Derived.Test.YtgnhellfhjoaaaaGreatDoorRows
import Derived.ProofKit
import Derived.OpenShut
import Derived.Carry
import Derived.Test.YtgnhellfhjoaaaaGreatDoorTie
import Derived.Test.YtgnhellfhjoaaaaGreatDoorCards
import Derived.LaidMore
import Derived.Lay
import Derived.SevenTiedAt
import Derived.Stop.Joined
set_option linter.unusedVariables false
set_option linter.unusedSimpArgs false
namespace Go.Proofs.YtgnhellfhjoaaaaGreatDoor
open Go Go.RowKit
set_option maxRecDepth 100000
section
variable{P:SP}{m n:Sm}{M N:Mv}
theorem cons_ne(x:UInt8)(l:List UInt8):((x::l) !=[])=true:=rfl
theorem opts_a{q:Parts}(ha:q.a≠[]):optsP q=[q.a++q.d++q.e++q.f++q.g++q.h,q.a++q.c++q.d++q.e++q.f++q.g++q.h,q.a++q.b++q.d++q.e++q.f++q.g++q.h]:=by
 unfold optsP;rw [bne_iff_ne.2 ha];rfl
theorem opts_p{q:Parts}(ha:q.a=[]):optsP q=(bif q.d !=[] then [q.b++q.d++q.e++q.f++q.g] else [])++(bif (q.b !=[])&&(q.c !=[]) then [q.d++q.e++q.f++q.g] else []):=by
 unfold optsP;rw [ha];rfl
theorem hit_iff(hV:ValidS P)(hn:LegM P n)(hT:TagM P n N)(q:Parts):hitT (boardOf P.bd) (psOf P) q N=true↔cleanP q=bodyS P n.f n.t n.p\/bodyS P n.f n.t n.p∈optsP q:=by
 unfold hitT;rw [(decOk hV hn hT).2,Bool.or_eq_true,beq_iff_eq,List.any_eq_true];constructor
 · rintro (h|⟨x,hx,he⟩)
   · exact Or.inl h
   rw [beq_iff_eq] at he;exact Or.inr (he▸hx)
 rintro (h|h)
 · exact Or.inl h
 exact Or.inr ⟨_,h,beq_self_eq_true _⟩
theorem letB_ne(hV:ValidS P)(h:LegM P m)(h6:kindOf (P.bd m.f.toNat)≠6):letB (kindOf (P.bd m.f.toNat))≠[]:=by
 have hk:=leg_kind hV h;obtain ⟨x,ex,_⟩:=letB_get (k:=kindOf (P.bd m.f.toNat)) (by omega);rw [ex];simp
theorem apF_or(P:SP)(f t:Int):apF P f t=[]\/apF P f t=[fB f]:=by unfold apF;cases (legAny P (othS P.bd f t)&&(!(legAny P (filS P.bd f t))||legAny P (rnkS P.bd f t)))<;>simp
theorem apR_or(P:SP)(f t:Int):apR P f t=[]\/apR P f t=[rB f]:=by unfold apR;cases (legAny P (othS P.bd f t)&&legAny P (filS P.bd f t))<;>simp
theorem one_san(hV:ValidS P)(h:LegM P m)(h':LegM P n)(e:cleanP (sanQ P m)=bodyS P n.f n.t n.p\/bodyS P n.f n.t n.p∈optsP (sanQ P m)):n=m:=by
 by_cases hc:castI P.bd m.f m.t=0
 · by_cases h6:kindOf (P.bd m.f.toNat)=6
   · refine pawn_one hV h h6 h' (X:=bodyS P n.f n.t n.p) ?_ rfl;have eq:sanQ P m=⟨[],(bif takesI P.bd m.f m.t then [fB m.f] else []),[],takT P.bd m.f m.t,[fB m.t],[rB m.t],promS m.p,[]⟩:=by unfold sanQ;rw [if_neg (λhh=>hh hc),if_pos h6]
     rw [eq,opts_p rfl] at e;unfold cleanP takT at e;cases ht:takesI P.bd m.f m.t<;>rw [ht] at e<;>simp [cons_ne] at e
     · exact Or.inr (Or.inl ⟨rfl,e.symm⟩)
     refine Or.inl ⟨rfl,?_⟩;rcases e with e|e
     · exact e.symm
     exact e
   have eq:sanQ P m=⟨letB (kindOf (P.bd m.f.toNat)),apF P m.f m.t,apR P m.f m.t,takT P.bd m.f m.t,[fB m.t],[rB m.t],[],[]⟩:=by unfold sanQ;rw [if_neg (λhh=>hh hc),if_neg h6]
   rw [eq,opts_a (letB_ne hV h h6)] at e;unfold cleanP at e;have hb:=apF_or P m.f m.t;have hcc:=apR_or P m.f m.t;simp only [List.mem_cons,List.not_mem_nil,or_false] at e;rcases e with e|e|e|e
   · exact piece_one hV h h6 h' hb hcc (by rw [←e];simp)
   · exact piece_one hV h h6 h' (Or.inl rfl) (Or.inl rfl) (by rw [e];simp)
   · exact piece_one hV h h6 h' (Or.inl rfl) hcc (by rw [e];simp)
   exact piece_one hV h h6 h' hb (Or.inl rfl) (by rw [e];simp)
 refine cast_one hV h hc h' ?_;have eq:sanQ P m=castP (oooS (2-castI P.bd m.f m.t)):=by unfold sanQ;rw [if_pos hc]
 rw [eq] at e;rcases e with e|e
 · exact e.symm
 cases e
theorem one_lan(hV:ValidS P)(h:LegM P m)(h':LegM P n)(e:cleanP (lanQ P m)=bodyS P n.f n.t n.p\/bodyS P n.f n.t n.p∈optsP (lanQ P m)):n=m:=by
 have ct:=sq_cls (h.ok hV).t;by_cases hc:castI P.bd m.f m.t=0
 · have eq:lanQ P m=⟨letB (kindOf (P.bd m.f.toNat)),[fB m.f],[rB m.f],takT P.bd m.f m.t,[fB m.t],[rB m.t],promS m.p,[]⟩:=by unfold lanQ;rw [if_neg (λhh=>hh hc)]
   by_cases h6:kindOf (P.bd m.f.toNat)=6
   · refine pawn_one hV h h6 h' (X:=bodyS P n.f n.t n.p) ?_ rfl;rw [eq,h6,opts_p rfl] at e;unfold cleanP takT at e;rw [show letB 6=[] from rfl] at e;cases ht:takesI P.bd m.f m.t<;>rw [ht] at e<;>simp [cons_ne] at e
     · rcases e with e|e
       · exact Or.inr (Or.inr (Or.inl ⟨_,_,e.symm,Or.inr ct.1⟩))
       exact Or.inr (Or.inl ⟨rfl,e⟩)
     rcases e with e|e|e
     · exact Or.inr (Or.inr (Or.inl ⟨_,_,e.symm,Or.inl (by decide)⟩))
     · exact Or.inl ⟨rfl,e⟩
     exact Or.inr (Or.inr (Or.inr ⟨_,e⟩))
   rw [eq,leg_promo h h6,opts_a (letB_ne hV h h6)] at e;unfold cleanP at e;rw [show promS 0=[] from rfl] at e;simp only [List.mem_cons,List.not_mem_nil,or_false] at e;rcases e with e|e|e|e
   · exact piece_one hV h h6 h' (Or.inr rfl) (Or.inr rfl) (by rw [←e];simp)
   · exact piece_one hV h h6 h' (Or.inl rfl) (Or.inl rfl) (by rw [e];simp)
   · exact piece_one hV h h6 h' (Or.inl rfl) (Or.inr rfl) (by rw [e];simp)
   exact piece_one hV h h6 h' (Or.inr rfl) (Or.inl rfl) (by rw [e];simp)
 refine cast_one hV h hc h' ?_;have eq:lanQ P m=castP (oooS (2-castI P.bd m.f m.t)):=by unfold lanQ;rw [if_pos hc]
 rw [eq] at e;rcases e with e|e
 · exact e.symm
 cases e
theorem self_lan(hV:ValidS P)(h:LegM P m):cleanP (lanQ P m)=bodyS P m.f m.t m.p\/bodyS P m.f m.t m.p∈optsP (lanQ P m):=by
 by_cases hc:castI P.bd m.f m.t=0
 · have eq:lanQ P m=⟨letB (kindOf (P.bd m.f.toNat)),[fB m.f],[rB m.f],takT P.bd m.f m.t,[fB m.t],[rB m.t],promS m.p,[]⟩:=by unfold lanQ;rw [if_neg (λhh=>hh hc)]
   rcases shape h with ⟨hc',_⟩|⟨h6,tk,e'⟩|⟨h6,tk,e'⟩|⟨_,h6,e'⟩
   · exact absurd hc hc'
   · right;rw [eq,h6,opts_p rfl,e'];unfold takT;rw [tk];simp [cons_ne]
   · right;rw [eq,h6,opts_p rfl,e'];unfold takT;rw [tk];simp [cons_ne]
   rw [e',eq,leg_promo h h6,opts_a (letB_ne hV h h6)];unfold cleanP;rw [show promS 0=[] from rfl];rcases apF_or P m.f m.t with a|a<;>rcases apR_or P m.f m.t with b|b<;>rw [a,b]<;>simp
 left;rw [body_cast hc];unfold lanQ;rw [if_pos hc];rfl
theorem leg_mv(hV:ValidS P)(h:LegM P m):∃M∈allL (boardOf P.bd) (psOf P),TagM P m M:=by
 obtain ⟨M,hM,e1,e2,e3⟩:=(allL_iff hV m).2 (h.okS hV);obtain ⟨n,hn,hT⟩:=tag_all hV hM;have:n=m:=sm_ext (hT.s1.symm.trans e1) (hT.s2.symm.trans e2) (hT.pr.symm.trans e3);subst this;exact ⟨M,hM,hT⟩
structure PlainA(P:SP)(m:Sm)(q:Parts):Prop where
 dec:∀M∈allL (boardOf P.bd) (psOf P),DecOk (boardOf P.bd) (psOf P) M
 hit:∃M∈allL (boardOf P.bd) (psOf P),hitT (boardOf P.bd) (psOf P) q M=true
 one:∀M∈allL (boardOf P.bd) (psOf P),hitT (boardOf P.bd) (psOf P) q M=true->M.s1=m.f/\M.s2=m.t/\M.promo=m.p
theorem dec_all(hV:ValidS P):∀M∈allL (boardOf P.bd) (psOf P),DecOk (boardOf P.bd) (psOf P) M:=λM hM=>by
 obtain ⟨n,hn,hT⟩:=tag_all hV hM;exact (decOk hV hn hT).1
theorem plain_of(hV:ValidS P)(h:LegM P m){q:Parts}(hs:cleanP q=bodyS P m.f m.t m.p\/bodyS P m.f m.t m.p∈optsP q)(ho:∀n,LegM P n->(cleanP q=bodyS P n.f n.t n.p\/bodyS P n.f n.t n.p∈optsP q)->n=m):PlainA P m q:=by
 refine ⟨dec_all hV,?_,λM hM hh=>?_⟩
 · obtain ⟨M,hM,hT⟩:=leg_mv hV h;exact ⟨M,hM,(hit_iff hV h hT q).2 hs⟩
 obtain ⟨n,hn,hT⟩:=tag_all hV hM;have:=ho n hn ((hit_iff hV hn hT q).1 hh);subst this;exact ⟨hT.s1,hT.s2,hT.pr⟩
theorem plain_san(hV:ValidS P)(h:LegM P m):PlainA P m (sanQ P m):=plain_of hV h (Or.inl (san_clean h)) λn hn=>one_san hV h hn
theorem plain_lan(hV:ValidS P)(h:LegM P m):PlainA P m (lanQ P m):=plain_of hV h (self_lan hV h) λn hn=>one_lan hV h hn
theorem enc_mv(hV:ValidS P)(h:LegM P m)(ht:Told P m)(hM:M∈allL (boardOf P.bd) (psOf P))(he:eqM M m.f m.t m.p=true):
  encI (boardOf P.bd) (psOf P) (allL (boardOf P.bd) (psOf P)) M=bodyS P m.f m.t m.p++sgnS P m.f m.t m.p/\lanI (boardOf P.bd) (psOf P) M=lanS P m.f m.t m.p:=by
 obtain ⟨n,hn,hT⟩:=tag_all hV hM;unfold eqM at he;simp only [Bool.and_eq_true,beq_iff_eq] at he;have:n=m:=sm_ext (hT.s1.symm.trans he.1) (hT.s2.symm.trans he.2.1) (hT.pr.symm.trans he.2.2);subst this;exact ⟨text_san hV h hT ht,text_lan hV h hT ht⟩
end
open Go.Proofs.Tryz
section
variable{P:SP}{m:Sm}{c:GC}{w:World}
theorem RightS.h(hR:RightS P):(∃i,i<(allL (boardOf P.bd) (psOf P)).length/\eqM (mvAt (allL (boardOf P.bd) (psOf P)) i) m.f m.t m.p=true)↔LegM P m:=by
 have hV:=hR.valid;constructor
 ·rintro ⟨i,hi,he⟩;have hM:=mvAt_mem (l:=allL (boardOf P.bd) (psOf P)) hi;obtain ⟨n,hn,hT⟩:=tag_all hV hM;unfold eqM at he;simp only [Bool.and_eq_true,beq_iff_eq] at he;have:n=m:=sm_ext (hT.s1.symm.trans he.1) (hT.s2.symm.trans he.2.1) (hT.pr.symm.trans he.2.2);exact this▸hn
 intro h;obtain ⟨M,hM,hT⟩:=leg_mv hV h;obtain ⟨i,hi,e⟩:=List.getElem_of_mem hM;refine ⟨i,hi,?_⟩;have:mvAt (allL (boardOf P.bd) (psOf P)) i=M:=by
  unfold mvAt;rw [List.getD_eq_getElem?_getD,List.getElem?_eq_getElem hi];exact e
 rw [this];unfold eqM;rw [hT.s1,hT.s2,hT.pr];simp
theorem san_len(P:SP)(f t p:Int):(bodyS P f t p++sgnS P f t p).length<=100000:=by
 have:=bodyS_len P f t p;have:=sgnS_len P f t p;rw [List.length_append];omega
theorem lan_len(P:SP)(f t p:Int):(lanS P f t p).length<=100000:=by
 have h1:=bodyS_len P f t p;have h2:=sgnS_len P f t p;have h3:=letB_len (kindOf (P.bd f.toNat));have h4:=takT_len P.bd f t;have h5:=promS_len p;unfold lanS;cases decide (castI P.bd f t>0)<;>simp only [cond_true,cond_false,List.length_append,List.length_cons,List.length_nil]<;>omega
theorem w15s(hG:Glob c w)(hR:RightS P)(h:LegM P m)(ht:Told P m):CR 15 [.int .i64 0,.agg (spCells P),.agg #[.int .i64 m.f,.int .i64 m.t,.int .i64 m.p]] w (.tuple #[.string (bstr (bodyS P m.f m.t m.p++sgnS P m.f m.t m.p)),.bool true]):=
 (c15s P hG (spok hR.valid) (mvPre hR) m.f m.t m.p (hR.h.2 h) (mvOk_all hR.valid) (dec_all hR.valid)).mono λe w' ⟨M,hM,he,e1,e2⟩=>⟨by rw [e1,(enc_mv hR.valid h ht hM he).1],e2⟩
theorem w15l(hG:Glob c w)(hR:RightS P)(h:LegM P m)(ht:Told P m):CR 15 [.int .i64 1,.agg (spCells P),.agg #[.int .i64 m.f,.int .i64 m.t,.int .i64 m.p]] w (.tuple #[.string (bstr (lanS P m.f m.t m.p)),.bool true]):=
 (c15l P hG (spok hR.valid) (mvPre hR) m.f m.t m.p (hR.h.2 h) (mvOk_all hR.valid) (dec_all hR.valid)).mono λe w' ⟨M,hM,he,e1,e2⟩=>⟨by rw [e1,(enc_mv hR.valid h ht hM he).2],e2⟩
theorem w16s(hG:Glob c w)(hR:RightS P)(h:LegM P m):CQ 16 [.int .i64 0,.agg (spCells P),.string (bstr (bodyS P m.f m.t m.p++sgnS P m.f m.t m.p))] w (λe w'=>∃t,e=.returned (.tuple #[.agg #[.int .i64 m.f,.int .i64 m.t,.int .i64 m.p],.int .i64 t,.bool true])/\Mod [] w w'):=by
 have hp:=plain_san hR.valid h;obtain ⟨z1,z2⟩:=san_parts hR.valid h (sgnS_cls P m.f m.t m.p);refine (c16s P hG (spok hR.valid) (mvPre hR) _ _ z1 (san_len _ _ _ _) z2 (mvOk_all hR.valid) hp.dec hp.hit).mono λe w' hh=>?_;obtain ⟨M,t,hM,hh,e1,e2⟩:=hh;obtain ⟨a,b,d⟩:=hp.one M hM hh;exact ⟨t,by rw [e1,a,b,d],e2⟩
theorem w16l(hG:Glob c w)(hR:RightS P)(h:LegM P m):CQ 16 [.int .i64 1,.agg (spCells P),.string (bstr (lanS P m.f m.t m.p))] w (λe w'=>∃t,e=.returned (.tuple #[.agg #[.int .i64 m.f,.int .i64 m.t,.int .i64 m.p],.int .i64 t,.bool true])/\Mod [] w w'):=by
 have hp:=plain_lan hR.valid h;obtain ⟨z1,z2⟩:=lan_parts hR.valid h;refine (c16l P hG (spok hR.valid) (mvPre hR) _ _ z1 (lan_len _ _ _ _) z2 (mvOk_all hR.valid) hp.dec hp.hit).mono λe w' hh=>?_;obtain ⟨M,t,hM,hh,e1,e2⟩:=hh;obtain ⟨a,b,d⟩:=hp.one M hM hh;exact ⟨t,by rw [e1,a,b,d],e2⟩
end
section
variable{P:Program}{n:Nat}{D:List Deferred}{ops:Array Oper}{Q:Exit->Act->World->Prop}{w:World}{L:List (Nat×Value)}
theorem newAt_spec{k:Nat}{cs:Array Value}{t:TypeId}{dst:Option Nat}(h:newAt P n ops.toList k L=some (cs,t,dst)){a:Act}(ha:Hold n L D a)(w:World):
 ∃o,ops.toList[k]?=some o/\o.dst=dst/\dstOk dst n=true/\Region.wanted o (yielded ops a.tmps)=true/\(execOp a.eval o).run P w=.ok (.value (.pointer (some ⟨w.heap.size,0,none⟩))) (w.alloc (.cells cs t (0,0))):=by
 unfold newAt at h;split at h
 ·rename_i o ho;split at h
  ·rename_i hw hd;refine ⟨o,ho,?_⟩;split at h
   ·rename_i t' hop;split at h
    ·rename_i i hi;split at h
     ·rename_i z hz;simp only [Option.some.injEq,Prod.mk.injEq] at h;obtain ⟨rfl,rfl,rfl⟩:=h;refine ⟨rfl,hd,wantedL_spec ha hw,?_⟩;obtain ⟨dst,op,ty,pos,af,g'⟩:=o;simp only at hop;subst hop;simp [execOp,Instr.alloc,zeroValue,typeInfo,hi,hz,newVar,newRow]
     cases h
    cases h
   ·rename_i t' x hop;split at h
    ·rename_i v hv;simp only [Option.some.injEq,Prod.mk.injEq] at h;obtain ⟨rfl,rfl,rfl⟩:=h;refine ⟨rfl,hd,wantedL_spec ha hw,?_⟩;obtain ⟨dst,op,ty,pos,af,g'⟩:=o;simp only at hop;subst hop;simp [execOp,Instr.box,ha.agrees _ _ hv,newVar,newRow]
    cases h
   cases h
  cases h
 cases h
end
section
variable{P:Program}{n:Nat}{D:List Deferred}{ops:Array Oper}{Q:Exit->Act->World->Prop}{w w0:World}{L:List (Nat×Value)}{m:Nat}
def TT(P:Program)(ops:Array Oper)(Q:Exit->Act->World->Prop)(m:Nat):Array Bool->Act->World->Prop:=
 λlisted' a' w'=>Region.seqB .any ops (ops.size-m) m listed'=true/\∀w'',Mod [] w' w''->wpList P ops (onlyN Q) (ops.toList.drop m) a' w''
def AW(P:Program)(n:Nat)(D:List Deferred)(ops:Array Oper)(Q:Exit->Act->World->Prop)(w0:World)(m f:Nat)(ls:List Nat)(L:List (Nat×Value))(w:World):Prop:=
 HeadInv .any ops m (lstd ops ls)->Mod [] w0 w->∀a,Hold n L D a->wpAnyW P .any ops (onlyN Q) w0 m (TT P ops Q m) f (lstd ops ls) a w
def frontB(ops:Array Oper)(m:Nat):Bool:=Region.noSelect ops&&(decide (m<ops.size)&&(Region.sinkB .any ops m&&Region.chainB .any ops m))
theorem w_aw{id:Nat}{ops:Array Oper}(m:Nat)(h:AW P n D ops Q w m m [] L w)(hm:P.follows .mixedOrders=true:=by kernel_rfl)(hB:frontB ops m=true:=by kernel_rfl):W P n D (.region id ops true) Q L w:=by
 intro a ha;simp only [frontB,Bool.and_eq_true,decide_eq_true_eq] at hB;obtain ⟨hsel,hn,hs,hc⟩:=hB;have inv0:HeadInv .any ops m (Array.replicate ops.size false):=
  ⟨by simp,λj oj _ hl=>(by rw [getD_replicate_false] at hl;cases hl),λt _ ht=>getD_in (by simpa using ht) (getD_replicate_false _ _)⟩
 have H:=h inv0 (Mod.refl _ _) a ha;refine wp_region_any hm ?_;have h2:=wpAny_of_W (g:=ops.size-m) (λlisted a' w' (hT:TT P ops Q m listed a' w')=>by
  have h3:=wpAny_of_seq (md:=.any) (Q':=onlyN Q) (ops.toList.drop m) m listed a' w' (λj=>by simp [List.getElem?_drop]) (by simpa using hT.1) (hT.2 w' (Mod.refl _ _))
  simpa using h3) _ _ _ _ (wpAnyW_grow (λl a w w' hh hm=>⟨hh.1,λw'' hm'=>hh.2 w'' (hm.trans hm')⟩) _ _ _ _ _ H (Mod.draw w))
 rw [show m+(ops.size-m)=ops.size by omega] at h2;exact wpAny_monoQ (λe a w hq=>by cases e<;>first|exact hq|exact absurd hq (λh=>h)) _ _ _ _ h2
def takeW(ops:Array Oper)(m:Nat)(ls:List Nat)(i:Nat):Bool:=frontB ops m&&(decide (i<m)&&(Region.free .any ops (lstd ops ls) i&&(Region.ready .any ops (lstd ops ls)).contains i))
theorem aw_y{f:Nat}{ls:List Nat}{i:Nat}{v:Value}{dst:Option Nat}(hY:∀a,Hold n L D a->∃o,ops[i]?=some o/\o.dst=dst/\dstOk dst n=true/\YieldsW P ops w0 o v a)
 (hB:takeW ops m ls i=true)(hk:AW P n D ops Q w0 m f (i::ls) (setD dst v L) w):AW P n D ops Q w0 m (f+1) ls L w:=by
 intro inv h0 a ha;obtain ⟨o,ho,hdst,hd,hy⟩:=hY a ha;simp only [takeW,frontB,Bool.and_eq_true,decide_eq_true_eq] at hB;obtain ⟨⟨hsel,hn,hs,hc⟩,him,hf,hr⟩:=hB;have hr:i∈Region.ready .any ops (lstd ops ls):=by simpa using hr
 refine wpAnyW_first (T:=TT P ops Q m) ho (Region.noSelect_spec hsel) hs hc hn him (λl a w w' hh hm=>⟨hh.1,λw'' hm'=>hh.2 w'' (hm.trans hm')⟩) (λlisted' a' w' hT=>seqB_ready hT.1) (λc a w hq=>absurd hq (λh=>h)) f _ a w inv
  (Region.free_spec ho hf) hr hy h0 ?_
 rw [hdst];exact hk (inv.set hr him) h0 _ (ha.setD hd v)
theorem aw_rd{f:Nat}{ls:List Nat}(i:Nat)(v:Value)(dst:Option Nat)(obs:List Ob)(rs:List Value)(ho:∀w',Mod [] w0 w'->Obs w' obs)(hk:AW P n D ops Q w0 m f (i::ls) (setD dst v L) w)
 (h:pureAt P n ops.toList i L rs=some (v,dst,obs):=by kernel_rfl)(hB:takeW ops m ls i=true:=by kernel_rfl):AW P n D ops Q w0 m (f+1) ls L w:=
 aw_y (λa ha=>by
  obtain ⟨o,ho2,hdst,hd,hr⟩:=pureAt_spec h ha
  refine ⟨o,ho2,hdst,hd,?_⟩
  rcases hr with ⟨hw,hr⟩|hr
  ·refine .inl ⟨hw,λw' hm=>?_⟩
   simp only [Oper.quietAt,hr w' (Obs.all (ho w' hm)),Oper.quietUpon,and_self]
  exact .inr hr) hB hk
theorem aw_call{k:Nat}{ls:List Nat}(i:Nat)(f:FuncId)(vs:List Value)(v:Value)(dst:Option Nat)(hc:∀w',Mod [] w0 w'->Calls P f vs.toArray w' λe w''=>e=.returned v/\Mod [] w' w'')
 (hk:AW P n D ops Q w0 m k (i::ls) (setD dst v L) w)(h:callAt P n ops.toList i L=some (f,vs,dst):=by kernel_rfl)(hB:takeW ops m ls i=true:=by kernel_rfl):AW P n D ops Q w0 m (k+1) ls L w:=
 aw_y (λa ha=>by
  obtain ⟨o,ho,hdst,hd,hw,hrun⟩:=callAt_spec (ops:=ops) h ha
  refine ⟨o,by simpa using ho,hdst,hd,.inl ⟨hw,λw' hm=>?_⟩⟩
  simp only [Oper.quietAt,hrun,Oper.quietUpon,true_and]
  exact hc w' hm) hB hk
def AS(P:Program)(n:Nat)(D:List Deferred)(ops:Array Oper)(Q:Exit->Act->World->Prop)(w0:World)(m f:Nat)(ls:List Nat)(L:List (Nat×Value))(w:World)(i:Nat):Prop:=
 HeadInv .any ops m (lstd ops (i::ls))->Mod [] w0 w->∀a,Hold n L D a->wpOp P ops (onlyN Q) i (λa' w''=>Mod [] w0 w''/\wpAnyW P .any ops (onlyN Q) w0 m (TT P ops Q m) f (lstd ops (i::ls)) a' w'') a w
theorem aw_all{f:Nat}{ls l:List Nat}(hr:Region.ready .any ops (lstd ops ls)=l)(hl:(!l.isEmpty&&l.all λi=>decide (i<m))=true)(h:∀w',Mod [] w w'->∀i∈l,AS P n D ops Q w0 m f ls L w' i):AW P n D ops Q w0 m (f+1) ls L w:=by
 intro inv h0 a ha w' hw';simp only [Bool.and_eq_true,List.all_eq_true,decide_eq_true_eq] at hl;rw [hr];refine ⟨λe=>by rw [e] at hl;simp at hl,λi hi=>⟨hl.2 i hi,h w' hw' i hi (inv.set (by rw [hr];exact hi) (hl.2 i hi)) (h0.trans hw') a ha⟩⟩
theorem aw_1{f:Nat}{ls:List Nat}(i:Nat)(h:∀w',Mod [] w w'->AS P n D ops Q w0 m f ls L w' i)(hr:Region.ready .any ops (lstd ops ls)=[i]:=by kernel_rfl)(hl:(!([i]:List Nat).isEmpty&&([i]:List Nat).all λi=>decide (i<m))=true:=by kernel_rfl):AW P n D ops Q w0 m (f+1) ls L w:=
 aw_all hr hl λw' hm j hj=>by rw [List.mem_singleton.1 hj];exact h w' hm
theorem aw_2{f:Nat}{ls:List Nat}(i j:Nat)(h:∀w',Mod [] w w'->AS P n D ops Q w0 m f ls L w' i)(h':∀w',Mod [] w w'->AS P n D ops Q w0 m f ls L w' j)(hr:Region.ready .any ops (lstd ops ls)=[i,j]:=by kernel_rfl)(hl:(!([i,j]:List Nat).isEmpty&&([i,j]:List Nat).all λi=>decide (i<m))=true:=by kernel_rfl):AW P n D ops Q w0 m (f+1) ls L w:=
 aw_all hr hl λw' hm q hq=>by
  rcases List.mem_cons.1 hq with rfl|hq
  ·exact h w' hm
  rw [List.mem_singleton.1 hq];exact h' w' hm
theorem as_call{k i:Nat}{ls:List Nat}(f:FuncId)(vs:List Value)(dst:Option Nat){R:Ending->World->Prop}(hc:Calls P f vs.toArray w R)
 (hk:∀x w2,R x w2->∃v,x=.returned v/\Mod [] w w2/\AW P n D ops Q w0 m k (i::ls) (setD dst v L) w2)(h:callAt P n ops.toList i L=some (f,vs,dst):=by kernel_rfl):AS P n D ops Q w0 m k ls L w i:=by
 intro inv h0 a ha;obtain ⟨o,ho,hdst,hd,hw,hrun⟩:=callAt_spec (ops:=ops) h ha;have ho2:ops[i]?=some o:=by simpa using ho
 unfold wpOp;simp only [ho2,hw,if_true];refine .inl ?_;simp only [Oper.wp,hrun,Oper.upon];refine hc.mono λx w2 hR=>?_;obtain ⟨v,rfl,hm,hv⟩:=hk x w2 hR;have:=hv inv (h0.trans hm) _ (ha.setD hd v);rw [←hdst] at this;exact ⟨h0.trans hm,this⟩
theorem as_new{f i:Nat}{ls:List Nat}(cs:Array Value)(t:TypeId)(dst:Option Nat)(hk:∀b w',New w w' b (.cells cs t (0,0))->AW P n D ops Q w0 m f (i::ls) (setD dst (.pointer (some ⟨b,0,none⟩)) L) w')
 (h:newAt P n ops.toList i L=some (cs,t,dst):=by kernel_rfl):AS P n D ops Q w0 m f ls L w i:=by
 intro inv h0 a ha;obtain ⟨o,ho,hdst,hd,hw,hrun⟩:=newAt_spec (ops:=ops) h ha w;have ho2:ops[i]?=some o:=by simpa using ho
 unfold wpOp;simp only [ho2,hw,if_true];refine .inl ?_;simp only [Oper.wp,hrun,Oper.upon];have hN:=New.alloc w (.cells cs t (0,0));have:=hk _ _ hN inv (h0.trans hN.mod) _ (ha.setD hd _);rw [←hdst] at this;exact ⟨h0.trans hN.mod,this⟩
theorem as_store{f i:Nat}{ls:List Nat}(b off:Nat)(v:Value){cs:Array Value}{t:TypeId}(hb:At w b (.cells cs t (0,0)))(hfr:w0.heap.size<=b)
 (hk:∀w',Upd w w' b (.cells (storeRow cs off v.cells.toList) t (0,0))->AW P n D ops Q w0 m f (i::ls) (setD none undef L) w')
 (hlen:off+v.cells.size<=cs.size)(hone:oneCells v.cells.toList=true)(h:storeAt P n ops.toList i L=some (⟨b,off,none⟩,v,none,some v.cells.size):=by kernel_rfl):AS P n D ops Q w0 m f ls L w i:=by
 intro inv h0 a ha;unfold storeAt at h;split at h
 ·rename_i o ho;split at h
  ·rename_i hw hd;split at h
   ·rename_i tt x y hop;split at h
    ·rename_i a' v' hx hy;simp only [Option.some.injEq,Prod.mk.injEq] at h;obtain ⟨rfl,rfl,e,hs⟩:=h;have ho2:ops[i]?=some o:=by simpa using ho
     obtain ⟨w',hr,hU⟩:=run_storeCells (P:=P) v'.cells.toList 0 w cs hb (by simpa using hlen) hone;have hrun:(execOp a.eval o).run P w=.ok .skip w':=by
      obtain ⟨dst,op,ty,pos,af,g'⟩:=o;simp only at hop;subst hop;simp [execOp,Instr.storeAt,ha.agrees _ _ hx,ha.agrees _ _ hy,Instr.sureAddr,storeVar,runSize hs,hr]
     rw [show off+0=off from rfl] at hU;have hM:Mod [] w0 w':=h0.fresh hU.mod λx hx=>by rw [List.mem_singleton.1 hx];exact hfr
     unfold wpOp;simp only [ho2,wantedL_spec ha hw,if_true];refine .inl ?_;simp only [Oper.wp,hrun,Oper.upon];have:=hk w' hU inv hM _ (ha.setD (by rw [←e];exact hd) undef);rw [←e] at this;exact ⟨hM,this⟩
    cases h
   cases h
  cases h
 cases h
theorem aw_done{ls:List Nat}(hk:∀w',Mod [] w w'->Reg P n D ops (onlyN Q) m L w')(hB:Region.seqB .any ops (ops.size-m) m (lstd ops ls)=true:=by kernel_rfl):AW P n D ops Q w0 m 0 ls L w:=
 λ_ _ a ha=>⟨hB,λw'' hm=>hk w'' hm a ha⟩
end
section
variable{n:Nat}{D:List Deferred}{ops:Array Oper}{Q:Exit->Act->World->Prop}{w:World}{L:List (Nat×Value)}
end
set_option synthInstance.maxSize 2000
set_option synthInstance.maxHeartbeats 400000
section
variable{P:SP}{m:Sm}{M:Mv}
end
set_option synthInstance.maxSize 2000
set_option synthInstance.maxHeartbeats 400000
def notI(k:Int):Int:=IntKind.i64.wrap ((IntKind.u64.wrap k).tmod 3)
theorem notI_rng(k:Int):0<=notI k/\notI k<=2:=by
 have h:=pick_ok (k:=k) (n:=3) (by decide) (by decide);have e:notI k=pickI k 3:=rfl;omega
def txtA(P:SP)(n:Int)(m:Sm):List UInt8:=if n=0 then bodyS P m.f m.t m.p++sgnS P m.f m.t m.p else if n=1 then lanS P m.f m.t m.p else uciB ⟨0,m.f,m.t,m.p⟩
section
variable{P:SP}{m:Sm}{c:GC}{w:World}
theorem w15a(hG:Glob c w)(hR:RightS P)(h:LegM P m)(ht:Told P m){n:Int}(hn:0<=n/\n<=2):CR 15 [.int .i64 n,.agg (spCells P),.agg #[.int .i64 m.f,.int .i64 m.t,.int .i64 m.p]] w (.tuple #[.string (bstr (txtA P n m)),.bool true]):=by
 rcases (by omega:n=0\/n=1\/n=2) with rfl|rfl|rfl
 ·exact w15s hG hR h ht
 ·exact w15l hG hR h ht
 have hU:=plainU hR (h.okS hR.valid);exact c15u P hG hU.ok hU.pre m.f m.t m.p hU.hex hU.hr
theorem w16a(hG:Glob c w)(hR:RightS P)(h:LegM P m){n:Int}(hn:0<=n/\n<=2):CQ 16 [.int .i64 n,.agg (spCells P),.string (bstr (txtA P n m))] w (λe w'=>∃t,e=.returned (.tuple #[.agg #[.int .i64 m.f,.int .i64 m.t,.int .i64 m.p],.int .i64 t,.bool true])/\Mod [] w w'):=by
 rcases (by omega:n=0\/n=1\/n=2) with rfl|rfl|rfl
 ·exact w16s hG hR h
 ·exact w16l hG hR h
 have hU:=plainU hR (h.okS hR.valid);exact c16 P hG hU.ok hU.pre ⟨(uciB ⟨0,m.f,m.t,m.p⟩).toArray⟩ m.f m.t m.p hU.sm.f hU.sm.t (by have:=hU.sm.p;omega) (uciB_len hU.sm.p) (uciB_at hU.sm.f hU.sm.t).1 (uciB_at hU.sm.f hU.sm.t).2.1 (uciB_at hU.sm.f hU.sm.t).2.2.1 (uciB_at hU.sm.f hU.sm.t).2.2.2 (λh=>uciB_pr (by have:=hU.sm.p;omega)) hU.pc (castle_size P)
end
set_option synthInstance.maxSize 2000
set_option synthInstance.maxHeartbeats 400000
section
variable{P Q:SP}{m:Sm}{w:World}
theorem txt_m(hV:ValidS P)(hV':ValidS Q)(h:Mir P Q)(hL:LegM P m)(n:Int):(txtA P n m).map tB=txtA Q n (mM m):=by
 unfold txtA;split
 ·rw [List.map_append,body_m hV hV' h hL,sgnS_tB,←sgn_m hV hV' h hL];rfl
 split
 ·exact lan_m hV hV' h hL
 exact uci_m (hL.ok hV)
theorem txt_len(hs:SmOk m)(n:Int):(txtA P n m).length<=100000:=by
 unfold txtA;split
 ·exact san_len _ _ _ _
 split
 ·exact lan_len _ _ _ _
 have:=uciB_len (f:=m.f) (t:=m.t) hs.p;have e:(⟨(uciB ⟨0,m.f,m.t,m.p⟩).toArray⟩:ByteArray).size=(uciB ⟨0,m.f,m.t,m.p⟩).length:=bstr_size _;omega
theorem w17(hV:ValidS P)(hV':ValidS Q)(h:Mir P Q)(hL:LegM P m)(n:Int):CR 17 [.string (bstr (txtA P n m))] w (.string (bstr (txtA Q n (mM m)))):=by
 rw [←txt_m hV hV' h hL n];exact c17 _ (txt_len (hL.ok hV) n)
end
set_option maxHeartbeats 4000000 in
theorem c5{c:GC}{w:World}(P:SP)(k nt:Int)(hG:Glob c w):
  CR 5 [.agg (spCells P),.int .i64 k,.int .i64 nt] w (.bool true):=by
 have hm0:Mod [] w w:=Mod.refl _ _;have hGs:=hG.size;refine en func5 ntmps5 ?_;refine zw<|zA (spCells P) 24 (some 3) ?_;intro b1 w2 hn3;have hb4:c.base<=b1:=Glob.lt hG hn3;have hb5:=Nat.le_trans hm0.size hn3.base;have hm6:=hn3.mod;have hm8:=Mod.trans hm0 (Mod.of_nil hm6);have hz9:=hm6.size;refine yS 1<|zx<|yV 2 [.row ⟨b1,0,none⟩ 69 (spCells P)] [.agg (spCells P)] (At.row ya (spCells_size P))<|zC (some 22) (c13 P k) ?_;rintro _ w11 ⟨m13,v14,rfl,hm12,hv15⟩;refine ⟨_,rfl,?_⟩;have hm18:=Mod.trans hm8 (Mod.of_nil hm12);have hz19:=hm12.size;refine yS 3<|zA (#[.int .i64 (0:Int),.int .i64 (0:Int),.int .i64 (0:Int)]) 30 (some 7) ?_;intro b20 w21 hn22;have hb23:c.base<=b20:=Glob.lt (yG w11) hn22;have hb24:=Nat.le_trans hm18.size hn22.base;have hm25:=hn22.mod;have hm28:=Mod.trans hm18 (Mod.of_nil hm25);have hz29:=hm25.size;refine zS b20 0 (.agg #[.int .i64 m13.f,.int .i64 m13.t,.int .i64 m13.p]) ?_;intro w31 hu32;have hm36:=Mod.fresh' hm28 hu32.mod (by simp<;>omega);have hz37:=hu32.mod.size;refine yS 1<|zz<|w_seq<|zw<|yS 3<|yE 27 (.bool (!v14)) ?_;cases hc38:(!v14)
 ·have dhc38:=hc38;simp only [zbq] at dhc38;refine reg_seg 2 [(2,.int .i64 nt),(3,.pointer (some ⟨b1,0,none⟩)),(7,.pointer (some ⟨b20,0,none⟩)),(27,.bool false),(28,.agg (spCells P)),(29,.agg (#[.int .i64 m13.f,.int .i64 m13.t,.int .i64 m13.p]))] [.row ⟨b1,0,none⟩ 69 (spCells P),.row ⟨b20,0,none⟩ 3 (#[.int .i64 m13.f,.int .i64 m13.t,.int .i64 m13.p])] [.agg (spCells P),.agg (#[.int .i64 m13.f,.int .i64 m13.t,.int .i64 m13.p])] [2,3,7,27,28,29] (by kernel_rfl) (⟨(At.row ya (spCells_size P)),At.row ya rfl⟩) ?_;obtain ⟨hR,hL⟩:=hv15 (by simpa using hc38);replace hL:=legM hR.valid hL;have hO:=hL.ok hR.valid;refine zC (some 30) (c11 P hR.valid.bd hR.valid.turn hR.valid.castle m13.f m13.t m13.p hO.f hO.t hO.p) ?_;rintro _ w39 ⟨v41,rfl,hm40,hv42⟩;refine ⟨_,rfl,?_⟩;have hm46:=Mod.trans hm36 (Mod.of_nil hm40);have hz47:=hm40.size;refine yS 2<|zz<|w_cond (b:=(!v41)) (by kernel_rfl) (λhc48=>?_) (λhc48=>?_)
  ·have dhc48:=hc48;simp only [zbq] at dhc48;have nhc48:v41=false:=by simpa using hc48
   exact zw<|yS 1<|zz<|w_ret<|r_then<|y1 (⟨rfl,hm46⟩)
  have dhc48:=hc48;simp only [zbq] at dhc48;have nhc48:v41=true:=by simpa using hc48
  have ht:=hv42 (by simpa using hc48);have hM:=mir_turS hR.valid;have hRQ:=right_m hR hM hR.valid.half hR.valid.full;have hLQ:=leg_m hR.valid hRQ.valid hM hL;have htQ:=told_m hR.valid hRQ.valid hM hL ht;have hE:-1<=P.ep/\P.ep<=63:=by have:=ep_cases hR.valid;omega
  have hof:=hO.f;have hot:=hO.t;have hn:=notI_rng nt;refine w_skip<|zn<|zo 5 [rz 3 b1,rz 7 b20,iz 9 (IntKind.i64.wrap ((IntKind.u64.wrap nt).tmod (3:Int)))] [.prop ((3:Int)≠0)] (show (3:Int)≠0 from (by omega))<|ze ?_;rw [show (IntKind.i64.wrap ((IntKind.u64.wrap nt).tmod (3:Int)))=notI nt from rfl];refine n_then<|w_seq<|w_join (γ:=Nat×Nat) (λ(g49:Nat×Nat)=>[(3,.pointer (some ⟨b1,0,none⟩)),(7,.pointer (some ⟨b20,0,none⟩)),(9,.int .i64 (notI nt)),(10,.pointer (some ⟨g49.1,0,none⟩)),(11,.pointer (some ⟨g49.2,0,none⟩))]) (λ(g49:Nat×Nat) w_=>Mod [] w39 w_/\At w_ g49.1 (.cells (spCells (turS P)) 24 (0,0))/\At w_ g49.2 (.cells #[.int .i64 m13.f,.int .i64 m13.t,.int .i64 m13.p] 30 (0,0))/\(w39.heap.size<=g49.1/\w39.heap.size<=g49.2)) ?_ ?_
  ·have hm52:Mod [] w39 w39:=Mod.refl _ _;refine w_aw 6<|aw_rd 0 (.agg (spCells P)) (some 37) [.row ⟨b1,0,none⟩ 69 (spCells P)] [.agg (spCells P)] (λ_ hC=>(At.row (At.on ya hC) (spCells_size P)))<|aw_rd 2 (.agg (#[.int .i64 m13.f,.int .i64 m13.t,.int .i64 m13.p])) (some 39) [.row ⟨b20,0,none⟩ 3 (#[.int .i64 m13.f,.int .i64 m13.t,.int .i64 m13.p])] [.agg (#[.int .i64 m13.f,.int .i64 m13.t,.int .i64 m13.p])] (λ_ hC=>At.row (At.on ya hC) rfl)<|aw_call 1 14 [.agg (spCells P)] (.agg (spCells (turS P))) (some 38) (λ_ hC=>c14 P hR.valid.bd hR.valid.turn hE)<|aw_2 3 4 (λw53 hm54=>?_) λw55 hm56=>?_
   ·have hf57:=At.on (yA w39 b1) hm54;have hf58:=At.on (yA w39 b20) hm54;have hG59:=Glob.on (yG w39) hm54;have hm60:=Mod.trans hm46 (Mod.of_nil hm54);have hm61:=Mod.trans hm52 (Mod.of_nil hm54);have hz62:=hm54.size;refine as_new ((spCells zeroSP)) 24 (some 10) λb63 w64 hn65=>?_;have ne66:b1≠b63:=hn65.ne hf57;have hb67:c.base<=b63:=Glob.lt hG59 hn65;have hb68:=Nat.le_trans hm60.size hn65.base;have hb69:=Nat.le_trans hm61.size hn65.base;have hm70:=hn65.mod;have hf72:=At.on hf58 hm70;have hG73:=Glob.on hG59 hm70;have hm74:=Mod.trans hm60 (Mod.of_nil hm70);have hm75:=Mod.trans hm61 (Mod.of_nil hm70);have hz76:=hm70.size;refine aw_1 4 λw78 hm79=>?_;have hf81:=At.on hf72 hm79;have hG83:=Glob.on hG73 hm79;have hm84:=Mod.trans hm74 (Mod.of_nil hm79);have hm85:=Mod.trans hm75 (Mod.of_nil hm79);have hz86:=hm79.size;refine as_new (#[.int .i64 (0:Int),.int .i64 (0:Int),.int .i64 (0:Int)]) 30 (some 11) λb87 w88 hn89=>?_;have ne90:b20≠b87:=hn89.ne hf81;have hb91:c.base<=b87:=Glob.lt hG83 hn89;have hb92:=Nat.le_trans hm84.size hn89.base;have hb93:=Nat.le_trans hm85.size hn89.base;have hm94:=hn89.mod;have hz101:=hm94.size;refine aw_1 5 λw103 hm104=>?_;have hz112:=hm104.size;refine as_store b63 0 (.agg (spCells (turS P))) ya (by omega) (λw113 hu114=>?_) (sp_bound_all zeroSP _) (sp_one (turS P));have hf115:At w113 b63 (.cells (spCells (turS P)) 24 (0,0)):=at_cast hu114.at_ (congrArg (λA=>Obj.cells A 24 (0,0)) (spStore_all zeroSP (turS P)));have hz122:=hu114.mod.size;refine aw_done λw123 hm124=>?_;have hz132:=hm124.size;refine zS b87 0 (.agg (#[.int .i64 m13.f,.int .i64 m13.t,.int .i64 m13.p])) ?_;intro w133 hu134;have hz142:=hu134.mod.size;exact ze<|only_n<|zb (b63,b87) ⟨yt,ya,ya,(by omega)⟩
   have hf143:=At.on (yA w39 b1) hm56;have hf144:=At.on (yA w39 b20) hm56;have hG145:=Glob.on (yG w39) hm56;have hm146:=Mod.trans hm46 (Mod.of_nil hm56);have hm147:=Mod.trans hm52 (Mod.of_nil hm56);have hz148:=hm56.size;refine as_new (#[.int .i64 (0:Int),.int .i64 (0:Int),.int .i64 (0:Int)]) 30 (some 11) λb149 w150 hn151=>?_;have ne152:b20≠b149:=hn151.ne hf144;have hb153:c.base<=b149:=Glob.lt hG145 hn151;have hb154:=Nat.le_trans hm146.size hn151.base;have hb155:=Nat.le_trans hm147.size hn151.base;have hm156:=hn151.mod;have hf157:=At.on hf143 hm156;have hG159:=Glob.on hG145 hm156;have hm160:=Mod.trans hm146 (Mod.of_nil hm156);have hm161:=Mod.trans hm147 (Mod.of_nil hm156);have hz162:=hm156.size;refine aw_1 3 λw164 hm165=>?_;have hf166:=At.on hf157 hm165;have hG169:=Glob.on hG159 hm165;have hm170:=Mod.trans hm160 (Mod.of_nil hm165);have hm171:=Mod.trans hm161 (Mod.of_nil hm165);have hz172:=hm165.size;refine as_new ((spCells zeroSP)) 24 (some 10) λb173 w174 hn175=>?_;have ne176:b1≠b173:=hn175.ne hf166;have hb177:c.base<=b173:=Glob.lt hG169 hn175;have hb178:=Nat.le_trans hm170.size hn175.base;have hb179:=Nat.le_trans hm171.size hn175.base;have hm180:=hn175.mod;have hz187:=hm180.size;refine aw_1 5 λw189 hm190=>?_;have hz198:=hm190.size;refine as_store b173 0 (.agg (spCells (turS P))) ya (by omega) (λw199 hu200=>?_) (sp_bound_all zeroSP _) (sp_one (turS P));have hf201:At w199 b173 (.cells (spCells (turS P)) 24 (0,0)):=at_cast hu200.at_ (congrArg (λA=>Obj.cells A 24 (0,0)) (spStore_all zeroSP (turS P)));have hz208:=hu200.mod.size;refine aw_done λw209 hm210=>?_;have hz218:=hm210.size;refine zS b149 0 (.agg (#[.int .i64 m13.f,.int .i64 m13.t,.int .i64 m13.p])) ?_;intro w219 hu220;have hz228:=hu220.mod.size;exact ze<|only_n<|zb (b173,b149) ⟨yt,ya,ya,(by omega)⟩
  rintro g49 w50 ⟨hm51,hj229,hj230,hj231⟩;have hm235:=Mod.trans hm46 (Mod.of_nil hm51);have hz236:=hm51.size;have hb237:=hj231.1;have hb238:=hj231.2;have ne239:b1≠g49.1:=(by have:=At.lt (yA w39 b1);omega);have ne240:b20≠g49.2:=(by have:=At.lt (yA w39 b20);omega);refine zn<|zv 3 [rz 3 b1,rz 7 b20,iz 9 (notI nt),(10,.pointer (some ⟨g49.1,0,none⟩)),(11,.pointer (some ⟨g49.2,0,none⟩)),iz 42 (bitsV .xor .i64 m13.f 56)] [.cell ⟨g49.2,0,none⟩ (.int .i64 m13.f)] [.int .i64 m13.f] (At.cell hj230 rfl) ?_;rw [(show ((bitsV .xor .i64 m13.f (56:Int)):Int)=(mI m13.f) from (xor56 (by omega)))];refine yS 1<|zS g49.2 0 (.int .i64 (mI m13.f)) ?_;intro w241 hu242;have hf243:At w241 g49.2 (.cells (#[.int .i64 (mI m13.f),.int .i64 m13.t,.int .i64 m13.p]) 30 (0,0)):=hu242.at_;have hf245:=At.keep (yA w50 b20) hu242.mod (not_mem1 ne240);have hG247:=Glob.keep (yG w50) hu242.mod (by simp<;>omega);have hm248:=Mod.fresh' hm235 hu242.mod (by simp<;>omega);have hz249:=hu242.mod.size;refine zx<|zv 3 [rz 3 b1,rz 7 b20,iz 9 (notI nt),(10,.pointer (some ⟨g49.1,0,none⟩)),(11,.pointer (some ⟨g49.2,0,none⟩)),iz 46 (bitsV .xor .i64 m13.t 56)] [.cell ⟨g49.2,1,none⟩ (.int .i64 m13.t)] [.int .i64 m13.t] (At.cell hf243 rfl) ?_;rw [(show ((bitsV .xor .i64 m13.t (56:Int)):Int)=(mI m13.t) from (xor56 (by omega)))];refine yS 1<|zS g49.2 1 (.int .i64 (mI m13.t)) ?_;intro w250 hu251;have hf252:At w250 g49.2 (.cells (#[.int .i64 (mI m13.f),.int .i64 (mI m13.t),.int .i64 m13.p]) 30 (0,0)):=hu251.at_;have hf253:=At.keep (yA w241 b1) hu251.mod (not_mem1 (At.ne (yA w241 b1) hf243 rfl));have hf254:=At.keep hf245 hu251.mod (not_mem1 ne240);have hG256:=Glob.keep hG247 hu251.mod (by simp<;>omega);have hm257:=Mod.fresh' hm248 hu251.mod (by simp<;>omega);refine zx<|yV 3 [.row ⟨b1,0,none⟩ 69 (spCells P),.row ⟨b20,0,none⟩ 3 (#[.int .i64 m13.f,.int .i64 m13.t,.int .i64 m13.p])] [.agg (spCells P),.agg (#[.int .i64 m13.f,.int .i64 m13.t,.int .i64 m13.p])] (⟨(At.row hf253 (spCells_size P)),At.row hf254 rfl⟩)<|zk (some 52) (w15a hG256 hR hL ht hn) ?_;intro w259 hm260;have hf264:=At.on hf252 hm260;have hm266:=Mod.trans hm257 (Mod.of_nil hm260);refine yS 5<|zx<|yV 3 [.row ⟨g49.1,0,none⟩ 69 (spCells (turS P)),.row ⟨g49.2,0,none⟩ 3 (#[.int .i64 (mI m13.f),.int .i64 (mI m13.t),.int .i64 m13.p])] [.agg (spCells (turS P)),.agg (#[.int .i64 (mI m13.f),.int .i64 (mI m13.t),.int .i64 m13.p])] (⟨(At.row ya (spCells_size (turS P))),At.row hf264 rfl⟩)<|zk (some 59) (w15a (m:=mM m13) yg hRQ hLQ htQ hn) ?_;intro w268 hm269;have hf273:=At.on hf264 hm269;have hm275:=Mod.trans hm266 (Mod.of_nil hm269);refine yS 5<|zz<|w_seq<|w_join (γ:=Nat×Int) (λ(g277:Nat×Int)=>[(11,.pointer (some ⟨g49.2,0,none⟩)),(12,.string (bstr (txtA P (notI nt) m13))),(13,.bool true),(14,.string (bstr (txtA (turS P) (notI nt) (mM m13)))),(15,.bool true),(16,.pointer (some ⟨g277.1,0,none⟩)),(17,.int .i64 g277.2),(18,.bool true)]) (λ(g277:Nat×Int) w_=>Mod [] w268 w_/\At w_ g277.1 (.cells #[.int .i64 (mI m13.f),.int .i64 (mI m13.t),.int .i64 m13.p] 30 (0,0))) ?_ ?_
  ·have hm280:Mod [] w268 w268:=Mod.refl _ _;refine w_aw 12<|aw_rd 0 (.int .i64 (notI nt)) (some 63) [] [] (λ_ _=>trivial)<|aw_rd 2 (.string (bstr (txtA P (notI nt) m13))) (some 65) [] [] (λ_ _=>trivial)<|aw_rd 1 (.agg (spCells (turS P))) (some 64) [.row ⟨g49.1,0,none⟩ 69 (spCells (turS P))] [.agg (spCells (turS P))] (λ_ hC=>(At.row (At.on ya hC) (spCells_size (turS P))))<|aw_call 3 17 [.string (bstr (txtA P (notI nt) m13))] (.string (bstr (txtA (turS P) (notI nt) (mM m13)))) (some 66) (λ_ hC=>w17 hR.valid hRQ.valid hM hL (notI nt))<|aw_2 4 9 (λw281 hm282=>?_) λw283 hm284=>?_
   ·have hf288:=At.on hf273 hm282;have hm290:=Mod.trans hm275 (Mod.of_nil hm282);have hm291:=Mod.trans hm280 (Mod.of_nil hm282);refine as_call 16 [.int .i64 (notI nt),.agg (spCells (turS P)),.string (bstr (txtA (turS P) (notI nt) (mM m13)))] (some 67) (w16a (m:=mM m13) yg hRQ hLQ hn) ?_;rintro _ w293 ⟨t295,rfl,hm294⟩;refine ⟨_,rfl,hm294,?_⟩;have hf299:=At.on hf288 hm294;have hm301:=Mod.trans hm290 (Mod.of_nil hm294);have hm302:=Mod.trans hm291 (Mod.of_nil hm294);refine aw_rd 5 (.tuple #[.agg #[.int .i64 (mI m13.f),.int .i64 (mI m13.t),.int .i64 m13.p],.int .i64 t295,.bool true]) (some 62) [] [] (λ_ _=>trivial)<|aw_rd 6 (.agg #[.int .i64 (mI m13.f),.int .i64 (mI m13.t),.int .i64 m13.p]) (some 68) [] [] (λ_ _=>trivial)<|aw_rd 7 (.int .i64 t295) (some 69) [] [] (λ_ _=>trivial)<|aw_rd 8 (.bool true) (some 70) [] [] (λ_ _=>trivial)<|aw_1 9 λw304 hm305=>?_;have hf309:=At.on hf299 hm305;have hG310:=Glob.on (yG w293) hm305;have hm311:=Mod.trans hm301 (Mod.of_nil hm305);have hm312:=Mod.trans hm302 (Mod.of_nil hm305);refine as_new (#[.int .i64 (0:Int),.int .i64 (0:Int),.int .i64 (0:Int)]) 30 (some 16) λb314 w315 hn316=>?_;have ne318:g49.2≠b314:=hn316.ne hf309;have hb319:c.base<=b314:=Glob.lt hG310 hn316;have hb320:=Nat.le_trans hm311.size hn316.base;have hb321:=Nat.le_trans hm312.size hn316.base;have hm322:=hn316.mod;have hm329:=Mod.trans hm312 (Mod.of_nil hm322);have hz330:=hm322.size;have hf331:=hn316.at_;refine aw_1 10 λw332 hm333=>?_;have hf338:=At.on hf331 hm333;have hm341:=Mod.trans hm329 (Mod.of_nil hm333);have hz342:=hm333.size;refine as_store b314 0 (.agg #[.int .i64 (mI m13.f),.int .i64 (mI m13.t),.int .i64 m13.p]) hf338 (by omega) (λw343 hu344=>?_) (Nat.le_of_ble_eq_true rfl) rfl;have hf345:At w343 b314 (.cells (#[.int .i64 (mI m13.f),.int .i64 (mI m13.t),.int .i64 m13.p]) 30 (0,0)):=hu344.at_;have hm352:=Mod.fresh' hm341 hu344.mod (by simp<;>omega);have hz353:=hu344.mod.size;refine aw_rd 11 (.int .i64 t295) (some 17) [] [] (λ_ _=>trivial)<|aw_done λw354 hm355=>?_;have hf360:=At.on hf345 hm355;have hm363:=Mod.trans hm352 (Mod.of_nil hm355);have hz364:=hm355.size;exact yS 1<|ze<|only_n<|zb (b314,t295) ⟨hm363,hf360⟩
   have hf366:=At.on (yA w268 b20) hm284;have hf368:=At.on hf273 hm284;have hG369:=Glob.on (yG w268) hm284;have hm370:=Mod.trans hm275 (Mod.of_nil hm284);have hm371:=Mod.trans hm280 (Mod.of_nil hm284);have hz372:=hm284.size;refine as_new (#[.int .i64 (0:Int),.int .i64 (0:Int),.int .i64 (0:Int)]) 30 (some 16) λb373 w374 hn375=>?_;have ne376:b20≠b373:=hn375.ne hf366;have ne377:g49.2≠b373:=hn375.ne hf368;have hb378:c.base<=b373:=Glob.lt hG369 hn375;have hb379:=Nat.le_trans hm370.size hn375.base;have hb380:=Nat.le_trans hm371.size hn375.base;have hm381:=hn375.mod;have hG386:=Glob.on hG369 hm381;have hm388:=Mod.trans hm371 (Mod.of_nil hm381);have hz389:=hm381.size;have hf390:=hn375.at_;refine aw_1 4 λw391 hm392=>?_;have hf397:=At.on hf390 hm392;have hG398:=Glob.on hG386 hm392;have hm400:=Mod.trans hm388 (Mod.of_nil hm392);have hz401:=hm392.size;refine as_call 16 [.int .i64 (notI nt),.agg (spCells (turS P)),.string (bstr (txtA (turS P) (notI nt) (mM m13)))] (some 67) (w16a (m:=mM m13) hG398 hRQ hLQ hn) ?_;rintro _ w402 ⟨t404,rfl,hm403⟩;refine ⟨_,rfl,hm403,?_⟩;have hf409:=At.on hf397 hm403;have hm412:=Mod.trans hm400 (Mod.of_nil hm403);have hz413:=hm403.size;refine aw_rd 5 (.tuple #[.agg #[.int .i64 (mI m13.f),.int .i64 (mI m13.t),.int .i64 m13.p],.int .i64 t404,.bool true]) (some 62) [] [] (λ_ _=>trivial)<|aw_rd 6 (.agg #[.int .i64 (mI m13.f),.int .i64 (mI m13.t),.int .i64 m13.p]) (some 68) [] [] (λ_ _=>trivial)<|aw_rd 7 (.int .i64 t404) (some 69) [] [] (λ_ _=>trivial)<|aw_rd 8 (.bool true) (some 70) [] [] (λ_ _=>trivial)<|aw_1 10 λw414 hm415=>?_;have hf420:=At.on hf409 hm415;have hm423:=Mod.trans hm412 (Mod.of_nil hm415);have hz424:=hm415.size;refine as_store b373 0 (.agg #[.int .i64 (mI m13.f),.int .i64 (mI m13.t),.int .i64 m13.p]) hf420 (by omega) (λw425 hu426=>?_) (Nat.le_of_ble_eq_true rfl) rfl;have hf427:At w425 b373 (.cells (#[.int .i64 (mI m13.f),.int .i64 (mI m13.t),.int .i64 m13.p]) 30 (0,0)):=hu426.at_;have hm434:=Mod.fresh' hm423 hu426.mod (by simp<;>omega);have hz435:=hu426.mod.size;refine aw_rd 11 (.int .i64 t404) (some 17) [] [] (λ_ _=>trivial)<|aw_done λw436 hm437=>?_;have hf442:=At.on hf427 hm437;have hm445:=Mod.trans hm434 (Mod.of_nil hm437);have hz446:=hm437.size;exact yS 1<|ze<|only_n<|zb (b373,t404) ⟨hm445,hf442⟩
  rintro g277 w278 ⟨hm279,hj447⟩;have hf451:=At.on hf273 hm279;have hm453:=Mod.trans hm275 (Mod.of_nil hm279);have hz454:=hm279.size;refine zn<|yS 7<|zk (some 78) (w17 hR.valid hRQ.valid hM hL (notI nt)) ?_;intro w455 hm456;have hf460:=At.on hf451 hm456;have hf461:=At.on hj447 hm456;have hm463:=Mod.trans hm453 (Mod.of_nil hm456);have hz464:=hm456.size;refine reg_seg 1 [(11,.pointer (some ⟨g49.2,0,none⟩)),(16,.pointer (some ⟨g277.1,0,none⟩)),(18,.bool true),(75,.bool true),(79,.bool ((bstr (txtA (turS P) (notI nt) (mM m13))).toList==(bstr (txtA (turS P) (notI nt) (mM m13))).toList))] [] [] [11,16,18,75,79] (by kernel_rfl) trivial ?_;rw [show ((bstr (txtA (turS P) (notI nt) (mM m13))).toList==(bstr (txtA (turS P) (notI nt) (mM m13))).toList)=true from beq_self_eq_true _];refine yV 7 [.row ⟨g277.1,0,none⟩ 3 (#[.int .i64 (mI m13.f),.int .i64 (mI m13.t),.int .i64 m13.p]),.row ⟨g49.2,0,none⟩ 3 (#[.int .i64 (mI m13.f),.int .i64 (mI m13.t),.int .i64 m13.p])] [.agg (#[.int .i64 (mI m13.f),.int .i64 (mI m13.t),.int .i64 m13.p]),.agg (#[.int .i64 (mI m13.f),.int .i64 (mI m13.t),.int .i64 m13.p])] (⟨At.row hf461 rfl,At.row hf460 rfl⟩)<|reg_eq30 (mI m13.f) (mI m13.t) m13.p (mI m13.f) (mI m13.t) m13.p (some 87) (by kernel_rfl) ?_;rw [show (((mI m13.f)==(mI m13.f))&&(((mI m13.t)==(mI m13.t))&&(m13.p==m13.p)))=true from by simp];exact yS 2<|zz<|w_ret<|y1 (⟨rfl,hm463⟩)
 have dhc38:=hc38;simp only [zbq] at dhc38;exact yS 5<|zz<|yT<|zw<|yS 1<|zz<|w_ret<|r_then<|y1 (⟨rfl,hm36⟩)
end Go.Proofs.YtgnhellfhjoaaaaGreatDoor
namespace Go.Proofs.YtgnhellfhjoaaaaGreatDoor
open Go Go.RowKit Go.ChangeShapes Go.WideShapes Go.ChangeAt
set_option maxRecDepth 100000
theorem tab_cells{W:World}{nm:String}{g t e n fuel:Nat}{k:IntKind}{zs:List Int}{cs:Array Value}{p:List MemPlace}(ht:Tryz.prog.underlying t=some (.array n e))(he:Tryz.prog.underlying e=some (.int k))
  (hc:Tryz.prog.cellsOf e=1)(hz:zs.length=n)(hg:Tryz.prog.globalNamed nm=some g)(hv:W.var? Tryz.prog nm=some cs)
  (hd:DataW.trod (λ_=>()) Tryz.prog W 0 (λ_=>true) false fuel t cs.toList=some (.agg (zs.map λn=>.lit (.int k n)),p)):∀r,r<n->W.cell? ⟨g,r,none⟩=some (.int k (zs.getD r 0)):=by
 intro r hr;obtain ⟨xs,m,_,ex,_,hl,hel⟩:=DataW.trod_array ht hd;have hE:=hel r hr;rw [hc,Nat.mul_one,List.getElem?_eq_getElem (by omega)] at hE;obtain ⟨z,e1,e2,_⟩:=DataW.trod_int he hE;have e3:(xs.map (·.1))=zs.map λn=>.lit (.int k n):=(DataW.agg.inj (Prod.mk.inj ex).1).symm;have e4:(xs.map (·.1))[r]?=(zs.map λn=>(DataW.lit (.int k n):DataW Unit))[r]?:=by rw [e3]
 rw [List.getElem?_map,List.getElem?_map,List.getElem?_eq_getElem (by omega:r<xs.length),List.getElem?_eq_getElem (by omega:r<zs.length),e2] at e4;have hz:z=zs.getD r 0:=by
  simp only [Option.map_some,Option.some.injEq,DataW.lit.injEq,Lit.int.injEq,true_and] at e4;rw [e4,List.getD,List.getElem?_eq_getElem (by omega:r<zs.length)];rfl
 rw [World.var?_cell hg hv r,←hz];have:cs.toList[r]?=some (.int k z):=by
  have h0:((cs.toList.drop r).take 1)[0]?=some (.int k z):=by rw [e1];rfl
  simpa using h0
 simpa using this
theorem cell_lt{W:World}{b o:Nat}{v:Value}(h:W.cell? ⟨b,o,none⟩=some v):b<W.heap.size:=by
 refine Classical.byContradiction λhh=>?_;have:W.heap[b]?=none:=by rw [Array.getElem?_eq_none (by omega)]
 simp [World.cell?,this] at h
theorem lits_inj{k:IntKind}:∀{a b:List Int},(a.map λn=>(DataW.lit (.int k n):DataW Unit))=(b.map λn=>.lit (.int k n))->a=b
 |[],[],_=>rfl
 |[],_::_,h=>by cases h
 |_::_,[],h=>by cases h
 |x::a,y::b,h=>by
  simp only [List.map_cons,List.cons.injEq,DataW.lit.injEq,Lit.int.injEq,true_and] at h;rw [h.1,lits_inj h.2]
theorem sl_cells{W:World}{nm:String}{g t e n fuel:Nat}{k:IntKind}{zs:List Int}{cs:Array Value}{p:List MemPlace}(ht:Tryz.prog.underlying t=some (.slice e))(he:Tryz.prog.underlying e=some (.int k))
  (hc:Tryz.prog.cellsOf e=1)(hz:zs.length=n)(hn:0<n)(hg:Tryz.prog.globalNamed nm=some g)(hv:W.var? Tryz.prog nm=some cs)
  (hd:DataW.trod (λ_=>()) Tryz.prog W 0 (λ_=>true) false fuel t cs.toList=some (.slice (zs.map λn=>.lit (.int k n)) [],p)):
  ∃b o,W.cell? ⟨g,0,none⟩=some (.slice (some ⟨b,o,none⟩) n n)/\b<W.heap.size/\∀r,r<n->W.cell? ⟨b,o+r,none⟩=some (.int k (zs.getD r 0)):=by
 rcases open_ints ht he hc hd with ⟨_,hx⟩|⟨a,len,cap,ys,hcs,_,hle,_,hlen,hx,hcell,_⟩
 ·simp at hx
 simp only [if_true] at hlen;have h1:=DataW.slice.inj (Prod.mk.inj hx).1;have h3:ys.drop len=[]:=by have:=h1.2;unfold lits at this;simpa using this.symm
 have h4:cap<=len:=by have:=congrArg List.length h3;simp at this;omega
 have h5:ys.take len=ys:=List.take_of_length_le (by omega);have h2:zs=ys:=by
  have:=h1.1;unfold lits at this;rw [h5] at this;exact lits_inj this
 subst h2;obtain ⟨b,o,rfl,hc2⟩:=_root_.Go.ints_at hcell (by omega);have e1:len=n:=by omega
 have e2:cap=n:=by omega
 subst e1;refine ⟨b,o,?_,cell_lt (hc2 0 (by omega)),λr hr=>hc2 r (by omega)⟩;rw [World.var?_cell hg hv 0];have:cs.toList[0]?=some (.slice (some ⟨b,o,none⟩) len cap):=by rw [hcs];rfl
 rw [e2] at this;simpa using this
theorem tabs_eq:(Rows.laid_pub_fianchetto_pub_chess_bbFiles:DataW Unit)=.agg (fileTab.map λn=>.lit (.int .u64 n))/\(Rows.laid_pub_fianchetto_pub_chess_bbRanks:DataW Unit)=.agg (rankTab.map λn=>.lit (.int .u64 n))/\
  (Rows.laid_pub_fianchetto_pub_chess_bbDiagonals:DataW Unit)=.agg (diagTab.map λn=>.lit (.int .u64 n))/\(Rows.laid_pub_fianchetto_pub_chess_bbAntiDiagonals:DataW Unit)=.agg (antiTab.map λn=>.lit (.int .u64 n))/\
  (Rows.laid_pub_fianchetto_pub_chess_bbKnightMoves:DataW Unit)=.agg (knightTab.map λn=>.lit (.int .u64 n))/\(Rows.laid_pub_fianchetto_pub_chess_bbKingMoves:DataW Unit)=.agg (kingTab.map λn=>.lit (.int .u64 n))/\
  (Rows.laid_pub_fianchetto_pub_chess_allPieces:DataW Unit)=.slice (([1,2,3,4,5,6,7,8,9,10,11,12]:List Int).map λn=>.lit (.int .i8 n)) []/\
  (Rows.laid_pub_fianchetto_pub_chess_promoPieceTypes:DataW Unit)=.slice (([2,3,4,5]:List Int).map λn=>.lit (.int .i8 n)) []:=⟨rfl,rfl,rfl,rfl,rfl,rfl,rfl,rfl⟩
theorem ty_eqs:(Tryz.prog.globals[0]?).map (·.type)=some 137/\(Tryz.prog.globals[1]?).map (·.type)=some 162/\(Tryz.prog.globals[2]?).map (·.type)=some 162/\(Tryz.prog.globals[3]?).map (·.type)=some 162/\
  (Tryz.prog.globals[4]?).map (·.type)=some 162/\(Tryz.prog.globals[5]?).map (·.type)=some 171/\(Tryz.prog.globals[6]?).map (·.type)=some 171/\(Tryz.prog.globals[7]?).map (·.type)=some 178:=by
 refine ⟨?_,?_,?_,?_,?_,?_,?_,?_⟩<;>kernel_rfl
theorem k_nm0:Tryz.prog.globalNamed "pub-fianchetto/pub/chess.allPieces"=some 0:=by kernel_rfl
theorem k_nm1:Tryz.prog.globalNamed "pub-fianchetto/pub/chess.bbKnightMoves"=some 1:=by kernel_rfl
theorem k_nm2:Tryz.prog.globalNamed "pub-fianchetto/pub/chess.bbKingMoves"=some 2:=by kernel_rfl
theorem k_nm3:Tryz.prog.globalNamed "pub-fianchetto/pub/chess.bbDiagonals"=some 3:=by kernel_rfl
theorem k_nm4:Tryz.prog.globalNamed "pub-fianchetto/pub/chess.bbAntiDiagonals"=some 4:=by kernel_rfl
theorem k_nm5:Tryz.prog.globalNamed "pub-fianchetto/pub/chess.bbRanks"=some 5:=by kernel_rfl
theorem k_nm6:Tryz.prog.globalNamed "pub-fianchetto/pub/chess.bbFiles"=some 6:=by kernel_rfl
theorem k_nm7:Tryz.prog.globalNamed "pub-fianchetto/pub/chess.promoPieceTypes"=some 7:=by kernel_rfl
theorem k_un64:Tryz.prog.underlying 162=some (.array 64 133):=by kernel_rfl
theorem k_un8:Tryz.prog.underlying 171=some (.array 8 133):=by kernel_rfl
theorem k_un133:Tryz.prog.underlying 133=some (.int .u64):=by kernel_rfl
theorem k_cl133:Tryz.prog.cellsOf 133=1:=by kernel_rfl
theorem k_un137:Tryz.prog.underlying 137=some (.slice 112):=by kernel_rfl
theorem k_un178:Tryz.prog.underlying 178=some (.slice 93):=by kernel_rfl
theorem k_un112:Tryz.prog.underlying 112=some (.int .i8):=by kernel_rfl
theorem k_un93:Tryz.prog.underlying 93=some (.int .i8):=by kernel_rfl
theorem k_cl112:Tryz.prog.cellsOf 112=1:=by kernel_rfl
theorem k_cl93:Tryz.prog.cellsOf 93=1:=by kernel_rfl
theorem laid_in{W:World}{n:String}{d:DataW Unit}:∀(l:List (String×DataW Unit)) (ps:List MemPlace),DataW.LaidVars Tryz.prog W l ps->(n,d)∈l->
  ∃g t cs fuel p,Tryz.prog.globalNamed n=some g/\(Tryz.prog.globals[g]?).map (·.type)=some t/\W.var? Tryz.prog n=some cs/\DataW.trod (λ_=>()) Tryz.prog W 0 (λ_=>true) false fuel t cs.toList=some (d,p)
 |[],_,_,hm=>by cases hm
 |(x1,x2)::l,_,h,hm=>by
  obtain ⟨g,t,cs,fuel,p,q,h1,h2,h3,h4,h5,_⟩:=h;rcases List.mem_cons.1 hm with e|e
  ·cases e;exact ⟨g,t,cs,fuel,p,h1,h2,h3,h4⟩
  ·exact laid_in l q h5 e
theorem laid_at{W:World}{l:List (String×DataW Unit)}(h:laidMet Tryz.prog l W){n:String}{d:DataW Unit}(hm:(n,d)∈l):
  ∃g t cs fuel p,Tryz.prog.globalNamed n=some g/\(Tryz.prog.globals[g]?).map (·.type)=some t/\W.var? Tryz.prog n=some cs/\DataW.trod (λ_=>()) Tryz.prog W 0 (λ_=>true) false fuel t cs.toList=some (d,p):=by
 obtain ⟨ps,h,_,_⟩:=h;exact laid_in l ps h hm
theorem laid_tab{W:World}{l:List (String×DataW Unit)}(h:laidMet Tryz.prog l W){nm:String}{g t n:Nat}{zs:List Int}(hm:(nm,.agg (zs.map λn=>.lit (.int .u64 n)))∈l)
  (hg:Tryz.prog.globalNamed nm=some g)(ht:(Tryz.prog.globals[g]?).map (·.type)=some t)(hu:Tryz.prog.underlying t=some (.array n 133))(hz:zs.length=n):∀r,r<n->W.cell? ⟨g,r,none⟩=some (.int .u64 (zs.getD r 0)):=by
 obtain ⟨g',t',cs,fuel,p,h1,h2,h3,h4⟩:=laid_at h hm;obtain rfl:=Option.some.inj (hg.symm.trans h1);obtain rfl:=Option.some.inj (ht.symm.trans h2);exact tab_cells hu k_un133 k_cl133 hz hg h3 h4
theorem laid_sl{W:World}{l:List (String×DataW Unit)}(h:laidMet Tryz.prog l W){nm:String}{g t e n:Nat}{zs:List Int}(hm:(nm,.slice (zs.map λn=>.lit (.int .i8 n)) [])∈l)
  (hg:Tryz.prog.globalNamed nm=some g)(ht:(Tryz.prog.globals[g]?).map (·.type)=some t)(hu:Tryz.prog.underlying t=some (.slice e))(he:Tryz.prog.underlying e=some (.int .i8))(hc:Tryz.prog.cellsOf e=1)(hz:zs.length=n)(hn:0<n):
  ∃b o,W.cell? ⟨g,0,none⟩=some (.slice (some ⟨b,o,none⟩) n n)/\b<W.heap.size/\∀r,r<n->W.cell? ⟨b,o+r,none⟩=some (.int .i8 (zs.getD r 0)):=by
 obtain ⟨g',t',cs,fuel,p,h1,h2,h3,h4⟩:=laid_at h hm;obtain rfl:=Option.some.inj (hg.symm.trans h1);obtain rfl:=Option.some.inj (ht.symm.trans h2);exact sl_cells hu he hc hz hn hg h3 h4
def laidAll:List (String×DataW Unit):=[("unicode/utf8.acceptRanges",Rows.laid_unicode_utf8_acceptRanges),("pub-fianchetto/pub/chess.promoPieceTypes",Rows.laid_pub_fianchetto_pub_chess_promoPieceTypes),("pub-fianchetto/pub/chess.bbFiles",Rows.laid_pub_fianchetto_pub_chess_bbFiles),("pub-fianchetto/pub/chess.bbRanks",Rows.laid_pub_fianchetto_pub_chess_bbRanks),("pub-fianchetto/pub/chess.bbDiagonals",Rows.laid_pub_fianchetto_pub_chess_bbDiagonals),("pub-fianchetto/pub/chess.bbAntiDiagonals",Rows.laid_pub_fianchetto_pub_chess_bbAntiDiagonals),("pub-fianchetto/pub/chess.bbKnightMoves",Rows.laid_pub_fianchetto_pub_chess_bbKnightMoves),("pub-fianchetto/pub/chess.bbKingMoves",Rows.laid_pub_fianchetto_pub_chess_bbKingMoves),("pub-fianchetto/pub/chess.allPieces",Rows.laid_pub_fianchetto_pub_chess_allPieces),("unicode.CaseRanges",Rows.laid_unicode_CaseRanges),("unicode/utf8.first",Rows.laid_unicode_utf8_first)]
theorem pcs12:∀j,j<12->([1,2,3,4,5,6,7,8,9,10,11,12]:List Int).getD j 0=(j:Int)+1:=by decide
theorem pcs4:∀j,j<4->([2,3,4,5]:List Int).getD j 0=(j:Int)+2:=by decide
theorem laid_glob{W:World}(h:laidMet Tryz.prog laidAll W):∃c,Glob c W:=by
 obtain ⟨q1,q2,q3,q4,q5,q6,q7,q8⟩:=tabs_eq;obtain ⟨t0,t1,t2,t3,t4,t5,t6,t7⟩:=ty_eqs;obtain ⟨b,o,s1,s2,s3⟩:=laid_sl h (nm:= "pub-fianchetto/pub/chess.allPieces") (n:=12) (by rw [←q7];simp [laidAll]) k_nm0 t0 k_un137 k_un112 k_cl112 rfl (by decide);obtain ⟨b',o',s1',s2',s3'⟩:=laid_sl h (nm:= "pub-fianchetto/pub/chess.promoPieceTypes") (n:=4) (by rw [←q8];simp [laidAll]) k_nm7 t7 k_un178 k_un93 k_cl93 rfl (by decide);refine ⟨⟨W.heap.size,b,o,b',o'⟩,⟨Nat.le_refl _,cell_lt s1',s2,s2',s1,fun j hj=>?_,?_,?_,?_,?_,?_,?_,s1',fun j hj=>?_⟩⟩
 ·rw [s3 j hj,pcs12 j hj]
 ·exact laid_tab h (by rw [←q5];simp [laidAll]) k_nm1 t1 k_un64 rfl
 ·exact laid_tab h (by rw [←q6];simp [laidAll]) k_nm2 t2 k_un64 rfl
 ·exact laid_tab h (by rw [←q3];simp [laidAll]) k_nm3 t3 k_un64 rfl
 ·exact laid_tab h (by rw [←q4];simp [laidAll]) k_nm4 t4 k_un64 rfl
 ·exact laid_tab h (by rw [←q2];simp [laidAll]) k_nm5 t5 k_un8 rfl
 ·exact laid_tab h (by rw [←q1];simp [laidAll]) k_nm6 t6 k_un8 rfl
 rw [s3' j hj,pcs4 j hj]
theorem k_un24:∃fs:Array Field,Tryz.prog.underlying 24=some (.struct fs)/\(fs.map λf=>(f.type,f.offset))=#[(22,0),(3,64),(3,65),(3,66),(3,67),(3,68)]:=by
 refine ⟨_,rfl,?_⟩
 kernel_rfl
theorem k_cl24:Tryz.prog.cellsOf 24=69:=by kernel_rfl
theorem k_cl22:Tryz.prog.cellsOf 22=64:=by kernel_rfl
theorem k_cl3:Tryz.prog.cellsOf 3=1:=by kernel_rfl
theorem k_un22:Tryz.prog.underlying 22=some (.array 64 3):=by kernel_rfl
theorem k_un3:Tryz.prog.underlying 3=some (.int .i64):=by kernel_rfl
def rdI(cs:Array Value)(i:Nat):Int:=match cs[i]? with|some (.int _ z)=>z|_=>0
theorem open_pos{H:Type}{enc:TypeId×Value->H}{W:World}{base b0:Nat}{r:Reach}{sp:Nat->Bool}{held:Bool}{v:Value}{d:DataW H}{p:List MemPlace}(hval:Value.okWide Tryz.prog W r b0 24 v)
  (hd:DataW.Trod enc Tryz.prog W base sp held 24 v d p):∃P:SP,v=.agg (spCells P):=by
 obtain ⟨fs,hu,hf⟩:=k_un24;obtain ⟨cs,rfl,hsz⟩:=okWide_struct hu hval;rw [k_cl24] at hsz;obtain ⟨fuel,hd⟩:=hd;have hcs:(Value.agg cs).cells.toList=cs.toList:=rfl;rw [hcs] at hd;obtain ⟨xs,n,_,_,_,hl,hel⟩:=DataW.trod_struct hu hd;have hfs:∀i t o:Nat,(#[(22,0),(3,64),(3,65),(3,66),(3,67),(3,68)]:Array (Nat×Nat))[i]?=some (t,o)->∃f:Field,fs[i]?=some f/\f.type=t/\f.offset=o:=by
  intro i t o h;rw [←hf,Array.getElem?_map] at h;cases hh:fs[i]? with
  |none=>rw [hh] at h;cases h
  |some f=>rw [hh] at h;simp only [Option.map_some,Option.some.injEq,Prod.mk.injEq] at h;exact ⟨f,rfl,h.1,h.2⟩
 have hfl:fs.size=6:=by have:=congrArg Array.size hf;simpa using this
 have one:∀i o:Nat,(#[(22,0),(3,64),(3,65),(3,66),(3,67),(3,68)]:Array (Nat×Nat))[i]?=some (3,o)->∃z,cs[o]?=some (.int .i64 z):=by
  intro i o h;obtain ⟨f,h1,h2,h3⟩:=hfs i 3 o h;have:=hel i f h1;have hi:i<xs.length:=by rw [hl,hfl];exact (Array.getElem?_eq_some_iff.1 h).1
  rw [h2,h3,k_cl3,List.getElem?_eq_getElem hi] at this;obtain ⟨z,e1,_⟩:=DataW.trod_int k_un3 this;exact ⟨z,by have:=cell_of_cut e1;simpa using this⟩
 have brd:∀i,i<64->∃z,cs[i]?=some (.int .i64 z):=by
  intro i hi;obtain ⟨f,h1,h2,h3⟩:=hfs 0 22 0 rfl;have:=hel 0 f h1;rw [h2,h3,k_cl22,List.getElem?_eq_getElem (by omega)] at this;obtain ⟨ys,m,_,_,_,hl2,hel2⟩:=DataW.trod_array k_un22 this;have h4:=hel2 i hi;rw [k_cl3,Nat.mul_one,List.getElem?_eq_getElem (by omega)] at h4;obtain ⟨z,e1,_⟩:=DataW.trod_int k_un3 h4;refine ⟨z,?_⟩;have:=cell_of_cut e1;rw [List.getElem?_take_of_lt hi] at this;simpa using this
 have all:∀i,i<69->cs[i]?=some (.int .i64 (rdI cs i)):=by
  intro i hi;have:∃z,cs[i]?=some (.int .i64 z):=by
   by_cases h:i<64
   ·exact brd i h
   rcases (by omega:i=64\/i=65\/i=66\/i=67\/i=68) with rfl|rfl|rfl|rfl|rfl
   ·exact one 1 64 rfl
   ·exact one 2 65 rfl
   ·exact one 3 66 rfl
   ·exact one 4 67 rfl
   exact one 5 68 rfl
  obtain ⟨z,hz⟩:=this;unfold rdI;rw [hz]
 refine ⟨⟨rdI cs,rdI cs 64,rdI cs 65,rdI cs 66,rdI cs 67,rdI cs 68⟩,congrArg Value.agg (Array.ext_getElem? λi=>?_)⟩;by_cases h:i<69
 ·rw [all i h];by_cases h2:i<64
  ·rw [spCells_bd _ h2]
  obtain ⟨j,rfl⟩:∃j,i=64+j:=⟨i-64,by omega⟩;rw [spCells_tail];rcases (by omega:j=0\/j=1\/j=2\/j=3\/j=4) with rfl|rfl|rfl|rfl|rfl<;>rfl
 rw [Array.getElem?_eq_none (by omega),Array.getElem?_eq_none (by rw [spCells_size];omega)]
end Go.Proofs.YtgnhellfhjoaaaaGreatDoor
namespace Go.Proofs.YtgnhellfhjoaaaaGreatDoor
open Go Go.RowKit Go.ChangeShapes Go.WideShapes Go.ChangeAt
set_option maxRecDepth 100000
theorem own:ownKnob Tryz.prog.godebug=none:=by kernel_rfl
theorem laidOut:laidOutB Tryz.prog=true:=by kernel_rfl
theorem read24:Tryz.prog.readableRec 24=true:=by kernel_rfl
theorem row24:24<Tryz.prog.types.size:=of_decide_eq_true (by kernel_rfl)
def posZero:Value:=.agg (Array.replicate 69 (.int .i64 0))
theorem k_un4:Tryz.prog.underlying 4=some .bool:=by kernel_rfl
theorem mirror_lifted(os:Os)(started:os.Started)(H:Type)(enc:TypeId×Value->H):
  ReturnsInHanded {} Tryz.checked os 5 .any (λw args=>(Rows.fnSanMirrorSpec.pre enc Tryz.prog Tryz.f5 [] false w args/\laidMetH Tryz.prog laidAll w)/\sizedMet enc Tryz.prog Tryz.f5 (OpenSpec.ofChange Rows.fnSanMirrorSpec) false w args)
   (Rows.fnSanMirrorSpec.post enc Tryz.prog Tryz.f5 false true false false):=by
 refine returnsInHanded_of_change_and (C:=Tryz.checked) (X:=λw _=>laidMetH Tryz.prog laidAll w) (λ_ _ _ hh h=>h.of_heap hh) own started (by kernel_rfl) Tryz.func5
  (ChangeSpec.witness_shaped (enc:=enc) (C:=Tryz.checked) (os:=os) (X:=λw _=>laidMetH Tryz.prog laidAll w) false (World.laidAll Tryz.prog os laidAll) #[posZero,.int .i64 0,.int .i64 0] 8 (World.laidAll_os _ _ _)
   (World.shaped_of_ZipB (by kernel_rfl) (by kernel_rfl)) (by kernel_rfl) (by kernel_rfl) (by kernel_rfl)
   (by rw [MakeChecks.laidMetH_plain _ _ _ (by kernel_rfl)];exact laidMet_laidAll _ (by kernel_rfl) (by kernel_rfl))) ?_
 intro W base args ds gs before hval0 hW _ _ hL _;have hval:∀(j:Nat) t v,Tryz.f5.params[j]?=some t->args[j]?=some v->Value.okWide Tryz.prog W .any base t v:=hval0;have hW':=hW;obtain ⟨p,q,hA0,hV,rfl,_,_⟩:=hW;have hA:DataW.TrodAll enc Tryz.prog W 0 (λ_=>true) true Tryz.f5.params.toList args.toList ds p:=hA0;rw [Tryz.params5] at hA hval;obtain ⟨v0,v1,v2,d0,d1,d2,p0,p1,p2,rfl,rfl,rfl,h0,h1,h2⟩:=trodAll_three hA;obtain ⟨rfl,rfl⟩:=trodVars_none hV;obtain ⟨x,rfl,rfl,rfl,wx⟩:=open_int k_un3 (hval 1 3 v1 rfl rfl) h1;obtain ⟨y,rfl,rfl,rfl,wy⟩:=open_int k_un3 (hval 2 3 v2 rfl rfl) h2;obtain ⟨P,rfl⟩:=open_pos (hval 0 24 v0 rfl rfl) h0;rw [MakeChecks.laidMetH_plain _ _ _ (by kernel_rfl)] at hL;obtain ⟨c,hG⟩:=laid_glob hL;have hlt:∀x∈p0,x.block<W.heap.size:=λx hx=>by simpa using hW'.lt x (by simp [hx])
 refine (c5 P x y hG).mono λe W' ⟨he,hb⟩=>?_;subst he;exact ⟨_,rfl,_,_,_,[],_,[],hW',trodAll_mk1 (shut_bool k_un4 _),trodAll_mk3 (Below.trod laidOut read24 row24 h0 hb.below hlt) (shut_int k_un3 wx) (shut_int k_un3 wy),rfl,hb.below.frame _,λh=>by cases h⟩
theorem mirror_said:Rows.FnSanMirrorSaid:=
 OpenClaim.holds_of_wide 5 Tryz.f5 rfl rfl rfl rfl rfl rfl rfl ⟨rfl,rfl,rfl,rfl,rfl⟩ rfl rfl rfl rfl rfl (by kernel_rfl) Tryz.func5 (by kernel_rfl)
  (of_decide_eq_true (by kernel_rfl)) (by unfold Func.isWrapper;first|(rw [if_pos (by decide+kernel)];kernel_rfl)|(rw [if_neg (by decide+kernel)];exact ⟨rfl,rfl⟩))
  (λos started H enc _=>mirror_lifted os started H enc)
theorem mirror_card:Rows.FnSanMirrorCardSaid:=
 Claim7.holds_tied_plain_at .later [] [.data,.data,.data,.data,.data,.data,.data,.data,.data,.pinned,.pinned] true (true,"ce2801465da21b391576cf3bcdc9385af78ce6a858cc5da34dd9cf37235d50aa") false mirror_said (fun _ h=>by cases h) (by kernel_rfl) (fun _ h=>by cases h) fnSanMirror_row_tie rfl ⟨rfl,rfl⟩ (by kernel_rfl) rfl
  (fun f fn hf hfn=>by
   obtain rfl:f=5:=Option.some.inj ((show Tryz.prog.funcNamed "pub-fianchetto/laws.FnSanMirror"=some 5 by kernel_rfl).symm.trans hf)|>.symm
   obtain rfl:fn=Tryz.f5:=(Option.some.inj (Tryz.func5.symm.trans hfn)).symm
   exact ⟨by kernel_rfl,fun j t ht=>by
    rw [Tryz.params5] at ht
    have hm:t∈[24,3,3]:=by simpa using Array.mem_of_getElem? ht
    have hall:([24,3,3].all fun u=>!Tryz.prog.wantsStandIn u)=true:=by kernel_rfl
    exact (show Tryz.prog.wantsStandIn t=false by simpa using List.all_eq_true.1 hall t hm)⟩)
  (by kernel_rfl)
#print axioms mirror_card
end Go.Proofs.YtgnhellfhjoaaaaGreatDoor
