/-
  FnSanMirror: what is written and read of a legal move is the same in the position seen from the other side, seen so (a part of the proof).
  Conditions: those of each theorem.
-/
import Derived.Test.YtgnhellfhjoaaaaGreatDoorE01
import Derived.Test.YtgnhellfhjoaaaaGreatDoorE04
import Derived.Lib.ConvBytes
import Derived.Laws.BytesString
import Derived.WalkKit
import Derived.Defers
import Derived.Recover
set_option linter.unusedVariables false
set_option linter.unusedSimpArgs false
namespace Go.Proofs.YtgnhellfhjoaaaaGreatDoor
open Go Go.RowKit
open Go.Proofs.Tryz
set_option maxRecDepth 100000
theorem Mod.of_below'{w0 w w':World}(h0:Mod [] w0 w)(h:Below w0.heap.size w w'):Mod [] w0 w':=
 ⟨h.os.trans h0.os,h.tape.trans h0.tape,h.output.trans h0.output,Nat.le_trans h0.size h.size,λk hk _=>(h.block k hk).trans (h0.block k hk (by simp))⟩
theorem cGrow{w0 w:World}{b:Nat}(n:Nat)(h0:Mod [] w0 w)(hb:At w b (.cells #[.pointer none,.slice none 0 0] 150 (0,0)))(hB:w0.heap.size<=b)(hn:n<=1000):
  Calls prog 112 #[pz b,.int .i64 n] w (λe w'=>∃ao cap,e=.returned (.tuple #[])/\Mod [] w0 w'/\At w' b (.cells #[pz b,.slice ao 0 cap] 150 (0,0))/\Own w' w0.heap.size 5 1 ao 0 cap []):=
 (Tryz.Builder_Grow_fresh w0.heap.size b n w hB hb.e h0.size (by omega)).mono λe w' ⟨he,⟨_,v,hv,hown,_⟩,hbl⟩=>by
  rcases hown.2 with ⟨h1,h2⟩|⟨g,cap,cur,h1,h2⟩
  ·subst h1;exact ⟨none,0,he,h0.of_below' hbl,⟨hv⟩,⟨hown⟩⟩
  ·subst h1;exact ⟨_,cap,he,h0.of_below' hbl,⟨hv⟩,⟨hown⟩⟩
theorem isBuilder{w0 w:World}{b:Nat}{bs:List UInt8}{ao:Option Addr}{cap:Nat}(hb:At w b (.cells #[pz b,.slice ao bs.length cap] 150 (0,0)))(ho:Own w w0.heap.size 5 1 ao bs.length cap (Lib.byteCells bs))(hB:w0.heap.size<=b):
  Lib.IsBuilder 150 5 w0.heap.size b (Lib.byteCells bs) w:=by
 refine .inr ⟨hB,.slice ao bs.length cap,hb.e,by simpa [Lib.byteCells,Own] using ho.ow,λe=>?_⟩;cases ao with
 |none=>cases e
 |some a=>
  have:=Own.sep ho hb rfl a.block (by simp [blk]);simp only [Value.ownBlock,Option.some.injEq] at e;exact this (by simp [e])
theorem cString{w0 w:World}{b n:Nat}{bs:List UInt8}{ao:Option Addr}{cap:Nat}(h0:Mod [] w0 w)(hb:At w b (.cells #[pz b,.slice ao n cap] 150 (0,0)))(ho:Own w w0.heap.size 5 1 ao n cap (Lib.byteCells bs))(hB:w0.heap.size<=b):
  Calls prog 115 #[pz b] w (λe w'=>e=.returned (.string ⟨bs.toArray⟩)/\Mod [] w0 w'):=by
 have hn:n=bs.length:=by have:=ho.len;simp [Lib.byteCells] at this;omega
 subst hn;exact (Tryz.Builder_String_any w0.heap.size b bs w (isBuilder hb ho hB) h0.size).mono λe w' h=>⟨h.1,h0.of_below' (by first|exact h.2.2|exact h.2)⟩
def sqBytes(sq:Int):List UInt8:=[UInt8.ofNat (97+sqFile sq).toNat,UInt8.ofNat (49+sqRank sq).toNat]
def promoU(p:Int):List UInt8:=(promoB p).map λb=>UInt8.ofNat b.toNat
theorem u8_ofNat{x:Int}(h:0<=x/\x<256):(((UInt8.ofNat x.toNat).toNat:Nat):Int)=x:=by
 rw [UInt8.toNat_ofNat'];omega
theorem sq_bytes{sq:Int}(h:0<=sq/\sq<=63):bytesV [97+sqFile sq,49+sqRank sq]=(Lib.byteCells (sqBytes sq)).toArray:=by
 have h1:=file_ok h;have h2:=rank_ok h;simp only [bytesV,Lib.byteCells,sqBytes,List.map_cons,List.map_nil];rw [u8_ofNat (by omega),u8_ofNat (by omega)]
theorem promo_bytes(p:Int):bytesV (promoB p)=(Lib.byteCells (promoU p)).toArray:=by
 unfold promoU promoB;cases (p==1)<;>cases (p==2)<;>cases (p==3)<;>cases (p==4)<;>cases (p==5)<;>rfl
theorem promo_len(p:Int):(promoB p).length=1/\(promoU p).length=1:=by
 unfold promoU promoB;cases (p==1)<;>cases (p==2)<;>cases (p==3)<;>cases (p==4)<;>cases (p==5)<;>exact ⟨rfl,rfl⟩
def uciB(M:Mv):List UInt8:=bif M.promo !=0 then sqBytes M.s1++sqBytes M.s2++promoU M.promo else sqBytes M.s1++sqBytes M.s2
theorem c183{b:Nat}{w:World}(hb:At w b (.cells #[.pointer none,.slice none 0 0] 150 (0,0))):
  CQ 183 [pz b] w (λe w'=>e=.returned (.tuple #[])/\Mod [b] w w'/\At w' b (.cells #[.pointer none,.slice none 0 0] 150 (0,0))):=by
 have v0:Mod [b] w w:=Mod.refl _ _;refine en func183 ntmps183 ?_;refine zw<|yS 3<|reg_store b 0 (.pointer none) none (by kernel_rfl) hb (Nat.le_of_ble_eq_true rfl) rfl ?_;intro w1 hu2;have u3:At w1 b (.cells (#[.pointer none,.slice none 0 0]) 150 (0,0)):=hu2.at_;have v4:=Mod.fresh' v0 hu2.mod (by simp<;>omega);refine ze<|n_then<|w_region<|yS 3<|reg_store b 1 (.slice none 0 0) none (by kernel_rfl) u3 (Nat.le_of_ble_eq_true rfl) rfl ?_;intro w5 hu6;have u7:At w5 b (.cells (#[.pointer none,.slice none 0 0]) 150 (0,0)):=hu6.at_;have v8:=Mod.fresh' v4 hu6.mod (by simp<;>omega);exact ze<|end0 results183 (⟨rfl,v8,u7⟩)
theorem c201{m:Nat}{pos:Value}{M:Mv}{w:World}(hm:At w m (.cells (mvCells pos M) 98 (0,0)))(x:Value)(hr:MvOk M):
  CR 201 [.agg (#[]),x,pz m] w (.string ⟨(uciB M).toArray⟩):=by
 have v0:Mod [] w w:=Mod.refl _ _;refine en func201 ntmps201 ?_;refine zw<|reg_alloc (#[]) 91 (some 3) (by kernel_rfl) ?_;intro b1 w2 hn3;have hb4:=Nat.le_trans v0.size hn3.base;have v5:=hn3.mod;have v7:=zt v0 v5;refine yS 1<|ze<|zn<|reg_alloc (#[.pointer none,.slice none 0 0]) 150 (some 8) (by kernel_rfl) ?_;intro b9 w10 hn11;have hb12:=Nat.le_trans v7.size hn11.base;have v13:=hn11.mod;have v16:=zt v7 v13;have u17:=hn11.at_;refine yS 1<|ze<|zn<|yS 1<|reg_call 183 [pz b9] (some 10) (by kernel_rfl) (c183 u17) ?_;rintro _ w18 ⟨rfl,v19,u20⟩;refine ⟨_,rfl,?_⟩;have v23:=Mod.fresh' v16 v19 (by simp<;>omega);refine ze<|zn<|yS 1<|reg_call 112 [pz b9,.int .i64 5] (some 12) (by kernel_rfl) (cGrow 5 v23 u20 (by omega) (by omega)) ?_;rintro _ w24 ⟨ao26,cap27,rfl,v25,u28,ho29⟩;refine ⟨_,rfl,?_⟩;have u30:=At.on hm v25;refine ze<|zn<|yS 2<|reg_call 58 [pz m] (some 15) (by kernel_rfl) (c58 u30) ?_;rintro _ w31 ⟨rfl,v32⟩;refine ⟨_,rfl,?_⟩;have u34:=At.on u28 v32;have he35:=Own.on ho29 v32;have v36:=zt v25 v32;refine reg_call 204 [.int .i8 M.s1] (some 16) (by kernel_rfl) (c204 M.s1 hr.s1) ?_;rintro _ w37 ⟨q39,rfl,v38,u40,hb41⟩;refine ⟨_,rfl,?_⟩;have hb42:=Nat.le_trans v36.size hb41;have u44:=At.on u34 v38;have he45:=Own.on he35 v38;have v46:=zt v36 v38;have u47:At w37 q39 (.cells (Lib.byteCells (sqBytes M.s1)).toArray 5 (0,0)):=(sq_bytes hr.s1)▸u40;refine reg_call 203 [pz b9,.slice (some ⟨q39,0,none⟩) 2 2] (some 17) (by kernel_rfl) (c203 u44 (bs:=[]) he45 (sqBytes M.s1) u47 (by simp [sqBytes,promo_len]) (by have:=v46.size;omega)) ?_;rintro _ w48 ⟨ao50,cap51,rfl,v49,u52,ho53⟩;refine ⟨_,rfl,?_⟩;have v54:=Mod.fresh' v46 v49 (λy hy=>Or.inr ((List.mem_cons.1 hy).elim (λe=>by omega) (λh=>(Own.lt he45 y h).1)));have u55:=At.on hm v54;refine ze<|zn<|yS 2<|reg_call 59 [pz m] (some 20) (by kernel_rfl) (c59 u55) ?_;rintro _ w56 ⟨rfl,v57⟩;refine ⟨_,rfl,?_⟩;have u59:=At.on u52 v57;have he60:=Own.on ho53 v57;have v61:=zt v54 v57;refine reg_call 204 [.int .i8 M.s2] (some 21) (by kernel_rfl) (c204 M.s2 hr.s2) ?_;rintro _ w62 ⟨q64,rfl,v63,u65,hb66⟩;refine ⟨_,rfl,?_⟩;have hb67:=Nat.le_trans v61.size hb66;have u69:=At.on u59 v63;have he70:=Own.on he60 v63;have v71:=zt v61 v63;have u72:At w62 q64 (.cells (Lib.byteCells (sqBytes M.s2)).toArray 5 (0,0)):=(sq_bytes hr.s2)▸u65;refine reg_call 203 [pz b9,.slice (some ⟨q64,0,none⟩) 2 2] (some 22) (by kernel_rfl) (c203 u69 (bs:=([]++(sqBytes M.s1))) he70 (sqBytes M.s2) u72 (by simp [sqBytes,promo_len]) (by have:=v71.size;omega)) ?_;rintro _ w73 ⟨ao75,cap76,rfl,v74,u77,ho78⟩;refine ⟨_,rfl,?_⟩;have v79:=Mod.fresh' v71 v74 (λy hy=>Or.inr ((List.mem_cons.1 hy).elim (λe=>by omega) (λh=>(Own.lt he70 y h).1)));have u80:=At.on hm v79;refine ze<|n_then<|w_seq<|zw<|yS 1<|reg_call 60 [pz m] (some 24) (by kernel_rfl) (c60 u80) ?_
 rintro _ w81 ⟨rfl,v82⟩;refine ⟨_,rfl,?_⟩;have u83:=At.on u80 v82;have u84:=At.on u77 v82;have he85:=Own.on ho78 v82;have v86:=zt v79 v82;refine yS 1<|ze<|n_then<|w_cond rfl (λhc87=>?_) (λhc87=>?_)
 ·have hpp:1<=M.promo/\M.promo<=5:=by have:=hr.promo;have:=bne_iff_ne.1 hc87;omega
  refine w_region<|yS 2<|reg_call 60 [pz m] (some 28) (by kernel_rfl) (c60 u83) ?_;rintro _ w88 ⟨rfl,v89⟩;refine ⟨_,rfl,?_⟩;have u91:=At.on u84 v89;have he92:=Own.on he85 v89;have v93:=zt v86 v89;refine reg_call 205 [.int .i8 M.promo] (some 29) (by kernel_rfl) (c205 M.promo hpp) ?_;rintro _ w94 ⟨q96,rfl,v95,u97,hb98⟩;refine ⟨_,rfl,?_⟩;have hb99:=Nat.le_trans v93.size hb98;have u101:=At.on u91 v95;have he102:=Own.on he92 v95;have v103:=zt v93 v95;have u104:At w94 q96 (.cells (Lib.byteCells (promoU M.promo)).toArray 5 (0,0)):=(promo_bytes M.promo)▸u97;rw [show (promoB M.promo).length=(promoU M.promo).length from by rw [(promo_len _).1,(promo_len _).2]];refine reg_call 203 [pz b9,.slice (some ⟨q96,0,none⟩) ((promoU M.promo).length) ((promoU M.promo).length)] (some 30) (by kernel_rfl) (c203 u101 (bs:=(([]++(sqBytes M.s1))++(sqBytes M.s2))) he102 (promoU M.promo) u104 (by simp [sqBytes,promo_len]) (by have:=v103.size;omega)) ?_;rintro _ w105 ⟨ao107,cap108,rfl,v106,u109,ho110⟩;refine ⟨_,rfl,?_⟩;have v111:=Mod.fresh' v103 v106 (λy hy=>Or.inr ((List.mem_cons.1 hy).elim (λe=>by omega) (λh=>(Own.lt he102 y h).1)));refine ze<|zn<|yS 1<|reg_call 115 [pz b9] (some 32) (by kernel_rfl) (cString (bs:=((([]++(sqBytes M.s1))++(sqBytes M.s2))++(promoU M.promo))) v111 u109 ho110 (by omega)) ?_;rintro _ w113 ⟨rfl,v114⟩;refine ⟨_,rfl,?_⟩;exact yS 1<|ze<|n_then<|w_ret<|ret1 results201 rfl (⟨by simp only [uciB,hc87,cond_true,cond_false,List.nil_append],v114⟩)
 refine w_skip<|zn<|yS 1<|reg_call 115 [pz b9] (some 32) (by kernel_rfl) (cString (bs:=(([]++(sqBytes M.s1))++(sqBytes M.s2))) v86 u84 he85 (by omega)) ?_;rintro _ w116 ⟨rfl,v117⟩;refine ⟨_,rfl,?_⟩;exact yS 1<|ze<|n_then<|w_ret<|y1 (v:=.string (⟨((([]++(sqBytes M.s1))++(sqBytes M.s2))).toArray⟩)) (⟨by simp only [uciB,hc87,cond_true,cond_false,List.nil_append],v117⟩)
def remL(x:UInt8)(l:List UInt8):List UInt8:=l.filter λb=>b !=x
def remB(x:UInt8)(s:ByteArray):ByteArray:=⟨(remL x s.data.toList).toArray⟩
theorem dlen(s:ByteArray):s.data.toList.length=s.size:=by rw [Array.length_toList];rfl
theorem ext_size(s:ByteArray)(a b:Nat):(s.extract a b).size=((s.data.toList.drop a).take (b-a)).length:=by rw [←dlen,Lib.extract_data]
theorem subAt_one{s:ByteArray}{x:UInt8}{i:Int}(h:0<=i)(h2:i+1<=(s.size:Int)):subAt s ⟨#[x]⟩ i=true↔s.data.toList[i.toNat]?=some x:=by
 have hlt:i.toNat<s.data.toList.length:=by
  have:=dlen s;omega
 unfold subAt;rw [Lib.extract_toList,ByteArray.toList_eq];have e1:i.toNat+(ByteArray.mk #[x]).size-i.toNat=1:=by show i.toNat+1-i.toNat=1;omega
 rw [e1,List.drop_eq_getElem_cons hlt,List.getElem?_eq_getElem hlt];simp
theorem remL_none{x:UInt8}{l:List UInt8}(h:∀i:Nat,i<l.length->l[i]?≠some x):remL x l=l:=by
 unfold remL;rw [List.filter_eq_self];intro b hb;obtain ⟨i,hi,rfl⟩:=List.getElem_of_mem hb;have:=h i hi;rw [List.getElem?_eq_getElem hi] at this;simpa using this
theorem idx_none{s:ByteArray}{x:UInt8}{r:Int}(h:IdxOf s ⟨#[x]⟩ r)(hr:r<0):remL x s.data.toList=s.data.toList:=by
 rcases h with ⟨h0,_⟩|⟨_,h⟩
 ·omega
 refine remL_none λi hi=>?_;have hl:=dlen s;have h1:=h (i:Int) (by omega) (by show (i:Int)+((1:Nat):Int)<=_;omega);have h2:=subAt_one (s:=s) (x:=x) (i:=(i:Int)) (by omega) (by omega);intro e;have:=h2.2 (by simpa using e);rw [h1] at this;cases this
theorem idx_some{s:ByteArray}{x:UInt8}{r:Int}(h:IdxOf s ⟨#[x]⟩ r)(hr:0<=r):r+1<=(s.size:Int)/\remL x s.data.toList=s.data.toList.take r.toNat++remL x (s.data.toList.drop (r.toNat+1)):=by
 rcases h with ⟨_,h1,h2,h3⟩|⟨h0,_⟩
 ·have h1':r+1<=(s.size:Int):=h1;refine ⟨h1',?_⟩;have hl:=dlen s;have hx:=(subAt_one (s:=s) (x:=x) hr h1').1 h2;have hlt:r.toNat<s.data.toList.length:=by omega
  have hd:s.data.toList.drop r.toNat=x::s.data.toList.drop (r.toNat+1):=by
   rw [List.drop_eq_getElem_cons hlt];rw [List.getElem?_eq_getElem hlt] at hx;rw [Option.some.inj hx]
  have ht:remL x (s.data.toList.take r.toNat)=s.data.toList.take r.toNat:=by
   refine remL_none λi hi=>?_;have hi':i<r.toNat:=by simp at hi;omega
   have hf:=h3 (i:Int) (by omega) (by omega);intro e;rw [List.getElem?_take_of_lt hi'] at e;have:=(subAt_one (s:=s) (x:=x) (i:=(i:Int)) (by omega) (by omega)).2 (by simpa using e);rw [hf] at this;cases this
  conv=>lhs;rw [←List.take_append_drop r.toNat s.data.toList]
  unfold remL at*
  rw [List.filter_append,hd,List.filter_cons,ht];simp
 omega
theorem c96{w:World}(s:ByteArray)(x:UInt8)(hs:s.size<=1000):
  CR 96 [.string s,.string (⟨#[x]⟩),.string (⟨#[]⟩)] w (.string (remB x s)):=by
 have v0:Mod [] w w:=Mod.refl _ _;refine en func96 ntmps96 ?_;refine zw<|yS 1<|zx<|yS 1<|zz<|w_seq<|zw<|yS 3<|zz ?_;have hc1:((((⟨#[x]⟩:ByteArray).size:Nat):Int)==0)=false:=rfl;refine w_cond (b:=((((⟨#[x]⟩:ByteArray).size:Nat):Int)==0)) (by kernel_rfl) (λhx=>absurd (hc1.symm.trans hx) (by decide)) (λ_=>?_);refine w_skip<|n_then<|w_block<|w_loop (γ:=ByteArray×List UInt8×Option Addr×Nat) (λq6=>q6.1.size) (λq6=>[(0,.string q6.1),(1,.string (⟨#[x]⟩)),(2,.string (⟨#[]⟩)),(7,.slice q6.2.2.1 q6.2.1.length q6.2.2.2)]) (λ(q6:ByteArray×List UInt8×Option Addr×Nat) w_=>q6.1.size<=s.size/\Mod [] w w_/\Own w_ w.heap.size 5 1 q6.2.2.1 q6.2.1.length q6.2.2.2 (Lib.byteCells q6.2.1)/\q6.2.1++remL x q6.1.data.toList=remL x s.data.toList) (s,[],none,0) (hold_keep [0,1,2,7] (by kernel_rfl)) ⟨Nat.le_refl _,v0,Own.nil _ _ _ _,rfl⟩ ?_;rintro ⟨rest2,out3,ao4,cap5⟩ w7 ⟨hs11,v8,ho9,hx10⟩;replace hs11:rest2.size<=s.size:=hs11;replace ho9:Own w7 w.heap.size 5 1 ao4 out3.length cap5 (Lib.byteCells out3):=ho9;replace hx10:out3++remL x rest2.data.toList=remL x s.data.toList:=hx10;have hs1:rest2.size<=1000:=Nat.le_trans hs11 hs;have hon:out3.length<=1000:=by
  have h1:(out3++remL x rest2.data.toList).length=(remL x s.data.toList).length:=by rw [hx10]
  have h2:(remL x s.data.toList).length<=s.data.toList.length:=List.length_filter_le _ _;have h3:=dlen s;rw [List.length_append] at h1;omega
 refine w_block<|zw<|yS 2<|reg_call 118 [.string rest2,.string (⟨#[x]⟩)] (some 47) (by kernel_rfl) (c118 rest2 (⟨#[x]⟩:ByteArray) (by omega) (by show 1<=1000000;omega)) ?_;rintro _ w12 ⟨r14,rfl,hr15,hi16,v13⟩;refine ⟨_,rfl,?_⟩;have he17:=Own.on ho9 v13;have v18:=zt v8 v13;refine yS 1<|zz<|w_seq<|zw<|yS 2<|zz<|yC (decide (r14<0)) (λhc19=>?_) λhc19=>?_
 ·have dhc19:=of_decide_eq_true hc19;refine zw<|yS 2 ?_;have hz25:=v18.size;refine reg_append_str ao4 out3.length cap5 rest2 5 (some 52) (by kernel_rfl) he17 (by omega) (by omega) ?_;intro ao20 cap21 w22 ho23 v24;have v26:=Mod.fresh' v18 v24 (λy hy=>Or.inr (Own.lt he17 y hy).1);have hsl:=dlen rest2;have ho27:=Own.cast ho23 (xs':=Lib.byteCells (out3++rest2.data.toList)) rfl (by simp only [Lib.strCells,Lib.byteCells,List.map_append]);exact reg_b2s ao20 (out3.length+rest2.size) cap21 (out3++rest2.data.toList) (some 53) 5 (by kernel_rfl) ho27<|yS 1<|zz<|w_ret<|r_then<|r_block<|r_then<|r_block<|y1 (⟨(by unfold remB;rw [←hx10,idx_none hi16 (by omega)]),v26⟩)
 have dhc19:=of_decide_eq_false hc19;refine w_skip<|n_then<|w_seq ?_;have hir:=(idx_some hi16 (by omega)).1;have hx1:(rest2.extract 0 r14.toNat).size<=rest2.size:=by rw [ext_size];have:=dlen rest2;simp only [List.drop_zero,List.length_take];omega
 have hz0:(⟨#[]⟩:ByteArray).size=0:=rfl;have hwr0:IntKind.i64.wrap (r14+(((⟨#[x]⟩:ByteArray).size:Nat):Int))=r14+1:=i64_in' (by show _<=r14+((1:Nat):Int);omega) (by show r14+((1:Nat):Int)<=_;omega);refine w_region<|yO 4 [.prop (0<=r14/\r14<=((rest2.size:Nat):Int))] (zh (by omega)) ?_;have hz33:=v18.size;refine reg_append_str ao4 out3.length cap5 (rest2.extract 0 r14.toNat) 5 (some 58) (by kernel_rfl) he17 (by omega) (by omega) ?_;intro ao28 cap29 w30 ho31 v32;have v34:=Mod.fresh' v18 v32 (λy hy=>Or.inr (Own.lt he17 y hy).1);refine yS 1 ?_;have hz40:=v34.size;refine reg_append_str ao28 (out3.length+(rest2.extract 0 r14.toNat).size) cap29 (⟨#[]⟩:ByteArray) 5 (some 60) (by kernel_rfl) ho31 (by omega) (by omega) ?_;intro ao35 cap36 w37 ho38 v39;have v41:=Mod.fresh' v34 v39 (λy hy=>Or.inr (Own.lt ho31 y hy).1);refine yS 1<|zz<|w_region<|yO 7 [.prop (0<=(IntKind.i64.wrap (r14+(((⟨#[x]⟩:ByteArray).size:Nat):Int)))/\(IntKind.i64.wrap (r14+(((⟨#[x]⟩:ByteArray).size:Nat):Int)))<=((rest2.size:Nat):Int))] (zh (by omega))<|ze<|n_block ?_;obtain ⟨hr1,hq42⟩:=idx_some hi16 (by omega);have hts:(rest2.extract 0 r14.toNat).data.toList=rest2.data.toList.take r14.toNat:=by rw [Lib.extract_data];simp
 have hsx:(rest2.extract 0 r14.toNat).size=(rest2.data.toList.take r14.toNat).length:=by rw [←hts,dlen]
 have hln:((out3.length+(rest2.extract 0 r14.toNat).size)+(⟨#[]⟩:ByteArray).size)=(out3++rest2.data.toList.take r14.toNat).length:=by rw [List.length_append,hsx];rfl
 have ho43:=Own.cast ho38 (xs':=Lib.byteCells (out3++rest2.data.toList.take r14.toNat)) hln (by simp only [Lib.strCells,Lib.byteCells,hts,List.map_append];rw [show ((⟨#[]⟩:ByteArray).data.toList.map λb=>Value.int .u8 b.toNat)=[] from rfl,List.append_nil]);have hdr:((rest2.extract (IntKind.i64.wrap (r14+(((⟨#[x]⟩:ByteArray).size:Nat):Int))).toNat rest2.size)).data.toList=rest2.data.toList.drop (r14.toNat+1):=by rw [Lib.extract_data,hwr0,show (r14+1).toNat=r14.toNat+1 from by omega];apply List.take_of_length_le;rw [List.length_drop,dlen];omega
 have hsd:((rest2.extract (IntKind.i64.wrap (r14+(((⟨#[x]⟩:ByteArray).size:Nat):Int))).toNat rest2.size)).size<rest2.size:=by
  have h1:=dlen ((rest2.extract (IntKind.i64.wrap (r14+(((⟨#[x]⟩:ByteArray).size:Nat):Int))).toNat rest2.size));have h2:=dlen rest2;rw [hdr,List.length_drop] at h1;omega
 rw [hln];exact l_back ((rest2.extract (IntKind.i64.wrap (r14+(((⟨#[x]⟩:ByteArray).size:Nat):Int))).toNat rest2.size),(out3++rest2.data.toList.take r14.toNat),ao35,cap36) [0,1,2,7] (by kernel_rfl) hsd ⟨by dsimp only;omega,v41,ho43,(by dsimp only;rw [hdr,List.append_assoc,←hq42];exact hx10)⟩
theorem remB_size(x:UInt8)(s:ByteArray):(remB x s).size<=s.size:=by
 rw [←dlen,←dlen];show (s.data.toList.filter λb=>b !=x).length<=s.data.toList.length;exact List.length_filter_le _ _
def ncr1(B:Bd)(S:Ps)(M:Mv):ByteArray:=bif (((pieceAt B M.s1)==1)||(M.s1==7))||(M.s2==7) then remB 75 S.castle else S.castle
def ncr2(B:Bd)(S:Ps)(M:Mv):ByteArray:=bif (((pieceAt B M.s1)==1)||(M.s1==0))||(M.s2==0) then remB 81 (ncr1 B S M) else (ncr1 B S M)
def ncr3(B:Bd)(S:Ps)(M:Mv):ByteArray:=bif (((pieceAt B M.s1)==7)||(M.s1==63))||(M.s2==63) then remB 107 (ncr2 B S M) else (ncr2 B S M)
def ncr4(B:Bd)(S:Ps)(M:Mv):ByteArray:=bif (((pieceAt B M.s1)==7)||(M.s1==56))||(M.s2==56) then remB 113 (ncr3 B S M) else (ncr3 B S M)
def ncr(B:Bd)(S:Ps)(M:Mv):ByteArray:=bif (ncr4 B S M).toList==(⟨#[]⟩:ByteArray).toList then ⟨#[45]⟩ else ncr4 B S M
theorem bif_size{c:Bool}{x:UInt8}{s:ByteArray}{n:Nat}(h:s.size<=n):(bif c then remB x s else s).size<=n:=by
 cases c
 ·exact h
 exact Nat.le_trans (remB_size x s) h
theorem ncr1_size{B:Bd}{S:Ps}{M:Mv}{n:Nat}(h:S.castle.size<=n):(ncr1 B S M).size<=n:=bif_size h
theorem ncr2_size{B:Bd}{S:Ps}{M:Mv}{n:Nat}(h:S.castle.size<=n):(ncr2 B S M).size<=n:=bif_size (ncr1_size h)
theorem ncr3_size{B:Bd}{S:Ps}{M:Mv}{n:Nat}(h:S.castle.size<=n):(ncr3 B S M).size<=n:=bif_size (ncr2_size h)
def newEP(B:Bd)(S:Ps)(M:Mv):Int:=
 bif pType (pieceAt B M.s1) !=6 then (-1) else
 bif ((S.turn==1)&&((band (bbSq M.s1) 71776119061217280) !=0))&&((band (bbSq M.s2) 1095216660480) !=0) then IntKind.i8.wrap (M.s2-8) else
 bif ((S.turn==2)&&((band (bbSq M.s1) 65280) !=0))&&((band (bbSq M.s2) 4278190080) !=0) then IntKind.i8.wrap (M.s2+8) else (-1)
def newHalf(B:Bd)(S:Ps)(M:Mv):Int:=bif ((pType (pieceAt B M.s1))==6)||(hasTag M 4) then 0 else IntKind.i64.wrap (S.half+1)
def newFull(S:Ps):Int:=bif S.turn==2 then IntKind.i64.wrap (S.full+1) else S.full
def nextPs(B:Bd)(S:Ps)(M:Mv):Ps:=⟨updB B M,ncr B S M,newHalf B S M,newFull S,otherC S.turn,newEP B S M,hasTag M 16⟩
theorem c71{c:GC}{p b:Nat}{vm:Value}{S:Ps}{w:World}(hp:At w p (.cells (psCells b vm S) 110 (0,0))){B:Bd}(hb:At w b (.cells (bdCells B) 135 (0,0))){m:Nat}{pos:Value}{M:Mv}(hm:At w m (.cells (mvCells pos M) 98 (0,0)))(hG:Glob c w)(hcs:S.castle.size<=1000):
  CR 71 [pz p,pz m] w (.string (ncr B S M)):=by
 refine en func71 ntmps71 ?_;refine zw<|yS 1<|zx<|yL 5 p 1<|zz<|w_seq<|w_qt<|yQo 8 [.cell ⟨p,0,none⟩ (pz b),.cell ⟨m,8,none⟩ (.int .i8 M.s1)] (λ_ hC=>⟨At.cell (At.on hp hC) rfl,At.cell (At.on hm hC) rfl⟩)<|zqk (some 19) (λw_ hC=>c72 (At.on hb hC) (Glob.on hG hC) M.s1)<|yQ 1<|q_ot fun w1 v2=>n_then<|w_cut (γ:=ByteArray) (λg8=>[(1,pz m),(5,.string g8),(6,.int .i8 (pieceAt B M.s1))]) (λg8 w_=>Mod [] w1 w_/\g8=(ncr1 B S M)) ?_ ?_
 ·refine w_cut (γ:=Unit) (λ_=>[(1,pz m),(5,.string S.castle),(6,.int .i8 (pieceAt B M.s1)),(35,.bool ((((pieceAt B M.s1)==1)||(M.s1==7))||(M.s2==7)))]) (λ_ w_=>Mod [] w1 w_) ?_ ?_
  ·refine w_region<|yS 3<|yE 22 (.bool ((pieceAt B M.s1)==1)) ?_;cases hc15:((pieceAt B M.s1)==1)
   ·refine yL 7 m 8<|yE 29 (.bool (M.s1==7)) ?_;cases hc16:(M.s1==7)
    ·exact yL 6 m 9<|ze<|zb () yt
    exact yS 6<|ze<|zb () yt
   exact yS 13<|ze<|zb () yt
  intro _ w12 v13;refine yC ((((pieceAt B M.s1)==1)||(M.s1==7))||(M.s2==7)) (λhc23=>?_) λhc23=>?_
  ·exact w_region<|yS 1<|zk (some 37) (c96 S.castle 75 (by assumption)) fun w24 v25=>yS 1<|ze<|zb (remB 75 S.castle) ⟨yt,(by simp only [ncr1,hc23,cond_true,cond_false])⟩
  exact w_skip<|zb S.castle ⟨yt,(by simp only [ncr1,hc23,cond_true,cond_false])⟩
 rintro _ w9 ⟨v10,rfl⟩;refine w_cut (γ:=ByteArray) (λg37=>[(1,pz m),(5,.string g37),(6,.int .i8 (pieceAt B M.s1))]) (λg37 w_=>Mod [] w9 w_/\g37=(ncr2 B S M)) ?_ ?_
 ·refine w_cut (γ:=Unit) (λ_=>[(1,pz m),(5,.string (ncr1 B S M)),(6,.int .i8 (pieceAt B M.s1)),(53,.bool ((((pieceAt B M.s1)==1)||(M.s1==0))||(M.s2==0)))]) (λ_ w_=>Mod [] w9 w_) ?_ ?_
  ·refine w_region<|yS 3<|yE 40 (.bool ((pieceAt B M.s1)==1)) ?_;cases hc44:((pieceAt B M.s1)==1)
   ·refine yL 7 m 8<|yE 47 (.bool (M.s1==0)) ?_;cases hc45:(M.s1==0)
    ·exact yL 6 m 9<|ze<|zb () yt
    exact yS 6<|ze<|zb () yt
   exact yS 13<|ze<|zb () yt
  intro _ w41 v42;refine yC ((((pieceAt B M.s1)==1)||(M.s1==0))||(M.s2==0)) (λhc52=>?_) λhc52=>?_
  ·have hsz1:(ncr1 B S M).size<=1000:=ncr1_size hcs;exact w_region<|yS 1<|zk (some 55) (c96 (ncr1 B S M) 81 (by assumption)) fun w53 v54=>yS 1<|ze<|zb (remB 81 (ncr1 B S M)) ⟨yt,(by simp only [ncr2,hc52,cond_true,cond_false])⟩
  exact w_skip<|zb (ncr1 B S M) ⟨yt,(by simp only [ncr2,hc52,cond_true,cond_false])⟩
 rintro _ w38 ⟨v39,rfl⟩;refine w_cut (γ:=ByteArray) (λg66=>[(1,pz m),(5,.string g66),(6,.int .i8 (pieceAt B M.s1))]) (λg66 w_=>Mod [] w38 w_/\g66=(ncr3 B S M)) ?_ ?_
 ·refine w_cut (γ:=Unit) (λ_=>[(1,pz m),(5,.string (ncr2 B S M)),(6,.int .i8 (pieceAt B M.s1)),(71,.bool ((((pieceAt B M.s1)==7)||(M.s1==63))||(M.s2==63)))]) (λ_ w_=>Mod [] w38 w_) ?_ ?_
  ·refine w_region<|yS 3<|yE 58 (.bool ((pieceAt B M.s1)==7)) ?_;cases hc73:((pieceAt B M.s1)==7)
   ·refine yL 7 m 8<|yE 65 (.bool (M.s1==63)) ?_;cases hc74:(M.s1==63)
    ·exact yL 6 m 9<|ze<|zb () yt
    exact yS 6<|ze<|zb () yt
   exact yS 13<|ze<|zb () yt
  intro _ w70 v71;refine yC ((((pieceAt B M.s1)==7)||(M.s1==63))||(M.s2==63)) (λhc81=>?_) λhc81=>?_
  ·have hsz2:(ncr2 B S M).size<=1000:=ncr2_size hcs;exact w_region<|yS 1<|zk (some 73) (c96 (ncr2 B S M) 107 (by assumption)) fun w82 v83=>yS 1<|ze<|zb (remB 107 (ncr2 B S M)) ⟨yt,(by simp only [ncr3,hc81,cond_true,cond_false])⟩
  exact w_skip<|zb (ncr2 B S M) ⟨yt,(by simp only [ncr3,hc81,cond_true,cond_false])⟩
 rintro _ w67 ⟨v68,rfl⟩;refine w_cut (γ:=ByteArray) (λg95=>[(5,.string g95)]) (λg95 w_=>Mod [] w67 w_/\g95=(ncr4 B S M)) ?_ ?_
 ·refine w_cut (γ:=Unit) (λ_=>[(5,.string (ncr3 B S M)),(89,.bool ((((pieceAt B M.s1)==7)||(M.s1==56))||(M.s2==56)))]) (λ_ w_=>Mod [] w67 w_) ?_ ?_
  ·refine w_region<|yS 3<|yE 76 (.bool ((pieceAt B M.s1)==7)) ?_;cases hc102:((pieceAt B M.s1)==7)
   ·refine yL 7 m 8<|yE 83 (.bool (M.s1==56)) ?_;cases hc103:(M.s1==56)
    ·exact yL 6 m 9<|ze<|zb () yt
    exact yS 6<|ze<|zb () yt
   exact yS 13<|ze<|zb () yt
  intro _ w99 v100;refine yC ((((pieceAt B M.s1)==7)||(M.s1==56))||(M.s2==56)) (λhc110=>?_) λhc110=>?_
  ·have hsz3:(ncr3 B S M).size<=1000:=ncr3_size hcs;exact w_region<|yS 1<|zk (some 91) (c96 (ncr3 B S M) 113 (by assumption)) fun w111 v112=>yS 1<|ze<|zb (remB 113 (ncr3 B S M)) ⟨yt,(by simp only [ncr4,hc110,cond_true,cond_false])⟩
  exact w_skip<|zb (ncr3 B S M) ⟨yt,(by simp only [ncr4,hc110,cond_true,cond_false])⟩
 rintro _ w96 ⟨v97,rfl⟩;refine w_cut (γ:=ByteArray) (λg124=>[(5,.string g124)]) (λg124 w_=>Mod [] w96 w_/\g124=(ncr B S M)) ?_ ?_
 ·refine zw<|yS 2<|zz<|yC ((ncr4 B S M).toList==(⟨#[]⟩:ByteArray).toList) (λhc128=>?_) λhc128=>?_
  ·exact w_region<|yS 1<|ze<|zb (⟨#[45]⟩) ⟨yt,(by simp only [ncr,hc128,cond_true,cond_false])⟩
  exact w_skip<|zb (ncr4 B S M) ⟨yt,(by simp only [ncr,hc128,cond_true,cond_false])⟩
 rintro _ w125 ⟨v126,rfl⟩;exact zw<|yS 2<|zz<|w_ret<|y1 (⟨rfl,yt⟩)
theorem c76{c:GC}{p b:Nat}{vm:Value}{S:Ps}{w:World}(hp:At w p (.cells (psCells b vm S) 110 (0,0))){B:Bd}(hb:At w b (.cells (bdCells B) 135 (0,0))){m:Nat}{pos:Value}{M:Mv}(hm:At w m (.cells (mvCells pos M) 98 (0,0)))(hG:Glob c w)(hs:0<=M.s1/\M.s1<=63)(hs2:0<=M.s2/\M.s2<=63):
  CR 76 [pz p,pz m] w (.int .i8 (newEP B S M)):=by
 refine en func76 ntmps76 ?_;refine zw<|yS 1<|zz<|w_seq<|w_qt<|yQo 8 [.cell ⟨p,0,none⟩ (pz b),.cell ⟨m,8,none⟩ (.int .i8 M.s1)] (λ_ hC=>⟨At.cell (At.on hp hC) rfl,At.cell (At.on hm hC) rfl⟩)<|zqk (some 14) (λw_ hC=>c72 (At.on hb hC) (Glob.on hG hC) M.s1)<|yQ 1<|q_ot fun w1 v2=>n_then<|w_seq<|zw<|yS 1<|zk (some 16) (c73 (pieceAt B M.s1) w1) fun w8 v9=>yS 1<|zz<|yC ((pType (pieceAt B M.s1)) !=6) (λhc15=>?_) λhc15=>?_
 ·exact zw<|yS 1<|zz<|w_ret<|r_then<|ret1 rfl rfl (⟨ret_int (by simp only [newEP,hc15,cond_true,cond_false]),yt⟩)
 refine w_skip<|n_then<|w_seq<|w_cut (γ:=Unit) (λ_=>[(0,pz p),(1,pz m),(40,.bool (((S.turn==1)&&((band (bbSq M.s1) 71776119061217280) !=0))&&((band (bbSq M.s2) 1095216660480) !=0)))]) (λ_ w_=>Mod [] w8 w_) ?_ ?_
 ·refine w_region<|yL 6 p 5<|yE 23 (.bool (S.turn==1)) ?_;cases hc19:(S.turn==1)
  ·exact yS 17<|ze<|zb () yt
  refine yL 4 m 8<|zk (some 28) (c99 M.s1 w8 (by omega) (by omega)) fun w20 v21=>yS 4<|yE 32 (.bool ((band (bbSq M.s1) 71776119061217280) !=0)) ?_;cases hc27:((band (bbSq M.s1) 71776119061217280) !=0)
  ·exact yS 8<|ze<|zb () yt
  exact yL 4 m 9<|zk (some 37) (c99 M.s2 w20 (by omega) (by omega)) fun w28 v29=>yS 3<|ze<|zb () yt
 intro _ w16 v17;refine yC (((S.turn==1)&&((band (bbSq M.s1) 71776119061217280) !=0))&&((band (bbSq M.s2) 1095216660480) !=0)) (λhc40=>?_) λhc40=>?_
 ·exact zw<|yL 6 m 9<|zz<|w_ret<|r_then<|y1 (v:=.int .i8 (IntKind.i8.wrap (M.s2-8))) (⟨ret_int (by simp only [newEP,hc15,hc40,cond_true,cond_false]),yt⟩)
 refine w_cut (γ:=Unit) (λ_=>[(1,pz m),(68,.bool (((S.turn==2)&&((band (bbSq M.s1) 65280) !=0))&&((band (bbSq M.s2) 4278190080) !=0)))]) (λ_ w_=>Mod [] w16 w_) ?_ ?_
 ·refine w_region<|yL 6 p 5<|yE 51 (.bool (S.turn==2)) ?_;cases hc44:(S.turn==2)
  ·exact yS 17<|ze<|zb () yt
  refine yL 4 m 8<|zk (some 56) (c99 M.s1 w16 (by omega) (by omega)) fun w45 v46=>yS 4<|yE 60 (.bool ((band (bbSq M.s1) 65280) !=0)) ?_;cases hc52:((band (bbSq M.s1) 65280) !=0)
  ·exact yS 8<|ze<|zb () yt
  exact yL 4 m 9<|zk (some 65) (c99 M.s2 w45 (by omega) (by omega)) fun w53 v54=>yS 3<|ze<|zb () yt
 intro _ w41 v42;refine yC (((S.turn==2)&&((band (bbSq M.s1) 65280) !=0))&&((band (bbSq M.s2) 4278190080) !=0)) (λhc65=>?_) λhc65=>?_
 ·exact zw<|yL 6 m 9<|zz<|w_ret<|r_then<|y1 (v:=.int .i8 (IntKind.i8.wrap (M.s2+8))) (⟨ret_int (by simp only [newEP,hc15,hc40,hc65,cond_true,cond_false]),yt⟩)
 exact w_skip<|zn<|yS 1<|zz<|w_ret<|y1 (v:=.int .i8 (-1)) (⟨ret_int (by simp only [newEP,hc15,hc40,hc65,cond_true,cond_false]),yt⟩)
theorem c35{c:GC}{p b:Nat}{vm:Value}{S:Ps}{w:World}(hp:At w p (.cells (psCells b vm S) 110 (0,0))){B:Bd}(hb:At w b (.cells (bdCells B) 135 (0,0))){m:Nat}{pos:Value}{M:Mv}(hm:At w m (.cells (mvCells pos M) 98 (0,0)))(hG:Glob c w)(hs:0<=M.s1/\M.s1<=63)(hs2:0<=M.s2/\M.s2<=63)(hp1:1<=pieceAt B M.s1/\pieceAt B M.s1<=12)(hcol:pColor (pieceAt B M.s1)=1\/pColor (pieceAt B M.s1)=2)(hpro:M.promo≠0->1<=M.promo/\M.promo<=6)(hnew:M.promo≠0->1<=newP M.promo (pColor (pieceAt B M.s1))/\newP M.promo (pColor (pieceAt B M.s1))<=12)(hcs:S.castle.size<=1000):
  CQ 35 [pz p,pz m] w (λe w'=>∃p' b',e=.returned (.pointer (some ⟨p',0,none⟩))/\Mod [] w w'/\At w' p' (.cells (psCells b' (.slice none 0 0) (nextPs B S M)) 110 (0,0))/\At w' b' (.cells (bdCells (updB B M)) 135 (0,0))/\w.heap.size<=p'/\w.heap.size<=b'):=by
 refine en func35 ntmps35 ?_;refine zw<|yS 1<|zx<|yL 5 p 4<|zz<|w_cut (γ:=Int) (λg1=>[(0,pz p),(1,pz m),(5,.int .i64 g1)]) (λg1 w_=>Mod [] w w_/\g1=(newFull S)) ?_ ?_
 ·refine zw<|yL 5 p 5<|zz<|yC (S.turn==2) (λhc5=>?_) λhc5=>?_
  ·have dhc5:=eq_of_beq hc5;exact w_region<|yS 3<|ze<|zb (IntKind.i64.wrap (S.full+1)) ⟨yt,(by simp only [newFull,hc5,cond_true,cond_false])⟩
  have dhc5:=ne_of_beq_false hc5;exact w_skip<|zb S.full ⟨yt,(by simp only [newFull,hc5,cond_true,cond_false])⟩
 rintro _ w2 ⟨v3,rfl⟩;refine w_seq<|zw<|yS 2<|zz<|yF<|w_skip<|zn<|yS 2<|zk (some 47) (c71 (S:=S) (M:=M) (yA w2 p) (yA w2 b) (yA w2 m) (yG w2) hcs) fun w11 v12=>yS 1<|zz<|w_seq<|w_qt<|yQo 8 [.cell ⟨p,0,none⟩ (pz b),.cell ⟨m,8,none⟩ (.int .i8 M.s1)] (λ_ hC=>⟨At.cell (At.on ya hC) rfl,At.cell (At.on ya hC) rfl⟩)<|zqk (some 56) (λw_ hC=>c72 (At.on (yA w11 b) hC) (Glob.on (yG w11) hC) M.s1)<|yQ 1<|q_ot fun w18 v19=>zn<|yL 5 p 3<|zz<|w_cut (γ:=Int) (λg25=>[(0,pz p),(1,pz m),(5,.int .i64 (newFull S)),(6,.string (ncr B S M)),(8,.int .i64 g25)]) (λg25 w_=>Mod [] w18 w_/\g25=(newHalf B S M)) ?_ ?_
 ·refine w_cut (γ:=Unit) (λ_=>[(0,pz p),(1,pz m),(5,.int .i64 (newFull S)),(6,.string (ncr B S M)),(8,.int .i64 S.half),(67,.bool (((pType (pieceAt B M.s1))==6)||(hasTag M 4)))]) (λ_ w_=>Mod [] w18 w_) ?_ ?_
  ·refine w_region<|yS 1<|zk (some 62) (c73 (pieceAt B M.s1) w18) fun w32 v33=>yS 2<|yE 64 (.bool ((pType (pieceAt B M.s1))==6)) ?_;cases hc40:((pType (pieceAt B M.s1))==6)
   ·exact yS 1<|zk (some 66) (c74 (yA w32 m) 4) fun w41 v42=>yS 1<|ze<|zb () yt
   exact yS 3<|ze<|zb () yt
  intro _ w29 v30;refine yC (((pType (pieceAt B M.s1))==6)||(hasTag M 4)) (λhc55=>?_) λhc55=>?_
  ·exact w_region<|yS 1<|ze<|zb 0 ⟨yt,(by simp only [newHalf,hc55,cond_true,cond_false])⟩
  exact w_region<|yS 3<|ze<|zb (IntKind.i64.wrap (S.half+1)) ⟨yt,(by simp only [newHalf,hc55,cond_true,cond_false])⟩
 rintro _ w26 ⟨v27,rfl⟩;have v60:=zt (yM w w18) v27;refine zw<|yL 4 p 0<|zC (some 74) (c69 (yA w26 b)) ?_;rintro _ w61 ⟨b63,rfl,v62,u64,hb65⟩;refine ⟨_,rfl,?_⟩;have hb66:=Nat.le_trans v60.size hb65;have hb67:=Nat.le_trans (Glob.size) hb65;have ne68:b≠b63:=(by have:=At.lt (yA w26 b);omega);have u69:=At.on (yA w26 p) v62;have u70:=At.on (yA w26 b) v62;have u71:=At.on (yA w26 m) v62;have z72:=Glob.on (yG w26) v62;have v73:=zt v60 v62;refine yS 1<|zx<|yS 2<|zC (some 77) (c75 (M:=M) u64 u71 z72 (by assumption) (by assumption) (by assumption) (by assumption) (by assumption) (by assumption) (by omega)) ?_;rintro _ w74 ⟨rfl,v75,u76⟩;refine ⟨_,rfl,?_⟩;have u77:=At.keep u69 v75 (not_mem1 (At.ne u69 u64 rfl));have u78:=At.keep u70 v75 (not_mem1 ne68);have u79:=At.keep u71 v75 (not_mem1 (At.ne u71 u64 rfl));have z80:=Glob.keep z72 v75 (by simp<;>omega);have v81:=Mod.fresh' v73 v75 (by simp<;>omega);refine zx<|yL 5 p 5<|zk (some 83) (c70 S.turn w74) ?_;intro w82 v83;have u84:=At.on u77 v83;have u85:=At.on u78 v83;have u86:=At.on u79 v83;have u87:=At.on u76 v83;have z88:=Glob.on z80 v83;have v89:=zt v81 v83;refine yS 3<|zk (some 87) (c76 (S:=S) (M:=M) u84 u85 u86 z88 hs hs2) ?_;intro w90 v91;have u92:=At.on u84 v91;have u94:=At.on u86 v91;have u95:=At.on u87 v91;have z96:=Glob.on z88 v91;have v97:=zt v89 v91;refine yS 3<|zk (some 91) (c74 u94 16) ?_;intro w98 v99;have u100:=At.on u92 v99;have u103:=At.on u95 v99;have z104:=Glob.on z96 v99;have v105:=zt v97 v99;refine yS 1<|zA (psCells b63 (.slice none 0 0) (nextPs B S M)) 110 (some 93) ?_;intro b106 w107 hn108;have ne109:p≠b106:=hn108.ne u100;have hb110:c.base<=b106:=Glob.lt z104 hn108;have hb111:=Nat.le_trans v105.size hn108.base;have v112:=hn108.mod;have u116:=At.on u103 v112;have v118:=zt v105 v112;have u119:=hn108.at_;exact yS 1<|zz<|w_ret<|y1 (⟨b106,b63,rfl,v118,u119,u116,by omega,by omega⟩)
theorem wrapU8{x:Int}(h:0<=x)(h':x<=255):IntKind.u8.wrap x=x:=by
 rw [IntKind.wrap_u8'];omega
theorem sq_rank{a:Int}(h:0<=a/\a<=63):sqRank a=a/8:=by
 unfold sqRank;rw [Int.tdiv_eq_ediv_of_nonneg h.1];exact i8_in' (by omega) (by omega)
theorem sq_file{a:Int}(h:0<=a/\a<=63):sqFile a=a%8:=Int.tmod_eq_emod_of_nonneg h.1
theorem sq_decode{a x y:Int}(h:0<=a/\a<=63)(hx:x=97+sqFile a)(hy:y=49+sqRank a):
  IntKind.i8.wrap (IntKind.u8.wrap (IntKind.u8.wrap (x-97)+IntKind.u8.wrap (IntKind.u8.wrap (y-49)*8)))=a:=by
 rw [sq_file h] at hx;rw [sq_rank h] at hy;subst hx;subst hy;rw [wrapU8 (x:=97+a%8-97) (by omega) (by omega),wrapU8 (x:=49+a/8-49) (by omega) (by omega),wrapU8 (x:=(49+a/8-49)*8) (by omega) (by omega),wrapU8 (by omega) (by omega),i8_in' (by omega) (by omega)];omega
noncomputable def zero237:Array Value:=match prog.info? 237 with|some i=>(match i.zero with|some z=>z.cells|none=>#[])|none=>#[]
noncomputable def promoArr:Array Value:=match prog.built 237 [(110,.int .i8 5),(98,.int .i8 4),(114,.int .i8 3),(113,.int .i8 2)] with|some c=>c|none=>#[]
def PromoCh(x pr:Int):Prop:=(x=113/\pr=2)\/(x=114/\pr=3)\/(x=98/\pr=4)\/(x=110/\pr=5)
theorem promo_size:promoArr.size=256:=by kernel_rfl
theorem promo_cells:storeRow zero237 0 promoArr.toList=promoArr:=by kernel_rfl
theorem promo_one:oneCells promoArr.toList=true:=by kernel_rfl
theorem promo_cell{x pr:Int}(h:PromoCh x pr):promoArr[0+x.toNat*1]?=some (.int .i8 pr):=by
 rcases h with ⟨rfl,rfl⟩|⟨rfl,rfl⟩|⟨rfl,rfl⟩|⟨rfl,rfl⟩<;>kernel_rfl
theorem c200{c:GC}{p b:Nat}{vm:Value}{S:Ps}{w:World}(hp:At w p (.cells (psCells b vm S) 110 (0,0))){B:Bd}(hbd:At w b (.cells (bdCells B) 135 (0,0)))(hG:Glob c w)(hpre:MvPre B S)(s:ByteArray)(a b' pr:Int)(ha:0<=a/\a<=63)(hb:0<=b'/\b'<=63)(hpr:0<=pr/\pr<=5)(hsz:(pr=0/\s.size=4)\/(pr≠0/\s.size=5))(hb0:byteAt s (0:Int)=97+sqFile a)(hb1:byteAt s (1:Int)=49+sqRank a)(hb2:byteAt s (2:Int)=97+sqFile b')(hb3:byteAt s (3:Int)=49+sqRank b')(hch:pr≠0->PromoCh (byteAt s (4:Int)) pr)(hp1:1<=pieceAt B a/\pieceAt B a<=12)(hcs:S.castle.size<=1000):
  CQ 200 [.agg (#[]),pz p,.string s] w (λe w'=>∃q pos t,e=.returned (.tuple #[pz q,.nilIface])/\Mod [] w w'/\At w' q (.cells (mvCells pos ⟨t,a,b',pr⟩) 98 (0,0))/\w.heap.size<=q):=by
 have v0:Mod [] w w:=Mod.refl _ _;have hf1:=file_ok ha;have hr1:=rank_ok ha;have hf2:=file_ok hb;have hr2:=rank_ok hb;have hb':=hb;refine en func200 ntmps200 ?_;refine zw<|reg_alloc (#[]) 91 (some 3) (by kernel_rfl) ?_;intro b1 w2 hn3;have hb4:c.base<=b1:=Glob.lt hG hn3;have hb5:=Nat.le_trans v0.size hn3.base;have v6:=hn3.mod;have hf7:=At.on hp v6;have hf8:=At.on hbd v6;have z9:=Glob.on hG v6;have v10:=zt v0 v6;have hf11:=hn3.at_;refine yS 2<|zx<|yS 3<|zz<|w_seq<|w_cut (γ:=Unit) (λ_=>[(1,pz p),(2,.string s),(8,.int .i64 ((s.size:Nat):Int)),(22,.bool ((decide (((s.size:Nat):Int)<4))||(decide (((s.size:Nat):Int)>5))))]) (λ_ w_=>Mod [] w2 w_) ?_ ?_
 ·have v14:Mod [] w2 w2:=Mod.refl _ _;refine w_region<|yS 3<|yE 19 (.bool (decide (((s.size:Nat):Int)<(4:Int)))) ?_;cases hc15:(decide (((s.size:Nat):Int)<(4:Int)))
  ·exact yS 3<|ze<|zb () v14
  exact yS 3<|ze<|zb () v14
 intro _ w12 v13;have hf16:=At.on hf7 v13;have hf17:=At.on hf8 v13;have hf18:=At.on hf11 v13;have z19:=Glob.on z9 v13;have v20:=zt v10 v13;have hc21:((decide (((s.size:Nat):Int)<4))||(decide (((s.size:Nat):Int)>5)))=false:=(by simp only [Bool.or_eq_false_iff,decide_eq_false_iff_not];omega);refine w_cond (b:=((decide (((s.size:Nat):Int)<4))||(decide (((s.size:Nat):Int)>5)))) (by kernel_rfl) (λhx=>absurd (hc21.symm.trans hx) (by decide)) (λ_=>?_);refine w_skip<|n_then<|w_seq<|zw<|yS 1<|zz<|w_block<|w_loop (γ:=Int) (λq22=>(2-q22).toNat) (λq22=>[(1,pz p),(2,.string s),(8,.int .i64 ((s.size:Nat):Int)),(9,.int .i64 q22)]) (λq22 w_=>Mod [] w12 w_/\(q22=0\/q22=2)) 0 (hold_keep [1,2,8,9] (by kernel_rfl)) ⟨Mod.refl _ _,.inl rfl⟩ ?_;rintro q22 w23 ⟨v24,rfl|rfl⟩
 ·have hf25:=At.on hf16 v24;have hf26:=At.on hf17 v24;have hf27:=At.on hf18 v24;have z28:=Glob.on z19 v24;have v29:=zt v20 v24;refine w_seq<|zw<|yS 2<|zz<|yT<|w_skip<|n_then<|w_seq<|w_block<|w_seq<|w_cut (γ:=Unit) (λ_=>[(1,pz p),(2,.string s),(8,.int .i64 ((s.size:Nat):Int)),(9,.int .i64 0),(39,.bool ((decide ((byteAt s 0)<97))||(decide ((byteAt s 0)>104))))]) (λ_ w_=>Mod [] w23 w_) ?_ ?_
  ·have v32:Mod [] w23 w23:=Mod.refl _ _;refine w_region<|yV 6 [.prop (0<=(0:Int)/\∃b,s[(0:Int).toNat]?=some b/\(byteAt s 0)=b.toNat)] [.int .u8 (byteAt s 0)] (byteAt_ok (by omega) (by omega))<|yE 33 (.bool (decide ((byteAt s (0:Int))<(97:Int)))) ?_;cases hc33:(decide ((byteAt s (0:Int))<(97:Int)))
   ·exact yV 6 [.prop (0<=(0:Int)/\∃b,s[(0:Int).toNat]?=some b/\(byteAt s 0)=b.toNat)] [.int .u8 (byteAt s 0)] (byteAt_ok (by omega) (by omega))<|ze<|zb () v32
   exact yS 6<|ze<|zb () v32
  intro _ w30 v31;have hf34:=At.on hf25 v31;have hf35:=At.on hf26 v31;have hf36:=At.on hf27 v31;have z37:=Glob.on z28 v31;have v38:=zt v29 v31;have v39:=zt v24 v31;have hc40:((decide ((byteAt s 0)<97))||(decide ((byteAt s 0)>104)))=false:=(by simp only [Bool.or_eq_false_iff,decide_eq_false_iff_not];omega);refine w_cond (b:=((decide ((byteAt s 0)<97))||(decide ((byteAt s 0)>104)))) (by kernel_rfl) (λhx=>absurd (hc40.symm.trans hx) (by decide)) (λ_=>?_);refine w_skip<|n_then<|w_cut (γ:=Unit) (λ_=>[(1,pz p),(2,.string s),(8,.int .i64 ((s.size:Nat):Int)),(9,.int .i64 0),(52,.bool ((decide ((byteAt s 1)<49))||(decide ((byteAt s 1)>56))))]) (λ_ w_=>Mod [] w30 w_) ?_ ?_
  ·have v43:Mod [] w30 w30:=Mod.refl _ _;refine w_region<|yV 6 [.prop (0<=(1:Int)/\∃b,s[(1:Int).toNat]?=some b/\(byteAt s 1)=b.toNat)] [.int .u8 (byteAt s 1)] (byteAt_ok (by omega) (by omega))<|yE 46 (.bool (decide ((byteAt s (1:Int))<(49:Int)))) ?_;cases hc44:(decide ((byteAt s (1:Int))<(49:Int)))
   ·exact yV 6 [.prop (0<=(1:Int)/\∃b,s[(1:Int).toNat]?=some b/\(byteAt s 1)=b.toNat)] [.int .u8 (byteAt s 1)] (byteAt_ok (by omega) (by omega))<|ze<|zb () v43
   exact yS 6<|ze<|zb () v43
  intro _ w41 v42;have hf45:=At.on hf34 v42;have hf46:=At.on hf35 v42;have hf47:=At.on hf36 v42;have z48:=Glob.on z37 v42;have v49:=zt v38 v42;have v50:=zt v39 v42;have hc51:((decide ((byteAt s 1)<49))||(decide ((byteAt s 1)>56)))=false:=(by simp only [Bool.or_eq_false_iff,decide_eq_false_iff_not];omega);refine w_cond (b:=((decide ((byteAt s 1)<49))||(decide ((byteAt s 1)>56)))) (by kernel_rfl) (λhx=>absurd (hc51.symm.trans hx) (by decide)) (λ_=>?_);exact w_skip<|n_block<|n_then<|w_region<|yS 3<|ze<|l_back 2 [1,2,8,9] (by kernel_rfl) (by decide) ⟨v50,.inr rfl⟩
 have hf52:=At.on hf16 v24;have hf53:=At.on hf17 v24;have hf54:=At.on hf18 v24;have z55:=Glob.on z19 v24;have v56:=zt v20 v24;refine w_seq<|zw<|yS 2<|zz<|yF<|w_exit<|x_then<|x_then<|x_hit<|n_then<|w_seq<|w_quiet (by kernel_rfl) (by kernel_rfl)<|zqv 10 [rz 1 p,(2,.string s),iz 8 ((s.size:Nat):Int),(10,.int .i8 (IntKind.i8.wrap (IntKind.u8.wrap ((IntKind.u8.wrap ((byteAt s 0)-97))+(IntKind.u8.wrap ((IntKind.u8.wrap ((byteAt s 1)-49))*8))))))] [.prop (0<=(0:Int)/\∃b,s[(0:Int).toNat]?=some b/\(byteAt s 0)=b.toNat),.prop (0<=(1:Int)/\∃b,s[(1:Int).toNat]?=some b/\(byteAt s 1)=b.toNat)] [.int .u8 (byteAt s 0),.int .u8 (byteAt s 1)] (λ_ hC=>⟨(byteAt_ok (by omega) (by omega)),(byteAt_ok (by omega) (by omega))⟩)<|q_out (by kernel_rfl) ?_;intro w57 v58;have hf59:=At.on hf52 v58;have hf60:=At.on hf53 v58;have hf61:=At.on hf54 v58;have z62:=Glob.on z55 v58;have v63:=zt v56 v58;rw [(show ((IntKind.i8.wrap (IntKind.u8.wrap ((IntKind.u8.wrap ((byteAt s (0:Int))-(97:Int)))+(IntKind.u8.wrap ((IntKind.u8.wrap ((byteAt s (1:Int))-(49:Int)))*(8:Int)))))):Int)=a from sq_decode ha hb0 hb1)];refine n_then<|w_seq<|w_quiet (by kernel_rfl) (by kernel_rfl)<|zqv 10 [rz 1 p,(2,.string s),iz 8 ((s.size:Nat):Int),(10,.int .i8 a),(11,.int .i8 (IntKind.i8.wrap (IntKind.u8.wrap ((IntKind.u8.wrap ((byteAt s 2)-97))+(IntKind.u8.wrap ((IntKind.u8.wrap ((byteAt s 3)-49))*8))))))] [.prop (0<=(2:Int)/\∃b,s[(2:Int).toNat]?=some b/\(byteAt s 2)=b.toNat),.prop (0<=(3:Int)/\∃b,s[(3:Int).toNat]?=some b/\(byteAt s 3)=b.toNat)] [.int .u8 (byteAt s 2),.int .u8 (byteAt s 3)] (λ_ hC=>⟨(byteAt_ok (by omega) (by omega)),(byteAt_ok (by omega) (by omega))⟩)<|q_out (by kernel_rfl) ?_;intro w64 v65;have hf66:=At.on hf59 v65;have hf67:=At.on hf60 v65;have hf68:=At.on hf61 v65;have z69:=Glob.on z62 v65;have v70:=zt v63 v65;rw [(show ((IntKind.i8.wrap (IntKind.u8.wrap ((IntKind.u8.wrap ((byteAt s (2:Int))-(97:Int)))+(IntKind.u8.wrap ((IntKind.u8.wrap ((byteAt s (3:Int))-(49:Int)))*(8:Int)))))):Int)=b' from sq_decode hb' hb2 hb3)];refine n_then<|w_seq<|w_cut (γ:=Unit) (λ_=>[(1,pz p),(2,.string s),(8,.int .i64 ((s.size:Nat):Int)),(10,.int .i8 a),(11,.int .i8 b'),(85,.bool ((((decide (a<0))||(decide (a>63)))||(decide (b'<0)))||(decide (b'>63))))]) (λ_ w_=>Mod [] w64 w_) ?_ ?_
 ·have v73:Mod [] w64 w64:=Mod.refl _ _;refine w_region<|yS 3<|yE 74 (.bool (decide (a<(0:Int)))) ?_;cases hc74:(decide (a<(0:Int)))
  ·refine yS 4<|yE 78 (.bool (decide (a>(63:Int)))) ?_;cases hc75:(decide (a>(63:Int)))
   ·refine yS 4<|yE 82 (.bool (decide (b'<(0:Int)))) ?_;cases hc76:(decide (b'<(0:Int)))
    ·exact yS 3<|ze<|zb () v73
    exact yS 3<|ze<|zb () v73
   exact yS 7<|ze<|zb () v73
  exact yS 11<|ze<|zb () v73
 intro _ w71 v72;have hf77:=At.on hf66 v72;have hf78:=At.on hf67 v72;have hf79:=At.on hf68 v72;have z80:=Glob.on z69 v72;have v81:=zt v70 v72;have hc82:((((decide (a<0))||(decide (a>63)))||(decide (b'<0)))||(decide (b'>63)))=false:=(by simp only [Bool.or_eq_false_iff,decide_eq_false_iff_not];omega);refine w_cond (b:=((((decide (a<0))||(decide (a>63)))||(decide (b'<0)))||(decide (b'>63)))) (by kernel_rfl) (λhx=>absurd (hc82.symm.trans hx) (by decide)) (λ_=>?_);refine w_skip<|zn<|yS 3<|reg_alloc (mvCells (.pointer none) (⟨0,0,0,0⟩:Mv)) 98 (some 12) (by kernel_rfl) ?_;intro b83 w84 hn85;have hb86:c.base<=b83:=Glob.lt z80 hn85;have hb87:=Nat.le_trans v81.size hn85.base;have v88:=hn85.mod;have hf89:=At.on hf77 v88;have hf90:=At.on hf78 v88;have hf91:=At.on hf79 v88;have z92:=Glob.on z80 v88;have v93:=zt v81 v88;have hf94:=hn85.at_;refine reg_store b83 0 (.agg #[.pointer none,.pointer none,.string (⟨#[]⟩),.string (⟨#[]⟩),.map none,.slice none 0 0,.int .u64 0,.int .u16 0,.int .i8 a,.int .i8 b',.int .i8 0]) none (by kernel_rfl) hf94 (Nat.le_of_ble_eq_true rfl) rfl ?_;intro w95 hu96;have hf97:At w95 b83 (.cells (mvCells (.pointer none) ⟨0,a,b',0⟩) 98 (0,0)):=hu96.at_;have hf98:=At.keep hf89 hu96.mod (not_mem1 (At.ne hf89 hf94 rfl));have hf99:=At.keep hf90 hu96.mod (not_mem1 (At.ne hf90 hf94 rfl));have hf100:=At.keep hf91 hu96.mod (not_mem1 (At.ne hf91 hf94 rfl));have z101:=Glob.keep z92 hu96.mod (by simp<;>omega);have v102:=Mod.fresh' v93 hu96.mod (by simp<;>omega);refine zz<|w_seq<|zw<|yS 2<|zz<|yC (((s.size:Nat):Int)==5) (λhc103=>?_) λhc103=>?_
 ·have dhc103:=eq_of_beq hc103;have hx4:0<=byteAt s 4/\byteAt s (4:Int)<256:=by have:=hch (by omega);unfold PromoCh at this;omega
  refine zw<|yS 1<|reg_alloc zero237 237 (some 13) (by kernel_rfl) ?_;intro b104 w105 hn106;have hb107:c.base<=b104:=Glob.lt z101 hn106;have hb108:=Nat.le_trans v102.size hn106.base;have v109:=hn106.mod;have hf110:=At.on hf98 v109;have hf111:=At.on hf99 v109;have hf112:=At.on hf100 v109;have hf113:=At.on hf97 v109;have z114:=Glob.on z101 v109;have v115:=zt v102 v109;have hf116:=hn106.at_;refine reg_store b104 0 (.agg promoArr) none (by kernel_rfl) hf116 (by rw [show (Value.agg promoArr).cells.size=256 from promo_size,show zero237.size=256 from by kernel_rfl];omega) promo_one ?_;intro w117 hu118;have hf119:At w117 b104 (.cells promoArr 237 (0,0)):=(promo_cells▸hu118.at_);have hf120:=At.keep hf110 hu118.mod (not_mem1 (At.ne hf110 hf116 rfl));have hf121:=At.keep hf111 hu118.mod (not_mem1 (At.ne hf111 hf116 rfl));have hf122:=At.keep hf112 hu118.mod (not_mem1 (At.ne hf112 hf116 rfl));have hf123:=At.keep hf113 hu118.mod (not_mem1 (At.ne hf113 hf116 rfl));have z124:=Glob.keep z114 hu118.mod (by simp<;>omega);have v125:=Mod.fresh' v115 hu118.mod (by simp<;>omega);refine zx<|yV 5 [.prop (0<=(4:Int)/\∃b,s[(4:Int).toNat]?=some b/\(byteAt s 4)=b.toNat),.prop (0<=(byteAt s 4)/\(byteAt s 4)<((256:Nat):Int)),.cell ⟨b104,(0+(byteAt s 4).toNat*1),none⟩ (.int .i8 pr)] [.int .u8 (byteAt s 4),.int .i8 pr] (⟨(byteAt_ok (by omega) (by omega)),(zh (by omega)),At.cell hf119 (promo_cell (hch (by omega)))⟩)<|zz<|w_seq<|zw<|yS 2<|zz ?_;have hc126:(pr==0)=false:=(beq_false_of_ne (by omega));refine w_cond (b:=(pr==0)) (by kernel_rfl) (λhx=>absurd (hc126.symm.trans hx) (by decide)) (λ_=>?_);refine w_skip<|n_then<|w_region<|yS 2<|reg_store b83 10 (.int .i8 pr) none (by kernel_rfl) hf123 (Nat.le_of_ble_eq_true rfl) rfl ?_;intro w127 hu128;have hf129:At w127 b83 (.cells (mvCells (.pointer none) ⟨0,a,b',pr⟩) 98 (0,0)):=hu128.at_;have hf130:=At.keep hf120 hu128.mod (not_mem1 (At.ne hf120 hf123 rfl));have hf131:=At.keep hf121 hu128.mod (not_mem1 (At.ne hf121 hf123 rfl));have hf132:=At.keep hf122 hu128.mod (not_mem1 (At.ne hf122 hf123 rfl));have hf133:=At.keep hf119 hu128.mod (not_mem1 (At.ne hf119 hf123 rfl));have z134:=Glob.keep z124 hu128.mod (by simp<;>omega);have v135:=Mod.fresh' v125 hu128.mod (by simp<;>omega);refine zz<|w_seq<|zw<|yS 2<|zz<|yF<|w_skip<|zn<|yS 1<|reg_call 135 [pz b83,pz p] (some 105) (by kernel_rfl) (c135 (M:=(⟨0,a,b',pr⟩:Mv)) hf130 hf131 hf129 z134 ha hb hp1 (pColor_or hp1) (λhz=>(show 1<=pr/\pr<=6 from (by have:pr≠0:=hz;omega))) (λhz=>newP_ok (show 1<=pr/\pr<=6 from (by have:pr≠0:=hz;omega)) (pColor_or hp1)) (by omega) hpre.kings hpre.turn) ?_;rintro _ w136 ⟨rfl,v137,hf138⟩;refine ⟨_,rfl,?_⟩;have hf139:=At.keep hf130 v137 (not_mem1 (At.ne hf130 hf129 rfl));have hf140:=At.keep hf131 v137 (not_mem1 (At.ne hf131 hf129 rfl));have hf141:=At.keep hf132 v137 (not_mem1 (At.ne hf132 hf129 rfl))
  have hf142:=At.keep hf133 v137 (not_mem1 (At.ne hf133 hf129 rfl));have z143:=Glob.keep z134 v137 (by simp<;>omega);have v144:=Mod.fresh' v135 v137 (by simp<;>omega);refine zx<|yS 1<|reg_call 35 [pz p,pz b83] (some 107) (by kernel_rfl) (c35 (S:=S) (M:=(⟨(tg4 B S (⟨0,a,b',pr⟩:Mv)),a,b',pr⟩:Mv)) hf139 hf140 hf138 z143 ha hb hp1 (pColor_or hp1) (λhz=>(show 1<=pr/\pr<=6 from (by have:pr≠0:=hz;omega))) (λhz=>newP_ok (show 1<=pr/\pr<=6 from (by have:pr≠0:=hz;omega)) (pColor_or hp1)) hcs) ?_;rintro _ w145 ⟨p147,b148,rfl,v146,hf149,hf150,hb151,hb152⟩;refine ⟨_,rfl,?_⟩;have hf153:=At.on hf139 v146;have hf154:=At.on hf140 v146;have hf155:=At.on hf141 v146;have hf156:=At.on hf142 v146;have hf157:=At.on hf138 v146;have z158:=Glob.on z143 v146;have v159:=zt v144 v146;refine yS 1<|reg_store b83 1 (pz p147) none (by kernel_rfl) hf157 (Nat.le_of_ble_eq_true rfl) rfl ?_;intro w160 hu161;have hf162:At w160 b83 (.cells (mvCells (pz p147) ⟨(tg4 B S (⟨0,a,b',pr⟩:Mv)),a,b',pr⟩) 98 (0,0)):=hu161.at_;have hf163:=At.keep hf153 hu161.mod (not_mem1 (At.ne hf153 hf157 rfl));have hf164:=At.keep hf154 hu161.mod (not_mem1 (At.ne hf154 hf157 rfl));have hf165:=At.keep hf155 hu161.mod (not_mem1 (At.ne hf155 hf157 rfl));have hf166:=At.keep hf156 hu161.mod (not_mem1 (At.ne hf156 hf157 rfl));have z167:=Glob.keep z158 hu161.mod (by simp<;>omega);have v168:=Mod.fresh' v159 hu161.mod (by simp<;>omega);exact zx<|yS 2<|zz<|w_ret<|y2 (⟨b83,_,_,rfl,v168,hf162,by omega⟩)
 have dhc103:=ne_of_beq_false hc103;obtain rfl:pr=0:=by omega
 refine w_skip<|n_then<|w_seq<|zw<|yS 2<|zz<|yF<|w_skip<|zn<|yS 1<|reg_call 135 [pz b83,pz p] (some 105) (by kernel_rfl) (c135 (M:=(⟨(0:Int),a,b',(0:Int)⟩:Mv)) hf98 hf99 hf97 z101 ha hb hp1 (pColor_or hp1) (λhz=>(show 1<=(0:Int)/\(0:Int)<=6 from (by have:(0:Int)≠0:=hz;omega))) (λhz=>newP_ok (show 1<=(0:Int)/\(0:Int)<=6 from (by have:(0:Int)≠0:=hz;omega)) (pColor_or hp1)) (by omega) hpre.kings hpre.turn) ?_;rintro _ w169 ⟨rfl,v170,hf171⟩;refine ⟨_,rfl,?_⟩;have hf172:=At.keep hf98 v170 (not_mem1 (At.ne hf98 hf97 rfl));have hf173:=At.keep hf99 v170 (not_mem1 (At.ne hf99 hf97 rfl));have hf174:=At.keep hf100 v170 (not_mem1 (At.ne hf100 hf97 rfl));have z175:=Glob.keep z101 v170 (by simp<;>omega);have v176:=Mod.fresh' v102 v170 (by simp<;>omega);refine zx<|yS 1<|reg_call 35 [pz p,pz b83] (some 107) (by kernel_rfl) (c35 (S:=S) (M:=(⟨(tg4 B S (⟨(0:Int),a,b',(0:Int)⟩:Mv)),a,b',(0:Int)⟩:Mv)) hf172 hf173 hf171 z175 ha hb hp1 (pColor_or hp1) (λhz=>(show 1<=(0:Int)/\(0:Int)<=6 from (by have:(0:Int)≠0:=hz;omega))) (λhz=>newP_ok (show 1<=(0:Int)/\(0:Int)<=6 from (by have:(0:Int)≠0:=hz;omega)) (pColor_or hp1)) hcs) ?_;rintro _ w177 ⟨p179,b180,rfl,v178,hf181,hf182,hb183,hb184⟩;refine ⟨_,rfl,?_⟩;have hf185:=At.on hf172 v178;have hf186:=At.on hf173 v178;have hf187:=At.on hf174 v178;have hf188:=At.on hf171 v178;have z189:=Glob.on z175 v178;have v190:=zt v176 v178;refine yS 1<|reg_store b83 1 (pz p179) none (by kernel_rfl) hf188 (Nat.le_of_ble_eq_true rfl) rfl ?_;intro w191 hu192;have hf193:At w191 b83 (.cells (mvCells (pz p179) ⟨(tg4 B S (⟨0,a,b',0⟩:Mv)),a,b',0⟩) 98 (0,0)):=hu192.at_;have hf194:=At.keep hf185 hu192.mod (not_mem1 (At.ne hf185 hf188 rfl));have hf195:=At.keep hf186 hu192.mod (not_mem1 (At.ne hf186 hf188 rfl));have hf196:=At.keep hf187 hu192.mod (not_mem1 (At.ne hf187 hf188 rfl));have z197:=Glob.keep z189 hu192.mod (by simp<;>omega);have v198:=Mod.fresh' v190 hu192.mod (by simp<;>omega);exact zx<|yS 2<|zz<|w_ret<|y2 (⟨b83,_,_,rfl,v198,hf193,by omega⟩)
def bstr(l:List UInt8):ByteArray:=⟨l.toArray⟩
theorem bstr_size(l:List UInt8):(bstr l).size=l.length:=rfl
theorem bstr_append(a b:List UInt8):bstr a++bstr b=bstr (a++b):=by
 apply ByteArray.ext;rw [ByteArray.data_append];apply Array.ext';simp [bstr]
def fB(s:Int):UInt8:=UInt8.ofNat (97+s%8).toNat
def rB(s:Int):UInt8:=UInt8.ofNat (49+s/8).toNat
theorem sqBytes_eq{s:Int}(h:0<=s/\s<=63):sqBytes s=[fB s,rB s]:=by
 unfold sqBytes fB rB;rw [sq_file h,sq_rank h]
theorem ret_str{a b:ByteArray}(h:a=b):Ending.returned (.string a)=.returned (.string b):=by rw [h]
def byV(l:List UInt8):List Value:=l.map λb=>.int .u8 (b.toNat:Int)
def byA(l:List UInt8)(z:Nat):Array Value:=(byV l++List.replicate z (Value.int .u8 0)).toArray
theorem byA_size(l:List UInt8)(z:Nat):(byA l z).size=l.length+z:=by simp [byA,byV]
theorem byA_at{l:List UInt8}{z i:Nat}(h:i<l.length):(byA l z)[i]?=some (.int .u8 ((l.getD i 0).toNat:Int)):=by
 unfold byA byV;rw [List.getElem?_toArray,List.getElem?_append_left (by simpa using h),List.getElem?_map,List.getD_eq_getElem?_getD,List.getElem?_eq_getElem h];rfl
theorem byA_set{l:List UInt8}{z i:Nat}(h:i<l.length)(b:UInt8):(byA l z).setIfInBounds i (.int .u8 (b.toNat:Int))=byA (l.set i b) z:=by
 refine Array.ext_getElem? λj=>?_;rw [Array.getElem?_setIfInBounds];by_cases hj:j<l.length
 ·rw [byA_at (l:=l.set i b) (z:=z) (i:=j) (by rw [List.length_set];exact hj),List.getD_eq_getElem?_getD,List.getElem?_set];by_cases e:i=j
  ·rw [if_pos e,if_pos (by rw [byA_size];omega),if_pos e,if_pos h];rfl
  rw [if_neg e,if_neg e,byA_at hj,List.getD_eq_getElem?_getD]
 rw [if_neg (by omega)];unfold byA byV;rw [List.getElem?_toArray,List.getElem?_toArray,List.getElem?_append_right (by simp;omega),List.getElem?_append_right (by simp;omega)];simp
theorem push_all:∀(l:List UInt8) (s:ByteArray),((l.map λb=>((b.toNat:Nat):Int)).foldl (λr n=>r.push (UInt8.ofNat n.toNat)) s)=⟨s.data++l.toArray⟩
 |[],s=>by simp
 |b::l,s=>by
  simp only [List.map_cons,List.foldl_cons];rw [push_all l];apply ByteArray.ext;simp [ByteArray.push]
section
variable{P:Program}{n:Nat}{D:List Deferred}{ops:Array Oper}{Q:Exit->Act->World->Prop}{w:World}{L:List (Nat×Value)}
def cvAt(n:Nat)(ops:List Oper)(k:Nat)(L:List (Nat×Value)):Option (TypeId×TypeId×Value×Nat):=
 match ops[k]? with
 |some o=>match wantedL ops L o,o.dst with
  |some true,some d=>match dstOk (some d) n with
   |true=>match o.op with
    |.convert a b x=>match evL L x with
     |some v=>some (a,b,v,d)
     |none=>none
    |_=>none
   |false=>none
  |_,_=>none
 |none=>none
theorem reg_cv{k:Nat}(a b:TypeId)(v:Value)(d:Nat){u:Value}{w':World}(hrun:(convert a b v).run P w=.ok u w')(hk:Reg P n D ops Q (k+1) (setD (some d) u L) w')
 (h:cvAt n ops.toList k L=some (a,b,v,d):=by kernel_rfl):Reg P n D ops Q k L w:=by
 intro ac ha;unfold cvAt at h;split at h
 ·rename_i o ho;split at h
  ·rename_i d' hw hd';split at h
   ·rename_i hdo;split at h
    ·rename_i a' b' x hop;split at h
     ·rename_i v' hv;simp only [Option.some.injEq,Prod.mk.injEq] at h;obtain ⟨rfl,rfl,rfl,rfl⟩:=h;have hr:(execOp ac.eval o).run P w=.ok (.value u) w':=by
       obtain ⟨dst,op,ty,pos,af,g'⟩:=o;simp only at hop;subst hop;simp [execOp,ha.agrees _ _ hv,hrun]
      rw [drop_cons ho];simp only [wpList,wantedL_spec ha hw,if_true];refine .inl ?_;simp only [Oper.wp,hr,Oper.upon];rw [hd'];exact hk _ (ha.setD hdo u)
     cases h
    cases h
   cases h
  cases h
 cases h
theorem reg_cvB{k:Nat}(a b e:TypeId)(l:List UInt8)(d:Nat)(ha:P.underlying a=some .string)(hb:P.underlying b=some (.slice e))(he:P.underlying e=some (.int .u8))
 (hk:∀g w' cap z M N,l.length<=M->New w w' g (.cells (byA l z) e (M,N))->Reg P n D ops Q (k+1) (setD (some d) (.slice (some ⟨g,0,none⟩) l.length cap) L) w')
 (h:cvAt n ops.toList k L=some (a,b,.string (bstr l),d):=by kernel_rfl):Reg P n D ops Q k L w:=by
 have hs:(bstr l).size=l.length:=bstr_size l;have hc:Lib.bytesCells w e (bstr l)=byA l (grownCap w (bstr l).size 0 e-(bstr l).size):=by
  unfold Lib.bytesCells byA byV bstr;apply Array.ext';simp
 have hsz:(Lib.bytesCells w e (bstr l)).size=l.length+(grownCap w (bstr l).size 0 e-(bstr l).size):=by rw [hc,byA_size]
 have hN:New w (Lib.bytesWorld w e (bstr l)) w.heap.size (.cells (byA l (grownCap w (bstr l).size 0 e-(bstr l).size)) e (l.length+(grownCap w (bstr l).size 0 e-(bstr l).size),l.length+(grownCap w (bstr l).size 0 e-(bstr l).size)+1)):=by
  refine ⟨⟨rfl,rfl,rfl,by rw [Lib.bytesWorld_size];omega,λj hj _=>Lib.bytesWorld_at_old w e _ j hj⟩,⟨?_⟩,Nat.le_refl _⟩;rw [Lib.bytesWorld_at_new,hsz,hc]
 have hrun:=Lib.run_convert_string_bytes (P:=P) w a b e (bstr l) ha hb he;rw [hs] at hrun;exact reg_cv a b _ d hrun (hk _ _ _ _ _ _ (by omega) hN) h
theorem reg_cvS{k:Nat}(a b e:TypeId){g z cap:Nat}{fr:Nat×Nat}(l:List UInt8){n0:Nat}(hn:n0=l.length)(d:Nat)(ha:P.underlying a=some (.slice e))(he:P.underlying e=some (.int .u8))(hb:P.underlying b=some .string)
 (hg:At w g (.cells (byA l z) e fr))(hk:Reg P n D ops Q (k+1) (setD (some d) (.string (bstr l)) L) w)
 (h:cvAt n ops.toList k L=some (a,b,.slice (some ⟨g,0,none⟩) n0 cap,d):=by kernel_rfl):Reg P n D ops Q k L w:=by
 subst hn;refine reg_cv a b _ d ?_ hk h;have hl:(Ob.row ⟨g,0,none⟩ l.length (byV l).toArray).holds w:=by
  refine ⟨by simp [byV],λj hj=>?_⟩;rw [show (Addr.add ⟨g,0,none⟩ j)=⟨g,j,none⟩ by unfold Addr.add;split<;>simp_all];refine (hg.cell (byA_at hj)).trans ?_;unfold byV;rw [List.getElem?_toArray,List.getElem?_map,List.getD_eq_getElem?_getD,List.getElem?_eq_getElem hj];rfl
 have h1:(byV l).toArray=((l.map λb=>((b.toNat:Nat):Int)).map (Value.int .u8)).toArray:=by unfold byV;rw [List.map_map];rfl
 have h2:=run_loadCells (P:=P) hl;rw [h1] at h2;rw [run_convert_bytes_string w a b e _ _ _ ha he hb,run_bytesToString w _ _ _ _ h2,push_all];simp [bstr]
theorem reg_stB{k:Nat}{g j z M N:Nat}{e:TypeId}(l:List UInt8)(c:UInt8)(v:Value)(hv:v=.int .u8 (c.toNat:Int))(hg:At w g (.cells (byA l z) e (M,N)))(hj:j<l.length)(hM:l.length<=M)
 (hk:∀w',Upd w w' g (.cells (byA (l.set j c) z) e (M,N))->Reg P n D ops Q (k+1) L w')
 (h:storeAt P n ops.toList k L=some (⟨g,0+j*1,none⟩,v,none,some 1):=by kernel_rfl):Reg P n D ops Q k L w:=by
 intro a ha;subst hv;unfold storeAt at h;split at h
 ·rename_i o ho;split at h
  ·rename_i hw hd;split at h
   ·rename_i tt x y hop;split at h
    ·rename_i a' v' hx hy;simp only [Option.some.injEq,Prod.mk.injEq] at h;obtain ⟨rfl,rfl,e1,hs⟩:=h;have hc:=hg.cell (byA_at (z:=z) hj);have hfz:w.frozen? ⟨g,j,none⟩=false:=by simp [World.frozen?,hg.e];omega
     have hU:=upd_setCell (off:=j) hg (.int .u8 (c.toNat:Int));rw [byA_set hj] at hU;have hrun:(execOp a.eval o).run P w=.ok .skip (w.setCell ⟨g,j,none⟩ (.int .u8 (c.toNat:Int))):=by
      obtain ⟨dst,op,ty,pos,af,g'⟩:=o;simp only at hop;subst hop;have e2:(Addr.add ⟨g,j,none⟩ 0)=⟨g,j,none⟩:=by unfold Addr.add;split<;>simp_all
      simp [execOp,Instr.storeAt,ha.agrees _ _ hx,ha.agrees _ _ hy,Instr.sureAddr,storeVar,runSize hs];rw [if_pos (show (Value.int IntKind.u8 (c.toNat:Int)).cells.size=1 from rfl),show (Value.int IntKind.u8 (c.toNat:Int)).cells.toList=[.int .u8 (c.toNat:Int)] from rfl];simp [storeCells,e2,run_store P w ⟨g,j,none⟩ (.int .u8 (c.toNat:Int)) _ rfl,hc,hfz]
     rw [drop_cons ho];simp only [wpList,wantedL_spec ha hw,if_true];refine .inl ?_;simp only [Oper.wp,hrun,Oper.upon];have:=hk _ hU a ha;rw [e1];exact this
    cases h
   cases h
  cases h
 cases h
end
theorem idle26(p q:Value)(w:World):
  CallsD prog 26 #[p,q] .returning w λe u' w'=>e=.returned (.tuple #[])/\u'=.returning/\w'=w:=by
 refine callsD_of_wpS func26 rfl λc₀ cs hu=>?_;apply wpS_seq;apply wpS_region;simp [wpOpsS,go_sem,recoverD,hu,ntmps26,Exit.thenS];refine wpS_cond (t:=false) (by simp [Act.eval,Array.replicate]) ?_;simp only [Bool.false_eq_true,if_false];refine wpS_of_wp (wp_skip ?_);cases c₀;simp_all [bodyPostS,results,results26,Exit.thenS]
theorem idle30(p q r:Value)(w:World):
  CallsD prog 30 #[p,q,r] .returning w λe u' w'=>e=.returned (.tuple #[])/\u'=.returning/\w'=w:=by
 refine callsD_of_wpS func30 rfl λc₀ cs hu=>?_;apply wpS_seq;apply wpS_region;simp [wpOpsS,go_sem,recoverD,hu,ntmps30,Exit.thenS];refine wpS_cond (t:=false) (by simp [Act.eval,Array.replicate]) ?_;simp only [Bool.false_eq_true,if_false];refine wpS_of_wp (wp_skip ?_);cases c₀;simp_all [bodyPostS,results,results30,Exit.thenS]
section
variable{P:Program}{n:Nat}{D:List Deferred}{ops:Array Oper}{Q:Exit->Act->World->Prop}{L:List (Nat×Value)}{w:World}
theorem enterD{f:FuncId}{fn:Func}{c:Code}{vs:List Value}{R:Ending->World->Prop}(hf:P.funcs[f]?=some fn)(hb:fn.body=some c)(hn:fn.ntmps=n)(hlen:Nat.ble vs.length n=true)
  (h:W P n [] c (bodyPostD P fn R) (regs 0 vs) w):Calls P f vs.toArray w R:=by
 refine calls_of_wp_defers hf hb (h _ ?_);have hlen:=Nat.le_of_ble_eq_true hlen;refine ⟨by simp;omega,λi v hi=>?_,rfl⟩;obtain ⟨_,h2⟩:=look_regs vs 0 i v hi;have hlt:i<vs.length:=by have:=(List.getElem?_eq_some_iff.1 h2).1;omega
 rw [Array.getElem?_append_left (by simpa using hlt)];simpa using h2
theorem reg_defer{k:Nat}{o:Oper}(d:Deferred)(ho:ops.toList[k]?=some o)(hw:wantedL ops.toList L o=some true)(hd:o.dst=none)(hkn:(knownAll L o.op.operands.toList&&!isSelect o.op)=true)
  (hrun:(execOp (evT L) o).run P w=.ok (.defer d) w)(hk:Reg P n (d::D) ops Q (k+1) L w):Reg P n D ops Q k L w:=by
 intro a ha;have e:ops.toList.drop k=o::ops.toList.drop (k+1):=by
  have hlt:k<ops.toList.length:=(List.getElem?_eq_some_iff.1 ho).1;rw [List.drop_eq_getElem_cons hlt];congr 1;exact (List.getElem?_eq_some_iff.1 ho).2
 have hx:execOp a.eval o=execOp (evT L) o:=by
  simp only [Bool.and_eq_true,Bool.not_eq_true'] at hkn;refine execOp_congr o (λcs b e=>?_) λx hx=>known_agrees ha.agrees hkn.1 x (by simpa using hx);rw [e] at hkn;simp [isSelect] at hkn
 rw [e];simp only [wpList,wantedL_spec ha hw,if_true];refine .inl ?_;simp only [Oper.wp,hx,hrun,Oper.upon];refine hk _ ⟨?_,λi v hi=>?_,?_⟩
 ·simp [Act.put,hd,ha.size]
 ·simpa [Act.put,hd] using ha.get i v hi
 simp [Act.put,hd,ha.defers]
end
def def26(p q:Value):Deferred:={target:=.fn (.func 26) #[p,q],args:=#[]}
def def30(p q r:Value):Deferred:={target:=.fn (.func 30) #[p,q,r],args:=#[]}
theorem leave26{fn:Func}{tmps:Array Value}{R:Ending->World->Prop}{p q v:Value}{w:World}(h:(results fn tmps).run prog w=.ok v w)(hR:R (.returned v) w):
  Leaves prog fn tmps R [def26 p q] .returning w:=by
 refine leaves_cons (f:=26) (args:=#[p,q]) (by simp) (by kernel_rfl) ((idle26 p q w).mono ?_);rintro e u' w' ⟨rfl,rfl,rfl⟩;exact ⟨v,h,hR⟩
theorem leave30{fn:Func}{tmps:Array Value}{R:Ending->World->Prop}{p q r v:Value}{w:World}(h:(results fn tmps).run prog w=.ok v w)(hR:R (.returned v) w):
  Leaves prog fn tmps R [def30 p q r] .returning w:=by
 refine leaves_cons (f:=30) (args:=#[p,q,r]) (by simp) (by kernel_rfl) ((idle30 p q r w).mono ?_);rintro e u' w' ⟨rfl,rfl,rfl⟩;exact ⟨v,h,hR⟩
section
variable{P:Program}{n:Nat}{D:List Deferred}{ops:Array Oper}{L:List (Nat×Value)}
end
section
variable{n:Nat}{L:List (Nat×Value)}{fn:Func}{R:Ending->World->Prop}{w:World}
theorem retD26{t u T U:Nat}{ad bd:Addr}{p q v v':Value}(hr:fn.results=#[.cell t T,.cell u U])(ht:look L t=some (.pointer (some ad)))(hu:look L u=some (.pointer (some bd)))
  (hT:isAggT prog T=some false)(hU:isAggT prog U=some false)(h1:w.cell? ad=some v)(h2:w.cell? bd=some v')(hR:R (.returned (.tuple #[v,v'])) w)(a:Act)(ha:Hold n L [def26 p q] a):
  bodyPostD prog fn R .ret a w:=by
 show Leaves prog fn a.tmps R a.defers .returning w;rw [ha.defers];exact leave26 (v:=.tuple #[v,v']) (by simp [results,hr,ha.get _ _ ht,ha.get _ _ hu,asAddr,loadVar,runAgg hT,runAgg hU,h1,h2]) hR
theorem retD30{t u x T U X m:Nat}{ad bd cd:Addr}{p q r v v':Value}{cs:Array Value}(hr:fn.results=#[.cell t T,.cell u U,.cell x X])(ht:look L t=some (.pointer (some ad)))(hu:look L u=some (.pointer (some bd)))(hx:look L x=some (.pointer (some cd)))
  (hT:isAggT prog T=some true)(hm:sizeT prog T=some m)(hU:isAggT prog U=some false)(hX:isAggT prog X=some false)(h1:(Ob.row ad m cs).holds w)(h2:w.cell? bd=some v)(h3:w.cell? cd=some v')
  (hR:R (.returned (.tuple #[.agg cs,v,v'])) w)(a:Act)(ha:Hold n L [def30 p q r] a):bodyPostD prog fn R .ret a w:=by
 show Leaves prog fn a.tmps R a.defers .returning w;rw [ha.defers];exact leave30 (v:=.tuple #[.agg cs,v,v']) (by simp [results,hr,ha.get _ _ ht,ha.get _ _ hu,ha.get _ _ hx,asAddr,loadVar,runAgg hT,runAgg hU,runAgg hX,runSize hm,run_loadCells h1,h2,h3]) hR
end
section
variable{P:Program}{n:Nat}{D:List Deferred}{ops:Array Oper}{Q:Exit->Act->World->Prop}{w:World}{L:List (Nat×Value)}
theorem exec_known{o:Oper}(hkn:(knownAll L o.op.operands.toList&&!isSelect o.op)=true){a:Act}(ha:Hold n L D a):execOp a.eval o=execOp (evT L) o:=by
 simp only [Bool.and_eq_true,Bool.not_eq_true'] at hkn;refine execOp_congr o (λcs b e=>?_) λx hx=>known_agrees ha.agrees hkn.1 x (by simpa using hx);rw [e] at hkn;simp [isSelect] at hkn
theorem a_takeR{f:Nat}{ls:List Nat}(i:Nat)(v:Value){o:Oper}(ho:ops.toList[i]?=some o)(hw:wantedL ops.toList L o=some true)(hd:dstOk o.dst n=true)(hkn:(knownAll L o.op.operands.toList&&!isSelect o.op)=true)
  (hrun:∀w',(execOp (evT L) o).run P w'=.ok (.value v) w')(hB:takeB ops ls i=true)(hk:AReg P n D ops Q f (i::ls) (setD o.dst v L) w):AReg P n D ops Q (f+1) ls L w:=by
 intro a ha;simp only [takeB,Bool.and_eq_true] at hB;refine wpAny_take (by simpa using ho) hB.1 hB.2.1 hB.2.2 (v:=v) (λc a w hq=>hq) (.inl ⟨wantedL_spec ha hw,λw=>?_⟩) (hk _ (ha.setD hd v));rw [exec_known hkn ha];exact hrun w
theorem a_enter{k:Nat}{ls:List Nat}(i:Nat)(f:FuncId)(vs:List Value){o:Oper}(ho:ops.toList[i]?=some o)(hw:wantedL ops.toList L o=some true)(hd:dstOk o.dst n=true)(hkn:(knownAll L o.op.operands.toList&&!isSelect o.op)=true)
  (hrun:(execOp (evT L) o).run P w=.ok (.enter f vs.toArray) w)(hr:Region.ready .any ops (lstd ops ls)=[i]){R:Ending->World->Prop}(hc:Calls P f vs.toArray w R)
  (hk:∀x w2,R x w2->∃v,x=.returned v/\AReg P n D ops Q k (i::ls) (setD o.dst v L) w2):AReg P n D ops Q (k+1) ls L w:=by
 intro a ha;refine wpAny_all hr (by simp) λj hj=>?_;rw [List.mem_singleton] at hj;subst hj;have ho':ops[j]?=some o:=by simpa using ho
 unfold wpOp;simp only [ho',wantedL_spec ha hw,if_true];refine .inl ?_;simp only [Oper.wp,exec_known hkn ha,hrun,Oper.upon];refine hc.mono λx w2 hR=>?_;obtain ⟨v,rfl,hv⟩:=hk x w2 hR;exact hv _ (ha.setD hd v)
theorem a_both{k:Nat}{ls:List Nat}(i j:Nat)(f:FuncId)(vs:List Value)(dst:Option Nat)(h:callAt P n ops.toList i L=some (f,vs,dst))(v':Value)(dst':Option Nat)(obs:List Ob)(rs:List Value)(h':pureAt P n ops.toList j L rs=some (v',dst',obs))
  (hr:Region.ready .any ops (lstd ops ls)=[i,j]){R:Ending->World->Prop}(hc:Calls P f vs.toArray w R)(ho':Obs w obs)
  (hk:∀x w2,R x w2->∃v,x=.returned v/\AReg P n D ops Q k (i::ls) (setD dst v L) w2)(hk':AReg P n D ops Q k (j::ls) (setD dst' v' L) w):AReg P n D ops Q (k+1) ls L w:=by
 intro a ha;refine wpAny_all hr (by simp) λq hq=>?_;rcases List.mem_cons.1 hq with rfl|hq
 ·obtain ⟨o,ho,hdst,hd,hw,hrun⟩:=callAt_spec (ops:=ops) h ha;have ho2:ops[q]?=some o:=by simpa using ho
  unfold wpOp;simp only [ho2,hw,if_true];refine .inl ?_;simp only [Oper.wp,hrun,Oper.upon];refine hc.mono λx w2 hR=>?_;obtain ⟨v,rfl,hv⟩:=hk x w2 hR;have:=hv _ (ha.setD hd v);rw [←hdst] at this;exact this
 rw [List.mem_singleton] at hq;subst hq;exact a_op h' (Obs.all ho') hk' ha
end
set_option maxHeartbeats 2000000 in
theorem c16{c:GC}{w:World}(P:SP)(hG:Glob c w)(hP:SPok P)(hpre:MvPre (boardOf P.bd) (psOf P))(s:ByteArray)(sa b' pr:Int)(hsa:0<=sa/\sa<=63)(hb:0<=b'/\b'<=63)(hpr:0<=pr/\pr<=5)(hsz:(pr=0/\s.size=4)\/(pr≠0/\s.size=5))(hb0:byteAt s 0=97+sqFile sa)(hb1:byteAt s 1=49+sqRank sa)(hb2:byteAt s 2=97+sqFile b')(hb3:byteAt s 3=49+sqRank b')(hch:pr≠0->PromoCh (byteAt s 4) pr)(hp1:1<=pieceAt (boardOf P.bd) sa/\pieceAt (boardOf P.bd) sa<=12)(hcs:(psOf P).castle.size<=1000):
  CQ 16 [.int .i64 2,.agg (spCells P),.string s] w (fun e w'=>∃t,e=.returned (.tuple #[.agg #[.int .i64 sa,.int .i64 b',.int .i64 pr],.int .i64 t,.bool true])/\Mod [] w w'):=by
 have v0:Mod [] w w:=Mod.refl _ _;refine enterD (n:=32) func16 rfl ntmps16 rfl<|zw<|reg_alloc (spCells P) 24 (some 4) (by kernel_rfl) ?_;intro b1 w2 hn3;have hb4:c.base<=b1:=Glob.lt hG hn3;have hb5:=Nat.le_trans v0.size hn3.base;have v6:=hn3.mod;have z7:=Glob.on hG v6;have v8:=zt v0 v6;have u9:=hn3.at_;refine reg_alloc (#[.int .i64 0,.int .i64 0,.int .i64 0]) 30 (some 6) (by kernel_rfl) ?_;intro b10 w11 hn12;have hb13:c.base<=b10:=Glob.lt z7 hn12;have hb14:=Nat.le_trans v8.size hn12.base;have v15:=hn12.mod;have u16:=At.on u9 v15;have z17:=Glob.on z7 v15;have v18:=zt v8 v15;have u19:=hn12.at_;refine reg_alloc (#[.int .i64 0]) 3 (some 7) (by kernel_rfl) ?_;intro b20 w21 hn22;have hb23:c.base<=b20:=Glob.lt z17 hn22;have hb24:=Nat.le_trans v18.size hn22.base;have v25:=hn22.mod;have u26:=At.on u16 v25;have u27:=At.on u19 v25;have z28:=Glob.on z17 v25;have v29:=zt v18 v25;have u30:=hn22.at_;refine reg_alloc (#[.bool false]) 4 (some 8) (by kernel_rfl) ?_;intro b31 w32 hn33;have hb34:c.base<=b31:=Glob.lt z28 hn33;have hb35:=Nat.le_trans v29.size hn33.base;have v36:=hn33.mod;have u37:=At.on u26 v36;have u38:=At.on u27 v36;have u39:=At.on u30 v36;have z40:=Glob.on z28 v36;have v41:=zt v29 v36;have u42:=hn33.at_;refine zx<|reg_run (v:=.func (.func 30) #[] #[pz b10,pz b20,pz b31]) (w':=w32) rfl rfl rfl (by kernel_rfl) (.inl (by kernel_rfl))<|reg_defer (def30 (pz b10) (pz b20) (pz b31)) rfl rfl rfl (by kernel_rfl) (by kernel_rfl)<|zz<|w_seq<|a_start (f:=14) (by kernel_rfl) (by kernel_rfl) fun w43 v44=>?_;have u45:=At.on u37 v44;have u46:=At.on u38 v44;have u47:=At.on u39 v44;have u48:=At.on u42 v44;have z49:=Glob.on z40 v44;have v50:=zt v41 v44;refine a_take 0 (.int .i64 2) (some 13) [] [] (by kernel_rfl) (by kernel_rfl) trivial<|a_take 4 (.string s) (some 17) [] [] (by kernel_rfl) (by kernel_rfl) trivial<|a_both 1 2 28 [.int .i64 2] (some 14) (by kernel_rfl) (.agg (spCells P)) (some 15) [.row ⟨b1,0,none⟩ 69 (spCells P)] [.agg (spCells P)] (by kernel_rfl) (by kernel_rfl) (c28_2) (At.row u45 (spCells_size P)) ?_ ?_
 ·rintro _ w51 ⟨rfl,v52⟩;refine ⟨_,rfl,?_⟩;have u53:=At.on u45 v52;have u54:=At.on u46 v52;have u55:=At.on u47 v52;have u56:=At.on u48 v52;have z57:=Glob.on z49 v52;have v58:=zt v50 v52;refine a_takeR 5 (.func (.method "Decode") #[.iface 91 (.agg #[])] #[]) rfl rfl rfl (by kernel_rfl) (fun _=>by kernel_rfl) (by kernel_rfl)<|a_takeR 6 (.func (.method "Decode") #[.iface 91 (.agg #[])] #[]) rfl rfl rfl (by kernel_rfl) (fun _=>by kernel_rfl) (by kernel_rfl)<|a_take 7 (.iface 91 (.agg #[])) (some 20) [] [] (by kernel_rfl) (by kernel_rfl) trivial<|a_one 2 (.agg (spCells P)) (some 15) [.row ⟨b1,0,none⟩ 69 (spCells P)] [.agg (spCells P)] (by kernel_rfl) (by kernel_rfl) (At.row u53 (spCells_size P))<|a_call 3 27 [.agg (spCells P)] (some 16) (by kernel_rfl) (by kernel_rfl) (c27 P z57 hP) ?_;rintro _ w59 ⟨p61,b62,rfl,v60,u63,u64,hb65,hb66⟩;refine ⟨_,rfl,?_⟩;have u68:=At.on u54 v60;have u69:=At.on u55 v60;have u70:=At.on u56 v60;have z71:=Glob.on z57 v60;have v72:=zt v58 v60;refine a_enter 8 200 [.agg #[],pz p61,.string s] rfl rfl rfl (by kernel_rfl) (by kernel_rfl) (by kernel_rfl) (c200 (S:=psOf P) u63 u64 z71 hpre s sa b' pr hsa hb hpr hsz hb0 hb1 hb2 hb3 hch hp1 hcs) ?_;rintro _ w76 ⟨q73,pos74,t75,rfl,v77,u78,hb79⟩;refine ⟨_,rfl,?_⟩;have u81:=At.on u68 v77;have u82:=At.on u69 v77;have u83:=At.on u70 v77;have v87:=zt v72 v77;refine a_take 9 (.tuple #[pz q73,.nilIface]) (some 12) [] [] (by kernel_rfl) (by kernel_rfl) trivial<|a_take 10 (pz q73) (some 22) [] [] (by kernel_rfl) (by kernel_rfl) trivial<|a_take 11 (.nilIface) (some 23) [] [] (by kernel_rfl) (by kernel_rfl) trivial<|a_take 12 (pz q73) (some 9) [] [] (by kernel_rfl) (by kernel_rfl) trivial<|a_take 13 (.nilIface) (some 10) [] [] (by kernel_rfl) (by kernel_rfl) trivial<|a_done (by kernel_rfl)<|n_then<|w_seq<|zw<|yS 1<|reg_run (v:=.bool false) (w':=w76) rfl rfl rfl (by kernel_rfl) (.inl (by kernel_rfl))<|zz<|yF<|w_skip<|zn<|yS 1<|zk (some 28) (c31 (M:=(⟨t75,sa,b',pr⟩:Mv)) u78 ⟨hsa,hb,hpr⟩) ?_;intro w88 v89;have u91:=At.on u81 v89;have u92:=At.on u82 v89;have u93:=At.on u83 v89;have u96:=At.on u78 v89;have v98:=zt v87 v89;refine yS 1<|zk (some 30) (c32 u96) ?_;intro w99 v100;have u102:=At.on u91 v100;have u103:=At.on u92 v100;have u104:=At.on u93 v100;have v109:=zt v98 v100;refine yS 1<|reg_store b10 0 (.agg (#[.int .i64 sa,.int .i64 b',.int .i64 pr])) none (by kernel_rfl) u102 (Nat.le_of_ble_eq_true rfl) rfl ?_;intro w110 hu111;have u112:At w110 b10 (.cells (#[.int .i64 sa,.int .i64 b',.int .i64 pr]) 30 (0,0)):=hu111.at_;have u114:=At.keep u103 hu111.mod (not_mem1 (At.ne u103 u102 rfl));have u115:=At.keep u104 hu111.mod (not_mem1 (At.ne u104 u102 rfl));have v120:=Mod.fresh' v109 hu111.mod (by simp<;>omega);refine reg_store b20 0 (.int .i64 (IntKind.i64.wrap ((⟨t75,sa,b',pr⟩:Mv).tags))) none (by kernel_rfl) u114 (Nat.le_of_ble_eq_true rfl) rfl ?_
  intro w121 hu122;have u123:At w121 b20 (.cells (#[.int .i64 (IntKind.i64.wrap ((⟨t75,sa,b',pr⟩:Mv).tags))]) 3 (0,0)):=hu122.at_;have u125:=At.keep u115 hu122.mod (not_mem1 (At.ne u115 u114 rfl));have u129:=At.keep u112 hu122.mod (not_mem1 (At.ne u112 u114 rfl));have v131:=Mod.fresh' v120 hu122.mod (by simp<;>omega);refine reg_store b31 0 (.bool true) none (by kernel_rfl) u125 (Nat.le_of_ble_eq_true rfl) rfl ?_;intro w132 hu133;have u134:At w132 b31 (.cells (#[.bool true]) 4 (0,0)):=hu133.at_;have u139:=At.keep u129 hu133.mod (not_mem1 (At.ne u129 u125 rfl));have u140:=At.keep u123 hu133.mod (not_mem1 (At.ne u123 u125 rfl));have v142:=Mod.fresh' v131 hu133.mod (by simp<;>omega);exact zz<|w_ret<|retD30 results16 rfl rfl rfl (by kernel_rfl) (by kernel_rfl) (by kernel_rfl) (by kernel_rfl) (At.row u139 rfl) (At.cell (j:=0) u140 rfl) (At.cell (j:=0) u134 rfl) ⟨_,rfl,v142⟩
 refine a_call 1 28 [.int .i64 2] (some 14) (by kernel_rfl) (by kernel_rfl) (c28_2) ?_;rintro _ w143 ⟨rfl,v144⟩;refine ⟨_,rfl,?_⟩;have u146:=At.on u46 v144;have u147:=At.on u47 v144;have u148:=At.on u48 v144;have z149:=Glob.on z49 v144;have v150:=zt v50 v144;refine a_takeR 5 (.func (.method "Decode") #[.iface 91 (.agg #[])] #[]) rfl rfl rfl (by kernel_rfl) (fun _=>by kernel_rfl) (by kernel_rfl)<|a_takeR 6 (.func (.method "Decode") #[.iface 91 (.agg #[])] #[]) rfl rfl rfl (by kernel_rfl) (fun _=>by kernel_rfl) (by kernel_rfl)<|a_take 7 (.iface 91 (.agg #[])) (some 20) [] [] (by kernel_rfl) (by kernel_rfl) trivial<|a_call 3 27 [.agg (spCells P)] (some 16) (by kernel_rfl) (by kernel_rfl) (c27 P z149 hP) ?_;rintro _ w151 ⟨p153,b154,rfl,v152,u155,u156,hb157,hb158⟩;refine ⟨_,rfl,?_⟩;have u160:=At.on u146 v152;have u161:=At.on u147 v152;have u162:=At.on u148 v152;have z163:=Glob.on z149 v152;have v164:=zt v150 v152;refine a_enter 8 200 [.agg #[],pz p153,.string s] rfl rfl rfl (by kernel_rfl) (by kernel_rfl) (by kernel_rfl) (c200 (S:=psOf P) u155 u156 z163 hpre s sa b' pr hsa hb hpr hsz hb0 hb1 hb2 hb3 hch hp1 hcs) ?_;rintro _ w168 ⟨q165,pos166,t167,rfl,v169,u170,hb171⟩;refine ⟨_,rfl,?_⟩;have u173:=At.on u160 v169;have u174:=At.on u161 v169;have u175:=At.on u162 v169;have v179:=zt v164 v169;refine a_take 9 (.tuple #[pz q165,.nilIface]) (some 12) [] [] (by kernel_rfl) (by kernel_rfl) trivial<|a_take 10 (pz q165) (some 22) [] [] (by kernel_rfl) (by kernel_rfl) trivial<|a_take 11 (.nilIface) (some 23) [] [] (by kernel_rfl) (by kernel_rfl) trivial<|a_take 12 (pz q165) (some 9) [] [] (by kernel_rfl) (by kernel_rfl) trivial<|a_take 13 (.nilIface) (some 10) [] [] (by kernel_rfl) (by kernel_rfl) trivial<|a_done (by kernel_rfl)<|n_then<|w_seq<|zw<|yS 1<|reg_run (v:=.bool false) (w':=w168) rfl rfl rfl (by kernel_rfl) (.inl (by kernel_rfl))<|zz<|yF<|w_skip<|zn<|yS 1<|zk (some 28) (c31 (M:=(⟨t167,sa,b',pr⟩:Mv)) u170 ⟨hsa,hb,hpr⟩) ?_;intro w180 v181;have u183:=At.on u173 v181;have u184:=At.on u174 v181;have u185:=At.on u175 v181;have u188:=At.on u170 v181;have v190:=zt v179 v181;refine yS 1<|zk (some 30) (c32 u188) ?_;intro w191 v192;have u194:=At.on u183 v192;have u195:=At.on u184 v192;have u196:=At.on u185 v192;have v201:=zt v190 v192;refine yS 1<|reg_store b10 0 (.agg (#[.int .i64 sa,.int .i64 b',.int .i64 pr])) none (by kernel_rfl) u194 (Nat.le_of_ble_eq_true rfl) rfl ?_;intro w202 hu203;have u204:At w202 b10 (.cells (#[.int .i64 sa,.int .i64 b',.int .i64 pr]) 30 (0,0)):=hu203.at_;have u206:=At.keep u195 hu203.mod (not_mem1 (At.ne u195 u194 rfl));have u207:=At.keep u196 hu203.mod (not_mem1 (At.ne u196 u194 rfl));have v212:=Mod.fresh' v201 hu203.mod (by simp<;>omega);refine reg_store b20 0 (.int .i64 (IntKind.i64.wrap ((⟨t167,sa,b',pr⟩:Mv).tags))) none (by kernel_rfl) u206 (Nat.le_of_ble_eq_true rfl) rfl ?_
 intro w213 hu214;have u215:At w213 b20 (.cells (#[.int .i64 (IntKind.i64.wrap ((⟨t167,sa,b',pr⟩:Mv).tags))]) 3 (0,0)):=hu214.at_;have u217:=At.keep u207 hu214.mod (not_mem1 (At.ne u207 u206 rfl));have u221:=At.keep u204 hu214.mod (not_mem1 (At.ne u204 u206 rfl));have v223:=Mod.fresh' v212 hu214.mod (by simp<;>omega);refine reg_store b31 0 (.bool true) none (by kernel_rfl) u217 (Nat.le_of_ble_eq_true rfl) rfl ?_;intro w224 hu225;have u226:At w224 b31 (.cells (#[.bool true]) 4 (0,0)):=hu225.at_;have u231:=At.keep u221 hu225.mod (not_mem1 (At.ne u221 u217 rfl));have u232:=At.keep u215 hu225.mod (not_mem1 (At.ne u215 u217 rfl));have v234:=Mod.fresh' v223 hu225.mod (by simp<;>omega);exact zz<|w_ret<|retD30 results16 rfl rfl rfl (by kernel_rfl) (by kernel_rfl) (by kernel_rfl) (by kernel_rfl) (At.row u231 rfl) (At.cell (j:=0) u232 rfl) (At.cell (j:=0) u226 rfl) ⟨_,rfl,v234⟩
theorem uciB_eq{M:Mv}{x y z:Int}(h:eqM M x y z=true):uciB M=uciB ⟨0,x,y,z⟩:=by
 unfold eqM at h;simp only [Bool.and_eq_true,beq_iff_eq] at h;obtain ⟨h1,h2,h3⟩:=h;unfold uciB;rw [h1,h2,h3]
set_option maxHeartbeats 2000000 in
theorem c15u{c:GC}{w:World}(P:SP)(hG:Glob c w)(hP:SPok P)(hpre:MvPre (boardOf P.bd) (psOf P))(x y z:Int)(hex:∃i,i<(allL (boardOf P.bd) (psOf P)).length/\eqM (mvAt (allL (boardOf P.bd) (psOf P)) i) x y z=true)(hr:∀M∈allL (boardOf P.bd) (psOf P),MvOk M):
  CQ 15 [.int .i64 2,.agg (spCells P),.agg #[.int .i64 x,.int .i64 y,.int .i64 z]] w (fun e w'=>e=.returned (.tuple #[.string ⟨(uciB ⟨0,x,y,z⟩).toArray⟩,.bool true])/\Mod [] w w'):=by
 have v0:Mod [] w w:=Mod.refl _ _;have hGs:=hG.size;refine enterD (n:=22) func15 rfl ntmps15 rfl<|zw<|reg_alloc (spCells P) 24 (some 4) (by kernel_rfl) ?_;intro b1 w2 hn3;have hb4:c.base<=b1:=Glob.lt hG hn3;have hb5:=Nat.le_trans v0.size hn3.base;have v6:=hn3.mod;have z7:=Glob.on hG v6;have v8:=zt v0 v6;have u9:=hn3.at_;refine reg_alloc (#[.int .i64 x,.int .i64 y,.int .i64 z]) 30 (some 5) (by kernel_rfl) ?_;intro b10 w11 hn12;have hb13:c.base<=b10:=Glob.lt z7 hn12;have hb14:=Nat.le_trans v8.size hn12.base;have v15:=hn12.mod;have u16:=At.on u9 v15;have z17:=Glob.on z7 v15;have v18:=zt v8 v15;have u19:=hn12.at_;refine reg_alloc (#[.string (⟨#[]⟩)]) 9 (some 6) (by kernel_rfl) ?_;intro b20 w21 hn22;have hb23:c.base<=b20:=Glob.lt z17 hn22;have hb24:=Nat.le_trans v18.size hn22.base;have v25:=hn22.mod;have u26:=At.on u16 v25;have u27:=At.on u19 v25;have z28:=Glob.on z17 v25;have v29:=zt v18 v25;have u30:=hn22.at_;refine reg_alloc (#[.bool false]) 4 (some 7) (by kernel_rfl) ?_;intro b31 w32 hn33;have hb34:c.base<=b31:=Glob.lt z28 hn33;have hb35:=Nat.le_trans v29.size hn33.base;have v36:=hn33.mod;have u37:=At.on u26 v36;have u38:=At.on u27 v36;have u39:=At.on u30 v36;have z40:=Glob.on z28 v36;have v41:=zt v29 v36;have u42:=hn33.at_;refine zx<|reg_run (v:=.func (.func 26) #[] #[pz b20,pz b31]) (w':=w32) rfl rfl rfl (by kernel_rfl) (.inl (by kernel_rfl))<|reg_defer (def26 (pz b20) (pz b31)) rfl rfl rfl (by kernel_rfl) (by kernel_rfl)<|zx<|yV 1 [.row ⟨b1,0,none⟩ 69 (spCells P)] [.agg (spCells P)] (At.row u37 (spCells_size P))<|reg_call 27 [.agg (spCells P)] (some 11) (by kernel_rfl) (c27 P z40 hP) ?_;rintro _ w43 ⟨p45,b46,rfl,v44,u47,u48,hb49,hb50⟩;refine ⟨_,rfl,?_⟩;have hb51:=Nat.le_trans v41.size hb49;have u53:=At.on u38 v44;have u54:=At.on u39 v44;have u55:=At.on u42 v44;have z56:=Glob.on z40 v44;have v57:=zt v41 v44;refine yS 1<|zz<|w_seq<|a_start (f:=12) (by kernel_rfl) (by kernel_rfl) fun w58 v59=>?_;have u61:=At.on u53 v59;have u62:=At.on u54 v59;have u63:=At.on u55 v59;have u64:=At.on u47 v59;have u65:=At.on u48 v59;have z66:=Glob.on z56 v59;have v67:=zt v57 v59;refine a_take 0 (.int .i64 2) (some 12) [] [] (by kernel_rfl) (by kernel_rfl) trivial<|a_take 2 (pz p45) (some 14) [] [] (by kernel_rfl) (by kernel_rfl) trivial<|a_take 3 (pz p45) (some 15) [] [] (by kernel_rfl) (by kernel_rfl) trivial<|a_both 1 4 28 [.int .i64 2] (some 13) (by kernel_rfl) (.agg (#[.int .i64 x,.int .i64 y,.int .i64 z])) (some 16) [.row ⟨b10,0,none⟩ 3 (#[.int .i64 x,.int .i64 y,.int .i64 z])] [.agg (#[.int .i64 x,.int .i64 y,.int .i64 z])] (by kernel_rfl) (by kernel_rfl) (c28_2) (At.row u61 rfl) ?_ ?_
 ·rintro _ w68 ⟨rfl,v69⟩;refine ⟨_,rfl,?_⟩;have u71:=At.on u61 v69;have u72:=At.on u62 v69;have u73:=At.on u63 v69;have u74:=At.on u64 v69;have u75:=At.on u65 v69;have z76:=Glob.on z66 v69;have v77:=zt v67 v69;refine a_takeR 6 (.func (.method "Encode") #[.iface 91 (.agg #[])] #[]) rfl rfl rfl (by kernel_rfl) (fun _=>by kernel_rfl) (by kernel_rfl)<|a_takeR 7 (.func (.method "Encode") #[.iface 91 (.agg #[])] #[]) rfl rfl rfl (by kernel_rfl) (fun _=>by kernel_rfl) (by kernel_rfl)<|a_take 8 (.iface 91 (.agg #[])) (some 20) [] [] (by kernel_rfl) (by kernel_rfl) trivial<|a_one 4 (.agg (#[.int .i64 x,.int .i64 y,.int .i64 z])) (some 16) [.row ⟨b10,0,none⟩ 3 (#[.int .i64 x,.int .i64 y,.int .i64 z])] [.agg (#[.int .i64 x,.int .i64 y,.int .i64 z])] (by kernel_rfl) (by kernel_rfl) (At.row u71 rfl)<|a_call 5 29 [pz p45,.agg (#[.int .i64 x,.int .i64 y,.int .i64 z])] (some 17) (by kernel_rfl) (by kernel_rfl) (c29 (S:=psOf P) u74 u75 z76 hpre (by have:=hG.size;omega) (.inl rfl) x y z hex hr) ?_;rintro _ w78 ⟨q80,M81,vm82,rfl,v79,u83,hca84,u85,hb86,hin87,heq88⟩;refine ⟨_,rfl,?_⟩;have hb89:=Nat.le_trans v77.size hb86;have u92:=At.keep u72 v79 (not_mem1 (At.ne u72 u74 rfl));have u93:=At.keep u73 v79 (not_mem1 (At.ne u73 u74 rfl));have v96:=Mod.fresh' v77 v79 (by simp<;>omega);refine a_enter 9 201 [.agg #[],pz p45,pz q80] rfl rfl rfl (by kernel_rfl) (by kernel_rfl) (by kernel_rfl) (c201 u85 (pz p45) (hr M81 hin87)) ?_;rintro _ w97 ⟨rfl,v98⟩;refine ⟨_,rfl,?_⟩;rw [uciB_eq heq88];have u101:=At.on u92 v98;have u102:=At.on u93 v98;have v107:=zt v96 v98;refine a_tail 10 (by kernel_rfl) (by kernel_rfl)<|reg_store b20 0 (.string (⟨(uciB ⟨0,x,y,z⟩).toArray⟩)) none (by kernel_rfl) u101 (Nat.le_of_ble_eq_true rfl) rfl ?_;intro w108 hu109;have u110:At w108 b20 (.cells (#[.string (⟨(uciB ⟨0,x,y,z⟩).toArray⟩)]) 9 (0,0)):=hu109.at_;have u113:=At.keep u102 hu109.mod (not_mem1 (At.ne u102 u101 rfl));have v118:=Mod.fresh' v107 hu109.mod (by simp<;>omega);refine reg_store b31 0 (.bool true) none (by kernel_rfl) u113 (Nat.le_of_ble_eq_true rfl) rfl ?_;intro w119 hu120;have u121:At w119 b31 (.cells (#[.bool true]) 4 (0,0)):=hu120.at_;have u127:=At.keep u110 hu120.mod (not_mem1 (At.ne u110 u113 rfl));have v129:=Mod.fresh' v118 hu120.mod (by simp<;>omega);exact ze<|only_n<|n_then<|w_ret<|retD26 results15 rfl rfl (by kernel_rfl) (by kernel_rfl) (At.cell (j:=0) u127 rfl) (At.cell (j:=0) u121 rfl) ⟨rfl,v129⟩
 refine a_call 1 28 [.int .i64 2] (some 13) (by kernel_rfl) (by kernel_rfl) (c28_2) ?_;rintro _ w130 ⟨rfl,v131⟩;refine ⟨_,rfl,?_⟩;have u134:=At.on u62 v131;have u135:=At.on u63 v131;have u136:=At.on u64 v131;have u137:=At.on u65 v131;have z138:=Glob.on z66 v131;have v139:=zt v67 v131;refine a_takeR 6 (.func (.method "Encode") #[.iface 91 (.agg #[])] #[]) rfl rfl rfl (by kernel_rfl) (fun _=>by kernel_rfl) (by kernel_rfl)<|a_takeR 7 (.func (.method "Encode") #[.iface 91 (.agg #[])] #[]) rfl rfl rfl (by kernel_rfl) (fun _=>by kernel_rfl) (by kernel_rfl)<|a_take 8 (.iface 91 (.agg #[])) (some 20) [] [] (by kernel_rfl) (by kernel_rfl) trivial<|a_call 5 29 [pz p45,.agg (#[.int .i64 x,.int .i64 y,.int .i64 z])] (some 17) (by kernel_rfl) (by kernel_rfl) (c29 (S:=psOf P) u136 u137 z138 hpre (by have:=hG.size;omega) (.inl rfl) x y z hex hr) ?_;rintro _ w140 ⟨q142,M143,vm144,rfl,v141,u145,hca146,u147,hb148,hin149,heq150⟩;refine ⟨_,rfl,?_⟩;have hb151:=Nat.le_trans v139.size hb148;have u154:=At.keep u134 v141 (not_mem1 (At.ne u134 u136 rfl));have u155:=At.keep u135 v141 (not_mem1 (At.ne u135 u136 rfl));have v158:=Mod.fresh' v139 v141 (by simp<;>omega);refine a_enter 9 201 [.agg #[],pz p45,pz q142] rfl rfl rfl (by kernel_rfl) (by kernel_rfl) (by kernel_rfl) (c201 u147 (pz p45) (hr M143 hin149)) ?_;rintro _ w159 ⟨rfl,v160⟩;refine ⟨_,rfl,?_⟩;rw [uciB_eq heq150];have u163:=At.on u154 v160;have u164:=At.on u155 v160;have v169:=zt v158 v160;refine a_tail 10 (by kernel_rfl) (by kernel_rfl)<|reg_store b20 0 (.string (⟨(uciB ⟨0,x,y,z⟩).toArray⟩)) none (by kernel_rfl) u163 (Nat.le_of_ble_eq_true rfl) rfl ?_;intro w170 hu171;have u172:At w170 b20 (.cells (#[.string (⟨(uciB ⟨0,x,y,z⟩).toArray⟩)]) 9 (0,0)):=hu171.at_;have u175:=At.keep u164 hu171.mod (not_mem1 (At.ne u164 u163 rfl));have v180:=Mod.fresh' v169 hu171.mod (by simp<;>omega);refine reg_store b31 0 (.bool true) none (by kernel_rfl) u175 (Nat.le_of_ble_eq_true rfl) rfl ?_;intro w181 hu182;have u183:At w181 b31 (.cells (#[.bool true]) 4 (0,0)):=hu182.at_;have u189:=At.keep u172 hu182.mod (not_mem1 (At.ne u172 u175 rfl));have v191:=Mod.fresh' v180 hu182.mod (by simp<;>omega);exact ze<|only_n<|n_then<|w_ret<|retD26 results15 rfl rfl (by kernel_rfl) (by kernel_rfl) (At.cell (j:=0) u189 rfl) (At.cell (j:=0) u183 rfl) ⟨rfl,v191⟩
structure PlainU(P:SP)(m:Sm):Prop where
 ok:SPok P
 pre:MvPre (boardOf P.bd) (psOf P)
 hex:∃i,i<(allL (boardOf P.bd) (psOf P)).length/\eqM (mvAt (allL (boardOf P.bd) (psOf P)) i) m.f m.t m.p=true
 hr:∀M∈allL (boardOf P.bd) (psOf P),MvOk M
 pc:1<=pieceAt (boardOf P.bd) m.f/\pieceAt (boardOf P.bd) m.f<=12
 sm:SmOk m
theorem byteAt_str(l:List UInt8)(i:Nat)(b:UInt8)(h:l[i]?=some b):byteAt ⟨l.toArray⟩ (i:Int)=b.toNat:=by
 unfold byteAt;have h2:(⟨l.toArray⟩:ByteArray)[((i:Int)).toNat]?=some b:=by
  have hl:i<l.length:=by
   refine Classical.byContradiction λhh=>?_;rw [List.getElem?_eq_none (by omega)] at h;cases h
  have hl2:((i:Int)).toNat<(⟨l.toArray⟩:ByteArray).size:=by show _<l.toArray.size;simp;omega
  rw [getElem?_pos (⟨l.toArray⟩:ByteArray) ((i:Int)).toNat hl2];rw [List.getElem?_eq_getElem hl] at h;rw [←h];rfl
 rw [h2]
theorem uciB_len{f t p:Int}(hp:p=0\/(2<=p/\p<=5)):(p=0/\(⟨(uciB ⟨0,f,t,p⟩).toArray⟩:ByteArray).size=4)\/(p≠0/\(⟨(uciB ⟨0,f,t,p⟩).toArray⟩:ByteArray).size=5):=by
 rcases hp with rfl|hp
 ·exact .inl ⟨rfl,rfl⟩
 refine .inr ⟨by omega,?_⟩;rcases (by omega:p=2\/p=3\/p=4\/p=5) with rfl|rfl|rfl|rfl<;>rfl
theorem uciB_at{f t p:Int}(hf:0<=f/\f<=63)(ht:0<=t/\t<=63):byteAt ⟨(uciB ⟨0,f,t,p⟩).toArray⟩ 0=97+sqFile f/\byteAt ⟨(uciB ⟨0,f,t,p⟩).toArray⟩ 1=49+sqRank f/\
  byteAt ⟨(uciB ⟨0,f,t,p⟩).toArray⟩ 2=97+sqFile t/\byteAt ⟨(uciB ⟨0,f,t,p⟩).toArray⟩ 3=49+sqRank t:=by
 have h1:=file_ok hf;have h2:=rank_ok hf;have h3:=file_ok ht;have h4:=rank_ok ht;have e:∀i:Nat,i<4->(uciB ⟨0,f,t,p⟩)[i]?=(sqBytes f++sqBytes t)[i]?:=by
  intro i hi;unfold uciB;dsimp only;cases (p !=0)
  ·rfl
  show (sqBytes f++sqBytes t++promoU p)[i]?=_;rw [List.getElem?_append_left (by simpa [sqBytes] using hi)]
 refine ⟨?_,?_,?_,?_⟩
 ·exact (byteAt_str _ 0 _ (e 0 (by decide))).trans (u8_ofNat (by omega))
 ·exact (byteAt_str _ 1 _ (e 1 (by decide))).trans (u8_ofNat (by omega))
 ·exact (byteAt_str _ 2 _ (e 2 (by decide))).trans (u8_ofNat (by omega))
 exact (byteAt_str _ 3 _ (e 3 (by decide))).trans (u8_ofNat (by omega))
theorem uciB_pr{f t p:Int}(hp:2<=p/\p<=5):PromoCh (byteAt ⟨(uciB ⟨0,f,t,p⟩).toArray⟩ 4) p:=by
 rcases (by omega:p=2\/p=3\/p=4\/p=5) with rfl|rfl|rfl|rfl
 ·rw [show byteAt ⟨(uciB ⟨0,f,t,2⟩).toArray⟩ 4=113 from byteAt_str _ 4 113 rfl];exact .inl ⟨rfl,rfl⟩
 ·rw [show byteAt ⟨(uciB ⟨0,f,t,3⟩).toArray⟩ 4=114 from byteAt_str _ 4 114 rfl];exact .inr (.inl ⟨rfl,rfl⟩)
 ·rw [show byteAt ⟨(uciB ⟨0,f,t,4⟩).toArray⟩ 4=98 from byteAt_str _ 4 98 rfl];exact .inr (.inr (.inl ⟨rfl,rfl⟩))
 rw [show byteAt ⟨(uciB ⟨0,f,t,5⟩).toArray⟩ 4=110 from byteAt_str _ 4 110 rfl];exact .inr (.inr (.inr ⟨rfl,rfl⟩))
theorem castle_size(P:SP):(psOf P).castle.size<=1000:=Nat.le_trans (castStr_size P.castle) (by decide)
theorem shl1_bit(x:Int)(i:Nat)(hi:i<64):(V (shlU x 1)).getLsbD i=(decide (0<i)&&(V x).getLsbD (i-1)):=by
 rw [V_shlU x (by decide),BitVec.getLsbD_shiftLeft];simp only [hi,decide_true,Bool.true_and,show (1:Int).toNat=1 from rfl];by_cases h:i<1
 ·simp [h,show ¬0<i by omega]
 ·simp [h,show 0<i by omega]
theorem V_one_bit(i:Nat)(hi:i<64):(V 1).getLsbD i=decide (i=0):=by revert i;decide
theorem bbAcc_bit(f:Int->Int)(p:Int):∀n:Nat,n<=64->∀i,i<64->(V (bbAcc f p n)).getLsbD i=(decide (i<n)&&((f ((n-1-i:Nat):Int) !=0)&&(p==f ((n-1-i:Nat):Int))))
 |0,_,i,_=>by simp [bbAcc]
 |n+1,hn,i,hi=>by
  have ih:=bbAcc_bit f p n (by omega);by_cases h0:i=0
  ·subst h0;simp only [show 0<n+1 by omega,decide_true,Bool.true_and,show n+1-1-0=n by omega];unfold bbAcc;cases h:((f (n:Int) !=0)&&(p==f (n:Int)))
   ·simp only [cond_false];rw [shl1_bit _ 0 (by decide)];simp
   ·simp only [cond_true];rw [V_bor,BitVec.getLsbD_or,V_one_bit 0 (by decide)];simp
  ·have e1:(V (shlU (bbAcc f p n) 1)).getLsbD i=(decide (i<n+1)&&((f ((n+1-1-i:Nat):Int) !=0)&&(p==f ((n+1-1-i:Nat):Int)))):=by
    rw [shl1_bit _ i hi,ih (i-1) (by omega),show n-1-(i-1)=n+1-1-i by omega];simp only [show 0<i by omega,decide_true,Bool.true_and];congr 1;rw [decide_eq_decide];omega
   rw [←e1];have e0:bbAcc f p (n+1)=bif (f (n:Int) !=0)&&(p==f (n:Int)) then bor (shlU (bbAcc f p n) 1) 1 else shlU (bbAcc f p n) 1:=rfl
   rw [e0];cases ((f (n:Int) !=0)&&(p==f (n:Int)))
   ·rfl
   ·simp only [cond_true];rw [V_bor,BitVec.getLsbD_or,V_one_bit i hi];simp [h0]
theorem U_bbAcc(f:Int->Int)(p:Int):∀n:Nat,U64 (bbAcc f p n)
 |0=>by unfold U64;simp [bbAcc]
 |n+1=>by
  unfold bbAcc;cases ((f (n:Int) !=0)&&(p==f (n:Int)))
  ·exact U_shlU _ _
  ·exact U_bor _ _
theorem sb_bbAcc(f:Int->Int)(p:Int){s:Nat}(hs:s<64):sb (bbAcc f p 64) s=((f (s:Int) !=0)&&(p==f (s:Int))):=by
 unfold sb;rw [bbAcc_bit f p 64 (by decide) _ (by omega)];simp only [show 63-s<64 by omega,decide_true,Bool.true_and,show 64-1-(63-s)=s by omega]
structure BBits(B:Bd)(bd:Nat->Int):Prop where
 u:∀k,U64 (B.bb k)
 bit:∀k:Nat,1<=k->k<=12->∀s,s<64->sb (B.bb k) s=(bd s==(k:Int))
theorem calc_rep{B:Bd}{bd:Nat->Int}(h:BBits B bd)(hr:∀s,s<64->0<=bd s/\bd s<=12):BRep (calcB B) bd:=by
 have hw:∀s,s<64->sb (bwhite B) s=(decide (1<=bd s)&&decide (bd s<=6)):=by
  intro s hs;unfold bwhite;simp only [sb_bor];rw [h.bit 1 (by decide) (by decide) s hs,h.bit 2 (by decide) (by decide) s hs,h.bit 3 (by decide) (by decide) s hs,h.bit 4 (by decide) (by decide) s hs,h.bit 5 (by decide) (by decide) s hs,h.bit 6 (by decide) (by decide) s hs,Bool.eq_iff_iff];simp only [Bool.or_eq_true,beq_iff_eq,Bool.and_eq_true,decide_eq_true_eq];omega
 have hb:∀s,s<64->sb (bblack B) s=decide (7<=bd s):=by
  intro s hs;have:=hr s hs;unfold bblack;simp only [sb_bor];rw [h.bit 7 (by decide) (by decide) s hs,h.bit 8 (by decide) (by decide) s hs,h.bit 9 (by decide) (by decide) s hs,h.bit 10 (by decide) (by decide) s hs,h.bit 11 (by decide) (by decide) s hs,h.bit 12 (by decide) (by decide) s hs,Bool.eq_iff_iff];simp only [Bool.or_eq_true,beq_iff_eq,decide_eq_true_eq];omega
 refine ⟨h.u,h.bit,U_bor _ _,U_bor _ _,U_bnot _,hw,hb,λs hs=>?_,hr⟩;have:=hr s hs;show sb (bnot (bor (bwhite B) (bblack B))) s=_;rw [sb_bnot _ hs,sb_bor,hw s hs,hb s hs,Bool.eq_iff_iff];simp only [Bool.not_eq_true',Bool.or_eq_false_iff,Bool.and_eq_false_iff,decide_eq_false_iff_not,beq_iff_eq];omega
theorem kings_rep{B:Bd}{bd:Nat->Int}(h:BRep B bd)(a b:Int):BRep {B with wk:=a,bk:=b} bd:=⟨h.u,h.bit,h.uw,h.ub,h.ue,h.white,h.black,h.empty,h.rng⟩
theorem boardOf_rep{bd:Nat->Int}(hr:∀s,s<64->0<=bd s/\bd s<=12):BRep (boardOf bd) bd:=by
 have hb:BBits (nbTo (mpTo bd 64) 12) bd:=by
  refine ⟨λk=>?_,λk h1 h2 s hs=>?_⟩
  ·show U64 (if 1<=k/\(k:Int)<=12 then bbAcc (mpTo bd 64) (k:Int) 64 else 0);split
   ·exact U_bbAcc _ _ _
   ·unfold U64;omega
  ·show sb (if 1<=k/\(k:Int)<=12 then bbAcc (mpTo bd 64) (k:Int) 64 else 0) s=_;rw [if_pos ⟨h1,by omega⟩,sb_bbAcc _ _ hs];have e:mpTo bd 64 (s:Int)=bd s:=by unfold mpTo;rw [if_pos (by omega)];simp
   rw [e,Bool.eq_iff_iff];simp only [Bool.and_eq_true,bne_iff_ne,beq_iff_eq];constructor
   ·rintro ⟨_,h⟩;exact h.symm
   ·intro h;exact ⟨by omega,h.symm⟩
 exact kings_rep (calc_rep hb hr) _ _
def OnlyAt(bd:Nat->Int)(p:Int)(k:Nat):Prop:=k<64/\bd k=p/\∀s,s<64->bd s=p->s=k
theorem countTo_mono(bd:Nat->Int)(p:Int):∀{m n:Nat},m<=n->countTo bd p m<=countTo bd p n
 |m,0,h=>by
  have:m=0:=by omega
  subst this;exact Int.le_refl _
 |m,n+1,h=>by
  by_cases e:m=n+1
  ·subst e;exact Int.le_refl _
  ·have:=countTo_mono bd p (m:=m) (n:=n) (by omega);have h2:countTo bd p n<=countTo bd p (n+1):=by
    conv=>rhs;unfold countTo
    split<;>omega
   omega
theorem countTo_two{bd:Nat->Int}{p:Int}{a b n:Nat}(hab:a<b)(hbn:b<n)(ha:bd a=p)(hb:bd b=p):2<=countTo bd p n:=by
 have h1:countTo bd p (a+1)=countTo bd p a+1:=by show (if bd a=p then _ else _)=_;rw [if_pos ha]
 have h2:countTo bd p (b+1)=countTo bd p b+1:=by show (if bd b=p then _ else _)=_;rw [if_pos hb]
 have h3:=countTo_mono bd p (m:=a+1) (n:=b) (by omega);have h4:=countTo_mono bd p (m:=b+1) (n:=n) (by omega);have h5:=(countTo_le bd p a).1;omega
theorem kingTo_at{bd:Nat->Int}{p:Int}:∀{n:Nat},kingTo bd p n≠-1->bd (kingTo bd p n).toNat=p
 |0,h=>absurd rfl h
 |n+1,h=>by
  unfold kingTo at h⊢;by_cases hk:kingTo bd p n=-1
  ·rw [if_pos hk] at h⊢;by_cases hb:bd n=p
   ·rw [if_pos hb];simpa using hb
   ·rw [if_neg hb] at h;exact absurd rfl h
  ·rw [if_neg hk];exact kingTo_at hk
theorem only_of_count{bd:Nat->Int}{sd:Int}(h:countS bd (1+6*sd)=1):OnlyAt bd (1+6*sd) (kingAtS bd sd).toNat/\0<=kingAtS bd sd:=by
 have hk:=kingAt_one h;have hat:bd (kingAtS bd sd).toNat=1+6*sd:=kingTo_at (by unfold kingAtS at hk;omega);refine ⟨⟨by omega,hat,λs hs hb=>?_⟩,hk.1⟩;refine Classical.byContradiction λhne=>?_;unfold countS at h;rcases Nat.lt_or_gt_of_ne hne with hlt|hlt
 ·have:=countTo_two hlt (show (kingAtS bd sd).toNat<64 by omega) hb hat;omega
 ·have:=countTo_two hlt hs hat hb;omega
theorem kingAt_only{bd:Nat->Int}{sd:Int}{k:Nat}(h:OnlyAt bd (1+6*sd) k):kingAtS bd sd=k:=by
 unfold kingAtS;refine kingTo_hit (by omega) (λi h0 h1 hb=>?_) (by simpa using h.2.1) 64 (by have:=h.1;omega);have:=h.2.2 i.toNat (by have:=h.1;omega) hb;omega
theorem lastK_only{f:Int->Bool}{k:Nat}:∀{n:Nat},k<n->f k=true->(∀s:Nat,s<n->f s=true->s=k)->lastK f n=k
 |0,h,_,_=>by omega
 |n+1,h,hk,ho=>by
  unfold lastK;by_cases e:f (n:Int)=true
  ·rw [if_pos e];have:=ho n (by omega) e;omega
  ·rw [if_neg e];have hkn:k≠n:=λhh=>e (by rw [←hh];exact hk);exact lastK_only (by omega) hk λs hs=>ho s (by omega)
structure KRep(B:Bd)(bd:Nat->Int):Prop where
 wk:∃k:Nat,OnlyAt bd 1 k/\B.wk=k
 bk:∃k:Nat,OnlyAt bd 7 k/\B.bk=k
theorem boardOf_kings{bd:Nat->Int}(hr:∀s,s<64->0<=bd s/\bd s<=12){a b:Nat}(ha:OnlyAt bd 1 a)(hb:OnlyAt bd 7 b):KRep (boardOf bd) bd:=by
 have hrep:=boardOf_rep hr;have e1:∀s:Nat,s<64->occB ((boardOf bd).bb 1) s=(bd s==1):=λs hs=>by
  rw [occB_sb (hrep.u _) (by omega),Int.toNat_natCast];exact hrep.bit 1 (by decide) (by decide) s hs
 have e7:∀s:Nat,s<64->occB ((boardOf bd).bb 7) s=(bd s==7):=λs hs=>by
  rw [occB_sb (hrep.u _) (by omega),Int.toNat_natCast];exact hrep.bit 7 (by decide) (by decide) s hs
 refine ⟨⟨a,ha,?_⟩,⟨b,hb,?_⟩⟩
 ·show lastK (λi=>occB ((boardOf bd).bb 1) i) 64=a;refine lastK_only ha.1 (by rw [e1 a ha.1,ha.2.1];rfl) λs hs h=>?_;rw [e1 s hs,beq_iff_eq] at h;exact ha.2.2 s hs h
 ·show lastK (λi=>!occB ((boardOf bd).bb 1) i&&occB ((boardOf bd).bb 7) i) 64=b;refine lastK_only hb.1 (by rw [e1 b hb.1,e7 b hb.1,hb.2.1];rfl) λs hs h=>?_;rw [e7 s hs,Bool.and_eq_true,beq_iff_eq] at h;exact hb.2.2 s hs h.2
theorem BBits.congr{B:Bd}{bd bd':Nat->Int}(h:BBits B bd)(e:∀s,s<64->bd s=bd' s):BBits B bd':=⟨h.u,λk h1 h2 s hs=>by rw [←e s hs];exact h.bit k h1 h2 s hs⟩
theorem BRep.bits{B:Bd}{bd:Nat->Int}(h:BRep B bd):BBits B bd:=⟨h.u,h.bit⟩
theorem set_bits{B:Bd}{bd bd':Nat->Int}(h:BBits B bd)(k:Nat){x:Int}(hx:U64 x)(h1:∀j:Nat,1<=j->j<=12->j≠k->∀s,s<64->(bd s==(j:Int))=(bd' s==(j:Int)))(h2:∀s,s<64->sb x s=(bd' s==(k:Int))):BBits (B.set k x) bd':=by
 refine ⟨λj=>?_,λj a b s hs=>?_⟩
 ·show U64 (if j=k then x else B.bb j);split
  ·exact hx
  exact h.u j
 show sb (if j=k then x else B.bb j) s=_;split
 ·rename_i e;subst e;exact h2 s hs
 rename_i e;rw [h.bit j a b s hs];exact h1 j a b e s hs
theorem BBits.of{B:Bd}{bd:Nat->Int}(h:BBits B bd){p:Int}(h0:1<=p)(h1:p<=12){s:Nat}(hs:s<64):sb (Bd.of B p) s=(bd s==p):=by
 unfold Bd.of;rw [if_pos ⟨h0,h1⟩,h.bit p.toNat (by omega) (by omega) s hs,show ((p.toNat:Nat):Int)=p by omega]
theorem upd_at{f:Nat->Int}{i:Nat}{v:Int}:upd f i v i=v:=if_pos rfl
theorem upd_ne{f:Nat->Int}{i j:Nat}{v:Int}(h:j≠i):upd f i v j=f j:=if_neg h
theorem U_mvBB{M:Mv}{x:Int}:U64 (mvBB M x):=by
 unfold mvBB;cases occB x M.s1
 ·exact U_band _ _
 exact U_bor _ _
theorem updTo_bits{B:Bd}{bd:Nat->Int}(h:BBits B bd){M:Mv}(hf:0<=M.s1/\M.s1<=63)(ht:0<=M.s2/\M.s2<=63)(hne:M.s1≠M.s2):BBits (updTo B M 12) (upd (upd bd M.s1.toNat 0) M.s2.toNat (bd M.s1.toNat)):=by
 refine ⟨λk=>?_,λk h1 h2 s hs=>?_⟩
 ·show U64 (if 1<=k/\(k:Int)<=12 then mvBB M (B.bb k) else B.bb k);split
  ·exact U_mvBB
  exact h.u k
 show sb (if 1<=k/\(k:Int)<=12 then mvBB M (B.bb k) else B.bb k) s=_;rw [if_pos ⟨h1,by omega⟩];unfold mvBB;rw [occB_sb (h.u k) hf,h.bit k h1 h2 _ (by omega)];have e2:decide ((s:Int)=M.s2)=decide (s=M.s2.toNat):=by rw [decide_eq_decide];omega
 have e1:decide ((s:Int)=M.s1)=decide (s=M.s1.toNat):=by rw [decide_eq_decide];omega
 by_cases hst:s=M.s2.toNat
 ·subst hst;rw [upd_at];cases hk:(bd M.s1.toNat==(k:Int))
  ·simp only [cond_false];rw [sb_band,sb_bnot _ hs,sb_bbSq ht hs,e2];simp
  simp only [cond_true];rw [sb_bor,sb_bbSq ht hs,e2];simp
 rw [upd_ne hst];by_cases hsf:s=M.s1.toNat
 ·subst hsf;rw [upd_at,show (0==(k:Int))=false by rw [beq_eq_false_iff_ne];omega];cases hk:(bd M.s1.toNat==(k:Int))
  ·simp only [cond_false];rw [sb_band,h.bit k h1 h2 _ hs,hk];rfl
  simp only [cond_true];rw [sb_bor,sb_band,sb_bnot _ hs,sb_bbSq hf hs,sb_bbSq ht hs,e1,e2];simp [hst]
 rw [upd_ne hsf];cases hk:(bd M.s1.toNat==(k:Int))
 ·simp only [cond_false];rw [sb_band,sb_bnot _ hs,sb_bbSq ht hs,e2,h.bit k h1 h2 s hs];simp [hst]
 simp only [cond_true];rw [sb_bor,sb_band,sb_band,sb_bnot _ hs,sb_bnot _ hs,sb_bbSq hf hs,sb_bbSq ht hs,e1,e2,h.bit k h1 h2 s hs];simp [hst,hsf]
theorem updPromo_bits{B:Bd}{bd:Nat->Int}(h:BBits B bd){M:Mv}(ht:0<=M.s2/\M.s2<=63){p1:Int}(hp:1<=p1/\p1<=12)(hat:bd M.s2.toNat=p1)(hn:1<=newP M.promo (pColor p1)/\newP M.promo (pColor p1)<=12)(h0:M.promo≠0):
  BBits (updPromo M p1 B) (upd bd M.s2.toNat (newP M.promo (pColor p1))):=by
 unfold updPromo;rw [show (M.promo !=0)=true from bne_iff_ne.2 h0];simp only [cond_true];have hm:BBits (Bd.set B p1.toNat (band (Bd.of B p1) (bnot (bbSq M.s2)))) (upd bd M.s2.toNat 0):=by
  refine set_bits h _ (U_band _ _) (λj h1 h2 hj s hs=>?_) (λs hs=>?_)
  ·by_cases e:s=M.s2.toNat
   ·subst e;rw [upd_at,hat,Bool.eq_iff_iff,beq_iff_eq,beq_iff_eq];omega
   rw [upd_ne e]
  rw [sb_band,sb_bnot _ hs,sb_bbSq ht hs,h.of hp.1 hp.2 hs,show ((p1.toNat:Nat):Int)=p1 by omega];by_cases e:s=M.s2.toNat
  ·subst e;rw [upd_at,show decide ((M.s2.toNat:Int)=M.s2)=true by rw [decide_eq_true_eq];omega];simp;omega
  rw [upd_ne e,show decide ((s:Int)=M.s2)=false by rw [decide_eq_false_iff_not];omega];simp
 have hcg:∀s,s<64->upd (upd bd M.s2.toNat 0) M.s2.toNat (newP M.promo (pColor p1)) s=upd bd M.s2.toNat (newP M.promo (pColor p1)) s:=by
  intro s hs;by_cases e:s=M.s2.toNat
  ·subst e;rw [upd_at,upd_at]
  rw [upd_ne e,upd_ne e,upd_ne e]
 refine BBits.congr ?_ hcg;refine set_bits hm _ (U_bor _ _) (λj h1 h2 hj s hs=>?_) (λs hs=>?_)
 ·by_cases e:s=M.s2.toNat
  ·subst e;rw [upd_at,upd_at,Bool.eq_iff_iff,beq_iff_eq,beq_iff_eq];omega
  rw [upd_ne e,upd_ne e,upd_ne e]
 rw [sb_bor,sb_bbSq ht hs,hm.of hn.1 hn.2 hs,show (((newP M.promo (pColor p1)).toNat:Nat):Int)=newP M.promo (pColor p1) by omega];by_cases e:s=M.s2.toNat
 ·subst e;rw [upd_at,upd_at,show decide ((M.s2.toNat:Int)=M.s2)=true by rw [decide_eq_true_eq];omega];simp
 rw [upd_ne e,upd_ne e,upd_ne e,show decide ((s:Int)=M.s2)=false by rw [decide_eq_false_iff_not];omega];simp
theorem updEP_bits{B:Bd}{bd:Nat->Int}(h:BBits B bd){M:Mv}(ht:0<=M.s2/\M.s2<=63){p1:Int}(h8:hasTag M 8=true){q:Nat}(hq:q<64)
  (hc:(pColor p1=1/\M.s2=(q:Int)+8/\bd q=12)\/(pColor p1=2/\M.s2=(q:Int)-8/\bd q=6)):BBits (updEP M p1 B) (upd bd q 0):=by
 unfold updEP;rw [h8];simp only [cond_true];rcases hc with ⟨hc,he,hb⟩|⟨hc,he,hb⟩
 ·rw [hc];simp only [show ((1:Int)==1)=true from rfl,cond_true];refine set_bits h 12 (U_band _ _) (λj h1 h2 hj s hs=>?_) (λs hs=>?_)
  ·by_cases e:s=q
   ·subst e;rw [upd_at,hb,Bool.eq_iff_iff,beq_iff_eq,beq_iff_eq];omega
   rw [upd_ne e]
  rw [sb_band,sb_bnot _ hs,sb_shl8 _ hs,h.bit 12 (by decide) (by decide) s hs];by_cases e:s=q
  ·subst e;rw [upd_at,sb_bbSq ht (by omega)];simp;omega
  rw [upd_ne e];by_cases h8':s+8<64
  ·rw [sb_bbSq ht h8',show decide (((s+8:Nat):Int)=M.s2)=false by rw [decide_eq_false_iff_not];omega];simp
  simp [h8']
 rw [hc];simp only [show ((2:Int)==1)=false from rfl,cond_false];refine set_bits h 6 (U_band _ _) (λj h1 h2 hj s hs=>?_) (λs hs=>?_)
 ·by_cases e:s=q
  ·subst e;rw [upd_at,hb,Bool.eq_iff_iff,beq_iff_eq,beq_iff_eq];omega
  rw [upd_ne e]
 rw [sb_band,sb_bnot _ hs,sb_shr8 (U_bbSq _) hs,h.bit 6 (by decide) (by decide) s hs];by_cases e:s=q
 ·subst e;rw [upd_at,sb_bbSq ht (by omega)];simp;omega
 rw [upd_ne e];by_cases h8':8<=s
 ·rw [sb_bbSq ht (by omega),show decide (((s-8:Nat):Int)=M.s2)=false by rw [decide_eq_false_iff_not];omega];simp
 simp [h8']
theorem rook_bits{B:Bd}{bd:Nat->Int}(h:BBits B bd){k:Nat}(hk:1<=k/\k<=12){a b:Nat}(ha:a<64)(hb:b<64)(hab:a≠b)(h1:bd a=k)(h2:bd b=0):BBits (rook B k a b) (upd (upd bd a 0) b k):=by
 unfold rook;refine set_bits h k (U_bor _ _) (λj hj1 hj2 hj s hs=>?_) (λs hs=>?_)
 ·by_cases e:s=b
  ·subst e;rw [upd_at,h2,Bool.eq_iff_iff,beq_iff_eq,beq_iff_eq];omega
  rw [upd_ne e];by_cases e2:s=a
  ·subst e2;rw [upd_at,h1,Bool.eq_iff_iff,beq_iff_eq,beq_iff_eq];omega
  rw [upd_ne e2]
 rw [sb_bor,sb_band,sb_bnot _ hs,sb_bbSq (by omega) hs,sb_bbSq (by omega) hs,h.bit k hk.1 hk.2 s hs];by_cases e:s=b
 ·subst e;rw [upd_at];simp
 rw [upd_ne e,show decide ((s:Int)=(b:Int))=false by rw [decide_eq_false_iff_not];omega];by_cases e2:s=a
 ·subst e2;rw [upd_at,show (0==(k:Int))=false by rw [beq_eq_false_iff_ne];omega];simp
 rw [upd_ne e2,show decide ((s:Int)=(a:Int))=false by rw [decide_eq_false_iff_not];omega];simp
def tagb(x:Int)(i:Nat):Bool:=(BitVec.ofInt 16 x).getLsbD i
theorem wrap16(n:Int):IntKind.u16.wrap n=n%65536:=by simp [IntKind.wrap,IntKind.bits,IntKind.signed]
theorem V16(b:BitVec 16):BitVec.ofInt 16 (IntKind.u16.wrap b.toNat)=b:=by
 apply BitVec.eq_of_toNat_eq;rw [wrap16,BitVec.toNat_ofInt];have:=b.isLt;omega
theorem tagb_or(x t:Int)(i:Nat):tagb (orTag x t) i=(tagb x i||tagb t i):=by
 unfold tagb orTag;have e:BitVec.ofInt 16 (bitsV .or .u16 x t)=BitVec.ofInt 16 x|||BitVec.ofInt 16 t:=V16 _;rw [e,BitVec.getLsbD_or]
theorem hasTag_bit(M:Mv){t:Int}{i:Nat}(hi:i<16)(ht:∀j,j<16->tagb t j=decide (j=i)):hasTag M t=tagb M.tags i:=by
 unfold hasTag;have e:BitVec.ofInt 16 (bitsV .and .u16 t M.tags)=BitVec.ofInt 16 t&&&BitVec.ofInt 16 M.tags:=V16 _;have hr:0<=bitsV .and .u16 t M.tags/\bitsV .and .u16 t M.tags<65536:=by
  show 0<=IntKind.u16.wrap _/\IntKind.u16.wrap _<65536;rw [wrap16];omega
 have hb:∀j,j<16->tagb (bitsV .and .u16 t M.tags) j=(decide (j=i)&&tagb M.tags j):=by
  intro j hj;rw [←ht j hj];unfold tagb;rw [e,BitVec.getLsbD_and]
 rw [Bool.eq_iff_iff,decide_eq_true_eq];constructor
 ·intro h;refine Classical.byContradiction λhn=>?_;have hz:BitVec.ofInt 16 (bitsV .and .u16 t M.tags)=0#16:=by
   apply BitVec.eq_of_getLsbD_eq;intro j hj;have:=hb j hj;unfold tagb at this;rw [this];by_cases e2:j=i
   ·subst e2;unfold tagb at hn;simp [hn]
   simp [e2]
  have:=congrArg BitVec.toNat hz;rw [BitVec.toNat_ofInt] at this;simp at this;omega
 intro h;have h1:=hb i hi;simp only [decide_true,Bool.true_and] at h1;rw [h] at h1;refine Classical.byContradiction λhn=>?_;have e0:bitsV .and .u16 t M.tags=0:=by omega
 rw [e0] at h1;unfold tagb at h1;simp at h1
theorem tag1(M:Mv):hasTag M 1=tagb M.tags 0:=hasTag_bit M (by decide) (by decide)
theorem tag2(M:Mv):hasTag M 2=tagb M.tags 1:=hasTag_bit M (by decide) (by decide)
theorem tag4(M:Mv):hasTag M 4=tagb M.tags 2:=hasTag_bit M (by decide) (by decide)
theorem tag8(M:Mv):hasTag M 8=tagb M.tags 3:=hasTag_bit M (by decide) (by decide)
theorem tag16(M:Mv):hasTag M 16=tagb M.tags 4:=hasTag_bit M (by decide) (by decide)
theorem tag32(M:Mv):hasTag M 32=tagb M.tags 5:=hasTag_bit M (by decide) (by decide)
def rayOk(l:List (Int×Int))(far:Bool)(al:Nat->Nat->Bool):Bool:=
 (List.range 64).all λs=>l.all λd=>(List.range 7).all λ(n:Nat)=>
  decide (raySq s d ((n:Int)+1)<0)||(bif far then (al s (raySq s d ((n:Int)+1)).toNat&&(!(Nat.beq s (raySq s d ((n:Int)+1)).toNat)&&
   ((btw s (raySq s d ((n:Int)+1)).toNat==(List.range n).map λ(m:Nat)=>(raySq s d ((m:Int)+1)).toNat)&&(List.range n).all λ(m:Nat)=>decide (0<=raySq s d ((m:Int)+1)))))
   else (!(Nat.beq n 0)||(al s (raySq s d 1).toNat&&!(Nat.beq s (raySq s d 1).toNat))))
def rayHit(l:List (Int×Int))(far:Bool)(al:Nat->Nat->Bool):Bool:=
 (List.range 64).all λs=>(List.range 64).all λt=>(!(al s t)||Nat.beq s t)||l.any λd=>(List.range (bif far then 7 else 1)).any λ(n:Nat)=>decide (raySq s d ((n:Int)+1)=t)
theorem ray_q1:rayOk (straightL++slantL) true (λs t=>strt s t||slnt s t)=true:=by decide+kernel
theorem ray_q2:rayHit (straightL++slantL) true (λs t=>strt s t||slnt s t)=true:=by decide+kernel
theorem ray_r1:rayOk straightL true strt=true:=by decide+kernel
theorem ray_r2:rayHit straightL true strt=true:=by decide+kernel
theorem ray_b1:rayOk slantL true slnt=true:=by decide+kernel
theorem ray_b2:rayHit slantL true slnt=true:=by decide+kernel
theorem ray_k1:rayOk (straightL++slantL) false near=true:=by decide+kernel
theorem ray_k2:rayHit (straightL++slantL) false near=true:=by decide+kernel
theorem ray_n1:rayOk jumpL false jump=true:=by decide+kernel
theorem ray_n2:rayHit jumpL false jump=true:=by decide+kernel
theorem rayF_mem(bd:Nat->Int)(s:Int)(far:Bool)(d:Int×Int)(t:Int):∀(m:Nat) (n:Int),t∈rayF bd s far d m n↔∃j:Nat,j<m/\raySq s d (n+j)=t/\0<=t/\∀i:Nat,i<j->(0<=raySq s d (n+i)/\far=true/\bd (raySq s d (n+i)).toNat=0)
 |0,n=>by simp [rayF]
 |m+1,n=>by
  have ih:=rayF_mem bd s far d t m (n+1);have e0:rayF bd s far d (m+1) n=if raySq s d n<0 then [] else raySq s d n::(if ((!far)||(bd (raySq s d n).toNat !=0))=true then [] else rayF bd s far d m (n+1)):=rfl
  rw [e0];have z:n+((0:Nat):Int)=n:=by omega
  have sc:∀i:Nat,n+((i+1:Nat):Int)=n+1+i:=by intro i;omega
  by_cases h0:raySq s d n<0
  ·rw [if_pos h0];constructor
   ·intro h;cases h
   ·rintro ⟨j,hj,e,ht,hi⟩;rcases j with _|j
    ·rw [z] at e;omega
    ·have:=(hi 0 (by omega)).1;rw [z] at this;omega
  ·rw [if_neg h0,List.mem_cons];by_cases hs:((!far)||(bd (raySq s d n).toNat !=0))=true
   ·rw [if_pos hs];constructor
    ·rintro (rfl|h)
     ·exact ⟨0,by omega,by rw [z],by omega,λi hi=>absurd hi (by omega)⟩
     ·cases h
    ·rintro ⟨j,hj,e,ht,hi⟩;rcases j with _|j
     ·rw [z] at e;exact Or.inl e.symm
     ·exfalso;obtain ⟨_,hf,hb⟩:=hi 0 (by omega);rw [z] at hb;rw [hf,hb] at hs;simp at hs
   ·rw [if_neg hs,ih];simp only [Bool.or_eq_true,Bool.not_eq_true',bne_iff_ne,not_or,Bool.not_eq_false,Classical.not_not] at hs;constructor
    ·rintro (rfl|⟨j,hj,e,ht,hi⟩)
     ·exact ⟨0,by omega,by rw [z],by omega,λi hi=>absurd hi (by omega)⟩
     ·refine ⟨j+1,by omega,by rw [sc];exact e,ht,λi hi'=>?_⟩;rcases i with _|i
      ·rw [z];exact ⟨by omega,hs.1,hs.2⟩
      ·rw [sc];exact hi i (by omega)
    ·rintro ⟨j,hj,e,ht,hi⟩;rcases j with _|j
     ·rw [z] at e;exact Or.inl e.symm
     ·refine Or.inr ⟨j,by omega,by rw [←sc];exact e,ht,λi hi'=>?_⟩;rw [←sc];exact hi (i+1) (by omega)
theorem nbeq{a b:Nat}:(!(Nat.beq a b))=true↔a≠b:=by
 constructor
 ·intro h e;subst e;simp at h
 intro h;cases hh:Nat.beq a b
 ·rfl
 exact absurd (Nat.eq_of_beq_eq_true hh) h
theorem rayOk_get{l:List (Int×Int)}{far:Bool}{al:Nat->Nat->Bool}(h:rayOk l far al=true){s:Nat}(hs:s<64){d:Int×Int}(hd:d∈l){n:Nat}(hn:n<7)(h0:0<=raySq s d ((n:Int)+1)):
  (far=true->al s (raySq s d ((n:Int)+1)).toNat=true/\s≠(raySq s d ((n:Int)+1)).toNat/\btw s (raySq s d ((n:Int)+1)).toNat=((List.range n).map λ(m:Nat)=>(raySq s d ((m:Int)+1)).toNat)/\∀m:Nat,m<n->0<=raySq s d ((m:Int)+1))/\
  (far=false->n=0->al s (raySq s d 1).toNat=true/\s≠(raySq s d 1).toNat):=by
 have h1:=List.all_eq_true.1 (List.all_eq_true.1 (List.all_eq_true.1 h s (List.mem_range.2 hs)) d hd) n (List.mem_range.2 hn);rw [show decide (raySq s d ((n:Int)+1)<0)=false by rw [decide_eq_false_iff_not];omega,Bool.false_or] at h1;constructor
 ·rintro rfl;simp only [cond_true,Bool.and_eq_true,beq_iff_eq,nbeq] at h1;refine ⟨h1.1,h1.2.1,h1.2.2.1,λm hm=>?_⟩;have:=List.all_eq_true.1 h1.2.2.2 m (List.mem_range.2 hm);simpa using this
 rintro rfl rfl;simp only [cond_false,show Nat.beq 0 0=true from rfl,Bool.not_true,Bool.false_or,Bool.and_eq_true,nbeq] at h1;exact h1
theorem rayHit_get{l:List (Int×Int)}{far:Bool}{al:Nat->Nat->Bool}(h:rayHit l far al=true){s t:Nat}(hs:s<64)(ht:t<64)(ha:al s t=true)(hne:s≠t):
  ∃d∈l,∃n:Nat,n<(bif far then 7 else 1)/\raySq s d ((n:Int)+1)=t:=by
 have h1:=List.all_eq_true.1 (List.all_eq_true.1 h s (List.mem_range.2 hs)) t (List.mem_range.2 ht);have hb:Nat.beq s t=false:=by
  have:=nbeq.2 hne;simpa using this
 rw [ha,hb] at h1;simp only [Bool.not_true,Bool.false_or] at h1;obtain ⟨d,hd,h2⟩:=List.any_eq_true.1 h1;obtain ⟨n,hn,h3⟩:=List.any_eq_true.1 h2;exact ⟨d,hd,n,List.mem_range.1 hn,of_decide_eq_true h3⟩
theorem raySq_rng(s:Int)(d:Int×Int)(n:Int):raySq s d n<=63:=(atS_rng _ _).2
theorem ray_far{bd:Nat->Int}{l:List (Int×Int)}{al:Nat->Nat->Bool}(h1:rayOk l true al=true)(h2:rayHit l true al=true){s t:Int}(hs:0<=s/\s<=63):
  (∃d∈l,t∈rayF bd s true d 7 1)↔(0<=t/\t<=63)/\al s.toNat t.toNat=true/\s≠t/\clr (occS bd) s.toNat t.toNat=true:=by
 obtain ⟨S,hS⟩:∃S:Nat,s=S:=⟨s.toNat,by omega⟩;subst hS;rw [Int.toNat_natCast];constructor
 ·rintro ⟨d,hd,ht⟩;obtain ⟨j,hj,e,h0,hi⟩:=(rayF_mem bd S true d t 7 1).1 ht;rw [Int.add_comm] at e;have hg:=(rayOk_get (s:=S) h1 (by omega) hd hj (by rw [e];exact h0)).1 rfl;rw [e] at hg;obtain ⟨ha,hne,hb,hm⟩:=hg;have hr:=raySq_rng S d ((j:Int)+1);refine ⟨by omega,ha,by omega,?_⟩;unfold clr;rw [hb,List.all_map,List.all_eq_true];intro m hmm;have:=(hi m (List.mem_range.1 hmm)).2.2;rw [Int.add_comm] at this;simp only [Function.comp,occS,this,bne_self_eq_false,Bool.not_false]
 rintro ⟨ht,ha,hne,hc⟩;obtain ⟨d,hd,n,hn,e⟩:=rayHit_get h2 (by omega) (show t.toNat<64 by omega) ha (by omega);simp only [cond_true] at hn;have e':raySq S d ((n:Int)+1)=t:=by rw [e];omega
 refine ⟨d,hd,(rayF_mem bd S true d t 7 1).2 ⟨n,hn,by rw [Int.add_comm];exact e',by omega,λi hi=>?_⟩⟩;have hg:=(rayOk_get (s:=S) h1 (by omega) hd hn (by rw [e'];omega)).1 rfl;rw [e'] at hg;obtain ⟨_,_,hb,hm⟩:=hg;rw [Int.add_comm];refine ⟨hm i hi,rfl,?_⟩;unfold clr at hc;rw [hb,List.all_map,List.all_eq_true] at hc;have:=hc i (List.mem_range.2 hi);simpa [Function.comp,occS] using this
theorem ray_near{bd:Nat->Int}{l:List (Int×Int)}{al:Nat->Nat->Bool}(h1:rayOk l false al=true)(h2:rayHit l false al=true){s t:Int}(hs:0<=s/\s<=63):
  (∃d∈l,t∈rayF bd s false d 7 1)↔(0<=t/\t<=63)/\al s.toNat t.toNat=true/\s≠t:=by
 obtain ⟨S,hS⟩:∃S:Nat,s=S:=⟨s.toNat,by omega⟩;subst hS;rw [Int.toNat_natCast];constructor
 ·rintro ⟨d,hd,ht⟩;obtain ⟨j,hj,e,h0,hi⟩:=(rayF_mem bd S false d t 7 1).1 ht;have hj0:j=0:=by
   refine Classical.byContradiction λhh=>?_;have:=(hi 0 (by omega)).2.1;cases this
  subst hj0;have e1:raySq S d 1=t:=e;have hg:=(rayOk_get (s:=S) h1 (by omega) hd (n:=0) (by decide) (by show 0<=raySq S d 1;rw [e1];exact h0)).2 rfl rfl;rw [e1] at hg;have hr:=raySq_rng S d 1;exact ⟨by omega,hg.1,by have:=hg.2;omega⟩
 rintro ⟨ht,ha,hne⟩;obtain ⟨d,hd,n,hn,e⟩:=rayHit_get h2 (by omega) (show t.toNat<64 by omega) ha (by omega);simp only [cond_false] at hn;have hn0:n=0:=by omega
 subst hn0;have e1:raySq S d 1=(t.toNat:Int):=e;exact ⟨d,hd,(rayF_mem bd S false d t 7 1).2 ⟨0,by decide,by show raySq S d 1=t;rw [e1];omega,by omega,λi hi=>absurd hi (by omega)⟩⟩
theorem reach_iff{bd:Nat->Int}(hr:∀s,s<64->0<=bd s/\bd s<=12){s t:Int}(hs:0<=s/\s<=63)(h0:bd s.toNat≠0)(h6:kindOf (bd s.toNat)≠6):
  t∈reachL bd s↔(0<=t/\t<=63)/\hitS bd s.toNat t.toNat=true:=by
 have hx:=hr s.toNat (by omega);obtain ⟨hk,hk2⟩:=kind_cases (x:=bd s.toNat) (by omega);have hm:t∈reachL bd s↔∃d∈wayL (kindOf (bd s.toNat)),t∈rayF bd s (farB (kindOf (bd s.toNat))) d 7 1:=by
  unfold reachL reachTo;rw [List.take_of_length_le (wayL_len _),List.mem_flatMap]
 rw [hm];have hd:(decide (s.toNat≠t.toNat)=true/\(0<=t/\t<=63))↔(s≠t/\(0<=t/\t<=63)):=by rw [decide_eq_true_eq];omega
 have hc:kindOf (bd s.toNat)=1\/kindOf (bd s.toNat)=2\/kindOf (bd s.toNat)=3\/kindOf (bd s.toNat)=4\/kindOf (bd s.toNat)=5:=by omega
 have hb:(bd s.toNat !=0)=true:=bne_iff_ne.2 h0;unfold hitS;rw [hb,Bool.true_and,Bool.and_eq_true];rcases hc with e|e|e|e|e<;>rw [e]
 ·rw [show wayL 1=straightL++slantL from rfl,show farB 1=false from rfl,ray_near ray_k1 ray_k2 hs];simp only [if_true];constructor
  ·rintro ⟨a,b,c⟩;exact ⟨a,(hd.2 ⟨c,a⟩).1,b⟩
  rintro ⟨a,b,c⟩;exact ⟨a,c,(hd.1 ⟨b,a⟩).1⟩
 ·rw [show wayL 2=straightL++slantL from rfl,show farB 2=true from rfl,ray_far ray_q1 ray_q2 hs];simp only [show ((2:Int)=1)=False by decide,show ((2:Int)=5)=False by decide,show ((2:Int)=6)=False by decide,show ((2:Int)=3)=False by decide,show ((2:Int)=4)=False by decide,if_false,Bool.and_eq_true];constructor
  ·rintro ⟨a,b,c,d⟩;exact ⟨a,(hd.2 ⟨c,a⟩).1,b,d⟩
  rintro ⟨a,b,c,d⟩;exact ⟨a,c,(hd.1 ⟨b,a⟩).1,d⟩
 ·rw [show wayL 3=straightL from rfl,show farB 3=true from rfl,ray_far ray_r1 ray_r2 hs];simp only [show ((3:Int)=1)=False by decide,show ((3:Int)=5)=False by decide,show ((3:Int)=6)=False by decide,if_true,if_false,Bool.and_eq_true];constructor
  ·rintro ⟨a,b,c,d⟩;exact ⟨a,(hd.2 ⟨c,a⟩).1,b,d⟩
  rintro ⟨a,b,c,d⟩;exact ⟨a,c,(hd.1 ⟨b,a⟩).1,d⟩
 ·rw [show wayL 4=slantL from rfl,show farB 4=true from rfl,ray_far ray_b1 ray_b2 hs];simp only [show ((4:Int)=1)=False by decide,show ((4:Int)=5)=False by decide,show ((4:Int)=6)=False by decide,show ((4:Int)=3)=False by decide,if_true,if_false,Bool.and_eq_true];constructor
  ·rintro ⟨a,b,c,d⟩;exact ⟨a,(hd.2 ⟨c,a⟩).1,b,d⟩
  rintro ⟨a,b,c,d⟩;exact ⟨a,c,(hd.1 ⟨b,a⟩).1,d⟩
 rw [show wayL 5=jumpL from rfl,show farB 5=false from rfl,ray_near ray_n1 ray_n2 hs];simp only [show ((5:Int)=1)=False by decide,if_true,if_false];constructor
 ·rintro ⟨a,b,c⟩;exact ⟨a,(hd.2 ⟨c,a⟩).1,b⟩
 rintro ⟨a,b,c⟩;exact ⟨a,c,(hd.1 ⟨b,a⟩).1⟩
theorem possMv_hit{B:Bd}{bd:Nat->Int}(h:BRep B bd)(S:Ps){s t:Nat}(hs:s<64)(ht:t<64)(h0:bd s≠0)(h6:kindOf (bd s)≠6):sb (possMv B S (pType (bd s)) s) t=hitS bd s t:=by
 have hx:=h.rng s hs;obtain ⟨hk,hk2⟩:=kind_cases (x:=bd s) (by omega);have hp:pType (bd s)=kindOf (bd s):=by
  have hc:bd s=1\/bd s=2\/bd s=3\/bd s=4\/bd s=5\/bd s=6\/bd s=7\/bd s=8\/bd s=9\/bd s=10\/bd s=11\/bd s=12:=by omega
  rcases hc with e|e|e|e|e|e|e|e|e|e|e|e<;>rw [e]<;>rfl
 rw [hp];have hc:kindOf (bd s)=1\/kindOf (bd s)=2\/kindOf (bd s)=3\/kindOf (bd s)=4\/kindOf (bd s)=5:=by omega
 have hb:(bd s !=0)=true:=bne_iff_ne.2 h0;have hne:decide (t≠s)=decide (s≠t):=by rw [decide_eq_decide];exact ⟨Ne.symm,Ne.symm⟩
 unfold hitS possMv;rw [hb,Bool.true_and];rcases hc with e|e|e|e|e<;>rw [e]
 ·simp only [show ((1:Int)==1)=true from rfl,cond_true,if_true];rw [sb_king hs ht,hne,Bool.and_comm]
 ·simp only [show ((2:Int)==1)=false from rfl,show ((2:Int)==2)=true from rfl,cond_true,cond_false,show ((2:Int)=1)=False by decide,show ((2:Int)=5)=False by decide,show ((2:Int)=6)=False by decide,show ((2:Int)=3)=False by decide,show ((2:Int)=4)=False by decide,if_false];rw [sb_bor,sb_dia h hs ht,sb_hv h hs ht,hne];cases decide (s≠t)<;>cases strt s t<;>cases slnt s t<;>cases clr (occS bd) s t<;>rfl
 ·simp only [show ((3:Int)==1)=false from rfl,show ((3:Int)==2)=false from rfl,show ((3:Int)==3)=true from rfl,cond_true,cond_false,show ((3:Int)=1)=False by decide,show ((3:Int)=5)=False by decide,show ((3:Int)=6)=False by decide,if_true,if_false];rw [sb_hv h hs ht,hne]
 ·simp only [show ((4:Int)==1)=false from rfl,show ((4:Int)==2)=false from rfl,show ((4:Int)==3)=false from rfl,show ((4:Int)==4)=true from rfl,cond_true,cond_false,show ((4:Int)=1)=False by decide,show ((4:Int)=5)=False by decide,show ((4:Int)=6)=False by decide,show ((4:Int)=3)=False by decide,if_true,if_false];rw [sb_dia h hs ht,hne]
 simp only [show ((5:Int)==1)=false from rfl,show ((5:Int)==2)=false from rfl,show ((5:Int)==3)=false from rfl,show ((5:Int)==4)=false from rfl,show ((5:Int)==5)=true from rfl,cond_true,cond_false,show ((5:Int)=1)=False by decide,if_true,if_false];rw [sb_knight hs ht];by_cases hst:s=t
 ·subst hst;rw [jump_ne];simp
 simp [hst]
theorem sqRank3:∀s,s<64->sb 280375465082880 s=(decide (16<=s)&&decide (s<24)):=by decide
theorem sqRank6:∀s,s<64->sb 16711680 s=(decide (40<=s)&&decide (s<48)):=by decide
theorem sb_ep{ep:Int}(h:-1<=ep/\ep<=63){t:Nat}(ht:t<64):sb (epBB ep) t=decide ((t:Int)=ep):=by
 unfold epBB;by_cases e:ep=-1
 ·subst e;simp only [show ((-1) !=-1)=false from rfl,cond_false];rw [show decide ((t:Int)=-1)=false by rw [decide_eq_false_iff_not];omega];revert t;decide
 rw [show (ep !=-1)=true from bne_iff_ne.2 e];simp only [cond_true];exact sb_bbSq (by omega) ht
theorem bbS{s t:Nat}(hs:s<64)(ht:t<64):sb (bbSq (s:Int)) t=decide (t=s):=by
 rw [sb_bbSq (by omega) ht,decide_eq_decide];omega
theorem sb4(X Y Z U W E:Int)(t:Nat):sb (bor (bor (bor (band X Y) (band Z Y)) (band U E)) (band W E)) t=((((sb X t&&sb Y t)||(sb Z t&&sb Y t))||(sb U t&&sb E t))||(sb W t&&sb E t)):=by
 rw [sb_bor,sb_bor,sb_bor,sb_band,sb_band,sb_band,sb_band]
theorem pawnMv_w{B:Bd}{bd:Nat->Int}(h:BRep B bd){S:Ps}(hT:S.turn=1)(he:-1<=S.ep/\S.ep<=63){s t:Nat}(hs:s<64)(ht:t<64):
  sb (pawnMv B S s) t=true↔((((t=s+9/\s%8≠7)\/(t=s+7/\s%8≠0))/\s<56/\(7<=bd t\/(t:Int)=S.ep))\/(t=s+8/\bd t=0)\/(t=s+16/\8<=s/\s<16/\bd (s+8)=0/\bd t=0)):=by
 unfold pawnMv;rw [hT];simp only [show ((1:Int)==1)=true from rfl,cond_true];have e9:sb (shrU (band (band (bbSq (s:Int)) (18374403900871474942:Int)) (18446744073709551360:Int)) (9:Int)) t=true↔t=s+9/\s%8≠7/\s<56:=by
  rw [sb_shr9 (U_band _ _) ht];by_cases hl:9<=t
  ·rw [sb_band,sb_band,bbS hs (by omega),nFileH _ (by omega),nRank8 _ (by omega)];simp only [Bool.and_eq_true,decide_eq_true_eq];constructor
   ·rintro ⟨_,⟨a,b⟩,c⟩;omega
   rintro ⟨a,b,c⟩;omega
  simp only [hl,decide_false,Bool.false_and,Bool.false_eq_true,false_iff];omega
 have e7:sb (shrU (band (band (bbSq (s:Int)) (9187201950435737471:Int)) (18446744073709551360:Int)) (7:Int)) t=true↔t=s+7/\s%8≠0/\s<56:=by
  rw [sb_shr7 (U_band _ _) ht];by_cases hl:7<=t
  ·rw [sb_band,sb_band,bbS hs (by omega),nFileA _ (by omega),nRank8 _ (by omega)];simp only [Bool.and_eq_true,decide_eq_true_eq];constructor
   ·rintro ⟨_,⟨a,b⟩,c⟩;omega
   rintro ⟨a,b,c⟩;omega
  simp only [hl,decide_false,Bool.false_and,Bool.false_eq_true,false_iff];omega
 have e8:∀u,u<64->(sb (shr8 (band (bbSq (s:Int)) (18446744073709551360:Int))) u=true↔u=s+8):=by
  intro u hu;rw [sb_shr8 (U_band _ _) hu];by_cases hl:8<=u
  ·rw [sb_band,bbS hs (by omega),nRank8 _ (by omega)];simp only [Bool.and_eq_true,decide_eq_true_eq];constructor
   ·rintro ⟨_,a,b⟩;omega
   rintro a;omega
  simp only [hl,decide_false,Bool.false_and,Bool.false_eq_true,false_iff];omega
 have e16:sb (shr8 (band (band (shr8 (band (bbSq (s:Int)) (18446744073709551360:Int))) B.empty) (280375465082880:Int))) t=true↔t=s+16/\8<=s/\s<16/\bd (s+8)=0:=by
  rw [sb_shr8 (U_band _ _) ht];by_cases hl:8<=t
  ·rw [sb_band,sb_band,sqRank3 _ (by omega),h.empty _ (by omega)];simp only [Bool.and_eq_true,decide_eq_true_eq,beq_iff_eq];rw [e8 (t-8) (by omega)];constructor
   ·rintro ⟨_,⟨a,b⟩,c⟩;rw [a] at b;exact ⟨by omega,by omega,by omega,b⟩
   rintro ⟨a,b,c,d⟩;have:t-8=s+8:=by omega
   rw [this];exact ⟨hl,⟨rfl,d⟩,by omega⟩
  simp only [hl,decide_false,Bool.false_and,Bool.false_eq_true,false_iff];omega
 have hb:sb (bor B.black (epBB S.ep)) t=true↔(7<=bd t\/(t:Int)=S.ep):=by
  rw [sb_bor,h.black t ht,sb_ep he ht];simp
 have hem:sb B.empty t=true↔bd t=0:=by rw [h.empty t ht,beq_iff_eq]
 rw [sb4];simp only [Bool.or_eq_true,Bool.and_eq_true];rw [e9,e7,e8 t ht,e16,hem,hb];omega
theorem pawnMv_b{B:Bd}{bd:Nat->Int}(h:BRep B bd){S:Ps}(hT:S.turn=2)(he:-1<=S.ep/\S.ep<=63){s t:Nat}(hs:s<64)(ht:t<64):
  sb (pawnMv B S s) t=true↔((((t+7=s/\s%8≠7)\/(t+9=s/\s%8≠0))/\8<=s/\((1<=bd t/\bd t<=6)\/(t:Int)=S.ep))\/(t+8=s/\bd t=0)\/(t+16=s/\48<=s/\s<56/\bd (t+8)=0/\bd t=0)):=by
 unfold pawnMv;rw [hT];simp only [show ((2:Int)==1)=false from rfl,cond_false];have e7:sb (shlU (band (band (bbSq (s:Int)) (18374403900871474942:Int)) (72057594037927935:Int)) (7:Int)) t=true↔t+7=s/\s%8≠7/\8<=s:=by
  rw [sb_shl7 _ ht];by_cases hl:t+7<64
  ·rw [sb_band,sb_band,bbS hs hl,nFileH _ hl,nRank1 _ hl];simp only [Bool.and_eq_true,decide_eq_true_eq];constructor
   ·rintro ⟨_,⟨a,b⟩,c⟩;omega
   rintro ⟨a,b,c⟩;omega
  simp only [hl,decide_false,Bool.false_and,Bool.false_eq_true,false_iff];omega
 have e9:sb (shlU (band (band (bbSq (s:Int)) (9187201950435737471:Int)) (72057594037927935:Int)) (9:Int)) t=true↔t+9=s/\s%8≠0/\8<=s:=by
  rw [sb_shl9 _ ht];by_cases hl:t+9<64
  ·rw [sb_band,sb_band,bbS hs hl,nFileA _ hl,nRank1 _ hl];simp only [Bool.and_eq_true,decide_eq_true_eq];constructor
   ·rintro ⟨_,⟨a,b⟩,c⟩;omega
   rintro ⟨a,b,c⟩;omega
  simp only [hl,decide_false,Bool.false_and,Bool.false_eq_true,false_iff];omega
 have e8:∀u,u<64->(sb (shl8 (band (bbSq (s:Int)) (72057594037927935:Int))) u=true↔u+8=s):=by
  intro u hu;rw [sb_shl8 _ hu];by_cases hl:u+8<64
  ·rw [sb_band,bbS hs hl,nRank1 _ hl];simp only [Bool.and_eq_true,decide_eq_true_eq];constructor
   ·rintro ⟨_,a,b⟩;omega
   rintro a;omega
  simp only [hl,decide_false,Bool.false_and,Bool.false_eq_true,false_iff];omega
 have e16:sb (shl8 (band (band (shl8 (band (bbSq (s:Int)) (72057594037927935:Int))) B.empty) (16711680:Int))) t=true↔t+16=s/\48<=s/\s<56/\bd (t+8)=0:=by
  rw [sb_shl8 _ ht];by_cases hl:t+8<64
  ·rw [sb_band,sb_band,sqRank6 _ hl,h.empty _ hl];simp only [Bool.and_eq_true,decide_eq_true_eq,beq_iff_eq];rw [e8 (t+8) hl];constructor
   ·rintro ⟨_,⟨a,b⟩,c⟩;exact ⟨by omega,by omega,by omega,b⟩
   rintro ⟨a,b,c,d⟩;exact ⟨hl,⟨by omega,d⟩,by omega⟩
  simp only [hl,decide_false,Bool.false_and,Bool.false_eq_true,false_iff];omega
 have hb:sb (bor B.white (epBB S.ep)) t=true↔((1<=bd t/\bd t<=6)\/(t:Int)=S.ep):=by
  rw [sb_bor,h.white t ht,sb_ep he ht];simp
 have hem:sb B.empty t=true↔bd t=0:=by rw [h.empty t ht,beq_iff_eq]
 rw [sb4];simp only [Bool.or_eq_true,Bool.and_eq_true];rw [e9,e7,e8 t ht,e16,hem,hb];omega
theorem steps_iff{bd:Nat->Int}{ep s t sd:Int}(hs:0<=s/\s<=63)(hsd:sideOf (bd s.toNat)=sd):
  t∈stepsL bd ep s↔(0<=t/\t<=63)/\((t=s+8*(1-2*sd)/\bd t.toNat=0)\/(t=s+16*(1-2*sd)/\s/8=1+5*sd/\bd (s+8*(1-2*sd)).toNat=0/\bd t.toNat=0)\/
   ((t%8-s%8=1\/t%8-s%8=-1)/\t/8-s/8=1-2*sd/\stepB bd ep sd t=true)):=by
 have h01:=sideOf_or (bd s.toNat);rw [hsd] at h01;have hu:(1-2*sd=1)\/(1-2*sd=-1):=by omega
 unfold stepsL;rw [hsd,List.mem_append,List.mem_filter];have h1:t∈onL bd s sd↔(0<=t/\t<=63)/\((t=s+8*(1-2*sd)/\bd t.toNat=0)\/(t=s+16*(1-2*sd)/\s/8=1+5*sd/\bd (s+8*(1-2*sd)).toNat=0/\bd t.toNat=0)):=by
  have hone:0<=oneS s sd->oneS s sd=s+8*(1-2*sd):=by unfold oneS atS;split<;>omega
  have hone2:(0<=s+8*(1-2*sd)/\s+8*(1-2*sd)<=63)->oneS s sd=s+8*(1-2*sd):=by unfold oneS atS;split<;>omega
  have htwo:s/8=1+5*sd->twoS s sd=s+16*(1-2*sd):=by unfold twoS atS;split<;>omega
  have hro:=atS_rng (s%8) ((s/8)+(1-2*sd));have hro:-1<=oneS s sd/\oneS s sd<=63:=hro;unfold onL;cases hb1:oneB bd s sd
  ·simp only [cond_false,List.not_mem_nil,false_iff];unfold oneB at hb1;rw [Bool.and_eq_false_iff,decide_eq_false_iff_not,beq_eq_false_iff_ne] at hb1;rintro ⟨ht,⟨e,h0⟩|⟨e,hr,h0,_⟩⟩
   ·have:=hone2 (by omega);rcases hb1 with hb1|hb1
    ·omega
    ·rw [this,←e] at hb1;exact hb1 h0
   ·have:=hone2 (by omega);rcases hb1 with hb1|hb1
    ·omega
    ·rw [this] at hb1;exact hb1 h0
  ·unfold oneB at hb1;simp only [Bool.and_eq_true,decide_eq_true_eq,beq_iff_eq] at hb1;have ho:=hone (by omega);have hb1':=hb1.2;rw [ho] at hb1';simp only [cond_true];cases hb2:twoB bd s sd
   ·simp only [cond_false,List.mem_singleton];unfold twoB at hb2;rw [Bool.and_eq_false_iff,beq_eq_false_iff_ne,beq_eq_false_iff_ne] at hb2;constructor
    ·rintro rfl;exact ⟨by omega,Or.inl ⟨ho,by rw [ho];exact hb1'⟩⟩
    ·rintro ⟨ht,⟨e,h0⟩|⟨e,hr,h0,h1⟩⟩
     ·omega
     ·exfalso;rcases hb2 with hb2|hb2
      ·exact hb2 hr
      ·rw [htwo hr,←e] at hb2;exact hb2 h1
   ·simp only [cond_true,List.mem_cons,List.not_mem_nil,or_false];unfold twoB at hb2;simp only [Bool.and_eq_true,beq_iff_eq] at hb2;have ht2:=htwo hb2.1;have hb2':=hb2.2;rw [ht2] at hb2';constructor
    ·rintro (rfl|rfl)
     ·exact ⟨by omega,Or.inl ⟨ho,by rw [ho];exact hb1'⟩⟩
     ·exact ⟨by omega,Or.inr ⟨ht2,hb2.1,hb1',by rw [ht2];exact hb2'⟩⟩
    ·rintro ⟨ht,⟨e,h0⟩|⟨e,hr,h0,h1⟩⟩
     ·exact Or.inl (by omega)
     ·exact Or.inr (by omega)
 have h2:t∈hitsL s sd↔(0<=t/\t<=63)/\(t%8-s%8=1\/t%8-s%8=-1)/\t/8-s/8=1-2*sd:=by
  have hd:∀d:Int,(d=1\/d=-1)->(t∈hitD s sd d↔(0<=t/\t<=63)/\t%8-s%8=d/\t/8-s/8=1-2*sd):=by
   intro d hd;unfold hitD;split
   ·rename_i hge;rw [List.mem_singleton];have:atS ((s%8)+d) ((s/8)+(1-2*sd))=8*(s/8+(1-2*sd))+(s%8+d)/\0<=s%8+d/\s%8+d<=7/\0<=s/8+(1-2*sd)/\s/8+(1-2*sd)<=7:=by
     unfold atS at hge⊢;split<;>omega
    constructor
    ·rintro rfl;omega
    ·rintro ⟨a,b,c⟩;omega
   ·rename_i hge;simp only [List.not_mem_nil,false_iff];rintro ⟨a,b,c⟩;apply hge;unfold atS;split<;>omega
  unfold hitsL;rw [List.mem_append,hd (-1) (Or.inr rfl),hd 1 (Or.inl rfl)];omega
 rw [h1,h2];constructor
 ·rintro (⟨a,b⟩|⟨⟨a,b,c⟩,d⟩)
  ·exact ⟨a,b.elim Or.inl (λb=>Or.inr (Or.inl b))⟩
  ·exact ⟨a,Or.inr (Or.inr ⟨b,c,d⟩)⟩
 ·rintro ⟨a,b|b|⟨b,c,d⟩⟩
  ·exact Or.inl ⟨a,Or.inl b⟩
  ·exact Or.inl ⟨a,Or.inr b⟩
  ·exact Or.inr ⟨⟨a,b,c⟩,d⟩
theorem passed_get{P:SP}(hT:0<=P.turn/\P.turn<=1)(h:passedS P=true):
  P.ep=-1\/((0<=P.ep/\P.ep<=63)/\P.ep/8=5-3*P.turn/\P.bd P.ep.toNat=0/\P.bd (P.ep-8*(1-2*P.turn)).toNat=6+6*(1-P.turn)/\P.bd (P.ep+8*(1-2*P.turn)).toNat=0):=by
 unfold passedS at h;split at h
 ·exact Or.inl (eq_of_beq h)
 rename_i h1;split at h
 ·cases h
 rename_i h2;right;simp only [Bool.and_eq_true,beq_iff_eq] at h;have h3:P.ep/8=5-3*P.turn:=by omega
 have h4:P.bd P.ep.toNat=0:=Classical.byContradiction λhh=>h2 (Or.inr hh);have e1:(8*(P.ep/8-(1-2*P.turn))+P.ep%8).toNat=(P.ep-8*(1-2*P.turn)).toNat:=by omega
 have e2:(8*(P.ep/8+(1-2*P.turn))+P.ep%8).toNat=(P.ep+8*(1-2*P.turn)).toNat:=by omega
 rw [e1,e2] at h;exact ⟨by omega,h3,h4,h.1,h.2⟩
theorem turnOf_cases{t:Int}(h:0<=t/\t<=1):(t=0/\turnOf t=1)\/(t=1/\turnOf t=2):=by
 rcases (by omega:t=0\/t=1) with rfl|rfl
 ·exact Or.inl ⟨rfl,rfl⟩
 exact Or.inr ⟨rfl,rfl⟩
theorem side_of{x:Int}(h:0<=x/\x<=12)(h0:x≠0):(sideOf x=0/\1<=x/\x<=6/\kindOf x=x)\/(sideOf x=1/\7<=x/\kindOf x=x-6):=by
 unfold sideOf kindOf;split<;>omega
theorem pColor_side{x:Int}(h:0<=x/\x<=12)(h0:x≠0):pColor x=sideOf x+1:=by
 unfold pColor sideOf;split<;>(try split)<;>omega
theorem own_bit{P:SP}(hB:SPb P)(hT:0<=P.turn/\P.turn<=1){t:Nat}(ht:t<64):sb (allowed (boardOf P.bd) (turnOf P.turn)) t=true↔¬(P.bd t≠0/\sideOf (P.bd t)=P.turn):=by
 have h:=boardOf_rep hB;have hx:=hB t ht;unfold allowed;rcases turnOf_cases hT with ⟨e,e2⟩|⟨e,e2⟩<;>rw [e2,e]
 ·simp only [show ((1:Int)==2)=false from rfl,cond_false];rw [sb_bnot _ ht,h.white t ht];unfold sideOf;simp only [Bool.not_eq_true',Bool.and_eq_false_iff,decide_eq_false_iff_not];split<;>omega
 simp only [show ((2:Int)==2)=true from rfl,cond_true];rw [sb_bnot _ ht,h.black t ht];unfold sideOf;simp only [Bool.not_eq_true',decide_eq_false_iff_not];split<;>omega
theorem dest_iff{P:SP}(hV:ValidS P){s t:Nat}(hs:s<64)(ht:t<64)(h0:P.bd s≠0)(hsd:sideOf (P.bd s)=P.turn):
  sb (dest (boardOf P.bd) (psOf P) (P.bd s) s) t=true↔((t:Int)∈dstL P s/\¬(P.bd t≠0/\sideOf (P.bd t)=P.turn)):=by
 have h:=boardOf_rep hV.bd;have hx:=hV.bd s hs;have hT:=hV.turn;have hxt:=hV.bd t ht;unfold dest;rw [sb_band,Bool.and_eq_true,show (psOf P).turn=turnOf P.turn from rfl,own_bit hV.bd hT ht];by_cases h6:kindOf (P.bd s)=6
 ·have hd:dstL P s=stepsL P.bd P.ep s:=by unfold dstL;rw [Int.toNat_natCast,h6];rfl
  rw [hd,steps_iff (sd:=P.turn) (by omega) (by rw [Int.toNat_natCast];exact hsd)];have hep:-1<=(psOf P).ep/\(psOf P).ep<=63:=by
   show-1<=P.ep/\P.ep<=63;rcases passed_get hT hV.passed with e|e<;>omega
  have hpass:=passed_get hT hV.passed;have hx6:P.bd s=6+6*P.turn:=by rcases side_of hx h0 with ⟨a,b,c,d⟩|⟨a,b,c⟩<;>omega
  have hpt:pType (P.bd s)=6:=by
   rw [hx6];rcases (by omega:P.turn=0\/P.turn=1) with e|e<;>rw [e]<;>rfl
  have hpm:possMv (boardOf P.bd) (psOf P) (pType (P.bd s)) s=pawnMv (boardOf P.bd) (psOf P) s:=by rw [hpt];rfl
  rw [hpm];simp only [Int.toNat_natCast];rcases turnOf_cases hT with ⟨e,e2⟩|⟨e,e2⟩
  ·rw [pawnMv_w h (by show turnOf P.turn=1;exact e2) hep hs ht,e];show (_/\_)↔_;have hepe:(psOf P).ep=P.ep:=rfl;rw [hepe];rw [e] at hpass;unfold stepB;simp only [Bool.or_eq_true,Bool.and_eq_true,bne_iff_ne,beq_iff_eq,Int.toNat_natCast];have e8:((s:Int)+8*(1-2*0)).toNat=s+8:=by omega
   rw [e8];have hside:∀y:Int,0<=y/\y<=12->(sideOf y=0\/sideOf y=1)/\(sideOf y=1↔7<=y):=by intro y hy;unfold sideOf;split<;>omega
   have hst:=hside (P.bd t) hxt;constructor
   ·rintro ⟨hm,hn⟩;refine ⟨⟨by omega,?_⟩,hn⟩;rcases hm with ⟨ha,hb,hc⟩|⟨ha,hb⟩|⟨ha,hb,hc,hd2,he2⟩
    ·refine Or.inr (Or.inr ⟨by omega,by omega,?_⟩);rcases hc with hc|hc
     ·exact Or.inl ⟨by omega,by omega⟩
     rcases hpass with hp|⟨hp1,hp2,hp3,_⟩
     ·omega
     have:P.ep.toNat=t:=by omega
     rw [this] at hp3;exact Or.inr ⟨⟨hp3,hc⟩,by omega⟩
    ·exact Or.inl ⟨by omega,hb⟩
    exact Or.inr (Or.inl ⟨by omega,by omega,hd2,he2⟩)
   rintro ⟨⟨hr,hm⟩,hn⟩;refine ⟨?_,hn⟩;rcases hm with ⟨ha,hb⟩|⟨ha,hb,hc,hd2⟩|⟨ha,hb,hc⟩
   ·exact Or.inr (Or.inl ⟨by omega,hb⟩)
   ·exact Or.inr (Or.inr ⟨by omega,by omega,by omega,hc,hd2⟩)
   refine Or.inl ⟨by omega,by omega,?_⟩;rcases hc with ⟨hc1,hc2⟩|⟨⟨hc1,hc2⟩,hc3⟩
   ·exact Or.inl (by omega)
   exact Or.inr hc2
  rw [pawnMv_b h (by show turnOf P.turn=2;exact e2) hep hs ht,e];show (_/\_)↔_;have hepe:(psOf P).ep=P.ep:=rfl;rw [hepe];rw [e] at hpass;unfold stepB;simp only [Bool.or_eq_true,Bool.and_eq_true,bne_iff_ne,beq_iff_eq,Int.toNat_natCast];have hside:∀y:Int,0<=y/\y<=12->(sideOf y=0\/sideOf y=1)/\(sideOf y=1↔7<=y):=by intro y hy;unfold sideOf;split<;>omega
  have hst:=hside (P.bd t) hxt;constructor
  ·rintro ⟨hm,hn⟩;refine ⟨⟨by omega,?_⟩,hn⟩;rcases hm with ⟨ha,hb,hc⟩|⟨ha,hb⟩|⟨ha,hb,hc,hd2,he2⟩
   ·refine Or.inr (Or.inr ⟨by omega,by omega,?_⟩);rcases hc with hc|hc
    ·exact Or.inl ⟨by omega,by omega⟩
    rcases hpass with hp|⟨hp1,hp2,hp3,_⟩
    ·omega
    have:P.ep.toNat=t:=by omega
    rw [this] at hp3;exact Or.inr ⟨⟨hp3,hc⟩,by omega⟩
   ·exact Or.inl ⟨by omega,hb⟩
   have e8:((s:Int)+8*(1-2*1)).toNat=t+8:=by omega
   exact Or.inr (Or.inl ⟨by omega,by omega,by rw [e8];exact hd2,he2⟩)
  rintro ⟨⟨hr,hm⟩,hn⟩;refine ⟨?_,hn⟩;rcases hm with ⟨ha,hb⟩|⟨ha,hb,hc,hd2⟩|⟨ha,hb,hc⟩
  ·exact Or.inr (Or.inl ⟨by omega,hb⟩)
  ·have e8:((s:Int)+8*(1-2*1)).toNat=t+8:=by omega
   rw [e8] at hc;exact Or.inr (Or.inr ⟨by omega,by omega,by omega,hc,hd2⟩)
  refine Or.inl ⟨by omega,by omega,?_⟩;rcases hc with ⟨hc1,hc2⟩|⟨⟨hc1,hc2⟩,hc3⟩
  ·exact Or.inl (by omega)
  exact Or.inr hc2
 have hd:dstL P s=reachL P.bd s:=by unfold dstL;rw [Int.toNat_natCast,show (kindOf (P.bd s)==6)=false from beq_eq_false_iff_ne.2 h6];rfl
 rw [hd,reach_iff hV.bd (by omega) (by rw [Int.toNat_natCast];exact h0) (by rw [Int.toNat_natCast];exact h6),possMv_hit h _ hs ht h0 h6];simp only [Int.toNat_natCast];constructor
 ·rintro ⟨a,b⟩;exact ⟨⟨by omega,a⟩,b⟩
 rintro ⟨⟨_,a⟩,b⟩;exact ⟨a,b⟩
structure StdM(P:SP)(f t:Nat)(p:Int):Prop where
 hf:f<64
 ht:t<64
 x0:P.bd f≠0
 side:sideOf (P.bd f)=P.turn
 dst:(t:Int)∈dstL P f
 own:¬(P.bd t≠0/\sideOf (P.bd t)=P.turn)
 pr:p=0\/(kindOf (P.bd f)=6/\((t:Int)/8=7-7*P.turn)/\2<=p/\p<=5)
def EPm(P:SP)(f t:Nat):Prop:=P.bd f=6+6*P.turn/\P.bd t=0/\(t:Int)=P.ep/\((t:Int)%8-(f:Int)%8=1\/(t:Int)%8-(f:Int)%8=-1)/\(t:Int)/8-(f:Int)/8=1-2*P.turn
theorem std_hit{P:SP}(hV:ValidS P){f t:Nat}{p:Int}(h:StdM P f t p)(h6:kindOf (P.bd f)≠6):hitS P.bd f t=true:=by
 have hd:dstL P f=reachL P.bd f:=by unfold dstL;rw [Int.toNat_natCast,show (kindOf (P.bd f)==6)=false from beq_eq_false_iff_ne.2 h6];rfl
 have:=h.dst;have hf:=h.hf;rw [hd,reach_iff hV.bd (by omega) (by rw [Int.toNat_natCast];exact h.x0) (by rw [Int.toNat_natCast];exact h6)] at this;simpa only [Int.toNat_natCast] using this.2
theorem std_pawn{P:SP}(hV:ValidS P){f t:Nat}{p:Int}(h:StdM P f t p)(h6:kindOf (P.bd f)=6):P.bd f=6+6*P.turn/\
  (((t:Int)=f+8*(1-2*P.turn)/\P.bd t=0)\/((t:Int)=f+16*(1-2*P.turn)/\(f:Int)/8=1+5*P.turn/\P.bd ((f:Int)+8*(1-2*P.turn)).toNat=0/\P.bd t=0)\/
   (((t:Int)%8-(f:Int)%8=1\/(t:Int)%8-(f:Int)%8=-1)/\(t:Int)/8-(f:Int)/8=1-2*P.turn/\stepB P.bd P.ep P.turn t=true)):=by
 have hf:=h.hf;have hd:dstL P f=stepsL P.bd P.ep f:=by unfold dstL;rw [Int.toNat_natCast,h6];rfl
 have:=h.dst;rw [hd,steps_iff (sd:=P.turn) (by omega) (by rw [Int.toNat_natCast];exact h.side)] at this;simp only [Int.toNat_natCast] at this;have hx:=hV.bd f h.hf;refine ⟨by rcases side_of hx h.x0 with ⟨a,b,c,d⟩|⟨a,b,c⟩<;>have:=h.side<;>omega,this.2⟩
theorem std_ne{P:SP}(hV:ValidS P){f t:Nat}{p:Int}(h:StdM P f t p):f≠t:=by
 have hT:=hV.turn;by_cases h6:kindOf (P.bd f)=6
 ·have:=(std_pawn hV h h6).2;rintro rfl;omega
 have:=std_hit hV h h6;rintro rfl;unfold hitS at this;simp at this
theorem safe_at{P:SP}(hV:ValidS P){k:Nat}(hk:k<64)(h1:P.bd k=1+6*(1-P.turn)):attS P.bd k P.turn=false:=by
 have hT:=hV.turn;have hc:countS P.bd (1+6*(1-P.turn))=1:=by
  rcases (by omega:P.turn=0\/P.turn=1) with e|e<;>rw [e]
  ·exact hV.kb
  exact hV.kw
 obtain ⟨ho,hk0⟩:=only_of_count hc;have:=ho.2.2 k hk h1;rw [this];exact hV.safe
theorem att_of{bd:Nat->Int}{f t:Nat}{o:Int}(hf:f<64)(h0:bd f≠0)(hs:sideOf (bd f)=o)(hh:hitS bd f t=true):attS bd t o=true:=by
 unfold attS;rw [any64];exact ⟨f,hf,by rw [bne_iff_ne.2 h0,beq_iff_eq.2 hs,hh];rfl⟩
theorem pawn_hit{P:SP}{f t:Nat}(hV:ValidS P)(hf:f<64)(ht:t<64)(hx:P.bd f=6+6*P.turn)(h1:(t:Int)%8-(f:Int)%8=1\/(t:Int)%8-(f:Int)%8=-1)(h2:(t:Int)/8-(f:Int)/8=1-2*P.turn):hitS P.bd f t=true:=by
 have hT:=hV.turn;have h6:kindOf (P.bd f)=6:=by rw [hx];unfold kindOf;split<;>omega
 have hsd:sideOf (P.bd f)=P.turn:=by rw [hx];unfold sideOf;split<;>omega
 have hd:df f t=1\/df f t=-1:=by unfold df;omega
 unfold hitS;rw [h6,hsd,show (P.bd f !=0)=true from bne_iff_ne.2 (by omega),show decide (f≠t)=true by rw [decide_eq_true_eq];omega];simp only [Bool.true_and,show ((6:Int)=1)=False by decide,show ((6:Int)=5)=False by decide,if_false,if_true,Bool.and_eq_true,beq_iff_eq];exact ⟨(sym hf ht).one.2 hd,by unfold dr;omega⟩
theorem std_nk{P:SP}(hV:ValidS P){f t:Nat}{p:Int}(h:StdM P f t p):P.bd t≠1/\P.bd t≠7:=by
 have hT:=hV.turn;have hno:P.bd t≠1+6*(1-P.turn):=by
  intro hk;have hs:=safe_at hV h.ht hk;by_cases h6:kindOf (P.bd f)=6
  ·obtain ⟨hx,hc⟩:=std_pawn hV h h6;rcases hc with ⟨_,hc⟩|⟨_,_,_,hc⟩|⟨h1,h2,_⟩
   ·omega
   ·omega
   have:=att_of h.hf h.x0 h.side (pawn_hit hV h.hf h.ht hx h1 h2);rw [hs] at this;cases this
  have:=att_of h.hf h.x0 h.side (std_hit hV h h6);rw [hs] at this;cases this
 have hown:P.bd t≠1+6*P.turn:=by
  intro hk;exact h.own ⟨by omega,by rw [hk];unfold sideOf;split<;>omega⟩
 omega
theorem std_near{P:SP}(hV:ValidS P){f t:Nat}{p:Int}(h:StdM P f t p)(h1:kindOf (P.bd f)=1):-1<=(t:Int)%8-(f:Int)%8/\(t:Int)%8-(f:Int)%8<=1/\-1<=(t:Int)/8-(f:Int)/8/\(t:Int)/8-(f:Int)/8<=1:=by
 have:=std_hit hV h (by omega);unfold hitS at this;rw [h1] at this;simp only [if_true,Bool.and_eq_true] at this;have hn:=(sym h.hf h.ht).nearI.1 this.2.2;unfold df dr at hn;omega
theorem std_cast{P:SP}(hV:ValidS P){f t:Nat}{p:Int}(h:StdM P f t p):castlesB P.bd f t=false:=by
 have hf:=h.hf;have ht:=h.ht;unfold castlesB;rw [Int.toNat_natCast];by_cases h1:kindOf (P.bd f)=1
 ·have:=std_near hV h h1;rw [Bool.and_eq_false_iff];right;rw [Bool.or_eq_false_iff,beq_eq_false_iff_ne,beq_eq_false_iff_ne];omega
 rw [show (kindOf (P.bd f)==1)=false from beq_eq_false_iff_ne.2 h1];rfl
theorem std_ep{P:SP}(hV:ValidS P){f t:Nat}{p:Int}(h:StdM P f t p):
  (EPm P f t/\p=0)\/((P.bd t=0->kindOf (P.bd f)=6->(f:Int)%8=(t:Int)%8)/\¬(P.bd t=0/\(t:Int)=P.ep/\kindOf (P.bd f)=6)):=by
 have hT:=hV.turn;have hf:=h.hf;have ht:=h.ht;by_cases h6:kindOf (P.bd f)=6
 ·obtain ⟨hx,hc⟩:=std_pawn hV h h6;have hp:=passed_get hT hV.passed;rcases hc with ⟨e,h0⟩|⟨e,hr,h8,h0⟩|⟨h1,h2,h3⟩
  ·refine Or.inr ⟨λ_ _=>by omega,?_⟩;rintro ⟨_,he,_⟩;rcases hp with hp|⟨hp1,hp2,hp3,hp4,hp5⟩
   ·omega
   have:(P.ep-8*(1-2*P.turn)).toNat=f:=by omega
   rw [this] at hp4;omega
  ·refine Or.inr ⟨λ_ _=>by omega,?_⟩;rintro ⟨_,he,_⟩;rcases hp with hp|⟨hp1,hp2,hp3,hp4,hp5⟩
   ·omega
   have:(P.ep-8*(1-2*P.turn)).toNat=((f:Int)+8*(1-2*P.turn)).toNat:=by omega
   rw [this] at hp4;omega
  unfold stepB at h3;simp only [Bool.or_eq_true,Bool.and_eq_true,bne_iff_ne,beq_iff_eq,Int.toNat_natCast] at h3;rcases h3 with ⟨h3,_⟩|⟨⟨h3,h4⟩,h5⟩
  ·exact Or.inr ⟨λh0=>absurd h0 h3,λhh=>h3 hh.1⟩
  refine Or.inl ⟨⟨hx,h3,h4,h1,h2⟩,?_⟩;rcases h.pr with hp|⟨_,hp,_⟩
  ·exact hp
  omega
 exact Or.inr ⟨λ_ h'=>absurd h' h6,λhh=>h6 hh.2.2⟩
theorem upd2{bd:Nat->Int}{a b:Nat}{u v:Int}(s:Nat):upd (upd bd a u) b v s=if s=b then v else if s=a then u else bd s:=rfl
theorem mk4_normal{bd:Nat->Int}{turn p:Int}{f t:Nat}(hn:bd t=0->kindOf (bd f)=6->(f:Int)%8=(t:Int)%8)(hc:castlesB bd f t=false)(s:Nat):
  mk4 bd turn f t p s=upd (upd bd f 0) t (if p≠0 then p+6*turn else bd f) s:=by
 have h1:∀s,s≠t->mk1 bd f t s=bd s:=by
  intro s hs;unfold mk1;cases htk:takesI bd f t
  ·rfl
  simp only [cond_true];have hq:takesQ bd f t=t:=by
   unfold takesQ;unfold takesI at htk;cases hb:(bd ((t:Int)).toNat !=0)
   ·exfalso;rw [hb,Bool.false_or] at htk;simp only [Bool.and_eq_true,beq_iff_eq,bne_iff_ne,Int.toNat_natCast] at htk;rw [Int.toNat_natCast] at hb;exact htk.2 (hn (by simpa using hb) htk.1)
   rfl
  rw [hq,Int.toNat_natCast,upd_ne hs]
 have h2:∀s,mk2 bd f t s=upd (upd bd f 0) t (bd f) s:=by
  intro s;unfold mk2;rw [upd2,upd2,Int.toNat_natCast,Int.toNat_natCast];by_cases e:s=t
  ·rw [if_pos e,if_pos e]
  rw [if_neg e,if_neg e];split
  ·rfl
  exact h1 s e
 unfold mk4;rw [hc];simp only [cond_false];unfold mk3;by_cases hp:p=0
 ·subst hp;simp only [show (0 !=0)=false from rfl,cond_false,ne_eq,not_true,if_false];exact h2 s
 rw [show (p !=0)=true from bne_iff_ne.2 hp,if_pos hp];simp only [cond_true,Int.toNat_natCast];by_cases e:s=t
 ·rw [e,upd_at,upd_at]
 rw [upd_ne e,upd_ne e,h2 s,upd_ne e]
theorem mk4_ep{bd:Nat->Int}{turn:Int}{f t q:Nat}(h6:kindOf (bd f)=6)(h0:bd t=0)(hne:(f:Int)%8≠(t:Int)%8)(hq:8*((f:Int)/8)+(t:Int)%8=q)(s:Nat):
  mk4 bd turn f t 0 s=upd (upd (upd bd q 0) f 0) t (bd f) s:=by
 have hc:castlesB bd f t=false:=by
  unfold castlesB;rw [Int.toNat_natCast,h6];rfl
 unfold mk4;rw [hc];simp only [cond_false];unfold mk3 mk2 mk1 takesI takesQ;simp only [Int.toNat_natCast,h0,h6,show ((0:Int) !=0)=false from rfl,cond_false,Bool.false_or,show ((6:Int)==6)=true from rfl,show (((f:Int)%8) !=((t:Int)%8))=true from bne_iff_ne.2 hne,Bool.and_true,cond_true,hq]
theorem BRep.congr{B:Bd}{bd bd':Nat->Int}(h:BRep B bd)(e:∀s,s<64->bd s=bd' s):BRep B bd':=
 ⟨h.u,λk h1 h2 s hs=>by rw [←e s hs];exact h.bit k h1 h2 s hs,h.uw,h.ub,h.ue,λs hs=>by rw [←e s hs];exact h.white s hs,λs hs=>by rw [←e s hs];exact h.black s hs,λs hs=>by rw [←e s hs];exact h.empty s hs,λs hs=>by rw [←e s hs];exact h.rng s hs⟩
theorem OnlyAt.congr{bd bd':Nat->Int}{p:Int}{k:Nat}(h:OnlyAt bd p k)(e:∀s,s<64->bd s=bd' s):OnlyAt bd' p k:=
 ⟨h.1,by rw [←e k h.1];exact h.2.1,λs hs hb=>h.2.2 s hs (by rw [e s hs];exact hb)⟩
theorem KRep.congr{B:Bd}{bd bd':Nat->Int}(h:KRep B bd)(e:∀s,s<64->bd s=bd' s):KRep B bd':=by
 obtain ⟨⟨a,ha,ha'⟩,⟨b,hb,hb'⟩⟩:=h;exact ⟨⟨a,ha.congr e,ha'⟩,⟨b,hb.congr e,hb'⟩⟩
theorem upd_only{bd:Nat->Int}{p v:Int}{k q:Nat}(h:OnlyAt bd p k)(hq:q≠k)(hv:v≠p):OnlyAt (upd bd q v) p k:=by
 refine ⟨h.1,by rw [upd_ne (Ne.symm hq)];exact h.2.1,λs hs hb=>?_⟩;by_cases e:s=q
 ·subst e;rw [upd_at] at hb;exact absurd hb hv
 rw [upd_ne e] at hb;exact h.2.2 s hs hb
theorem move_only{bd:Nat->Int}{kp y:Int}{k f t:Nat}(h:OnlyAt bd kp k)(hk0:kp≠0)(ht:t<64)(hne:f≠t)(htk:bd t≠kp)(h1:bd f=kp->y=kp)(h2:bd f≠kp->y≠kp)(hf:f<64):OnlyAt (upd (upd bd f 0) t y) kp (if k=f then t else k):=by
 by_cases e:k=f
 ·subst e;rw [if_pos rfl];refine ⟨ht,by rw [upd_at];exact h1 h.2.1,λs hs hb=>?_⟩;by_cases e2:s=t
  ·exact e2
  rw [upd_ne e2] at hb;by_cases e3:s=k
  ·subst e3;rw [upd_at] at hb;exact absurd hb.symm hk0
  rw [upd_ne e3] at hb;exact absurd (h.2.2 s hs hb) e3
 rw [if_neg e];have hfk:bd f≠kp:=λhh=>e (h.2.2 f hf hh).symm;have hkt:k≠t:=λhh=>htk (by rw [←hh];exact h.2.1);refine ⟨h.1,by rw [upd_ne hkt,upd_ne e];exact h.2.1,λs hs hb=>?_⟩;by_cases e2:s=t
 ·subst e2;rw [upd_at] at hb;exact absurd hb (h2 hfk)
 rw [upd_ne e2] at hb;by_cases e3:s=f
 ·subst e3;rw [upd_at] at hb;exact absurd hb.symm hk0
 rw [upd_ne e3] at hb;exact h.2.2 s hs hb
theorem moveK_rep{B B':Bd}{bd bd':Nat->Int}{f t:Nat}(hK:KRep B bd)(hw:B'.wk=B.wk)(hb:B'.bk=B.bk){M:Mv}(e1:M.s1=f)(e2:M.s2=t)
  (h1:∀k,OnlyAt bd 1 k->OnlyAt bd' 1 (if k=f then t else k))(h7:∀k,OnlyAt bd 7 k->OnlyAt bd' 7 (if k=f then t else k)):KRep (moveK B' M) bd':=by
 obtain ⟨⟨a,ha,ha'⟩,⟨b,hb1,hb'⟩⟩:=hK;have hab:a≠b:=by rintro rfl;have:=ha.2.1;have:=hb1.2.1;omega
 have k1:=h1 a ha;have k7:=h7 b hb1;unfold moveK;rw [e1,e2,hw,hb,ha',hb'];by_cases ea:a=f
 ·rw [if_pos ea] at k1;rw [if_neg (by omega)] at k7;rw [if_pos (by omega)];exact ⟨⟨t,k1,rfl⟩,⟨b,k7,by first|rfl|exact hb.trans hb'⟩⟩
 rw [if_neg ea] at k1;rw [if_neg (by omega)];by_cases eb:b=f
 ·rw [if_pos eb] at k7;rw [if_pos (by omega)];exact ⟨⟨a,k1,by first|rfl|exact hw.trans ha'⟩,⟨t,k7,rfl⟩⟩
 rw [if_neg eb] at k7;rw [if_neg (by omega)];exact ⟨⟨a,k1,hw.trans ha'⟩,⟨b,k7,hb.trans hb'⟩⟩
theorem moveK_brep{B:Bd}{bd:Nat->Int}(h:BRep B bd)(M:Mv):BRep (moveK B M) bd:=by
 unfold moveK;split
 ·exact kings_rep h _ B.bk
 split
 ·exact kings_rep h B.wk _
 exact h
theorem promo_k(M:Mv)(p:Int)(B:Bd):(updPromo M p B).wk=B.wk/\(updPromo M p B).bk=B.bk:=by unfold updPromo;cases (M.promo !=0)<;>exact ⟨rfl,rfl⟩
theorem ep_k(M:Mv)(p:Int)(B:Bd):(updEP M p B).wk=B.wk/\(updEP M p B).bk=B.bk:=by unfold updEP;cases hasTag M 8<;>cases (pColor p==1)<;>exact ⟨rfl,rfl⟩
theorem cast_k(M:Mv)(p:Int)(B:Bd):(updCastle M p B).wk=B.wk/\(updCastle M p B).bk=B.bk:=by
 unfold updCastle;cases ((pColor p==1)&&(hasTag M 1))<;>cases ((pColor p==1)&&(hasTag M 2))<;>cases ((pColor p==2)&&(hasTag M 1))<;>cases ((pColor p==2)&&(hasTag M 2))<;>exact ⟨rfl,rfl⟩
theorem chain_k(M:Mv)(p:Int)(B:Bd):(calcB (updCastle M p (updEP M p (updPromo M p (updTo B M 12))))).wk=B.wk/\(calcB (updCastle M p (updEP M p (updPromo M p (updTo B M 12))))).bk=B.bk:=by
 have h1:=cast_k M p (updEP M p (updPromo M p (updTo B M 12)));have h2:=ep_k M p (updPromo M p (updTo B M 12));have h3:=promo_k M p (updTo B M 12);exact ⟨h1.1.trans (h2.1.trans h3.1),h1.2.trans (h2.2.trans h3.2)⟩
theorem castle_id{M:Mv}{p:Int}{B:Bd}(h1:hasTag M 1=false)(h2:hasTag M 2=false):updCastle M p B=B:=by
 unfold updCastle;rw [h1,h2];simp
theorem ep_id{M:Mv}{p:Int}{B:Bd}(h8:hasTag M 8=false):updEP M p B=B:=by unfold updEP;rw [h8];rfl
theorem promo_id{M:Mv}{p:Int}{B:Bd}(h:M.promo=0):updPromo M p B=B:=by unfold updPromo;rw [h];rfl
theorem mk4_rng'{P:SP}(hV:ValidS P){f t:Nat}{p:Int}(hf:f<64)(hp:p=0\/(2<=p/\p<=5)):∀i,i<64->0<=mk4 P.bd P.turn f t p i/\mk4 P.bd P.turn f t p i<=12:=
 mk4_rng hV.bd hV.turn (by omega) (by omega)
theorem std_pr{P:SP}{f t:Nat}{p:Int}(h:StdM P f t p):p=0\/(2<=p/\p<=5):=by rcases h.pr with h|h<;>omega
theorem next_std{P:SP}(hV:ValidS P){B:Bd}(hB:BRep B P.bd)(hK:KRep B P.bd){f t:Nat}{p tags:Int}(h:StdM P f t p)(h0:tagb tags 0=false)(h1:tagb tags 1=false)(h3:tagb tags 3=true↔EPm P f t):
  BRep (updB B ⟨tags,f,t,p⟩) (mk4 P.bd P.turn f t p)/\KRep (updB B ⟨tags,f,t,p⟩) (mk4 P.bd P.turn f t p):=by
 have hf:=h.hf;have ht:=h.ht;have hT:=hV.turn;have hne:=std_ne hV h;have hnk:=std_nk hV h;have hx:=hV.bd f hf;have hx0:=h.x0;have hp1:pieceAt B (f:Int)=P.bd f:=hB.pieceAt hf;have hcol:pColor (P.bd f)=P.turn+1:=by rw [pColor_side hx h.x0,h.side]
 have t1:hasTag (⟨tags,f,t,p⟩:Mv) 1=false:=by rw [tag1];exact h0
 have t2:hasTag (⟨tags,f,t,p⟩:Mv) 2=false:=by rw [tag2];exact h1
 have hb1:=updTo_bits hB.bits (M:=⟨tags,f,t,p⟩) (by dsimp only;omega) (by dsimp only;omega) (by dsimp only;omega);dsimp only at hb1;rw [Int.toNat_natCast,Int.toNat_natCast] at hb1;have hk:=chain_k (⟨tags,f,t,p⟩:Mv) (P.bd f) B;have hpr:=std_pr h;have hrng:=mk4_rng' hV (t:=t) hf hpr;have e:updB B ⟨tags,f,t,p⟩=moveK (calcB (updCastle ⟨tags,f,t,p⟩ (P.bd f) (updEP ⟨tags,f,t,p⟩ (P.bd f) (updPromo ⟨tags,f,t,p⟩ (P.bd f) (updTo B ⟨tags,f,t,p⟩ 12))))) ⟨tags,f,t,p⟩:=by
  unfold updB;dsimp only;rw [hp1]
 rw [e];rw [castle_id t1 t2] at hk⊢;rcases std_ep hV h with ⟨hE,hp0⟩|⟨hn,hne2⟩
 ·have t8:hasTag (⟨tags,f,t,p⟩:Mv) 8=true:=by rw [tag8];exact h3.2 hE
  obtain ⟨ex,et,eep,ea,er⟩:=hE;subst hp0;rw [promo_id rfl] at hk⊢;have hp:=passed_get hT hV.passed;obtain ⟨q,hq⟩:∃q:Nat,(8*((f:Int)/8)+(t:Int)%8)=q:=⟨(8*((f:Int)/8)+(t:Int)%8).toNat,by omega⟩;have hq64:q<64:=by omega
  have hqt:(t:Int)=q+8*(1-2*P.turn):=by omega
  have hqb:P.bd q=6+6*(1-P.turn):=by
   rcases hp with hp|⟨_,_,_,hp,_⟩
   ·omega
   rw [←eep,show ((t:Int)-8*(1-2*P.turn)).toNat=q by omega] at hp;exact hp
  have hqf:q≠f:=by omega
  have hqt':q≠t:=by omega
  have h6:kindOf (P.bd f)=6:=by rw [ex];unfold kindOf;split<;>omega
  have hm4:∀s,mk4 P.bd P.turn f t 0 s=upd (upd (upd P.bd q 0) f 0) t (P.bd f) s:=mk4_ep h6 et (by omega) hq;have hb2:BBits (updEP ⟨tags,f,t,0⟩ (P.bd f) (updTo B ⟨tags,f,t,0⟩ 12)) (upd (upd (upd P.bd f 0) t (P.bd f)) q 0):=by
   refine updEP_bits hb1 (by dsimp only;omega) t8 hq64 ?_;rw [upd_ne hqt',upd_ne hqf,hqb,hcol];dsimp only;rcases (by omega:P.turn=0\/P.turn=1) with e0|e0<;>rw [e0] at hqt⊢
   ·exact Or.inl ⟨by omega,by omega,by omega⟩
   exact Or.inr ⟨by omega,by omega,by omega⟩
  have hb3:=hb2.congr (bd':=mk4 P.bd P.turn f t 0) (λs hs=>by
   rw [hm4 s]
   unfold upd
   by_cases e1:s=t
   ·rw [if_pos e1,if_neg (by omega),if_pos e1]
   by_cases e2:s=q
   ·simp only [if_neg e1,if_pos e2]
    split<;>rfl
   simp only [if_neg e1,if_neg e2])
  have hr:=moveK_brep (calc_rep hb3 hrng) ⟨tags,f,t,0⟩;have only:∀kp k,(kp=1\/kp=7)->OnlyAt P.bd kp k->OnlyAt (mk4 P.bd P.turn f t 0) kp (if k=f then t else k):=by
   intro kp k hkp ho;have hkq:q≠k:=by rintro rfl;have:=ho.2.1;omega
   have h1:=upd_only (v:=0) ho hkq (by omega);have h2:=move_only (y:=P.bd f) h1 (by omega) ht hne (by rw [upd_ne (Ne.symm hqt')];omega) (by rw [upd_ne (Ne.symm hqf)];exact id) (by rw [upd_ne (Ne.symm hqf)];exact id) hf;exact h2.congr λs _=>(hm4 s).symm
  exact ⟨hr,moveK_rep hK hk.1 hk.2 rfl rfl (λk=>only 1 k (Or.inl rfl)) (λk=>only 7 k (Or.inr rfl))⟩
 have t8:hasTag (⟨tags,f,t,p⟩:Mv) 8=false:=by
  rw [tag8];cases hh:tagb tags 3
  ·rfl
  exfalso;obtain ⟨ex,et,eep,_⟩:=h3.1 hh;exact hne2 ⟨et,eep,by rw [ex];unfold kindOf;split<;>omega⟩
 rw [ep_id t8] at hk⊢;have hm4:=mk4_normal (turn:=P.turn) (p:=p) hn (std_cast hV h);have hb2:BBits (updPromo ⟨tags,f,t,p⟩ (P.bd f) (updTo B ⟨tags,f,t,p⟩ 12)) (mk4 P.bd P.turn f t p):=by
  by_cases hp:p=0
  ·subst hp;rw [promo_id rfl];exact hb1.congr λs _=>by rw [hm4 s];rfl
  have:=updPromo_bits hb1 (M:=⟨tags,f,t,p⟩) (by dsimp only;omega) (p1:=P.bd f) (by omega) (by dsimp only;rw [Int.toNat_natCast,upd_at]) (by dsimp only;rw [hcol];unfold newP;omega) hp;dsimp only at this;rw [Int.toNat_natCast,hcol] at this;refine this.congr λs _=>?_;rw [hm4 s,if_pos hp];unfold newP upd;split
  ·omega
  rfl
 have hr:=moveK_brep (calc_rep hb2 hrng) ⟨tags,f,t,p⟩;have only:∀kp k,(kp=1\/kp=7)->OnlyAt P.bd kp k->OnlyAt (mk4 P.bd P.turn f t p) kp (if k=f then t else k):=by
  intro kp k hkp ho;have h2:=move_only (y:=if p≠0 then p+6*P.turn else P.bd f) ho (by omega) ht hne (by omega) (λhh=>?_) (λhh=>?_) hf
  ·exact h2.congr λs _=>(hm4 s).symm
  ·rcases h.pr with hp|⟨h6,_⟩
   ·rw [if_neg (by omega)];exact hh
   exfalso;rw [hh] at h6;unfold kindOf at h6;split at h6<;>omega
  rcases h.pr with hp|⟨h6,_⟩
  ·rw [if_neg (by omega)];exact hh
  split<;>omega
 exact ⟨hr,moveK_rep hK hk.1 hk.2 rfl rfl (λk=>only 1 k (Or.inl rfl)) (λk=>only 7 k (Or.inr rfl))⟩
theorem canC_bits:∀n,n<16->(canC (castStr (n:Nat)) 1 1=castBit n 0)/\(canC (castStr (n:Nat)) 1 2=castBit n 1)/\(canC (castStr (n:Nat)) 2 1=castBit n 2)/\(canC (castStr (n:Nat)) 2 2=castBit n 3):=by decide+kernel
theorem castOff_bits:∀n,n<16->∀k,k<4->castOff (n:Nat) k=!(castBit (n:Nat) k):=by decide+kernel
def sumB(b0 b1 b2 b3:Bool):Int:=
 let s1:Int:=bif b0 then 0+1 else 0
 let s2:Int:=bif b1 then s1+2 else s1
 let s3:Int:=bif b2 then s2+4 else s2
 bif b3 then s3+8 else s3
def sumChk:Bool:=(List.range 16).all λn=>[false,true].all λb0=>[false,true].all λb1=>[false,true].all λb2=>[false,true].all λb3=>
 !(sumB b0 b1 b2 b3==((n:Nat):Int))||((b0==castBit (n:Nat) 0)&&((b1==castBit (n:Nat) 1)&&((b2==castBit (n:Nat) 2)&&(b3==castBit (n:Nat) 3))))
theorem sumChk_ok:sumChk=true:=by decide+kernel
theorem bool_mem(b:Bool):b∈[false,true]:=by cases b<;>simp
theorem sum_bits{n:Nat}(hn:n<16){b0 b1 b2 b3:Bool}(h:sumB b0 b1 b2 b3=((n:Nat):Int)):b0=castBit (n:Nat) 0/\b1=castBit (n:Nat) 1/\b2=castBit (n:Nat) 2/\b3=castBit (n:Nat) 3:=by
 have h1:=List.all_eq_true.1 (List.all_eq_true.1 (List.all_eq_true.1 (List.all_eq_true.1 (List.all_eq_true.1 sumChk_ok n (List.mem_range.2 hn)) b0 (bool_mem b0)) b1 (bool_mem b1)) b2 (bool_mem b2)) b3 (bool_mem b3);rw [h] at h1;simpa using h1
theorem right_home{P:SP}(hV:ValidS P){r:Int}(hr:0<=r/\r<=3):castBit P.castle r.toNat=rightB P r:=by
 have hc:=hV.castle;obtain ⟨n,hn⟩:∃n:Nat,P.castle=n:=⟨P.castle.toNat,by omega⟩;have h:=hV.rights;unfold rightsS at h;have h2:=sum_bits (n:=n) (by omega) (b0:=rightB P 0) (b1:=rightB P 1) (b2:=rightB P 2) (b3:=rightB P 3) (by rw [←hn,←h];rfl);rw [hn];rcases (by omega:r=0\/r=1\/r=2\/r=3) with rfl|rfl|rfl|rfl
 ·exact h2.1.symm
 ·exact h2.2.1.symm
 ·exact h2.2.2.1.symm
 exact h2.2.2.2.symm
structure CastM(P:SP)(r:Int):Prop where
 hr:r=2*P.turn\/r=2*P.turn+1
 king:P.bd (homeK r).toNat=1+6*P.turn
 rook:P.bd (homeR r).toNat=3+6*P.turn
 mid:P.bd (homeK r+cwS r).toNat=0
 dst:P.bd (homeK r+(2*cwS r)).toNat=0
theorem freeTo_all{P:SP}{r:Int}:∀n:Nat,freeTo P r n=true↔(attS P.bd (homeK r+cwS r).toNat (1-P.turn)=false/\∀j:Nat,j<n->P.bd (csq r j).toNat=0)
 |0=>by simp [freeTo]
 |n+1=>by
  have e:freeTo P r (n+1)=(freeTo P r n&&(P.bd (csq r (n:Int)).toNat==0)):=rfl;rw [e,Bool.and_eq_true,freeTo_all n,beq_iff_eq];constructor
  ·rintro ⟨⟨a,b⟩,c⟩;refine ⟨a,λj hj=>?_⟩;by_cases e:j=n
   ·subst e;exact c
   ·exact b j (by omega)
  ·rintro ⟨a,b⟩;exact ⟨⟨a,λj hj=>b j (by omega)⟩,b n (by omega)⟩
theorem csq_vals{r:Int}(hr:0<=r/\r<=3):csq r 0=homeK r+cwS r/\csq r 1=homeK r+(2*cwS r)/\2<=(cnS r).toNat:=by
 rcases (by omega:r=0\/r=1\/r=2\/r=3) with rfl|rfl|rfl|rfl<;>decide
theorem castR_iff{P:SP}(hV:ValidS P){r:Int}(hr:r=2*P.turn\/r=2*P.turn+1)(m:Sm):m∈castR P r↔
  (castBit P.castle r.toNat=true/\attS P.bd (homeK r).toNat (1-P.turn)=false/\attS P.bd (homeK r+cwS r).toNat (1-P.turn)=false/\∀j:Nat,j<(cnS r).toNat->P.bd (csq r j).toNat=0)/\m=⟨homeK r,homeK r+(2*cwS r),0⟩:=by
 have hT:=hV.turn;have hc:=hV.castle;have hr3:0<=r/\r<=3:=by omega
 have hoff:castOff (rightsS P) r.toNat=!(castBit P.castle r.toNat):=by
  rw [hV.rights];obtain ⟨n,hn⟩:∃n:Nat,P.castle=n:=⟨P.castle.toNat,by omega⟩;rw [hn];exact castOff_bits n (by omega) _ (by omega)
 unfold castR;rw [hoff];cases h1:castBit P.castle r.toNat
 ·simp
 cases h2:attS P.bd (homeK r).toNat (1-P.turn)
 ·cases h3:freeTo P r (cnS r).toNat
  ·simp only [Bool.not_true,Bool.or_false,cond_false,List.not_mem_nil,false_iff];rintro ⟨⟨_,_,h4⟩,_⟩;rw [(freeTo_all _).2 h4] at h3;cases h3
  have h4:=(freeTo_all _).1 h3;simp only [Bool.not_true,Bool.or_false,cond_false,cond_true,List.mem_singleton];exact ⟨λh=>⟨⟨by simp,by simp,h4⟩,h⟩,λh=>h.2⟩
 simp
theorem castM_of{P:SP}(hV:ValidS P){r:Int}(hr:r=2*P.turn\/r=2*P.turn+1)(h1:castBit P.castle r.toNat=true)(h2:∀j:Nat,j<(cnS r).toNat->P.bd (csq r j).toNat=0):CastM P r:=by
 have hT:=hV.turn;have hr3:0<=r/\r<=3:=by omega
 have hh:=right_home hV hr3;rw [h1] at hh;unfold rightB at hh;have hh:=hh.symm;simp only [Bool.and_eq_true,beq_iff_eq] at hh;have hv:=csq_vals hr3;have hrt:r/2=P.turn:=by omega
 rw [hrt] at hh;exact ⟨hr,hh.1.2,hh.2,by rw [←hv.1];exact h2 0 (by omega),by rw [←hv.2.1];exact h2 1 (by omega)⟩
def castChk:Bool:=(List.range 4).all λ(r:Nat)=>(List.range 64).all λi=>
 !(strt i (homeK r+(2*cwS r)).toNat||slnt i (homeK r+(2*cwS r)).toNat)||(Nat.beq i (homeK r).toNat||(Nat.beq i (homeR r).toNat||(Nat.beq i (homeK r+cwS r).toNat||(Nat.beq i (homeK r+(2*cwS r)).toNat||
  ((!((btw i (homeK r+(2*cwS r)).toNat).contains (homeK r).toNat)&&(!((btw i (homeK r+(2*cwS r)).toNat).contains (homeK r+cwS r).toNat)&&!((btw i (homeK r+(2*cwS r)).toNat).contains (homeR r).toNat)))||
  ((btw i (homeK r+(2*cwS r)).toNat).contains (homeK r).toNat&&(btw i (homeK r+(2*cwS r)).toNat).contains (homeK r+cwS r).toNat))))))
theorem castChk_ok:castChk=true:=by decide+kernel
def btwDst:Bool:=(List.range 4).all λ(r:Nat)=>(List.range 64).all λi=>!(strt i (homeK r+(2*cwS r)).toNat||slnt i (homeK r+(2*cwS r)).toNat)||!((btw i (homeK r+(2*cwS r)).toNat).contains (homeK r+(2*cwS r)).toNat)
theorem btwDst_ok:btwDst=true:=by decide+kernel
structure HomeN(r:Int)(K R M T:Nat):Prop where
 k:(homeK r).toNat=K
 r':(homeR r).toNat=R
 m:(homeK r+cwS r).toNat=M
 t:(homeK r+(2*cwS r)).toNat=T
 ki:homeK r=K
 ti:homeK r+(2*cwS r)=T
 lt:K<64/\R<64/\M<64/\T<64
 ne:K≠R/\K≠M/\K≠T/\R≠M/\R≠T/\M≠T
 corner:(cornerS (homeK r) (homeK r+(2*cwS r))).toNat=R
 mid:((homeK r+(homeK r+(2*cwS r)))/2).toNat=M
 two:homeK r+(2*cwS r)=homeK r+2\/homeK r+(2*cwS r)=homeK r-2
theorem homeN{r:Int}(hr:0<=r/\r<=3):HomeN r (homeK r).toNat (homeR r).toNat (homeK r+cwS r).toNat (homeK r+(2*cwS r)).toNat:=by
 rcases (by omega:r=0\/r=1\/r=2\/r=3) with rfl|rfl|rfl|rfl<;>exact ⟨rfl,rfl,rfl,rfl,by decide,by decide,by decide,by decide,by decide,by decide,by decide⟩
def castBd(bd:Nat->Int)(turn:Int)(K R M T:Nat):Nat->Int:=upd (upd (upd (upd bd K 0) T (1+6*turn)) R 0) M (3+6*turn)
theorem mk4_cast{P:SP}(hV:ValidS P){r:Int}(h:CastM P r)(s:Nat):mk4 P.bd P.turn (homeK r) (homeK r+(2*cwS r)) 0 s=castBd P.bd P.turn (homeK r).toNat (homeR r).toNat (homeK r+cwS r).toNat (homeK r+(2*cwS r)).toNat s:=by
 have hT:=hV.turn;have hr3:0<=r/\r<=3:=by have:=h.hr;omega
 have hN:=homeN hr3;have hk1:kindOf (P.bd (homeK r).toNat)=1:=by rw [h.king];unfold kindOf;split<;>omega
 have hc:castlesB P.bd (homeK r) (homeK r+(2*cwS r))=true:=by
  unfold castlesB;rw [hk1];rcases hN.two with e|e<;>rw [e]<;>simp
 have ht:takesI P.bd (homeK r) (homeK r+(2*cwS r))=false:=by
  unfold takesI;rw [h.dst,hk1];rfl
 unfold mk4;rw [hc];simp only [cond_true];unfold mk3 mk2 mk1;rw [ht,hN.corner,hN.mid,h.king];rfl
theorem castBd_get(bd:Nat->Int)(turn:Int){K R M T:Nat}(hne:K≠R/\K≠M/\K≠T/\R≠M/\R≠T/\M≠T)(s:Nat):
  castBd bd turn K R M T s=if s=M then 3+6*turn else if s=R then 0 else if s=T then 1+6*turn else if s=K then 0 else bd s:=rfl
theorem cast_att{P:SP}(hV:ValidS P){r:Int}(h:CastM P r):
  attS (mk4 P.bd P.turn (homeK r) (homeK r+(2*cwS r)) 0) (homeK r+(2*cwS r)).toNat (1-P.turn)=attS P.bd (homeK r+(2*cwS r)).toNat (1-P.turn):=by
 have hT:=hV.turn;have hr3:0<=r/\r<=3:=by have:=h.hr;omega
 have hN:=homeN hr3;have hg:=mk4_cast hV h;have hking:=h.king;have hrook:=h.rook;have hmid:=h.mid;have hdst:=h.dst;have hchk:∀i,i<64->(strt i (homeK r+(2*cwS r)).toNat=true\/slnt i (homeK r+(2*cwS r)).toNat=true)->i≠(homeK r).toNat->i≠(homeR r).toNat->i≠(homeK r+cwS r).toNat->i≠(homeK r+(2*cwS r)).toNat->
   (((homeK r).toNat∉btw i (homeK r+(2*cwS r)).toNat/\(homeK r+cwS r).toNat∉btw i (homeK r+(2*cwS r)).toNat/\(homeR r).toNat∉btw i (homeK r+(2*cwS r)).toNat)\/
    ((homeK r).toNat∈btw i (homeK r+(2*cwS r)).toNat/\(homeK r+cwS r).toNat∈btw i (homeK r+(2*cwS r)).toNat))/\(homeK r+(2*cwS r)).toNat∉btw i (homeK r+(2*cwS r)).toNat:=by
  intro i hi hal h1 h2 h3 h4;obtain ⟨q,hq⟩:∃q:Nat,r=q:=⟨r.toNat,by omega⟩;subst hq;have c1:=List.all_eq_true.1 (List.all_eq_true.1 castChk_ok q (List.mem_range.2 (by omega))) i (List.mem_range.2 hi);have c2:=List.all_eq_true.1 (List.all_eq_true.1 btwDst_ok q (List.mem_range.2 (by omega))) i (List.mem_range.2 hi);have ha:(strt i (homeK q+(2*cwS q)).toNat||slnt i (homeK q+(2*cwS q)).toNat)=true:=by simpa using hal
  have n1:Nat.beq i (homeK q).toNat=false:=by have:=nbeq.2 h1;simpa using this
  have n2:Nat.beq i (homeR q).toNat=false:=by have:=nbeq.2 h2;simpa using this
  have n3:Nat.beq i (homeK q+cwS q).toNat=false:=by have:=nbeq.2 h3;simpa using this
  have n4:Nat.beq i (homeK q+(2*cwS q)).toNat=false:=by have:=nbeq.2 h4;simpa using this
  rw [ha] at c1 c2;rw [n1,n2,n3,n4] at c1;simp only [Bool.not_true,Bool.false_or] at c1 c2;simp only [Bool.or_eq_true,Bool.and_eq_true,Bool.not_eq_true',List.contains_iff_mem] at c1 c2;have cn:∀(l:List Nat) (x:Nat),l.contains x=false↔x∉l:=λl x=>by
   rw [←Bool.not_eq_true,List.contains_iff_mem]
  rw [cn,cn,cn] at c1;rw [cn] at c2;exact ⟨c1,c2⟩
 revert hchk hg hking hrook hmid hdst;have hlt:=hN.lt;have hne:=hN.ne;generalize (homeK r).toNat=K at*
 generalize (homeR r).toNat=R at*
 generalize (homeK r+cwS r).toNat=M at*
 generalize (homeK r+(2*cwS r)).toNat=T at*
 intro hg hking hrook hmid hdst hchk;have hg2:∀s,mk4 P.bd P.turn (homeK r) (homeK r+(2*cwS r)) 0 s=if s=M then 3+6*P.turn else if s=R then 0 else if s=T then 1+6*P.turn else if s=K then 0 else P.bd s:=λs=>(hg s).trans (castBd_get _ _ hne s)
 generalize mk4 P.bd P.turn (homeK r) (homeK r+(2*cwS r)) 0=bd' at*
 have key:∀i,i<64->(bd' i !=0&&(sideOf (bd' i)==(1-P.turn)&&hitS bd' i T))=(P.bd i !=0&&(sideOf (P.bd i)==(1-P.turn)&&hitS P.bd i T)):=by
  intro i hi;have own:∀y:Int,(y=1+6*P.turn\/y=3+6*P.turn)->(sideOf y==(1-P.turn))=false:=by
   intro y hy;rw [beq_eq_false_iff_ne];unfold sideOf;split<;>omega
  by_cases e1:i=M
  ·subst e1;rw [hg2,if_pos rfl,own _ (Or.inr rfl),hmid];simp
  by_cases e2:i=R
  ·subst e2;rw [hg2,if_neg e1,if_pos rfl,hrook,own _ (Or.inr rfl)];simp
  by_cases e3:i=T
  ·subst e3;rw [hg2,if_neg e1,if_neg e2,if_pos rfl,own _ (Or.inl rfl),hdst];simp
  by_cases e4:i=K
  ·subst e4;rw [hg2,if_neg e1,if_neg e2,if_neg e3,if_pos rfl,hking,own _ (Or.inl rfl)];simp
  have ei:bd' i=P.bd i:=by rw [hg2,if_neg e1,if_neg e2,if_neg e3,if_neg e4]
  rw [ei];congr 1;congr 1;have hcl:(strt i T=true\/slnt i T=true)->clr (occS bd') i T=clr (occS P.bd) i T:=by
   intro hal;obtain ⟨hc,hd⟩:=hchk i hi hal e4 e2 e1 e3;rcases hc with ⟨c1,c2,c3⟩|⟨c1,c2⟩
   ·unfold clr;rw [Bool.eq_iff_iff,List.all_eq_true,List.all_eq_true];have:∀j∈btw i T,occS bd' j=occS P.bd j:=by
     intro j hj;have n1:j≠M:=λe=>c2 (by rw [←e];exact hj);have n2:j≠R:=λe=>c3 (by rw [←e];exact hj);have n3:j≠T:=λe=>hd (by rw [e] at hj;exact hj);have n4:j≠K:=λe=>c1 (by rw [←e];exact hj);unfold occS;rw [hg2,if_neg n1,if_neg n2,if_neg n3,if_neg n4]
    exact ⟨λhh j hj=>by rw [←this j hj];exact hh j hj,λhh j hj=>by rw [this j hj];exact hh j hj⟩
   have f1:clr (occS bd') i T=false:=by
    unfold clr;rw [List.all_eq_false];exact ⟨M,c2,by unfold occS;rw [hg2,if_pos rfl,show ((3+6*P.turn:Int) !=0)=true from bne_iff_ne.2 (by omega)];decide⟩
   have f2:clr (occS P.bd) i T=false:=by
    unfold clr;rw [List.all_eq_false];exact ⟨K,c1,by unfold occS;rw [hking,show ((1+6*P.turn:Int) !=0)=true from bne_iff_ne.2 (by omega)];decide⟩
   rw [f1,f2]
  unfold hitS;rw [ei];have c3:(strt i T&&clr (occS bd') i T)=(strt i T&&clr (occS P.bd) i T):=by
   cases hh:strt i T
   ·rfl
   rw [hcl (Or.inl hh)]
  have c4:(slnt i T&&clr (occS bd') i T)=(slnt i T&&clr (occS P.bd) i T):=by
   cases hh:slnt i T
   ·rfl
   rw [hcl (Or.inr hh)]
  have c2:((strt i T||slnt i T)&&clr (occS bd') i T)=((strt i T||slnt i T)&&clr (occS P.bd) i T):=by
   cases hh:(strt i T||slnt i T)
   ·rfl
   rw [hcl (by simpa using hh)]
  rw [c3,c4,c2]
 unfold attS;rw [Bool.eq_iff_iff,any64,any64];exact ⟨λ⟨i,hi,hh⟩=>⟨i,hi,by rw [←key i hi];exact hh⟩,λ⟨i,hi,hh⟩=>⟨i,hi,by rw [key i hi];exact hh⟩⟩
theorem std_only{P:SP}(hV:ValidS P){f t:Nat}{p:Int}(h:StdM P f t p){kp:Int}{k:Nat}(hkp:kp=1\/kp=7)(ho:OnlyAt P.bd kp k):OnlyAt (mk4 P.bd P.turn f t p) kp (if k=f then t else k):=by
 have hf:=h.hf;have ht:=h.ht;have hT:=hV.turn;have hne:=std_ne hV h;have hnk:=std_nk hV h;rcases std_ep hV h with ⟨⟨ex,et,eep,ea,er⟩,hp0⟩|⟨hn,_⟩
 ·subst hp0;have hp:=passed_get hT hV.passed;obtain ⟨q,hq⟩:∃q:Nat,(8*((f:Int)/8)+(t:Int)%8)=q:=⟨(8*((f:Int)/8)+(t:Int)%8).toNat,by omega⟩;have hqb:P.bd q=6+6*(1-P.turn):=by
   rcases hp with hp|⟨_,_,_,hp,_⟩
   ·omega
   rw [←eep,show ((t:Int)-8*(1-2*P.turn)).toNat=q by omega] at hp;exact hp
  have hqf:q≠f:=by omega
  have hqt':q≠t:=by omega
  have h6:kindOf (P.bd f)=6:=by rw [ex];unfold kindOf;split<;>omega
  have hm4:∀s,mk4 P.bd P.turn f t 0 s=upd (upd (upd P.bd q 0) f 0) t (P.bd f) s:=mk4_ep h6 et (by omega) hq;have hkq:q≠k:=by rintro rfl;have:=ho.2.1;omega
  have h1:=upd_only (v:=0) ho hkq (by omega);have h2:=move_only (y:=P.bd f) h1 (by omega) ht hne (by rw [upd_ne (Ne.symm hqt')];omega) (by rw [upd_ne (Ne.symm hqf)];exact id) (by rw [upd_ne (Ne.symm hqf)];exact id) hf;exact h2.congr λs _=>(hm4 s).symm
 have hm4:=mk4_normal (turn:=P.turn) (p:=p) hn (std_cast hV h);have h2:=move_only (y:=if p≠0 then p+6*P.turn else P.bd f) ho (by omega) ht hne (by omega) (λhh=>?_) (λhh=>?_) hf
 ·exact h2.congr λs _=>(hm4 s).symm
 ·rcases h.pr with hp|⟨h6,_⟩
  ·rw [if_neg (by omega)];exact hh
  exfalso;rw [hh] at h6;unfold kindOf at h6;split at h6<;>omega
 rcases h.pr with hp|⟨h6,_⟩
 ·rw [if_neg (by omega)];exact hh
 split<;>omega
theorem OnlyAt.uniq{bd:Nat->Int}{p:Int}{a b:Nat}(h:OnlyAt bd p a)(k:OnlyAt bd p b):a=b:=k.2.2 a h.1 h.2.1
theorem inChk_eq{B:Bd}{bd:Nat->Int}(hB:BRep B bd)(hK:KRep B bd){c:Int}(hc:0<=c/\c<=1){k:Nat}(ho:OnlyAt bd (1+6*c) k):inChk B (c+1)=attS bd k (1-c):=by
 obtain ⟨⟨a,ha,ha'⟩,⟨b,hb,hb'⟩⟩:=hK;unfold inChk;rcases (by omega:c=0\/c=1) with rfl|rfl
 ·have e:kingSq B (0+1)=k:=by
   show B.wk=k;rw [ha',ha.uniq (by simpa using ho)]
  rw [e,show (((k:Nat):Int)==-1)=false by rw [beq_eq_false_iff_ne];omega];simp only [cond_false];rw [att1_eq hB (Or.inl (by decide)) ho.1];rfl
 have e:kingSq B (1+1)=k:=by
  show B.bk=k;rw [hb',hb.uniq (by simpa using ho)]
 rw [e,show (((k:Nat):Int)==-1)=false by rw [beq_eq_false_iff_ne];omega];simp only [cond_false];rw [att1_eq hB (Or.inr (by decide)) ho.1];rfl
theorem turnOf_eq{t:Int}(h:0<=t/\t<=1):turnOf t=t+1:=by rcases turnOf_cases h with ⟨a,b⟩|⟨a,b⟩<;>omega
theorem otherC_eq{t:Int}(h:0<=t/\t<=1):otherC (turnOf t)=(1-t)+1:=by
 rw [turnOf_eq h];rcases (by omega:t=0\/t=1) with rfl|rfl<;>rfl
theorem valid_kings{P:SP}(hV:ValidS P){c:Int}(hc:0<=c/\c<=1):∃k:Nat,OnlyAt P.bd (1+6*c) k/\kingAtS P.bd c=k:=by
 have hct:countS P.bd (1+6*c)=1:=by
  rcases (by omega:c=0\/c=1) with rfl|rfl
  ·exact hV.kw
  exact hV.kb
 obtain ⟨h1,h2⟩:=only_of_count hct;exact ⟨_,h1,by omega⟩
theorem base_rep{P:SP}(hV:ValidS P):BRep (boardOf P.bd) P.bd/\KRep (boardOf P.bd) P.bd:=by
 obtain ⟨a,ha,_⟩:=valid_kings hV (c:=0) (by omega);obtain ⟨b,hb,_⟩:=valid_kings hV (c:=1) (by omega);exact ⟨boardOf_rep hV.bd,boardOf_kings hV.bd ha hb⟩
theorem chk_eq{P:SP}(hV:ValidS P){k:Nat}(hk:OnlyAt P.bd (1+6*P.turn) k):(psOf P).chk=attS P.bd k (1-P.turn):=by
 obtain ⟨hB,hK⟩:=base_rep hV;show inChk (boardOf P.bd) (turnOf P.turn)=_;rw [turnOf_eq hV.turn];exact inChk_eq hB hK hV.turn hk
theorem okS_eq{P:SP}(hV:ValidS P){f t:Nat}{p:Int}{k:Nat}(hk:OnlyAt P.bd (1+6*P.turn) k):okS P ⟨f,t,p⟩=!(attS (mk4 P.bd P.turn f t p) (if k=f then t else k) (1-P.turn)):=by
 have hka:kingAtS P.bd P.turn=k:=kingAt_only hk;have e:atK P ⟨f,t,p⟩=((if k=f then t else k:Nat):Int):=by
  unfold atK;dsimp only;rw [hka];by_cases h:k=f
  ·rw [if_pos h,show ((f:Int)==(k:Int))=true from beq_iff_eq.2 (by omega)];rfl
  rw [if_neg h,show ((f:Int)==(k:Int))=false from beq_eq_false_iff_ne.2 (by omega)];rfl
 unfold okS;rw [e,Int.toNat_natCast,show decide (((if k=f then t else k:Nat):Int)<0)=false by rw [decide_eq_false_iff_not];omega];rfl
theorem kingHome_std{P:SP}(hV:ValidS P){f t:Nat}{p:Int}(h:StdM P f t p)(hh:kingHome (P.bd f) f=true):(t:Int)≠2/\(t:Int)≠58/\(t:Int)≠6/\(t:Int)≠62:=by
 unfold kingHome at hh;simp only [Bool.or_eq_true,Bool.and_eq_true,beq_iff_eq] at hh;have h1:kindOf (P.bd f)=1:=by rcases hh with ⟨e,_⟩|⟨e,_⟩<;>rw [e]<;>rfl
 have:=std_near hV h h1;omega
theorem tg2_std{P:SP}(hV:ValidS P){f t:Nat}{p:Int}(h:StdM P f t p)(tags:Int):tg2 (boardOf P.bd) (psOf P) ⟨tags,f,t,p⟩=tg1 (boardOf P.bd) (psOf P) ⟨tags,f,t,p⟩:=by
 have hB:=(base_rep hV).1;unfold tg2;dsimp only;rw [hB.pieceAt h.hf];cases hh:kingHome (P.bd f) f
 ·rfl
 obtain ⟨a,b,c,d⟩:=kingHome_std hV h hh;rw [show ((t:Int)==2)=false from beq_eq_false_iff_ne.2 a,show ((t:Int)==58)=false from beq_eq_false_iff_ne.2 b,show ((t:Int)==6)=false from beq_eq_false_iff_ne.2 c,show ((t:Int)==62)=false from beq_eq_false_iff_ne.2 d];rfl
theorem occd_eq{B:Bd}{bd:Nat->Int}(hB:BRep B bd){t:Nat}(ht:t<64):occd B t=(bd t !=0):=by
 unfold occd;rw [occB_sb hB.ue (by omega),Int.toNat_natCast,hB.empty t ht];rfl
theorem pType_kind{x:Int}(h:0<=x/\x<=12)(h0:x≠0):pType x=kindOf x:=by
 have hc:x=1\/x=2\/x=3\/x=4\/x=5\/x=6\/x=7\/x=8\/x=9\/x=10\/x=11\/x=12:=by omega
 rcases hc with e|e|e|e|e|e|e|e|e|e|e|e<;>rw [e]<;>rfl
theorem tb4:∀i,i<6->tagb 4 i=decide (i=2):=by decide
theorem tb8:∀i,i<6->tagb 8 i=decide (i=3):=by decide
theorem tb16:∀i,i<6->tagb 16 i=decide (i=4):=by decide
theorem tb32:∀i,i<6->tagb 32 i=decide (i=5):=by decide
theorem tb1:∀i,i<6->tagb 1 i=decide (i=0):=by decide
theorem tb2:∀i,i<6->tagb 2 i=decide (i=1):=by decide
theorem tb0:∀i,i<6->tagb 0 i=false:=by decide
theorem tg1_std{P:SP}(hV:ValidS P){f t:Nat}{p:Int}(h:StdM P f t p)(tags:Int):∀i,i<6->
  tagb (tg1 (boardOf P.bd) (psOf P) ⟨tags,f,t,p⟩) i=(tagb tags i||(decide (i=2)&&(P.bd t !=0))||(decide (i=3)&&(P.bd t==0&&((t:Int)==P.ep&&kindOf (P.bd f)==6)))):=by
 intro i hi;have hB:=(base_rep hV).1;unfold tg1;dsimp only;rw [occd_eq hB h.ht,hB.pieceAt h.hf,pType_kind (hV.bd f h.hf) h.x0,show (psOf P).ep=P.ep from rfl];by_cases h0:P.bd t=0
 ·rw [show (P.bd t !=0)=false by rw [bne_eq_false_iff_eq];exact h0,show (P.bd t==0)=true from beq_iff_eq.2 h0];cases hh:(((t:Int)==P.ep)&&(kindOf (P.bd f)==6))
  ·simp
  simp only [cond_false,cond_true];rw [tagb_or,tb8 i hi];simp
 rw [show (P.bd t !=0)=true from bne_iff_ne.2 h0,show (P.bd t==0)=false from beq_eq_false_iff_ne.2 h0];simp only [cond_true];rw [tagb_or,tb4 i hi];simp
theorem ep_bit{P:SP}(hV:ValidS P){f t:Nat}{p:Int}(h:StdM P f t p):(P.bd t==0&&((t:Int)==P.ep&&kindOf (P.bd f)==6))=true↔EPm P f t:=by
 simp only [Bool.and_eq_true,beq_iff_eq];rcases std_ep hV h with ⟨hE,_⟩|⟨_,hn⟩
 ·have hT:=hV.turn;exact ⟨λ_=>hE,λhE=>⟨hE.2.1,hE.2.2.1,by rw [hE.1];unfold kindOf;split<;>omega⟩⟩
 constructor
 ·rintro ⟨a,b,c⟩;exact absurd ⟨a,b,c⟩ hn
 intro hE;have hT:=hV.turn;exact absurd ⟨hE.2.1,hE.2.2.1,by rw [hE.1];unfold kindOf;split<;>omega⟩ hn
theorem tg4_std{P:SP}(hV:ValidS P){f t:Nat}{p:Int}(h:StdM P f t p){tags:Int}(h0:tagb tags 0=false)(h1:tagb tags 1=false)(h3:tagb tags 3=true->EPm P f t)
  {k e:Nat}(hk:OnlyAt P.bd (1+6*P.turn) k)(he:OnlyAt P.bd (1+6*(1-P.turn)) e):
  let x:=tg4 (boardOf P.bd) (psOf P) ⟨tags,f,t,p⟩
  tagb x 0=false/\tagb x 1=false/\tagb x 2=(tagb tags 2||(P.bd t !=0))/\(tagb x 3=true↔EPm P f t)/\
  tagb x 4=(tagb tags 4||attS (mk4 P.bd P.turn f t p) e P.turn)/\tagb x 5=(tagb tags 5||!(okS P ⟨f,t,p⟩)):=by
 have hT:=hV.turn;obtain ⟨hB,hK⟩:=base_rep hV;have hb:=tg1_std hV h tags;have e2:=tg2_std hV h tags;have hE:=ep_bit hV h;have h3':tagb (tg2 (boardOf P.bd) (psOf P) ⟨tags,f,t,p⟩) 3=true↔EPm P f t:=by
  rw [e2,hb 3 (by decide)];simp only [show ((3:Nat)=2)=False by decide,decide_false,Bool.false_and,Bool.or_false,decide_true,Bool.true_and,Bool.or_eq_true];rw [hE];exact ⟨λhh=>hh.elim h3 id,Or.inr⟩
 have h0':tagb (tg2 (boardOf P.bd) (psOf P) ⟨tags,f,t,p⟩) 0=false:=by rw [e2,hb 0 (by decide),h0];simp
 have h1':tagb (tg2 (boardOf P.bd) (psOf P) ⟨tags,f,t,p⟩) 1=false:=by rw [e2,hb 1 (by decide),h1];simp
 obtain ⟨nB,nK⟩:=next_std hV hB hK h h0' h1' h3';have hko:=std_only hV h (by omega) hk;have heo:=std_only hV h (by omega) he;have hef:e≠f:=by
  rintro rfl;have:=h.side;rw [he.2.1] at this;unfold sideOf at this;split at this<;>omega
 rw [if_neg hef] at heo;have c1:inChk (nextB (boardOf P.bd) (psOf P) ⟨tags,f,t,p⟩) (psOf P).turn=!(okS P ⟨f,t,p⟩):=by
  rw [okS_eq hV hk,Bool.not_not];show inChk (updB (boardOf P.bd) ⟨tg2 (boardOf P.bd) (psOf P) ⟨tags,f,t,p⟩,f,t,p⟩) (turnOf P.turn)=_;rw [turnOf_eq hT];exact inChk_eq nB nK hT hko
 have c2:inChk (nextB (boardOf P.bd) (psOf P) ⟨tags,f,t,p⟩) (otherC (psOf P).turn)=attS (mk4 P.bd P.turn f t p) e P.turn:=by
  show inChk (updB (boardOf P.bd) ⟨tg2 (boardOf P.bd) (psOf P) ⟨tags,f,t,p⟩,f,t,p⟩) (otherC (turnOf P.turn))=_;rw [otherC_eq hT,inChk_eq nB nK (by omega) heo,show 1-(1-P.turn)=P.turn by omega]
 have hx:∀i,i<6->tagb (tg4 (boardOf P.bd) (psOf P) ⟨tags,f,t,p⟩) i=(tagb (tg2 (boardOf P.bd) (psOf P) ⟨tags,f,t,p⟩) i||(decide (i=4)&&attS (mk4 P.bd P.turn f t p) e P.turn)||(decide (i=5)&&!(okS P ⟨f,t,p⟩))):=by
  intro i hi;unfold tg4 tg3;rw [c1,c2];cases okS P ⟨f,t,p⟩<;>cases attS (mk4 P.bd P.turn f t p) e P.turn
  ·simp only [Bool.not_false,cond_true,cond_false];rw [tagb_or,tb32 i hi];simp
  ·simp only [Bool.not_false,cond_true];rw [tagb_or,tagb_or,tb32 i hi,tb16 i hi];simp [Bool.or_right_comm]
  ·simp
  simp only [Bool.not_true,cond_true,cond_false];rw [tagb_or,tb16 i hi];simp
 refine ⟨?_,?_,?_,?_,?_,?_⟩
 ·rw [hx 0 (by decide),h0'];simp
 ·rw [hx 1 (by decide),h1'];simp
 ·rw [hx 2 (by decide),e2,hb 2 (by decide)];simp
 ·rw [hx 3 (by decide)];simp only [show ((3:Nat)=4)=False by decide,show ((3:Nat)=5)=False by decide,decide_false,Bool.false_and,Bool.or_false];exact h3'
 ·rw [hx 4 (by decide),e2,hb 4 (by decide)];simp
 rw [hx 5 (by decide),e2,hb 5 (by decide)];simp
theorem fm_mem{α:Type}{f:Int->List α}{n:Nat}{x:α}:x∈fm f n↔∃k:Nat,k<n/\x∈f (k:Int):=by
 unfold fm;rw [List.mem_flatMap];exact ⟨λ⟨k,hk,hx⟩=>⟨k,List.mem_range.1 hk,hx⟩,λ⟨k,hk,hx⟩=>⟨k,List.mem_range.2 hk,hx⟩⟩
theorem keepM_mem{m M:Mv}:M∈keepM m↔tagb m.tags 5=false/\M=m:=by
 unfold keepM;rw [tag32];cases tagb m.tags 5<;>simp
theorem sqRank_nat:∀t:Nat,t<64->sqRank (t:Int)=((t/8:Nat):Int):=by decide
theorem isPromo_iff{P:SP}(hV:ValidS P){f t:Nat}(hf:f<64)(ht:t<64)(h0:P.bd f≠0)(hs:sideOf (P.bd f)=P.turn):
  isPromo (P.bd f) t=true↔kindOf (P.bd f)=6/\(t:Int)/8=7-7*P.turn:=by
 have hT:=hV.turn;have hx:=side_of (hV.bd f hf) h0;unfold isPromo;rw [sqRank_nat t ht];simp only [Bool.or_eq_true,Bool.and_eq_true,beq_iff_eq];omega
theorem s2F_mem{P:SP}(hV:ValidS P){s t:Nat}(hs:s<64)(ht:t<64)(h0:P.bd s≠0)(hsd:sideOf (P.bd s)=P.turn)(M:Mv):
  M∈s2F (boardOf P.bd) (psOf P) (P.bd s) s t↔StdM P s t 0/\M∈(bif isPromo (P.bd s) t then fm (promoF (boardOf P.bd) (psOf P) s t) 4 else keepM (plainM (boardOf P.bd) (psOf P) s t)):=by
 have hd:=dest_iff hV hs ht h0 hsd;have hb:=band_bbSq (a:=dest (boardOf P.bd) (psOf P) (P.bd s) s) ht;unfold s2F;cases hc:(band (dest (boardOf P.bd) (psOf P) (P.bd s) s) (bbSq t)==0)
 ·rw [beqz_false,hb,hd] at hc;simp only [cond_false];exact ⟨λh=>⟨⟨hs,ht,h0,hsd,hc.1,hc.2,Or.inl rfl⟩,h⟩,λh=>h.2⟩
 simp only [cond_true,List.not_mem_nil,false_iff];rintro ⟨h,_⟩;have:=hd.2 ⟨h.dst,h.own⟩;rw [←hb] at this;simp only [bne,hc] at this;cases this
theorem pieces_of{P:SP}(hV:ValidS P)(j s:Nat)(hs:s<64)(hj:j<12):(band (Bd.of (boardOf P.bd) ((j:Int)+1)) (bbSq s)==0)=!(P.bd s==(j:Int)+1):=by
 have hB:=(base_rep hV).1;have h1:=band_bbSq (a:=Bd.of (boardOf P.bd) ((j:Int)+1)) hs;rw [hB.of (by omega) (by omega) hs] at h1;rw [←h1];simp [bne]
theorem std_mem{P:SP}(hV:ValidS P)(M:Mv):M∈stdL (boardOf P.bd) (psOf P)↔∃s t:Nat,StdM P s t 0/\M∈(bif isPromo (P.bd s) t then fm (promoF (boardOf P.bd) (psOf P) s t) 4 else keepM (plainM (boardOf P.bd) (psOf P) s t)):=by
 have hB:=(base_rep hV).1;have hT:=hV.turn;have hturn:(psOf P).turn=P.turn+1:=turnOf_eq hT;unfold stdL;rw [fm_mem];constructor
 ·rintro ⟨j,hj,h⟩;unfold pF at h;cases h1:((psOf P).turn !=pColor ((j:Int)+1))<;>rw [h1] at h
  ·cases h2:(Bd.of (boardOf P.bd) ((j:Int)+1)==0)<;>rw [h2] at h
   ·simp only [cond_false] at h;obtain ⟨s,hs,h⟩:=fm_mem.1 h;unfold s1F at h;rw [pieces_of hV j s hs hj] at h;cases h3:(P.bd s==(j:Int)+1)<;>rw [h3] at h
    ·simp at h
    have hx:(j:Int)+1=P.bd s:=(eq_of_beq h3).symm;rw [hx] at h h1;have h0:P.bd s≠0:=by omega
    rw [pColor_side (hV.bd s hs) h0,hturn] at h1;have hsd:sideOf (P.bd s)=P.turn:=by
     simp only [bne_eq_false_iff_eq] at h1;omega
    simp only [Bool.not_true,cond_false] at h;cases h4:(dest (boardOf P.bd) (psOf P) (P.bd s) s==0)<;>rw [h4] at h
    ·simp only [cond_false] at h;obtain ⟨t,ht,h⟩:=fm_mem.1 h;have h5:=(s2F_mem hV hs ht h0 hsd M).1 h;exact ⟨s,t,h5⟩
    simp at h
   simp at h
  simp at h
 rintro ⟨s,t,h,hm⟩;have hs:=h.hf;have ht:=h.ht;have h0:=h.x0;have hsd:=h.side;have hx:=hV.bd s hs;refine ⟨(P.bd s-1).toNat,by omega,?_⟩;have ej:(((P.bd s-1).toNat:Nat):Int)=P.bd s-1:=by omega
 have e1:(((P.bd s-1).toNat:Nat):Int)+1=P.bd s:=by omega
 unfold pF;have h1:((psOf P).turn !=pColor (P.bd s))=false:=by
  rw [pColor_side hx h0,hturn,hsd];simp
 have hin:=(s2F_mem hV hs ht h0 hsd M).2 ⟨h,hm⟩;have hne:(Bd.of (boardOf P.bd) (P.bd s)==0)=false:=by
  rw [beq_eq_false_iff_ne];intro e;have:=(sb_zero (hB.uof (P.bd s))).1 e s hs;rw [hB.of (by omega) (by omega) hs] at this;simp at this
 have hne2:(dest (boardOf P.bd) (psOf P) (P.bd s) s==0)=false:=by
  rw [beq_eq_false_iff_ne];intro e;have:=(sb_zero (U_band _ _)).1 e t ht;have hd:=(dest_iff hV hs ht h0 hsd).2 ⟨h.dst,h.own⟩;unfold dest at hd;rw [this] at hd;cases hd
 rw [e1,h1,hne];simp only [cond_false];refine fm_mem.2 ⟨s,hs,?_⟩;unfold s1F;have hp:=pieces_of hV (P.bd s-1).toNat s hs (by omega);rw [e1] at hp;rw [hp,hne2];simp only [beq_self_eq_true,Bool.not_true,cond_false];exact fm_mem.2 ⟨t,ht,hin⟩
theorem attS_same{bd bd':Nat->Int}{k:Nat}(hk:k<64){o:Int}(h:∀i,i<64->bd i=bd' i\/(bd i≠0/\bd' i≠0/\sideOf (bd i)≠o/\sideOf (bd' i)≠o)):attS bd k o=attS bd' k o:=by
 have ho:∀j,j<64->occS bd j=occS bd' j:=by
  intro j hj;unfold occS;rcases h j hj with e|⟨a,b,_⟩
  ·rw [e]
  rw [bne_iff_ne.2 a,bne_iff_ne.2 b]
 have key:∀i,i<64->(bd i !=0&&(sideOf (bd i)==o&&hitS bd i k))=(bd' i !=0&&(sideOf (bd' i)==o&&hitS bd' i k)):=by
  intro i hi;rcases h i hi with e|⟨_,_,a,b⟩
  ·rw [e];congr 1;congr 1;have hcl:(strt i k=true\/slnt i k=true)->clr (occS bd) i k=clr (occS bd') i k:=λhal=>clr_congr hi hk hal ho;have c3:(strt i k&&clr (occS bd) i k)=(strt i k&&clr (occS bd') i k):=by
    cases hh:strt i k
    ·rfl
    rw [hcl (Or.inl hh)]
   have c4:(slnt i k&&clr (occS bd) i k)=(slnt i k&&clr (occS bd') i k):=by
    cases hh:slnt i k
    ·rfl
    rw [hcl (Or.inr hh)]
   have c2:((strt i k||slnt i k)&&clr (occS bd) i k)=((strt i k||slnt i k)&&clr (occS bd') i k):=by
    cases hh:(strt i k||slnt i k)
    ·rfl
    rw [hcl (by simpa using hh)]
   unfold hitS;rw [e,c3,c4,c2]
  rw [beq_eq_false_iff_ne.2 a,beq_eq_false_iff_ne.2 b];simp
 unfold attS;rw [Bool.eq_iff_iff,any64,any64];exact ⟨λ⟨i,hi,hh⟩=>⟨i,hi,by rw [←key i hi];exact hh⟩,λ⟨i,hi,hh⟩=>⟨i,hi,by rw [key i hi];exact hh⟩⟩
theorem okS_prom{P:SP}(hV:ValidS P){f t:Nat}{p q:Int}(h:StdM P f t p)(h':StdM P f t q)(hp:p≠0)(hq:q≠0):okS P ⟨f,t,p⟩=okS P ⟨f,t,q⟩:=by
 have hT:=hV.turn;obtain ⟨k,hk,_⟩:=valid_kings hV hT;rw [okS_eq hV hk,okS_eq hV hk];have hn:(P.bd t=0->kindOf (P.bd f)=6->(f:Int)%8=(t:Int)%8):=by
  rcases std_ep hV h with ⟨_,e⟩|⟨hn,_⟩
  ·exact absurd e hp
  exact hn
 have hpr:=h.pr;have hqr:=h'.pr;have hs:∀r:Int,2<=r/\r<=5->r+6*P.turn≠0/\sideOf (r+6*P.turn)≠1-P.turn:=by
  intro r hr;refine ⟨by omega,?_⟩;unfold sideOf;split<;>omega
 rw [attS_same (by have:=hk.1;have:=h.ht;split<;>omega) (λi hi=>?_)];rw [mk4_normal hn (std_cast hV h) i,mk4_normal hn (std_cast hV h) i,if_pos hp,if_pos hq];by_cases e:i=t
 ·subst e;rw [upd_at,upd_at];have h1:=hs p (by omega);have h2:=hs q (by omega);exact Or.inr ⟨h1.1,h2.1,h1.2,h2.2⟩
 rw [upd_ne e,upd_ne e];exact Or.inl rfl
theorem StdM.prom{P:SP}{f t:Nat}(h:StdM P f t 0)(h6:kindOf (P.bd f)=6/\(t:Int)/8=7-7*P.turn){p:Int}(hp:2<=p/\p<=5):StdM P f t p:=⟨h.hf,h.ht,h.x0,h.side,h.dst,h.own,Or.inr ⟨h6.1,h6.2,hp.1,hp.2⟩⟩
theorem plain_tag{P:SP}(hV:ValidS P){f t:Nat}(h:StdM P f t 0):tagb (plainM (boardOf P.bd) (psOf P) f t).tags 5=!(okS P ⟨f,t,0⟩):=by
 have hT:=hV.turn;obtain ⟨k,hk,_⟩:=valid_kings hV hT;obtain ⟨e,he,_⟩:=valid_kings hV (c:=1-P.turn) (by omega);have:=tg4_std hV h (tags:=0) (tb0 0 (by decide)) (tb0 1 (by decide)) (λhh=>by rw [tb0 3 (by decide)] at hh;cases hh) hk he;have:=this.2.2.2.2.2;rw [tb0 5 (by decide),Bool.false_or] at this;exact this
theorem promoT_tag{P:SP}(hV:ValidS P){f t:Nat}(h:StdM P f t 0)(h6:kindOf (P.bd f)=6/\(t:Int)/8=7-7*P.turn):∀k:Nat,k<=4->
  let x:=promoT (boardOf P.bd) (psOf P) f t k
  tagb x 0=false/\tagb x 1=false/\(tagb x 3=true->EPm P f t)/\tagb x 5=(decide (0<k)&&!(okS P ⟨f,t,2⟩))/\(0<k->(tagb x 3=true↔EPm P f t)/\tagb x 2=(P.bd t !=0))
 |0,_=>⟨tb0 0 (by decide),tb0 1 (by decide),λhh=>(by have h3:=tb0 3 (by decide);have h4:tagb 0 3=true:=hh;rw [h3] at h4;cases h4),tb0 5 (by decide),λhh=>absurd hh (by decide)⟩
 |k+1,hk4=>by
  have ih:=promoT_tag hV h h6 k (by omega);have hT:=hV.turn;obtain ⟨kk,hk,_⟩:=valid_kings hV hT;obtain ⟨e,he,_⟩:=valid_kings hV (c:=1-P.turn) (by omega);have hp:=StdM.prom h h6 (p:=(k:Int)+2) (by omega);have h2:=StdM.prom h h6 (p:=2) (by omega);obtain ⟨i0,i1,i3,i5,i6⟩:=ih;have:=tg4_std hV hp i0 i1 i3 hk he;obtain ⟨j0,j1,j2,j3,_,j5⟩:=this;refine ⟨j0,j1,j3.1,?_,λ_=>⟨j3,?_⟩⟩
  ·show tagb (tg4 _ _ _) 5=_;rw [j5,i5,okS_prom hV hp h2 (by omega) (by omega)];cases decide (0<k)<;>simp
  ·show tagb (tg4 _ _ _) 2=_;rw [j2];by_cases h0:0<k
   ·rw [(i6 h0).2];simp
   ·have:k=0:=by omega
    subst this;rw [show promoT (boardOf P.bd) (psOf P) f t 0=0 from rfl,tb0 2 (by decide)];simp
def StdP(P:SP)(f t:Nat)(p:Int):Prop:=StdM P f t p/\(p=0->¬(kindOf (P.bd f)=6/\(t:Int)/8=7-7*P.turn))
def mvOf(P:SP)(f t:Nat)(p:Int):Mv:=if p=0 then plainM (boardOf P.bd) (psOf P) f t else ⟨promoT (boardOf P.bd) (psOf P) f t ((p-2).toNat+1),f,t,p⟩
theorem stdL_iff{P:SP}(hV:ValidS P)(M:Mv):M∈stdL (boardOf P.bd) (psOf P)↔∃(f t:Nat) (p:Int),StdP P f t p/\okS P ⟨f,t,p⟩=true/\M=mvOf P f t p:=by
 rw [std_mem hV];constructor
 ·rintro ⟨s,t,h,hm⟩;have hpi:=isPromo_iff hV h.hf h.ht h.x0 h.side;cases hi:isPromo (P.bd s) t<;>rw [hi] at hm
  ·simp only [cond_false] at hm;obtain ⟨h1,h2⟩:=keepM_mem.1 hm;rw [plain_tag hV h] at h1;exact ⟨s,t,0,⟨h,λ_ hh=>by rw [hpi.2 hh] at hi;cases hi⟩,by simpa using h1,by rw [h2];rfl⟩
  simp only [cond_true] at hm;have h6:=hpi.1 hi;obtain ⟨k,hk,hm⟩:=fm_mem.1 hm;unfold promoF at hm;obtain ⟨h1,h2⟩:=keepM_mem.1 hm;have hp:=StdM.prom h h6 (p:=(k:Int)+2) (by omega);have ht:=(promoT_tag hV h h6 (k+1) (by omega)).2.2.2.1;have e1:promoT (boardOf P.bd) (psOf P) s t (k+1)=tg4 (boardOf P.bd) (psOf P) ⟨promoT (boardOf P.bd) (psOf P) s t k,s,t,(k:Int)+2⟩:=rfl;rw [Int.toNat_natCast] at h1 h2;rw [e1] at ht;rw [show (⟨tg4 (boardOf P.bd) (psOf P) ⟨promoT (boardOf P.bd) (psOf P) s t k,s,t,(k:Int)+2⟩,s,t,(k:Int)+2⟩:Mv).tags=tg4 (boardOf P.bd) (psOf P) ⟨promoT (boardOf P.bd) (psOf P) s t k,s,t,(k:Int)+2⟩ from rfl,ht] at h1;refine ⟨s,t,(k:Int)+2,⟨hp,λhh=>by omega⟩,?_,?_⟩
  ·rw [okS_prom hV hp (StdM.prom h h6 (p:=2) (by omega)) (by omega) (by omega)];simpa using h1
  rw [h2];unfold mvOf;rw [if_neg (by omega),show ((k:Int)+2-2).toNat+1=k+1 by omega,e1]
 rintro ⟨f,t,p,⟨h,hn⟩,ho,rfl⟩;have h0:StdM P f t 0:=⟨h.hf,h.ht,h.x0,h.side,h.dst,h.own,Or.inl rfl⟩;have hpi:=isPromo_iff hV h.hf h.ht h.x0 h.side;refine ⟨f,t,h0,?_⟩;rcases h.pr with rfl|⟨h6,h7,hp1,hp2⟩
 ·have hi:isPromo (P.bd f) t=false:=by
   rw [←Bool.not_eq_true];exact λhh=>hn rfl (hpi.1 hh)
  rw [hi];simp only [cond_false];unfold mvOf;rw [if_pos rfl];exact keepM_mem.2 ⟨by rw [plain_tag hV h0,ho];rfl,rfl⟩
 rw [hpi.2 ⟨h6,h7⟩];simp only [cond_true];refine fm_mem.2 ⟨(p-2).toNat,by omega,?_⟩;have ek:(((p-2).toNat:Nat):Int)+2=p:=by omega
 have ht:=(promoT_tag hV h0 ⟨h6,h7⟩ ((p-2).toNat+1) (by omega)).2.2.2.1;have e1:promoT (boardOf P.bd) (psOf P) f t ((p-2).toNat+1)=tg4 (boardOf P.bd) (psOf P) ⟨promoT (boardOf P.bd) (psOf P) f t (p-2).toNat,f,t,(((p-2).toNat:Nat):Int)+2⟩:=rfl;unfold promoF mvOf;rw [if_neg (by omega),Int.toNat_natCast,e1,ek];rw [e1,ek] at ht;refine keepM_mem.2 ⟨?_,rfl⟩;show tagb (tg4 _ _ _) 5=false;rw [ht,←okS_prom hV h (StdM.prom h0 ⟨h6,h7⟩ (p:=2) (by omega)) (by omega) (by omega),ho];simp
theorem toL_mem{P:SP}{s t:Nat}{m:Sm}:m∈toL P s t↔¬(P.bd t≠0/\sideOf (P.bd t)=P.turn)/\
  ((¬(kindOf (P.bd s)=6/\(t:Int)/8=7-7*P.turn)/\m=⟨s,t,0⟩)\/((kindOf (P.bd s)=6/\(t:Int)/8=7-7*P.turn)/\∃p:Int,(2<=p/\p<=5)/\m=⟨s,t,p⟩)):=by
 unfold toL;rw [Int.toNat_natCast,Int.toNat_natCast];cases h1:((P.bd t !=0)&&(sideOf (P.bd t)==P.turn))
 ·have h1':¬(P.bd t≠0/\sideOf (P.bd t)=P.turn):=by
   rintro ⟨a,b⟩;rw [bne_iff_ne.2 a,beq_iff_eq.2 b] at h1;cases h1
  simp only [cond_false];cases h2:((kindOf (P.bd s) !=6)||(((t:Int)/8) !=(7-(7*P.turn))))
  ·rw [Bool.or_eq_false_iff,bne_eq_false_iff_eq,bne_eq_false_iff_eq] at h2;simp only [cond_false];unfold promL;rw [List.mem_map];constructor
   ·rintro ⟨k,hk,rfl⟩;have:=List.mem_range.1 hk;exact ⟨h1',Or.inr ⟨h2,(k:Int)+2,by omega,rfl⟩⟩
   rintro ⟨_,hh|⟨_,p,hp,rfl⟩⟩
   ·exact absurd h2 hh.1
   exact ⟨(p-2).toNat,List.mem_range.2 (by omega),by rw [show (((p-2).toNat:Nat):Int)+2=p by omega]⟩
  simp only [cond_true,List.mem_singleton];have h2':¬(kindOf (P.bd s)=6/\(t:Int)/8=7-7*P.turn):=by
   rintro ⟨a,b⟩;rw [a,b] at h2;simp at h2
  exact ⟨λe=>⟨h1',Or.inl ⟨h2',e⟩⟩,λhh=>hh.2.elim (λx=>x.2) (λx=>absurd x.1 h2')⟩
 simp only [cond_true,List.not_mem_nil,false_iff];rintro ⟨hh,_⟩;rw [Bool.and_eq_true,bne_iff_ne,beq_iff_eq] at h1;exact hh h1
theorem pseudo_mem{P:SP}{m:Sm}:m∈pseudoL P↔(∃(f t:Nat) (p:Int),StdP P f t p/\m=⟨f,t,p⟩)\/m∈castS P:=by
 unfold pseudoL;rw [List.mem_append,List.mem_flatMap];constructor
 ·rintro (⟨s,hs,h⟩|h)
  ·left;have hs:=List.mem_range.1 hs;unfold fromL at h;rw [Int.toNat_natCast] at h;cases h1:((P.bd s==0)||(sideOf (P.bd s) !=P.turn))<;>rw [h1] at h
   ·rw [Bool.or_eq_false_iff,beq_eq_false_iff_ne,bne_eq_false_iff_eq] at h1;simp only [cond_false] at h;obtain ⟨t,ht,h⟩:=List.mem_flatMap.1 h;have hr:=dstL_rng ht;obtain ⟨u,rfl⟩:∃u:Nat,t=u:=⟨t.toNat,by omega⟩;obtain ⟨ho,hc⟩:=toL_mem.1 h;rcases hc with ⟨hn,rfl⟩|⟨h6,p,hp,rfl⟩
    ·exact ⟨s,u,0,⟨⟨hs,by omega,h1.1,h1.2,ht,ho,Or.inl rfl⟩,λ_=>hn⟩,rfl⟩
    exact ⟨s,u,p,⟨⟨hs,by omega,h1.1,h1.2,ht,ho,Or.inr ⟨h6.1,h6.2,hp.1,hp.2⟩⟩,λe=>by omega⟩,rfl⟩
   simp at h
  exact Or.inr h
 rintro (⟨f,t,p,⟨h,hn⟩,rfl⟩|h)
 ·left;refine ⟨f,List.mem_range.2 h.hf,?_⟩;unfold fromL;rw [Int.toNat_natCast,beq_eq_false_iff_ne.2 h.x0,h.side];simp only [bne_self_eq_false,Bool.or_self,cond_false];refine List.mem_flatMap.2 ⟨t,h.dst,toL_mem.2 ⟨h.own,?_⟩⟩;rcases h.pr with rfl|⟨a,b,c,d⟩
  ·exact Or.inl ⟨hn rfl,rfl⟩
  exact Or.inr ⟨⟨a,b⟩,p,⟨c,d⟩,rfl⟩
 exact Or.inr h
structure CastOk(P:SP)(r:Int):Prop where
 hr:r=2*P.turn\/r=2*P.turn+1
 bit:castBit P.castle r.toNat=true
 chk:(psOf P).chk=false
 a1:attS P.bd (homeK r+cwS r).toNat (1-P.turn)=false
 a2:attS P.bd (homeK r+(2*cwS r)).toNat (1-P.turn)=false
 emp:∀j:Nat,j<(cnS r).toNat->P.bd (csq r j).toNat=0
theorem king_home{P:SP}(hV:ValidS P){r:Int}(hr:r=2*P.turn\/r=2*P.turn+1)(hb:castBit P.castle r.toNat=true):OnlyAt P.bd (1+6*P.turn) (homeK r).toNat/\P.bd (homeR r).toNat=3+6*P.turn:=by
 have hT:=hV.turn;have hr3:0<=r/\r<=3:=by omega
 have hh:=right_home hV hr3;rw [hb] at hh;unfold rightB at hh;have hh:=hh.symm;simp only [Bool.and_eq_true,beq_iff_eq] at hh;have hrt:r/2=P.turn:=by omega
 rw [hrt] at hh;obtain ⟨k,hk,_⟩:=valid_kings hV hT;have hN:=homeN hr3;have:=hk.2.2 _ hN.lt.1 hh.1.2;exact ⟨by rw [this];exact hk,hh.2⟩
theorem castR_ok{P:SP}(hV:ValidS P){r:Int}(hr:r=2*P.turn\/r=2*P.turn+1)(m:Sm):(m∈castR P r/\okS P m=true)↔CastOk P r/\m=⟨homeK r,homeK r+(2*cwS r),0⟩:=by
 have hT:=hV.turn;have hr3:0<=r/\r<=3:=by omega
 have hN:=homeN hr3;rw [castR_iff hV hr];have hok:CastM P r->castBit P.castle r.toNat=true->okS P ⟨homeK r,homeK r+(2*cwS r),0⟩=!(attS P.bd (homeK r+(2*cwS r)).toNat (1-P.turn)):=by
  intro hM hb;have hk:=(king_home hV hr hb).1;have h1:=okS_eq hV hk (f:=(homeK r).toNat) (t:=(homeK r+(2*cwS r)).toNat) (p:=0);rw [←hN.ki,←hN.ti,if_pos rfl,cast_att hV hM] at h1;exact h1
 constructor
 ·rintro ⟨⟨⟨h1,h2,h3,h4⟩,rfl⟩,h5⟩;have hM:=castM_of hV hr h1 h4;rw [hok hM h1] at h5;refine ⟨⟨hr,h1,?_,h3,by simpa using h5,h4⟩,rfl⟩;rw [chk_eq hV (king_home hV hr h1).1];exact h2
 rintro ⟨h,rfl⟩;have hM:=castM_of hV hr h.bit h.emp;refine ⟨⟨⟨h.bit,?_,h.a1,h.emp⟩,rfl⟩,?_⟩
 ·rw [←chk_eq hV (king_home hV hr h.bit).1];exact h.chk
 rw [hok hM h.bit,h.a2];rfl
theorem emp2{B:Bd}{bd:Nat->Int}(hB:BRep B bd){a b:Nat}(ha:a<64)(hb:b<64):(band (bnot B.empty) (bor (bbSq (a:Int)) (bbSq (b:Int)))==0)=true↔bd a=0/\bd b=0:=by
 have h:=bandNe (a:=bnot B.empty) (b:=bor (bbSq (a:Int)) (bbSq (b:Int)));have hq:∀i,i<64->(sb (bnot B.empty) i=true/\sb (bor (bbSq (a:Int)) (bbSq (b:Int))) i=true↔bd i≠0/\(i=a\/i=b)):=by
  intro i hi;rw [hB.occ hi,sb_bor,bbS ha hi,bbS hb hi,Bool.or_eq_true,decide_eq_true_eq,decide_eq_true_eq,bne_iff_ne]
 cases hc:(band (bnot B.empty) (bor (bbSq (a:Int)) (bbSq (b:Int)))==0)
 ·rw [beqz_false] at hc;obtain ⟨i,hi,h1,h2⟩:=h.1 hc;obtain ⟨h3,h4⟩:=(hq i hi).1 ⟨h1,h2⟩;constructor
  ·intro hh;cases hh
  rintro ⟨x,y⟩;rcases h4 with rfl|rfl<;>contradiction
 simp only [true_iff];have hn:¬(∃i,i<64/\sb (bnot B.empty) i=true/\sb (bor (bbSq (a:Int)) (bbSq (b:Int))) i=true):=by
  intro hh;have:=h.2 hh;simp only [bne,hc] at this;cases this
 constructor
 ·exact Classical.byContradiction λhh=>hn ⟨a,ha,(hq a ha).2 ⟨hh,Or.inl rfl⟩⟩
 exact Classical.byContradiction λhh=>hn ⟨b,hb,(hq b hb).2 ⟨hh,Or.inr rfl⟩⟩
theorem emp3{B:Bd}{bd:Nat->Int}(hB:BRep B bd){a b c:Nat}(ha:a<64)(hb:b<64)(hc:c<64):(band (bnot B.empty) (bor (bor (bbSq (a:Int)) (bbSq (b:Int))) (bbSq (c:Int)))==0)=true↔bd a=0/\bd b=0/\bd c=0:=by
 have h:=bandNe (a:=bnot B.empty) (b:=bor (bor (bbSq (a:Int)) (bbSq (b:Int))) (bbSq (c:Int)));have hq:∀i,i<64->(sb (bnot B.empty) i=true/\sb (bor (bor (bbSq (a:Int)) (bbSq (b:Int))) (bbSq (c:Int))) i=true↔bd i≠0/\((i=a\/i=b)\/i=c)):=by
  intro i hi;rw [hB.occ hi,sb_bor,sb_bor,bbS ha hi,bbS hb hi,bbS hc hi,Bool.or_eq_true,Bool.or_eq_true,decide_eq_true_eq,decide_eq_true_eq,decide_eq_true_eq,bne_iff_ne]
 cases hk:(band (bnot B.empty) (bor (bor (bbSq (a:Int)) (bbSq (b:Int))) (bbSq (c:Int)))==0)
 ·rw [beqz_false] at hk;obtain ⟨i,hi,h1,h2⟩:=h.1 hk;obtain ⟨h3,h4⟩:=(hq i hi).1 ⟨h1,h2⟩;constructor
  ·intro hh;cases hh
  rintro ⟨x,y,z⟩;rcases h4 with (rfl|rfl)|rfl<;>contradiction
 simp only [true_iff];have hn:¬(∃i,i<64/\sb (bnot B.empty) i=true/\sb (bor (bor (bbSq (a:Int)) (bbSq (b:Int))) (bbSq (c:Int))) i=true):=by
  intro hh;have:=h.2 hh;simp only [bne,hk] at this;cases this
 refine ⟨?_,?_,?_⟩
 ·exact Classical.byContradiction λhh=>hn ⟨a,ha,(hq a ha).2 ⟨hh,Or.inl (Or.inl rfl)⟩⟩
 ·exact Classical.byContradiction λhh=>hn ⟨b,hb,(hq b hb).2 ⟨hh,Or.inl (Or.inr rfl)⟩⟩
 exact Classical.byContradiction λhh=>hn ⟨c,hc,(hq c hc).2 ⟨hh,Or.inr rfl⟩⟩
theorem attAny2{B:Bd}{bd:Nat->Int}(hB:BRep B bd){turn:Int}(hT:turn=1\/turn=2){a b:Nat}(ha:a<64)(hb:b<64):(!(attAny B turn 2 (λi=>if i=0 then (a:Int) else (b:Int))))=true↔attS bd a (if turn=1 then 1 else 0)=false/\attS bd b (if turn=1 then 1 else 0)=false:=by
 have e:attAny B turn 2 (λi=>if i=0 then (a:Int) else (b:Int))=(att1 B turn a||att1 B turn b):=by
  unfold attAny;simp [List.range_succ]
 rw [e,att1_eq hB hT ha,att1_eq hB hT hb];simp
theorem canC_eq{P:SP}(hV:ValidS P):(canC (castStr P.castle) 1 1=castBit P.castle 0)/\(canC (castStr P.castle) 1 2=castBit P.castle 1)/\(canC (castStr P.castle) 2 1=castBit P.castle 2)/\(canC (castStr P.castle) 2 2=castBit P.castle 3):=by
 have hc:=hV.castle;obtain ⟨n,hn⟩:∃n:Nat,P.castle=n:=⟨P.castle.toNat,by omega⟩;rw [hn];exact canC_bits n (by omega)
theorem cc_get{P:SP}(hV:ValidS P):
  (P.turn=0->((cc1 (boardOf P.bd) (psOf P)=true↔CastOk P 0)/\(cc2 (boardOf P.bd) (psOf P)=true↔CastOk P 1)))/\(P.turn=1->((cc3 (boardOf P.bd) (psOf P)=true↔CastOk P 2)/\(cc4 (boardOf P.bd) (psOf P)=true↔CastOk P 3))):=by
 have hT:=hV.turn;have hB:=(base_rep hV).1;obtain ⟨q0,q1,q2,q3⟩:=canC_eq hV;have hS:(psOf P).turn=turnOf P.turn:=rfl;have hC:(psOf P).castle=castStr P.castle:=rfl;have lt2:∀{Q:Nat->Prop},(∀j:Nat,j<2->Q j)↔Q 0/\Q 1:=λ{Q}=>⟨λh=>⟨h 0 (by decide),h 1 (by decide)⟩,λh j hj=>by rcases (by omega:j=0\/j=1) with rfl|rfl<;>first|exact h.1|exact h.2⟩;have lt3:∀{Q:Nat->Prop},(∀j:Nat,j<3->Q j)↔Q 0/\Q 1/\Q 2:=λ{Q}=>⟨λh=>⟨h 0 (by decide),h 1 (by decide),h 2 (by decide)⟩,λh j hj=>by rcases (by omega:j=0\/j=1\/j=2) with rfl|rfl|rfl<;>first|exact h.1|exact h.2.1|exact h.2.2⟩;refine ⟨λe=>⟨?_,?_⟩,λe=>⟨?_,?_⟩⟩
 ·have hS1:(psOf P).turn=1:=by rw [hS,e];rfl
  unfold cc1;rw [hS1,hC,q0];have e1:=emp2 hB (a:=5) (b:=6) (by decide) (by decide);have e2:=attAny2 hB (turn:=1) (Or.inl rfl) (a:=5) (b:=6) (by decide) (by decide);simp only [Bool.and_eq_true];refine Iff.trans (and_congr (and_congr (and_congr (Iff.refl _) e1) e2) Iff.rfl) ?_;constructor
  ·rintro ⟨⟨⟨⟨_,h1⟩,h2⟩,h3⟩,h4⟩;exact ⟨by omega,h1,by simpa using h4,by rw [e];exact h3.1,by rw [e];exact h3.2,(lt2 (Q:=λj=>P.bd (csq 0 (j:Int)).toNat=0)).2 h2⟩
  intro h;have h2:=(lt2 (Q:=λj=>P.bd (csq 0 (j:Int)).toNat=0)).1 h.emp;have a1:=h.a1;have a2:=h.a2;rw [e] at a1 a2;exact ⟨⟨⟨⟨rfl,h.bit⟩,h2⟩,⟨a1,a2⟩⟩,by rw [h.chk];rfl⟩
 ·have hS1:(psOf P).turn=1:=by rw [hS,e];rfl
  unfold cc2;rw [hS1,hC,q1];have e1:=emp3 hB (a:=1) (b:=2) (c:=3) (by decide) (by decide) (by decide);have e2:=attAny2 hB (turn:=1) (Or.inl rfl) (a:=2) (b:=3) (by decide) (by decide);simp only [Bool.and_eq_true];refine Iff.trans (and_congr (and_congr (and_congr (Iff.refl _) e1) e2) Iff.rfl) ?_;constructor
  ·rintro ⟨⟨⟨⟨_,h1⟩,h2⟩,h3⟩,h4⟩;exact ⟨by omega,h1,by simpa using h4,by rw [e];exact h3.2,by rw [e];exact h3.1,(lt3 (Q:=λj=>P.bd (csq 1 (j:Int)).toNat=0)).2 ⟨h2.2.2,h2.2.1,h2.1⟩⟩
  intro h;have h2:=(lt3 (Q:=λj=>P.bd (csq 1 (j:Int)).toNat=0)).1 h.emp;have a1:=h.a1;have a2:=h.a2;rw [e] at a1 a2;exact ⟨⟨⟨⟨rfl,h.bit⟩,⟨h2.2.2,h2.2.1,h2.1⟩⟩,⟨a2,a1⟩⟩,by rw [h.chk];rfl⟩
 ·have hS1:(psOf P).turn=2:=by rw [hS,e];rfl
  unfold cc3;rw [hS1,hC,q2];have e1:=emp2 hB (a:=61) (b:=62) (by decide) (by decide);have e2:=attAny2 hB (turn:=2) (Or.inr rfl) (a:=61) (b:=62) (by decide) (by decide);simp only [Bool.and_eq_true];refine Iff.trans (and_congr (and_congr (and_congr (Iff.refl _) e1) e2) Iff.rfl) ?_;constructor
  ·rintro ⟨⟨⟨⟨_,h1⟩,h2⟩,h3⟩,h4⟩;exact ⟨by omega,h1,by simpa using h4,by rw [e];exact h3.1,by rw [e];exact h3.2,(lt2 (Q:=λj=>P.bd (csq 2 (j:Int)).toNat=0)).2 h2⟩
  intro h;have h2:=(lt2 (Q:=λj=>P.bd (csq 2 (j:Int)).toNat=0)).1 h.emp;have a1:=h.a1;have a2:=h.a2;rw [e] at a1 a2;exact ⟨⟨⟨⟨rfl,h.bit⟩,h2⟩,⟨a1,a2⟩⟩,by rw [h.chk];rfl⟩
 have hS1:(psOf P).turn=2:=by rw [hS,e];rfl
 unfold cc4;rw [hS1,hC,q3];have e1:=emp3 hB (a:=57) (b:=58) (c:=59) (by decide) (by decide) (by decide);have e2:=attAny2 hB (turn:=2) (Or.inr rfl) (a:=58) (b:=59) (by decide) (by decide);simp only [Bool.and_eq_true];refine Iff.trans (and_congr (and_congr (and_congr (Iff.refl _) e1) e2) Iff.rfl) ?_;constructor
 ·rintro ⟨⟨⟨⟨_,h1⟩,h2⟩,h3⟩,h4⟩;exact ⟨by omega,h1,by simpa using h4,by rw [e];exact h3.2,by rw [e];exact h3.1,(lt3 (Q:=λj=>P.bd (csq 3 (j:Int)).toNat=0)).2 ⟨h2.2.2,h2.2.1,h2.1⟩⟩
 intro h;have h2:=(lt3 (Q:=λj=>P.bd (csq 3 (j:Int)).toNat=0)).1 h.emp;have a1:=h.a1;have a2:=h.a2;rw [e] at a1 a2;exact ⟨⟨⟨⟨rfl,h.bit⟩,⟨h2.2.2,h2.2.1,h2.1⟩⟩,⟨a2,a1⟩⟩,by rw [h.chk];rfl⟩
theorem castL_iff{P:SP}(hV:ValidS P)(M:Mv):M∈castL (boardOf P.bd) (psOf P)↔∃r:Int,CastOk P r/\M=castM (boardOf P.bd) (psOf P) (r%2+1) (homeK r) (homeK r+(2*cwS r)):=by
 have hT:=hV.turn;have hS:(psOf P).turn=turnOf P.turn:=rfl;obtain ⟨hw,hb⟩:=cc_get hV;have mem:∀(b:Bool) (x:Mv),M∈(bif b then [x] else [])↔b=true/\M=x:=by intro b x;cases b<;>simp
 unfold castL;rcases (by omega:P.turn=0\/P.turn=1) with e|e
 ·have hS1:(psOf P).turn=1:=by rw [hS,e];rfl
  rw [cl3_nil (by omega),cl4_nil (by omega),List.append_nil,List.append_nil,List.mem_append];unfold cl1 cl2;rw [mem,mem,(hw e).1,(hw e).2];constructor
  ·rintro (⟨a,b⟩|⟨a,b⟩)
   ·exact ⟨0,a,b⟩
   exact ⟨1,a,b⟩
  rintro ⟨r,a,b⟩;have:=a.hr;rcases (by omega:r=0\/r=1) with rfl|rfl
  ·exact Or.inl ⟨a,b⟩
  exact Or.inr ⟨a,b⟩
 have hS1:(psOf P).turn=2:=by rw [hS,e];rfl
 rw [cl1_nil (by omega),cl2_nil (by omega),List.append_nil,List.nil_append,List.mem_append];unfold cl3 cl4;rw [mem,mem,(hb e).1,(hb e).2];constructor
 ·rintro (⟨a,b⟩|⟨a,b⟩)
  ·exact ⟨2,a,b⟩
  exact ⟨3,a,b⟩
 rintro ⟨r,a,b⟩;have:=a.hr;rcases (by omega:r=2\/r=3) with rfl|rfl
 ·exact Or.inl ⟨a,b⟩
 exact Or.inr ⟨a,b⟩
theorem mvOf_key{P:SP}{f t:Nat}{p:Int}:(mvOf P f t p).s1=f/\(mvOf P f t p).s2=t/\(mvOf P f t p).promo=p:=by
 unfold mvOf;split
 ·rename_i e;subst e;exact ⟨rfl,rfl,rfl⟩
 exact ⟨rfl,rfl,rfl⟩
theorem allL_iff{P:SP}(hV:ValidS P)(m:Sm):(∃M∈allL (boardOf P.bd) (psOf P),M.s1=m.f/\M.s2=m.t/\M.promo=m.p)↔m∈pseudoL P/\okS P m=true:=by
 have hT:=hV.turn;unfold allL;rw [pseudo_mem];constructor
 ·rintro ⟨M,hM,h1,h2,h3⟩;rcases List.mem_append.1 hM with hM|hM
  ·obtain ⟨f,t,p,hs,ho,rfl⟩:=(stdL_iff hV M).1 hM;obtain ⟨k1,k2,k3⟩:=mvOf_key (P:=P) (f:=f) (t:=t) (p:=p);have e:m=⟨f,t,p⟩:=by cases m;simp only at h1 h2 h3;rw [←h1,←h2,←h3,k1,k2,k3]
   subst e;exact ⟨Or.inl ⟨f,t,p,hs,rfl⟩,ho⟩
  obtain ⟨r,hr,rfl⟩:=(castL_iff hV M).1 hM;have e:m=⟨homeK r,homeK r+(2*cwS r),0⟩:=by cases m;simp only at h1 h2 h3;rw [←h1,←h2,←h3];rfl
  have hc:=(castR_ok hV hr.hr m).2 ⟨hr,e⟩;refine ⟨Or.inr ?_,hc.2⟩;unfold castS;rw [List.mem_append];rcases hr.hr with e2|e2
  ·left;rw [←e2];exact hc.1
  right;rw [←e2];exact hc.1
 rintro ⟨⟨f,t,p,hs,rfl⟩|hc,ho⟩
 ·obtain ⟨k1,k2,k3⟩:=mvOf_key (P:=P) (f:=f) (t:=t) (p:=p);exact ⟨mvOf P f t p,List.mem_append.2 (Or.inl ((stdL_iff hV _).2 ⟨f,t,p,hs,ho,rfl⟩)),k1,k2,k3⟩
 unfold castS at hc;have:∃r,(r=2*P.turn\/r=2*P.turn+1)/\m∈castR P r:=by
  rcases List.mem_append.1 hc with h|h
  ·exact ⟨_,Or.inl rfl,h⟩
  exact ⟨_,Or.inr rfl,h⟩
 obtain ⟨r,hr,h⟩:=this;obtain ⟨h1,rfl⟩:=(castR_ok hV hr m).1 ⟨h,ho⟩;exact ⟨_,List.mem_append.2 (Or.inr ((castL_iff hV _).2 ⟨r,h1,rfl⟩)),rfl,rfl,rfl⟩
end Go.Proofs.YtgnhellfhjoaaaaGreatDoor
