/-
  FnLanWritten: in every right position each legal move is written in long algebraic notation as the definition writes it, and what is written is read as the move (a part of the proof).
  Conditions: those of each theorem.
-/
import Derived.Test.YtgnhellfhjoaaaaGreatDoorB01
import Derived.Test.YtgnhellfhjoaaaaGreatDoorB03
import Derived.Test.YtgnhellfhjoaaaaGreatDoorB05
import Derived.Test.YtgnhellfhjoaaaaGreatDoorB06
import Derived.Test.YtgnhellfhjoaaaaGreatDoorB07
import Derived.Test.YtgnhellfhjoaaaaGreatDoorRows
import Derived.ProofKit
import Derived.OpenShut
import Derived.Carry
import Derived.Test.YtgnhellfhjoaaaaGreatDoorTie
import Derived.Test.YtgnhellfhjoaaaaGreatDoorCards
import Derived.LaidMore
import Derived.Lay
import Derived.SevenTiedAt
import Derived.Stop.Joined
set_option linter.unusedVariables false
set_option linter.unusedSimpArgs false
namespace Go.Proofs.YtgnhellfhjoaaaaGreatDoor
open Go Go.RowKit
set_option maxRecDepth 100000
theorem strs_one(l:List (List UInt8)):∀u∈strs l,u.oneCell'=true:=by
 intro u hu;obtain ⟨s,_,rfl⟩:=List.mem_map.1 hu;rfl
theorem bstr_ne(l:List UInt8):(!((bstr l).toList==(⟨#[]⟩:ByteArray).toList))=(l !=[]):=by rw [bstr_toList,nil_toList];rfl
def optsP(q:Parts):List (List UInt8):=
 bif q.a !=[] then [q.a++q.d++q.e++q.f++q.g++q.h,q.a++q.c++q.d++q.e++q.f++q.g++q.h,q.a++q.b++q.d++q.e++q.f++q.g++q.h]
 else (bif q.d !=[] then [q.b++q.d++q.e++q.f++q.g] else [])++(bif (q.b !=[])&&(q.c !=[]) then [q.d++q.e++q.f++q.g] else [])
theorem c183k{b:Nat}{x y:Value}{w:World}(hb:At w b (.cells #[x,y] 150 (0,0))):
  Calls Tryz.prog 183 [.pointer (some ⟨b,0,none⟩)].toArray w (fun e w'=>e=.returned (.tuple #[])∧Mod [b] w w'∧At w' b (.cells #[.pointer none,.slice none 0 0] 150 (0,0))):=by
 have hm0:Mod [b] w w:=Mod.refl _ _;refine enter (n:=8) Tryz.func183 rfl Tryz.ntmps183 rfl ?_;refine zw ?_;refine yS 3 ?_;refine zS b 0 (.pointer none) ?_;intro w1 hu2;have hm4:=Mod.fresh' hm0 hu2.mod (by simp<;>omega);refine zz ?_;refine w_region ?_;refine yS 3 ?_;refine zS b 1 (.slice none 0 0) ?_;intro w6 hu7;have hm9:=Mod.fresh' hm4 hu7.mod (by simp<;>omega);refine ze ?_;exact end0 Tryz.results183 (⟨rfl,hm9,hu7.at_⟩)
structure GO(q:Parts)(w:World)(b1 b3 b4:Nat)(l:List (List UInt8))(bs:List UInt8)(w':World):Prop where
 mod:Mod [] w w'
 box:At w' b1 (.cells (partsV q) 220 (0,0))
 opt:∃ao cap,At w' b3 (.cells #[.slice ao l.length cap] 82 (0,0))∧Own w' w.heap.size 9 1 ao l.length cap (strs l)
 bld:Bld w.heap.size b4 bs w'
 lo:w.heap.size≤b3
abbrev LO(b1 b3 b4:Nat):List (Nat×Value):=[rz 1 b1,rz 3 b3,rz 4 b4]
theorem Bld.base{B b:Nat}{l:List UInt8}{w:World}(h:Bld B b l w):B≤b:=by rcases h with h|h<;>exact h.1
section
variable{ops:Array Oper}{Q:Exit→Act→World→Prop}{y:Code}{id:Nat}{q:Parts}{w w':World}{b1 b3 b4:Nat}{l:List (List UInt8)}{bs:List UInt8}
theorem go_then{L:List (Nat×Value)}(hy:∀w'',GO q w b1 b3 b4 l bs w''→W Tryz.prog 201 [] y Q (LO b1 b3 b4) w'')(h:GO q w b1 b3 b4 l bs w')(hk:keepL L [1,3,4]=some (LO b1 b3 b4)):
  ∀a,Hold 201 L [] a→Exit.then (fun a w=>y.wp Tryz.prog Q a w) Q .normal a w':=n_then fun a ha=>hy w' h a (ha.keep hk)
theorem go_ws(k z:Nat)(t:List UInt8)(h:GO q w b1 b3 b4 l bs w')(hy:∀w'',GO q w b1 b3 b4 l (bs++t) w''→W Tryz.prog 201 [] y Q (LO b1 b3 b4) w'')
  (hc:(partsV q)[k]?=some (.string (bstr t)):=by rfl)(hl:bs.length+t.length≤100000000:=by (simp only [List.length_append,List.length_nil];omega))
  (h1:evSeg Tryz.prog 201 ops.toList 0 3 (LO b1 b3 b4) [.string (bstr t)] [1,3,4,z,z+2]=some (LO b1 b3 b4++[rz z b4,(z+2,.string (bstr t))],[.cell ⟨b1,k,none⟩ (.string (bstr t))]):=by kernel_rfl)
  (h2:callAt Tryz.prog 201 ops.toList 3 (LO b1 b3 b4++[rz z b4,(z+2,.string (bstr t))])=some (113,[pz b4,.string (bstr t)],some (z+3)):=by kernel_rfl)
  (h3:(ops.toList.drop 4).isEmpty=true:=by kernel_rfl)(h4:∀v,keepL (setD (some (z+3)) v (LO b1 b3 b4++[rz z b4,(z+2,.string (bstr t))])) [1,3,4]=some (LO b1 b3 b4):=by intro v;kernel_rfl):
  W Tryz.prog 201 [] (.seq (.region id ops false) y) Q (LO b1 b3 b4) w':=by
 refine w_seq (w_region ?_);refine reg_seg 3 _ _ _ _ h1 (At.cell h.box hc) ?_;refine reg_call 113 _ _ h2 (cWSk h.mod h.bld hl) ?_;rintro _ w2 ⟨rfl,hm,hb,hk⟩;refine ⟨_,rfl,?_⟩;obtain ⟨ao,cap,ho,hw⟩:=h.opt;exact reg_end h3 (go_then hy ⟨hm,At.kept h.box hk (by decide) (Bld.ne h.bld h.box (by decide)),⟨ao,cap,At.kept ho hk (by decide) (Bld.ne h.bld ho (by decide)),Own.kept hw hk h.bld (by decide) (by decide)⟩,hb,h.lo⟩ (h4 _))
theorem go_rs(z:Nat)(h:GO q w b1 b3 b4 l bs w')(hy:∀w'',GO q w b1 b3 b4 l [] w''→W Tryz.prog 201 [] y Q (LO b1 b3 b4) w'')
  (h1:evSeg Tryz.prog 201 ops.toList 0 1 (LO b1 b3 b4) [] [1,3,4,z]=some (LO b1 b3 b4++[rz z b4],[]):=by kernel_rfl)
  (h2:callAt Tryz.prog 201 ops.toList 1 (LO b1 b3 b4++[rz z b4])=some (183,[pz b4],some (z+1)):=by kernel_rfl)
  (h3:(ops.toList.drop 2).isEmpty=true:=by kernel_rfl)(h4:∀v,keepL (setD (some (z+1)) v (LO b1 b3 b4++[rz z b4])) [1,3,4]=some (LO b1 b3 b4):=by intro v;kernel_rfl):
  W Tryz.prog 201 [] (.seq (.region id ops false) y) Q (LO b1 b3 b4) w':=by
 refine w_seq (w_region ?_);refine reg_seg 1 _ _ _ _ h1 trivial ?_;obtain ⟨x,u,hc⟩:=Bld.cells h.bld;refine reg_call 183 _ _ h2 (c183k hc) ?_;rintro _ w2 ⟨rfl,hm,hb⟩;refine ⟨_,rfl,?_⟩;obtain ⟨ao,cap,ho,hw⟩:=h.opt;have hbase:=Bld.base h.bld;exact reg_end h3 (go_then hy ⟨Mod.fresh' h.mod hm (fun x hx=>Or.inr (by simp at hx;omega)),At.keep h.box hm (not_mem1 (At.ne h.box hc rfl)),⟨ao,cap,At.keep ho hm (not_mem1 (At.ne ho hc rfl)),Own.keep hw hm (Own.sep hw hc rfl)⟩,Bld.new hb hbase,h.lo⟩ (h4 _))
theorem go_tl(z:Nat){L:List (Nat×Value)}{g:Nat}(h:GO q w b1 b3 b4 l bs w')(hl:l.length≤10){ao:Option Addr}{cap:Nat}(ho:At w' b3 (.cells #[.slice ao l.length cap] 82 (0,0)))(hw:Own w' w.heap.size 9 1 ao l.length cap (strs l))
  (hg:At w' g (.cells #[.string (bstr bs)] 9 (0,0)))
  (hy:∀w'',GO q w b1 b3 b4 (l++[bs]) bs w''→∀a,Hold 201 (LO b1 b3 b4) [] a→Q .normal a w'')
  (h1:appendAt Tryz.prog 201 ops.toList 7 L=some (.slice ao l.length cap,.slice (some ⟨g,0,none⟩) 1 1,9,some (z+7),1,16,1))
  (h2:∀v,evSeg Tryz.prog 201 ops.toList 8 1 (setD (some (z+7)) v L) [] [1,3,4,z+7,z+8]=some (LO b1 b3 b4++[(z+7,v),rz (z+8) b3],[]))
  (h3:∀ao n cap,storeAt Tryz.prog 201 ops.toList 9 (LO b1 b3 b4++[(z+7,.slice ao n cap),rz (z+8) b3])=some (⟨b3,0,none⟩,.slice ao n cap,none,some 1))
  (h4:(ops.toList.drop 10).isEmpty=true):Reg Tryz.prog 201 [] ops (onlyN Q) 7 L w':=by
 have hs:=h.mod.size;have hle:(strs [bs])=[.string (bstr bs)]:=rfl;refine reg_append2 ao l.length cap ⟨g,0,none⟩ 1 1 9 (some (z+7)) 1 16 (b0:=w.heap.size) (xs:=strs l) (news:=strs [bs]) h1 hw (by decide) rfl (at_cells (l:=strs [bs]) (by exact hg)) (strs_one _) (by omega) hs ?_;intro ao2 cap2 w2 ho2 hm2 _;refine reg_seg 1 _ _ _ _ (h2 _) trivial ?_;have hb3:=At.keep ho hm2 (own_off hw ho rfl);refine reg_store b3 0 (.slice ao2 (l.length+1) cap2) none (h3 _ _ _) hb3 (Nat.le_of_ble_eq_true rfl) rfl ?_;intro w3 hu;refine reg_end h4 (only_n ?_);have hB2:=Bld.keepO h.bld hw hm2 (by decide) (by decide);have hx2:=At.keep h.box hm2 (own_off hw h.box rfl);have hm3:=Mod.fresh' h.mod hm2 (fun x hx=>Or.inr (by have:=Own.lt hw x hx;omega));have hlen:(l++[bs]).length=l.length+1:=by simp
 intro a ha;refine hy w3 ⟨Mod.fresh' hm3 hu.mod (fun x hx=>Or.inr (by have:=h.lo;simp at hx;omega)),At.keep hx2 hu.mod (not_mem1 (At.ne hx2 hb3 rfl)),⟨ao2,cap2,by rw [hlen];exact hu.at_,?_⟩,Bld.keep hB2 hu.mod hb3 (by decide) (by decide),h.lo⟩ a (ha.keep (ks:=[1,3,4]) rfl);rw [hlen,strs_append];exact Own.keep ho2 hu.mod (Own.sep ho2 hb3 rfl)
abbrev LA(b1 b3 b4 z:Nat):List (Nat×Value):=rz (z+4) b4::rz (z+2) b3::rz (z+1) b3::rz z b3::LO b1 b3 b4
theorem go_add0(z:Nat)(h:GO q w b1 b3 b4 l bs w')(hl:l.length≤10)
  (hy:∀w'',GO q w b1 b3 b4 (l++[bs]) bs w''→∀a,Hold 201 (LO b1 b3 b4) [] a→Q .normal a w'')
  (hsz:ops.size=10:=by kernel_rfl)(hm:(Tryz.prog).follows .mixedOrders=true:=by kernel_rfl)(hd:(ops.toList.drop 10).isEmpty=true:=by kernel_rfl)
  (p0:pureAt Tryz.prog 201 ops.toList 0 (LO b1 b3 b4) []=some (pz b3,some z,[]):=by kernel_rfl)
  (p1:pureAt Tryz.prog 201 ops.toList 1 (rz z b3::LO b1 b3 b4) []=some (pz b3,some (z+1),[]):=by kernel_rfl)
  (p2:pureAt Tryz.prog 201 ops.toList 2 (rz (z+1) b3::rz z b3::LO b1 b3 b4) []=some (pz b3,some (z+2),[]):=by kernel_rfl)
  (p4:pureAt Tryz.prog 201 ops.toList 4 (rz (z+2) b3::rz (z+1) b3::rz z b3::LO b1 b3 b4) []=some (pz b4,some (z+4),[]):=by kernel_rfl)
  (t0:(takeB ops [] 0&&(takeB ops [0] 1&&(takeB ops [1,0] 2&&takeB ops [2,1,0] 4)))=true:=by kernel_rfl)
  (r0:Region.ready .any ops (lstd ops [4,2,1,0])=[3,5]:=by kernel_rfl)(r1:Region.ready .any ops (lstd ops [5,4,2,1,0])=[3,6]:=by kernel_rfl)
  (r2:Region.ready .any ops (lstd ops [6,5,4,2,1,0])=[3]:=by kernel_rfl)(r3:Region.ready .any ops (lstd ops [3,4,2,1,0])=[5]:=by kernel_rfl)
  (s1:(Region.seqB .any ops (ops.size-7) 7 (lstd ops [3,6,5,4,2,1,0])&&(Region.seqB .any ops (ops.size-6) 6 (lstd ops [3,5,4,2,1,0])&&Region.seqB .any ops (ops.size-6) 6 (lstd ops [5,3,4,2,1,0])))=true:=by kernel_rfl)
  (c1:callAt Tryz.prog 201 ops.toList 5 (LA b1 b3 b4 z)=some (115,[pz b4],some (z+5)):=by kernel_rfl)
  (c2:∀x,callAt Tryz.prog 201 ops.toList 5 ((z+3,x)::LA b1 b3 b4 z)=some (115,[pz b4],some (z+5)):=by intro x;kernel_rfl)
  (q1:∀ao n cap,pureAt Tryz.prog 201 ops.toList 3 (LA b1 b3 b4 z) [.slice ao n cap]=some (.slice ao n cap,some (z+3),[.cell ⟨b3,0,none⟩ (.slice ao n cap)]):=by intro ao n cap;kernel_rfl)
  (q2:∀ao n cap x,pureAt Tryz.prog 201 ops.toList 3 ((z+5,x)::LA b1 b3 b4 z) [.slice ao n cap]=some (.slice ao n cap,some (z+3),[.cell ⟨b3,0,none⟩ (.slice ao n cap)]):=by intro ao n cap x;kernel_rfl)
  (q3:∀ao n cap x u,pureAt Tryz.prog 201 ops.toList 3 ((z+6,u)::(z+5,x)::LA b1 b3 b4 z) [.slice ao n cap]=some (.slice ao n cap,some (z+3),[.cell ⟨b3,0,none⟩ (.slice ao n cap)]):=by intro ao n cap x u;kernel_rfl)
  (b5:∀x,bsliceAt Tryz.prog 201 ops.toList 6 ((z+5,.string x)::LA b1 b3 b4 z)=some (#[.string x],9,1,some (z+6)):=by intro x;kernel_rfl)
  (b6:∀x u,bsliceAt Tryz.prog 201 ops.toList 6 ((z+3,u)::(z+5,.string x)::LA b1 b3 b4 z)=some (#[.string x],9,1,some (z+6)):=by intro x u;kernel_rfl)
  (b7:∀x u,bsliceAt Tryz.prog 201 ops.toList 6 ((z+5,.string x)::(z+3,u)::LA b1 b3 b4 z)=some (#[.string x],9,1,some (z+6)):=by intro x u;kernel_rfl)
  (a1:∀ao n cap x g,appendAt Tryz.prog 201 ops.toList 7 ((z+3,.slice ao n cap)::(z+6,.slice (some ⟨g,0,none⟩) 1 1)::(z+5,x)::LA b1 b3 b4 z)=some (.slice ao n cap,.slice (some ⟨g,0,none⟩) 1 1,9,some (z+7),1,16,1):=by intro ao n cap x g;kernel_rfl)
  (a2:∀ao n cap x g,appendAt Tryz.prog 201 ops.toList 7 ((z+6,.slice (some ⟨g,0,none⟩) 1 1)::(z+3,.slice ao n cap)::(z+5,x)::LA b1 b3 b4 z)=some (.slice ao n cap,.slice (some ⟨g,0,none⟩) 1 1,9,some (z+7),1,16,1):=by intro ao n cap x g;kernel_rfl)
  (a3:∀ao n cap x g,appendAt Tryz.prog 201 ops.toList 7 ((z+6,.slice (some ⟨g,0,none⟩) 1 1)::(z+5,x)::(z+3,.slice ao n cap)::LA b1 b3 b4 z)=some (.slice ao n cap,.slice (some ⟨g,0,none⟩) 1 1,9,some (z+7),1,16,1):=by intro ao n cap x g;kernel_rfl)
  (e1:∀i j k x y u v,(i,j,k)∈[(z+3,z+6,z+5),(z+6,z+3,z+5),(z+6,z+5,z+3)]→evSeg Tryz.prog 201 ops.toList 8 1 (setD (some (z+7)) v ((i,x)::(j,y)::(k,u)::LA b1 b3 b4 z)) [] [1,3,4,z+7,z+8]=some (LO b1 b3 b4++[(z+7,v),rz (z+8) b3],[]):=by
   (intro i j k x y u v h;simp only [List.mem_cons,Prod.mk.injEq,List.not_mem_nil,or_false] at h;rcases h with ⟨rfl,rfl,rfl⟩|⟨rfl,rfl,rfl⟩|⟨rfl,rfl,rfl⟩<;>kernel_rfl))
  (st:∀ao n cap,storeAt Tryz.prog 201 ops.toList 9 (LO b1 b3 b4++[(z+7,.slice ao n cap),rz (z+8) b3])=some (⟨b3,0,none⟩,.slice ao n cap,none,some 1):=by intro ao n cap;kernel_rfl):
  W Tryz.prog 201 [] (.region id ops true) Q (LO b1 b3 b4) w':=by
 simp only [Bool.and_eq_true] at t0 s1;obtain ⟨t0,t1,t2,t4⟩:=t0;obtain ⟨s1,s2,s3⟩:=s1;refine a_start (f:=10) hsz hm fun w1 hm1=>?_;have h:GO q w b1 b3 b4 l bs w1:=by
  obtain ⟨ao,cap,ho,hw⟩:=h.opt;exact ⟨h.mod.trans hm1,h.box.on hm1,⟨ao,cap,ho.on hm1,hw.on hm1⟩,h.bld.on hm1,h.lo⟩
 obtain ⟨ao,cap,ho,hw⟩:=h.opt;have hbase:=h.lo;refine a_take 0 (pz b3) (some z) [] [] p0 t0 trivial ?_;refine a_take 1 (pz b3) (some (z+1)) [] [] p1 t1 trivial ?_;refine a_take 2 (pz b3) (some (z+2)) [] [] p2 t2 trivial ?_;refine a_take 4 (pz b4) (some (z+4)) [] [] p4 t4 trivial ?_;have calls:∀{L:List (Nat×Value)} {ls:List Nat} {f:Nat},(∀w2,GO q w b1 b3 b4 l bs w2→At w2 b3 (.cells #[.slice ao l.length cap] 82 (0,0))→Own w2 w.heap.size 9 1 ao l.length cap (strs l)→AReg Tryz.prog 201 [] ops Q f ls (setD (some (z+5)) (.string (bstr bs)) L) w2)→
   ∀x w2,(fun e w'=>e=Ending.returned (.string (bstr bs))∧Mod [] w w'∧Bld w.heap.size b4 bs w'∧Lib.OthersKept 5 (some b4) w1 w') x w2→∃v,x=.returned v∧AReg Tryz.prog 201 [] ops Q f ls (setD (some (z+5)) v L) w2:=by
  rintro L ls f hk x w2 ⟨rfl,hm2,hb2,hk2⟩;have ho2:=At.kept ho hk2 (by decide) (Bld.ne h.bld ho (by decide));have hw2:=Own.kept hw hk2 h.bld (by decide) (by decide);exact ⟨_,rfl,hk w2 ⟨hm2,At.kept h.box hk2 (by decide) (Bld.ne h.bld h.box (by decide)),⟨ao,cap,ho2,hw2⟩,hb2,h.lo⟩ ho2 hw2⟩
 have news:∀{w2 w3:World} {g:Nat},GO q w b1 b3 b4 l bs w2→New w2 w3 g (.cells #[.string (bstr bs)] 9 (0,0))→GO q w b1 b3 b4 l bs w3:=by
  intro w2 w3 g hh hn;obtain ⟨ao,cap,ho,hw⟩:=hh.opt;exact ⟨hh.mod.trans hn.mod,hh.box.on hn.mod,⟨ao,cap,ho.on hn.mod,hw.on hn.mod⟩,hh.bld.on hn.mod,hh.lo⟩
 refine a_both2 5 3 115 [pz b4] (some (z+5)) c1 (.slice ao l.length cap) (some (z+3)) [.cell ⟨b3,0,none⟩ (.slice ao l.length cap)] [.slice ao l.length cap] (q1 _ _ _) r0 (cBSk h.mod h.bld) (At.cell ho rfl) (calls fun w2 h2 ho hw=>?_) ?_
 ·refine a_bothS 6 3 #[.string (bstr bs)] 9 1 (some (z+6)) (b5 _) (.slice ao l.length cap) (some (z+3)) [.cell ⟨b3,0,none⟩ (.slice ao l.length cap)] [.slice ao l.length cap] (q2 _ _ _ _) r1 (At.cell ho rfl) ?_ ?_
  ·intro g w3 hn;have ho3:=ho.on hn.mod;have hw3:=hw.on hn.mod;refine a_one 3 (.slice ao l.length cap) (some (z+3)) [.cell ⟨b3,0,none⟩ (.slice ao l.length cap)] [.slice ao l.length cap] (q3 _ _ _ _ _) r2 (At.cell ho3 rfl) ?_;refine a_tail 7 (by omega) s1 ?_;exact go_tl z (news h2 hn) hl ho3 hw3 hn.at_ hy (a1 _ _ _ _ _) (fun v=>e1 _ _ _ _ _ _ _ (by simp)) st hd
  refine a_tail 6 (by omega) s2 ?_;refine reg_bslice #[.string (bstr bs)] 9 1 (some (z+6)) (b6 _ _) ?_;intro g w3 hn;exact go_tl z (news h2 hn) hl (ho.on hn.mod) (hw.on hn.mod) hn.at_ hy (a2 _ _ _ _ _) (fun v=>e1 _ _ _ _ _ _ _ (by simp)) st hd
 refine a_call 5 115 [pz b4] (some (z+5)) (c2 _) r3 (cBSk h.mod h.bld) (calls fun w2 h2 ho' hw'=>?_);refine a_tail 6 (by omega) s3 ?_;refine reg_bslice #[.string (bstr bs)] 9 1 (some (z+6)) (b7 _ _) ?_;intro g w3 hn;exact go_tl z (news h2 hn) hl (ho'.on hn.mod) (hw'.on hn.mod) hn.at_ hy (a3 _ _ _ _ _) (fun v=>e1 _ _ _ _ _ _ _ (by simp)) st hd
theorem go_keep{L:List (Nat×Value)}(hk:W Tryz.prog 201 [] y Q (LO b1 b3 b4) w)(h:keepL L [1,3,4]=some (LO b1 b3 b4):=by kernel_rfl):W Tryz.prog 201 [] y Q L w:=fun a ha=>hk a (ha.keep h)
end
theorem c180{w:World}(q:Parts)(hs:Short q):
  Calls Tryz.prog 180 [.agg (partsV q)].toArray w (fun e w'=>∃ao cap,e=.returned (.slice ao (optsP q).length cap)∧Mod [] w w'∧Own w' w.heap.size 9 1 ao (optsP q).length cap (strs (optsP q))):=by
 have l1:=hs.a;have l2:=hs.b;have l3:=hs.c;have l4:=hs.d;have l5:=hs.e;have l6:=hs.f;have l7:=hs.g;have l8:=hs.h;refine enter (n:=201) Tryz.func180 rfl Tryz.ntmps180 rfl ?_;refine zw ?_;refine reg_alloc (partsV q) 220 (some 1) (by kernel_rfl) fun b1 w1 h1=>?_;refine yS 1 ?_;refine zx ?_;refine reg_alloc #[.slice none 0 0] 82 (some 5) (by kernel_rfl) fun b3 w3 h3=>?_;refine yS 1 ?_;refine zx ?_;refine yL 4 b3 0 ?_;refine reg_mk (.slice none 0 0) rfl (by kernel_rfl) (by kernel_rfl) (by kernel_rfl) (by kernel_rfl) ?_;refine yS 1 ?_;refine reg_store b3 0 (.slice none 0 0) none (by kernel_rfl) h3.at_ (Nat.le_of_ble_eq_true rfl) rfl fun w5 hu=>?_;refine zx ?_;refine reg_alloc #[.pointer none,.slice none 0 0] 150 (some 12) (by kernel_rfl) fun b4 w6 h6=>?_;refine zs 1 (LO b1 b3 b4) ?_;have hm1:=h1.mod;have hb1:=h1.base;have hm3:=hm1.trans h3.mod;have hb3:=Nat.le_trans hm1.size h3.base;have hm5:=Mod.fresh' hm3 hu.mod (fun x hx=>Or.inr (by simp at hx;omega));have hb4:=Nat.le_trans hm5.size h6.base;have hx1:=(At.keep (h1.at_.on h3.mod) hu.mod (not_mem1 (At.ne (h1.at_.on h3.mod) h3.at_ rfl))).on h6.mod;have hG:GO q w b1 b3 b4 [] [] w6:=⟨hm5.trans h6.mod,hx1,⟨none,0,hu.at_.on h6.mod,Own.nil _ _ _ _⟩,Bld.new h6.at_ hb4,hb3⟩;refine zz ?_;refine w_cut (γ:=List (List UInt8)×List UInt8) (fun _=>LO b1 b3 b4) (fun g w_=>GO q w b1 b3 b4 g.1 g.2 w_∧g.1=optsP q) ?_ ?_
 ·refine zw ?_;refine yL 3 b1 0 ?_;refine zz ?_;refine yC (!((bstr q.a).toList==(⟨#[]⟩:ByteArray).toList)) (fun hc=>?_) fun hc=>?_
  ·rw [bstr_ne] at hc;refine go_keep (b1:=b1) (b3:=b3) (b4:=b4) ?_;refine go_rs 16 hG fun w h=>?_;refine go_ws 0 18 q.a h fun w h=>?_;refine go_ws 3 22 q.d h fun w h=>?_;refine go_ws 4 26 q.e h fun w h=>?_;refine go_ws 5 30 q.f h fun w h=>?_;refine go_ws 6 34 q.g h fun w h=>?_;refine go_ws 7 38 q.h h fun w h=>?_;refine w_seq (go_add0 42 h (by decide) fun w h=>n_then ?_);refine go_rs 51 h fun w h=>?_;refine go_ws 0 53 q.a h fun w h=>?_;refine go_ws 2 57 q.c h fun w h=>?_;refine go_ws 3 61 q.d h fun w h=>?_;refine go_ws 4 65 q.e h fun w h=>?_;refine go_ws 5 69 q.f h fun w h=>?_;refine go_ws 6 73 q.g h fun w h=>?_;refine go_ws 7 77 q.h h fun w h=>?_;refine w_seq (go_add0 81 h (by (simp)) fun w h=>n_then ?_);refine go_rs 90 h fun w h=>?_;refine go_ws 0 92 q.a h fun w h=>?_;refine go_ws 1 96 q.b h fun w h=>?_;refine go_ws 3 100 q.d h fun w h=>?_;refine go_ws 4 104 q.e h fun w h=>?_;refine go_ws 5 108 q.f h fun w h=>?_;refine go_ws 6 112 q.g h fun w h=>?_;refine go_ws 7 116 q.h h fun w h=>?_;exact go_add0 120 h (by (simp)) fun w h=>zb (_,_) ⟨h,by unfold optsP;rw [hc];rfl⟩
  rw [bstr_ne] at hc;refine go_keep (b1:=b1) (b3:=b3) (b4:=b4) ?_;refine w_cut (γ:=List (List UInt8)×List UInt8) (fun _=>LO b1 b3 b4) (fun g w_=>GO q w b1 b3 b4 g.1 g.2 w_∧g.1=bif q.d !=[] then [q.b++q.d++q.e++q.f++q.g] else []) ?_ ?_
  ·refine zw ?_;refine yL 3 b1 3 ?_;refine zz ?_;refine yC (!((bstr q.d).toList==(⟨#[]⟩:ByteArray).toList)) (fun hd=>?_) fun hd=>?_
   ·rw [bstr_ne] at hd;refine go_keep (b1:=b1) (b3:=b3) (b4:=b4) ?_;refine go_rs 132 hG fun w h=>?_;refine go_ws 1 134 q.b h fun w h=>?_;refine go_ws 3 138 q.d h fun w h=>?_;refine go_ws 4 142 q.e h fun w h=>?_;refine go_ws 5 146 q.f h fun w h=>?_;refine go_ws 6 150 q.g h fun w h=>?_;exact go_add0 154 h (by decide) fun w h=>zb (_,_) ⟨h,by rw [hd];rfl⟩
   rw [bstr_ne] at hd;exact w_skip (zb ([],[]) ⟨hG,by rw [hd];rfl⟩)
  rintro ⟨l,bs⟩ w7 ⟨hG,hl⟩;dsimp only at hG hl;have hlen:l.length≤1:=by rw [hl];cases (q.d !=[])<;>simp
  refine zw ?_;refine zo 4 [rz 1 b1,rz 3 b3,rz 4 b4,(166,.bool (!((bstr q.b).toList==(⟨#[]⟩:ByteArray).toList)))] [.cell ⟨b1,1,none⟩ (.string (bstr q.b))] (At.cell hG.box rfl) ?_;rw [bstr_ne q.b];cases hb:(q.b !=[])
  ·refine yS 4 ?_;refine zz ?_;refine w_false rfl ?_;exact w_skip (zb (l,bs) ⟨hG,by unfold optsP;rw [hc,hl,hb];simp⟩)
  refine zo 4 [rz 1 b1,rz 3 b3,rz 4 b4,(170,.bool (!((bstr q.c).toList==(⟨#[]⟩:ByteArray).toList)))] [.cell ⟨b1,2,none⟩ (.string (bstr q.c))] (At.cell hG.box rfl) ?_;rw [bstr_ne q.c];refine zz ?_;refine zc (fun hd=>?_) fun hd=>?_
  ·refine go_keep (b1:=b1) (b3:=b3) (b4:=b4) ?_;refine go_rs 171 hG fun w h=>?_;refine go_ws 3 173 q.d h fun w h=>?_;refine go_ws 4 177 q.e h fun w h=>?_;refine go_ws 5 181 q.f h fun w h=>?_;refine go_ws 6 185 q.g h fun w h=>?_;exact go_add0 189 h (by omega) fun w h=>zb (_,_) ⟨h,by unfold optsP;rw [hc,hl,hb,hd];rfl⟩
  exact w_skip (zb (l,bs) ⟨hG,by unfold optsP;rw [hc,hl,hb,hd];simp⟩)
 rintro ⟨l,bs⟩ w8 ⟨hG,hl⟩;dsimp only at hG hl;subst hl;obtain ⟨ao,cap,ho,hw⟩:=hG.opt;refine zw ?_;refine yL 4 b3 0 ?_;refine zz ?_;exact w_ret (ret1 Tryz.results180 rfl ⟨ao,cap,rfl,hG.mod,hw⟩)
def clT(B:Bd)(S:Ps)(M:Mv):List UInt8:=match zzR (encI B S (allL B S) M) with|some q=>cleanP q|none=>[]
def hitT(B:Bd)(S:Ps)(q:Parts)(M:Mv):Bool:=(cleanP q==clT B S M)||(optsP q).any (·==clT B S M)
structure DecOk(B:Bd)(S:Ps)(M:Mv):Prop where
 up:UpPre B S M
 len:(encI B S (allL B S) M).length≤100000
 pts:∃q,zzR (encI B S (allL B S) M)=some q∧Short q
theorem eq_bstr(a b:List UInt8):((bstr a).toList==(bstr b).toList)=(a==b):=by rw [bstr_toList,bstr_toList]
theorem strs_at{l:List (List UInt8)}{i:Nat}(h:i<l.length):(strs l)[0+i*1]?=some (.string (bstr (l.getD i []))):=by
 unfold strs;rw [Nat.zero_add,Nat.mul_one,List.getElem?_map,List.getElem?_eq_getElem h,List.getD_eq_getElem?_getD,List.getElem?_eq_getElem h];rfl
set_option maxHeartbeats 4000000 in
theorem c175{c:GC}{p b:Nat}{vm:Value}{S:Ps}{w:World}(hp:At w p (.cells (psCells b vm S) 110 (0,0))){B:Bd}(hb:At w b (.cells (bdCells B) 135 (0,0)))(hG:Glob c w)(hpre:MvPre B S)(hbase:c.base≤p)(hca:Cache w vm B S)
  (l:List UInt8)(q:Parts)(hz:zzR l=some q)(hl:l.length≤100000)(hs:Short q)(hd:∀M∈allL B S,DecOk B S M)(hex:∃M∈allL B S,hitT B S q M=true):
  Calls Tryz.prog 175 [.agg #[],pz p,.string (bstr l)].toArray w (fun e w'=>∃t M,e=.returned (.tuple #[pz t,.nilIface])∧Mod [p] w w'∧At w' t (.cells (mvCells (.pointer none) M) 98 (0,0))∧M∈allL B S∧hitT B S q M=true):=by
 have hpos:0<(allL B S).length:=by obtain ⟨M,hM,_⟩:=hex;exact List.length_pos_of_mem hM
 have hlen:=allL_len hpre;refine enter (n:=63) Tryz.func175 rfl Tryz.ntmps175 rfl ?_;refine zw ?_;refine reg_alloc #[] 89 (some 3) (by kernel_rfl) fun b0 w1 hn1=>?_;refine yS 2 ?_;refine zx ?_;refine yS 1 ?_;refine zk (some 20) (c178 l q hz hl) fun w2 hm2=>?_;refine yS 3 ?_;refine reg_alloc #[.string ⟨#[]⟩,.string ⟨#[]⟩,.string ⟨#[]⟩,.string ⟨#[]⟩,.string ⟨#[]⟩,.string ⟨#[]⟩,.string ⟨#[]⟩,.string ⟨#[]⟩] 220 (some 8) (by kernel_rfl) fun b8 w3 hn3=>?_;refine reg_store b8 0 (.agg (partsV q)) none (by kernel_rfl) hn3.at_ (Nat.le_of_ble_eq_true rfl) rfl fun w4 hu4=>?_;have hx4:At w4 b8 (.cells (partsV q) 220 (0,0)):=hu4.at_;have hmA:=(hn1.mod.trans hm2).trans hn3.mod;have hsA:=Nat.le_trans (hn1.mod.trans hm2).size hn3.base;have hm4:Mod [] w w4:=Mod.fresh' hmA hu4.mod (fun x hx=>Or.inr (by simp at hx;omega));refine yS 1 ?_;refine zz ?_;refine w_seq ?_;refine zw ?_;refine yS 1 ?_;refine reg_run (v:=.bool false) (w':=w4) rfl rfl rfl (by kernel_rfl) (.inl (by kernel_rfl)) ?_;refine zz ?_;refine yF ?_;refine w_skip ?_;refine n_then ?_;refine zw ?_;refine yV 1 [.row ⟨b8,0,none⟩ 8 (partsV q)] [.agg (partsV q)] (At.row hx4 rfl) ?_;refine zk (some 27) (c179 q hs) fun w5 hm5=>?_;refine yS 1 ?_;refine zz ?_;refine w_seq ?_;refine zw ?_;refine yS 1 ?_;have hm5':=hm4.trans hm5;have hp5:=hp.on hm5';have hx5:=hx4.on hm5;refine zC (some 29) (c93 (S:=S) hp5 (hb.on hm5') (Glob.on hG hm5') hpre hbase (Cache.on hca hm5')) ?_;rintro _ w6 ⟨vm6,ao6,cap6,rfl,hm6,hp6,hca6,ho6⟩;refine ⟨_,rfl,?_⟩;obtain ⟨gc,capc,rfl,hoc⟩:=hca6;obtain ⟨g,cur,rfl,hgb,hg6,htk,hn6,hsz⟩:=Own.some ho6 hpos;have hx6:=At.keep hx5 hm6 (not_mem1 (At.ne hx5 hp5 rfl));have hb6:=At.keep (hb.on hm5') hm6 (not_mem1 (At.ne (hb.on hm5') hp5 rfl));have hG6:=Glob.keep (Glob.on hG hm5') hm6 (by simp<;>omega);have hmp:Mod [p] w w6:=Mod.fresh' (Mod.of_nil hm5') hm6 (by simp);refine yS 2 ?_;refine zz ?_;refine w_block ?_;refine yP (γ:=Int) (fun i=>(((allL B S).length:Int)-i).toNat) (fun (i:Int)=>[rz 1 p,rz 8 b8,(10,.string (bstr (cleanP q))),(29,.slice (some ⟨g,0,none⟩) (allL B S).length cap6),iz 30 (((allL B S).length:Nat):Int),iz 31 i]) (fun (i:Int) w_=>(0≤i∧i≤((allL B S).length:Int))∧Mod [] w6 w_∧(∀j:Int,0≤j→j<i→hitT B S q (mvAt (allL B S) j.toNat)=false)) 0 ⟨(by omega),Mod.refl _ _,(fun i h0 h1=>absurd h1 (by omega))⟩ ?_;rintro i w7 ⟨⟨i0,i1⟩,hm7,hx⟩;refine zw ?_;refine yS 1 ?_;refine zz ?_;refine w_seq ?_;refine yC (decide (i<(((allL B S).length:Nat):Int))) (fun hc=>?_) fun hc=>?_
 ·have hc:=of_decide_eq_true hc;refine w_skip ?_;refine n_then ?_;refine w_seq ?_;refine w_block ?_;have hmem:=mvAt_mem (l:=allL B S) (i:=i.toNat) (by omega);obtain ⟨hup,hel,q',hz',hs'⟩:=hd _ hmem;have hcl:clT B S (mvAt (allL B S) i.toNat)=cleanP q':=by unfold clT;rw [hz']
  have hin:hitT B S q (mvAt (allL B S) i.toNat)=((cleanP q==cleanP q')||(optsP q).any (·==cleanP q')):=by unfold hitT;rw [hcl]
  have hown:=fun w_ (m:Mod [] w6 w_)=>own_mv (l:=allL B S) (i:=i.toNat) (Own.on ho6 m) (by omega);generalize hMM:mvAt (allL B S) i.toNat=M at*
  refine zw ?_;refine yV 2 [.prop (0≤i∧i<(((allL B S).length:Nat):Int)),.row ⟨g,(0+i.toNat*11),none⟩ 11 (mvCells (.pointer none) M)] [.agg (mvCells (.pointer none) M)] ⟨zh (by omega),hown _ hm7⟩ ?_;refine reg_alloc (mvCells (.pointer none) (⟨0,0,0,0⟩:Mv)) 98 (some 12) (by kernel_rfl) fun t w8 hn8=>?_;refine reg_store t 0 (.agg (mvCells (.pointer none) M)) none (by kernel_rfl) hn8.at_ (Nat.le_of_ble_eq_true rfl) rfl fun w9 hu9=>?_;have ht9:At w9 t (.cells (mvCells (.pointer none) M) 98 (0,0)):=hu9.at_;have hs8:=Nat.le_trans hm7.size hn8.base;have hm9:Mod [] w6 w9:=Mod.fresh' (hm7.trans hn8.mod) hu9.mod (fun x hx=>Or.inr (by simp at hx;omega));refine zx ?_;refine yS 2 ?_;refine zk (some 37) (c176 (hp6.on hm9) (hoc.on hm9) (hb6.on hm9) ht9 (Glob.on hG6 hm9) (by omega) hpos hup) fun w10 hm10=>?_;refine yS 1 ?_;refine zx ?_;refine yS 1 ?_;refine zk (some 40) (c178 _ q' hz' hel) fun w11 hm11=>?_;refine yS 3 ?_;refine reg_alloc (#[.string ⟨#[]⟩,.string ⟨#[]⟩,.string ⟨#[]⟩,.string ⟨#[]⟩,.string ⟨#[]⟩,.string ⟨#[]⟩,.string ⟨#[]⟩,.string ⟨#[]⟩]) 220 (some 14) (by kernel_rfl) fun b14 w12 hn12=>?_;refine reg_store b14 0 (.agg (partsV q')) none (by kernel_rfl) hn12.at_ (Nat.le_of_ble_eq_true rfl) rfl fun w13 hu13=>?_;have hx13:At w13 b14 (.cells (partsV q') 220 (0,0)):=hu13.at_;have hmB:=((hm9.trans hm10).trans hm11).trans hn12.mod;have hmC:=(hm10.trans hm11).trans hn12.mod;have hsB:=Nat.le_trans ((hm9.trans hm10).trans hm11).size hn12.base;have hsC:=Nat.le_trans (hm10.trans hm11).size hn12.base;have hm13:Mod [] w6 w13:=Mod.fresh' hmB hu13.mod (fun x hx=>Or.inr (by simp at hx;omega));have hm13':Mod [] w9 w13:=Mod.fresh' hmC hu13.mod (fun x hx=>Or.inr (by simp at hx;omega));have hx14:=hx6.on hm13;refine yS 1 ?_;refine zz ?_;refine w_seq ?_;refine zw ?_;refine yS 1 ?_;refine reg_run (v:=.bool false) (w':=w13) rfl rfl rfl (by kernel_rfl) (.inl (by kernel_rfl)) ?_;refine zz ?_;refine yF ?_;refine w_skip ?_;refine n_then ?_;refine w_seq ?_;refine zw ?_;refine zv 2 [rz 1 p,rz 8 b8,(10,.string (bstr (cleanP q))),(29,.slice (some ⟨g,0,none⟩) (allL B S).length cap6),iz 30 (((allL B S).length:Nat):Int),iz 31 i,rz 12 t,rz 14 b14,(45,.string (bstr (cleanP q))),(46,.agg (partsV q'))] [.row ⟨b14,0,none⟩ 8 (partsV q')] [.agg (partsV q')] (At.row hx13 rfl) ?_;refine zk (some 47) (c179 q' hs') fun w14 hm14=>?_;refine zs 1 [rz 1 p,rz 8 b8,(10,.string (bstr (cleanP q))),(29,.slice (some ⟨g,0,none⟩) (allL B S).length cap6),iz 30 (((allL B S).length:Nat):Int),iz 31 i,rz 12 t,rz 14 b14,(48,.bool ((bstr (cleanP q)).toList==(bstr (cleanP q')).toList))] ?_;rw [eq_bstr];refine zz ?_;refine zc (fun hq=>?_) fun hq=>?_
  ·refine zw ?_;refine zs 2 [(6,pz t),(7,.nilIface)] ?_;refine zz ?_;refine w_ret ?_
   repeat first|refine r_then ?_|refine r_block ?_
   exact ret2 Tryz.results175 rfl rfl ⟨t,M,rfl,hmp.trans (Mod.of_nil (hm13.trans hm14)),ht9.on (hm13'.trans hm14),hmem,by rw [hin,hq];rfl⟩
  refine w_skip ?_;refine n_then ?_;have hx15:=hx14.on hm14;refine zw ?_;refine yV 1 [.row ⟨b8,0,none⟩ 8 (partsV q)] [.agg (partsV q)] (At.row hx15 rfl) ?_;refine zC (some 50) (c180 q hs) ?_;rintro _ w15 ⟨ao,cap,rfl,hm15,ho15⟩;refine ⟨_,rfl,?_⟩;refine yS 2 ?_;refine zz ?_;refine w_block ?_;have hm15':=hm14.trans hm15;have hx17:=hx13.on hm15';have hol:(optsP q).length≤3:=by unfold optsP;cases (q.a !=[])<;>cases (q.d !=[])<;>cases (q.b !=[])<;>cases (q.c !=[])<;>simp
  refine yP (γ:=Int) (fun k=>(((optsP q).length:Int)-k).toNat) (fun (k:Int)=>[rz 1 p,rz 8 b8,(10,.string (bstr (cleanP q))),(29,.slice (some ⟨g,0,none⟩) (allL B S).length cap6),iz 30 (((allL B S).length:Nat):Int),iz 31 i,rz 12 t,rz 14 b14,(50,.slice ao (optsP q).length cap),iz 51 (((optsP q).length:Nat):Int),iz 52 k]) (fun (k:Int) w_=>(0≤k∧k≤((optsP q).length:Int))∧Mod [] w15 w_∧(∀j:Nat,(j:Int)<k→((optsP q).getD j []==cleanP q')=false)) 0 ⟨(by omega),Mod.refl _ _,(fun i h1=>absurd h1 (by omega))⟩ ?_;rintro k w16 ⟨⟨k0,k1⟩,hm16,hk⟩;refine zw ?_;refine zs 1 [rz 1 p,rz 8 b8,(10,.string (bstr (cleanP q))),(29,.slice (some ⟨g,0,none⟩) (allL B S).length cap6),iz 30 (((allL B S).length:Nat):Int),iz 31 i,rz 12 t,rz 14 b14,(50,.slice ao (optsP q).length cap),iz 51 (((optsP q).length:Nat):Int),iz 52 k,(53,.bool (decide (k<(((optsP q).length:Nat):Int))))] ?_;refine zz ?_;refine w_seq ?_;refine zc (fun hc2=>?_) fun hc2=>?_
  ·have hc2:=of_decide_eq_true hc2;obtain ⟨g2,cur2,rfl,_,hg2,_,_,_⟩:=Own.some ho15 (by omega);refine w_skip ?_;refine n_then ?_;refine w_seq ?_;refine w_block ?_;refine zw ?_;refine zo 3 [rz 1 p,rz 8 b8,(10,.string (bstr (cleanP q))),(29,.slice (some ⟨g,0,none⟩) (allL B S).length cap6),iz 30 (((allL B S).length:Nat):Int),iz 31 i,rz 12 t,rz 14 b14,(50,.slice (some ⟨g2,0,none⟩) (optsP q).length cap),iz 51 (((optsP q).length:Nat):Int),iz 52 k,(17,.string (bstr ((optsP q).getD k.toNat [])))] [.prop (0≤k∧k<(((optsP q).length:Nat):Int)),.cell ⟨g2,(0+k.toNat*1),none⟩ (.string (bstr ((optsP q).getD k.toNat [])))] ⟨zh (by omega),Own.cell (Own.on ho15 hm16) (strs_at (by omega))⟩ ?_;refine zx ?_;refine zv 2 [rz 1 p,rz 8 b8,(10,.string (bstr (cleanP q))),(29,.slice (some ⟨g,0,none⟩) (allL B S).length cap6),iz 30 (((allL B S).length:Nat):Int),iz 31 i,rz 12 t,rz 14 b14,(50,.slice (some ⟨g2,0,none⟩) (optsP q).length cap),iz 51 (((optsP q).length:Nat):Int),iz 52 k,(56,.string (bstr ((optsP q).getD k.toNat []))),(57,.agg (partsV q'))] [.row ⟨b14,0,none⟩ 8 (partsV q')] [.agg (partsV q')] (At.row (hx17.on hm16) rfl) ?_;refine zk (some 58) (c179 q' hs') fun w17 hm17=>?_;refine zs 1 [rz 1 p,rz 8 b8,(10,.string (bstr (cleanP q))),(29,.slice (some ⟨g,0,none⟩) (allL B S).length cap6),iz 30 (((allL B S).length:Nat):Int),iz 31 i,rz 12 t,rz 14 b14,(50,.slice (some ⟨g2,0,none⟩) (optsP q).length cap),iz 51 (((optsP q).length:Nat):Int),iz 52 k,(59,.bool ((bstr ((optsP q).getD k.toNat [])).toList==(bstr (cleanP q')).toList))] ?_;rw [eq_bstr];refine zz ?_;have hm17':=hm15'.trans (hm16.trans hm17);refine zc (fun hq2=>?_) fun hq2=>?_
   ·refine zw ?_;refine zs 2 [(6,pz t),(7,.nilIface)] ?_;refine zz ?_;refine w_ret ?_
    repeat first|refine r_then ?_|refine r_block ?_
    refine ret2 Tryz.results175 rfl rfl ⟨t,M,rfl,hmp.trans (Mod.of_nil (hm13.trans hm17')),ht9.on (hm13'.trans hm17'),hmem,?_⟩;rw [hin,Bool.or_eq_true];refine Or.inr (List.any_eq_true.2 ⟨(optsP q).getD k.toNat [],?_,hq2⟩);rw [List.getD_eq_getElem?_getD,List.getElem?_eq_getElem (by omega)];exact List.getElem_mem _
   refine w_skip ?_;refine n_block ?_;refine n_then ?_;refine w_region ?_;refine zs 2 [rz 1 p,rz 8 b8,(10,.string (bstr (cleanP q))),(29,.slice (some ⟨g,0,none⟩) (allL B S).length cap6),iz 30 (((allL B S).length:Nat):Int),iz 31 i,rz 12 t,rz 14 b14,(50,.slice (some ⟨g2,0,none⟩) (optsP q).length cap),iz 51 (((optsP q).length:Nat):Int),iz 52 (IntKind.i64.wrap (k+1))] ?_;refine ze ?_;rw [zi (k+1) (by omega) (by omega)];refine l_back (k+1) [1,8,10,29,30,31,12,14,50,51,52] (by kernel_rfl) (by omega) ⟨(by omega),hm16.trans hm17,fun j hj=>?_⟩;by_cases e:(j:Int)=k
   ·rw [show j=k.toNat by omega];exact hq2
   exact hk j (by omega)
  have hc2:=of_decide_eq_false hc2;refine w_exit ?_;refine x_then ?_;refine x_then ?_;refine x_hit ?_;refine n_block ?_;refine n_then ?_;refine w_region ?_;refine zs 2 [rz 1 p,rz 8 b8,(10,.string (bstr (cleanP q))),(29,.slice (some ⟨g,0,none⟩) (allL B S).length cap6),iz 30 (((allL B S).length:Nat):Int),iz 31 (IntKind.i64.wrap (i+1))] ?_;refine ze ?_;rw [zi (i+1) (by omega) (by omega)];have hno:hitT B S q M=false:=by
   rw [hin,hq,Bool.false_or,List.any_eq_false];intro x hxm hxe;obtain ⟨j,hj,rfl⟩:=List.getElem_of_mem hxm;have:=hk j (by omega);rw [List.getD_eq_getElem?_getD,List.getElem?_eq_getElem hj] at this;rw [Option.getD_some,hxe] at this;cases this
  refine l_back (i+1) [1,8,10,29,30,31] (by kernel_rfl) (by omega) ⟨(by omega),hm13.trans (hm15'.trans hm16),fun j h0 h1=>?_⟩;by_cases e:j=i
  ·subst e;rw [hMM];exact hno
  exact hx j h0 (by omega)
 exfalso;have hc:=of_decide_eq_false hc;obtain ⟨M,hM,hh⟩:=hex;obtain ⟨j,hj,rfl⟩:=List.getElem_of_mem hM;have:=hx (j:Int) (by omega) (by omega);rw [show mvAt (allL B S) ((j:Int)).toNat=(allL B S)[j] by unfold mvAt;rw [Int.toNat_natCast,List.getD_eq_getElem?_getD,List.getElem?_eq_getElem hj];rfl,hh] at this;cases this
theorem sq_cls0:∀n,n<64→cls (fB (n:Nat))=1∧cls (rB (n:Nat))=2:=by decide+kernel
theorem sq_inj0:∀n,n<64→∀k,k<64→(fB (n:Nat)=fB (k:Nat)→n%8=k%8)∧(rB (n:Nat)=rB (k:Nat)→n/8=k/8):=by decide+kernel
theorem sq_cls{s:Int}(h:0≤s∧s≤63):cls (fB s)=1∧cls (rB s)=2:=by
 obtain ⟨n,rfl⟩:∃n:Nat,s=n:=⟨s.toNat,by omega⟩;exact sq_cls0 n (by omega)
theorem sq_inj{s u:Int}(h:0≤s∧s≤63)(h':0≤u∧u≤63):(fB s=fB u→s%8=u%8)∧(rB s=rB u→s/8=u/8):=by
 obtain ⟨n,rfl⟩:∃n:Nat,s=n:=⟨s.toNat,by omega⟩;obtain ⟨k,rfl⟩:∃k:Nat,u=k:=⟨u.toNat,by omega⟩;obtain ⟨a,b⟩:=sq_inj0 n (by omega) k (by omega);exact ⟨fun e=>by have:=a e;omega,fun e=>by have:=b e;omega⟩
theorem letB_get{k:Int}(h:1≤k∧k≤5):∃x,letB k=[x]∧(cls x=3∨cls x=4):=by
 rcases (by omega:k=1∨k=2∨k=3∨k=4∨k=5) with rfl|rfl|rfl|rfl|rfl
 · exact ⟨75,rfl,by decide⟩
 · exact ⟨81,rfl,by decide⟩
 · exact ⟨82,rfl,by decide⟩
 · exact ⟨66,rfl,by decide⟩
 exact ⟨78,rfl,by decide⟩
theorem letB_inj{k j:Int}(h:1≤k∧k≤5)(h':1≤j∧j≤5)(e:letB k=letB j):k=j:=by
 rcases (by omega:k=1∨k=2∨k=3∨k=4∨k=5) with rfl|rfl|rfl|rfl|rfl<;>rcases (by omega:j=1∨j=2∨j=3∨j=4∨j=5) with rfl|rfl|rfl|rfl|rfl<;>first|rfl|(revert e;decide)
theorem promS_get{p:Int}(h:p=0∨(2≤p∧p≤5)):(p=0∧promS p=[])∨(p≠0∧∃x,promS p=[61,x]∧cls x=3):=by
 rcases (by omega:p=0∨p=2∨p=3∨p=4∨p=5) with rfl|rfl|rfl|rfl|rfl
 · exact Or.inl ⟨rfl,rfl⟩
 · exact Or.inr ⟨by decide,81,rfl,by decide⟩
 · exact Or.inr ⟨by decide,82,rfl,by decide⟩
 · exact Or.inr ⟨by decide,66,rfl,by decide⟩
 exact Or.inr ⟨by decide,78,rfl,by decide⟩
theorem promS_inj{p q:Int}(h:p=0∨(2≤p∧p≤5))(h':q=0∨(2≤q∧q≤5))(e:promS p=promS q):p=q:=by
 rcases (by omega:p=0∨p=2∨p=3∨p=4∨p=5) with rfl|rfl|rfl|rfl|rfl<;>rcases (by omega:q=0∨q=2∨q=3∨q=4∨q=5) with rfl|rfl|rfl|rfl|rfl<;>first|rfl|(revert e;decide)
theorem sgnS_cls(P:SP)(f t p:Int):(sgnS P f t p).map cls∈C7:=by
 unfold sgnS;cases (!(inChkS (madeS P f t p).bd (madeS P f t p).turn))<;>cases (!(hasS (madeS P f t p)))<;>decide
theorem sgnI_cls(B:Bd)(S:Ps)(M:Mv):(sgnI B S M).map cls∈C7∧(sgnI B S M).length≤1:=by
 unfold sgnI;cases hasTag M 16<;>cases (statV (updB B M) (nextPs B S M)==(1:Int))<;>decide
theorem castI_rng(bd:Nat→Int)(f t:Int):castI bd f t=0∨castI bd f t=1∨castI bd f t=2:=by
 unfold castI;cases (kindOf (bd f.toNat) !=(1:Int))<;>cases (t-f==(2:Int))<;>cases (t-f==(-2:Int))<;>simp
def apF(P:SP)(f t:Int):List UInt8:=bif legAny P (othS P.bd f t)&&(!(legAny P (filS P.bd f t))||legAny P (rnkS P.bd f t)) then [fB f] else []
def apR(P:SP)(f t:Int):List UInt8:=bif legAny P (othS P.bd f t)&&legAny P (filS P.bd f t) then [rB f] else []
theorem apart_eq(P:SP)(f t:Int):apartS P f t=apF P f t++apR P f t:=by
 unfold apartS apF apR;cases legAny P (othS P.bd f t)<;>cases legAny P (filS P.bd f t)<;>cases legAny P (rnkS P.bd f t)<;>rfl
def sanQ(P:SP)(m:Sm):Parts:=if castI P.bd m.f m.t≠0 then castP (oooS (2-castI P.bd m.f m.t)) else
 if kindOf (P.bd m.f.toNat)=6 then ⟨[],(bif takesI P.bd m.f m.t then [fB m.f] else []),[],takT P.bd m.f m.t,[fB m.t],[rB m.t],promS m.p,[]⟩
 else ⟨letB (kindOf (P.bd m.f.toNat)),apF P m.f m.t,apR P m.f m.t,takT P.bd m.f m.t,[fB m.t],[rB m.t],[],[]⟩
def lanQ(P:SP)(m:Sm):Parts:=if castI P.bd m.f m.t≠0 then castP (oooS (2-castI P.bd m.f m.t)) else
 ⟨letB (kindOf (P.bd m.f.toNat)),[fB m.f],[rB m.f],takT P.bd m.f m.t,[fB m.t],[rB m.t],promS m.p,[]⟩
theorem castP_short(j:Int):Short (castP (oooS j)):=by
 have:(oooS j).length≤5:=by unfold oooS;split<;>decide
 exact ⟨Nat.zero_le _,Nat.zero_le _,Nat.zero_le _,Nat.zero_le _,Nat.zero_le _,Nat.zero_le _,Nat.zero_le _,by show (oooS j).length≤_;omega⟩
theorem form_short{q:Parts}{e f:UInt8}{s:List UInt8}(h:Form q e f s):Short q:=by
 have key:∀(C:List (List Nat)),(C.all fun l=>decide (l.length≤2))=true→∀l:List UInt8,l.map cls∈C→l.length≤100000:=by
  intro C hC l hl;have:=List.all_eq_true.1 hC _ hl;rw [decide_eq_true_eq,List.length_map] at this;omega
 exact ⟨key C0 rfl _ h.a,key C1 rfl _ h.b,key C2 rfl _ h.c,key C5 rfl _ h.d,by rw [h.e.1];simp,by rw [h.f.1];simp,key C6 rfl _ h.g,by rw [h.h];simp⟩
theorem takT_cls(bd:Nat→Int)(f t:Int):(takT bd f t).map cls∈C5:=by unfold takT;cases takesI bd f t<;>decide
theorem promS_cls{p:Int}(h:p=0∨(2≤p∧p≤5)):(promS p).map cls∈C6:=by
 rcases promS_get h with ⟨_,e⟩|⟨_,x,e,hx⟩<;>rw [e]
 · decide
 rw [List.map_cons,List.map_cons,hx];decide
theorem letB_cls{k:Int}(h:0≤k∧k≤6):(letB k).map cls∈C0:=by
 rcases (by omega:k=0∨k=1∨k=2∨k=3∨k=4∨k=5∨k=6) with rfl|rfl|rfl|rfl|rfl|rfl|rfl<;>decide
section
variable{P:SP}{m:Sm}{M:Mv}
theorem leg_kind(hV:ValidS P)(h:LegM P m):1≤kindOf (P.bd m.f.toNat)∧kindOf (P.bd m.f.toNat)≤6:=by
 have hf:=(h.ok hV).f;have:=hV.bd m.f.toNat (by omega);have:=h.x0 hV;unfold kindOf;split<;>omega
theorem san_form(hV:ValidS P)(h:LegM P m)(hc:castI P.bd m.f m.t=0){s:List UInt8}(hs:s.map cls∈C7):Form (sanQ P m) (fB m.t) (rB m.t) s:=by
 have ho:=h.ok hV;have cf:=sq_cls ho.f;have ct:=sq_cls ho.t;have hk:=leg_kind hV h;unfold sanQ;rw [if_neg (fun hh=>hh hc)];by_cases h6:kindOf (P.bd m.f.toNat)=6
 · rw [if_pos h6];refine ⟨by show ([]:List UInt8).map cls∈C0;decide,?_,by show ([]:List UInt8).map cls∈C2;decide,takT_cls _ _ _,⟨rfl,ct.1⟩,⟨rfl,ct.2⟩,promS_cls ho.p,rfl,hs⟩;dsimp only;cases takesI P.bd m.f m.t
   · exact List.mem_cons_self
   rw [cond_true,List.map_cons,cf.1];decide
 rw [if_neg h6];refine ⟨letB_cls (by omega),?_,?_,takT_cls _ _ _,⟨rfl,ct.1⟩,⟨rfl,ct.2⟩,by show ([]:List UInt8).map cls∈C6;decide,rfl,hs⟩
 · show (apF P m.f m.t).map cls∈C1;unfold apF;cases (legAny P (othS P.bd m.f m.t)&&(!(legAny P (filS P.bd m.f m.t))||legAny P (rnkS P.bd m.f m.t)))
   · exact List.mem_cons_self
   rw [cond_true,List.map_cons,cf.1];decide
 show (apR P m.f m.t).map cls∈C2;unfold apR;cases (legAny P (othS P.bd m.f m.t)&&legAny P (filS P.bd m.f m.t))
 · exact List.mem_cons_self
 rw [cond_true,List.map_cons,cf.2];decide
theorem lan_form(hV:ValidS P)(h:LegM P m)(hc:castI P.bd m.f m.t=0){s:List UInt8}(hs:s.map cls∈C7):Form (lanQ P m) (fB m.t) (rB m.t) s:=by
 have ho:=h.ok hV;have cf:=sq_cls ho.f;have ct:=sq_cls ho.t;have hk:=leg_kind hV h;unfold lanQ;rw [if_neg (fun hh=>hh hc)];refine ⟨letB_cls (by omega),?_,?_,takT_cls _ _ _,⟨rfl,ct.1⟩,⟨rfl,ct.2⟩,promS_cls ho.p,rfl,hs⟩
 · show [fB m.f].map cls∈C1;rw [List.map_cons,cf.1];decide
 show [rB m.f].map cls∈C2;rw [List.map_cons,cf.2];decide
theorem body_cast(hc:castI P.bd m.f m.t≠0):bodyS P m.f m.t m.p=oooS (2-castI P.bd m.f m.t):=by
 unfold bodyS;rcases castI_rng P.bd m.f m.t with e|e|e
 · exact absurd e hc
 · rw [e];rfl
 rw [e];rfl
theorem san_clean(h:LegM P m):cleanP (sanQ P m)=bodyS P m.f m.t m.p:=by
 by_cases hc:castI P.bd m.f m.t=0
 · unfold sanQ bodyS cleanP;rw [if_neg (fun hh=>hh hc),hc];simp only [show ((0:Int)==1)=false from rfl,show ((0:Int)==2)=false from rfl,cond_false];by_cases h6:kindOf (P.bd m.f.toNat)=6
   · rw [if_pos h6,h6];simp only [show ((6:Int)==6)=true from rfl,cond_true];unfold takT;cases takesI P.bd m.f m.t<;>simp
   rw [if_neg h6,beq_eq_false_iff_ne.2 h6,apart_eq];simp
 rw [body_cast hc];unfold sanQ;rw [if_pos hc];rfl
theorem san_parts(hV:ValidS P)(h:LegM P m){s:List UInt8}(hs:s.map cls∈C7):zzR (bodyS P m.f m.t m.p++s)=some (sanQ P m)∧Short (sanQ P m):=by
 by_cases hc:castI P.bd m.f m.t=0
 · have hF:=san_form hV h hc hs;refine ⟨?_,form_short hF⟩;have:=zz_form hF;have e:(sanQ P m).a++(sanQ P m).b++(sanQ P m).c++(sanQ P m).d++[fB m.t,rB m.t]++(sanQ P m).g=bodyS P m.f m.t m.p:=by
    rw [←san_clean h];unfold cleanP;rw [hF.e.1,hF.f.1,hF.h];simp
   rw [e] at this;exact this
 rw [body_cast hc];have e:sanQ P m=castP (oooS (2-castI P.bd m.f m.t)):=by unfold sanQ;rw [if_pos hc]
 rw [e];exact ⟨zz_castle _ s hs,castP_short _⟩
theorem lan_parts(hV:ValidS P)(h:LegM P m):zzR (lanS P m.f m.t m.p)=some (lanQ P m)∧Short (lanQ P m):=by
 have hs:=sgnS_cls P m.f m.t m.p;by_cases hc:castI P.bd m.f m.t=0
 · have hF:=lan_form hV h hc hs;refine ⟨?_,form_short hF⟩;have:=zz_form hF;have e:(lanQ P m).a++(lanQ P m).b++(lanQ P m).c++(lanQ P m).d++[fB m.t,rB m.t]++(lanQ P m).g++sgnS P m.f m.t m.p=lanS P m.f m.t m.p:=by
    unfold lanS lanQ;rw [if_neg (fun hh=>hh hc),hc];simp only [show decide ((0:Int)>0)=false from rfl,cond_false];simp
   rw [e] at this;exact this
 have e:lanQ P m=castP (oooS (2-castI P.bd m.f m.t)):=by unfold lanQ;rw [if_pos hc]
 have e2:lanS P m.f m.t m.p=oooS (2-castI P.bd m.f m.t)++sgnS P m.f m.t m.p:=by
  unfold lanS;rw [show decide (castI P.bd m.f m.t>(0:Int))=true by rw [decide_eq_true_eq];rcases castI_rng P.bd m.f m.t with e|e|e<;>omega,body_cast hc];rfl
 rw [e,e2];exact ⟨zz_castle _ _ hs,castP_short _⟩
theorem decOk(hV:ValidS P)(h:LegM P m)(hT:TagM P m M):DecOk (boardOf P.bd) (psOf P) M∧clT (boardOf P.bd) (psOf P) M=bodyS P m.f m.t m.p:=by
 have hb:=text_body hV h hT;obtain ⟨c1,c2⟩:=sgnI_cls (boardOf P.bd) (psOf P) M;have hp:=san_parts hV h c1;have e:encI (boardOf P.bd) (psOf P) (allL (boardOf P.bd) (psOf P)) M=bodyS P m.f m.t m.p++sgnI (boardOf P.bd) (psOf P) M:=by unfold encI;rw [hb]
 refine ⟨⟨upPre hV h hT,?_,⟨_,by rw [e];exact hp.1,hp.2⟩⟩,?_⟩
 · rw [e,List.length_append];have:=bodyS_len P m.f m.t m.p;omega
 unfold clT;rw [e,hp.1];exact san_clean h
end
section
variable{P:SP}{m n:Sm}
theorem shape(h:LegM P n):(castI P.bd n.f n.t≠0∧bodyS P n.f n.t n.p=oooS (2-castI P.bd n.f n.t))∨
  (kindOf (P.bd n.f.toNat)=6∧takesI P.bd n.f n.t=true∧bodyS P n.f n.t n.p=fB n.f::120::fB n.t::rB n.t::promS n.p)∨
  (kindOf (P.bd n.f.toNat)=6∧takesI P.bd n.f n.t=false∧bodyS P n.f n.t n.p=fB n.t::rB n.t::promS n.p)∨
  (castI P.bd n.f n.t=0∧kindOf (P.bd n.f.toNat)≠6∧bodyS P n.f n.t n.p=((letB (kindOf (P.bd n.f.toNat))++(apF P n.f n.t++apR P n.f n.t))++takT P.bd n.f n.t)++[fB n.t,rB n.t]):=by
 by_cases hc:castI P.bd n.f n.t=0
 · right;have e0:=san_clean h;by_cases h6:kindOf (P.bd n.f.toNat)=6
   · unfold sanQ cleanP at e0;rw [if_neg (fun hh=>hh hc),if_pos h6] at e0;unfold takT at e0;cases ht:takesI P.bd n.f n.t<;>rw [ht] at e0
     · right;left;exact ⟨h6,rfl,by rw [←e0];simp⟩
     left;exact ⟨h6,rfl,by rw [←e0];simp⟩
   right;right;refine ⟨hc,h6,?_⟩;unfold sanQ cleanP at e0;rw [if_neg (fun hh=>hh hc),if_neg h6] at e0;rw [←e0];simp
 exact Or.inl ⟨hc,body_cast hc⟩
theorem leg_side(hV:ValidS P)(h:LegM P n):sideOf (P.bd n.f.toNat)=P.turn:=by
 have hT:=hV.turn;cases h with
 |std f t p h ho=>exact h.1.side
 |cast r h hM=>dsimp only;rw [hM.king];unfold sideOf;split<;>omega
theorem leg_bd(hV:ValidS P)(h:LegM P n):P.bd n.f.toNat=kindOf (P.bd n.f.toNat)+6*P.turn:=by
 have hf:=(h.ok hV).f;have hx:=hV.bd n.f.toNat (by omega);have h0:=h.x0 hV;have:=(kind_cases (x:=P.bd n.f.toNat) (by omega)).1;rw [leg_side hV h] at this;omega
theorem legAny_of(hV:ValidS P)(h:LegM P m){g:Sm→Bool}(hg:g m=true):legAny P g=true:=by
 obtain ⟨a,b⟩:=h.okS hV;unfold legAny;exact List.any_eq_true.2 ⟨m,a,by rw [b,hg];rfl⟩
theorem sq_eq{a b:Int}(h:a%8=b%8)(h':a/8=b/8):a=b:=by omega
theorem o_cls(j:Int):∃r,oooS j=79::r:=by unfold oooS;split<;>exact ⟨_,rfl⟩
theorem cls_no{x y:UInt8}(e:x=y)(h:cls x≠cls y):False:=h (by rw [e])
theorem sm_ext{a b:Sm}(h1:a.f=b.f)(h2:a.t=b.t)(h3:a.p=b.p):a=b:=by cases a;cases b;simp only at h1 h2 h3;rw [h1,h2,h3]
theorem piece_one(hV:ValidS P)(h:LegM P m)(h6:kindOf (P.bd m.f.toNat)≠6)(h':LegM P n){b c:List UInt8}(hb:b=[]∨b=[fB m.f])(hc:c=[]∨c=[rB m.f])
  (e:bodyS P n.f n.t n.p=((letB (kindOf (P.bd m.f.toNat))++(b++c))++takT P.bd m.f m.t)++[fB m.t,rB m.t]):n=m:=by
 have ho:=h.ok hV;have ho':=h'.ok hV;have hk:=leg_kind hV h;have hk':=leg_kind hV h';obtain ⟨x,ex,hx⟩:=letB_get (k:=kindOf (P.bd m.f.toNat)) (by omega);have cf:=sq_cls ho.f;have cf':=sq_cls ho'.f;have ct':=sq_cls ho'.t;rcases shape h' with ⟨_,e'⟩|⟨_,_,e'⟩|⟨_,_,e'⟩|⟨hc',h6',e'⟩
 · exfalso;obtain ⟨r,er⟩:=o_cls (2-castI P.bd n.f n.t);rw [e',er,ex] at e;have:=(List.cons.inj e).1;rw [←this] at hx;revert hx;decide
 · exfalso;rw [e',ex] at e;have:=(List.cons.inj e).1;rw [←this,cf'.1] at hx;omega
 · exfalso;rw [e',ex] at e;have:=(List.cons.inj e).1;rw [←this,ct'.1] at hx;omega
 rw [e'] at e;obtain ⟨y,ey,hy⟩:=letB_get (k:=kindOf (P.bd n.f.toNat)) (by omega);obtain ⟨e1,e2⟩:=List.append_inj' e rfl;have et:n.t=m.t:=by
  have a:=(List.cons.inj e2).1;have b:=(List.cons.inj (List.cons.inj e2).2).1;exact sq_eq ((sq_inj ho'.t ho.t).1 a) ((sq_inj ho'.t ho.t).2 b)
 have ek:kindOf (P.bd n.f.toNat)=kindOf (P.bd m.f.toNat):=by
  refine letB_inj (by omega) (by omega) ?_;rw [ex,ey] at e1;rw [ex,ey,(List.cons.inj e1).1]
 have etk:takT P.bd n.f n.t=takT P.bd m.f m.t:=by
  unfold takT takesI;rw [et,beq_eq_false_iff_ne.2 h6,beq_eq_false_iff_ne.2 h6'];rfl
 rw [etk,ek] at e1;have e3:=List.append_cancel_left (List.append_cancel_right e1);have ep:n.p=m.p:=(leg_promo h' h6').trans (leg_promo h h6).symm;by_cases ef:n.f=m.f
 · exact sm_ext ef et ep
 exfalso;have ebd:P.bd m.f.toNat=P.bd n.f.toNat:=by rw [leg_bd hV h,leg_bd hV h',ek]
 have ho1:othS P.bd n.f n.t m=true:=by
  unfold othS skpS;rw [et,ebd,show (m.f==n.f)=false from beq_eq_false_iff_ne.2 (Ne.symm ef)];simp
 have a1:=legAny_of hV h ho1;unfold apF apR at e3;rw [a1] at e3;have hfil:fB m.f=fB n.f→legAny P (filS P.bd n.f n.t)=true:=fun hh=>legAny_of hV h (by unfold filS;rw [ho1,(sq_inj ho.f ho'.f).1 hh];simp);have hrnk:rB m.f=rB n.f→legAny P (rnkS P.bd n.f n.t)=true:=fun hh=>legAny_of hV h (by unfold rnkS;rw [ho1,(sq_inj ho.f ho'.f).2 hh];simp);have n1:fB n.f≠rB m.f:=fun hh=>cls_no hh (by rw [cf'.1,cf.2];decide);have n2:rB n.f≠fB m.f:=fun hh=>cls_no hh (by rw [cf'.2,cf.1];decide);cases hF:legAny P (filS P.bd n.f n.t)<;>cases hR:legAny P (rnkS P.bd n.f n.t)<;>rw [hF,hR] at e3<;>rw [hF] at hfil<;>rw [hR] at hrnk<;>
  rcases hb with rfl|rfl<;>rcases hc with rfl|rfl<;>simp at e3<;>
  first
   |exact n1 e3
   |exact n2 e3
   |exact absurd (hfil e3.symm) (by decide)
   |exact absurd (hrnk e3.symm) (by decide)
   |exact ef (sq_eq ((sq_inj ho'.f ho.f).1 e3.1) ((sq_inj ho'.f ho.f).2 e3.2))
theorem pawn_way(hV:ValidS P)(h:LegM P m)(h6:kindOf (P.bd m.f.toNat)=6):(takesI P.bd m.f m.t=true→m.t/8-m.f/8=1-2*P.turn)∧
  (takesI P.bd m.f m.t=false→(m.t=m.f+8*(1-2*P.turn)∨(m.t=m.f+16*(1-2*P.turn)∧P.bd (m.f+8*(1-2*P.turn)).toNat=0))):=by
 have hT:=hV.turn;cases h with
 |cast r h hM=>dsimp only at h6;rw [hM.king] at h6;unfold kindOf at h6;split at h6<;>omega
 |std f t p h ho=>
  dsimp only at*
  obtain ⟨_,h1⟩:=std_pawn hV h.1 h6;unfold takesI;simp only [Int.toNat_natCast] at h6⊢;rw [h6];rcases h1 with ⟨a,b⟩|⟨a,b,c,d⟩|⟨a,b,c⟩
  · refine ⟨fun hh=>?_,fun _=>Or.inl a⟩;rw [b] at hh;simp at hh;omega
  · refine ⟨fun hh=>?_,fun _=>Or.inr ⟨a,c⟩⟩;rw [d] at hh;simp at hh;omega
  refine ⟨fun _=>b,fun hh=>?_⟩;simp at hh;omega
theorem pawn_one(hV:ValidS P)(h:LegM P m)(h6:kindOf (P.bd m.f.toNat)=6)(h':LegM P n){X:List UInt8}
  (hX:(takesI P.bd m.f m.t=true∧X=fB m.f::120::fB m.t::rB m.t::promS m.p)∨(takesI P.bd m.f m.t=false∧X=fB m.t::rB m.t::promS m.p)∨
   (∃y r,X=fB m.f::rB m.f::y::r∧(cls y=5∨cls y=1))∨(∃r,X=120::r))(e:bodyS P n.f n.t n.p=X):n=m:=by
 have hT:=hV.turn;have ho:=h.ok hV;have ho':=h'.ok hV;have hk':=leg_kind hV h';have cf:=sq_cls ho.f;have cf':=sq_cls ho'.f;have ct':=sq_cls ho'.t;have ct:=sq_cls ho.t;have c120:cls 120=5:=by decide
 have c79:cls 79=8:=by decide
 have c61:cls 61=6:=by decide
 have hhead:∀z r,bodyS P n.f n.t n.p=z::r→cls z=1∨cls z=5:=by
  intro z r hz;rw [e] at hz;rcases hX with ⟨_,eX⟩|⟨_,eX⟩|⟨y,r',eX,_⟩|⟨r',eX⟩<;>rw [eX] at hz<;>rw [←(List.cons.inj hz).1]
  · exact Or.inl cf.1
  · exact Or.inl ct.1
  · exact Or.inl cf.1
  exact Or.inr c120
 rcases shape h' with ⟨_,e'⟩|⟨h6',tk',e'⟩|⟨h6',tk',e'⟩|⟨hc',h6',e'⟩
 · exfalso;obtain ⟨r,er⟩:=o_cls (2-castI P.bd n.f n.t);rw [er] at e';have:=hhead _ _ e';omega
 · rw [e'] at e;rcases hX with ⟨tk,eX⟩|⟨tk,eX⟩|⟨y,r',eX,_⟩|⟨r',eX⟩<;>rw [eX] at e
   · simp only [List.cons.injEq,true_and] at e;obtain ⟨e1,e2,e3,e4⟩:=e;have et:=sq_eq ((sq_inj ho'.t ho.t).1 e2) ((sq_inj ho'.t ho.t).2 e3);have w:=(pawn_way hV h h6).1 tk;have w':=(pawn_way hV h' h6').1 tk';exact sm_ext (sq_eq ((sq_inj ho'.f ho.f).1 e1) (by omega)) et (promS_inj ho'.p ho.p e4)
   · simp only [List.cons.injEq] at e;exact (cls_no e.2.1 (by rw [c120,ct.2];decide)).elim
   · simp only [List.cons.injEq] at e;exact (cls_no e.2.1 (by rw [c120,cf.2];decide)).elim
   exact (cls_no (List.cons.inj e).1 (by rw [cf'.1,c120];decide)).elim
 · rw [e'] at e;rcases hX with ⟨tk,eX⟩|⟨tk,eX⟩|⟨y,r',eX,hy⟩|⟨r',eX⟩<;>rw [eX] at e
   · simp only [List.cons.injEq] at e;exact (cls_no e.2.1 (by rw [ct'.2,c120];decide)).elim
   · simp only [List.cons.injEq] at e;obtain ⟨e2,e3,e4⟩:=e;have et:=sq_eq ((sq_inj ho'.t ho.t).1 e2) ((sq_inj ho'.t ho.t).2 e3);have w:=(pawn_way hV h h6).2 tk;have w':=(pawn_way hV h' h6').2 tk';have x0:=h.x0 hV;have x0':=h'.x0 hV;refine sm_ext ?_ et (promS_inj ho'.p ho.p e4);rcases w with w|⟨w,z⟩<;>rcases w' with w'|⟨w',z'⟩
     · omega
     · exfalso;apply x0;rw [←z'];congr 2;omega
     · exfalso;apply x0';rw [←z];congr 2;omega
     omega
   · exfalso;simp only [List.cons.injEq] at e;obtain ⟨_,_,e4⟩:=e;rcases promS_get ho'.p with ⟨_,ep⟩|⟨_,x,ep,_⟩<;>rw [ep] at e4
     · cases e4
     have:=(List.cons.inj e4).1;rw [←this,c61] at hy;omega
   exact (cls_no (List.cons.inj e).1 (by rw [ct'.1,c120];decide)).elim
 exfalso;obtain ⟨y,ey,hy⟩:=letB_get (k:=kindOf (P.bd n.f.toNat)) (by omega);rw [ey] at e';have:=hhead _ _ e';omega
theorem cast_one(hV:ValidS P)(h:LegM P m)(hc:castI P.bd m.f m.t≠0)(h':LegM P n)(e:bodyS P n.f n.t n.p=oooS (2-castI P.bd m.f m.t)):n=m:=by
 have hT:=hV.turn;have ho:=h.ok hV;have ho':=h'.ok hV;have hk':=leg_kind hV h';have cf':=sq_cls ho'.f;have ct':=sq_cls ho'.t;have c79:cls 79=8:=by decide
 obtain ⟨r,er⟩:=o_cls (2-castI P.bd m.f m.t);have k1:∀{x:Sm},castI P.bd x.f x.t≠0→kindOf (P.bd x.f.toNat)=1∧x.t=x.f+(if castI P.bd x.f x.t=1 then 2 else-2):=by
  intro x hx;unfold castI at hx⊢;cases h1:(kindOf (P.bd x.f.toNat) !=(1:Int))<;>rw [h1] at hx
  · rw [bne_eq_false_iff_eq] at h1;cases h2:(x.t-x.f==(2:Int))<;>rw [h2] at hx
    · cases h3:(x.t-x.f==(-2:Int))<;>rw [h3] at hx
      · exact absurd rfl hx
      rw [beq_iff_eq] at h3;exact ⟨h1,by simp;omega⟩
    rw [beq_iff_eq] at h2;exact ⟨h1,by simp;omega⟩
  exact absurd rfl hx
 rcases shape h' with ⟨hc',e'⟩|⟨h6',tk',e'⟩|⟨h6',tk',e'⟩|⟨hc',h6',e'⟩
 · rw [e'] at e;have ec:castI P.bd n.f n.t=castI P.bd m.f m.t:=by
    rcases castI_rng P.bd n.f n.t with a|a|a<;>rcases castI_rng P.bd m.f m.t with b|b|b<;>rw [a,b] at e<;>first|omega|exact absurd a hc'|exact absurd b hc|(exfalso;revert e;decide)
   obtain ⟨q1,q2⟩:=k1 hc;obtain ⟨q1',q2'⟩:=k1 hc';obtain ⟨k,hk,_⟩:=valid_kings hV hT;have u1:=hk.2.2 m.f.toNat (by have:=ho.f;omega) (by rw [leg_bd hV h,q1]);have u2:=hk.2.2 n.f.toNat (by have:=ho'.f;omega) (by rw [leg_bd hV h',q1']);have ef:n.f=m.f:=by have:=ho.f;have:=ho'.f;omega
   exact sm_ext ef (by rw [q2,q2',ec,ef]) ((leg_promo h' (by omega)).trans (leg_promo h (by omega)).symm)
 · rw [e',er] at e;exact (cls_no (List.cons.inj e).1 (by rw [cf'.1,c79];decide)).elim
 · rw [e',er] at e;exact (cls_no (List.cons.inj e).1 (by rw [ct'.1,c79];decide)).elim
 obtain ⟨y,ey,hy⟩:=letB_get (k:=kindOf (P.bd n.f.toNat)) (by omega);rw [e',er,ey] at e;exact (cls_no (List.cons.inj e).1 (by rw [c79];omega)).elim
end
theorem c196{c:GC}{p b:Nat}{vm:Value}{S:Ps}{w:World}(hp:At w p (.cells (psCells b vm S) 110 (0,0))){B:Bd}(hb:At w b (.cells (bdCells B) 135 (0,0)))(hG:Glob c w)(hpre:MvPre B S)(hbase:c.base≤p)(hca:Cache w vm B S)
  (l:List UInt8)(q:Parts)(hz:zzR l=some q)(hl:l.length≤100000)(hs:Short q)(hd:∀M∈allL B S,DecOk B S M)(hex:∃M∈allL B S,hitT B S q M=true):
  Calls Tryz.prog 196 [.agg #[],pz p,.string (bstr l)].toArray w (fun e w'=>∃t M,e=.returned (.tuple #[pz t,.nilIface])∧Mod [p] w w'∧At w' t (.cells (mvCells (.pointer none) M) 98 (0,0))∧M∈allL B S∧hitT B S q M=true):=by
 refine enter (n:=14) Tryz.func196 rfl Tryz.ntmps196 rfl ?_;refine zw ?_;refine reg_alloc #[] 90 (some 3) (by kernel_rfl) fun b0 w1 hn1=>?_;refine yS 2 ?_;refine zx ?_;refine yS 3 ?_;refine zC (some 11) (c175 (hp.on hn1.mod) (hb.on hn1.mod) (Glob.on hG hn1.mod) hpre hbase (Cache.on hca hn1.mod) l q hz hl hs hd hex) ?_;rintro _ w2 ⟨t,M,rfl,hm,ht,hM,hh⟩;refine ⟨_,rfl,?_⟩;refine yS 4 ?_;refine zz ?_;exact w_ret (ret2 Tryz.results196 rfl rfl ⟨t,M,rfl,Mod.fresh' (Mod.of_nil hn1.mod) hm (by simp),ht,hM,hh⟩)
set_option maxHeartbeats 2000000 in
theorem c15l{c:GC}{w:World}(P:SP)(hG:Glob c w)(hP:SPok P)(hpre:MvPre (boardOf P.bd) (psOf P))(x y z:Int)(hex:∃i,i<(allL (boardOf P.bd) (psOf P)).length∧eqM (mvAt (allL (boardOf P.bd) (psOf P)) i) x y z=true)(hr:∀M∈(allL (boardOf P.bd) (psOf P)),MvOk M)(hd:∀M∈(allL (boardOf P.bd) (psOf P)),DecOk (boardOf P.bd) (psOf P) M):
  Calls Tryz.prog 15 [.int .i64 (1:Int),.agg (spCells P),.agg #[.int .i64 x,.int .i64 y,.int .i64 z]].toArray w (fun e w'=>∃M∈(allL (boardOf P.bd) (psOf P)),eqM M x y z=true∧e=.returned (.tuple #[.string (bstr (lanI (boardOf P.bd) (psOf P) M)),.bool true])∧Mod [] w w'):=by
 have hm0:Mod [] w w:=Mod.refl _ _;have hGs:=hG.size;refine enterD (n:=22) Tryz.func15 rfl Tryz.ntmps15 rfl ?_;refine w_seq ?_;refine w_region ?_;refine zA (spCells P) 24 (some 4) ?_;intro b1 w2 hn3;have hb4:c.base≤b1:=Glob.lt hG hn3;have hb5:=Nat.le_trans hm0.size hn3.base;have hm6:=hn3.mod;have hm8:=Mod.trans hm0 (Mod.of_nil hm6);refine zA (#[.int .i64 x,.int .i64 y,.int .i64 z]) 30 (some 5) ?_;intro b10 w11 hn12;have hb13:c.base≤b10:=Glob.lt (yG w2) hn12;have hb14:=Nat.le_trans hm8.size hn12.base;have hm15:=hn12.mod;have hm18:=Mod.trans hm8 (Mod.of_nil hm15);refine zA (#[.string (⟨#[]⟩)]) 9 (some 6) ?_;intro b20 w21 hn22;have hb23:c.base≤b20:=Glob.lt (yG w11) hn22;have hb24:=Nat.le_trans hm18.size hn22.base;have hm25:=hn22.mod;have hm29:=Mod.trans hm18 (Mod.of_nil hm25);refine zA (#[.bool false]) 4 (some 7) ?_;intro b31 w32 hn33;have hb34:c.base≤b31:=Glob.lt (yG w21) hn33;have hb35:=Nat.le_trans hm29.size hn33.base;have hm36:=hn33.mod;have hm41:=Mod.trans hm29 (Mod.of_nil hm36);refine zz ?_;refine w_seq ?_;refine w_region ?_;refine reg_run (v:=.func (.func 26) #[] #[.pointer (some ⟨b20,0,none⟩),.pointer (some ⟨b31,0,none⟩)]) (w':=w32) rfl rfl rfl (by kernel_rfl) (.inl (by kernel_rfl)) ?_;refine reg_defer (def26 (.pointer (some ⟨b20,0,none⟩)) (.pointer (some ⟨b31,0,none⟩))) rfl rfl rfl (by kernel_rfl) (by kernel_rfl) ?_;refine zz ?_;refine w_seq ?_;refine w_region ?_;refine yV 1 [.row ⟨b1,0,none⟩ 69 (spCells P)] [.agg (spCells P)] (At.row ya (spCells_size P)) ?_;refine zC (some 11) (c27 P yg hP) ?_;rintro _ w43 ⟨p45,b46,rfl,hm44,hf47,hf48,hb49,hb50⟩;refine ⟨_,rfl,?_⟩;have hb51:=Nat.le_trans hm41.size hb49;have hm57:=Mod.trans hm41 (Mod.of_nil hm44);refine yS 1 ?_;refine zz ?_;refine w_seq ?_;refine a_start (f:=12) (by kernel_rfl) (by kernel_rfl) fun w58 hm59=>?_;have hf60:=At.on (yA w43 b1) hm59;have hf61:=At.on (yA w43 b10) hm59;have hf62:=At.on (yA w43 b20) hm59;have hf63:=At.on (yA w43 b31) hm59;have hf64:=At.on hf47 hm59;have hf65:=At.on hf48 hm59;have hG66:=Glob.on (yG w43) hm59;have hm67:=Mod.trans hm57 (Mod.of_nil hm59);refine a_take 0 (.int .i64 (1:Int)) (some 12) [] [] (by kernel_rfl) (by kernel_rfl) trivial ?_;refine a_take 2 (.pointer (some ⟨p45,0,none⟩)) (some 14) [] [] (by kernel_rfl) (by kernel_rfl) trivial ?_;refine a_take 3 (.pointer (some ⟨p45,0,none⟩)) (some 15) [] [] (by kernel_rfl) (by kernel_rfl) trivial ?_;refine a_both 1 4 28 [.int .i64 (1:Int)] (some 13) (by kernel_rfl) (.agg (#[.int .i64 x,.int .i64 y,.int .i64 z])) (some 16) [.row ⟨b10,0,none⟩ 3 (#[.int .i64 x,.int .i64 y,.int .i64 z])] [.agg (#[.int .i64 x,.int .i64 y,.int .i64 z])] (by kernel_rfl) (by kernel_rfl) (c28_1) (At.row hf61 rfl) ?_ ?_
 ·skip
  rintro _ w68 ⟨rfl,hm69⟩;refine ⟨_,rfl,?_⟩;have hf74:=At.on hf64 hm69;have hf75:=At.on hf65 hm69;have hm77:=Mod.trans hm67 (Mod.of_nil hm69);refine a_takeR 6 (.func (.method "Encode") #[.iface 90 (.agg #[])] #[]) rfl rfl rfl (by kernel_rfl) (fun _=>by kernel_rfl) (by kernel_rfl) ?_;refine a_takeR 7 (.func (.method "Encode") #[.iface 90 (.agg #[])] #[]) rfl rfl rfl (by kernel_rfl) (fun _=>by kernel_rfl) (by kernel_rfl) ?_;refine a_take 8 (.iface 90 (.agg #[])) (some 20) [] [] (by kernel_rfl) (by kernel_rfl) trivial ?_;refine a_one 4 (.agg (#[.int .i64 x,.int .i64 y,.int .i64 z])) (some 16) [.row ⟨b10,0,none⟩ 3 (#[.int .i64 x,.int .i64 y,.int .i64 z])] [.agg (#[.int .i64 x,.int .i64 y,.int .i64 z])] (by kernel_rfl) (by kernel_rfl) (At.row ya rfl) ?_;refine a_call 5 29 [.pointer (some ⟨p45,0,none⟩),.agg (#[.int .i64 x,.int .i64 y,.int .i64 z])] (some 17) (by kernel_rfl) (by kernel_rfl) (c29 (S:=psOf P) hf74 hf75 yg hpre (by have:=hG.size;omega) (.inl rfl) x y z hex hr) ?_;rintro _ w78 ⟨q80,M81,vm82,rfl,hm79,hf83,hca84,hf85,hb86,hin87,heq88⟩;refine ⟨_,rfl,?_⟩;have hb89:=Nat.le_trans hm77.size hb86;have hf94:=At.keep hf75 hm79 (not_mem1 (At.ne hf75 hf74 rfl));have hG95:=Glob.keep (yG w68) hm79 (by simp<;>omega);have hm96:=Mod.fresh' hm77 hm79 (by simp<;>omega);obtain ⟨gc97,cc98,rfl,hoc99⟩:=hca84;refine a_enter 9 197 [.agg #[],.pointer (some ⟨p45,0,none⟩),.pointer (some ⟨q80,0,none⟩)] rfl rfl rfl (by kernel_rfl) (by kernel_rfl) (by kernel_rfl) (c197 hf83 hoc99 hf94 hf85 hG95 (by have:=allL_len hpre;omega) (List.length_pos_of_mem hin87) (hd M81 hin87).up) ?_;rintro _ w100 ⟨rfl,hm101⟩;refine ⟨_,rfl,?_⟩;have hf105:=At.on (yA w78 b31) hm101;have hm110:=Mod.trans hm96 (Mod.of_nil hm101);refine a_tail 10 (by kernel_rfl) (by kernel_rfl) ?_;refine zS b20 0 (.string (bstr (lanI (boardOf P.bd) (psOf P) M81))) ?_;intro w111 hu112;have hf113:At w111 b20 (.cells (#[.string (bstr (lanI (boardOf P.bd) (psOf P) M81))]) 9 (0,0)):=hu112.at_;have hf116:=At.keep hf105 hu112.mod (not_mem1 (At.ne hf105 (yA w100 b20) rfl));have hm121:=Mod.fresh' hm110 hu112.mod (by simp<;>omega);refine zS b31 0 (.bool true) ?_;intro w122 hu123;have hf124:At w122 b31 (.cells (#[.bool true]) 4 (0,0)):=hu123.at_;have hf130:=At.keep hf113 hu123.mod (not_mem1 (At.ne hf113 hf116 rfl));have hm132:=Mod.fresh' hm121 hu123.mod (by simp<;>omega);refine ze ?_;refine only_n ?_;refine n_then ?_;refine w_ret ?_;exact retD26 Tryz.results15 rfl rfl (by kernel_rfl) (by kernel_rfl) (At.cell (j:=0) hf130 rfl) (At.cell (j:=0) hf124 rfl) ⟨M81,hin87,heq88,rfl,hm132⟩
 ·skip
  refine a_call 1 28 [.int .i64 (1:Int)] (some 13) (by kernel_rfl) (by kernel_rfl) (c28_1) ?_;rintro _ w133 ⟨rfl,hm134⟩;refine ⟨_,rfl,?_⟩;have hf135:=At.on hf60 hm134;have hf136:=At.on hf61 hm134;have hf137:=At.on hf62 hm134;have hf138:=At.on hf63 hm134;have hf139:=At.on hf64 hm134;have hf140:=At.on hf65 hm134;have hG141:=Glob.on hG66 hm134;have hm142:=Mod.trans hm67 (Mod.of_nil hm134);refine a_takeR 6 (.func (.method "Encode") #[.iface 90 (.agg #[])] #[]) rfl rfl rfl (by kernel_rfl) (fun _=>by kernel_rfl) (by kernel_rfl) ?_;refine a_takeR 7 (.func (.method "Encode") #[.iface 90 (.agg #[])] #[]) rfl rfl rfl (by kernel_rfl) (fun _=>by kernel_rfl) (by kernel_rfl) ?_;refine a_take 8 (.iface 90 (.agg #[])) (some 20) [] [] (by kernel_rfl) (by kernel_rfl) trivial ?_;refine a_call 5 29 [.pointer (some ⟨p45,0,none⟩),.agg (#[.int .i64 x,.int .i64 y,.int .i64 z])] (some 17) (by kernel_rfl) (by kernel_rfl) (c29 (S:=psOf P) hf139 hf140 hG141 hpre (by have:=hG.size;omega) (.inl rfl) x y z hex hr) ?_;rintro _ w143 ⟨q145,M146,vm147,rfl,hm144,hf148,hca149,hf150,hb151,hin152,heq153⟩;refine ⟨_,rfl,?_⟩;have hb154:=Nat.le_trans hm142.size hb151;have hf155:=At.keep hf135 hm144 (not_mem1 (At.ne hf135 hf139 rfl));have hf156:=At.keep hf136 hm144 (not_mem1 (At.ne hf136 hf139 rfl));have hf157:=At.keep hf137 hm144 (not_mem1 (At.ne hf137 hf139 rfl));have hf158:=At.keep hf138 hm144 (not_mem1 (At.ne hf138 hf139 rfl));have hf159:=At.keep hf140 hm144 (not_mem1 (At.ne hf140 hf139 rfl));have hG160:=Glob.keep hG141 hm144 (by simp<;>omega);have hm161:=Mod.fresh' hm142 hm144 (by simp<;>omega);obtain ⟨gc162,cc163,rfl,hoc164⟩:=hca149;refine a_enter 9 197 [.agg #[],.pointer (some ⟨p45,0,none⟩),.pointer (some ⟨q145,0,none⟩)] rfl rfl rfl (by kernel_rfl) (by kernel_rfl) (by kernel_rfl) (c197 hf148 hoc164 hf159 hf150 hG160 (by have:=allL_len hpre;omega) (List.length_pos_of_mem hin152) (hd M146 hin152).up) ?_;rintro _ w165 ⟨rfl,hm166⟩;refine ⟨_,rfl,?_⟩;have hf167:=At.on hf155 hm166;have hf168:=At.on hf156 hm166;have hf169:=At.on hf157 hm166;have hf170:=At.on hf158 hm166;have hf171:=At.on hf159 hm166;have hf172:=At.on hf148 hm166;have hf173:=At.on hf150 hm166;have hG174:=Glob.on hG160 hm166;have hm175:=Mod.trans hm161 (Mod.of_nil hm166);refine a_tail 10 (by kernel_rfl) (by kernel_rfl) ?_;refine zS b20 0 (.string (bstr (lanI (boardOf P.bd) (psOf P) M146))) ?_;intro w176 hu177;have hf178:At w176 b20 (.cells (#[.string (bstr (lanI (boardOf P.bd) (psOf P) M146))]) 9 (0,0)):=hu177.at_;have hf179:=At.keep hf167 hu177.mod (not_mem1 (At.ne hf167 hf169 rfl));have hf180:=At.keep hf168 hu177.mod (not_mem1 (At.ne hf168 hf169 rfl));have hf181:=At.keep hf170 hu177.mod (not_mem1 (At.ne hf170 hf169 rfl));have hf182:=At.keep hf171 hu177.mod (not_mem1 (At.ne hf171 hf169 rfl));have hf183:=At.keep hf172 hu177.mod (not_mem1 (At.ne hf172 hf169 rfl));have hf184:=At.keep hf173 hu177.mod (not_mem1 (At.ne hf173 hf169 rfl));have hG185:=Glob.keep hG174 hu177.mod (by simp<;>omega);have hm186:=Mod.fresh' hm175 hu177.mod (by simp<;>omega)
  refine zS b31 0 (.bool true) ?_;intro w187 hu188;have hf189:At w187 b31 (.cells (#[.bool true]) 4 (0,0)):=hu188.at_;have hf190:=At.keep hf179 hu188.mod (not_mem1 (At.ne hf179 hf181 rfl));have hf191:=At.keep hf180 hu188.mod (not_mem1 (At.ne hf180 hf181 rfl));have hf192:=At.keep hf182 hu188.mod (not_mem1 (At.ne hf182 hf181 rfl));have hf193:=At.keep hf183 hu188.mod (not_mem1 (At.ne hf183 hf181 rfl));have hf194:=At.keep hf184 hu188.mod (not_mem1 (At.ne hf184 hf181 rfl));have hf195:=At.keep hf178 hu188.mod (not_mem1 (At.ne hf178 hf181 rfl));have hG196:=Glob.keep hG185 hu188.mod (by simp<;>omega);have hm197:=Mod.fresh' hm186 hu188.mod (by simp<;>omega);refine ze ?_;refine only_n ?_;refine n_then ?_;refine w_ret ?_;exact retD26 Tryz.results15 rfl rfl (by kernel_rfl) (by kernel_rfl) (At.cell (j:=0) hf195 rfl) (At.cell (j:=0) hf189 rfl) ⟨M146,hin152,heq153,rfl,hm197⟩
set_option maxHeartbeats 2000000 in
theorem c16l{c:GC}{w:World}(P:SP)(hG:Glob c w)(hP:SPok P)(hpre:MvPre (boardOf P.bd) (psOf P))(l:List UInt8)(q:Parts)(hz:zzR l=some q)(hl:l.length≤100000)(hs:Short q)(hr:∀M∈(allL (boardOf P.bd) (psOf P)),MvOk M)(hd:∀M∈(allL (boardOf P.bd) (psOf P)),DecOk (boardOf P.bd) (psOf P) M)(hex:∃M∈(allL (boardOf P.bd) (psOf P)),hitT (boardOf P.bd) (psOf P) q M=true):
  Calls Tryz.prog 16 [.int .i64 (1:Int),.agg (spCells P),.string (bstr l)].toArray w (fun e w'=>∃M t,M∈(allL (boardOf P.bd) (psOf P))∧hitT (boardOf P.bd) (psOf P) q M=true∧e=.returned (.tuple #[.agg #[.int .i64 M.s1,.int .i64 M.s2,.int .i64 M.promo],.int .i64 t,.bool true])∧Mod [] w w'):=by
 have hm0:Mod [] w w:=Mod.refl _ _;refine enterD (n:=32) Tryz.func16 rfl Tryz.ntmps16 rfl ?_;refine w_seq ?_;refine w_region ?_;refine zA (spCells P) 24 (some 4) ?_;intro b1 w2 hn3;have hm6:=hn3.mod;have hm8:=Mod.trans hm0 (Mod.of_nil hm6);refine zA (#[.int .i64 (0:Int),.int .i64 (0:Int),.int .i64 (0:Int)]) 30 (some 6) ?_;intro b10 w11 hn12;have hb14:=Nat.le_trans hm8.size hn12.base;have hm15:=hn12.mod;have hG17:=Glob.on (yG w2) hm15;have hm18:=Mod.trans hm8 (Mod.of_nil hm15);refine zA (#[.int .i64 (0:Int)]) 3 (some 7) ?_;intro b20 w21 hn22;have hb23:c.base≤b20:=Glob.lt hG17 hn22;have hb24:=Nat.le_trans hm18.size hn22.base;have hm25:=hn22.mod;have hm29:=Mod.trans hm18 (Mod.of_nil hm25);refine zA (#[.bool false]) 4 (some 8) ?_;intro b31 w32 hn33;have hb34:c.base≤b31:=Glob.lt (yG w21) hn33;have hb35:=Nat.le_trans hm29.size hn33.base;have hm36:=hn33.mod;have hm41:=Mod.trans hm29 (Mod.of_nil hm36);refine zz ?_;refine w_seq ?_;refine w_region ?_;refine reg_run (v:=.func (.func 30) #[] #[.pointer (some ⟨b10,0,none⟩),.pointer (some ⟨b20,0,none⟩),.pointer (some ⟨b31,0,none⟩)]) (w':=w32) rfl rfl rfl (by kernel_rfl) (.inl (by kernel_rfl)) ?_;refine reg_defer (def30 (.pointer (some ⟨b10,0,none⟩)) (.pointer (some ⟨b20,0,none⟩)) (.pointer (some ⟨b31,0,none⟩))) rfl rfl rfl (by kernel_rfl) (by kernel_rfl) ?_;refine zz ?_;refine w_seq ?_;refine a_start (f:=14) (by kernel_rfl) (by kernel_rfl) fun w43 hm44=>?_;have hm50:=Mod.trans hm41 (Mod.of_nil hm44);refine a_take 0 (.int .i64 (1:Int)) (some 13) [] [] (by kernel_rfl) (by kernel_rfl) trivial ?_;refine a_take 4 (.string (bstr l)) (some 17) [] [] (by kernel_rfl) (by kernel_rfl) trivial ?_;refine a_both 1 2 28 [.int .i64 (1:Int)] (some 14) (by kernel_rfl) (.agg (spCells P)) (some 15) [.row ⟨b1,0,none⟩ 69 (spCells P)] [.agg (spCells P)] (by kernel_rfl) (by kernel_rfl) (c28_1) (At.row ya (spCells_size P)) ?_ ?_
 ·skip
  rintro _ w51 ⟨rfl,hm52⟩;refine ⟨_,rfl,?_⟩;have hm58:=Mod.trans hm50 (Mod.of_nil hm52);refine a_takeR 5 (.func (.method "Decode") #[.iface 90 (.agg #[])] #[]) rfl rfl rfl (by kernel_rfl) (fun _=>by kernel_rfl) (by kernel_rfl) ?_;refine a_takeR 6 (.func (.method "Decode") #[.iface 90 (.agg #[])] #[]) rfl rfl rfl (by kernel_rfl) (fun _=>by kernel_rfl) (by kernel_rfl) ?_;refine a_take 7 (.iface 90 (.agg #[])) (some 20) [] [] (by kernel_rfl) (by kernel_rfl) trivial ?_;refine a_one 2 (.agg (spCells P)) (some 15) [.row ⟨b1,0,none⟩ 69 (spCells P)] [.agg (spCells P)] (by kernel_rfl) (by kernel_rfl) (At.row ya (spCells_size P)) ?_;refine a_call 3 27 [.agg (spCells P)] (some 16) (by kernel_rfl) (by kernel_rfl) (c27 P yg hP) ?_;rintro _ w59 ⟨p61,b62,rfl,hm60,hf63,hf64,hb65,hb66⟩;refine ⟨_,rfl,?_⟩;have hb67:=Nat.le_trans hm58.size hb65;have hm73:=Mod.trans hm58 (Mod.of_nil hm60);refine a_enter 8 196 [.agg #[],.pointer (some ⟨p61,0,none⟩),.string (bstr l)] rfl rfl rfl (by kernel_rfl) (by kernel_rfl) (by kernel_rfl) (c196 (S:=psOf P) hf63 hf64 yg hpre (by have:=hG.size;omega) (.inl rfl) l q hz hl hs hd hex) ?_;rintro _ w76 ⟨t74,M75,rfl,hm77,hf78,hin79,hh80⟩;refine ⟨_,rfl,?_⟩;have hm87:=Mod.fresh' hm73 hm77 (by simp<;>omega);refine a_take 9 (.tuple #[.pointer (some ⟨t74,0,none⟩),.nilIface]) (some 12) [] [] (by kernel_rfl) (by kernel_rfl) trivial ?_;refine a_take 10 (.pointer (some ⟨t74,0,none⟩)) (some 22) [] [] (by kernel_rfl) (by kernel_rfl) trivial ?_;refine a_take 11 (.nilIface) (some 23) [] [] (by kernel_rfl) (by kernel_rfl) trivial ?_;refine a_take 12 (.pointer (some ⟨t74,0,none⟩)) (some 9) [] [] (by kernel_rfl) (by kernel_rfl) trivial ?_;refine a_take 13 (.nilIface) (some 10) [] [] (by kernel_rfl) (by kernel_rfl) trivial ?_;refine a_done (by kernel_rfl) ?_;refine n_then ?_;refine w_seq ?_;refine w_seq ?_;refine w_region ?_;refine yS 1 ?_;refine reg_run (v:=.bool false) (w':=w76) rfl rfl rfl (by kernel_rfl) (.inl (by kernel_rfl)) ?_;refine zz ?_;refine yF ?_;refine w_skip ?_;refine n_then ?_;refine w_seq ?_;refine w_region ?_;refine yS 1 ?_;refine zk (some 28) (c31 (M:=M75) hf78 (hr M75 hin79)) ?_;intro w88 hm89;have hf95:=At.on hf78 hm89;have hm97:=Mod.trans hm87 (Mod.of_nil hm89);refine yS 1 ?_;refine zk (some 30) (c32 hf95) ?_;intro w98 hm99;have hm107:=Mod.trans hm97 (Mod.of_nil hm99);refine yS 1 ?_;refine zS b10 0 (.agg (#[.int .i64 M75.s1,.int .i64 M75.s2,.int .i64 M75.promo])) ?_;intro w108 hu109;have hm117:=Mod.fresh' hm107 hu109.mod (by simp<;>omega);refine zS b20 0 (.int .i64 (IntKind.i64.wrap M75.tags)) ?_;intro w118 hu119;have hm127:=Mod.fresh' hm117 hu119.mod (by simp<;>omega);refine zS b31 0 (.bool true) ?_;intro w128 hu129;have hf130:At w128 b31 (.cells (#[.bool true]) 4 (0,0)):=hu129.at_;have hf134:=At.keep (yA w118 b10) hu129.mod (not_mem1 (At.ne (yA w118 b10) (yA w118 b31) rfl));have hf135:=At.keep (yA w118 b20) hu129.mod (not_mem1 (At.ne (yA w118 b20) (yA w118 b31) rfl));have hm137:=Mod.fresh' hm127 hu129.mod (by simp<;>omega);refine zz ?_
  refine w_ret ?_;exact retD30 Tryz.results16 rfl rfl rfl (by kernel_rfl) (by kernel_rfl) (by kernel_rfl) (by kernel_rfl) (At.row hf134 rfl) (At.cell (j:=0) hf135 rfl) (At.cell (j:=0) hf130 rfl) ⟨M75,_,hin79,hh80,rfl,hm137⟩
 ·skip
  refine a_call 1 28 [.int .i64 (1:Int)] (some 14) (by kernel_rfl) (by kernel_rfl) (c28_1) ?_;rintro _ w138 ⟨rfl,hm139⟩;refine ⟨_,rfl,?_⟩;have hm145:=Mod.trans hm50 (Mod.of_nil hm139);refine a_takeR 5 (.func (.method "Decode") #[.iface 90 (.agg #[])] #[]) rfl rfl rfl (by kernel_rfl) (fun _=>by kernel_rfl) (by kernel_rfl) ?_;refine a_takeR 6 (.func (.method "Decode") #[.iface 90 (.agg #[])] #[]) rfl rfl rfl (by kernel_rfl) (fun _=>by kernel_rfl) (by kernel_rfl) ?_;refine a_take 7 (.iface 90 (.agg #[])) (some 20) [] [] (by kernel_rfl) (by kernel_rfl) trivial ?_;refine a_call 3 27 [.agg (spCells P)] (some 16) (by kernel_rfl) (by kernel_rfl) (c27 P yg hP) ?_;rintro _ w146 ⟨p148,b149,rfl,hm147,hf150,hf151,hb152,hb153⟩;refine ⟨_,rfl,?_⟩;have hb154:=Nat.le_trans hm145.size hb152;have hf156:=At.on (yA w138 b10) hm147;have hf157:=At.on (yA w138 b20) hm147;have hf158:=At.on (yA w138 b31) hm147;have hG159:=Glob.on (yG w138) hm147;have hm160:=Mod.trans hm145 (Mod.of_nil hm147);refine a_enter 8 196 [.agg #[],.pointer (some ⟨p148,0,none⟩),.string (bstr l)] rfl rfl rfl (by kernel_rfl) (by kernel_rfl) (by kernel_rfl) (c196 (S:=psOf P) hf150 hf151 hG159 hpre (by have:=hG.size;omega) (.inl rfl) l q hz hl hs hd hex) ?_;rintro _ w163 ⟨t161,M162,rfl,hm164,hf165,hin166,hh167⟩;refine ⟨_,rfl,?_⟩;have hf169:=At.keep hf156 hm164 (not_mem1 (At.ne hf156 hf150 rfl));have hf170:=At.keep hf157 hm164 (not_mem1 (At.ne hf157 hf150 rfl));have hf171:=At.keep hf158 hm164 (not_mem1 (At.ne hf158 hf150 rfl));have hm174:=Mod.fresh' hm160 hm164 (by simp<;>omega);refine a_take 9 (.tuple #[.pointer (some ⟨t161,0,none⟩),.nilIface]) (some 12) [] [] (by kernel_rfl) (by kernel_rfl) trivial ?_;refine a_take 10 (.pointer (some ⟨t161,0,none⟩)) (some 22) [] [] (by kernel_rfl) (by kernel_rfl) trivial ?_;refine a_take 11 (.nilIface) (some 23) [] [] (by kernel_rfl) (by kernel_rfl) trivial ?_;refine a_take 12 (.pointer (some ⟨t161,0,none⟩)) (some 9) [] [] (by kernel_rfl) (by kernel_rfl) trivial ?_;refine a_take 13 (.nilIface) (some 10) [] [] (by kernel_rfl) (by kernel_rfl) trivial ?_;refine a_done (by kernel_rfl) ?_;refine n_then ?_;refine w_seq ?_;refine w_seq ?_;refine w_region ?_;refine yS 1 ?_;refine reg_run (v:=.bool false) (w':=w163) rfl rfl rfl (by kernel_rfl) (.inl (by kernel_rfl)) ?_;refine zz ?_;refine yF ?_;refine w_skip ?_;refine n_then ?_;refine w_seq ?_;refine w_region ?_;refine yS 1 ?_;refine zk (some 28) (c31 (M:=M162) hf165 (hr M162 hin166)) ?_;intro w175 hm176;have hf178:=At.on hf169 hm176;have hf179:=At.on hf170 hm176;have hf180:=At.on hf171 hm176;have hf182:=At.on hf165 hm176;have hm184:=Mod.trans hm174 (Mod.of_nil hm176);refine yS 1 ?_;refine zk (some 30) (c32 hf182) ?_;intro w185 hm186;have hf188:=At.on hf178 hm186;have hf189:=At.on hf179 hm186;have hf190:=At.on hf180 hm186;have hm194:=Mod.trans hm184 (Mod.of_nil hm186);refine yS 1 ?_;refine zS b10 0 (.agg (#[.int .i64 M162.s1,.int .i64 M162.s2,.int .i64 M162.promo])) ?_;intro w195 hu196;have hf197:At w195 b10 (.cells (#[.int .i64 M162.s1,.int .i64 M162.s2,.int .i64 M162.promo]) 30 (0,0)):=hu196.at_
  have hf199:=At.keep hf189 hu196.mod (not_mem1 (At.ne hf189 hf188 rfl));have hf200:=At.keep hf190 hu196.mod (not_mem1 (At.ne hf190 hf188 rfl));have hm204:=Mod.fresh' hm194 hu196.mod (by simp<;>omega);refine zS b20 0 (.int .i64 (IntKind.i64.wrap M162.tags)) ?_;intro w205 hu206;have hf207:At w205 b20 (.cells (#[.int .i64 (IntKind.i64.wrap M162.tags)]) 3 (0,0)):=hu206.at_;have hf209:=At.keep hf200 hu206.mod (not_mem1 (At.ne hf200 hf199 rfl));have hf212:=At.keep hf197 hu206.mod (not_mem1 (At.ne hf197 hf199 rfl));have hm214:=Mod.fresh' hm204 hu206.mod (by simp<;>omega);refine zS b31 0 (.bool true) ?_;intro w215 hu216;have hf217:At w215 b31 (.cells (#[.bool true]) 4 (0,0)):=hu216.at_;have hf221:=At.keep hf212 hu216.mod (not_mem1 (At.ne hf212 hf209 rfl));have hf222:=At.keep hf207 hu216.mod (not_mem1 (At.ne hf207 hf209 rfl));have hm224:=Mod.fresh' hm214 hu216.mod (by simp<;>omega);refine zz ?_;refine w_ret ?_;exact retD30 Tryz.results16 rfl rfl rfl (by kernel_rfl) (by kernel_rfl) (by kernel_rfl) (by kernel_rfl) (At.row hf221 rfl) (At.cell (j:=0) hf222 rfl) (At.cell (j:=0) hf217 rfl) ⟨M162,_,hin166,hh167,rfl,hm224⟩
section
variable{P:SP}{m n:Sm}{M N:Mv}
theorem cons_ne(x:UInt8)(l:List UInt8):((x::l) !=[])=true:=rfl
theorem opts_a{q:Parts}(ha:q.a≠[]):optsP q=[q.a++q.d++q.e++q.f++q.g++q.h,q.a++q.c++q.d++q.e++q.f++q.g++q.h,q.a++q.b++q.d++q.e++q.f++q.g++q.h]:=by
 unfold optsP;rw [bne_iff_ne.2 ha];rfl
theorem opts_p{q:Parts}(ha:q.a=[]):optsP q=(bif q.d !=[] then [q.b++q.d++q.e++q.f++q.g] else [])++(bif (q.b !=[])&&(q.c !=[]) then [q.d++q.e++q.f++q.g] else []):=by
 unfold optsP;rw [ha];rfl
theorem hit_iff(hV:ValidS P)(hn:LegM P n)(hT:TagM P n N)(q:Parts):hitT (boardOf P.bd) (psOf P) q N=true↔cleanP q=bodyS P n.f n.t n.p∨bodyS P n.f n.t n.p∈optsP q:=by
 unfold hitT;rw [(decOk hV hn hT).2,Bool.or_eq_true,beq_iff_eq,List.any_eq_true];constructor
 · rintro (h|⟨x,hx,he⟩)
   · exact Or.inl h
   rw [beq_iff_eq] at he;exact Or.inr (he▸hx)
 rintro (h|h)
 · exact Or.inl h
 exact Or.inr ⟨_,h,beq_self_eq_true _⟩
theorem letB_ne(hV:ValidS P)(h:LegM P m)(h6:kindOf (P.bd m.f.toNat)≠6):letB (kindOf (P.bd m.f.toNat))≠[]:=by
 have hk:=leg_kind hV h;obtain ⟨x,ex,_⟩:=letB_get (k:=kindOf (P.bd m.f.toNat)) (by omega);rw [ex];simp
theorem apF_or(P:SP)(f t:Int):apF P f t=[]∨apF P f t=[fB f]:=by unfold apF;cases (legAny P (othS P.bd f t)&&(!(legAny P (filS P.bd f t))||legAny P (rnkS P.bd f t)))<;>simp
theorem apR_or(P:SP)(f t:Int):apR P f t=[]∨apR P f t=[rB f]:=by unfold apR;cases (legAny P (othS P.bd f t)&&legAny P (filS P.bd f t))<;>simp
theorem one_lan(hV:ValidS P)(h:LegM P m)(h':LegM P n)(e:cleanP (lanQ P m)=bodyS P n.f n.t n.p∨bodyS P n.f n.t n.p∈optsP (lanQ P m)):n=m:=by
 have ct:=sq_cls (h.ok hV).t;by_cases hc:castI P.bd m.f m.t=0
 · have eq:lanQ P m=⟨letB (kindOf (P.bd m.f.toNat)),[fB m.f],[rB m.f],takT P.bd m.f m.t,[fB m.t],[rB m.t],promS m.p,[]⟩:=by unfold lanQ;rw [if_neg (fun hh=>hh hc)]
   by_cases h6:kindOf (P.bd m.f.toNat)=6
   · refine pawn_one hV h h6 h' (X:=bodyS P n.f n.t n.p) ?_ rfl;rw [eq,h6,opts_p rfl] at e;unfold cleanP takT at e;rw [show letB 6=[] from rfl] at e;cases ht:takesI P.bd m.f m.t<;>rw [ht] at e<;>simp [cons_ne] at e
     · rcases e with e|e
       · exact Or.inr (Or.inr (Or.inl ⟨_,_,e.symm,Or.inr ct.1⟩))
       exact Or.inr (Or.inl ⟨rfl,e⟩)
     rcases e with e|e|e
     · exact Or.inr (Or.inr (Or.inl ⟨_,_,e.symm,Or.inl (by decide)⟩))
     · exact Or.inl ⟨rfl,e⟩
     exact Or.inr (Or.inr (Or.inr ⟨_,e⟩))
   rw [eq,leg_promo h h6,opts_a (letB_ne hV h h6)] at e;unfold cleanP at e;rw [show promS 0=[] from rfl] at e;simp only [List.mem_cons,List.not_mem_nil,or_false] at e;rcases e with e|e|e|e
   · exact piece_one hV h h6 h' (Or.inr rfl) (Or.inr rfl) (by rw [←e];simp)
   · exact piece_one hV h h6 h' (Or.inl rfl) (Or.inl rfl) (by rw [e];simp)
   · exact piece_one hV h h6 h' (Or.inl rfl) (Or.inr rfl) (by rw [e];simp)
   exact piece_one hV h h6 h' (Or.inr rfl) (Or.inl rfl) (by rw [e];simp)
 refine cast_one hV h hc h' ?_;have eq:lanQ P m=castP (oooS (2-castI P.bd m.f m.t)):=by unfold lanQ;rw [if_pos hc]
 rw [eq] at e;rcases e with e|e
 · exact e.symm
 cases e
theorem self_lan(hV:ValidS P)(h:LegM P m):cleanP (lanQ P m)=bodyS P m.f m.t m.p∨bodyS P m.f m.t m.p∈optsP (lanQ P m):=by
 by_cases hc:castI P.bd m.f m.t=0
 · have eq:lanQ P m=⟨letB (kindOf (P.bd m.f.toNat)),[fB m.f],[rB m.f],takT P.bd m.f m.t,[fB m.t],[rB m.t],promS m.p,[]⟩:=by unfold lanQ;rw [if_neg (fun hh=>hh hc)]
   rcases shape h with ⟨hc',_⟩|⟨h6,tk,e'⟩|⟨h6,tk,e'⟩|⟨_,h6,e'⟩
   · exact absurd hc hc'
   · right;rw [eq,h6,opts_p rfl,e'];unfold takT;rw [tk];simp [cons_ne]
   · right;rw [eq,h6,opts_p rfl,e'];unfold takT;rw [tk];simp [cons_ne]
   rw [e',eq,leg_promo h h6,opts_a (letB_ne hV h h6)];unfold cleanP;rw [show promS 0=[] from rfl];rcases apF_or P m.f m.t with a|a<;>rcases apR_or P m.f m.t with b|b<;>rw [a,b]<;>simp
 left;rw [body_cast hc];unfold lanQ;rw [if_pos hc];rfl
theorem leg_mv(hV:ValidS P)(h:LegM P m):∃M∈allL (boardOf P.bd) (psOf P),TagM P m M:=by
 obtain ⟨M,hM,e1,e2,e3⟩:=(allL_iff hV m).2 (h.okS hV);obtain ⟨n,hn,hT⟩:=tag_all hV hM;have:n=m:=sm_ext (hT.s1.symm.trans e1) (hT.s2.symm.trans e2) (hT.pr.symm.trans e3);subst this;exact ⟨M,hM,hT⟩
structure PlainA(P:SP)(m:Sm)(q:Parts):Prop where
 dec:∀M∈allL (boardOf P.bd) (psOf P),DecOk (boardOf P.bd) (psOf P) M
 hit:∃M∈allL (boardOf P.bd) (psOf P),hitT (boardOf P.bd) (psOf P) q M=true
 one:∀M∈allL (boardOf P.bd) (psOf P),hitT (boardOf P.bd) (psOf P) q M=true→M.s1=m.f∧M.s2=m.t∧M.promo=m.p
theorem dec_all(hV:ValidS P):∀M∈allL (boardOf P.bd) (psOf P),DecOk (boardOf P.bd) (psOf P) M:=fun M hM=>by
 obtain ⟨n,hn,hT⟩:=tag_all hV hM;exact (decOk hV hn hT).1
theorem plain_of(hV:ValidS P)(h:LegM P m){q:Parts}(hs:cleanP q=bodyS P m.f m.t m.p∨bodyS P m.f m.t m.p∈optsP q)(ho:∀n,LegM P n→(cleanP q=bodyS P n.f n.t n.p∨bodyS P n.f n.t n.p∈optsP q)→n=m):PlainA P m q:=by
 refine ⟨dec_all hV,?_,fun M hM hh=>?_⟩
 · obtain ⟨M,hM,hT⟩:=leg_mv hV h;exact ⟨M,hM,(hit_iff hV h hT q).2 hs⟩
 obtain ⟨n,hn,hT⟩:=tag_all hV hM;have:=ho n hn ((hit_iff hV hn hT q).1 hh);subst this;exact ⟨hT.s1,hT.s2,hT.pr⟩
theorem plain_lan(hV:ValidS P)(h:LegM P m):PlainA P m (lanQ P m):=plain_of hV h (self_lan hV h) fun n hn=>one_lan hV h hn
theorem enc_mv(hV:ValidS P)(h:LegM P m)(ht:Told P m)(hM:M∈allL (boardOf P.bd) (psOf P))(he:eqM M m.f m.t m.p=true):
  encI (boardOf P.bd) (psOf P) (allL (boardOf P.bd) (psOf P)) M=bodyS P m.f m.t m.p++sgnS P m.f m.t m.p∧lanI (boardOf P.bd) (psOf P) M=lanS P m.f m.t m.p:=by
 obtain ⟨n,hn,hT⟩:=tag_all hV hM;unfold eqM at he;simp only [Bool.and_eq_true,beq_iff_eq] at he;have:n=m:=sm_ext (hT.s1.symm.trans he.1) (hT.s2.symm.trans he.2.1) (hT.pr.symm.trans he.2.2);subst this;exact ⟨text_san hV h hT ht,text_lan hV h hT ht⟩
end
section
variable{P:SP}{m:Sm}{c:GC}{w:World}
theorem RightS.h(hR:RightS P):(∃i,i<(allL (boardOf P.bd) (psOf P)).length∧eqM (mvAt (allL (boardOf P.bd) (psOf P)) i) m.f m.t m.p=true)↔LegM P m:=by
 have hV:=hR.valid;constructor
 ·rintro ⟨i,hi,he⟩;have hM:=mvAt_mem (l:=allL (boardOf P.bd) (psOf P)) hi;obtain ⟨n,hn,hT⟩:=tag_all hV hM;unfold eqM at he;simp only [Bool.and_eq_true,beq_iff_eq] at he;have:n=m:=sm_ext (hT.s1.symm.trans he.1) (hT.s2.symm.trans he.2.1) (hT.pr.symm.trans he.2.2);exact this▸hn
 intro h;obtain ⟨M,hM,hT⟩:=leg_mv hV h;obtain ⟨i,hi,e⟩:=List.getElem_of_mem hM;refine ⟨i,hi,?_⟩;have:mvAt (allL (boardOf P.bd) (psOf P)) i=M:=by
  unfold mvAt;rw [List.getD_eq_getElem?_getD,List.getElem?_eq_getElem hi];exact e
 rw [this];unfold eqM;rw [hT.s1,hT.s2,hT.pr];simp
theorem lan_len(P:SP)(f t p:Int):(lanS P f t p).length≤100000:=by
 have h1:=bodyS_len P f t p;have h2:=sgnS_len P f t p;have h3:=letB_len (kindOf (P.bd f.toNat));have h4:=takT_len P.bd f t;have h5:=promS_len p;unfold lanS;cases decide (castI P.bd f t>(0:Int))<;>simp only [cond_true,cond_false,List.length_append,List.length_cons,List.length_nil]<;>omega
theorem w15l(hG:Glob c w)(hR:RightS P)(h:LegM P m)(ht:Told P m):Calls Tryz.prog 15 [.int .i64 (1:Int),.agg (spCells P),.agg #[.int .i64 m.f,.int .i64 m.t,.int .i64 m.p]].toArray w (fun e w'=>e=.returned (.tuple #[.string (bstr (lanS P m.f m.t m.p)),.bool true])∧Mod [] w w'):=
 (c15l P hG (spok hR.valid) (mvPre hR) m.f m.t m.p (hR.h.2 h) (mvOk_all hR.valid) (dec_all hR.valid)).mono fun e w' ⟨M,hM,he,e1,e2⟩=>⟨by rw [e1,(enc_mv hR.valid h ht hM he).2],e2⟩
theorem w16l(hG:Glob c w)(hR:RightS P)(h:LegM P m):Calls Tryz.prog 16 [.int .i64 (1:Int),.agg (spCells P),.string (bstr (lanS P m.f m.t m.p))].toArray w (fun e w'=>∃t,e=.returned (.tuple #[.agg #[.int .i64 m.f,.int .i64 m.t,.int .i64 m.p],.int .i64 t,.bool true])∧Mod [] w w'):=by
 have hp:=plain_lan hR.valid h;obtain ⟨z1,z2⟩:=lan_parts hR.valid h;refine (c16l P hG (spok hR.valid) (mvPre hR) _ _ z1 (lan_len _ _ _ _) z2 (mvOk_all hR.valid) hp.dec hp.hit).mono fun e w' hh=>?_;obtain ⟨M,t,hM,hh,e1,e2⟩:=hh;obtain ⟨a,b,d⟩:=hp.one M hM hh;exact ⟨t,by rw [e1,a,b,d],e2⟩
end
set_option maxHeartbeats 2000000 in
theorem c12l{c:GC}{w:World}(P:SP)(m:Sm)(hG:Glob c w)(hR:RightS P)(hL:LegM P m)(ht:Told P m):
  Calls Tryz.prog 12 [.int .i64 (1:Int),.agg (spCells P),.agg #[.int .i64 m.f,.int .i64 m.t,.int .i64 m.p]].toArray w (fun e w'=>e=.returned (.bool true)∧Mod [] w w'):=by
 have hm0:Mod [] w w:=Mod.refl _ _;refine enter (n:=46) Tryz.func12 rfl Tryz.ntmps12 rfl ?_;refine zw ?_;refine zA (spCells P) 24 (some 4) ?_;intro b1 w2 hn3;have hb4:c.base≤b1:=Glob.lt hG hn3;have hb5:=Nat.le_trans hm0.size hn3.base;have hm6:=hn3.mod;have hG7:=Glob.on hG hm6;have hm8:=zt hm0 hm6;have hz9:=hm6.size;have hf10:=hn3.at_;refine zA (#[.int .i64 m.f,.int .i64 m.t,.int .i64 m.p]) 30 (some 5) ?_;intro b11 w12 hn13;have hb14:c.base≤b11:=Glob.lt hG7 hn13;have hb15:=Nat.le_trans hm8.size hn13.base;have hm16:=hn13.mod;have hf17:=At.on hf10 hm16;have hG18:=Glob.on hG7 hm16;have hm19:=zt hm8 hm16;have hz20:=hm16.size;have hf21:=hn13.at_;refine yS 1 ?_;refine zx ?_;refine yV 3 [.row ⟨b1,0,none⟩ 69 (spCells P),.row ⟨b11,0,none⟩ 3 (#[.int .i64 m.f,.int .i64 m.t,.int .i64 m.p])] [.agg (spCells P),.agg (#[.int .i64 m.f,.int .i64 m.t,.int .i64 m.p])] (⟨(At.row hf17 (spCells_size P)),At.row hf21 rfl⟩) ?_;refine zk (some 16) (c25l P hR.valid.bd hR.valid.turn hR.valid.castle m.f m.t m.p (hL.ok hR.valid).f (hL.ok hR.valid).t (hL.ok hR.valid).p) ?_;intro w22 hm23;have hf24:=At.on hf17 hm23;have hf25:=At.on hf21 hm23;have hG26:=Glob.on hG18 hm23;have hm27:=zt hm19 hm23;have hz28:=hm23.size;refine yS 1 ?_;refine zx ?_;refine yV 3 [.row ⟨b1,0,none⟩ 69 (spCells P),.row ⟨b11,0,none⟩ 3 (#[.int .i64 m.f,.int .i64 m.t,.int .i64 m.p])] [.agg (spCells P),.agg (#[.int .i64 m.f,.int .i64 m.t,.int .i64 m.p])] (⟨(At.row hf24 (spCells_size P)),At.row hf25 rfl⟩) ?_;refine zk (some 21) (w15l hG26 hR hL ht) ?_;intro w29 hm30;have hf31:=At.on hf24 hm30;have hf32:=At.on hf25 hm30;have hG33:=Glob.on hG26 hm30;have hm34:=zt hm27 hm30;have hz35:=hm30.size;refine yS 5 ?_;refine zx ?_;refine yV 3 [.row ⟨b1,0,none⟩ 69 (spCells P)] [.agg (spCells P)] (At.row hf31 (spCells_size P)) ?_;refine zC (some 28) (w16l hG33 hR hL) ?_;rintro _ w36 ⟨t38,rfl,hm37⟩;refine ⟨_,rfl,?_⟩;have hf40:=At.on hf32 hm37;have hG41:=Glob.on hG33 hm37;have hm42:=zt hm34 hm37;have hz43:=hm37.size;refine yS 4 ?_;refine zA (#[.int .i64 0,.int .i64 0,.int .i64 0]) 30 (some 10) ?_;intro b44 w45 hn46;have ne47:b11≠b44:=hn46.ne hf40;have hb48:c.base≤b44:=Glob.lt hG41 hn46;have hb49:=Nat.le_trans hm42.size hn46.base;have hm50:=hn46.mod;have hf52:=At.on hf40 hm50;have hm54:=zt hm42 hm50;have hz55:=hm50.size;have hf56:=hn46.at_;refine zS b44 0 (.agg #[.int .i64 m.f,.int .i64 m.t,.int .i64 m.p]) ?_;intro w57 hu58;have hf59:At w57 b44 (.cells (#[.int .i64 m.f,.int .i64 m.t,.int .i64 m.p]) 30 (0,0)):=hu58.at_;have hf61:=At.keep hf52 hu58.mod (not_mem1 ne47);have hm63:=Mod.fresh' hm54 hu58.mod (by simp<;>omega);have hz64:=hu58.mod.size;refine yS 2 ?_;refine zx ?_;refine zs 5 [rz 5 b11,rz 10 b44,(12,.bool true),(33,.bool true),(36,.bool ((bstr (lanS P m.f m.t m.p)).toList==(bstr (lanS P m.f m.t m.p)).toList))] ?_;rw [show ((bstr (lanS P m.f m.t m.p)).toList==(bstr (lanS P m.f m.t m.p)).toList)=true from beq_self_eq_true _];refine yV 7 [.row ⟨b44,0,none⟩ 3 (#[.int .i64 m.f,.int .i64 m.t,.int .i64 m.p]),.row ⟨b11,0,none⟩ 3 (#[.int .i64 m.f,.int .i64 m.t,.int .i64 m.p])] [.agg (#[.int .i64 m.f,.int .i64 m.t,.int .i64 m.p]),.agg (#[.int .i64 m.f,.int .i64 m.t,.int .i64 m.p])] (⟨At.row hf59 rfl,At.row hf61 rfl⟩) ?_
 refine reg_eq30 m.f m.t m.p m.f m.t m.p (some 44) (by kernel_rfl) ?_;rw [show ((m.f==m.f)&&((m.t==m.t)&&(m.p==m.p)))=true from by simp];refine yS 2 ?_;refine zz ?_;refine w_ret ?_;exact y1 (⟨rfl,hm63⟩)
set_option maxHeartbeats 2000000 in
theorem c4{c:GC}{w:World}(P:SP)(k:Int)(hG:Glob c w):
  Calls Tryz.prog 4 [.agg (spCells P),.int .i64 k].toArray w (fun e w'=>e=.returned (.bool true)∧Mod [] w w'):=by
 have hm0:Mod [] w w:=Mod.refl _ _;refine enter (n:=26) Tryz.func4 rfl Tryz.ntmps4 rfl ?_;refine zw ?_;refine zA (spCells P) 24 (some 2) ?_;intro b1 w2 hn3;have hb4:c.base≤b1:=Glob.lt hG hn3;have hb5:=Nat.le_trans hm0.size hn3.base;have hm6:=hn3.mod;have hG7:=Glob.on hG hm6;have hm8:=zt hm0 hm6;have hz9:=hm6.size;have hf10:=hn3.at_;refine yS 1 ?_;refine zx ?_;refine yV 2 [.row ⟨b1,0,none⟩ 69 (spCells P)] [.agg (spCells P)] (At.row hf10 (spCells_size P)) ?_;refine zC (some 10) (c13 P k) ?_;rintro _ w11 ⟨m13,v14,rfl,hm12,hv15⟩;refine ⟨_,rfl,?_⟩;have hf16:=At.on hf10 hm12;have hG17:=Glob.on hG7 hm12;have hm18:=zt hm8 hm12;have hz19:=hm12.size;refine yS 3 ?_;refine zA (#[.int .i64 0,.int .i64 0,.int .i64 0]) 30 (some 5) ?_;intro b20 w21 hn22;have hb23:c.base≤b20:=Glob.lt hG17 hn22;have hb24:=Nat.le_trans hm18.size hn22.base;have hm25:=hn22.mod;have hf26:=At.on hf16 hm25;have hG27:=Glob.on hG17 hm25;have hm28:=zt hm18 hm25;have hz29:=hm25.size;have hf30:=hn22.at_;refine zS b20 0 (.agg #[.int .i64 m13.f,.int .i64 m13.t,.int .i64 m13.p]) ?_;intro w31 hu32;have hf33:At w31 b20 (.cells (#[.int .i64 m13.f,.int .i64 m13.t,.int .i64 m13.p]) 30 (0,0)):=hu32.at_;have hf34:=At.keep hf26 hu32.mod (not_mem1 (At.ne hf26 hf30 rfl));have hG35:=Glob.keep hG27 hu32.mod (by simp<;>omega);have hm36:=Mod.fresh' hm28 hu32.mod (by simp<;>omega);have hz37:=hu32.mod.size;refine yS 1 ?_;refine zx ?_;refine yS 3 ?_;refine yE 15 (.bool (!v14)) ?_;cases hc38:(!v14)
 ·have dhc38:=hc38;try simp only [zbq] at dhc38
  refine zv 2 [rz 2 b1,rz 5 b20,(15,.bool false),(16,.agg (spCells P)),(17,.agg (#[.int .i64 m13.f,.int .i64 m13.t,.int .i64 m13.p]))] [.row ⟨b1,0,none⟩ 69 (spCells P),.row ⟨b20,0,none⟩ 3 (#[.int .i64 m13.f,.int .i64 m13.t,.int .i64 m13.p])] [.agg (spCells P),.agg (#[.int .i64 m13.f,.int .i64 m13.t,.int .i64 m13.p])] (⟨(At.row hf34 (spCells_size P)),At.row hf33 rfl⟩) ?_;obtain ⟨hR39,hL40⟩:=hv15 (by simpa using hc38);replace hL40:=legM hR39.valid hL40;refine zC (some 18) (c11 P hR39.valid.bd hR39.valid.turn hR39.valid.castle m13.f m13.t m13.p (hL40.ok hR39.valid).f (hL40.ok hR39.valid).t (hL40.ok hR39.valid).p) ?_;rintro _ w41 ⟨v43,rfl,hm42,hv44⟩;refine ⟨_,rfl,?_⟩;have hf45:=At.on hf34 hm42;have hf46:=At.on hf33 hm42;have hG47:=Glob.on hG35 hm42;have hm48:=zt hm36 hm42;have hz49:=hm42.size;refine yS 3 ?_;refine yE 21 (.bool (!v43)) ?_;cases hc50:(!v43)
  ·have dhc50:=hc50;try simp only [zbq] at dhc50
   refine yV 2 [.row ⟨b1,0,none⟩ 69 (spCells P),.row ⟨b20,0,none⟩ 3 (#[.int .i64 m13.f,.int .i64 m13.t,.int .i64 m13.p])] [.agg (spCells P),.agg (#[.int .i64 m13.f,.int .i64 m13.t,.int .i64 m13.p])] (⟨(At.row hf45 (spCells_size P)),At.row hf46 rfl⟩) ?_;refine zk (some 24) (c12l P m13 hG47 hR39 hL40 (hv44 (by simpa using hc50))) ?_;intro w51 hm52;have hm56:=zt hm48 hm52;have hz57:=hm52.size;refine yS 2 ?_;refine zz ?_;refine w_ret ?_;exact y1 (⟨rfl,hm56⟩)
  have dhc50:=hc50;try simp only [zbq] at dhc50
  refine yS 5 ?_;refine zz ?_;refine w_ret ?_;exact y1 (⟨rfl,hm48⟩)
 have dhc38:=hc38;try simp only [zbq] at dhc38
 refine yS 11 ?_;refine zz ?_;refine w_ret ?_;exact y1 (⟨rfl,hm36⟩)
end Go.Proofs.YtgnhellfhjoaaaaGreatDoor
namespace Go.Proofs.YtgnhellfhjoaaaaGreatDoor
open Go Go.RowKit Go.ChangeShapes Go.WideShapes Go.ChangeAt
set_option maxRecDepth 100000
theorem tab_cells{W:World}{nm:String}{g t e n fuel:Nat}{k:IntKind}{zs:List Int}{cs:Array Value}{p:List MemPlace}(ht:Tryz.prog.underlying t=some (.array n e))(he:Tryz.prog.underlying e=some (.int k))
  (hc:Tryz.prog.cellsOf e=1)(hz:zs.length=n)(hg:Tryz.prog.globalNamed nm=some g)(hv:W.var? Tryz.prog nm=some cs)
  (hd:DataW.trod (fun _=>()) Tryz.prog W 0 (fun _=>true) false fuel t cs.toList=some (.agg (zs.map fun n=>.lit (.int k n)),p)):∀r,r<n→W.cell? ⟨g,r,none⟩=some (.int k (zs.getD r 0)):=by
 intro r hr;obtain ⟨xs,m,_,ex,_,hl,hel⟩:=DataW.trod_array ht hd;have hE:=hel r hr;rw [hc,Nat.mul_one,List.getElem?_eq_getElem (by omega)] at hE;obtain ⟨z,e1,e2,_⟩:=DataW.trod_int he hE;have e3:(xs.map (·.1))=zs.map fun n=>.lit (.int k n):=(DataW.agg.inj (Prod.mk.inj ex).1).symm;have e4:(xs.map (·.1))[r]?=(zs.map fun n=>(DataW.lit (.int k n):DataW Unit))[r]?:=by rw [e3]
 rw [List.getElem?_map,List.getElem?_map,List.getElem?_eq_getElem (by omega:r<xs.length),List.getElem?_eq_getElem (by omega:r<zs.length),e2] at e4;have hz:z=zs.getD r 0:=by
  simp only [Option.map_some,Option.some.injEq,DataW.lit.injEq,Lit.int.injEq,true_and] at e4;rw [e4,List.getD,List.getElem?_eq_getElem (by omega:r<zs.length)];rfl
 rw [World.var?_cell hg hv r,←hz];have:cs.toList[r]?=some (.int k z):=by
  have h0:((cs.toList.drop r).take 1)[0]?=some (.int k z):=by rw [e1];rfl
  simpa using h0
 simpa using this
theorem cell_lt{W:World}{b o:Nat}{v:Value}(h:W.cell? ⟨b,o,none⟩=some v):b<W.heap.size:=by
 refine Classical.byContradiction fun hh=>?_;have:W.heap[b]?=none:=by rw [Array.getElem?_eq_none (by omega)]
 simp [World.cell?,this] at h
theorem lits_inj{k:IntKind}:∀{a b:List Int},(a.map fun n=>(DataW.lit (.int k n):DataW Unit))=(b.map fun n=>.lit (.int k n))→a=b
 |[],[],_=>rfl
 |[],_::_,h=>by cases h
 |_::_,[],h=>by cases h
 |x::a,y::b,h=>by
  simp only [List.map_cons,List.cons.injEq,DataW.lit.injEq,Lit.int.injEq,true_and] at h;rw [h.1,lits_inj h.2]
theorem sl_cells{W:World}{nm:String}{g t e n fuel:Nat}{k:IntKind}{zs:List Int}{cs:Array Value}{p:List MemPlace}(ht:Tryz.prog.underlying t=some (.slice e))(he:Tryz.prog.underlying e=some (.int k))
  (hc:Tryz.prog.cellsOf e=1)(hz:zs.length=n)(hn:0<n)(hg:Tryz.prog.globalNamed nm=some g)(hv:W.var? Tryz.prog nm=some cs)
  (hd:DataW.trod (fun _=>()) Tryz.prog W 0 (fun _=>true) false fuel t cs.toList=some (.slice (zs.map fun n=>.lit (.int k n)) [],p)):
  ∃b o,W.cell? ⟨g,0,none⟩=some (.slice (some ⟨b,o,none⟩) n n)∧b<W.heap.size∧∀r,r<n→W.cell? ⟨b,o+r,none⟩=some (.int k (zs.getD r 0)):=by
 rcases open_ints ht he hc hd with ⟨_,hx⟩|⟨a,len,cap,ys,hcs,_,hle,_,hlen,hx,hcell,_⟩
 ·simp at hx
 simp only [if_true] at hlen;have h1:=DataW.slice.inj (Prod.mk.inj hx).1;have h3:ys.drop len=[]:=by have:=h1.2;unfold lits at this;simpa using this.symm
 have h4:cap≤len:=by have:=congrArg List.length h3;simp at this;omega
 have h5:ys.take len=ys:=List.take_of_length_le (by omega);have h2:zs=ys:=by
  have:=h1.1;unfold lits at this;rw [h5] at this;exact lits_inj this
 subst h2;obtain ⟨b,o,rfl,hc2⟩:=_root_.Go.ints_at hcell (by omega);have e1:len=n:=by omega
 have e2:cap=n:=by omega
 subst e1;refine ⟨b,o,?_,cell_lt (hc2 0 (by omega)),fun r hr=>hc2 r (by omega)⟩;rw [World.var?_cell hg hv 0];have:cs.toList[0]?=some (.slice (some ⟨b,o,none⟩) len cap):=by rw [hcs];rfl
 rw [e2] at this;simpa using this
theorem tabs_eq:(Rows.laid_pub_fianchetto_pub_chess_bbFiles:DataW Unit)=.agg (fileTab.map fun n=>.lit (.int .u64 n))∧(Rows.laid_pub_fianchetto_pub_chess_bbRanks:DataW Unit)=.agg (rankTab.map fun n=>.lit (.int .u64 n))∧
  (Rows.laid_pub_fianchetto_pub_chess_bbDiagonals:DataW Unit)=.agg (diagTab.map fun n=>.lit (.int .u64 n))∧(Rows.laid_pub_fianchetto_pub_chess_bbAntiDiagonals:DataW Unit)=.agg (antiTab.map fun n=>.lit (.int .u64 n))∧
  (Rows.laid_pub_fianchetto_pub_chess_bbKnightMoves:DataW Unit)=.agg (knightTab.map fun n=>.lit (.int .u64 n))∧(Rows.laid_pub_fianchetto_pub_chess_bbKingMoves:DataW Unit)=.agg (kingTab.map fun n=>.lit (.int .u64 n))∧
  (Rows.laid_pub_fianchetto_pub_chess_allPieces:DataW Unit)=.slice (([1,2,3,4,5,6,7,8,9,10,11,12]:List Int).map fun n=>.lit (.int .i8 n)) []∧
  (Rows.laid_pub_fianchetto_pub_chess_promoPieceTypes:DataW Unit)=.slice (([2,3,4,5]:List Int).map fun n=>.lit (.int .i8 n)) []:=⟨rfl,rfl,rfl,rfl,rfl,rfl,rfl,rfl⟩
theorem ty_eqs:(Tryz.prog.globals[0]?).map (·.type)=some 137∧(Tryz.prog.globals[1]?).map (·.type)=some 162∧(Tryz.prog.globals[2]?).map (·.type)=some 162∧(Tryz.prog.globals[3]?).map (·.type)=some 162∧
  (Tryz.prog.globals[4]?).map (·.type)=some 162∧(Tryz.prog.globals[5]?).map (·.type)=some 171∧(Tryz.prog.globals[6]?).map (·.type)=some 171∧(Tryz.prog.globals[7]?).map (·.type)=some 178:=by
 refine ⟨?_,?_,?_,?_,?_,?_,?_,?_⟩<;>kernel_rfl
theorem k_nm0:Tryz.prog.globalNamed "pub-fianchetto/pub/chess.allPieces"=some 0:=by kernel_rfl
theorem k_nm1:Tryz.prog.globalNamed "pub-fianchetto/pub/chess.bbKnightMoves"=some 1:=by kernel_rfl
theorem k_nm2:Tryz.prog.globalNamed "pub-fianchetto/pub/chess.bbKingMoves"=some 2:=by kernel_rfl
theorem k_nm3:Tryz.prog.globalNamed "pub-fianchetto/pub/chess.bbDiagonals"=some 3:=by kernel_rfl
theorem k_nm4:Tryz.prog.globalNamed "pub-fianchetto/pub/chess.bbAntiDiagonals"=some 4:=by kernel_rfl
theorem k_nm5:Tryz.prog.globalNamed "pub-fianchetto/pub/chess.bbRanks"=some 5:=by kernel_rfl
theorem k_nm6:Tryz.prog.globalNamed "pub-fianchetto/pub/chess.bbFiles"=some 6:=by kernel_rfl
theorem k_nm7:Tryz.prog.globalNamed "pub-fianchetto/pub/chess.promoPieceTypes"=some 7:=by kernel_rfl
theorem k_un64:Tryz.prog.underlying 162=some (.array 64 133):=by kernel_rfl
theorem k_un8:Tryz.prog.underlying 171=some (.array 8 133):=by kernel_rfl
theorem k_un133:Tryz.prog.underlying 133=some (.int .u64):=by kernel_rfl
theorem k_cl133:Tryz.prog.cellsOf 133=1:=by kernel_rfl
theorem k_un137:Tryz.prog.underlying 137=some (.slice 112):=by kernel_rfl
theorem k_un178:Tryz.prog.underlying 178=some (.slice 93):=by kernel_rfl
theorem k_un112:Tryz.prog.underlying 112=some (.int .i8):=by kernel_rfl
theorem k_un93:Tryz.prog.underlying 93=some (.int .i8):=by kernel_rfl
theorem k_cl112:Tryz.prog.cellsOf 112=1:=by kernel_rfl
theorem k_cl93:Tryz.prog.cellsOf 93=1:=by kernel_rfl
theorem laid_in{W:World}{n:String}{d:DataW Unit}:∀(l:List (String×DataW Unit)) (ps:List MemPlace),DataW.LaidVars Tryz.prog W l ps→(n,d)∈l→
  ∃g t cs fuel p,Tryz.prog.globalNamed n=some g∧(Tryz.prog.globals[g]?).map (·.type)=some t∧W.var? Tryz.prog n=some cs∧DataW.trod (fun _=>()) Tryz.prog W 0 (fun _=>true) false fuel t cs.toList=some (d,p)
 |[],_,_,hm=>by cases hm
 |(x1,x2)::l,_,h,hm=>by
  obtain ⟨g,t,cs,fuel,p,q,h1,h2,h3,h4,h5,_⟩:=h;rcases List.mem_cons.1 hm with e|e
  ·cases e;exact ⟨g,t,cs,fuel,p,h1,h2,h3,h4⟩
  ·exact laid_in l q h5 e
theorem laid_at{W:World}{l:List (String×DataW Unit)}(h:laidMet Tryz.prog l W){n:String}{d:DataW Unit}(hm:(n,d)∈l):
  ∃g t cs fuel p,Tryz.prog.globalNamed n=some g∧(Tryz.prog.globals[g]?).map (·.type)=some t∧W.var? Tryz.prog n=some cs∧DataW.trod (fun _=>()) Tryz.prog W 0 (fun _=>true) false fuel t cs.toList=some (d,p):=by
 obtain ⟨ps,h,_,_⟩:=h;exact laid_in l ps h hm
theorem laid_tab{W:World}{l:List (String×DataW Unit)}(h:laidMet Tryz.prog l W){nm:String}{g t n:Nat}{zs:List Int}(hm:(nm,.agg (zs.map fun n=>.lit (.int .u64 n)))∈l)
  (hg:Tryz.prog.globalNamed nm=some g)(ht:(Tryz.prog.globals[g]?).map (·.type)=some t)(hu:Tryz.prog.underlying t=some (.array n 133))(hz:zs.length=n):∀r,r<n→W.cell? ⟨g,r,none⟩=some (.int .u64 (zs.getD r 0)):=by
 obtain ⟨g',t',cs,fuel,p,h1,h2,h3,h4⟩:=laid_at h hm;obtain rfl:=Option.some.inj (hg.symm.trans h1);obtain rfl:=Option.some.inj (ht.symm.trans h2);exact tab_cells hu k_un133 k_cl133 hz hg h3 h4
theorem laid_sl{W:World}{l:List (String×DataW Unit)}(h:laidMet Tryz.prog l W){nm:String}{g t e n:Nat}{zs:List Int}(hm:(nm,.slice (zs.map fun n=>.lit (.int .i8 n)) [])∈l)
  (hg:Tryz.prog.globalNamed nm=some g)(ht:(Tryz.prog.globals[g]?).map (·.type)=some t)(hu:Tryz.prog.underlying t=some (.slice e))(he:Tryz.prog.underlying e=some (.int .i8))(hc:Tryz.prog.cellsOf e=1)(hz:zs.length=n)(hn:0<n):
  ∃b o,W.cell? ⟨g,0,none⟩=some (.slice (some ⟨b,o,none⟩) n n)∧b<W.heap.size∧∀r,r<n→W.cell? ⟨b,o+r,none⟩=some (.int .i8 (zs.getD r 0)):=by
 obtain ⟨g',t',cs,fuel,p,h1,h2,h3,h4⟩:=laid_at h hm;obtain rfl:=Option.some.inj (hg.symm.trans h1);obtain rfl:=Option.some.inj (ht.symm.trans h2);exact sl_cells hu he hc hz hn hg h3 h4
def laidAll:List (String×DataW Unit):=[("unicode/utf8.acceptRanges",Rows.laid_unicode_utf8_acceptRanges),("pub-fianchetto/pub/chess.promoPieceTypes",Rows.laid_pub_fianchetto_pub_chess_promoPieceTypes),("pub-fianchetto/pub/chess.bbFiles",Rows.laid_pub_fianchetto_pub_chess_bbFiles),("pub-fianchetto/pub/chess.bbRanks",Rows.laid_pub_fianchetto_pub_chess_bbRanks),("pub-fianchetto/pub/chess.bbDiagonals",Rows.laid_pub_fianchetto_pub_chess_bbDiagonals),("pub-fianchetto/pub/chess.bbAntiDiagonals",Rows.laid_pub_fianchetto_pub_chess_bbAntiDiagonals),("pub-fianchetto/pub/chess.bbKnightMoves",Rows.laid_pub_fianchetto_pub_chess_bbKnightMoves),("pub-fianchetto/pub/chess.bbKingMoves",Rows.laid_pub_fianchetto_pub_chess_bbKingMoves),("pub-fianchetto/pub/chess.allPieces",Rows.laid_pub_fianchetto_pub_chess_allPieces),("unicode.CaseRanges",Rows.laid_unicode_CaseRanges),("unicode/utf8.first",Rows.laid_unicode_utf8_first)]
theorem pcs12:∀j,j<12→([1,2,3,4,5,6,7,8,9,10,11,12]:List Int).getD j 0=(j:Int)+1:=by decide
theorem pcs4:∀j,j<4→([2,3,4,5]:List Int).getD j 0=(j:Int)+2:=by decide
theorem laid_glob{W:World}(h:laidMet Tryz.prog laidAll W):∃c,Glob c W:=by
 obtain ⟨q1,q2,q3,q4,q5,q6,q7,q8⟩:=tabs_eq;obtain ⟨t0,t1,t2,t3,t4,t5,t6,t7⟩:=ty_eqs;obtain ⟨b,o,s1,s2,s3⟩:=laid_sl h (nm:= "pub-fianchetto/pub/chess.allPieces") (n:=12) (by rw [←q7];simp [laidAll]) k_nm0 t0 k_un137 k_un112 k_cl112 rfl (by decide);obtain ⟨b',o',s1',s2',s3'⟩:=laid_sl h (nm:= "pub-fianchetto/pub/chess.promoPieceTypes") (n:=4) (by rw [←q8];simp [laidAll]) k_nm7 t7 k_un178 k_un93 k_cl93 rfl (by decide);refine ⟨⟨W.heap.size,b,o,b',o'⟩,⟨Nat.le_refl _,cell_lt s1',s2,s2',s1,fun j hj=>?_,?_,?_,?_,?_,?_,?_,s1',fun j hj=>?_⟩⟩
 ·rw [s3 j hj,pcs12 j hj]
 ·exact laid_tab h (by rw [←q5];simp [laidAll]) k_nm1 t1 k_un64 rfl
 ·exact laid_tab h (by rw [←q6];simp [laidAll]) k_nm2 t2 k_un64 rfl
 ·exact laid_tab h (by rw [←q3];simp [laidAll]) k_nm3 t3 k_un64 rfl
 ·exact laid_tab h (by rw [←q4];simp [laidAll]) k_nm4 t4 k_un64 rfl
 ·exact laid_tab h (by rw [←q2];simp [laidAll]) k_nm5 t5 k_un8 rfl
 ·exact laid_tab h (by rw [←q1];simp [laidAll]) k_nm6 t6 k_un8 rfl
 rw [s3' j hj,pcs4 j hj]
theorem k_un24:∃fs:Array Field,Tryz.prog.underlying 24=some (.struct fs)∧(fs.map fun f=>(f.type,f.offset))=#[(22,0),(3,64),(3,65),(3,66),(3,67),(3,68)]:=by
 refine ⟨_,rfl,?_⟩
 kernel_rfl
theorem k_cl24:Tryz.prog.cellsOf 24=69:=by kernel_rfl
theorem k_cl22:Tryz.prog.cellsOf 22=64:=by kernel_rfl
theorem k_cl3:Tryz.prog.cellsOf 3=1:=by kernel_rfl
theorem k_un22:Tryz.prog.underlying 22=some (.array 64 3):=by kernel_rfl
theorem k_un3:Tryz.prog.underlying 3=some (.int .i64):=by kernel_rfl
def rdI(cs:Array Value)(i:Nat):Int:=match cs[i]? with|some (.int _ z)=>z|_=>0
theorem open_pos{H:Type}{enc:TypeId×Value→H}{W:World}{base b0:Nat}{r:Reach}{sp:Nat→Bool}{held:Bool}{v:Value}{d:DataW H}{p:List MemPlace}(hval:Value.okWide Tryz.prog W r b0 24 v)
  (hd:DataW.Trod enc Tryz.prog W base sp held 24 v d p):∃P:SP,v=.agg (spCells P):=by
 obtain ⟨fs,hu,hf⟩:=k_un24;obtain ⟨cs,rfl,hsz⟩:=okWide_struct hu hval;rw [k_cl24] at hsz;obtain ⟨fuel,hd⟩:=hd;have hcs:(Value.agg cs).cells.toList=cs.toList:=rfl;rw [hcs] at hd;obtain ⟨xs,n,_,_,_,hl,hel⟩:=DataW.trod_struct hu hd;have hfs:∀i t o:Nat,(#[(22,0),(3,64),(3,65),(3,66),(3,67),(3,68)]:Array (Nat×Nat))[i]?=some (t,o)→∃f:Field,fs[i]?=some f∧f.type=t∧f.offset=o:=by
  intro i t o h;rw [←hf,Array.getElem?_map] at h;cases hh:fs[i]? with
  |none=>rw [hh] at h;cases h
  |some f=>rw [hh] at h;simp only [Option.map_some,Option.some.injEq,Prod.mk.injEq] at h;exact ⟨f,rfl,h.1,h.2⟩
 have hfl:fs.size=6:=by have:=congrArg Array.size hf;simpa using this
 have one:∀i o:Nat,(#[(22,0),(3,64),(3,65),(3,66),(3,67),(3,68)]:Array (Nat×Nat))[i]?=some (3,o)→∃z,cs[o]?=some (.int .i64 z):=by
  intro i o h;obtain ⟨f,h1,h2,h3⟩:=hfs i 3 o h;have:=hel i f h1;have hi:i<xs.length:=by rw [hl,hfl];exact (Array.getElem?_eq_some_iff.1 h).1
  rw [h2,h3,k_cl3,List.getElem?_eq_getElem hi] at this;obtain ⟨z,e1,_⟩:=DataW.trod_int k_un3 this;exact ⟨z,by have:=cell_of_cut e1;simpa using this⟩
 have brd:∀i,i<64→∃z,cs[i]?=some (.int .i64 z):=by
  intro i hi;obtain ⟨f,h1,h2,h3⟩:=hfs 0 22 0 rfl;have:=hel 0 f h1;rw [h2,h3,k_cl22,List.getElem?_eq_getElem (by omega)] at this;obtain ⟨ys,m,_,_,_,hl2,hel2⟩:=DataW.trod_array k_un22 this;have h4:=hel2 i hi;rw [k_cl3,Nat.mul_one,List.getElem?_eq_getElem (by omega)] at h4;obtain ⟨z,e1,_⟩:=DataW.trod_int k_un3 h4;refine ⟨z,?_⟩;have:=cell_of_cut e1;rw [List.getElem?_take_of_lt hi] at this;simpa using this
 have all:∀i,i<69→cs[i]?=some (.int .i64 (rdI cs i)):=by
  intro i hi;have:∃z,cs[i]?=some (.int .i64 z):=by
   by_cases h:i<64
   ·exact brd i h
   rcases (by omega:i=64∨i=65∨i=66∨i=67∨i=68) with rfl|rfl|rfl|rfl|rfl
   ·exact one 1 64 rfl
   ·exact one 2 65 rfl
   ·exact one 3 66 rfl
   ·exact one 4 67 rfl
   exact one 5 68 rfl
  obtain ⟨z,hz⟩:=this;unfold rdI;rw [hz]
 refine ⟨⟨rdI cs,rdI cs 64,rdI cs 65,rdI cs 66,rdI cs 67,rdI cs 68⟩,congrArg Value.agg (Array.ext_getElem? fun i=>?_)⟩;by_cases h:i<69
 ·rw [all i h];by_cases h2:i<64
  ·rw [spCells_bd _ h2]
  obtain ⟨j,rfl⟩:∃j,i=64+j:=⟨i-64,by omega⟩;rw [spCells_tail];rcases (by omega:j=0∨j=1∨j=2∨j=3∨j=4) with rfl|rfl|rfl|rfl|rfl<;>rfl
 rw [Array.getElem?_eq_none (by omega),Array.getElem?_eq_none (by rw [spCells_size];omega)]
end Go.Proofs.YtgnhellfhjoaaaaGreatDoor
namespace Go.Proofs.YtgnhellfhjoaaaaGreatDoor
open Go Go.RowKit Go.ChangeShapes Go.WideShapes Go.ChangeAt
set_option maxRecDepth 100000
theorem own:ownKnob Tryz.prog.godebug=none:=by kernel_rfl
theorem laidOut:laidOutB Tryz.prog=true:=by kernel_rfl
theorem read24:Tryz.prog.readableRec 24=true:=by kernel_rfl
theorem row24:24<Tryz.prog.types.size:=of_decide_eq_true (by kernel_rfl)
def posZero:Value:=.agg (Array.replicate 69 (.int .i64 0))
theorem k_un4:Tryz.prog.underlying 4=some .bool:=by kernel_rfl
theorem lan_lifted(os:Os)(started:os.Started)(H:Type)(enc:TypeId×Value→H):
  ReturnsInHanded {} Tryz.checked os 4 .any (fun w args=>(Rows.fnLanWrittenSpec.pre enc Tryz.prog Tryz.f4 [] false w args∧laidMetH Tryz.prog laidAll w)∧sizedMet enc Tryz.prog Tryz.f4 (OpenSpec.ofChange Rows.fnLanWrittenSpec) false w args)
   (Rows.fnLanWrittenSpec.post enc Tryz.prog Tryz.f4 false true false false):=by
 refine returnsInHanded_of_change_and (C:=Tryz.checked) (X:=fun w _=>laidMetH Tryz.prog laidAll w) (fun _ _ _ hh h=>h.of_heap hh) own started (by kernel_rfl) Tryz.func4
  (ChangeSpec.witness_shaped (enc:=enc) (C:=Tryz.checked) (os:=os) (X:=fun w _=>laidMetH Tryz.prog laidAll w) false (World.laidAll Tryz.prog os laidAll) #[posZero,.int .i64 0] 8 (World.laidAll_os _ _ _)
   (World.shaped_of_ZipB (by kernel_rfl) (by kernel_rfl)) (by kernel_rfl) (by kernel_rfl) (by kernel_rfl)
   (by rw [MakeChecks.laidMetH_plain _ _ _ (by kernel_rfl)];exact laidMet_laidAll _ (by kernel_rfl) (by kernel_rfl))) ?_
 intro W base args ds gs before hval0 hW _ _ hL _;have hval:∀(j:Nat) t v,Tryz.f4.params[j]?=some t→args[j]?=some v→Value.okWide Tryz.prog W .any base t v:=hval0;have hW':=hW;obtain ⟨p,q,hA0,hV,rfl,_,_⟩:=hW;have hA:DataW.TrodAll enc Tryz.prog W 0 (fun _=>true) true Tryz.f4.params.toList args.toList ds p:=hA0;rw [Tryz.params4] at hA hval;obtain ⟨v0,v1,d0,d1,p0,p1,rfl,rfl,rfl,h0,h1⟩:=trodAll_two hA;obtain ⟨rfl,rfl⟩:=trodVars_none hV;obtain ⟨x,rfl,rfl,rfl,wx⟩:=open_int k_un3 (hval 1 3 v1 rfl rfl) h1;obtain ⟨P,rfl⟩:=open_pos (hval 0 24 v0 rfl rfl) h0;rw [MakeChecks.laidMetH_plain _ _ _ (by kernel_rfl)] at hL;obtain ⟨c,hG⟩:=laid_glob hL;have hlt:∀x∈p0,x.block<W.heap.size:=fun x hx=>by simpa using hW'.lt x (by simp [hx])
 refine (c4 P x hG).mono fun e W' ⟨he,hb⟩=>?_;subst he;exact ⟨_,rfl,_,_,_,[],_,[],hW',trodAll_mk1 (shut_bool k_un4 _),trodAll_mk2 (Below.trod laidOut read24 row24 h0 hb.below hlt) (shut_int k_un3 wx),rfl,hb.below.frame _,fun h=>by cases h⟩
theorem lan_said:Rows.FnLanWrittenSaid:=
 OpenClaim.holds_of_wide 4 Tryz.f4 rfl rfl rfl rfl rfl rfl rfl ⟨rfl,rfl,rfl,rfl,rfl⟩ rfl rfl rfl rfl rfl (by kernel_rfl) Tryz.func4 (by kernel_rfl)
  (of_decide_eq_true (by kernel_rfl)) (by unfold Func.isWrapper;first|(rw [if_pos (by decide+kernel)];kernel_rfl)|(rw [if_neg (by decide+kernel)];exact ⟨rfl,rfl⟩))
  (fun os started H enc _=>lan_lifted os started H enc)
theorem lan_card:Rows.FnLanWrittenCardSaid:=
 Claim7.holds_tied_plain_at .later [] [.data,.data,.data,.data,.data,.data,.data,.data,.data,.pinned,.pinned] true (true,"ce2801465da21b391576cf3bcdc9385af78ce6a858cc5da34dd9cf37235d50aa") false lan_said (fun _ h=>by cases h) (by kernel_rfl) (fun _ h=>by cases h) fnLanWritten_row_tie rfl ⟨rfl,rfl⟩ (by kernel_rfl) rfl
  (fun f fn hf hfn=>by
   obtain rfl:f=4:=Option.some.inj ((show Tryz.prog.funcNamed "pub-fianchetto/laws.FnLanWritten"=some 4 by kernel_rfl).symm.trans hf)|>.symm
   obtain rfl:fn=Tryz.f4:=(Option.some.inj (Tryz.func4.symm.trans hfn)).symm
   exact ⟨by kernel_rfl,fun j t ht=>by
    rw [Tryz.params4] at ht
    have hm:t∈[24,3]:=by simpa using Array.mem_of_getElem? ht
    have hall:([24,3].all fun u=>!Tryz.prog.wantsStandIn u)=true:=by kernel_rfl
    exact (show Tryz.prog.wantsStandIn t=false by simpa using List.all_eq_true.1 hall t hm)⟩)
  (by kernel_rfl)
#print axioms lan_card
end Go.Proofs.YtgnhellfhjoaaaaGreatDoor
