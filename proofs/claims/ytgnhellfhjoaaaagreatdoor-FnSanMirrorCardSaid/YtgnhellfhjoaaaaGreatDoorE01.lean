/-
  FnSanMirror: what is written and read of a legal move is the same in the position seen from the other side, seen so (a part of the proof).
  Conditions: those of each theorem.
-/
import Derived.Deep.Quiet
import Derived.KernelRfl
import Derived.Below
import Derived.Laws.Sem
import Derived.Laws.World
import Derived.Laws.Tables
import Derived.Orders
import Derived.Tactics
import Derived.StillTail
import Derived.Test.YtgnhellfhjoaaaaGreatDoorProg
import Derived.Laws.AppendOwn
import Derived.Laws.OwnMore
set_option linter.unusedVariables false
set_option linter.unusedSimpArgs false
namespace Go.Proofs.YtgnhellfhjoaaaaGreatDoor
open Go Go.RowKit
class Mod(S:outParam (List Nat))(w:outParam World)(w':World):Prop where
 os:w'.os=w.os
 tape:w'.tape=w.tape
 output:w'.output=w.output
 size:w.heap.size<=w'.heap.size
 block:∀k,k<w.heap.size->k∉S->w'.heap[k]?=w.heap[k]?
theorem Mod.refl(S:List Nat)(w:World):Mod S w w:=⟨rfl,rfl,rfl,Nat.le_refl _,λ_ _ _=>rfl⟩
theorem Mod.trans{S:List Nat}{a b c:World}(h:Mod S a b)(k:Mod S b c):Mod S a c:=
 ⟨k.os.trans h.os,k.tape.trans h.tape,k.output.trans h.output,Nat.le_trans h.size k.size,
  λi hi hS=>(k.block i (Nat.lt_of_lt_of_le hi h.size) hS).trans (h.block i hi hS)⟩
theorem Mod.mono{S T:List Nat}{w w':World}(h:Mod S w w')(hs:∀x∈S,x∈T):Mod T w w':=
 ⟨h.os,h.tape,h.output,h.size,λk hk hT=>h.block k hk λhS=>hT (hs k hS)⟩
theorem Mod.of_nil{S:List Nat}{w w':World}(h:Mod [] w w'):Mod S w w':=h.mono (by simp)
theorem Mod.fresh{S:List Nat}{w0 w w':World}(h0:Mod [] w0 w)(h:Mod S w w')(hS:∀x∈S,w0.heap.size<=x):Mod [] w0 w':=
 ⟨h.os.trans h0.os,h.tape.trans h0.tape,h.output.trans h0.output,Nat.le_trans h0.size h.size,
  λk hk _=>(h.block k (Nat.lt_of_lt_of_le hk h0.size) λhx=>Nat.lt_irrefl k (Nat.lt_of_lt_of_le hk (hS k hx))).trans (h0.block k hk (by simp))⟩
theorem Mod.fresh'{S T:List Nat}{w0 w w':World}(h0:Mod T w0 w)(h:Mod S w w')(hS:∀x∈S,x∈T\/w0.heap.size<=x):Mod T w0 w':=
 ⟨h.os.trans h0.os,h.tape.trans h0.tape,h.output.trans h0.output,Nat.le_trans h0.size h.size,
  λk hk hT=>(h.block k (Nat.lt_of_lt_of_le hk h0.size) λhx=>(hS k hx).elim hT λh'=>Nat.lt_irrefl k (Nat.lt_of_lt_of_le hk h')).trans (h0.block k hk hT)⟩
theorem Mod.below{w w':World}(h:Mod [] w w'):Below w.heap.size w w':=⟨h.os,h.tape,h.output,h.size,λk hk=>h.block k hk (by simp)⟩
theorem Mod.of_below{w w':World}(h:Below w.heap.size w w'):Mod [] w w':=⟨h.os,h.tape,h.output,h.size,λk hk _=>h.block k hk⟩
theorem Mod.draw(w:World):Mod [] w {w with drawn:=w.drawn+1}:=⟨rfl,rfl,rfl,Nat.le_refl _,λ_ _ _=>rfl⟩
class At(w:World)(b:Nat)(o:outParam Obj):Prop where
 e:w.heap[b]?=some o
theorem At.lt{w:World}{b:Nat}{o:Obj}(h:At w b o):b<w.heap.size:=by
 exact (Array.getElem?_eq_some_iff.1 h.e).1
theorem At.keep{S:List Nat}{w w':World}{b:Nat}{o:Obj}(h:At w b o)(m:Mod S w w')(hb:b∉S):At w' b o:=⟨by rw [m.block b h.lt hb];exact h.e⟩
theorem At.on{w w':World}{b:Nat}{o:Obj}(h:At w b o)(m:Mod [] w w'):At w' b o:=h.keep m (by simp)
theorem At.inj{w:World}{b:Nat}{o o':Obj}(h:At w b o)(h':At w b o'):o=o':=by
 have h1:=h'.e;rw [h.e] at h1;exact Option.some.inj h1
theorem At.cell{w:World}{b:Nat}{cs:Array Value}{t:TypeId}{fr:Nat×Nat}{j:Nat}{v:Value}(h:At w b (.cells cs t fr))(hv:cs[j]?=some v):
  w.cell? ⟨b,j,none⟩=some v:=by
 simp [World.cell?,h.e,hv]
theorem At.ne{w:World}{b b':Nat}{cs cs':Array Value}{t t':TypeId}{fr fr':Nat×Nat}(h:At w b (.cells cs t fr))(h':At w b' (.cells cs' t' fr'))(ht:(t==t')=false):b≠b':=by
 rintro rfl;have:=h.inj h';simp only [Obj.cells.injEq] at this;rw [this.2.1] at ht;simp at ht
theorem not_mem1{a b:Nat}(h:a≠b):a∉[b]:=by simpa using h
class New(w:outParam World)(w':World)(b:Nat)(o:outParam Obj):Prop where
 mod:Mod [] w w'
 at_:At w' b o
 base:w.heap.size<=b
theorem New.ne{w w':World}{b k:Nat}{o o':Obj}(h:New w w' b o)(hk:At w k o'):k≠b:=λe=>by
 have h1:=hk.lt;have h2:=h.base;omega
theorem New.alloc(w:World)(o:Obj):New w (w.alloc o) w.heap.size o:=
 ⟨⟨rfl,rfl,rfl,by simp,λk hk _=>Below.heap_alloc _ _ _ hk⟩,⟨by show (w.heap.push o)[w.heap.size]?=some o;simp⟩,Nat.le_refl _⟩
class Upd(w:outParam World)(w':World)(b:Nat)(o:outParam Obj):Prop where
 mod:Mod [b] w w'
 at_:At w' b o
 size:w'.heap.size=w.heap.size
theorem Upd.keep{w w':World}{b k:Nat}{o o':Obj}(h:Upd w w' b o)(hk:At w k o')(ne:k≠b):At w' k o':=hk.keep h.mod (by simpa using ne)
inductive Ob where
 |cell (a:Addr) (v:Value)
 |row (a:Addr) (n:Nat) (cs:Array Value)
 |prop (p:Prop)
 |run (P:Program) (s:Sem Next) (v:Value)
def Ob.holds(w:World):Ob->Prop
 |.cell a v=>w.cell? a=some v
 |.row a n cs=>cs.size=n/\∀j,j<n->w.cell? (a.add j)=cs[j]?
 |.prop p=>p
 |.run P s v=>s.run P w=.ok (.value v) w
def Obs(w:World):List Ob->Prop
 |[]=>True
 |[o]=>o.holds w
 |o::r=>o.holds w/\Obs w r
def Obsl(w:World)(l:List Ob):Prop:=∀o∈l,o.holds w
theorem Obs.all{w:World}:∀{l:List Ob},Obs w l->Obsl w l
 |[],_=>by intro o ho;cases ho
 |[o],h=>by intro o' ho;simp at ho;subst ho;exact h
 |o::o1::r,h=>by
  intro o' ho;rcases List.mem_cons.1 ho with rfl|h'
  ·exact h.1
  ·exact Obs.all h.2 o' h'
theorem Obsl.left{w:World}{a b:List Ob}(h:Obsl w (a++b)):Obsl w a:=λo ho=>h o (List.mem_append_left _ ho)
theorem Obsl.right{w:World}{a b:List Ob}(h:Obsl w (a++b)):Obsl w b:=λo ho=>h o (List.mem_append_right _ ho)
theorem At.row{w:World}{b:Nat}{cs:Array Value}{t:TypeId}{fr:Nat×Nat}{n:Nat}(h:At w b (.cells cs t fr))(hn:cs.size=n):(Ob.row ⟨b,0,none⟩ n cs).holds w:=by
 refine ⟨hn,λj hj=>?_⟩;have h:=h.e;have e:(Addr.add ⟨b,0,none⟩ j)=⟨b,j,none⟩:=by unfold Addr.add;split<;>simp_all
 rw [e];simp [World.cell?,h]
theorem At.part{w:World}{b off:Nat}{cs part:Array Value}{t:TypeId}{fr:Nat×Nat}{n:Nat}(h:At w b (.cells cs t fr))(hn:part.size=n)(hp:∀j,j<n->cs[off+j]?=part[j]?):(Ob.row ⟨b,off,none⟩ n part).holds w:=by
 refine ⟨hn,λj hj=>?_⟩;have h:=h.e;have e:(Addr.add ⟨b,off,none⟩ j)=⟨b,off+j,none⟩:=by unfold Addr.add;split<;>simp_all
 rw [e];simp [World.cell?,h,hp j hj]
theorem run_loadCellsFrom{P:Program}{w:World}{a:Addr}{cs:Array Value}(h:∀j,j<cs.size->w.cell? (a.add j)=cs[j]?):
  ∀(n i:Nat) (acc:Array Value),i+n=cs.size->acc.toList=cs.toList.take i->(loadCellsFrom a i n acc).run P w=.ok cs w:=by
 intro n;induction n with
 |zero=>
  intro i acc hi ha;have:acc=cs:=by
   apply Array.ext';rw [ha,List.take_of_length_le (by simp;omega)]
  simp [loadCellsFrom,this]
 |succ n ih=>
  intro i acc hi ha;have hlt:i<cs.size:=by omega
  simp only [loadCellsFrom,Sem.run_bind,run_load,h i hlt,Array.getElem?_eq_getElem hlt,Result.andThen_ok];refine ih (i+1) _ (by omega) ?_;rw [Array.toList_push,ha,List.take_succ_eq_append_getElem (by simpa using hlt)];simp
theorem run_loadCells{P:Program}{w:World}{a:Addr}{n:Nat}{cs:Array Value}(h:(Ob.row a n cs).holds w):(loadCells a n).run P w=.ok cs w:=by
 obtain ⟨hn,h⟩:=h;subst hn;exact run_loadCellsFrom h cs.size 0 #[] (by omega) (by simp)
def look:List (Nat×Value)->Nat->Option Value
 |[],_=>none
 |(j,v)::r,i=>if j=i then some v else look r i
def evL(L:List (Nat×Value)):Operand->Option Value
 |.tmp t=>look L t
 |.const v=>some v
 |.global g=>some (.pointer (some ⟨g,0,none⟩))
 |.func f=>some (.func (.func f) #[] #[])
def evAll(L:List (Nat×Value)):List Operand->Option (List Value)
 |[]=>some []
 |x::r=>match evL L x with
  |some v=>match evAll L r with|some vs=>some (v::vs)|none=>none
  |none=>none
def isAggT(P:Program)(t:TypeId):Option Bool:=
 match P.underlying t with
 |some (.struct _)|some (.array _ _)=>some true
 |some _=>some false
 |none=>none
def sizeT(P:Program)(t:TypeId):Option Nat:=match P.info? t with|some i=>some i.size|none=>none
def bitsV(op:BinOp)(k:IntKind)(a b:Int):Int:=
 match op with
 |.and=>k.wrap (BitVec.ofInt k.bits a&&&BitVec.ofInt k.bits b).toNat
 |.or=>k.wrap (BitVec.ofInt k.bits a|||BitVec.ofInt k.bits b).toNat
 |.xor=>k.wrap (BitVec.ofInt k.bits a^^^BitVec.ofInt k.bits b).toNat
 |.andNot=>k.wrap (BitVec.ofInt k.bits a&&&~~~(BitVec.ofInt k.bits b)).toNat
 |_=>0
def binInt(op:BinOp)(k:IntKind)(a:Int)(k':IntKind)(b:Int):Option (Value×List Ob):=
 match op with
 |.add=>if k=k' then some (.int k (k.wrap (a+b)),[]) else none
 |.sub=>if k=k' then some (.int k (k.wrap (a-b)),[]) else none
 |.mul=>if k=k' then some (.int k (k.wrap (a*b)),[]) else none
 |.quo=>if k=k' then some (.int k (k.wrap (a.tdiv b)),[.prop (b≠0)]) else none
 |.rem=>if k=k' then some (.int k (a.tmod b),[.prop (b≠0)]) else none
 |.and=>if k=k' then some (.int k (bitsV .and k a b),[]) else none
 |.or=>if k=k' then some (.int k (bitsV .or k a b),[]) else none
 |.xor=>if k=k' then some (.int k (bitsV .xor k a b),[]) else none
 |.andNot=>if k=k' then some (.int k (bitsV .andNot k a b),[]) else none
 |.shl=>some (.int k (k.wrap (a*2^(min b.toNat k.bits))),[.prop (0<=b)])
 |.shr=>some (.int k (a.fdiv (2^(min b.toNat k.bits))),[.prop (0<=b)])
 |.eql=>if k=k' then some (.bool (a==b),[]) else none
 |.neq=>if k=k' then some (.bool (a !=b),[]) else none
 |.lss=>if k=k' then some (.bool (decide (a<b)),[]) else none
 |.leq=>if k=k' then some (.bool (decide (a<=b)),[]) else none
 |.gtr=>if k=k' then some (.bool (decide (a>b)),[]) else none
 |.geq=>if k=k' then some (.bool (decide (a>=b)),[]) else none
theorem binInt_run{P:Program}{op:BinOp}{k k':IntKind}{a b:Int}{t:TypeId}{v:Value}{obs:List Ob}{w:World}(h:binInt op k a k' b=some (v,obs))(ho:Obsl w obs):
  (binOp op t (.int k a) (.int k' b)).run P w=.ok v w:=by
 have key:∀{p:Prop} {r:List Ob},obs=.prop p::r->p:=λe=>ho (.prop _) (by rw [e];simp);cases op<;>simp only [binInt] at h<;>(try split at h)<;>(try subst_vars)<;>(try simp only [Option.some.injEq,Prod.mk.injEq,reduceCtorEq] at h)<;>(try obtain ⟨rfl,h2⟩:=h)
 case quo=>
  have hb:b≠0:=key h2.symm;simp [binOp,Op.intDiv,hb]
 case rem=>
  have hb:b≠0:=key h2.symm;simp [binOp,Op.intDiv,hb]
 case shl=>
  have hb:0<=b:=key h2.symm;simp [binOp,Op.shift,Int.not_lt.2 hb]
 case shr=>
  have hb:0<=b:=key h2.symm;simp [binOp,Op.shift,Int.not_lt.2 hb]
 all_goals first
  |(simp [binOp,Op.intArith];done)
  |(simp [binOp,Op.intBits,bitsV];done)
  |(simp [binOp,Op.intCmp];done)
def binStr(op:BinOp)(x y:ByteArray):Option (Value×List Ob):=
 match op with
 |.add=>some (.string (x++y),[.prop ((x.size+y.size:Nat)<=9223372036854775807)])
 |.eql=>some (.bool (x.toList==y.toList),[])
 |.neq=>some (.bool (!(x.toList==y.toList)),[])
 |_=>none
theorem binStr_run{P:Program}{op:BinOp}{x y:ByteArray}{t:TypeId}{v:Value}{obs:List Ob}{w:World}(h:binStr op x y=some (v,obs))(ho:Obsl w obs):
  (binOp op t (.string x) (.string y)).run P w=.ok v w:=by
 cases op<;>simp only [binStr,Option.some.injEq,Prod.mk.injEq,reduceCtorEq] at h<;>obtain ⟨rfl,h2⟩:=h
 case add=>
  have hb:(x.size+y.size:Nat)<=9223372036854775807:=ho (.prop _) (by rw [←h2];simp);have hn:¬(((x.size+y.size:Nat):Int)>IntKind.i64.max):=by
   have:IntKind.i64.max=9223372036854775807:=by decide
   omega
  simp only [binOp,Op.stringOp];rw [if_neg hn];rfl
 all_goals (simp [binOp,Op.stringOp])
def nilTest(d:Option TypeDesc)(x y:Value):Option Bool:=
 match d,x,y with
 |some (.pointer _),.pointer none,.pointer b=>some b.isNone
 |some (.pointer _),.pointer (some _),.pointer none=>some false
 |some (.interface _),.nilIface,.iface _ _=>some false
 |some (.interface _),.iface _ _,.nilIface=>some false
 |some (.slice _),.slice none _ _,.slice b _ _=>some b.isNone
 |some (.slice _),.slice (some _) _ _,.slice none _ _=>some false
 |some .bool,.bool a,.bool b=>some (a==b)
 |_,_,_=>none
theorem nilTest_run{P:Program}{x y:Value}{t:TypeId}{b:Bool}{w:World}(n:Nat)(h:nilTest (P.underlying t) x y=some b):
  (Op.equalIn (n+1) t x y).run P w=.ok b w:=by
 have hu:∀d,P.underlying t=some d->(underlying t).run P w=.ok d w:=λd hd=>by simp [underlying,hd]
 unfold nilTest at h;split at h<;>simp only [Option.some.injEq,reduceCtorEq] at h<;>subst h;all_goals (rename_i hd;simp [Op.equalIn,hu _ hd])
def binNil(op:BinOp)(x y:Value)(P:Program)(t:TypeId):Option Value:=
 match op,nilTest (P.underlying t) x y with
 |.eql,some b=>some (.bool b)
 |.neq,some b=>some (.bool (!b))
 |_,_=>none
theorem binNil_run{P:Program}{op:BinOp}{x y:Value}{t:TypeId}{v:Value}{w:World}(h:binNil op x y P t=some v):
  (binOp op t x y).run P w=.ok v w:=by
 unfold binNil at h;split at h
 ·rename_i b hb;have hr:=nilTest_run (w:=w) 9999 hb;obtain rfl:=Option.some.inj h;unfold nilTest at hb;split at hb<;>simp only [Option.some.injEq,reduceCtorEq] at hb<;>simp [binOp,Op.equal,Op.maxDepth,hr]
 ·rename_i b hb;have hr:=nilTest_run (w:=w) 9999 hb;obtain rfl:=Option.some.inj h;unfold nilTest at hb;split at hb<;>simp only [Option.some.injEq,reduceCtorEq] at hb<;>simp [binOp,Op.equal,Op.maxDepth,hr]
 ·cases h
def evT(L:List (Nat×Value))(x:Operand):Value:=match evL L x with|some v=>v|none=>undef
def knownAll(L:List (Nat×Value)):List Operand->Bool
 |[]=>true
 |x::r=>match evL L x with|some _=>knownAll L r|none=>false
def isSelect:Op->Bool|.select _ _=>true|_=>false
def evElse(P:Program)(L:List (Nat×Value))(o:Oper)(rs:List Value):Option (Value×List Ob×List Value):=
 match rs with
 |v::rs=>if knownAll L o.op.operands.toList&&!isSelect o.op then some (v,[.run P (execOp (evT L) o) v],rs) else none
 |[]=>none
def evLoad(P:Program)(t:TypeId)(x:Option Value)(rs:List Value):Option (Value×List Ob×List Value):=
 match isAggT P t with
 |some false=>match x,rs with
  |some (.pointer (some a)),v::rs=>some (v,[.cell a v],rs)
  |_,_=>none
 |some true=>match x,rs with
  |some (.pointer (some a)),.agg cs::rs=>match sizeT P t with
   |some n=>some (.agg cs,[.row a n cs],rs)
   |none=>none
  |_,_=>none
 |none=>none
def evBin(P:Program)(op:BinOp)(t:TypeId)(x y:Option Value):Option (Value×List Ob):=
 match x,y with
 |some (.int k a),some (.int k' b)=>binInt op k a k' b
 |some (.string a),some (.string b)=>binStr op a b
 |some x,some y=>match binNil op x y P t with
  |some v=>some (v,[])
  |none=>none
 |_,_=>none
def evUn(op:UnOp)(x:Option Value):Option Value:=
 match op,x with
 |.not,some (.bool b)=>some (.bool (!b))
 |.xor,some (.int k n)=>some (.int k (bitsV .xor k (if k.signed then-1 else k.max) n))
 |.neg,some (.int k n)=>some (.int k (k.wrap (0-n)))
 |_,_=>none
def evConv(P:Program)(s d:TypeId)(x:Option Value):Option Value:=
 match P.underlying s,P.underlying d,x with
 |some _,some (.int k),some (.int _ n)=>some (.int k (k.wrap n))
 |some .string,some .string,some (.string s)=>some (.string s)
 |_,_,_=>none
def evFieldAddr(P:Program)(t:TypeId)(x:Option Value)(f:Nat):Option Value:=
 match P.underlying t,x with
 |some (.struct fs),some (.pointer (some ⟨b,off,none⟩))=>match fs[f]? with
  |some fd=>match sizeT P fd.type with
   |some (_+1)=>some (.pointer (some ⟨b,off+fd.offset,none⟩))
   |_=>none
  |none=>none
 |_,_=>none
def evField(P:Program)(t:TypeId)(x:Option Value)(f:Nat):Option Value:=
 match P.underlying t,x with
 |some (.struct fs),some (.agg cs)=>match fs[f]? with
  |some fd=>match isAggT P fd.type,sizeT P fd.type with
   |some true,some n=>some (.agg (cs.extract fd.offset (fd.offset+n)))
   |some false,some _=>cs[fd.offset]?
   |_,_=>none
  |none=>none
 |_,_=>none
def evIndexAddr(P:Program)(t:TypeId)(x i:Option Value):Option (Value×List Ob):=
 match P.underlying t,x,i with
 |some (.array len e),some (.pointer (some ⟨b,off,none⟩)),some (.int _ i)=>match sizeT P e with
  |some n=>some (.pointer (some ⟨b,off+i.toNat*n,none⟩),[.prop (0<=i/\i<len)])
  |none=>none
 |some (.slice e),some (.slice (some ⟨b,off,none⟩) len _),some (.int _ i)=>match sizeT P e with
  |some n=>some (.pointer (some ⟨b,off+i.toNat*n,none⟩),[.prop (0<=i/\i<len)])
  |none=>none
 |_,_,_=>none
def evIndex(P:Program)(t:TypeId)(x i:Option Value)(rs:List Value):Option (Value×List Ob×List Value):=
 match P.underlying t,x,i,rs with
 |some .string,some (.string s),some (.int _ i),.int .u8 n::rs=>some (.int .u8 n,[.prop (0<=i/\∃b,s[i.toNat]?=some b/\n=b.toNat)],rs)
 |some (.array len e),some (.agg cs),some (.int _ i),v::rs=>match isAggT P e,sizeT P e with
  |some false,some n=>some (v,[.prop ((0<=i/\i<len)/\cs[i.toNat*n]?=some v)],rs)
  |_,_=>none
 |_,_,_,_=>none
def evSlice(P:Program)(t:TypeId)(x:Option Value)(lo hi:Option (Option Value)):Option (Value×List Ob):=
 match P.underlying t,x,lo,hi with
 |some .string,some (.string s),none,none=>some (.string (s.extract 0 s.size),[])
 |some .string,some (.string s),some (some (.int _ l)),none=>some (.string (s.extract l.toNat s.size),[.prop (0<=l/\l<=s.size)])
 |some .string,some (.string s),none,some (some (.int _ h))=>some (.string (s.extract 0 h.toNat),[.prop (0<=h/\h<=s.size)])
 |some .string,some (.string s),some (some (.int _ l)),some (some (.int _ h))=>some (.string (s.extract l.toNat h.toNat),[.prop (0<=l/\l<=h/\h<=s.size)])
 |_,_,_,_=>none
def evSliceA(P:Program)(t:TypeId)(x:Option Value)(lo hi:Option (Option Value)):Option (Value×List Ob):=
 match P.underlying t,x,lo,hi with
 |some (.array n e),some (.pointer (some ⟨b,off,none⟩)),none,none=>match sizeT P e with
  |some _=>some (.slice (some ⟨b,off,none⟩) n n,[])
  |none=>none
 |some (.array n e),some (.pointer (some ⟨b,off,none⟩)),none,some (some (.int _ h))=>match sizeT P e with
  |some _=>some (.slice (some ⟨b,off,none⟩) h.toNat n,[.prop (0<=h/\h<=n)])
  |none=>none
 |_,_,_,_=>none
def evLen(P:Program)(t:Option TypeId)(x:Option Value):Option Value:=
 match t with
 |some t=>match P.underlying t,x with
  |some .string,some (.string s)=>some (.int .i64 s.size)
  |some (.slice _),some (.slice _ n _)=>some (.int .i64 n)
  |some (.array n _),some _=>some (.int .i64 n)
  |_,_=>none
 |none=>none
def just(rs:List Value):Option Value->Option (Value×List Ob×List Value)
 |some v=>some (v,[],rs)
 |none=>none
def justO(rs:List Value):Option (Value×List Ob)->Option (Value×List Ob×List Value)
 |some (v,obs)=>some (v,obs,rs)
 |none=>none
def evParts(L:List (Nat×Value)):List (Nat×Operand)->Option (List (Nat×Value))
 |[]=>some []
 |(i,x)::r=>match evL L x with
  |some v=>match evParts L r with|some l=>some ((i,v)::l)|none=>none
  |none=>none
def evOp(P:Program)(L:List (Nat×Value))(o:Oper)(rs:List Value):Option (Value×List Ob×List Value):=
 match o.op with
 |.move x|.assign x=>just rs (evL L x)
 |.pick c a b=>match evL L c,evL L a,evL L b with
  |some (.bool c),some va,some vb=>some (bif c then va else vb,[],rs)
  |_,_,_=>none
 |.nilCheck x=>match evL L x with
  |some (.pointer (some a))=>some (.pointer (some a),[],rs)
  |_=>none
 |.load t x=>evLoad P t (evL L x) rs
 |.binOp op t x y _=>match justO rs (evBin P op t (evL L x) (evL L y)) with
  |some r=>some r
  |none=>evElse P L o rs
 |.unOp op _ x=>just rs (evUn op (evL L x))
 |.convert s d x=>just rs (evConv P s d (evL L x))
 |.fieldAddr t x f=>just rs (evFieldAddr P t (evL L x) f)
 |.field t x f=>just rs (evField P t (evL L x) f)
 |.indexAddr t x i=>justO rs (evIndexAddr P t (evL L x) (evL L i))
 |.index t x i=>evIndex P t (evL L x) (evL L i) rs
 |.extract x i=>match evL L x with
  |some (.tuple vs)=>just rs vs[i]?
  |_=>none
 |.makeInterface t x=>match P.underlying t,evL L x with
  |some (.interface _),_=>none
  |some _,some v=>some (.iface t v,[],rs)
  |_,_=>none
 |.build t parts=>match evParts L parts.toList with
  |some ps=>match P.built t ps with
   |some cells=>some (.agg cells,[],rs)
   |none=>none
  |none=>none
 |.slice t x lo hi none=>match justO rs (evSlice P t (evL L x) (lo.map (evL L)) (hi.map (evL L))) with
  |some r=>some r
  |none=>match justO rs (evSliceA P t (evL L x) (lo.map (evL L)) (hi.map (evL L))) with
   |some r=>some r
   |none=>evElse P L o rs
 |.call c=>match c.callee,c.args.toList with
  |.builtin .len,[x]=>just rs (evLen P c.argTypes[0]? (evL L x))
  |_,_=>evElse P L o rs
 |_=>evElse P L o rs
section
variable{P:Program}{w:World}{L:List (Nat×Value)}{ρ:Operand->Value}
def Agrees(L:List (Nat×Value))(ρ:Operand->Value):Prop:=∀x v,evL L x=some v->ρ x=v
theorem runU{t:TypeId}{d:TypeDesc}(h:P.underlying t=some d):(underlying t).run P w=.ok d w:=by simp [underlying,h]
theorem runSize{t n:Nat}(h:sizeT P t=some n):(sizeOf t).run P w=.ok n w:=by
 unfold sizeT at h;split at h
 ·rename_i i hi;obtain rfl:=Option.some.inj h;simp [sizeOf,typeInfo,hi]
 ·cases h
theorem runAgg{t:TypeId}{b:Bool}(h:isAggT P t=some b):(isAgg t).run P w=.ok b w:=by
 unfold isAggT at h;split at h<;>simp only [Option.some.injEq,reduceCtorEq] at h<;>subst h
 ·rename_i hd;simp [isAgg,runU hd]
 ·rename_i hd;simp [isAgg,runU hd]
 ·rename_i d h1 h2 hd;simp only [isAgg,Sem.run_bind,runU hd,Result.andThen_ok];cases d<;>first|rfl|exact absurd rfl (h1 _)|exact absurd rfl (h2 _ _)
theorem known_agrees(h:Agrees L ρ):∀{l:List Operand},knownAll L l=true->∀x∈l,ρ x=evT L x
 |[],_,x,hx=>by cases hx
 |y::r,hk,x,hx=>by
  simp only [knownAll] at hk;cases hy:evL L y with
  |none=>rw [hy] at hk;cases hk
  |some v=>
   rw [hy] at hk;rcases List.mem_cons.1 hx with rfl|hx
   ·rw [h _ _ hy];simp [evT,hy]
   ·exact known_agrees h hk x hx
theorem evElse_run{o:Oper}{rs rs':List Value}{v:Value}{obs:List Ob}(h:evElse P L o rs=some (v,obs,rs'))(ha:Agrees L ρ)(ho:Obsl w obs):
  (execOp ρ o).run P w=.ok (.value v) w:=by
 unfold evElse at h;split at h
 ·split at h
  ·rename_i v' rs1 hk;simp only [Option.some.injEq,Prod.mk.injEq] at h;obtain ⟨rfl,rfl,rfl⟩:=h;simp only [Bool.and_eq_true,Bool.not_eq_true'] at hk;have hh:(execOp (evT L) o).run P w=.ok (.value v') w:=ho (.run P (execOp (evT L) o) v') (by simp);rw [←hh];congr 1;refine execOp_congr o (λcs b e=>?_) λx hx=>known_agrees ha hk.1 x (by simpa using hx);rw [e] at hk;simp [isSelect] at hk
  ·cases h
 ·cases h
theorem evLoad_run{t:TypeId}{x:Operand}{rs rs':List Value}{v:Value}{obs:List Ob}(h:evLoad P t (evL L x) rs=some (v,obs,rs'))(ha:Agrees L ρ)(ho:Obsl w obs):
  (Instr.loadAt t (ρ x)).run P w=.ok v w:=by
 unfold evLoad at h;split at h
 ·rename_i hag;split at h<;>simp only [Option.some.injEq,Prod.mk.injEq,reduceCtorEq] at h;rename_i a u rs1 hx;obtain ⟨rfl,rfl,rfl⟩:=h;have hc:w.cell? a=some u:=ho (.cell a u) (by simp);simp [Instr.loadAt,ha _ _ hx,Instr.sureAddr,loadVar,runAgg hag,hc]
 ·rename_i hag;split at h
  ·rename_i a cs rs1 hx;split at h<;>simp only [Option.some.injEq,Prod.mk.injEq,reduceCtorEq] at h;rename_i n hn;obtain ⟨rfl,rfl,rfl⟩:=h;have hc:(Ob.row a n cs).holds w:=ho _ (by simp);simp [Instr.loadAt,ha _ _ hx,Instr.sureAddr,loadVar,runAgg hag,runSize hn,run_loadCells hc]
  ·cases h
 ·cases h
theorem evBin_run{op:BinOp}{t ty:TypeId}{x y:Operand}{v:Value}{obs:List Ob}(h:evBin P op t (evL L x) (evL L y)=some (v,obs))(ha:Agrees L ρ)(ho:Obsl w obs):
  (do eqGuard op t x y (ρ x) (ρ y);binOp op t (ρ x) (ρ y):Sem Value).run P w=.ok v w:=by
 have guard:∀a b,(∀(_:a=.nilIface) (_:b=.nilIface),False)->(∀cs ds,a=.agg cs->b=.agg ds->False)->(eqGuard op t x y a b).run P w=.ok () w:=by
  intro a b h1 h2;unfold eqGuard;cases a<;>cases b<;>first|(exfalso;exact h1 rfl rfl)|(exfalso;exact h2 _ _ rfl rfl)|simp
 unfold evBin at h;split at h
 ·rename_i k a k' b hx hy;rw [ha _ _ hx,ha _ _ hy];simp [guard,binInt_run h ho]
 ·rename_i a b hx hy;rw [ha _ _ hx,ha _ _ hy];simp [guard,binStr_run h ho]
 ·rename_i a b _ _ hx hy;split at h<;>simp only [Option.some.injEq,Prod.mk.injEq,reduceCtorEq] at h;rename_i u hu;obtain ⟨rfl,_⟩:=h;rw [ha _ _ hx,ha _ _ hy];have hr:=binNil_run (w:=w) hu;have g:(eqGuard op t x y a b).run P w=.ok () w:=by
   refine guard a b ?_ ?_
   ·rintro rfl rfl;unfold binNil nilTest at hu;cases P.underlying t with
    |none=>cases op<;>simp at hu
    |some d=>cases d<;>cases op<;>simp at hu
   ·rintro cs ds rfl rfl;unfold binNil nilTest at hu;cases P.underlying t with
    |none=>cases op<;>simp at hu
    |some d=>cases d<;>cases op<;>simp at hu
  simp [g,hr]
 ·cases h
theorem evUn_run{op:UnOp}{x:Operand}{v:Value}(h:evUn op (evL L x)=some v)(ha:Agrees L ρ):(Op.unary op (ρ x)).run P w=.ok v w:=by
 unfold evUn at h;split at h<;>simp only [Option.some.injEq,reduceCtorEq] at h<;>subst h
 ·rename_i hx;rw [ha _ _ hx];simp [Op.unary]
 ·rename_i hx;rw [ha _ _ hx];simp [Op.unary,Op.intBits,bitsV]
 ·rename_i hx;rw [ha _ _ hx];simp [Op.unary,Op.intArith]
theorem evConv_run{s d:TypeId}{x:Operand}{v:Value}(h:evConv P s d (evL L x)=some v)(ha:Agrees L ρ):(convert s d (ρ x)).run P w=.ok v w:=by
 unfold evConv at h;split at h<;>simp only [Option.some.injEq,reduceCtorEq] at h<;>subst h
 ·rename_i hs hd hx;rw [ha _ _ hx];simp [convert,runU hs,runU hd,Conv.intToInt]
 ·rename_i hs hd hx;rw [ha _ _ hx];simp [convert,runU hs,runU hd]
theorem add_none(b off k:Nat):(Addr.add ⟨b,off,none⟩ k)=⟨b,off+k,none⟩:=by unfold Addr.add;split<;>simp_all
theorem evFieldAddr_run{t:TypeId}{x:Operand}{f:Nat}{v:Value}(h:evFieldAddr P t (evL L x) f=some v)(ha:Agrees L ρ):(Instr.fieldAt t (ρ x) f).run P w=.ok v w:=by
 unfold evFieldAddr at h;split at h
 ·rename_i fs b off ht hx;split at h
  ·rename_i fd hf;split at h<;>simp only [Option.some.injEq,reduceCtorEq] at h;rename_i n hn;subst h;rw [ha _ _ hx];simp [Instr.fieldAt,runU ht,hf,Instr.sureAddr,fieldPlace,runSize hn,add_none]
  ·cases h
 ·cases h
theorem evField_run{t:TypeId}{x:Operand}{f:Nat}{v:Value}(h:evField P t (evL L x) f=some v)(ha:Agrees L ρ):(Instr.field t (ρ x) f).run P w=.ok v w:=by
 unfold evField at h;split at h
 ·rename_i fs cs ht hx;split at h
  ·rename_i fd hf;split at h
   ·rename_i n hag hn;simp only [Option.some.injEq] at h;subst h;rw [ha _ _ hx];simp [Instr.field,runU ht,hf,asAgg,part,runAgg hag,runSize hn]
   ·rename_i n hag hn;rw [ha _ _ hx];simp [Instr.field,runU ht,hf,asAgg,part,runAgg hag,h]
   ·cases h
  ·cases h
 ·cases h
theorem evIndexAddr_run{t:TypeId}{x i:Operand}{v:Value}{obs:List Ob}(h:evIndexAddr P t (evL L x) (evL L i)=some (v,obs))(ha:Agrees L ρ)(ho:Obsl w obs):
  (Instr.indexAt t (ρ x) (ρ i)).run P w=.ok v w:=by
 unfold evIndexAddr at h;split at h
 ·rename_i len e b off k i' ht hx hi;split at h<;>simp only [Option.some.injEq,Prod.mk.injEq,reduceCtorEq] at h;rename_i n hn;obtain ⟨rfl,rfl⟩:=h;have hb:0<=i'/\i'<len:=ho (.prop _) (by simp);rw [ha _ _ hx,ha _ _ hi];simp [Instr.indexAt,asIntOf,runU ht,Instr.sureAddr,hb,runSize hn,add_none]
 ·rename_i e b off len cap k i' ht hx hi;split at h<;>simp only [Option.some.injEq,Prod.mk.injEq,reduceCtorEq] at h;rename_i n hn;obtain ⟨rfl,rfl⟩:=h;have hb:0<=i'/\i'<len:=ho (.prop _) (by simp);rw [ha _ _ hx,ha _ _ hi];simp [Instr.indexAt,asIntOf,runU ht,hb,runSize hn,add_none]
 ·cases h
theorem evIndex_run{t:TypeId}{x i:Operand}{rs rs':List Value}{v:Value}{obs:List Ob}(h:evIndex P t (evL L x) (evL L i) rs=some (v,obs,rs'))(ha:Agrees L ρ)(ho:Obsl w obs):
  (Instr.index t (ρ x) (ρ i)).run P w=.ok v w:=by
 unfold evIndex at h;split at h
 ·rename_i s k i' n rs1 ht hx hi;simp only [Option.some.injEq,Prod.mk.injEq] at h;obtain ⟨rfl,rfl,rfl⟩:=h;obtain ⟨h0,b,hb,hn⟩:0<=i'/\∃b,s[i'.toNat]?=some b/\n=b.toNat:=ho (.prop _) (by simp);rw [ha _ _ hx,ha _ _ hi];simp [Instr.index,asIntOf,runU ht,h0,hb,hn]
 ·rename_i len e cs k i' v' rs1 ht hx hi;split at h<;>simp only [Option.some.injEq,Prod.mk.injEq,reduceCtorEq] at h;rename_i n hag hn;obtain ⟨rfl,rfl,rfl⟩:=h;obtain ⟨hb,hv⟩:(0<=i'/\i'<len)/\cs[i'.toNat*n]?=some v':=ho (.prop _) (by simp);rw [ha _ _ hx,ha _ _ hi];simp [Instr.index,asIntOf,runU ht,hb,runSize hn,part,runAgg hag,hv]
 ·cases h
theorem evSlice_run{t:TypeId}{x:Operand}{lo hi:Option Operand}{v:Value}{obs:List Ob}(h:evSlice P t (evL L x) (lo.map (evL L)) (hi.map (evL L))=some (v,obs))(ha:Agrees L ρ)(ho:Obsl w obs):
  (Instr.sliceAt t (ρ x) (lo.map ρ) (hi.map ρ) none).run P w=.ok v w:=by
 unfold evSlice at h;have lo1:∀{y:Option Operand} {k:IntKind} {l:Int},y.map (evL L)=some (some (.int k l))->y.map ρ=some (.int k l):=by
  intro y k l hy;cases y with
  |none=>simp at hy
  |some y=>simp at hy;simp [ha _ _ hy]
 have lo0:∀{y:Option Operand},y.map (evL L)=none->y.map ρ=none:=by intro y hy;cases y<;>simp_all
 split at h<;>simp only [Option.some.injEq,Prod.mk.injEq,reduceCtorEq] at h<;>obtain ⟨rfl,rfl⟩:=h
 ·rename_i s ht hx hl hh;rw [ha _ _ hx,lo0 hl,lo0 hh];simp [Instr.sliceAt,runU ht,Instr.slice,Instr.sliceBounds]
 ·rename_i s k l ht hx hl hh;have hb:0<=l/\l<=s.size:=ho (.prop _) (by simp);rw [ha _ _ hx,lo1 hl,lo0 hh];simp [Instr.sliceAt,runU ht,Instr.slice,Instr.sliceBounds,Instr.sliceBound,asIntOf,hb]
 ·rename_i s k l ht hx hl hh;have hb:0<=l/\l<=s.size:=ho (.prop _) (by simp);rw [ha _ _ hx,lo0 hl,lo1 hh];simp [Instr.sliceAt,runU ht,Instr.slice,Instr.sliceBounds,Instr.sliceBound,asIntOf,hb]
 ·rename_i s k l k' h' ht hx hl hh;have hb:0<=l/\l<=h'/\h'<=s.size:=ho (.prop _) (by simp);have h0:0<=h':=by omega
  rw [ha _ _ hx,lo1 hl,lo1 hh];have e:(h'.toNat:Int)=h':=by omega
  simp [Instr.sliceAt,runU ht,Instr.slice,Instr.sliceBounds,Instr.sliceBound,asIntOf,hb,h0,e]
theorem evSliceA_run{t:TypeId}{x:Operand}{lo hi:Option Operand}{v:Value}{obs:List Ob}(h:evSliceA P t (evL L x) (lo.map (evL L)) (hi.map (evL L))=some (v,obs))(ha:Agrees L ρ)(ho:Obsl w obs):
  (Instr.sliceAt t (ρ x) (lo.map ρ) (hi.map ρ) none).run P w=.ok v w:=by
 unfold evSliceA at h;have lo1:∀{y:Option Operand} {k:IntKind} {l:Int},y.map (evL L)=some (some (.int k l))->y.map ρ=some (.int k l):=by
  intro y k l hy;cases y with
  |none=>simp at hy
  |some y=>simp at hy;simp [ha _ _ hy]
 have lo0:∀{y:Option Operand},y.map (evL L)=none->y.map ρ=none:=by intro y hy;cases y<;>simp_all
 have ad:∀b off,(Addr.add ⟨b,off,none⟩ 0)=⟨b,off,none⟩:=by intro b off;unfold Addr.add;split<;>simp_all
 split at h
 ·rename_i n e b off ht hx hl hh;split at h
  ·rename_i sz hsz;simp only [Option.some.injEq,Prod.mk.injEq] at h;obtain ⟨rfl,rfl⟩:=h;rw [ha _ _ hx,lo0 hl,lo0 hh];simp [Instr.sliceAt,runU ht,Instr.sureAddr,Instr.sliceBounds,runSize hsz,ad]
  ·cases h
 ·rename_i n e b off k h' ht hx hl hh;split at h
  ·rename_i sz hsz;simp only [Option.some.injEq,Prod.mk.injEq] at h;obtain ⟨rfl,rfl⟩:=h;have hb:0<=h'/\h'<=n:=ho (.prop _) (by simp);rw [ha _ _ hx,lo0 hl,lo1 hh];simp [Instr.sliceAt,runU ht,Instr.sureAddr,Instr.sliceBounds,Instr.sliceBound,asIntOf,hb,runSize hsz,ad]
  ·cases h
 ·cases h
theorem evLen_run{ts:Array TypeId}{ty:TypeId}{x:Operand}{v:Value}{pos:String}{dst:Option Tmp}{af:Array Edge}{g:Option (Nat×Bool)}(h:evLen P ts[0]? (evL L x)=some v)(ha:Agrees L ρ):
  (execOp ρ ⟨dst,.call {callee:=.builtin .len,args:=#[x],argTypes:=ts},ty,pos,af,g⟩).run P w=.ok (.value v) w:=by
 unfold evLen at h;split at h
 ·rename_i t hts;split at h<;>simp only [Option.some.injEq,reduceCtorEq] at h<;>subst h
  ·rename_i ht hx;simp [execOp,resolve,invoke,builtin,Builtin.len_,hts,runU ht,ha _ _ hx,goInt]
  ·rename_i ht hx;simp [execOp,resolve,invoke,builtin,Builtin.len_,hts,runU ht,ha _ _ hx,goInt]
  ·rename_i ht hx;simp [execOp,resolve,invoke,builtin,Builtin.len_,hts,runU ht,ha _ _ hx,goInt]
 ·cases h
theorem just_some{rs rs':List Value}{x:Option Value}{v:Value}{obs:List Ob}(h:just rs x=some (v,obs,rs')):x=some v/\obs=[]:=by
 unfold just at h;cases x with
 |none=>cases h
 |some u=>simp only [Option.some.injEq,Prod.mk.injEq] at h;exact ⟨by rw [h.1],h.2.1.symm⟩
theorem justO_some{rs rs':List Value}{x:Option (Value×List Ob)}{v:Value}{obs:List Ob}(h:justO rs x=some (v,obs,rs')):x=some (v,obs):=by
 unfold justO at h;cases x with
 |none=>cases h
 |some u=>obtain ⟨a,b⟩:=u;simp only [Option.some.injEq,Prod.mk.injEq] at h;simp [h.1,h.2.1]
theorem evParts_run(ha:Agrees L ρ):∀{l:List (Nat×Operand)} {ps:List (Nat×Value)},evParts L l=some ps->l.map (λ(i,x)=>(i,ρ x))=ps
 |[],ps,h=>by simp only [evParts,Option.some.injEq] at h;subst h;rfl
 |(i,x)::r,ps,h=>by
  simp only [evParts] at h;split at h
  ·rename_i v hv;split at h
   ·rename_i l hl;obtain rfl:=Option.some.inj h;simp only [List.map_cons,ha _ _ hv,evParts_run ha hl]
   ·cases h
  ·cases h
theorem evOp_run{o:Oper}{rs rs':List Value}{v:Value}{obs:List Ob}(h:evOp P L o rs=some (v,obs,rs'))(ha:Agrees L ρ)(ho:Obsl w obs):
  (execOp ρ o).run P w=.ok (.value v) w:=by
 obtain ⟨dst,op,ty,pos,after,guard⟩:=o;unfold evOp at h;split at h
 ·rename_i x hop;simp only at hop;subst hop;simp [execOp,ha _ _ (just_some h).1]
 ·rename_i x hop;simp only at hop;subst hop;simp [execOp,ha _ _ (just_some h).1]
 ·rename_i c a b hop;simp only at hop;subst hop;split at h<;>simp only [Option.some.injEq,Prod.mk.injEq,reduceCtorEq] at h;rename_i c' va vb hc hva hvb;obtain ⟨rfl,_,_⟩:=h;simp only [execOp,ha _ _ hc,ha _ _ hva,ha _ _ hvb];cases c'<;>simp [asBool]
 ·rename_i x hop;simp only at hop;subst hop;split at h<;>simp only [Option.some.injEq,Prod.mk.injEq,reduceCtorEq] at h;rename_i a hx;obtain ⟨rfl,_,_⟩:=h;simp [execOp,ha _ _ hx]
 ·rename_i t x hop;simp only at hop;subst hop;simp [execOp,evLoad_run h ha ho]
 ·rename_i op' t x y yt hop;simp only at hop;subst hop;split at h
  ·rename_i r hr;obtain rfl:=Option.some.inj h;have:=evBin_run (ty:=ty) (justO_some hr) ha ho;simp only [execOp,Sem.run_bind,this];rfl
  ·exact evElse_run h ha ho
 ·rename_i op' t x hop;simp only at hop;subst hop;simp [execOp,evUn_run (just_some h).1 ha]
 ·rename_i s d x hop;simp only at hop;subst hop;simp [execOp,evConv_run (just_some h).1 ha]
 ·rename_i t x f hop;simp only at hop;subst hop;simp [execOp,evFieldAddr_run (just_some h).1 ha]
 ·rename_i t x f hop;simp only at hop;subst hop;simp [execOp,evField_run (just_some h).1 ha]
 ·rename_i t x i hop;simp only at hop;subst hop;simp [execOp,evIndexAddr_run (justO_some h) ha ho]
 ·rename_i t x i hop;simp only at hop;subst hop;simp [execOp,evIndex_run h ha ho]
 ·rename_i x i hop;simp only at hop;subst hop;split at h
  ·rename_i vs hx;have:=(just_some h).1;simp [execOp,ha _ _ hx,Instr.extract,this]
  ·cases h
 ·rename_i t x hop;simp only at hop;subst hop;split at h<;>simp only [Option.some.injEq,Prod.mk.injEq,reduceCtorEq] at h;rename_i d v' hni ht hx;obtain ⟨rfl,_,_⟩:=h;simp only [execOp,Instr.makeInterface,ha _ _ hx,Sem.run_bind,runU ht,Result.andThen_ok];cases d<;>first|rfl|exact absurd rfl (hni _)
 ·rename_i t parts hop;simp only at hop;subst hop;split at h
  ·rename_i ps hps;split at h
   ·rename_i cells hb;simp only [Option.some.injEq,Prod.mk.injEq] at h;obtain ⟨rfl,_,_⟩:=h;have hb':P.built t (parts.map λ(i,x)=>(i,ρ x)).toList=some cells:=by
     rw [Array.toList_map,evParts_run ha hps];exact hb
    simp only [execOp,Sem.run_bind,run_build w t _ cells hb',Result.andThen_ok];rfl
   ·cases h
  ·cases h
 ·rename_i t x lo hi hop;simp only at hop;subst hop;split at h
  ·rename_i r hr;obtain rfl:=Option.some.inj h;have:=evSlice_run (justO_some hr) ha ho;simp [execOp,this]
  ·split at h
   ·rename_i r hr;obtain rfl:=Option.some.inj h;have:=evSliceA_run (justO_some hr) ha ho;simp [execOp,this]
   ·exact evElse_run h ha ho
 ·rename_i c hop;simp only at hop;subst hop;split at h
  ·rename_i x hc hx;obtain ⟨callee,args,ts⟩:=c;simp only at hc hx h;subst hc;obtain rfl:args=#[x]:=by apply Array.ext';simpa using hx
   exact evLen_run (just_some h).1 ha
  ·exact evElse_run h ha ho
 ·exact evElse_run h ha ho
end
structure Hold(n:Nat)(L:List (Nat×Value))(D:List Deferred)(a:Act):Prop where
 size:a.tmps.size=n
 get:∀i v,look L i=some v->a.tmps[i]?=some v
 defers:a.defers=D
theorem Hold.agrees{n:Nat}{L:List (Nat×Value)}{D:List Deferred}{a:Act}(h:Hold n L D a):Agrees L a.eval:=by
 intro x v hx;cases x with
 |tmp t=>
  have:=h.get t v hx;simp [Act.eval,Array.getD_eq_getD_getElem?,this]
 |const u=>simp only [evL,Option.some.injEq] at hx;simp [Act.eval,hx]
 |global g=>simp only [evL,Option.some.injEq] at hx;simp [Act.eval,hx]
 |func f=>simp only [evL,Option.some.injEq] at hx;simp [Act.eval,hx]
theorem Hold.put{n:Nat}{L:List (Nat×Value)}{D:List Deferred}{a:Act}(h:Hold n L D a){d:Nat}(hd:d<n)(v:Value):Hold n ((d,v)::L) D (a.put (some d) v):=by
 refine ⟨by simp [Act.put,h.size],λi u hi=>?_,h.defers⟩;simp only [look] at hi;simp only [Act.put];split at hi
 ·rename_i e;subst e;obtain rfl:=Option.some.inj hi;rw [Array.getElem?_setIfInBounds_self_of_lt (by rw [h.size];exact hd)]
 ·rename_i e;rw [Array.getElem?_setIfInBounds_ne e];exact h.get i u hi
def setD(dst:Option Nat)(v:Value)(L:List (Nat×Value)):List (Nat×Value):=match dst with|some d=>(d,v)::L|none=>L
def dstOk(dst:Option Nat)(n:Nat):Bool:=match dst with|some d=>decide (d<n)|none=>true
theorem Hold.setD{n:Nat}{L:List (Nat×Value)}{D:List Deferred}{a:Act}(h:Hold n L D a){dst:Option Nat}(hd:dstOk dst n=true)(v:Value):Hold n (setD dst v L) D (a.put dst v):=by
 cases dst with
 |none=>exact h
 |some d=>exact h.put (by simpa [dstOk] using hd) v
def keepL(L:List (Nat×Value)):List Nat->Option (List (Nat×Value))
 |[]=>some []
 |i::r=>match look L i with
  |some v=>match keepL L r with|some l=>some ((i,v)::l)|none=>none
  |none=>none
theorem keepL_look{L:List (Nat×Value)}:∀{ks:List Nat} {L':List (Nat×Value)},keepL L ks=some L'->∀i v,look L' i=some v->look L i=some v
 |[],L',h,i,v,hi=>by simp only [keepL,Option.some.injEq] at h;subst h;simp [look] at hi
 |k::r,L',h,i,v,hi=>by
  simp only [keepL] at h;split at h
  ·rename_i u hu;split at h
   ·rename_i l hl;obtain rfl:=Option.some.inj h;simp only [look] at hi;split at hi
    ·rename_i e;subst e;rw [←hi];exact hu
    ·exact keepL_look hl i v hi
   ·cases h
  ·cases h
theorem Hold.keep{n:Nat}{L L':List (Nat×Value)}{D:List Deferred}{a:Act}{ks:List Nat}(h:Hold n L D a)(hk:keepL L ks=some L'):Hold n L' D a:=
 ⟨h.size,λi v hi=>h.get i v (keepL_look hk i v hi),h.defers⟩
theorem Hold.sub{n:Nat}{L L':List (Nat×Value)}{D:List Deferred}{a:Act}(h:Hold n L D a)(hk:∀i v,look L' i=some v->look L i=some v):Hold n L' D a:=
 ⟨h.size,λi v hi=>h.get i v (hk i v hi),h.defers⟩
def wantedL(ops:List Oper)(L:List (Nat×Value))(o:Oper):Option Bool:=
 match o.guard with
 |none=>some true
 |some (j,want)=>match ops[j]? with
  |some oj=>match oj.dst with
   |some t=>match look L t with
    |some (.bool b)=>some (b==want)
    |some _=>some false
    |none=>none
   |none=>some false
  |none=>some false
theorem wantedL_spec{n:Nat}{L:List (Nat×Value)}{D:List Deferred}{a:Act}{ops:Array Oper}{o:Oper}{b:Bool}(h:Hold n L D a)(hw:wantedL ops.toList L o=some b):
  Region.wanted o (yielded ops a.tmps)=b:=by
 unfold wantedL at hw;unfold Region.wanted;cases hg:o.guard with
 |none=>rw [hg] at hw;simpa using hw
 |some jw=>
  obtain ⟨j,want⟩:=jw;rw [hg] at hw;simp only at hw⊢;unfold yielded;have hj:ops.toList[j]?=ops[j]?:=by simp
  rw [hj] at hw;cases ho:ops[j]? with
  |none=>rw [ho] at hw;simp at hw;simp [hw]
  |some oj=>
   rw [ho] at hw;simp only at hw;cases hd:oj.dst with
   |none=>rw [hd] at hw;simp at hw;simp [hd,hw]
   |some t=>
    rw [hd] at hw;simp only at hw;cases hl:look L t with
    |none=>rw [hl] at hw;cases hw
    |some v=>
     have hv:=h.get t v hl;rw [hl] at hw;simp only [Option.bind_some,hd,hv];cases v<;>simp_all
def evGo(P:Program)(n:Nat)(ops:List Oper):List Oper->List (Nat×Value)->List Value->Option (List (Nat×Value)×List Ob)
 |[],L,rs=>match rs with|[]=>some (L,[])|_::_=>none
 |o::r,L,rs=>match wantedL ops L o with
  |some true=>match evOp P L o rs with
   |some (v,obs,rs')=>match dstOk o.dst n with
    |true=>match evGo P n ops r (setD o.dst v L) rs' with
     |some (L',obs')=>some (L',obs++obs')
     |none=>none
    |false=>none
   |none=>none
  |some false=>match dstOk o.dst n with
   |true=>evGo P n ops r (setD o.dst undef L) rs
   |false=>none
  |none=>none
def evSeg(P:Program)(n:Nat)(ops:List Oper)(k m:Nat)(L:List (Nat×Value))(rs:List Value)(keep:List Nat):Option (List (Nat×Value)×List Ob):=
 match evGo P n ops ((ops.drop k).take m) L rs with
 |some (L',obs)=>match keepL L' keep with|some L''=>some (L'',obs)|none=>none
 |none=>none
section
variable{P:Program}{n:Nat}{D:List Deferred}{ops:Array Oper}{Q:Exit->Act->World->Prop}{w:World}{L:List (Nat×Value)}
theorem evGo_wp:∀{l:List Oper} {rest:List Oper} {L L':List (Nat×Value)} {rs:List Value} {obs:List Ob},evGo P n ops.toList l L rs=some (L',obs)->Obsl w obs->
  (∀a,Hold n L' D a->wpList P ops Q rest a w)->∀a,Hold n L D a->wpList P ops Q (l++rest) a w
 |[],rest,L,L',rs,obs,h,_,hk,a,ha=>by
  simp only [evGo] at h;split at h
  ·simp only [Option.some.injEq,Prod.mk.injEq] at h;obtain ⟨rfl,_⟩:=h;exact hk a ha
  ·cases h
 |o::r,rest,L,L',rs,obs,h,ho,hk,a,ha=>by
  simp only [evGo] at h;split at h
  ·rename_i hw;split at h
   ·rename_i v obs1 rs' hv;split at h
    ·rename_i hd;split at h
     ·rename_i L1 obs2 hr;simp only [Option.some.injEq,Prod.mk.injEq] at h;obtain ⟨rfl,rfl⟩:=h;have hrun:=evOp_run hv ha.agrees ho.left;simp only [List.cons_append,wpList,wantedL_spec ha hw,if_true];refine .inl ?_;simp only [Oper.wp,hrun,Oper.upon];exact evGo_wp hr ho.right hk _ (ha.setD hd v)
     ·cases h
    ·cases h
   ·cases h
  ·rename_i hw;split at h
   ·rename_i hd;simp only [List.cons_append,wpList,wantedL_spec ha hw,Bool.false_eq_true,if_false];exact evGo_wp h ho hk _ (ha.setD hd undef)
   ·cases h
  ·cases h
def Reg(P:Program)(n:Nat)(D:List Deferred)(ops:Array Oper)(Q:Exit->Act->World->Prop)(k:Nat)(L:List (Nat×Value))(w:World):Prop:=
 ∀a,Hold n L D a->wpList P ops Q (ops.toList.drop k) a w
theorem reg_seg(m:Nat)(L':List (Nat×Value))(obs:List Ob)(rs:List Value)(keep:List Nat){k:Nat}(h:evSeg P n ops.toList k m L rs keep=some (L',obs))(ho:Obs w obs)
  (hk:Reg P n D ops Q (k+m) L' w):Reg P n D ops Q k L w:=by
 intro a ha;unfold evSeg at h;split at h
 ·rename_i L1 obs1 hg;split at h
  ·rename_i L2 hk2;simp only [Option.some.injEq,Prod.mk.injEq] at h;obtain ⟨rfl,rfl⟩:=h;have e:ops.toList.drop k=(ops.toList.drop k).take m++ops.toList.drop (k+m):=by
    rw [←List.drop_drop,List.take_append_drop]
   rw [e];exact evGo_wp hg ho.all (λa ha=>hk a (ha.keep hk2)) a ha
  ·cases h
 ·cases h
theorem reg_end{k:Nat}(h:(ops.toList.drop k).isEmpty=true)(hq:∀a,Hold n L D a->Q .normal a w):Reg P n D ops Q k L w:=by
 intro a ha;rw [List.isEmpty_iff.1 h];exact hq a ha
def callAt(P:Program)(n:Nat)(ops:List Oper)(k:Nat)(L:List (Nat×Value)):Option (FuncId×List Value×Option Nat):=
 match ops[k]? with
 |some o=>match wantedL ops L o,dstOk o.dst n with
  |some true,true=>match o.op with
   |.call c=>match c.callee with
    |.value f=>match evL L f,evAll L c.args.toList with
     |some (.func (.func g) fi ca),some vs=>match P.funcs[g]? with
      |some fn=>if fi.isEmpty&&(ca.isEmpty&&(fn.body.isSome&&!(fn.name== "runtime.NumGoroutine"))) then some (g,vs,o.dst) else none
      |none=>none
     |_,_=>none
    |_=>none
   |_=>none
  |_,_=>none
 |none=>none
theorem evAll_args{ρ:Operand->Value}(ha:Agrees L ρ):∀{l:List Operand} {vs:List Value},evAll L l=some vs->l.map ρ=vs
 |[],vs,h=>by simp only [evAll,Option.some.injEq] at h;simp [h]
 |x::r,vs,h=>by
  simp only [evAll] at h;split at h
  ·rename_i v hv;split at h
   ·rename_i us hus;obtain rfl:=Option.some.inj h;simp [ha _ _ hv,evAll_args ha hus]
   ·cases h
  ·cases h
theorem callAt_spec{k:Nat}{f:FuncId}{vs:List Value}{dst:Option Nat}(h:callAt P n ops.toList k L=some (f,vs,dst)){a:Act}(ha:Hold n L D a):
  ∃o,ops.toList[k]?=some o/\o.dst=dst/\dstOk dst n=true/\Region.wanted o (yielded ops a.tmps)=true/\∀w,(execOp a.eval o).run P w=.ok (.enter f vs.toArray) w:=by
 unfold callAt at h;split at h
 ·rename_i o ho;split at h
  ·rename_i hw hd;split at h
   ·rename_i c hop;split at h
    ·rename_i f' hc;split at h
     ·rename_i g fi ca us hf hus;split at h
      ·rename_i fn hfn;split at h
       ·rename_i hcond;simp only [Option.some.injEq,Prod.mk.injEq] at h;obtain ⟨rfl,rfl,rfl⟩:=h;simp only [Bool.and_eq_true,Bool.not_eq_true'] at hcond;obtain ⟨h1,h2,h3,h4⟩:=hcond;refine ⟨o,ho,rfl,hd,wantedL_spec ha hw,fun w=>?_⟩;have hargs:c.args.map a.eval=us.toArray:=by
         apply Array.ext';simp [evAll_args ha.agrees hus]
        have e1:fi=#[]:=by simpa using h1
        have e2:ca=#[]:=by simpa using h2
        obtain ⟨dst,op,ty,pos,af,g'⟩:=o;simp only at hop;subst hop;obtain ⟨callee,args,ts⟩:=c;simp only at hc hargs;subst hc;have hb:fn.body≠none:=by intro e;rw [e] at h3;cases h3
        have h4':fn.name≠ "runtime.NumGoroutine":=by simpa using h4
        simp [execOp,resolve,Deferred.ofValue,ha.agrees _ _ hf,e1,e2,hargs,invoke,callFunc,hfn,h4',hb]
       ·cases h
      ·cases h
     ·cases h
    ·cases h
   ·cases h
  ·cases h
 ·cases h
theorem reg_call{k:Nat}(f:FuncId)(vs:List Value)(dst:Option Nat)(h:callAt P n ops.toList k L=some (f,vs,dst)){R:Ending->World->Prop}(hc:Calls P f vs.toArray w R)
  (hk:∀e w',R e w'->∃v,e=.returned v/\Reg P n D ops Q (k+1) (setD dst v L) w'):Reg P n D ops Q k L w:=by
 intro a ha;obtain ⟨o,ho,hdst,hd,hw,hrun⟩:=callAt_spec (ops:=ops) h ha;have e:ops.toList.drop k=o::ops.toList.drop (k+1):=by
  have hlt:k<ops.toList.length:=(List.getElem?_eq_some_iff.1 ho).1;rw [List.drop_eq_getElem_cons hlt];congr 1;exact (List.getElem?_eq_some_iff.1 ho).2
 rw [e];simp only [wpList,hw,if_true];refine .inl ?_;simp only [Oper.wp,hrun,Oper.upon];refine hc.mono λe' w' hR=>?_;obtain ⟨v,rfl,hv⟩:=hk e' w' hR;rw [hdst];exact hv _ (ha.setD hd v)
theorem reg_run{k:Nat}{o:Oper}(ho:ops.toList[k]?=some o)(hw:wantedL ops.toList L o=some true)(hd:dstOk o.dst n=true)(hkn:(knownAll L o.op.operands.toList&&!isSelect o.op)=true)
  {v:Value}{w':World}(hrun:(execOp (evT L) o).run P w=.ok (.value v) w'\/((execOp (evT L) o).run P w=.ok .skip w'/\v=undef))
  (hk:Reg P n D ops Q (k+1) (setD o.dst v L) w'):Reg P n D ops Q k L w:=by
 intro a ha;have e:ops.toList.drop k=o::ops.toList.drop (k+1):=by
  have hlt:k<ops.toList.length:=(List.getElem?_eq_some_iff.1 ho).1;rw [List.drop_eq_getElem_cons hlt];congr 1;exact (List.getElem?_eq_some_iff.1 ho).2
 have hx:execOp a.eval o=execOp (evT L) o:=by
  simp only [Bool.and_eq_true,Bool.not_eq_true'] at hkn;refine execOp_congr o (λcs b e=>?_) λx hx=>known_agrees ha.agrees hkn.1 x (by simpa using hx);rw [e] at hkn;simp [isSelect] at hkn
 rw [e];simp only [wpList,wantedL_spec ha hw,if_true];refine .inl ?_;simp only [Oper.wp,hx];rcases hrun with hrun|⟨hrun,rfl⟩
 ·simp only [hrun,Oper.upon];exact hk _ (ha.setD hd v)
 ·simp only [hrun,Oper.upon];exact hk _ (ha.setD hd undef)
end
def storeRow(cs:Array Value)(off:Nat):List Value->Array Value
 |[]=>cs
 |v::r=>storeRow (cs.setIfInBounds off v) (off+1) r
theorem storeRow_size:∀(vs:List Value) (cs:Array Value) (off:Nat),(storeRow cs off vs).size=cs.size
 |[],_,_=>rfl
 |v::r,cs,off=>by simp [storeRow,storeRow_size r]
def oneCells:List Value->Bool
 |[]=>true
 |v::r=>v.oneCell'&&oneCells r
theorem Upd.refl{w:World}{b:Nat}{o:Obj}(h:At w b o):Upd w w b o:=⟨Mod.refl _ _,h,rfl⟩
theorem Upd.trans{w1 w2 w3:World}{b:Nat}{o o':Obj}(h:Upd w1 w2 b o)(k:Upd w2 w3 b o'):Upd w1 w3 b o':=
 ⟨h.mod.trans k.mod,k.at_,k.size.trans h.size⟩
theorem upd_setCell{w:World}{b off:Nat}{cs:Array Value}{t:TypeId}{fr:Nat×Nat}(h:At w b (.cells cs t fr))(v:Value):
  Upd w (w.setCell ⟨b,off,none⟩ v) b (.cells (cs.setIfInBounds off v) t fr):=by
 have hb:=h.lt;have h:=h.e;refine ⟨⟨rfl,rfl,rfl,by simp [World.setCell],λk _ hS=>Below.heap_setCell _ _ _ _ (by simpa using hS)⟩,⟨?_⟩,by simp [World.setCell]⟩;simp only [World.setCell,Array.getElem?_modify,if_true,h,Option.map_some,Option.isSome_none,Bool.false_eq_true,if_false]
theorem run_storeCells{P:Program}{b off:Nat}{t:TypeId}:∀(vs:List Value) (i:Nat) (w:World) (cs:Array Value),At w b (.cells cs t (0,0))->off+i+vs.length<=cs.size->oneCells vs=true->
  ∃w',(storeCells ⟨b,off,none⟩ vs i).run P w=.ok () w'/\Upd w w' b (.cells (storeRow cs (off+i) vs) t (0,0))
 |[],i,w,cs,h,_,_=>⟨w,rfl,.refl h⟩
 |v::r,i,w,cs,h,hlen,hone=>by
  simp only [oneCells,Bool.and_eq_true] at hone;simp only [List.length_cons] at hlen;have e:(Addr.add ⟨b,off,none⟩ i)=⟨b,off+i,none⟩:=by unfold Addr.add;split<;>simp_all
  have hc:∃u,cs[off+i]?=some u:=⟨_,Array.getElem?_eq_getElem (by omega)⟩;obtain ⟨u,hu⟩:=hc;have hcell:w.cell? ⟨b,off+i,none⟩=some u:=h.cell hu;have hfz:w.frozen? ⟨b,off+i,none⟩=false:=by simp [World.frozen?,h.e]
  have hU:=upd_setCell (off:=off+i) h v;obtain ⟨w',hw',hU'⟩:=run_storeCells (P:=P) (off:=off) r (i+1) _ _ hU.at_ (by simp;omega) hone.2;refine ⟨w',?_,hU.trans hU'⟩;simp only [storeCells,Sem.run_bind,e,run_store P w _ v _ hone.1,hcell,hfz,Bool.false_eq_true,if_false,Result.andThen_ok,hw']
section
variable{P:Program}{n:Nat}{D:List Deferred}{ops:Array Oper}{Q:Exit->Act->World->Prop}{w:World}{L:List (Nat×Value)}
def storeAt(P:Program)(n:Nat)(ops:List Oper)(k:Nat)(L:List (Nat×Value)):Option (Addr×Value×Option Nat×Option Nat):=
 match ops[k]? with
 |some o=>match wantedL ops L o,dstOk o.dst n with
  |some true,true=>match o.op with
   |.store t x y=>match evL L x,evL L y with
    |some (.pointer (some a)),some v=>some (a,v,o.dst,sizeT P t)
    |_,_=>none
   |_=>none
  |_,_=>none
 |none=>none
theorem drop_cons{k:Nat}{o:Oper}{l:List Oper}(ho:l[k]?=some o):l.drop k=o::l.drop (k+1):=by
 have hlt:k<l.length:=(List.getElem?_eq_some_iff.1 ho).1;rw [List.drop_eq_getElem_cons hlt];congr 1;exact (List.getElem?_eq_some_iff.1 ho).2
theorem reg_store{k:Nat}(b off:Nat)(v:Value)(dst:Option Nat)(h:storeAt P n ops.toList k L=some (⟨b,off,none⟩,v,dst,some v.cells.size)){cs:Array Value}{t:TypeId}
  (hb:At w b (.cells cs t (0,0)))(hlen:off+v.cells.size<=cs.size)(hone:oneCells v.cells.toList=true)
  (hk:∀w',Upd w w' b (.cells (storeRow cs off v.cells.toList) t (0,0))->Reg P n D ops Q (k+1) (setD dst undef L) w'):Reg P n D ops Q k L w:=by
 intro a ha;unfold storeAt at h;split at h
 ·rename_i o ho;split at h
  ·rename_i hw hd;split at h
   ·rename_i tt x y hop;split at h
    ·rename_i a' v' hx hy;simp only [Option.some.injEq,Prod.mk.injEq] at h;obtain ⟨rfl,rfl,rfl,hs⟩:=h;rw [drop_cons ho];simp only [wpList,wantedL_spec ha hw,if_true];refine .inl ?_;obtain ⟨w',hr,hU⟩:=run_storeCells (P:=P) v'.cells.toList 0 w cs hb (by simpa using hlen) hone;have hrun:(execOp a.eval o).run P w=.ok .skip w':=by
      obtain ⟨dst,op,ty,pos,af,g'⟩:=o;simp only at hop;subst hop;simp [execOp,Instr.storeAt,ha.agrees _ _ hx,ha.agrees _ _ hy,Instr.sureAddr,storeVar,runSize hs,hr]
     simp only [Oper.wp,hrun,Oper.upon];rw [show off+0=off from rfl] at hU;exact hk w' hU _ (ha.setD hd undef)
    ·cases h
   ·cases h
  ·cases h
 ·cases h
def newAt(P:Program)(n:Nat)(ops:List Oper)(k:Nat)(L:List (Nat×Value)):Option (Array Value×TypeId×Option Nat):=
 match ops[k]? with
 |some o=>match wantedL ops L o,dstOk o.dst n with
  |some true,true=>match o.op with
   |.alloc t=>match P.info? t with
    |some i=>match i.zero with|some z=>some (z.cells,t,o.dst)|none=>none
    |none=>none
   |.box t x=>match evL L x with|some v=>some (v.cells,t,o.dst)|none=>none
   |_=>none
  |_,_=>none
 |none=>none
theorem reg_alloc{k:Nat}(cs:Array Value)(t:TypeId)(dst:Option Nat)(h:newAt P n ops.toList k L=some (cs,t,dst))
  (hk:∀b w',New w w' b (.cells cs t (0,0))->Reg P n D ops Q (k+1) (setD dst (.pointer (some ⟨b,0,none⟩)) L) w'):Reg P n D ops Q k L w:=by
 intro a ha;unfold newAt at h;split at h
 ·rename_i o ho;split at h
  ·rename_i hw hd;have fin:∀cs' t',some (cs',t',o.dst)=some (cs,t,dst)->(execOp a.eval o).run P w=.ok (.value (.pointer (some ⟨w.heap.size,0,none⟩))) (w.alloc (.cells cs' t' (0,0)))->
     wpList P ops Q (ops.toList.drop k) a w:=by
    intro cs' t' e hrun;simp only [Option.some.injEq,Prod.mk.injEq] at e;obtain ⟨rfl,rfl,rfl⟩:=e;rw [drop_cons ho];simp only [wpList,wantedL_spec ha hw,if_true];refine .inl ?_;simp only [Oper.wp,hrun,Oper.upon];exact hk _ _ (New.alloc w _) _ (ha.setD hd _)
   split at h
   ·rename_i t' hop;split at h
    ·rename_i i hi;split at h
     ·rename_i z hz;refine fin _ _ h ?_;obtain ⟨dst,op,ty,pos,af,g'⟩:=o;simp only at hop;subst hop;simp [execOp,Instr.alloc,zeroValue,typeInfo,hi,hz,newVar,newRow]
     ·cases h
    ·cases h
   ·rename_i t' x hop;split at h
    ·rename_i v hv;refine fin _ _ h ?_;obtain ⟨dst,op,ty,pos,af,g'⟩:=o;simp only at hop;subst hop;simp [execOp,Instr.box,ha.agrees _ _ hv,newVar,newRow]
    ·cases h
   ·cases h
  ·cases h
 ·cases h
def QReg(P:Program)(n:Nat)(D:List Deferred)(ops:Array Oper)(C:World->Prop)(K:Act->Prop)(l:List Oper)(L:List (Nat×Value)):Prop:=
 ∀a,Hold n L D a->wpQuiet P ops C K l a
theorem evGo_quiet{C:World->Prop}{K:Act->Prop}:∀{l:List Oper} {rest:List Oper} {L L':List (Nat×Value)} {rs:List Value} {obs:List Ob},evGo P n ops.toList l L rs=some (L',obs)->(∀w',C w'->Obsl w' obs)->
  QReg P n D ops C K rest L'->QReg P n D ops C K (l++rest) L
 |[],rest,L,L',rs,obs,h,_,hk=>by
  simp only [evGo] at h;split at h
  ·simp only [Option.some.injEq,Prod.mk.injEq] at h;obtain ⟨rfl,_⟩:=h;exact hk
  ·cases h
 |o::r,rest,L,L',rs,obs,h,ho,hk=>by
  intro a ha;simp only [evGo] at h;split at h
  ·rename_i hw;split at h
   ·rename_i v obs1 rs' hv;split at h
    ·rename_i hd;split at h
     ·rename_i L1 obs2 hr;simp only [Option.some.injEq,Prod.mk.injEq] at h;obtain ⟨rfl,rfl⟩:=h;simp only [List.cons_append,wpQuiet,wantedL_spec ha hw,if_true];refine ⟨v,λw' hC=>?_,evGo_quiet hr (λw' hC=>(ho w' hC).right) hk _ (ha.setD hd v)⟩;have hrun:=evOp_run hv ha.agrees (ho w' hC).left;simp only [Oper.quietAt,hrun,Oper.quietUpon,and_self]
     ·cases h
    ·cases h
   ·cases h
  ·rename_i hw;split at h
   ·rename_i hd;simp only [List.cons_append,wpQuiet,wantedL_spec ha hw,Bool.false_eq_true,if_false];exact evGo_quiet h ho hk _ (ha.setD hd undef)
   ·cases h
  ·cases h
theorem q_seg{C:World->Prop}{K:Act->Prop}{l:List Oper}{k:Nat}(m:Nat)(L':List (Nat×Value))(obs:List Ob)(rs:List Value)(keep:List Nat)
  (h:(match evGo P n ops.toList ((l.drop k).take m) L rs with
   |some (L1,obs)=>match keepL L1 keep with|some L2=>some (L2,obs)|none=>none
   |none=>none)=some (L',obs))(ho:∀w',C w'->Obs w' obs)
  (hk:QReg P n D ops C K (l.drop (k+m)) L'):QReg P n D ops C K (l.drop k) L:=by
 split at h
 ·rename_i L1 obs1 hg;split at h
  ·rename_i L2 hk2;simp only [Option.some.injEq,Prod.mk.injEq] at h;obtain ⟨rfl,rfl⟩:=h;have e:l.drop k=(l.drop k).take m++l.drop (k+m):=by
    rw [←List.drop_drop,List.take_append_drop]
   rw [e];exact evGo_quiet hg (λw' hC=>(ho w' hC).all) (λa ha=>hk a (ha.keep hk2))
  ·cases h
 ·cases h
theorem q_call{C:World->Prop}{K:Act->Prop}{k:Nat}{l:List Oper}(f:FuncId)(vs:List Value)(dst:Option Nat)(v:Value)(h:callAt P n ops.toList k L=some (f,vs,dst))(hl:l[k]?=ops.toList[k]?)
  (hc:∀w',C w'->Calls P f vs.toArray w' λe w''=>e=.returned v/\C w'')
  (hk:QReg P n D ops C K (l.drop (k+1)) (setD dst v L)):QReg P n D ops C K (l.drop k) L:=by
 intro a ha;obtain ⟨o,ho,hdst,hd,hw,hrun⟩:=callAt_spec (ops:=ops) h ha;rw [drop_cons (hl.trans ho)];simp only [wpQuiet,hw,if_true];refine ⟨v,λw' hC=>?_,by rw [hdst];exact hk _ (ha.setD hd v)⟩;simp only [Oper.quietAt,hrun,Oper.quietUpon,true_and];exact hc w' hC
theorem q_end{C:World->Prop}{K:Act->Prop}{l:List Oper}{k:Nat}(h:(l.drop k).isEmpty=true)(hq:∀a,Hold n L D a->K a):QReg P n D ops C K (l.drop k) L:=by
 intro a ha;rw [List.isEmpty_iff.1 h];exact hq a ha
end
section
variable{P:Program}{n:Nat}{D:List Deferred}{Q:Exit->Act->World->Prop}{w:World}{L:List (Nat×Value)}
def W(P:Program)(n:Nat)(D:List Deferred)(c:Code)(Q:Exit->Act->World->Prop)(L:List (Nat×Value))(w:World):Prop:=∀a,Hold n L D a->c.wp P Q a w
theorem w_region{id:Nat}{ops:Array Oper}(h:Reg P n D ops Q 0 L w):W P n D (.region id ops false) Q L w:=λa ha=>wp_region_list (h a ha)
theorem w_quiet{id:Nat}{ops:Array Oper}(hm:P.follows .mixedOrders=true)(hB:Region.lexB .any ops=true)
  (h:QReg P n D ops (λw'=>Mod [] w w') (λa'=>∀w',Mod [] w w'->Q .normal a' w') (ops.toList.drop 0) L):W P n D (.region id ops true) Q L w:=
 λa ha=>wp_region_quiet (C:=λw'=>Mod [] w w') hm hB (Mod.draw w) (h a ha)
section tail
variable{ops:Array Oper}{md:Region.Mode}{C:World->Prop}
def wpAnyH(P:Program)(md:Region.Mode)(ops:Array Oper)(C:World->Prop)(m:Nat)(T:Array Bool->Act->Prop):Nat->Array Bool->Act->Prop
 |0,listed,a=>T listed a
 |f+1,listed,a=>
  Region.ready md ops listed≠[]/\∀i∈Region.ready md ops listed,i<m/\qOp P ops C i (wpAnyH P md ops C m T f (listed.setIfInBounds i true)) a
theorem wpAny_of_headQ{m g:Nat}{T:Array Bool->Act->Prop}{Q':Exit->Act->World->Prop}(hT:∀listed a,T listed a->∀w,C w->wpAny P md ops Q' g listed a w):
  ∀(f:Nat) (listed:Array Bool) (a:Act),wpAnyH P md ops C m T f listed a->∀w,C w->wpAny P md ops Q' (f+g) listed a w
 |0,listed,a,h,w,hw=>by rw [Nat.zero_add];exact hT _ _ h w hw
 |f+1,listed,a,h,w,hw=>by
  rw [show f+1+g=(f+g)+1 by omega];exact ⟨λh0=>absurd h0 h.1,λi hi=>wpOp_of_qOp hw (λa' w' hw' h'=>wpAny_of_headQ hT f _ a' h' w' hw') (h.2 i hi).2⟩
theorem wpAnyH_first{m i:Nat}{oi:Oper}{v:Value}{T:Array Bool->Act->Prop}(hi:ops[i]?=some oi)(hsel:∀(j:Nat) (o:Oper) cs b,ops[j]?=some o->o.op≠.select cs b)
  (hs:Region.sinkB md ops m=true)(hc:Region.chainB md ops m=true)(hn:m<ops.size)(hin:i<m)
  (hdone:∀listed a,T listed a->∀j∈Region.ready md ops listed,m<=j):
  ∀(f:Nat) (listed:Array Bool) (a:Act),HeadInv md ops m listed->
   (∀j oj,ops[j]?=some oj->j≠i->listed.getD j true=false->(∀e∈oj.after,Region.binds md e=true->e.on≠i)->oi.apart ops oj=true)->
   i∈Region.ready md ops listed->YieldsIn P ops C oi v a->
   wpAnyH P md ops C m T f (listed.setIfInBounds i true) (a.put oi.dst v)->wpAnyH P md ops C m T (f+1) listed a:=by
 intro f;have below:∀(listed:Array Bool),HeadInv md ops m listed->i∈Region.ready md ops listed->∀j∈Region.ready md ops listed,j<m:=by
  intro listed inv hr j hj;rcases Nat.lt_or_ge j m with h|h
  ·exact h
  ·exact absurd hj (tail_waits hs hc hn inv _ i rfl hin (mem_ready.1 hr).1 j h)
 induction f with
 |zero=>
  intro listed a inv _ hr hy H;refine ⟨λh=>(by rw [h] at hr;cases hr),λj hj=>⟨below listed inv hr j hj,?_⟩⟩;have hjn:=below listed inv hr j hj;by_cases hji:j=i
  ·subst hji;exact hy.qOp hi H
  ·have:=hdone _ _ H j (ready_mono hj hji);omega
 |succ f ih=>
  intro listed a inv hfree hr hy H;refine ⟨λh=>(by rw [h] at hr;cases hr),λj hj=>⟨below listed inv hr j hj,?_⟩⟩;have hjn:=below listed inv hr j hj;by_cases hji:j=i
  ·subst hji;exact hy.qOp hi H
  ·have h1:=(H.2 j (ready_mono hj hji)).2;obtain ⟨hjun,oj,hoj,hall⟩:=mem_ready.1 hj;have hnot:∀e∈oj.after,Region.binds md e=true->e.on≠i:=λe he hb heq=>by
    have h1:=hall e he hb;rw [heq,getD_both (mem_ready.1 hr).1] at h1;cases h1
   have h2:=qOp_put hoj (hfree j oj hoj hji hjun hnot) (λcs b=>hsel i oi cs b hi) (λcs b=>hsel j oj cs b hoj) hy h1;have hfree':∀k ok,ops[k]?=some ok->k≠i->(listed.setIfInBounds j true).getD k true=false->
     (∀e∈ok.after,Region.binds md e=true->e.on≠i)->oi.apart ops ok=true:=λk ok hk hki hun hno=>by
    refine hfree k ok hk hki ?_ hno;by_cases hjk:j=k
    ·subst hjk;exact hjun
    ·rw [getD_set_ne true hjk] at hun;exact hun
   refine qOp_mono (λa' h3=>ih (listed.setIfInBounds j true) a' (inv.set hj hjn) hfree' (ready_mono hr (Ne.symm hji)) h3.1 ?_) h2;rw [Array.setIfInBounds_comm _ _ hji];exact h3.2
theorem wpAnyH_lex{m g:Nat}{K:Act->Prop}(hsel:Region.noSelect ops=true)(hs:Region.sinkB md ops m=true)(hc:Region.chainB md ops m=true)(hn:m<ops.size):
  ∀(l:List Oper) (k:Nat) (listed:Array Bool) (a:Act),(∀j,j<l.length->l[j]?=ops[k+j]?)->k+l.length=m->HeadInv md ops m listed->
  Region.lexHead md ops g l.length k listed=true->wpQuiet P ops C K l a->
  wpAnyH P md ops C m (λlisted' a'=>Region.seqB md ops g m listed'=true/\K a') l.length listed a
 |[],k,listed,a,_,hk,_,hB,h=>by
  have:k=m:=by simpa using hk
  subst this;exact ⟨by simpa [Region.lexHead] using hB,h⟩
 |o::l,k,listed,a,hl,hk,inv,hB,h=>by
  have h0:ops[k]?=some o:=by simpa using (hl 0 (by simp)).symm
  simp only [List.length_cons,Region.lexHead,Bool.and_eq_true] at hB;obtain ⟨⟨hr,hf⟩,hB'⟩:=hB;have hkn:k<m:=by simp only [List.length_cons] at hk;omega
  have hr':k∈Region.ready md ops listed:=by simpa using hr
  have hst:qOp P ops C k (wpQuiet P ops C K l) a:=by unfold qOp;simp only [h0];exact h
  obtain ⟨v,hy,hK⟩:=yieldsIn_of_qOp h0 hst;exact wpAnyH_first h0 (Region.noSelect_spec hsel) hs hc hn hkn (λlisted' a' hT=>seqB_ready hT.1) l.length listed a inv (Region.free_spec h0 hf) hr' hy
   (wpAnyH_lex hsel hs hc hn l (k+1) _ _ (λj hj=>by have:=hl (j+1) (by simp;omega);simpa [Nat.add_assoc,Nat.add_comm 1 j] using this) (by simp only [List.length_cons] at hk;omega) (inv.set hr' hkn) hB' hK)
end tail
theorem q_out{ops:Array Oper}{K:Act->World->Prop}{l:List Oper}{k:Nat}(h:(l.drop k).isEmpty=true)(hq:∀w',Mod [] w w'->∀a,Hold n L D a->K a w'):
  QReg P n D ops (λw'=>Mod [] w w') (λa'=>∀w',Mod [] w w'->K a' w') (l.drop k) L:=q_end h λa ha w' hw=>hq w' hw a ha
theorem w_tail{id:Nat}{ops:Array Oper}(m:Nat)(hm:P.follows .mixedOrders=true)(hB:Region.lexTailB .any ops m=true)
  (h:QReg P n D ops (λw'=>Mod [] w w') (λa'=>∀w',Mod [] w w'->wpList P ops Q (ops.toList.drop m) a' w') ((ops.toList.take m).drop 0) L):W P n D (.region id ops true) Q L w:=by
 intro a ha;simp only [Region.lexTailB,Bool.and_eq_true,decide_eq_true_eq] at hB;obtain ⟨⟨⟨⟨hsel,hn⟩,hs⟩,hc⟩,hlex⟩:=hB;have htl:(ops.toList.take m).length=m:=by simp;omega
 have inv0:HeadInv .any ops m (Array.replicate ops.size false):=
  ⟨by simp,λj oj _ hl=>(by rw [getD_replicate_false] at hl;cases hl),λt _ ht=>getD_in (by simpa using ht) (getD_replicate_false _ _)⟩
 have H:=wpAnyH_lex (md:=.any) (g:=ops.size-m) hsel hs hc hn (ops.toList.take m) 0 _ a (λj hj=>by
  have hj':j<m:=by rw [htl] at hj;exact hj
  simp [hj']) (by simpa using htl) inv0 (by rw [htl];exact hlex) (h a ha)
 refine wp_region_any hm ?_;have:=wpAny_of_headQ (Q':=Q) (g:=ops.size-m) (λlisted a' hT w' hw'=>by
  have h2:=wpAny_of_seq (md:=.any) (Q':=Q) (ops.toList.drop m) m listed a' w' (λj=>by simp [List.getElem?_drop]) (by simpa using hT.1) (hT.2 w' hw')
  simpa using h2) _ _ _ H _ (Mod.draw w)
 rw [htl,show m+(ops.size-m)=ops.size by omega] at this;exact this
theorem w_seq{x y:Code}(h:W P n D x (Exit.then (λa w=>y.wp P Q a w) Q) L w):W P n D (.seq x y) Q L w:=λa ha=>wp_seq (h a ha)
theorem w_cut{γ:Type}{x y:Code}(L':γ->List (Nat×Value))(I:γ->World->Prop)(h:W P n D x (Exit.then (λa w'=>∃g,Hold n (L' g) D a/\I g w') Q) L w)
  (hk:∀g w',I g w'->W P n D y Q (L' g) w'):W P n D (.seq x y) Q L w:=λa ha=>
 wp_seq (Code.wp_mono (λe a' w' q=>by
  cases e<;>first
   |exact q
   |(obtain ⟨g,hh,hi⟩:=q;exact hk g w' hi a' hh)) (h a ha))
theorem w_cond{c:Operand}{x y:Code}{b:Bool}(hc:evL L c=some (.bool b))(ht:b=true->W P n D x Q L w)(hf:b=false->W P n D y Q L w):W P n D (.cond c x y) Q L w:=
 λa ha=>wp_cond_split (ha.agrees _ _ hc) (λh=>ht h a ha) (λh=>hf h a ha)
theorem w_true{c:Operand}{x y:Code}(hc:evL L c=some (.bool true))(ht:W P n D x Q L w):W P n D (.cond c x y) Q L w:=w_cond hc (λ_=>ht) (λh=>by cases h)
theorem w_false{c:Operand}{x y:Code}(hc:evL L c=some (.bool false))(hf:W P n D y Q L w):W P n D (.cond c x y) Q L w:=w_cond hc (λh=>by cases h) (λ_=>hf)
theorem w_block{id:Nat}{c:Code}(h:W P n D c (Exit.inBlock id Q) L w):W P n D (.block id c) Q L w:=λa ha=>wp_block (h a ha)
theorem w_skip(h:∀a,Hold n L D a->Q .normal a w):W P n D .skip Q L w:=λa ha=>wp_skip (h a ha)
theorem w_exit{id:Nat}(h:∀a,Hold n L D a->Q (.exit id) a w):W P n D (.exit id) Q L w:=λa ha=>wp_exit (h a ha)
theorem w_ret(h:∀a,Hold n L D a->Q .ret a w):W P n D .ret Q L w:=λa ha=>wp_ret (h a ha)
theorem exit_hit{id:Nat}{a:Act}(h:Q .normal a w):Exit.inBlock id Q (.exit id) a w:=by simp only [Exit.inBlock,if_true];exact h
theorem exit_miss{id id':Nat}{a:Act}(hne:(id'==id)=false)(h:Q (.exit id') a w):Exit.inBlock id Q (.exit id') a w:=by
 have:id'≠id:=by simpa using hne
 simp only [Exit.inBlock,if_neg this];exact h
theorem w_loop {γ : Type} {c : Code} (μ : γ → Nat) (Lg : γ → List (Nat × Value)) (Inv : γ → World → Prop) (g0 : γ) (hL : ∀ a, Hold n L D a → Hold n (Lg g0) D a) (h0 : Inv g0 w)
  (round : ∀ g w', Inv g w' → W P n D c (Exit.then (fun a' w'' => ∃ g', μ g' < μ g ∧ Hold n (Lg g') D a' ∧ Inv g' w'') Q) (Lg g) w') : W P n D (.loop c) Q L w := by
 intro a ha
 classical
 let I : Act → World → Prop := fun a w => ∃ g, Hold n (Lg g) D a ∧ Inv g w
 let S : Act → World → Nat → Prop := fun a w m => ∃ g, μ g = m ∧ Hold n (Lg g) D a ∧ Inv g w
 have least : ∀ {p : Nat → Prop}, (∃ m, p m) → ∃ m, p m ∧ ∀ k, p k → m ≤ k := by
  intro p ⟨m, hm⟩
  induction m using Nat.strongRecOn with
  | _ m ih =>
   by_cases hx : ∃ k, k < m ∧ p k
   ·obtain ⟨k, hk, hpk⟩ := hx; exact ih k hk hpk
   ·exact ⟨m, hm, fun k hk => Nat.le_of_not_lt fun hlt => hx ⟨k, hlt, hk⟩⟩
 let ν : Act → World → Nat := fun a w => if h : ∃ m, S a w m then Classical.choose (least h) else 0
 have νspec : ∀ {a w}, (h : ∃ m, S a w m) → S a w (ν a w) ∧ ∀ k, S a w k → ν a w ≤ k := by
  intro a w h
  have e : ν a w = Classical.choose (least h) := by simp only [ν]; rw [dif_pos h]
  rw [e]; exact Classical.choose_spec (least h)
 refine wp_loop I ν ⟨g0, hL a ha, h0⟩ fun a w hI => ?_
 obtain ⟨g, hg, hi⟩ := hI
 obtain ⟨⟨g1, hm1, hg1, hi1⟩, _⟩ := νspec (a := a) (w := w) ⟨μ g, g, rfl, hg, hi⟩
 refine Code.wp_mono (fun e a' w' q => ?_) (round g1 w hi1 a hg1)
 cases e <;> first
  | exact q
  | (obtain ⟨g', hlt, hh, hv⟩ := q
     refine ⟨⟨g', hh, hv⟩, ?_⟩
     have := (νspec (a := a') (w := w') ⟨μ g', g', rfl, hh, hv⟩).2 (μ g') ⟨g', rfl, hh, hv⟩
     omega)
def regs(i:Nat):List Value->List (Nat×Value)
 |[]=>[]
 |v::r=>(i,v)::regs (i+1) r
theorem look_regs:∀(vs:List Value) (i j:Nat) (v:Value),look (regs i vs) j=some v->i<=j/\vs[j-i]?=some v
 |[],i,j,v,h=>by cases h
 |u::r,i,j,v,h=>by
  simp only [regs,look] at h;split at h
  ·rename_i e;subst e;simpa using h
  ·rename_i e;obtain ⟨h1,h2⟩:=look_regs r (i+1) j v h;refine ⟨by omega,?_⟩;have:j-i=(j-(i+1))+1:=by omega
   rw [this];simpa using h2
theorem enter{f:FuncId}{fn:Func}{c:Code}{vs:List Value}{R:Ending->World->Prop}(hf:P.funcs[f]?=some fn)(hb:fn.body=some c)(hn:fn.ntmps=n)(hlen:Nat.ble vs.length n=true)
  (h:W P n [] c (bodyPost P fn R) (regs 0 vs) w):Calls P f vs.toArray w R:=by
 refine calls_of_wp hf hb (h _ ?_);have hlen:=Nat.le_of_ble_eq_true hlen;refine ⟨by simp;omega,λi v hi=>?_,rfl⟩;obtain ⟨_,h2⟩:=look_regs vs 0 i v hi;have hlt:i<vs.length:=by have:=(List.getElem?_eq_some_iff.1 h2).1;omega
 rw [Array.getElem?_append_left (by simpa using hlt)];simpa using h2
theorem hold_getD{a:Act}{t:Nat}{v:Value}(ha:Hold n L D a)(hv:look L t=some v):a.tmps.getD t undef=v:=by
 have:=ha.get t v hv;simp [Array.getD_eq_getD_getElem?,this]
section ret
variable{fn:Func}{R:Ending->World->Prop}
theorem end0(hr:fn.results=#[])(hR:R (.returned (.tuple #[])) w)(a:Act)(ha:Hold n L [] a):bodyPost P fn R .normal a w:=
 bodyPost_end (results_none hr _ _ _) ha.defers hR
theorem ret1{t:Nat}{v:Value}(hr:fn.results=#[.tmp t])(hv:look L t=some v)(hR:R (.returned v) w)(a:Act)(ha:Hold n L [] a):bodyPost P fn R .ret a w:=
 bodyPost_ret (results_tmp hr _ _ _) ha.defers (by rw [hold_getD ha hv];exact hR)
theorem ret2{t u:Nat}{v v':Value}(hr:fn.results=#[.tmp t,.tmp u])(hv:look L t=some v)(hv':look L u=some v')(hR:R (.returned (.tuple #[v,v'])) w)(a:Act)(ha:Hold n L [] a):bodyPost P fn R .ret a w:=
 bodyPost_ret (results_tmp2 hr _ _ _) ha.defers (by rw [hold_getD ha hv,hold_getD ha hv'];exact hR)
theorem retc{t T:Nat}{ad:Addr}{m:Nat}{cs:Array Value}(hr:fn.results=#[.cell t T])(hv:look L t=some (.pointer (some ad)))(hag:isAggT P T=some true)(hsz:sizeT P T=some m)(hrow:(Ob.row ad m cs).holds w)
  (hR:R (.returned (.agg cs)) w)(a:Act)(ha:Hold n L [] a):bodyPost P fn R .ret a w:=
 bodyPost_ret (v:=.agg cs) (by simp [results,hr,ha.get _ _ hv,asAddr,loadVar,runAgg hag,runSize hsz,run_loadCells hrow]) ha.defers hR
theorem retc2{t T u:Nat}{ad:Addr}{m:Nat}{cs:Array Value}{v:Value}(hr:fn.results=#[.cell t T,.tmp u])(hv:look L t=some (.pointer (some ad)))(hag:isAggT P T=some true)(hsz:sizeT P T=some m)(hrow:(Ob.row ad m cs).holds w)
  (hu:look L u=some v)(hR:R (.returned (.tuple #[.agg cs,v])) w)(a:Act)(ha:Hold n L [] a):bodyPost P fn R .ret a w:=
 bodyPost_ret (v:=.tuple #[.agg cs,v]) (by simp [results,hr,ha.get _ _ hv,ha.get _ _ hu,asAddr,loadVar,runAgg hag,runSize hsz,run_loadCells hrow]) ha.defers hR
end ret
theorem n_then{y:Code}(h:W P n D y Q L w):∀a,Hold n L D a->Exit.then (λa w=>y.wp P Q a w) Q .normal a w:=h
theorem n_block{id:Nat}(h:∀a,Hold n L D a->Q .normal a w):∀a,Hold n L D a->Exit.inBlock id Q .normal a w:=h
theorem x_then{id:Nat}{N:Act->World->Prop}(h:∀a,Hold n L D a->Q (.exit id) a w):∀a,Hold n L D a->Exit.then N Q (.exit id) a w:=h
theorem x_hit{id:Nat}(h:∀a,Hold n L D a->Q .normal a w):∀a,Hold n L D a->Exit.inBlock id Q (.exit id) a w:=λa ha=>exit_hit (h a ha)
theorem x_miss{id id':Nat}(hne:(id'==id)=false)(h:∀a,Hold n L D a->Q (.exit id') a w):∀a,Hold n L D a->Exit.inBlock id Q (.exit id') a w:=λa ha=>exit_miss hne (h a ha)
theorem r_then{N:Act->World->Prop}(h:∀a,Hold n L D a->Q .ret a w):∀a,Hold n L D a->Exit.then N Q .ret a w:=h
theorem r_block{id:Nat}(h:∀a,Hold n L D a->Q .ret a w):∀a,Hold n L D a->Exit.inBlock id Q .ret a w:=h
theorem l_back{γ:Type}{μ:γ->Nat}{Lg:γ->List (Nat×Value)}{Inv:γ->World->Prop}{g:γ}(g':γ)(ks:List Nat)(hk:keepL L ks=some (Lg g'))(hlt:μ g'<μ g)(hi:Inv g' w):
  ∀a,Hold n L D a->Exit.then (λa' w''=>∃g',μ g'<μ g/\Hold n (Lg g') D a'/\Inv g' w'') Q .normal a w:=λ_ ha=>⟨g',hlt,ha.keep hk,hi⟩
theorem c_back{γ:Type}{Lg:γ->List (Nat×Value)}{I:γ->World->Prop}(g:γ)(ks:List Nat)(hk:keepL L ks=some (Lg g))(hi:I g w):
  ∀a,Hold n L D a->Exit.then (λa' w'=>∃g,Hold n (Lg g) D a'/\I g w') Q .normal a w:=λ_ ha=>⟨g,ha.keep hk,hi⟩
theorem hold_keep{L':List (Nat×Value)}(ks:List Nat)(hk:keepL L ks=some L'):∀a,Hold n L D a->Hold n L' D a:=λ_ ha=>ha.keep hk
end
def onlyN(Q:Exit->Act->World->Prop):Exit->Act->World->Prop
 |.normal,a,w=>Q .normal a w
 |_,_,_=>False
section
variable{P:Program}{ops:Array Oper}{md:Region.Mode}{Q Q':Exit->Act->World->Prop}
theorem wpOp_monoQ(hQ:∀e a w,Q e a w->Q' e a w){i:Nat}{K K':Act->World->Prop}(hK:∀a w,K a w->K' a w){a:Act}{w:World}(h:wpOp P ops Q i K a w):wpOp P ops Q' i K' a w:=by
 have hL:LetsOut Q->LetsOut Q':=λ⟨a,w,h⟩=>⟨a,w,hQ _ _ _ h⟩;unfold wpOp at*
 split
 ·exact hK _ _ (by simpa [*] using h)
 ·rename_i o ho;simp only [ho] at h;split
  ·rename_i hw;simp only [hw,if_true] at h;rcases h with h|⟨h1,h2⟩
   ·refine .inl ?_;unfold Oper.wp at*
    generalize (execOp a.eval o).run P w=r at*
    cases r with
    |ok n w'=>
     cases n<;>simp only [Oper.upon] at h⊢<;>
      first
       |exact hK _ _ h
       |exact Calls.mono h (λe w'' he=>by cases e<;>first|exact hK _ _ he|exact hQ _ _ _ he|exact hL he)
       |exact Rows.mono h (λ_ _ he=>hK _ _ he)
    |halt x w'=>cases x<;>simp only [Oper.upon] at h⊢<;>exact hQ _ _ _ h
   ·exact .inr ⟨h1,hL h2⟩
  ·rename_i hw;simp only [hw] at h;exact hK _ _ h
theorem wpAny_monoQ(hQ:∀e a w,Q e a w->Q' e a w):∀(f:Nat) (listed:Array Bool) (a:Act) (w:World),wpAny P md ops Q f listed a w->wpAny P md ops Q' f listed a w
 |0,_,_,_,h=>⟨h.1,hQ _ _ _ h.2⟩
 |f+1,_,_,_,h=>⟨λh0=>hQ _ _ _ (h.1 h0),λi hi=>wpOp_monoQ hQ (λa' w' h'=>wpAny_monoQ hQ f _ a' w' h') (h.2 i hi)⟩
def wpAnyW(P:Program)(md:Region.Mode)(ops:Array Oper)(Q:Exit->Act->World->Prop)(w0:World)(m:Nat)(T:Array Bool->Act->World->Prop):Nat->Array Bool->Act->World->Prop
 |0,listed,a,w=>T listed a w
 |f+1,listed,a,w=>∀w',Mod [] w w'->Region.ready md ops listed≠[]/\∀i∈Region.ready md ops listed,i<m/\
   wpOp P ops Q i (λa' w''=>Mod [] w0 w''/\wpAnyW P md ops Q w0 m T f (listed.setIfInBounds i true) a' w'') a w'
variable{w0:World}{m:Nat}{T:Array Bool->Act->World->Prop}
theorem wpAnyW_grow(hT:∀l a w w',T l a w->Mod [] w w'->T l a w'):∀(f:Nat) (listed:Array Bool) (a:Act) (w w':World),wpAnyW P md ops Q w0 m T f listed a w->Mod [] w w'->wpAnyW P md ops Q w0 m T f listed a w'
 |0,_,_,_,_,h,hm=>hT _ _ _ _ h hm
 |_+1,_,_,_,_,h,hm=>λw'' hm'=>h w'' (hm.trans hm')
theorem wpAny_of_W{g:Nat}(hT:∀listed a w,T listed a w->wpAny P md ops Q g listed a w):∀(f:Nat) (listed:Array Bool) (a:Act) (w:World),wpAnyW P md ops Q w0 m T f listed a w->wpAny P md ops Q (f+g) listed a w
 |0,listed,a,w,h=>by rw [Nat.zero_add];exact hT _ _ _ h
 |f+1,listed,a,w,h=>by
  rw [show f+1+g=(f+g)+1 by omega];obtain ⟨h1,h2⟩:=h w (Mod.refl _ _);exact ⟨λh0=>absurd h0 h1,λi hi=>wpOp_mono (λa' w' h'=>wpAny_of_W hT f _ a' w' h'.2) (h2 i hi).2⟩
def YieldsW(P:Program)(ops:Array Oper)(w0:World)(o:Oper)(v:Value)(a:Act):Prop:=
 (Region.wanted o (yielded ops a.tmps)=true/\∀w,Mod [] w0 w->o.quietAt P a (λw'=>Mod [] w w') w v)\/
 (Region.wanted o (yielded ops a.tmps)=false/\v=undef)
theorem YieldsW.of_same{o:Oper}{v:Value}{a a':Act}(hy:YieldsW P ops w0 o v a)(he:execOp a'.eval o=execOp a.eval o)
  (hw:Region.wanted o (yielded ops a'.tmps)=Region.wanted o (yielded ops a.tmps)):YieldsW P ops w0 o v a':=by
 unfold YieldsW Oper.quietAt at*
 rw [he,hw];exact hy
theorem YieldsW.wpOp{i:Nat}{o:Oper}{v:Value}{a:Act}(hi:ops[i]?=some o)(hy:YieldsW P ops w0 o v a){K:Act->World->Prop}{w:World}(h0:Mod [] w0 w)
  (h:∀w',Mod [] w w'->K (a.put o.dst v) w'):wpOp P ops Q i K a w:=by
 unfold Go.wpOp;simp only [hi];rcases hy with ⟨hw,hv⟩|⟨hw,rfl⟩
 ·simp only [hw,if_true];refine .inl ?_;have h3:=hv w h0;unfold Oper.quietAt at h3;unfold Oper.wp;generalize (execOp a.eval o).run P w=r at*
  cases r with
  |ok n w'=>
   cases n<;>simp only [Oper.quietUpon] at h3<;>simp only [Oper.upon]
   case value u=>obtain ⟨e1,e2⟩:=h3;rw [e1,e2];exact h _ (Mod.refl _ _)
   case skip=>obtain ⟨e1,e2⟩:=h3;rw [e1,←e2];exact h _ (Mod.refl _ _)
   case enter f args=>
    obtain ⟨e1,hc⟩:=h3;rw [e1];exact hc.mono λe w'' ⟨he,hw''⟩=>by subst he;exact h _ hw''
  |halt x w'=>simp only [Oper.quietUpon] at h3
 ·simp only [hw,Bool.false_eq_true,if_false];exact h _ (Mod.refl _ _)
theorem wpOp_putW{j:Nat}{oi oj:Oper}{v:Value}(hj:ops[j]?=some oj)(hap:oi.apart ops oj=true)
  (hsi:∀cs b,oi.op≠.select cs b)(hsj:∀cs b,oj.op≠.select cs b)
  (hQ:∀c a w,Q (.panic c) (a.put oi.dst v) w->Q (.panic c) a w){K:Act->World->Prop}{a:Act}{w:World}
  (hy:YieldsW P ops w0 oi v a)(h:wpOp P ops Q j K (a.put oi.dst v) w):
  wpOp P ops Q j (λa' w'=>YieldsW P ops w0 oi v a'/\K (a'.put oi.dst v) w') a w:=by
 obtain ⟨h1,h2,h3⟩:=Oper.apart_spec hap;have keep:∀(a:Act),YieldsW P ops w0 oi v a->∀u,YieldsW P ops w0 oi v (a.put oj.dst u):=λa hy u=>
  hy.of_same (execOp_put oi hsi a oj.dst u h3) (wanted_put oi a oj.dst u h3)
 have keepD:∀d,YieldsW P ops w0 oi v {a with defers:=d::a.defers}:=λd=>hy.of_same rfl rfl;unfold wpOp at*
 simp only [hj] at*
 rw [wanted_put oj a oi.dst v h1] at h;split
 ·rename_i hw;simp only [hw,if_true] at h;rcases h with h|⟨hasks,hlets⟩
  case inr=>exact .inr ⟨by unfold Oper.asks at*;rw [execOp_put oj hsj a oi.dst v h1] at hasks;exact hasks,hlets⟩
  refine .inl ?_;unfold Oper.wp at*
  rw [execOp_put oj hsj a oi.dst v h1] at h;generalize (execOp a.eval oj).run P w=r at*
  cases r with
  |ok n w'=>
   cases n<;>simp only [Oper.upon] at h⊢
   case value u=>exact ⟨keep a hy u,by rw [←Act.put_comm a v u h2];exact h⟩
   case skip=>exact ⟨keep a hy _,by rw [←Act.put_comm a v undef h2];exact h⟩
   case defer d=>
    refine ⟨keep _ (keepD d) _,?_⟩;rw [←Act.put_comm _ v undef h2,←Act.put_defers];exact h
   case enter f args=>
    refine Calls.mono h λe w'' he=>?_;cases e with
    |returned u=>exact ⟨keep a hy u,by rw [←Act.put_comm a v u h2];exact he⟩
    |panicked c=>exact hQ _ _ _ he
    |outgrown=>exact he
   case row row args=>exact Rows.mono h λu w'' he=>⟨keep a hy u,by rw [←Act.put_comm a v u h2];exact he⟩
  |halt x w'=>
   cases x<;>simp only [Oper.upon] at h⊢
   case panic u=>exact hQ _ _ _ h
 ·rename_i hw;simp only [hw] at h;exact ⟨keep a hy _,by rw [←Act.put_comm a v undef h2];exact h⟩
theorem wpAnyW_first{i:Nat}{oi:Oper}{v:Value}(hi:ops[i]?=some oi)(hsel:∀(j:Nat) (o:Oper) cs b,ops[j]?=some o->o.op≠.select cs b)
  (hs:Region.sinkB md ops m=true)(hc:Region.chainB md ops m=true)(hn:m<ops.size)(hin:i<m)(hT:∀l a w w',T l a w->Mod [] w w'->T l a w')
  (hdone:∀listed a w,T listed a w->∀j∈Region.ready md ops listed,m<=j)(hQ:∀c a w,Q (.panic c) (a.put oi.dst v) w->Q (.panic c) a w):
  ∀(f:Nat) (listed:Array Bool) (a:Act) (w:World),HeadInv md ops m listed->
   (∀j oj,ops[j]?=some oj->j≠i->listed.getD j true=false->(∀e∈oj.after,Region.binds md e=true->e.on≠i)->oi.apart ops oj=true)->
   i∈Region.ready md ops listed->YieldsW P ops w0 oi v a->Mod [] w0 w->
   wpAnyW P md ops Q w0 m T f (listed.setIfInBounds i true) (a.put oi.dst v) w->wpAnyW P md ops Q w0 m T (f+1) listed a w:=by
 intro f;have below:∀(listed:Array Bool),HeadInv md ops m listed->i∈Region.ready md ops listed->∀j∈Region.ready md ops listed,j<m:=by
  intro listed inv hr j hj;rcases Nat.lt_or_ge j m with h|h
  ·exact h
  ·exact absurd hj (tail_waits hs hc hn inv _ i rfl hin (mem_ready.1 hr).1 j h)
 induction f with
 |zero=>
  intro listed a w inv _ hr hy h0 H w' hw';refine ⟨λh=>(by rw [h] at hr;cases hr),λj hj=>⟨below listed inv hr j hj,?_⟩⟩;have hjn:=below listed inv hr j hj;by_cases hji:j=i
  ·subst hji;exact hy.wpOp hi (h0.trans hw') λw'' hm=>⟨(h0.trans hw').trans hm,hT _ _ _ _ H (hw'.trans hm)⟩
  ·have:=hdone _ _ _ H j (ready_mono hj hji);omega
 |succ f ih=>
  intro listed a w inv hfree hr hy h0 H w' hw';refine ⟨λh=>(by rw [h] at hr;cases hr),λj hj=>⟨below listed inv hr j hj,?_⟩⟩;have hjn:=below listed inv hr j hj;by_cases hji:j=i
  ·subst hji;exact hy.wpOp hi (h0.trans hw') λw'' hm=>⟨(h0.trans hw').trans hm,wpAnyW_grow hT _ _ _ _ _ H (hw'.trans hm)⟩
  ·have h1:=((H w' hw').2 j (ready_mono hj hji)).2;obtain ⟨hjun,oj,hoj,hall⟩:=mem_ready.1 hj;have hnot:∀e∈oj.after,Region.binds md e=true->e.on≠i:=λe he hb heq=>by
    have h1:=hall e he hb;rw [heq,getD_both (mem_ready.1 hr).1] at h1;cases h1
   have h2:=wpOp_putW hoj (hfree j oj hoj hji hjun hnot) (λcs b=>hsel i oi cs b hi) (λcs b=>hsel j oj cs b hoj) hQ hy h1;have hfree':∀k ok,ops[k]?=some ok->k≠i->(listed.setIfInBounds j true).getD k true=false->
     (∀e∈ok.after,Region.binds md e=true->e.on≠i)->oi.apart ops ok=true:=λk ok hk hki hun hno=>by
    refine hfree k ok hk hki ?_ hno;by_cases hjk:j=k
    ·subst hjk;exact hjun
    ·rw [getD_set_ne true hjk] at hun;exact hun
   refine wpOp_mono (λa' w'' h3=>⟨h3.2.1,ih (listed.setIfInBounds j true) a' w'' (inv.set hj hjn) hfree' (ready_mono hr (Ne.symm hji)) h3.1 h3.2.1 ?_⟩) h2;rw [Array.setIfInBounds_comm _ _ hji];exact h3.2.2
def lexE(md:Region.Mode)(ops:Array Oper)(m e:Nat):List Nat->Array Bool->Bool
 |[],listed=>(Region.ready md ops listed==[e])&&(decide (e<m)&&Region.seqB md ops (ops.size-m) m (listed.setIfInBounds e true))
 |i::r,listed=>((Region.ready md ops listed).contains i&&(Region.free md ops listed i&&decide (i<m)))&&lexE md ops m e r (listed.setIfInBounds i true)
def wpQuietR(P:Program)(ops:Array Oper)(w0:World)(K:Act->Prop):List Oper->Act->Prop
 |[],a=>K a
 |o::rest,a=>if Region.wanted o (yielded ops a.tmps) then ∃v,(∀w,Mod [] w0 w->o.quietAt P a (λw'=>Mod [] w w') w v)/\wpQuietR P ops w0 K rest (a.put o.dst v) else wpQuietR P ops w0 K rest (a.put o.dst undef)
theorem wpAnyW_lex{K:Act->World->Prop}{e:Nat}(hsel:Region.noSelect ops=true)(hs:Region.sinkB md ops m=true)(hc:Region.chainB md ops m=true)(hn:m<ops.size)
  (hQ:∀c a w,¬Q (.panic c) a w):
  ∀(is:List Nat) (listed:Array Bool) (a:Act) (w:World),HeadInv md ops m listed->Mod [] w0 w->lexE md ops m e is listed=true->
  wpQuietR P ops w0 (λa1=>∀w1,Mod [] w0 w1->wpOp P ops Q e (λa' w''=>Mod [] w0 w''/\∀w',Mod [] w'' w'->K a' w') a1 w1) (is.filterMap λi=>ops[i]?) a->
  wpAnyW P md ops Q w0 m (λlisted' a' w'=>Region.seqB md ops (ops.size-m) m listed'=true/\∀w'',Mod [] w' w''->K a' w'') (is.length+1) listed a w
 |[],listed,a,w,inv,h0,hB,h=>by
  simp only [lexE,Bool.and_eq_true,decide_eq_true_eq] at hB;obtain ⟨hr,hem,hseq⟩:=hB;have hr':Region.ready md ops listed=[e]:=by simpa using hr
  intro w' hw';refine ⟨by rw [hr'];simp,λi hi=>?_⟩;rw [hr'] at hi;obtain rfl:i=e:=by simpa using hi
  have h':=h w' (h0.trans hw');refine ⟨hem,wpOp_mono ?_ h'⟩;intro a' w'' hh;exact ⟨hh.1,hseq,hh.2⟩
 |i::r,listed,a,w,inv,h0,hB,h=>by
  simp only [lexE,Bool.and_eq_true,decide_eq_true_eq] at hB;obtain ⟨⟨hr,hf,him⟩,hB'⟩:=hB;have hr':i∈Region.ready md ops listed:=by simpa using hr
  obtain ⟨_,oi,hoi,_⟩:=mem_ready.1 hr';have hl:((i::r).filterMap λi=>ops[i]?)=oi::(r.filterMap λi=>ops[i]?):=by simp [hoi]
  rw [hl] at h;have hst:∃v,YieldsW P ops w0 oi v a/\wpQuietR P ops w0 (λa1=>∀w1,Mod [] w0 w1->wpOp P ops Q e (λa' w''=>Mod [] w0 w''/\∀w',Mod [] w'' w'->K a' w') a1 w1) (r.filterMap λi=>ops[i]?) (a.put oi.dst v):=by
   simp only [wpQuietR] at h;by_cases hw:Region.wanted oi (yielded ops a.tmps)=true
   ·simp only [hw,if_true] at h;obtain ⟨v,h1,h2⟩:=h;exact ⟨v,.inl ⟨hw,h1⟩,h2⟩
   ·simp only [hw] at h;exact ⟨undef,.inr ⟨by simpa using hw,rfl⟩,h⟩
  obtain ⟨v,hyW,hK⟩:=hst;exact wpAnyW_first hoi (Region.noSelect_spec hsel) hs hc hn him (λl a w w' hh hm=>⟨hh.1,λw'' hm'=>hh.2 w'' (hm.trans hm')⟩) (λlisted' a' w' hT=>seqB_ready hT.1) (λc a w hq=>absurd hq (hQ _ _ _)) (r.length+1) listed a w inv
   (Region.free_spec hoi hf) hr' hyW h0 (wpAnyW_lex hsel hs hc hn hQ r _ _ w (inv.set hr' him) h0 hB' hK)
def tail1B(ops:Array Oper)(m e:Nat)(is:List Nat):Bool:=
 Region.noSelect ops&&(decide (m<ops.size)&&(Region.sinkB .any ops m&&(Region.chainB .any ops m&&(decide (is.length+1=m)&&lexE .any ops m e is (Array.replicate ops.size false)))))
end
section
variable{P:Program}{n:Nat}{D:List Deferred}{ops:Array Oper}{Q:Exit->Act->World->Prop}{w:World}{L:List (Nat×Value)}
def RReg(P:Program)(n:Nat)(D:List Deferred)(ops:Array Oper)(w0:World)(K:Act->Prop)(l:List Oper)(L:List (Nat×Value)):Prop:=
 ∀a,Hold n L D a->wpQuietR P ops w0 K l a
theorem evGo_quietR{w0:World}{K:Act->Prop}:∀{l:List Oper} {rest:List Oper} {L L':List (Nat×Value)} {rs:List Value} {obs:List Ob},evGo P n ops.toList l L rs=some (L',obs)->(∀w',Mod [] w0 w'->Obsl w' obs)->
  RReg P n D ops w0 K rest L'->RReg P n D ops w0 K (l++rest) L
 |[],rest,L,L',rs,obs,h,_,hk=>by
  simp only [evGo] at h;split at h
  ·simp only [Option.some.injEq,Prod.mk.injEq] at h;obtain ⟨rfl,_⟩:=h;exact hk
  ·cases h
 |o::r,rest,L,L',rs,obs,h,ho,hk=>by
  intro a ha;simp only [evGo] at h;split at h
  ·rename_i hw;split at h
   ·rename_i v obs1 rs' hv;split at h
    ·rename_i hd;split at h
     ·rename_i L1 obs2 hr;simp only [Option.some.injEq,Prod.mk.injEq] at h;obtain ⟨rfl,rfl⟩:=h;simp only [List.cons_append,wpQuietR,wantedL_spec ha hw,if_true];refine ⟨v,λw' hC=>?_,evGo_quietR hr (λw' hC=>(ho w' hC).right) hk _ (ha.setD hd v)⟩;have hrun:=evOp_run hv ha.agrees (ho w' hC).left;simp only [Oper.quietAt,hrun,Oper.quietUpon,and_self]
     ·cases h
    ·cases h
   ·cases h
  ·rename_i hw;split at h
   ·rename_i hd;simp only [List.cons_append,wpQuietR,wantedL_spec ha hw,Bool.false_eq_true,if_false];exact evGo_quietR h ho hk _ (ha.setD hd undef)
   ·cases h
  ·cases h
theorem r_seg{w0:World}{K:Act->Prop}{l:List Oper}{k:Nat}(m:Nat)(L':List (Nat×Value))(obs:List Ob)(rs:List Value)(keep:List Nat)
  (h:(match evGo P n ops.toList ((l.drop k).take m) L rs with
   |some (L1,obs)=>match keepL L1 keep with|some L2=>some (L2,obs)|none=>none
   |none=>none)=some (L',obs))(ho:∀w',Mod [] w0 w'->Obs w' obs)
  (hk:RReg P n D ops w0 K (l.drop (k+m)) L'):RReg P n D ops w0 K (l.drop k) L:=by
 split at h
 ·rename_i L1 obs1 hg;split at h
  ·rename_i L2 hk2;simp only [Option.some.injEq,Prod.mk.injEq] at h;obtain ⟨rfl,rfl⟩:=h;have e:l.drop k=(l.drop k).take m++l.drop (k+m):=by
    rw [←List.drop_drop,List.take_append_drop]
   rw [e];exact evGo_quietR hg (λw' hC=>(ho w' hC).all) (λa ha=>hk a (ha.keep hk2))
  ·cases h
 ·cases h
theorem r_call{w0:World}{K:Act->Prop}{k:Nat}{l:List Oper}(j:Nat)(f:FuncId)(vs:List Value)(dst:Option Nat)(v:Value)(h:callAt P n ops.toList j L=some (f,vs,dst))(hl:l[k]?=ops.toList[j]?)
  (hc:∀w',Mod [] w0 w'->Calls P f vs.toArray w' λe w''=>e=.returned v/\Mod [] w' w'')
  (hk:RReg P n D ops w0 K (l.drop (k+1)) (setD dst v L)):RReg P n D ops w0 K (l.drop k) L:=by
 intro a ha;obtain ⟨o,ho,hdst,hd,hw,hrun⟩:=callAt_spec (ops:=ops) h ha;rw [drop_cons (hl.trans ho)];simp only [wpQuietR,hw,if_true];refine ⟨v,λw' hC=>?_,by rw [hdst];exact hk _ (ha.setD hd v)⟩;simp only [Oper.quietAt,hrun,Oper.quietUpon,true_and];exact hc w' hC
theorem re_end{w0:World}{K:Act->Prop}{l:List Oper}{k:Nat}(h:(l.drop k).isEmpty=true)(hq:∀a,Hold n L D a->K a):RReg P n D ops w0 K (l.drop k) L:=by
 intro a ha;rw [List.isEmpty_iff.1 h];exact hq a ha
def EReg(P:Program)(n:Nat)(D:List Deferred)(ops:Array Oper)(Q:Exit->Act->World->Prop)(w0:World)(m e:Nat)(L:List (Nat×Value))(w1:World):Prop:=
 ∀a,Hold n L D a->wpOp P ops (onlyN Q) e (λa' w''=>Mod [] w0 w''/\∀w',Mod [] w'' w'->wpList P ops (onlyN Q) (ops.toList.drop m) a' w') a w1
theorem e_call{w0 w1:World}{m e:Nat}(f:FuncId)(vs:List Value)(dst:Option Nat)(h:callAt P n ops.toList e L=some (f,vs,dst))(h01:Mod [] w0 w1){R:Ending->World->Prop}(hc:Calls P f vs.toArray w1 R)
  (hk:∀x w2,R x w2->∃v,x=.returned v/\Mod [] w1 w2/\∀w',Mod [] w2 w'->Reg P n D ops (onlyN Q) m (setD dst v L) w'):EReg P n D ops Q w0 m e L w1:=by
 intro a ha;obtain ⟨o,ho,hdst,hd,hw,hrun⟩:=callAt_spec (ops:=ops) h ha;have ho':ops[e]?=some o:=by simpa using ho
 unfold wpOp;simp only [ho',hw,if_true];refine .inl ?_;simp only [Oper.wp,hrun,Oper.upon];refine hc.mono λx w2 hR=>?_;obtain ⟨v,rfl,hm,hv⟩:=hk x w2 hR;refine ⟨h01.trans hm,λw' hw'=>?_⟩;rw [hdst];exact hv w' hw' _ (ha.setD hd v)
theorem w_tail1{id:Nat}{ops:Array Oper}(m e:Nat)(is:List Nat)(hm:P.follows .mixedOrders=true)(hB:tail1B ops m e is=true)
  (h:RReg P n D ops w (λa1=>∀w1,Mod [] w w1->wpOp P ops (onlyN Q) e (λa' w''=>Mod [] w w''/\∀w',Mod [] w'' w'->wpList P ops (onlyN Q) (ops.toList.drop m) a' w') a1 w1) ((is.filterMap λi=>ops[i]?).drop 0) L):
  W P n D (.region id ops true) Q L w:=by
 intro a ha;simp only [tail1B,Bool.and_eq_true,decide_eq_true_eq] at hB;obtain ⟨hsel,hn,hs,hc,hlen,hlex⟩:=hB;have inv0:HeadInv .any ops m (Array.replicate ops.size false):=
  ⟨by simp,λj oj _ hl=>(by rw [getD_replicate_false] at hl;cases hl),λt _ ht=>getD_in (by simpa using ht) (getD_replicate_false _ _)⟩
 have H:=wpAnyW_lex (Q:=onlyN Q) hsel hs hc hn (λc a w hq=>hq) is _ a w inv0 (Mod.refl _ _) hlex (h a ha);refine wp_region_any hm ?_;have h2:=wpAny_of_W (g:=ops.size-m) (λlisted a' w' hT=>by
  have h3:=wpAny_of_seq (md:=.any) (Q':=onlyN Q) (ops.toList.drop m) m listed a' w' (λj=>by simp [List.getElem?_drop]) (by simpa using hT.1) (hT.2 w' (Mod.refl _ _))
  simpa using h3) _ _ _ _ (wpAnyW_grow (λl a w w' hh hm=>⟨hh.1,λw'' hm'=>hh.2 w'' (hm.trans hm')⟩) _ _ _ _ _ H (Mod.draw w))
 rw [show is.length+1+(ops.size-m)=ops.size by omega] at h2;exact wpAny_monoQ (λe a w hq=>by cases e<;>first|exact hq|exact absurd hq (λh=>h)) _ _ _ _ h2
def bsliceAt(P:Program)(n:Nat)(ops:List Oper)(k:Nat)(L:List (Nat×Value)):Option (Array Value×TypeId×Nat×Option Nat):=
 match ops[k]? with
 |some o=>match wantedL ops L o,dstOk o.dst n with
  |some true,true=>match o.op with
   |.buildSlice t len parts=>match evParts L parts.toList,P.underlying t with
    |some ps,some (.slice e)=>match P.info? e with
     |some i=>match i.zero with
      |some z=>match Instr.fill (λj=>some (j*i.size,i.size)) ((Array.range (len*i.size)).map (z.cells[·%z.cells.size]!)) ps with
       |some cells=>if !(decide (len*i.size>2^24))&&!(decide (len*i.size=0)) then some (cells,e,len,o.dst) else none
       |none=>none
      |none=>none
     |none=>none
    |_,_=>none
   |_=>none
  |_,_=>none
 |none=>none
theorem bsliceAt_spec{k:Nat}{cs:Array Value}{t:TypeId}{len:Nat}{dst:Option Nat}(h:bsliceAt P n ops.toList k L=some (cs,t,len,dst)){a:Act}(ha:Hold n L D a):
  ∃o,ops.toList[k]?=some o/\o.dst=dst/\dstOk dst n=true/\Region.wanted o (yielded ops a.tmps)=true/\∀w:World,(execOp a.eval o).run P w=.ok (.value (.slice (some ⟨w.heap.size,0,none⟩) len len)) (w.alloc (.cells cs t (0,0))):=by
 unfold bsliceAt at h;split at h
 ·rename_i o ho;split at h
  ·rename_i hw hd;split at h
   ·rename_i tt len' parts hop;split at h
    ·rename_i ps e hps hu;split at h
     ·rename_i i hi;split at h
      ·rename_i z hz;split at h
       ·rename_i cells hf;split at h
        ·rename_i hc;simp only [Option.some.injEq,Prod.mk.injEq] at h;obtain ⟨rfl,rfl,rfl,rfl⟩:=h;simp only [Bool.and_eq_true,Bool.not_eq_true',decide_eq_false_iff_not] at hc;refine ⟨o,ho,rfl,hd,wantedL_spec ha hw,λw=>?_⟩;obtain ⟨dst,op,ty,pos,af,g'⟩:=o;simp only at hop;subst hop;have hp:(parts.map λ(i,x)=>(i,a.eval x)).toList=ps:=by
          rw [Array.toList_map];exact evParts_run ha.agrees hps
         have hsz:(sizeOf e).run P w=.ok i.size w:=by simp [sizeOf,typeInfo,hi]
         simp only [execOp,Instr.buildSlice,Sem.run_bind,runU hu,Result.andThen_ok,hsz,if_neg hc.1,if_neg hc.2,zeroValue,typeInfo,hi,hz,hp,hf];simp [zeroValue,typeInfo,hi,hz,hp,hf,newRow]
        ·cases h
       ·cases h
      ·cases h
     ·cases h
    ·cases h
   ·cases h
  ·cases h
 ·cases h
theorem reg_bslice{k:Nat}(cs:Array Value)(t:TypeId)(len:Nat)(dst:Option Nat)(h:bsliceAt P n ops.toList k L=some (cs,t,len,dst))
  (hk:∀b w',New w w' b (.cells cs t (0,0))->Reg P n D ops Q (k+1) (setD dst (.slice (some ⟨b,0,none⟩) len len) L) w'):Reg P n D ops Q k L w:=by
 intro a ha;obtain ⟨o,ho,hdst,hd,hw,hr⟩:=bsliceAt_spec (ops:=ops) h ha;rw [drop_cons ho];simp only [wpList,hw,if_true];refine .inl ?_;simp only [Oper.wp,hr,Oper.upon];rw [hdst];exact hk _ _ (New.alloc w _) _ (ha.setD hd _)
theorem e_bslice{w0 w1:World}{m e:Nat}(cs:Array Value)(t:TypeId)(len:Nat)(dst:Option Nat)(h:bsliceAt P n ops.toList e L=some (cs,t,len,dst))(h01:Mod [] w0 w1)
  (hk:∀b w2,New w1 w2 b (.cells cs t (0,0))->∀w',Mod [] w2 w'->Reg P n D ops (onlyN Q) m (setD dst (.slice (some ⟨b,0,none⟩) len len) L) w'):EReg P n D ops Q w0 m e L w1:=by
 intro a ha;obtain ⟨o,ho,hdst,hd,hw,hr⟩:=bsliceAt_spec (ops:=ops) h ha;have ho':ops[e]?=some o:=by simpa using ho
 unfold wpOp;simp only [ho',hw,if_true];refine .inl ?_;simp only [Oper.wp,hr,Oper.upon];have hN:=New.alloc w1 (.cells cs t (0,0));refine ⟨h01.trans hN.mod,λw' hw'=>?_⟩;rw [hdst];exact hk _ _ hN w' hw' _ (ha.setD hd _)
def skipAt(n:Nat)(ops:List Oper)(k:Nat)(L:List (Nat×Value)):Option (Option Nat):=
 match ops[k]? with
 |some o=>match wantedL ops L o,dstOk o.dst n with
  |some false,true=>some o.dst
  |_,_=>none
 |none=>none
theorem e_skip{w0 w1:World}{m e:Nat}(dst:Option Nat)(h:skipAt n ops.toList e L=some dst)(h01:Mod [] w0 w1)
  (hk:∀w',Mod [] w1 w'->Reg P n D ops (onlyN Q) m (setD dst undef L) w'):EReg P n D ops Q w0 m e L w1:=by
 intro a ha;unfold skipAt at h;split at h
 ·rename_i o ho;split at h
  ·rename_i hw hd;simp only [Option.some.injEq] at h;subst h;have ho':ops[e]?=some o:=by simpa using ho
   unfold wpOp;simp only [ho',wantedL_spec ha hw,Bool.false_eq_true,if_false];exact ⟨h01,λw' hw'=>hk w' hw' _ (ha.setD hd _)⟩
  ·cases h
 ·cases h
theorem only_n(h:∀a,Hold n L D a->Q .normal a w):∀a,Hold n L D a->onlyN Q .normal a w:=h
end
abbrev pz(b:Nat):Value:=.pointer (some ⟨b,0,none⟩)
abbrev iz(k:Nat)(x:Int):Nat×Value:=(k,.int .i64 x)
abbrev rz(k b:Nat):Nat×Value:=(k,.pointer (some ⟨b,0,none⟩))
def obv:List Ob->List Value
 |[]=>[]
 |.cell _ v::r=>v::obv r
 |_::r=>obv r
theorem zt{a b c:World}(h:Mod [] a b)(k:Mod [] b c):Mod [] a c:=h.trans k
theorem zi(x:Int)(h:-9223372036854775808<=x)(h':x<=9223372036854775807):IntKind.i64.wrap x=x:=by rw [IntKind.wrap_i64];omega
theorem zbq:(∀a b:Bool,((a||b)=true)=(a=true\/b=true))/\(∀a b:Bool,((a&&b)=true)=(a=true/\b=true))/\(∀a b:Bool,((a||b)=false)=(a=false/\b=false))/\(∀a b:Bool,((a&&b)=false)=(a=false\/b=false))/\
  (∀a:Bool,((!a)=true)=(a=false))/\(∀a:Bool,((!a)=false)=(a=true))/\(∀(p:Prop) [Decidable p],(decide p=true)=p)/\(∀(p:Prop) [Decidable p],(decide p=false)=¬p)/\
  (∀a b:Int,((a==b)=true)=(a=b))/\(∀a b:Int,((a==b)=false)=(a≠b))/\(∀a b:Int,((a !=b)=true)=(a≠b))/\(∀a b:Int,((a !=b)=false)=(a=b)):=by
 refine ⟨?_,?_,?_,?_,?_,?_,λp _=>by simp,λp _=>by simp,λa b=>by simp,λa b=>by simp,λa b=>by simp,λa b=>by simp⟩
 ·intro a b;cases a<;>cases b<;>simp
 ·intro a b;cases a<;>cases b<;>simp
 ·intro a b;cases a<;>cases b<;>simp
 ·intro a b;cases a<;>cases b<;>simp
 ·intro a;cases a<;>simp
 ·intro a;cases a<;>simp
theorem zh{p:Prop}{w:World}(h:p):Ob.holds w (.prop p):=h
section
variable{P:Program}{n:Nat}{D:List Deferred}{ops:Array Oper}{Q:Exit->Act->World->Prop}{w:World}{L:List (Nat×Value)}
theorem zs(m:Nat)(L':List (Nat×Value)){k:Nat}(hk:Reg P n D ops Q (k+m) L' w)(h:evSeg P n ops.toList k m L [] (L'.map (·.1))=some (L',[]):=by kernel_rfl):Reg P n D ops Q k L w:=
 reg_seg m L' [] [] _ h trivial hk
theorem zv(m:Nat)(L':List (Nat×Value))(obs:List Ob)(rs:List Value){k:Nat}(ho:Obs w obs)(hk:Reg P n D ops Q (k+m) L' w)(h:evSeg P n ops.toList k m L rs (L'.map (·.1))=some (L',obs):=by kernel_rfl):Reg P n D ops Q k L w:=
 reg_seg m L' obs rs _ h ho hk
theorem zo(m:Nat)(L':List (Nat×Value))(obs:List Ob){k:Nat}(ho:Obs w obs)(hk:Reg P n D ops Q (k+m) L' w)(h:evSeg P n ops.toList k m L (obv obs) (L'.map (·.1))=some (L',obs):=by kernel_rfl):Reg P n D ops Q k L w:=
 reg_seg m L' obs _ _ h ho hk
theorem zq{C:World->Prop}{K:Act->Prop}{l:List Oper}{k:Nat}(m:Nat)(L':List (Nat×Value))(hk:QReg P n D ops C K (l.drop (k+m)) L')
  (h:(match evGo P n ops.toList ((l.drop k).take m) L [] with
   |some (L1,obs)=>match keepL L1 (L'.map (·.1)) with|some L2=>some (L2,obs)|none=>none
   |none=>none)=some (L',[]):=by kernel_rfl):QReg P n D ops C K (l.drop k) L:=q_seg m L' [] [] _ h (λ_ _=>trivial) hk
theorem zqv{C:World->Prop}{K:Act->Prop}{l:List Oper}{k:Nat}(m:Nat)(L':List (Nat×Value))(obs:List Ob)(rs:List Value)(ho:∀w',C w'->Obs w' obs)(hk:QReg P n D ops C K (l.drop (k+m)) L')
  (h:(match evGo P n ops.toList ((l.drop k).take m) L rs with
   |some (L1,obs)=>match keepL L1 (L'.map (·.1)) with|some L2=>some (L2,obs)|none=>none
   |none=>none)=some (L',obs):=by kernel_rfl):QReg P n D ops C K (l.drop k) L:=q_seg m L' obs rs _ h ho hk
theorem zqo{C:World->Prop}{K:Act->Prop}{l:List Oper}{k:Nat}(m:Nat)(L':List (Nat×Value))(obs:List Ob)(ho:∀w',C w'->Obs w' obs)(hk:QReg P n D ops C K (l.drop (k+m)) L')
  (h:(match evGo P n ops.toList ((l.drop k).take m) L (obv obs) with
   |some (L1,obs)=>match keepL L1 (L'.map (·.1)) with|some L2=>some (L2,obs)|none=>none
   |none=>none)=some (L',obs):=by kernel_rfl):QReg P n D ops C K (l.drop k) L:=q_seg m L' obs _ _ h ho hk
theorem zr{w0:World}{K:Act->Prop}{l:List Oper}{k:Nat}(m:Nat)(L':List (Nat×Value))(hk:RReg P n D ops w0 K (l.drop (k+m)) L')
  (h:(match evGo P n ops.toList ((l.drop k).take m) L [] with
   |some (L1,obs)=>match keepL L1 (L'.map (·.1)) with|some L2=>some (L2,obs)|none=>none
   |none=>none)=some (L',[]):=by kernel_rfl):RReg P n D ops w0 K (l.drop k) L:=r_seg m L' [] [] _ h (λ_ _=>trivial) hk
theorem zrv{w0:World}{K:Act->Prop}{l:List Oper}{k:Nat}(m:Nat)(L':List (Nat×Value))(obs:List Ob)(rs:List Value)(ho:∀w',Mod [] w0 w'->Obs w' obs)(hk:RReg P n D ops w0 K (l.drop (k+m)) L')
  (h:(match evGo P n ops.toList ((l.drop k).take m) L rs with
   |some (L1,obs)=>match keepL L1 (L'.map (·.1)) with|some L2=>some (L2,obs)|none=>none
   |none=>none)=some (L',obs):=by kernel_rfl):RReg P n D ops w0 K (l.drop k) L:=r_seg m L' obs rs _ h ho hk
theorem ze{k:Nat}(hq:∀a,Hold n L D a->Q .normal a w)(h:(ops.toList.drop k).isEmpty=true:=by kernel_rfl):Reg P n D ops Q k L w:=reg_end h hq
theorem zw{id:Nat}{y:Code}(h:Reg P n D ops (Exit.then (λa w=>y.wp P Q a w) Q) 0 L w):W P n D (.seq (.region id ops false) y) Q L w:=w_seq (w_region h)
theorem zn{id:Nat}{y:Code}(h:Reg P n D ops (Exit.then (λa w=>y.wp P Q a w) Q) 0 L w):∀a,Hold n L D a->Exit.then (λa w=>(Code.seq (.region id ops false) y).wp P Q a w) Q .normal a w:=n_then (zw h)
theorem zb{γ:Type}{Lg:γ->List (Nat×Value)}{I:γ->World->Prop}(g:γ)(hi:I g w)(hk:keepL L ((Lg g).map (·.1))=some (Lg g):=by kernel_rfl):
  ∀a,Hold n L D a->Exit.then (λa' w'=>∃g,Hold n (Lg g) D a'/\I g w') Q .normal a w:=c_back g _ hk hi
theorem zx{id:Nat}{y:Code}{ops':Array Oper}{k:Nat}(h:Reg P n D ops (Exit.then (λa w=>y.wp P Q a w) Q) 0 L w)(e:(ops'.toList.drop k).isEmpty=true:=by kernel_rfl):
  Reg P n D ops' (Exit.then (λa w=>(Code.seq (.region id ops false) y).wp P Q a w) Q) k L w:=ze (zn h) e
theorem zz{y:Code}{k:Nat}(h:W P n D y Q L w)(e:(ops.toList.drop k).isEmpty=true:=by kernel_rfl):Reg P n D ops (Exit.then (λa w=>y.wp P Q a w) Q) k L w:=ze (n_then h) e
theorem zk{k:Nat}{f:FuncId}{vs:List Value}(dst:Option Nat){v:Value}(hc:Calls P f vs.toArray w λe w'=>e=.returned v/\Mod [] w w')(hk:∀w',Mod [] w w'->Reg P n D ops Q (k+1) (setD dst v L) w')
  (h:callAt P n ops.toList k L=some (f,vs,dst):=by kernel_rfl):Reg P n D ops Q k L w:=reg_call f vs dst h hc λ_ w' ⟨e,m⟩=>⟨v,e,hk w' m⟩
theorem zqk{w0:World}{K:Act->Prop}{k:Nat}{l:List Oper}{f:FuncId}{vs:List Value}(dst:Option Nat){v:Value}(hc:∀w',Mod [] w0 w'->Calls P f vs.toArray w' λe w''=>e=.returned v/\Mod [] w' w'')
  (hk:QReg P n D ops (λw'=>Mod [] w0 w') K (l.drop (k+1)) (setD dst v L))(h:callAt P n ops.toList k L=some (f,vs,dst):=by kernel_rfl)(hl:l[k]?=ops.toList[k]?:=by kernel_rfl):QReg P n D ops (λw'=>Mod [] w0 w') K (l.drop k) L:=
 q_call f vs dst v h hl (λw' hC=>(hc w' hC).mono λ_ _ ⟨he,h2⟩=>⟨he,hC.trans h2⟩) hk
theorem zc{c:Operand}{x y:Code}{b:Bool}(ht:b=true->W P n D x Q L w)(hf:b=false->W P n D y Q L w)(hc:evL L c=some (.bool b):=by rfl):W P n D (.cond c x y) Q L w:=w_cond hc ht hf
end
set_option maxRecDepth 100000
abbrev CQ (f : FuncId) (vs : List Value) (w : World) (R : Ending → World → Prop) : Prop := Calls Tryz.prog f vs.toArray w R
abbrev CR (f : FuncId) (vs : List Value) (w : World) (v : Value) : Prop := Calls Tryz.prog f vs.toArray w fun e w' => e = .returned v ∧ Mod [] w w'
theorem en {P : Program} {n : Nat} {w : World} {f : FuncId} {fn : Func} {c : Code} {vs : List Value} {R : Ending → World → Prop} (hf : P.funcs[f]? = some fn) (hn : fn.ntmps = n)
 (h : W P n [] c (bodyPost P fn R) (regs 0 vs) w) (hb : fn.body = some c := by exact rfl) (hl : Nat.ble vs.length n = true := by exact rfl) : Calls P f vs.toArray w R := enter hf hb hn hl h
def nx(P:Program)(n:Nat)(ops seg:List Oper)(L:List (Nat×Value))(rs:List Value):List (Nat×Value):=match evGo P n ops seg L rs with|some (L',_)=>L'|none=>[]
def nO(P:Program)(n:Nat)(ops seg:List Oper)(L:List (Nat×Value))(rs:List Value):Option (List Ob):=match evGo P n ops seg L rs with|some (_,o)=>some o|none=>none
theorem nx_ok{P:Program}{n:Nat}{ops seg:List Oper}{L:List (Nat×Value)}{rs:List Value}{obs:List Ob}(h:nO P n ops seg L rs=some obs):evGo P n ops seg L rs=some (nx P n ops seg L rs,obs):=by
 unfold nO at h;unfold nx;split at h
 ·rename_i e;rw [e];rw [Option.some.inj h]
 ·cases h
theorem zm(x k:Int)(h:0<=x):x.tmod k=x%k:=Int.tmod_eq_emod_of_nonneg h
theorem zd(x k:Int)(h:0<=x):x.tdiv k=x/k:=Int.tdiv_eq_ediv_of_nonneg h
theorem zdw(x k:Int)(h:0<=x)(h':0<=x/k/\x/k<=9223372036854775807):IntKind.i64.wrap (x.tdiv k)=x/k:=by rw [zd x k h];exact zi _ (by omega) h'.2
section
variable{P:Program}{n:Nat}{D:List Deferred}{ops:Array Oper}{Q:Exit->Act->World->Prop}{w:World}{L:List (Nat×Value)}
theorem yV(m:Nat)(obs:List Ob)(rs:List Value){k:Nat}(ho:Obs w obs)(hk:Reg P n D ops Q (k+m) (nx P n ops.toList ((ops.toList.drop k).take m) L rs) w)(h:nO P n ops.toList ((ops.toList.drop k).take m) L rs=some obs:=by kernel_rfl):Reg P n D ops Q k L w:=by
 intro a ha;have e:ops.toList.drop k=(ops.toList.drop k).take m++ops.toList.drop (k+m):=by rw [←List.drop_drop,List.take_append_drop]
 rw [e];exact evGo_wp (nx_ok h) ho.all (λa ha=>hk a ha) a ha
theorem yO(m:Nat)(obs:List Ob){k:Nat}(ho:Obs w obs)(hk:Reg P n D ops Q (k+m) (nx P n ops.toList ((ops.toList.drop k).take m) L (obv obs)) w)(h:nO P n ops.toList ((ops.toList.drop k).take m) L (obv obs)=some obs:=by kernel_rfl):Reg P n D ops Q k L w:=yV m obs _ ho hk h
theorem yS(m:Nat){k:Nat}(hk:Reg P n D ops Q (k+m) (nx P n ops.toList ((ops.toList.drop k).take m) L []) w)(h:nO P n ops.toList ((ops.toList.drop k).take m) L []=some []:=by kernel_rfl):Reg P n D ops Q k L w:=yV m [] [] trivial hk h
theorem yQv{C:World->Prop}{K:Act->Prop}{l:List Oper}{k:Nat}(m:Nat)(obs:List Ob)(rs:List Value)(ho:∀w',C w'->Obs w' obs)(hk:QReg P n D ops C K (l.drop (k+m)) (nx P n ops.toList ((l.drop k).take m) L rs))
  (h:nO P n ops.toList ((l.drop k).take m) L rs=some obs:=by kernel_rfl):QReg P n D ops C K (l.drop k) L:=by
 have e:l.drop k=(l.drop k).take m++l.drop (k+m):=by rw [←List.drop_drop,List.take_append_drop]
 rw [e];exact evGo_quiet (nx_ok h) (λw' hC=>(ho w' hC).all) hk
theorem yQo{C:World->Prop}{K:Act->Prop}{l:List Oper}{k:Nat}(m:Nat)(obs:List Ob)(ho:∀w',C w'->Obs w' obs)(hk:QReg P n D ops C K (l.drop (k+m)) (nx P n ops.toList ((l.drop k).take m) L (obv obs)))
  (h:nO P n ops.toList ((l.drop k).take m) L (obv obs)=some obs:=by kernel_rfl):QReg P n D ops C K (l.drop k) L:=yQv m obs _ ho hk h
theorem yQ{C:World->Prop}{K:Act->Prop}{l:List Oper}{k:Nat}(m:Nat)(hk:QReg P n D ops C K (l.drop (k+m)) (nx P n ops.toList ((l.drop k).take m) L []))
  (h:nO P n ops.toList ((l.drop k).take m) L []=some []:=by kernel_rfl):QReg P n D ops C K (l.drop k) L:=yQv m [] [] (λ_ _=>trivial) hk h
theorem yRv{w0:World}{K:Act->Prop}{l:List Oper}{k:Nat}(m:Nat)(obs:List Ob)(rs:List Value)(ho:∀w',Mod [] w0 w'->Obs w' obs)(hk:RReg P n D ops w0 K (l.drop (k+m)) (nx P n ops.toList ((l.drop k).take m) L rs))
  (h:nO P n ops.toList ((l.drop k).take m) L rs=some obs:=by kernel_rfl):RReg P n D ops w0 K (l.drop k) L:=by
 have e:l.drop k=(l.drop k).take m++l.drop (k+m):=by rw [←List.drop_drop,List.take_append_drop]
 rw [e];exact evGo_quietR (nx_ok h) (λw' hC=>(ho w' hC).all) hk
theorem yRo{w0:World}{K:Act->Prop}{l:List Oper}{k:Nat}(m:Nat)(obs:List Ob)(ho:∀w',Mod [] w0 w'->Obs w' obs)(hk:RReg P n D ops w0 K (l.drop (k+m)) (nx P n ops.toList ((l.drop k).take m) L (obv obs)))
  (h:nO P n ops.toList ((l.drop k).take m) L (obv obs)=some obs:=by kernel_rfl):RReg P n D ops w0 K (l.drop k) L:=yRv m obs _ ho hk h
theorem yR{w0:World}{K:Act->Prop}{l:List Oper}{k:Nat}(m:Nat)(hk:RReg P n D ops w0 K (l.drop (k+m)) (nx P n ops.toList ((l.drop k).take m) L []))
  (h:nO P n ops.toList ((l.drop k).take m) L []=some []:=by kernel_rfl):RReg P n D ops w0 K (l.drop k) L:=yRv m [] [] (λ_ _=>trivial) hk h
theorem yC{c:Operand}{x y:Code}(b:Bool)(ht:b=true->W P n D x Q L w)(hf:b=false->W P n D y Q L w)(hc:evL L c=some (.bool b):=by kernel_rfl):W P n D (.cond c x y) Q L w:=w_cond hc ht hf
theorem yT{c:Operand}{x y:Code}(ht:W P n D x Q L w)(hc:evL L c=some (.bool true):=by kernel_rfl):W P n D (.cond c x y) Q L w:=w_true hc ht
theorem yF{c:Operand}{x y:Code}(hf:W P n D y Q L w)(hc:evL L c=some (.bool false):=by kernel_rfl):W P n D (.cond c x y) Q L w:=w_false hc hf
theorem yE(r:Nat)(v:Value){k:Nat}(hk:Reg P n D ops Q k ((r,v)::L) w)(h:look L r=some v:=by kernel_rfl):Reg P n D ops Q k L w:=by
 refine λa ha=>hk a (ha.sub λi u hi=>?_);simp only [look] at hi;split at hi
 ·rename_i e;subst e;rw [←hi];exact h
 ·exact hi
theorem yW(r:Nat){x y:Int}{k:Nat}(e:x=y)(hk:Reg P n D ops Q k ((r,.int .i64 y)::L) w)(h:look L r=some (.int .i64 x):=by kernel_rfl):Reg P n D ops Q k L w:=by
 subst e;exact yE r _ hk h
theorem yEq{C:World->Prop}{K:Act->Prop}{l:List Oper}(r:Nat)(v:Value)(hk:QReg P n D ops C K l ((r,v)::L))(h:look L r=some v:=by kernel_rfl):QReg P n D ops C K l L:=by
 refine λa ha=>hk a (ha.sub λi u hi=>?_);simp only [look] at hi;split at hi
 ·rename_i e;subst e;rw [←hi];exact h
 ·exact hi
theorem yEr{w0:World}{K:Act->Prop}{l:List Oper}(r:Nat)(v:Value)(hk:RReg P n D ops w0 K l ((r,v)::L))(h:look L r=some v:=by kernel_rfl):RReg P n D ops w0 K l L:=by
 refine λa ha=>hk a (ha.sub λi u hi=>?_);simp only [look] at hi;split at hi
 ·rename_i e;subst e;rw [←hi];exact h
 ·exact hi
section
variable{fn:Func}{R:Ending->World->Prop}
theorem y1{t:Nat}{v:Value}(hR:R (.returned v) w)(hr:fn.results=#[.tmp t]:=by rfl)(hv:look L t=some v:=by kernel_rfl)(a:Act)(ha:Hold n L [] a):bodyPost P fn R .ret a w:=ret1 hr hv hR a ha
theorem y2{t u:Nat}{v v':Value}(hR:R (.returned (.tuple #[v,v'])) w)(hr:fn.results=#[.tmp t,.tmp u]:=by rfl)(hv:look L t=some v:=by kernel_rfl)(hv':look L u=some v':=by kernel_rfl)(a:Act)(ha:Hold n L [] a):bodyPost P fn R .ret a w:=ret2 hr hv hv' hR a ha
end
end
def knightTab:List Int:=[9077567998918656,4679521487814656,38368557762871296,19184278881435648,9592139440717824,4796069720358912,2257297371824128,1128098930098176,2305878468463689728,1152939783987658752,9799982666336960512,4899991333168480256,2449995666584240128,1224997833292120064,576469569871282176,288234782788157440,4620693356194824192,11533718717099671552,5802888705324613632,2901444352662306816,1450722176331153408,725361088165576704,362539804446949376,145241105196122112,18049583422636032,45053588738670592,22667534005174272,11333767002587136,5666883501293568,2833441750646784,1416171111120896,567348067172352,70506185244672,175990581010432,88545054707712,44272527353856,22136263676928,11068131838464,5531918402816,2216203387392,275414786112,687463207072,345879119952,172939559976,86469779988,43234889994,21609056261,8657044482,1075839008,2685403152,1351090312,675545156,337772578,168886289,84410376,33816580,4202496,10489856,5277696,2638848,1319424,659712,329728,132096]
def kingTab:List Int:=[4665729213955833856,11592265440851656704,5796132720425828352,2898066360212914176,1449033180106457088,724516590053228544,362258295026614272,144959613005987840,13853283560024178688,16186183351374184448,8093091675687092224,4046545837843546112,2023272918921773056,1011636459460886528,505818229730443264,216739030602088448,54114388906344448,63227278716305408,31613639358152704,15806819679076352,7903409839538176,3951704919769088,1975852459884544,846636838289408,211384331665408,246981557485568,123490778742784,61745389371392,30872694685696,15436347342848,7718173671424,3307175149568,825720045568,964771708928,482385854464,241192927232,120596463616,60298231808,30149115904,12918652928,3225468928,3768639488,1884319744,942159872,471079936,235539968,117769984,50463488,12599488,14721248,7360624,3680312,1840156,920078,460039,197123,49216,57504,28752,14376,7188,3594,1797,770]
def diagTab:List Int:=[9241421688590303745,4620710844295151872,2310355422147575808,1155177711073755136,577588855528488960,288794425616760832,144396663052566528,72057594037927936,36099303471055874,9241421688590303745,4620710844295151872,2310355422147575808,1155177711073755136,577588855528488960,288794425616760832,144396663052566528,141012904183812,36099303471055874,9241421688590303745,4620710844295151872,2310355422147575808,1155177711073755136,577588855528488960,288794425616760832,550831656968,141012904183812,36099303471055874,9241421688590303745,4620710844295151872,2310355422147575808,1155177711073755136,577588855528488960,2151686160,550831656968,141012904183812,36099303471055874,9241421688590303745,4620710844295151872,2310355422147575808,1155177711073755136,8405024,2151686160,550831656968,141012904183812,36099303471055874,9241421688590303745,4620710844295151872,2310355422147575808,32832,8405024,2151686160,550831656968,141012904183812,36099303471055874,9241421688590303745,4620710844295151872,128,32832,8405024,2151686160,550831656968,141012904183812,36099303471055874,9241421688590303745]
def antiTab:List Int:=[9223372036854775808,4647714815446351872,2323998145211531264,1161999622361579520,580999813328273408,290499906672525312,145249953336295424,72624976668147840,4647714815446351872,2323998145211531264,1161999622361579520,580999813328273408,290499906672525312,145249953336295424,72624976668147840,283691315109952,2323998145211531264,1161999622361579520,580999813328273408,290499906672525312,145249953336295424,72624976668147840,283691315109952,1108169199648,1161999622361579520,580999813328273408,290499906672525312,145249953336295424,72624976668147840,283691315109952,1108169199648,4328785936,580999813328273408,290499906672525312,145249953336295424,72624976668147840,283691315109952,1108169199648,4328785936,16909320,290499906672525312,145249953336295424,72624976668147840,283691315109952,1108169199648,4328785936,16909320,66052,145249953336295424,72624976668147840,283691315109952,1108169199648,4328785936,16909320,66052,258,72624976668147840,283691315109952,1108169199648,4328785936,16909320,66052,258,1]
def rankTab:List Int:=[18374686479671623680,71776119061217280,280375465082880,1095216660480,4278190080,16711680,65280,255]
def fileTab:List Int:=[9259542123273814144,4629771061636907072,2314885530818453536,1157442765409226768,578721382704613384,289360691352306692,144680345676153346,72340172838076673]
structure GC where
 base:Nat
 ap:Nat
 apo:Nat
 pp:Nat
 ppo:Nat
class Glob(c:outParam GC)(w:World):Prop where
 size:c.base<=w.heap.size
 g13:8<=c.base
 hap:c.ap<c.base
 hpp:c.pp<c.base
 g0:w.cell? ⟨0,0,none⟩=some (.slice (some ⟨c.ap,c.apo,none⟩) 12 12)
 pieces:∀j,j<12->w.cell? ⟨c.ap,c.apo+j,none⟩=some (.int .i8 ((j:Int)+1))
 knight:∀j,j<64->w.cell? ⟨1,j,none⟩=some (.int .u64 (knightTab.getD j 0))
 king:∀j,j<64->w.cell? ⟨2,j,none⟩=some (.int .u64 (kingTab.getD j 0))
 diag:∀j,j<64->w.cell? ⟨3,j,none⟩=some (.int .u64 (diagTab.getD j 0))
 anti:∀j,j<64->w.cell? ⟨4,j,none⟩=some (.int .u64 (antiTab.getD j 0))
 ranks:∀j,j<8->w.cell? ⟨5,j,none⟩=some (.int .u64 (rankTab.getD j 0))
 files:∀j,j<8->w.cell? ⟨6,j,none⟩=some (.int .u64 (fileTab.getD j 0))
 g7:w.cell? ⟨7,0,none⟩=some (.slice (some ⟨c.pp,c.ppo,none⟩) 4 4)
 promo:∀j,j<4->w.cell? ⟨c.pp,c.ppo+j,none⟩=some (.int .i8 ((j:Int)+2))
theorem cell_keep{w w':World}{S:List Nat}{b o:Nat}(m:Mod S w w')(hb:b<w.heap.size)(hS:b∉S):w'.cell? ⟨b,o,none⟩=w.cell? ⟨b,o,none⟩:=by
 have:=m.block b hb hS;simp [World.cell?,this]
theorem Glob.keep{c:GC}{w w':World}{S:List Nat}(h:Glob c w)(m:Mod S w w')(hS:∀x∈S,c.base<=x):Glob c w':=by
 have k:∀b o,b<c.base->w'.cell? ⟨b,o,none⟩=w.cell? ⟨b,o,none⟩:=λb o hb=>cell_keep m (Nat.lt_of_lt_of_le hb h.size) λhx=>by have:=hS b hx;omega
 have g:=h.g13;exact ⟨Nat.le_trans h.size m.size,h.g13,h.hap,h.hpp,by rw [k _ _ (by omega)];exact h.g0,λj hj=>by rw [k _ _ h.hap];exact h.pieces j hj,
  λj hj=>by rw [k _ _ (by omega)];exact h.knight j hj,λj hj=>by rw [k _ _ (by omega)];exact h.king j hj,λj hj=>by rw [k _ _ (by omega)];exact h.diag j hj,
  λj hj=>by rw [k _ _ (by omega)];exact h.anti j hj,λj hj=>by rw [k _ _ (by omega)];exact h.ranks j hj,λj hj=>by rw [k _ _ (by omega)];exact h.files j hj,
  by rw [k _ _ (by omega)];exact h.g7,λj hj=>by rw [k _ _ h.hpp];exact h.promo j hj⟩
theorem Glob.on{c:GC}{w w':World}(h:Glob c w)(m:Mod [] w w'):Glob c w':=h.keep m (by simp)
theorem Glob.lt{c:GC}{w w':World}{b:Nat}{o:Obj}(h:Glob c w)(hn:New w w' b o):c.base<=b:=Nat.le_trans h.size hn.base
def knightAt(sq:Int):Int:=knightTab.getD (0+sq.toNat*1) 0
def kingAt(sq:Int):Int:=kingTab.getD (0+sq.toNat*1) 0
def diagAt(sq:Int):Int:=diagTab.getD (0+sq.toNat*1) 0
def antiAt(sq:Int):Int:=antiTab.getD (0+sq.toNat*1) 0
def rankAt(r:Int):Int:=rankTab.getD (0+r.toNat*1) 0
def fileAt(f:Int):Int:=fileTab.getD (0+f.toNat*1) 0
structure Bd where
 bb:Nat->Int
 white:Int
 black:Int
 empty:Int
 wk:Int
 bk:Int
def bdCells(B:Bd):Array Value:=#[.int .u64 (B.bb 1),.int .u64 (B.bb 2),.int .u64 (B.bb 3),.int .u64 (B.bb 4),.int .u64 (B.bb 5),.int .u64 (B.bb 6),
 .int .u64 (B.bb 7),.int .u64 (B.bb 8),.int .u64 (B.bb 9),.int .u64 (B.bb 10),.int .u64 (B.bb 11),.int .u64 (B.bb 12),.int .u64 B.white,.int .u64 B.black,.int .u64 B.empty,.int .i8 B.wk,.int .i8 B.bk]
def Bd.set(B:Bd)(k:Nat)(x:Int):Bd:={B with bb:=λj=>if j=k then x else B.bb j}
def Bd.of(B:Bd)(p:Int):Int:=if 1<=p/\p<=12 then B.bb p.toNat else 0
structure Ps where
 B:Bd
 castle:ByteArray
 half:Int
 full:Int
 turn:Int
 ep:Int
 chk:Bool
def psCells(b:Nat)(vm:Value)(S:Ps):Array Value:=#[.pointer (some ⟨b,0,none⟩),.string S.castle,vm,.int .i64 S.half,.int .i64 S.full,.int .i8 S.turn,.int .i8 S.ep,.bool S.chk]
structure Mv where
 tags:Int
 s1:Int
 s2:Int
 promo:Int
def mvCells(pos:Value)(m:Mv):Array Value:=#[.pointer none,pos,.string ⟨#[]⟩,.string ⟨#[]⟩,.map none,.slice none 0 0,.int .u64 0,.int .u16 m.tags,.int .i8 m.s1,.int .i8 m.s2,.int .i8 m.promo]
theorem ret_int{k:IntKind}{a b:Int}(h:a=b):Ending.returned (.int k a)=.returned (.int k b):=by rw [h]
theorem ret_bool{a b:Bool}(h:a=b):Ending.returned (.bool a)=.returned (.bool b):=by rw [h]
class Own(w:World)(b0:outParam Nat)(e:outParam TypeId)(size:outParam Nat)(ao:Option Addr)(n cap:outParam Nat)(xs:outParam (List Value)):Prop where
 ow:w.ownsRow b0 e size (.slice ao n cap) n xs
def blk(ao:Option Addr):List Nat:=match ao with|some a=>[a.block]|none=>[]
theorem Own.nil(w:World)(b0:Nat)(e:TypeId)(size:Nat):Own w b0 e size none 0 0 []:=⟨World.ownsRow_nil w b0 e size⟩
theorem Own.keep{w w':World}{S:List Nat}{b0 size n cap:Nat}{e:TypeId}{ao:Option Addr}{xs:List Value}(h:Own w b0 e size ao n cap xs)(m:Mod S w w')(hS:∀x∈blk ao,x∉S):Own w' b0 e size ao n cap xs:=by
 refine ⟨h.ow.1,?_⟩;rcases h.ow.2 with hn|⟨g,cap',cur,hv,hb,hg,rest⟩
 ·exact .inl hn
 ·refine .inr ⟨g,cap',cur,hv,hb,?_,rest⟩;simp only [Value.slice.injEq] at hv;rw [m.block g (Array.getElem?_eq_some_iff.1 hg).1 (hS g (by rw [hv.1];simp [blk]))];exact hg
theorem Own.on{w w':World}{b0 size n cap:Nat}{e:TypeId}{ao:Option Addr}{xs:List Value}(h:Own w b0 e size ao n cap xs)(m:Mod [] w w'):Own w' b0 e size ao n cap xs:=h.keep m (by simp)
theorem Own.lt{w:World}{b0 size n cap:Nat}{e:TypeId}{ao:Option Addr}{xs:List Value}(h:Own w b0 e size ao n cap xs):∀x∈blk ao,b0<=x/\x<w.heap.size:=by
 intro x hx;cases ao with
 |none=>simp [blk] at hx
 |some a=>simp [blk] at hx;subst hx;exact World.ownsRow.lt h.ow _ rfl
theorem Own.len{w:World}{b0 size n cap:Nat}{e:TypeId}{ao:Option Addr}{xs:List Value}(h:Own w b0 e size ao n cap xs):xs.length=n*size:=h.ow.1
theorem Own.some{w:World}{b0 size n cap:Nat}{e:TypeId}{ao:Option Addr}{xs:List Value}(h:Own w b0 e size ao n cap xs)(hn:0<n):∃g cur,ao=some ⟨g,0,none⟩/\b0<=g/\At w g (.cells cur e (0,0))/\cur.toList.take (n*size)=xs/\n<=cap/\cur.size=cap*size:=by
 rcases h.ow.2 with ⟨hv,h0⟩|⟨g,cap',cur,hv,hb,hg,hc,hm,hs,ht⟩
 ·omega
 ·simp only [Value.slice.injEq,true_and] at hv;obtain ⟨rfl,rfl⟩:=hv;exact ⟨g,cur,rfl,hb,⟨hg⟩,ht,hc,hs⟩
theorem Own.cell{w:World}{b0 size n cap:Nat}{e:TypeId}{g j:Nat}{xs:List Value}{u:Value}(h:Own w b0 e size (Option.some ⟨g,0,none⟩) n cap xs)(hu:xs[j]?=Option.some u):w.cell? ⟨g,j,none⟩=Option.some u:=by
 have:=World.ownsRow.cells h.ow (g:=g) rfl j u hu;have e:(Addr.add ⟨g,0,none⟩ j)=⟨g,j,none⟩:=by unfold Addr.add;split<;>simp_all
 rwa [e] at this
theorem Own.get{w:World}{b0 size n cap:Nat}{e:TypeId}{ao:Option Addr}{xs:List Value}(h:Own w b0 e size ao n cap xs)(hne:ao≠none):∃g,ao=Option.some ⟨g,0,none⟩/\b0<=g:=by
 rcases h.ow.2 with ⟨hv,h0⟩|⟨g,cap',cur,hv,hb,_⟩
 ·simp only [Value.slice.injEq] at hv;exact absurd hv.1 hne
 ·simp only [Value.slice.injEq,true_and] at hv;exact ⟨g,hv.1,hb⟩
theorem Own.sep{w:World}{b0 size n cap p:Nat}{e t:TypeId}{ao:Option Addr}{xs:List Value}{cs:Array Value}(h:Own w b0 e size ao n cap xs)(hp:At w p (.cells cs t (0,0)))(ht:(t==e)=false):∀x∈blk ao,x∉[p]:=by
 intro x hx hxp;obtain rfl:x=p:=by simpa using hxp
 rcases h.ow.2 with ⟨hv,h0⟩|⟨g,cap',cur,hv,hb,hg,_⟩
 ·simp only [Value.slice.injEq] at hv;rw [hv.1] at hx;simp [blk] at hx
 ·simp only [Value.slice.injEq] at hv;rw [hv.1] at hx;simp only [blk,List.mem_singleton] at hx;subst hx;have:=At.inj hp ⟨hg⟩;simp only [Obj.cells.injEq] at this;rw [this.2.1] at ht;simp at ht
theorem Own.cells'{w:World}{b0 size n cap g:Nat}{e:TypeId}{xs:List Value}(h:Own w b0 e size (Option.some ⟨g,0,none⟩) n cap xs):∀j u,xs[j]?=Option.some u->w.cell? (Addr.add ⟨g,0,none⟩ j)=Option.some u:=World.ownsRow.cells h.ow rfl
theorem Own.cast{w:World}{b0 size n n' cap:Nat}{e:TypeId}{ao:Option Addr}{xs xs':List Value}(h:Own w b0 e size ao n cap xs)(hn:n=n')(hx:xs=xs'):Own w b0 e size ao n' cap xs':=by subst hn;subst hx;exact h
theorem Own.fresh{w:World}{b0 b1 size n cap g:Nat}{e:TypeId}{xs:List Value}(h:Own w b0 e size (Option.some ⟨g,0,none⟩) n cap xs)(hb:b1<=g):Own w b1 e size (Option.some ⟨g,0,none⟩) n cap xs:=by
 refine ⟨h.ow.1,?_⟩;rcases h.ow.2 with hn|⟨g',cap',cur,hv,_,rest⟩
 ·exact .inl hn
 ·refine .inr ⟨g',cap',cur,hv,?_,rest⟩;simp only [Value.slice.injEq,Option.some.injEq,Addr.mk.injEq] at hv;omega
theorem oneCells_mem:∀{l:List Value},oneCells l=true->∀u∈l,u.oneCell'=true
 |[],_,u,hu=>by cases hu
 |v::r,h,u,hu=>by
  simp only [oneCells,Bool.and_eq_true] at h;rcases List.mem_cons.1 hu with rfl|hu
  ·exact h.1
  ·exact oneCells_mem h.2 u hu
theorem Mod.of_grown{w w':World}{ao:Option Addr}{n cap:Nat}(h:w.grownBy w' (Value.ownBlock (.slice ao n cap))):Mod (blk ao) w w':=by
 refine ⟨h.os,h.tape,h.output,h.size,λk hk hS=>h.block k hk λe=>?_⟩;cases ao with
 |none=>cases e
 |some a=>simp [Value.ownBlock] at e;subst e;simp [blk] at hS
section
variable{P:Program}{n:Nat}{D:List Deferred}{ops:Array Oper}{Q:Exit->Act->World->Prop}{w:World}{L:List (Nat×Value)}
def appendAt(P:Program)(n:Nat)(ops:List Oper)(k:Nat)(L:List (Nat×Value)):Option (Value×Value×TypeId×Option Nat×Nat×Nat×Nat):=
 match ops[k]? with
 |some o=>match wantedL ops L o,dstOk o.dst n with
  |some true,true=>match o.op with
   |.call c=>match c.callee,c.args.toList,c.argTypes.toList with
    |.builtin .append,[s,x],[t,t']=>if t=t' then match evL L s,evL L x,P.underlying t with
     |some u,some v,some (.slice e)=>match P.info? e with
      |some i=>match i.zero with
       |some z=>some (u,v,e,o.dst,i.size,i.bytes,z.cells.size)
       |none=>none
      |none=>none
     |_,_,_=>none else none
    |_,_,_=>none
   |_=>none
  |_,_=>none
 |none=>none
theorem reg_append{k:Nat}(ao:Option Addr)(l cap:Nat)(a:Addr)(m c:Nat)(e:TypeId)(dst:Option Nat)(size bytes:Nat)(h:appendAt P n ops.toList k L=some (.slice ao l cap,.slice (some a) m c,e,dst,size,bytes,size))
  {b0:Nat}{xs news:List Value}(hown:Own w b0 e size ao l cap xs)(hs:0<size)(hl:news.length=m*size)(hnews:∀j u,news[j]?=some u->w.cell? (a.add j)=some u)(h1:∀u∈news,u.oneCell'=true)
  (hb:(l+m)*(bytes+1)<=140737488355328)(hbase:b0<=w.heap.size)
  (hk:∀ao' cap' w',Own w' b0 e size ao' (l+m) cap' (xs++news)->Mod (blk ao) w w'->(ao≠none->ao'≠none)->Reg P n D ops Q (k+1) (setD dst (.slice ao' (l+m) cap') L) w'):Reg P n D ops Q k L w:=by
 intro act ha;unfold appendAt at h;split at h
 case h_2=>cases h
 rename_i o ho;split at h
 case h_2=>cases h
 rename_i hw hd;split at h
 case h_2=>cases h
 rename_i cc hop;split at h
 case h_2=>cases h
 rename_i s x t t' hc hargs hts;split at h
 case isFalse=>cases h
 rename_i ht;subst ht;split at h
 case h_2=>cases h
 rename_i u v e' hs' hx hu;split at h
 case h_2=>cases h
 rename_i i hi;split at h
 case h_2=>cases h
 rename_i z hz;simp only [Option.some.injEq,Prod.mk.injEq] at h;obtain ⟨rfl,rfl,rfl,rfl,hsz,hby,hzs⟩:=h;rw [drop_cons ho];simp only [wpList,wantedL_spec ha hw,if_true];refine .inl ?_;have hm:(l+m)*bytes<=140737488355328:=Nat.le_trans (Nat.mul_le_mul_left _ (by omega)) hb;have hlm:l+m<=maxLen:=by
  have:l+m<=(l+m)*(bytes+1):=Nat.le_mul_of_pos_right _ (by omega);simp only [maxLen];omega
 obtain ⟨v',w',hrun,h2,h3,hnil⟩:=run_append_own (P:=P) w b0 t o.type e' i z size bytes hu hi hz hsz hby hzs hs _ l xs hown.ow a m c news hl hnews h1 hlm hm hbase;have hr:(execOp act.eval o).run P w=.ok (.value v') w':=by
  obtain ⟨dst,op,ty,pos,af,g'⟩:=o;simp only at hop;subst hop;obtain ⟨callee,args,ts⟩:=cc;simp only at hc hargs hts;subst hc;obtain rfl:args=#[s,x]:=by apply Array.ext';simpa using hargs
  obtain rfl:ts=#[t,t]:=by apply Array.ext';simpa using hts
  simp only [execOp,resolve,invoke,builtin,Sem.run_bind,Sem.run_pure,Result.andThen_ok,List.map_toArray,List.map_cons,List.map_nil,ha.agrees _ _ hs',ha.agrees _ _ hx,hrun]
 simp only [Oper.wp,hr,Oper.upon];have hform:∃ao' cap',v'=.slice ao' (l+m) cap'/\(ao≠none->ao'≠none):=by
  rcases h2.2 with ⟨hv,h0⟩|⟨g,cap',cur,hv,_⟩
  ·refine ⟨none,0,by rw [hv,h0],λhne=>?_⟩;have:=(hnil.1 hv).1;simp only [Value.slice.injEq] at this;exact absurd this.1 hne
  ·exact ⟨_,_,hv,λ_ h=>by cases h⟩
 obtain ⟨ao',cap',rfl,hne⟩:=hform;exact hk ao' cap' w' ⟨h2⟩ (Mod.of_grown h3) hne _ (ha.setD hd _)
theorem reg_append_nil{k:Nat}(ao:Option Addr)(l cap:Nat)(e:TypeId)(dst:Option Nat)(size bytes zs:Nat)(h:appendAt P n ops.toList k L=some (.slice ao l cap,.slice none 0 0,e,dst,size,bytes,zs))(hle:l<=cap)
  (hk:Reg P n D ops Q (k+1) (setD dst (.slice ao l cap) L) w):Reg P n D ops Q k L w:=by
 intro act ha;unfold appendAt at h;split at h
 case h_2=>cases h
 rename_i o ho;split at h
 case h_2=>cases h
 rename_i hw hd;split at h
 case h_2=>cases h
 rename_i cc hop;split at h
 case h_2=>cases h
 rename_i s x t t' hc hargs hts;split at h
 case isFalse=>cases h
 rename_i ht;subst ht;split at h
 case h_2=>cases h
 rename_i u v e' hs' hx hu;split at h
 case h_2=>cases h
 rename_i i hi;split at h
 case h_2=>cases h
 rename_i z hz;simp only [Option.some.injEq,Prod.mk.injEq] at h;obtain ⟨rfl,rfl,rfl,rfl,hsz,hby,hzs⟩:=h;rw [drop_cons ho];simp only [wpList,wantedL_spec ha hw,if_true];refine .inl ?_;have hr:(execOp act.eval o).run P w=.ok (.value (.slice ao l cap)) w:=by
  obtain ⟨dst,op,ty,pos,af,g'⟩:=o;simp only at hop;subst hop;obtain ⟨callee,args,ts⟩:=cc;simp only at hc hargs hts;subst hc;obtain rfl:args=#[s,x]:=by apply Array.ext';simpa using hargs
  obtain rfl:ts=#[t,t]:=by apply Array.ext';simpa using hts
  have hsize:(sizeOf e').run P w=.ok i.size w:=by simp [sizeOf,typeInfo,hi]
  have hap:(Builtin.append_ #[t,t] ty #[.slice ao l cap,.slice none 0 0]).run P w=.ok (.slice ao l cap) w:=by
   cases ao<;>simp [Builtin.append_,runU hu,hsize,Builtin.lenOf,Builtin.firstCells,hle,storeCells]
  simp only [execOp,resolve,invoke,builtin,Sem.run_bind,Sem.run_pure,Result.andThen_ok,List.map_toArray,List.map_cons,List.map_nil,ha.agrees _ _ hs',ha.agrees _ _ hx,hap]
 simp only [Oper.wp,hr,Oper.upon];exact hk _ (ha.setD hd _)
theorem storeRow_full:∀(vs:List Value) (cs:Array Value) (off:Nat),off+vs.length=cs.size->(storeRow cs off vs).toList=cs.toList.take off++vs
 |[],cs,off,h=>by
  simp only [storeRow,List.append_nil];rw [List.take_of_length_le (by simp at h⊢;omega)]
 |v::r,cs,off,h=>by
  simp only [List.length_cons] at h;have hlt:off<cs.toList.length:=by simp;omega
  rw [storeRow,storeRow_full r _ (off+1) (by simp;omega)];rw [Array.toList_setIfInBounds,List.take_succ_eq_append_getElem (by simpa using hlt),List.take_set_of_le (by omega)];simp
def copyAt(P:Program)(n:Nat)(ops:List Oper)(k:Nat)(L:List (Nat×Value)):Option (Value×Value×TypeId×Option Nat×Nat):=
 match ops[k]? with
 |some o=>match wantedL ops L o,dstOk o.dst n with
  |some true,true=>match o.op with
   |.call c=>match c.callee,c.args.toList,c.argTypes.toList with
    |.builtin .copy,[s,x],[t,_]=>match evL L s,evL L x,P.underlying t with
     |some u,some v,some (.slice e)=>match sizeT P e with
      |some sz=>some (u,v,e,o.dst,sz)
      |none=>none
     |_,_,_=>none
    |_,_,_=>none
   |_=>none
  |_,_=>none
 |none=>none
theorem reg_copy{k:Nat}(b:Nat)(l:Nat)(a:Addr)(c c':Nat)(e:TypeId)(dst:Option Nat)(size:Nat)(h:copyAt P n ops.toList k L=some (.slice (some ⟨b,0,none⟩) l c,.slice (some a) l c',e,dst,size))
  {cs src:Array Value}{t:TypeId}(hb:At w b (.cells cs t (0,0)))(hcs:cs.size=l*size)(hsrc:(Ob.row a (l*size) src).holds w)(hone:oneCells src.toList=true)
  (hk:∀w',Upd w w' b (.cells src t (0,0))->Reg P n D ops Q (k+1) (setD dst (.int .i64 l) L) w'):Reg P n D ops Q k L w:=by
 intro act ha;unfold copyAt at h;split at h
 case h_2=>cases h
 rename_i o ho;split at h
 case h_2=>cases h
 rename_i hw hd;split at h
 case h_2=>cases h
 rename_i cc hop;split at h
 case h_2=>cases h
 rename_i s x t' t'' hc hargs hts;split at h
 case h_2=>cases h
 rename_i u v e' hs' hx hu;split at h
 case h_2=>cases h
 rename_i sz hsz;simp only [Option.some.injEq,Prod.mk.injEq] at h;obtain ⟨rfl,rfl,rfl,rfl,rfl⟩:=h;rw [drop_cons ho];simp only [wpList,wantedL_spec ha hw,if_true];refine .inl ?_;have hlen:src.size=l*sz:=hsrc.1;obtain ⟨w',hst,hU⟩:=run_storeCells (P:=P) (off:=0) src.toList 0 w cs hb (by simp;omega) hone;have hfull:storeRow cs (0+0) src.toList=src:=by
  apply Array.ext';rw [storeRow_full _ _ _ (by simp;omega)];simp
 rw [hfull] at hU;have hr:(execOp act.eval o).run P w=.ok (.value (.int .i64 l)) w':=by
  obtain ⟨dst,op,ty,pos,af,g'⟩:=o;simp only at hop;subst hop;obtain ⟨callee,args,ts⟩:=cc;simp only at hc hargs hts;subst hc;obtain rfl:args=#[s,x]:=by apply Array.ext';simpa using hargs
  obtain rfl:ts=#[t',t'']:=by apply Array.ext';simpa using hts
  have hcp:(Builtin.copy_ #[t',t''] ty #[.slice (some ⟨b,0,none⟩) l c,.slice (some a) l c']).run P w=.ok (.int .i64 l) w':=by
   have hmin:Nat.min l l=l:=Nat.min_self l;simp [Builtin.copy_,runU hu,runSize hsz,Builtin.lenOf,hmin,Builtin.firstCells,run_loadCells hsrc,hst,goInt]
  simp only [execOp,resolve,invoke,builtin,Sem.run_bind,Sem.run_pure,Result.andThen_ok,List.map_toArray,List.map_cons,List.map_nil,ha.agrees _ _ hs',ha.agrees _ _ hx,hcp]
 simp only [Oper.wp,hr,Oper.upon];exact hk w' hU _ (ha.setD hd _)
def msliceAt(P:Program)(n:Nat)(ops:List Oper)(k:Nat)(L:List (Nat×Value)):Option (Value×Value×TypeId×Option Nat×Nat×Nat):=
 match ops[k]? with
 |some o=>match wantedL ops L o,dstOk o.dst n with
  |some true,true=>match o.op with
   |.makeSlice t x y=>match evL L x,evL L y,P.underlying t with
    |some u,some v,some (.slice e)=>match P.info? e with
     |some i=>match i.zero with
      |some _=>some (u,v,e,o.dst,i.size,i.bytes)
      |none=>none
     |none=>none
    |_,_,_=>none
   |_=>none
  |_,_=>none
 |none=>none
theorem reg_mslice{k:Nat}(l:Int)(e:TypeId)(dst:Option Nat)(size bytes:Nat)(h:msliceAt P n ops.toList k L=some (.int .i64 l,.int .i64 l,e,dst,size,bytes))(h0:0<=l)(h1:l*(bytes+1)<=140737488355328)
  (hk:∀b w' cs,cs.size=l.toNat*size->New w w' b (.cells cs e (0,0))->Reg P n D ops Q (k+1) (setD dst (.slice (some ⟨b,0,none⟩) l.toNat l.toNat) L) w'):Reg P n D ops Q k L w:=by
 intro act ha;unfold msliceAt at h;split at h
 case h_2=>cases h
 rename_i o ho;split at h
 case h_2=>cases h
 rename_i hw hd;split at h
 case h_2=>cases h
 rename_i t x y hop;split at h
 case h_2=>cases h
 rename_i u v e' hx hy hu;split at h
 case h_2=>cases h
 rename_i i hi;split at h
 case h_2=>cases h
 rename_i z hz;simp only [Option.some.injEq,Prod.mk.injEq] at h;obtain ⟨rfl,rfl,rfl,rfl,rfl,rfl⟩:=h;rw [drop_cons ho];simp only [wpList,wantedL_spec ha hw,if_true];refine .inl ?_;have hlb:l<=l*(i.bytes+1):=by
  have:=Int.mul_le_mul_of_nonneg_left (show 1<=(i.bytes:Int)+1 by omega) h0;simpa using this
 have hb2:(i.bytes:Int)*l<=140737488355328:=by
  have e:l*((i.bytes:Int)+1)=(i.bytes:Int)*l+l:=by rw [Int.mul_add,Int.mul_comm];simp
  omega
 have hwr:IntKind.i64.wrap l=l:=by rw [IntKind.wrap_i64];omega
 have hroom:¬(l.toNat*i.bytes>roomBytes):=by
  have:((l.toNat*i.bytes:Nat):Int)=(i.bytes:Int)*l:=by
   rw [Int.natCast_mul,Int.toNat_of_nonneg h0,Int.mul_comm]
  simp only [roomBytes];omega
 have hbig:¬((i.bytes:Int)*l>281474976710656):=by omega
 have hr:∃cs,cs.size=l.toNat*i.size/\(execOp act.eval o).run P w=.ok (.value (.slice (some ⟨w.heap.size,0,none⟩) l.toNat l.toNat)) (w.alloc (.cells cs e' (0,0))):=by
  obtain ⟨dst,op,ty,pos,af,g'⟩:=o;simp only at hop;subst hop;have hsize:(sizeOf e').run P w=.ok i.size w:=by simp [sizeOf,typeInfo,hi]
  by_cases hn:l.toNat*i.size=0
  ·refine ⟨(Array.range 0).map λ_=>default,by simp [hn],?_⟩;simp [execOp,Instr.makeSlice,runU hu,ha.agrees _ _ hx,ha.agrees _ _ hy,asInt,asIntOf,typeInfo,hi,hwr,Int.not_lt.2 h0,hbig,askRoom,hroom,hsize,hn,newRow]
  ·refine ⟨(Array.range (l.toNat*i.size)).map (z.cells[·%z.cells.size]!),by simp,?_⟩;simp [execOp,Instr.makeSlice,runU hu,ha.agrees _ _ hx,ha.agrees _ _ hy,asInt,asIntOf,typeInfo,hi,hwr,Int.not_lt.2 h0,hbig,askRoom,hroom,hsize,hn,zeroValue,hz,newRow]
 obtain ⟨cs,hcs,hr⟩:=hr;simp only [Oper.wp,hr,Oper.upon];exact hk _ _ cs hcs (New.alloc w _) _ (ha.setD hd _)
end
set_option synthInstance.checkSynthOrder false
class Rc(T:List Nat)(a c:World):Prop where
 m:Mod T a c
class Sz(a c:World):Prop where
 z:a.heap.size<=c.heap.size
class Gb(x:Nat)(g:GC):Prop where
 b:g.base<=x
class Gs(S:List Nat)(g:GC):Prop where
 b:∀x∈S,g.base<=x
class Fr(x:Nat)(a:World):Prop where
 f:a.heap.size<=x
class Su(S T:List Nat)(a:World):Prop where
 s:∀x∈S,x∈T\/a.heap.size<=x
class S1(x:Nat)(T:List Nat)(a:World):Prop where
 s:x∈T\/a.heap.size<=x
class Nq(v:World)(b x:Nat):Prop where
 n:b≠x
class Nm(v:World)(b:Nat)(S:List Nat):Prop where
 n:b∉S
class Dt(t u:TypeId):Prop where
 d:(t==u)=false
class Nx(t:Nat)(u:outParam Nat):Prop where
 l:t<u
class Lx(t u:Nat):Prop where
 l:t<u
instance:Nx 3 4:=⟨by decide⟩
instance:Nx 4 5:=⟨by decide⟩
instance:Nx 5 9:=⟨by decide⟩
instance:Nx 9 22:=⟨by decide⟩
instance:Nx 22 24:=⟨by decide⟩
instance:Nx 24 30:=⟨by decide⟩
instance:Nx 30 82:=⟨by decide⟩
instance:Nx 82 89:=⟨by decide⟩
instance:Nx 89 90:=⟨by decide⟩
instance:Nx 90 91:=⟨by decide⟩
instance:Nx 91 98:=⟨by decide⟩
instance:Nx 98 110:=⟨by decide⟩
instance:Nx 110 135:=⟨by decide⟩
instance:Nx 135 146:=⟨by decide⟩
instance:Nx 146 150:=⟨by decide⟩
instance:Nx 150 176:=⟨by decide⟩
instance:Nx 176 180:=⟨by decide⟩
instance:Nx 180 181:=⟨by decide⟩
instance:Nx 181 220:=⟨by decide⟩
instance:Nx 220 237:=⟨by decide⟩
instance{t u v:Nat}[h:Nx t v][k:Lx v u]:Lx t u:=⟨Nat.lt_trans h.l k.l⟩
instance{t u:Nat}[h:Nx t u]:Lx t u:=⟨h.l⟩
instance{t u:TypeId}[h:Lx t u]:Dt t u:=⟨beq_eq_false_iff_ne.2 (Nat.ne_of_lt h.l)⟩
class Ks(v:World)(S:List Nat)(ao:Option Addr):Prop where
 k:∀x∈blk ao,x∉S
class Bs(b:Nat)(a:World):Prop where
 b:a.heap.size<=b
variable{S T:List Nat}{a b c w0 v w:World}{x y p q:Nat}{o o':Obj}
instance:Rc T a a:=⟨Mod.refl _ _⟩
instance[u:Upd b c x o][k:S1 x T a][h:Rc T a b]:Rc T a c:=⟨h.m.fresh' u.mod λy hy=>by rw [List.mem_singleton.1 hy];exact k.s⟩
instance[u:New b c x o][h:Rc T a b]:Rc T a c:=⟨h.m.trans u.mod.of_nil⟩
instance[hm:Mod S b c][Su S T a][h:Rc T a b]:Rc T a c:=⟨h.m.fresh' hm Su.s⟩
instance:Su [] T a:=⟨λ_ h=>nomatch h⟩
instance[S1 x T a][Su S T a]:Su (x::S) T a:=⟨λy hy=>by rcases List.mem_cons.1 hy with rfl|h;exact ‹S1 y T a›.s;exact Su.s y h⟩
instance[Fr x a]:S1 x T a:=⟨.inr Fr.f⟩
instance[S1 x T a]:S1 x (y::T) a:=⟨S1.s.elim (λh=>.inl (List.mem_cons_of_mem _ h)) .inr⟩
instance:S1 x (x::T) a:=⟨.inl List.mem_cons_self⟩
instance:Sz a a:=⟨Nat.le_refl _⟩
instance[u:Upd b c x o][h:Sz a b]:Sz a c:=⟨Nat.le_trans h.z u.mod.size⟩
instance[u:New b c x o][h:Sz a b]:Sz a c:=⟨Nat.le_trans h.z u.mod.size⟩
instance[u:Mod S b c][h:Sz a b]:Sz a c:=⟨Nat.le_trans h.z u.size⟩
instance[u:New w0 w x o][h:Sz a w0]:Fr x a:=⟨Nat.le_trans h.z u.base⟩
instance:Nm v p []:=⟨by simp⟩
instance[q:Nq v p x][k:Nm v p S]:Nm v p (x::S):=⟨by rw [List.mem_cons];rintro (h|h);exact q.n h;exact k.n h⟩
instance[u:Mod S v w][k:Nm v p S][h:At v p o]:At w p o:=h.keep u k.n
instance[h:New v w x o'][k:At v p o]:At w p o:=k.on h.mod
instance[h:Upd v w x o'][q:Nq v p x][k:At v p o]:At w p o:=k.keep h.mod (not_mem1 q.n)
instance[h:New v w p o]:At w p o:=h.at_
instance[h:Upd v w p o]:At w p o:=h.at_
variable{cs cs':Array Value}{t u:TypeId}{fr fr':Nat×Nat}
instance[h:At v p (.cells cs t fr)][k:At v x (.cells cs' u fr')][d:Dt t u]:Nq v p x:=⟨h.ne k d.d⟩
instance[h:At v p (.cells cs t fr)][k:At v x (.cells cs' u fr')][d:Dt u t]:Nq v p x:=⟨(k.ne h d.d).symm⟩
instance[h:New a w x o'][k:At a p o]:Nq v p x:=⟨h.ne k⟩
instance[h:New a w x o'][k:At a p o]:Nq v x p:=⟨(h.ne k).symm⟩
variable{g:GC}
instance:Gs [] g:=⟨by simp⟩
instance[k:Gb x g][h:Gs S g]:Gs (x::S) g:=⟨λy hy=>by rcases List.mem_cons.1 hy with rfl|e;exact k.b;exact h.b y e⟩
instance[u:New v w x o][h:Glob g v]:Gb x g:=⟨h.lt u⟩
instance[u:Mod S v w][h:Glob g v][k:Gs S g]:Glob g w:=h.keep u k.b
instance[u:New v w x o][h:Glob g v]:Glob g w:=h.on u.mod
instance[u:Upd v w x o][h:Glob g v][k:Gb x g]:Glob g w:=h.keep u.mod λy hy=>by rw [List.mem_singleton.1 hy];exact k.b
variable{b0 z n cap:Nat}{e:TypeId}{ao:Option Addr}{xs:List Value}
instance[h:Own v b0 e z ao n cap xs][k:At v p (.cells cs t (0,0))][d:Dt t e]:Nm v p (blk ao):=⟨λhx=>h.sep k d.d p hx (by simp)⟩
instance[h:Own v b0 e z ao n cap xs][k:At v p (.cells cs t (0,0))][d:Dt e t]:Nm v p (blk ao):=⟨λhx=>h.sep k (beq_eq_false_iff_ne.2 λq=>beq_eq_false_iff_ne.1 d.d q.symm) p hx (by simp)⟩
instance[u:New a w x o][h:Own a b0 e z ao n cap xs]:Nm v x (blk ao):=⟨λhx=>by have:=(h.lt x hx).2;have:=u.base;omega⟩
instance:Ks v [] ao:=⟨by simp⟩
instance[h:Nm v x (blk ao)]:Ks v [x] ao:=⟨λ_ hy hx=>h.n (List.mem_singleton.1 hx▸hy)⟩
instance[u:Mod S v w][k:Ks v S ao][h:Own v b0 e z ao n cap xs]:Own w b0 e z ao n cap xs:=h.keep u k.k
instance[u:New v w x o][h:Own v b0 e z ao n cap xs]:Own w b0 e z ao n cap xs:=h.on u.mod
instance[u:Upd v w x o][k:Ks v [x] ao][h:Own v b0 e z ao n cap xs]:Own w b0 e z ao n cap xs:=h.keep u.mod k.k
instance[h:Sz a w0]:Bs w0.heap.size a:=⟨h.z⟩
instance[h:Own v b0 e z ao n cap xs][k:Bs b0 a]:Su (blk ao) T a:=⟨λx hx=>.inr (Nat.le_trans k.b (h.lt x hx).1)⟩
theorem yo[h:Own w b0 e z ao n cap xs]:Own w b0 e z ao n cap xs:=h
theorem yg[h:Glob g w]:Glob g w:=h
theorem yt[h:Rc T a c]:Mod T a c:=h.m
theorem ya[h:At w p o]:At w p o:=h
theorem yc{cs:Array Value}{t:TypeId}{fr:Nat×Nat}{j:Nat}{u:Value}[h:At w p (.cells cs t fr)](hv:cs[j]?=some u):w.cell? ⟨p,j,none⟩=some u:=h.cell hv
section
variable{P:Program}{n:Nat}{D:List Deferred}{ops:Array Oper}{Q:Exit->Act->World->Prop}{L:List (Nat×Value)}
theorem zl{γ:Type}{μ:γ->Nat}{Lg:γ->List (Nat×Value)}{Inv:γ->World->Prop}{g:γ}(g':γ)(hi:Inv g' w)(hlt:μ g'<μ g:=by omega)(hk:keepL L ((Lg g').map (·.1))=some (Lg g'):=by kernel_rfl):
  ∀a,Hold n L D a->Exit.then (λa' w''=>∃g',μ g'<μ g/\Hold n (Lg g') D a'/\Inv g' w'') Q .normal a w:=l_back g' _ hk hlt hi
theorem yP{γ:Type}{c:Code}(μ:γ->Nat)(Lg:γ->List (Nat×Value))(Inv:γ->World->Prop)(g0:γ)(h0:Inv g0 w)
  (round:∀g w',Inv g w'->W P n D c (Exit.then (λa' w''=>∃g',μ g'<μ g/\Hold n (Lg g') D a'/\Inv g' w'') Q) (Lg g) w')(hk:keepL L ((Lg g0).map (·.1))=some (Lg g0):=by kernel_rfl):W P n D (.loop c) Q L w:=
 w_loop μ Lg Inv g0 (hold_keep _ hk) h0 round
theorem zA{k:Nat}(cs:Array Value)(t:TypeId)(dst:Option Nat)(hk:∀b w',New w w' b (.cells cs t (0,0))->Reg P n D ops Q (k+1) (setD dst (.pointer (some ⟨b,0,none⟩)) L) w')
  (h:newAt P n ops.toList k L=some (cs,t,dst):=by kernel_rfl):Reg P n D ops Q k L w:=reg_alloc cs t dst h hk
theorem zC{k:Nat}{f:FuncId}{vs:List Value}(dst:Option Nat){R:Ending->World->Prop}(hc:Calls P f vs.toArray w R)(hk:∀e w',R e w'->∃v,e=.returned v/\Reg P n D ops Q (k+1) (setD dst v L) w')
  (h:callAt P n ops.toList k L=some (f,vs,dst):=by kernel_rfl):Reg P n D ops Q k L w:=reg_call f vs dst h hc hk
theorem zS{k:Nat}(b off:Nat)(v:Value){cs:Array Value}{t:TypeId}[hb:At w b (.cells cs t (0,0))](hk:∀w',Upd w w' b (.cells (storeRow cs off v.cells.toList) t (0,0))->Reg P n D ops Q (k+1) (setD none undef L) w')
  (h:storeAt P n ops.toList k L=some (⟨b,off,none⟩,v,none,some v.cells.size):=by kernel_rfl)(hlen:Nat.ble (off+v.cells.size) cs.size=true:=by rfl)(hone:oneCells v.cells.toList=true:=by rfl):Reg P n D ops Q k L w:=
 reg_store b off v none h hb (Nat.le_of_ble_eq_true hlen) hone hk
theorem yL(m p j:Nat){k:Nat}{cs:Array Value}{t:TypeId}{fr:Nat×Nat}{u:Value}[ha:At w p (.cells cs t fr)](hk:Reg P n D ops Q (k+m) (nx P n ops.toList ((ops.toList.drop k).take m) L [u]) w)
  (hv:cs[j]?=some u:=by rfl)(h:nO P n ops.toList ((ops.toList.drop k).take m) L [u]=some [.cell ⟨p,j,none⟩ u]:=by kernel_rfl):Reg P n D ops Q k L w:=yV m [.cell ⟨p,j,none⟩ u] [u] (ha.cell hv) hk h
theorem w_qt{id:Nat}{ops:Array Oper}(h:QReg P n D ops (λw'=>Mod [] w w') (λa'=>∀w',Mod [] w w'->Q .normal a' w') (ops.toList.drop 0) L)(hm:P.follows .mixedOrders=true:=by kernel_rfl)(hB:Region.lexB .any ops=true:=by kernel_rfl):W P n D (.region id ops true) Q L w:=w_quiet hm hB h
theorem q_ot{K:Act->World->Prop}{l:List Oper}{k:Nat}(hq:∀w',Mod [] w w'->∀a,Hold n L D a->K a w')(h:(l.drop k).isEmpty=true:=by kernel_rfl):
  QReg P n D ops (λw'=>Mod [] w w') (λa'=>∀w',Mod [] w w'->K a' w') (l.drop k) L:=q_out h hq
end
theorem yA(w:World)(p:Nat){o:Obj}[h:At w p o]:At w p o:=h
theorem yM(a c:World){T:List Nat}[h:Rc T a c]:Mod T a c:=h.m
theorem yG(w:World){g:GC}[h:Glob g w]:Glob g w:=h
open Go.Proofs.Tryz
def rotl(x k:Int):Int:=bitsV .or .u64 (IntKind.u64.wrap (x*2^(min (bitsV .and .u64 (IntKind.u64.wrap k) 63).toNat IntKind.u64.bits)))
 (x.fdiv (2^(min (IntKind.u64.wrap (64-bitsV .and .u64 (IntKind.u64.wrap k) 63)).toNat IntKind.u64.bits)))
def occB(b sq:Int):Bool:=bitsV .and .u64 (rotl b (IntKind.i64.wrap (IntKind.i64.wrap sq+1))) 1==1
def bbSq(sq:Int):Int:=IntKind.u64.wrap (1*2^(min (IntKind.u8.wrap (63-IntKind.u8.wrap sq)).toNat IntKind.u64.bits))
def revS(x m:Int)(k:Int):Int:=bitsV .or .u64 (bitsV .and .u64 (x.fdiv (2^(min k.toNat IntKind.u64.bits))) m) (IntKind.u64.wrap (bitsV .and .u64 x m*2^(min k.toNat IntKind.u64.bits)))
def revBytes(x:Int):Int:=
 let y:=revS (revS x 71777214294589695 8) 281470681808895 16
 bitsV .or .u64 (y.fdiv (2^(min (32:Int).toNat IntKind.u64.bits))) (IntKind.u64.wrap (y*2^(min (32:Int).toNat IntKind.u64.bits)))
def rev64(x:Int):Int:=revBytes (revS (revS (revS x 6148914691236517205 1) 3689348814741910323 2) 1085102592571150095 4)
def linA(o p m:Int):Int:=
 let om:=bitsV .and .u64 o m
 bitsV .and .u64 (bitsV .xor .u64 (IntKind.u64.wrap (om-IntKind.u64.wrap (2*p))) (rev64 (IntKind.u64.wrap (rev64 om-IntKind.u64.wrap (2*rev64 p))))) m
theorem c119(x:Int)(k:Int)(w:World)(h:0<=bitsV .and .u64 (IntKind.u64.wrap k) 63)(h':0<=IntKind.u64.wrap (64-bitsV .and .u64 (IntKind.u64.wrap k) 63)):
  CR 119 [.int .u64 x,.int .i64 k] w (.int .u64 (rotl x k)):=by
 have v0:Mod [] w w:=Mod.refl _ _;refine en func119 ntmps119 ?_;exact zw<|yS 1<|zx<|yS 4<|zx<|yO 9 [.prop (0<=(bitsV .and .u64 (IntKind.u64.wrap k) 63)),.prop (0<=(IntKind.u64.wrap (64-(bitsV .and .u64 (IntKind.u64.wrap k) 63))))] (⟨(by first|omega|assumption|decide),(by first|omega|assumption|decide)⟩)<|zz<|w_ret<|ret1 rfl rfl (⟨rfl,v0⟩)
theorem c150(x:Int)(w:World):
  CR 150 [.int .u64 x] w (.int .u64 (revBytes x)):=by
 have v0:Mod [] w w:=Mod.refl _ _;refine en func150 ntmps150 ?_;exact zw<|yS 1<|zx<|yO 8 [.prop (0<=(8:Int)),.prop (0<=(8:Int))] (⟨(show 0<=(8:Int) from (by first|omega|assumption|decide)),(show 0<=(8:Int) from (by first|omega|assumption|decide))⟩)<|zx<|yO 8 [.prop (0<=(16:Int)),.prop (0<=(16:Int))] (⟨(show 0<=(16:Int) from (by first|omega|assumption|decide)),(show 0<=(16:Int) from (by first|omega|assumption|decide))⟩)<|zx<|yO 6 [.prop (0<=(32:Int)),.prop (0<=(32:Int))] (⟨(show 0<=(32:Int) from (by first|omega|assumption|decide)),(show 0<=(32:Int) from (by first|omega|assumption|decide))⟩)<|zz<|w_ret<|ret1 rfl rfl (⟨rfl,v0⟩)
theorem c149(x:Int)(w:World):
  CR 149 [.int .u64 x] w (.int .u64 (rev64 x)):=by
 have v0:Mod [] w w:=Mod.refl _ _;refine en func149 ntmps149 ?_;refine zw<|yS 1<|zx<|yO 8 [.prop (0<=(1:Int)),.prop (0<=(1:Int))] (⟨(show 0<=(1:Int) from (by first|omega|assumption|decide)),(show 0<=(1:Int) from (by first|omega|assumption|decide))⟩)<|zx<|yO 8 [.prop (0<=(2:Int)),.prop (0<=(2:Int))] (⟨(show 0<=(2:Int) from (by first|omega|assumption|decide)),(show 0<=(2:Int) from (by first|omega|assumption|decide))⟩)<|zx<|yO 8 [.prop (0<=(4:Int)),.prop (0<=(4:Int))] (⟨(show 0<=(4:Int) from (by first|omega|assumption|decide)),(show 0<=(4:Int) from (by first|omega|assumption|decide))⟩)<|zx<|yS 1<|zk (some 25) (c150 (revS (revS (revS x 6148914691236517205 1) 3689348814741910323 2) 1085102592571150095 4) w) ?_;intro w1 v2;have v3:=zt v0 v2;exact yS 1<|zz<|w_ret<|ret1 rfl rfl (⟨rfl,v3⟩)
theorem c142(x:Int)(w:World):
  CR 142 [.int .u64 x] w (.int .u64 (rev64 x)):=by
 have v0:Mod [] w w:=Mod.refl _ _;refine en func142 ntmps142 ?_;refine zw<|yS 1<|zx<|yS 1<|zk (some 4) (c149 x w) ?_;intro w1 v2;have v3:=zt v0 v2;exact yS 1<|zz<|w_ret<|ret1 rfl rfl (⟨rfl,v3⟩)
theorem c131(o:Int)(p:Int)(m:Int)(w:World):
  CR 131 [.int .u64 o,.int .u64 p,.int .u64 m] w (.int .u64 (linA o p m)):=by
 have v0:Mod [] w w:=Mod.refl _ _;refine en func131 ntmps131 ?_;refine zw<|yS 1<|zx<|yS 4<|zx<|yS 5<|zk (some 16) (c142 (bitsV .and .u64 o m) w) ?_;intro w1 v2;have v3:=zt v0 v2;refine yS 1<|zk (some 18) (c142 p w1) ?_;intro w4 v5;have v6:=zt v3 v5;refine yS 2<|zk (some 21) (c142 (IntKind.u64.wrap ((rev64 (bitsV .and .u64 o m))-(IntKind.u64.wrap (2*(rev64 p))))) w4) ?_;intro w7 v8;have v9:=zt v6 v8;exact yS 4<|zz<|w_ret<|ret1 rfl rfl (⟨rfl,v9⟩)
def otherC(c:Int):Int:=if c=1 then 2 else if c=2 then 1 else 0
def pType(p:Int):Int:=if p=1\/p=7 then 1 else if p=2\/p=8 then 2 else if p=3\/p=9 then 3 else if p=4\/p=10 then 4 else if p=5\/p=11 then 5 else if p=6\/p=12 then 6 else 0
def pColor(p:Int):Int:=if 1<=p/\p<=6 then 1 else if 7<=p/\p<=12 then 2 else 0
def sqRank(sq:Int):Int:=IntKind.i8.wrap (sq.tdiv 8)
def sqFile(sq:Int):Int:=sq.tmod 8
def diaA(o sq:Int):Int:=bitsV .or .u64 (linA o (bbSq sq) (diagAt sq)) (linA o (bbSq sq) (antiAt sq))
def hvA(o sq:Int):Int:=bitsV .or .u64 (linA o (bbSq sq) (rankAt (sqRank sq))) (linA o (bbSq sq) (fileAt (sqFile sq)))
theorem rot_pos(k:Int):0<=bitsV .and .u64 k 63:=by
 unfold bitsV;simp only [IntKind.wrap];split<;>rename_i h<;>simp [IntKind.signed] at h⊢;omega
theorem wrapu_pos(k:Int):0<=IntKind.u64.wrap k:=by
 simp only [IntKind.wrap];split<;>rename_i h<;>simp [IntKind.signed] at h⊢;omega
theorem wrapu8_pos(k:Int):0<=IntKind.u8.wrap k:=by
 simp only [IntKind.wrap];split<;>rename_i h<;>simp [IntKind.signed] at h⊢;omega
theorem c70(x:Int)(w:World):
  CR 70 [.int .i8 x] w (.int .i8 (otherC x)):=by
 refine en func70 ntmps70 ?_;refine zw<|yS 1<|zz<|w_seq<|zw<|yS 1<|zz<|w_block<|zw<|yS 2<|zz<|yC (x==1) (λhc1=>?_) λhc1=>?_
 ·exact zw<|yS 1<|zz<|w_ret<|r_block<|r_then<|ret1 rfl rfl (⟨ret_int (by simp only [beq_iff_eq,beq_eq_false_iff_ne,ne_eq] at*;unfold otherC;(repeat' split)<;>omega),yt⟩)
 refine zw<|yS 2<|zz<|yC (x==2) (λhc2=>?_) λhc2=>?_
 ·exact zw<|yS 1<|zz<|w_ret<|r_block<|r_then<|y1 (v:=.int .i8 1) (⟨ret_int (by simp only [beq_iff_eq,beq_eq_false_iff_ne,ne_eq] at*;unfold otherC;(repeat' split)<;>omega),yt⟩)
 exact w_skip<|n_block<|zn<|yS 1<|zz<|w_ret<|y1 (v:=.int .i8 0) (⟨ret_int (by simp only [beq_iff_eq,beq_eq_false_iff_ne,ne_eq] at*;unfold otherC;(repeat' split)<;>omega),yt⟩)
theorem c73(x:Int)(w:World):
  CR 73 [.int .i8 x] w (.int .i8 (pType x)):=by
 refine en func73 ntmps73 ?_;refine zw<|yS 1<|zz<|w_seq<|zw<|yS 1<|zz<|w_block<|w_seq<|zw<|yS 2<|zz<|yC (x==1) (λhc1=>?_) λhc1=>?_
 ·refine w_skip<|n_then<|w_cond (b:=(x==1)) (by kernel_rfl) (λ_=>?_) (λhx=>absurd (hc1.symm.trans hx) (by decide));exact zw<|yS 1<|zz<|w_ret<|r_block<|r_then<|y1 (v:=.int .i8 1) (⟨ret_int (by simp only [beq_iff_eq,beq_eq_false_iff_ne,ne_eq] at*;unfold pType;(repeat' split)<;>omega),yt⟩)
 refine w_region<|yS 2<|zz<|yC (x==7) (λhc2=>?_) λhc2=>?_
 ·exact zw<|yS 1<|zz<|w_ret<|r_block<|r_then<|y1 (v:=.int .i8 1) (⟨ret_int (by simp only [beq_iff_eq,beq_eq_false_iff_ne,ne_eq] at*;unfold pType;(repeat' split)<;>omega),yt⟩)
 refine w_seq<|zw<|yS 2<|zz<|yC (x==2) (λhc3=>?_) λhc3=>?_
 ·refine w_skip<|n_then<|w_cond (b:=(x==2)) (by kernel_rfl) (λ_=>?_) (λhx=>absurd (hc3.symm.trans hx) (by decide));exact zw<|yS 1<|zz<|w_ret<|r_block<|r_then<|y1 (v:=.int .i8 2) (⟨ret_int (by simp only [beq_iff_eq,beq_eq_false_iff_ne,ne_eq] at*;unfold pType;(repeat' split)<;>omega),yt⟩)
 refine w_region<|yS 2<|zz<|yC (x==8) (λhc4=>?_) λhc4=>?_
 ·exact zw<|yS 1<|zz<|w_ret<|r_block<|r_then<|y1 (v:=.int .i8 2) (⟨ret_int (by simp only [beq_iff_eq,beq_eq_false_iff_ne,ne_eq] at*;unfold pType;(repeat' split)<;>omega),yt⟩)
 refine w_seq<|zw<|yS 2<|zz<|yC (x==3) (λhc5=>?_) λhc5=>?_
 ·refine w_skip<|n_then<|w_cond (b:=(x==3)) (by kernel_rfl) (λ_=>?_) (λhx=>absurd (hc5.symm.trans hx) (by decide));exact zw<|yS 1<|zz<|w_ret<|r_block<|r_then<|y1 (v:=.int .i8 3) (⟨ret_int (by simp only [beq_iff_eq,beq_eq_false_iff_ne,ne_eq] at*;unfold pType;(repeat' split)<;>omega),yt⟩)
 refine w_region<|yS 2<|zz<|yC (x==9) (λhc6=>?_) λhc6=>?_
 ·exact zw<|yS 1<|zz<|w_ret<|r_block<|r_then<|y1 (v:=.int .i8 3) (⟨ret_int (by simp only [beq_iff_eq,beq_eq_false_iff_ne,ne_eq] at*;unfold pType;(repeat' split)<;>omega),yt⟩)
 refine w_seq<|zw<|yS 2<|zz<|yC (x==4) (λhc7=>?_) λhc7=>?_
 ·refine w_skip<|n_then<|w_cond (b:=(x==4)) (by kernel_rfl) (λ_=>?_) (λhx=>absurd (hc7.symm.trans hx) (by decide));exact zw<|yS 1<|zz<|w_ret<|r_block<|r_then<|y1 (v:=.int .i8 4) (⟨ret_int (by simp only [beq_iff_eq,beq_eq_false_iff_ne,ne_eq] at*;unfold pType;(repeat' split)<;>omega),yt⟩)
 refine w_region<|yS 2<|zz<|yC (x==10) (λhc8=>?_) λhc8=>?_
 ·exact zw<|yS 1<|zz<|w_ret<|r_block<|r_then<|y1 (v:=.int .i8 4) (⟨ret_int (by simp only [beq_iff_eq,beq_eq_false_iff_ne,ne_eq] at*;unfold pType;(repeat' split)<;>omega),yt⟩)
 refine w_seq<|zw<|yS 2<|zz<|yC (x==5) (λhc9=>?_) λhc9=>?_
 ·refine w_skip<|n_then<|w_cond (b:=(x==5)) (by kernel_rfl) (λ_=>?_) (λhx=>absurd (hc9.symm.trans hx) (by decide));exact zw<|yS 1<|zz<|w_ret<|r_block<|r_then<|y1 (v:=.int .i8 5) (⟨ret_int (by simp only [beq_iff_eq,beq_eq_false_iff_ne,ne_eq] at*;unfold pType;(repeat' split)<;>omega),yt⟩)
 refine w_region<|yS 2<|zz<|yC (x==11) (λhc10=>?_) λhc10=>?_
 ·exact zw<|yS 1<|zz<|w_ret<|r_block<|r_then<|y1 (v:=.int .i8 5) (⟨ret_int (by simp only [beq_iff_eq,beq_eq_false_iff_ne,ne_eq] at*;unfold pType;(repeat' split)<;>omega),yt⟩)
 refine w_seq<|zw<|yS 2<|zz<|yC (x==6) (λhc11=>?_) λhc11=>?_
 ·refine w_skip<|n_then<|w_cond (b:=(x==6)) (by kernel_rfl) (λ_=>?_) (λhx=>absurd (hc11.symm.trans hx) (by decide));exact zw<|yS 1<|zz<|w_ret<|r_block<|r_then<|y1 (v:=.int .i8 6) (⟨ret_int (by simp only [beq_iff_eq,beq_eq_false_iff_ne,ne_eq] at*;unfold pType;(repeat' split)<;>omega),yt⟩)
 refine w_region<|yS 2<|zz<|yC (x==12) (λhc12=>?_) λhc12=>?_
 ·exact zw<|yS 1<|zz<|w_ret<|r_block<|r_then<|y1 (v:=.int .i8 6) (⟨ret_int (by simp only [beq_iff_eq,beq_eq_false_iff_ne,ne_eq] at*;unfold pType;(repeat' split)<;>omega),yt⟩)
 exact w_skip<|n_block<|zn<|yS 1<|zz<|w_ret<|y1 (v:=.int .i8 0) (⟨ret_int (by simp only [beq_iff_eq,beq_eq_false_iff_ne,ne_eq] at*;unfold pType;(repeat' split)<;>omega),yt⟩)
theorem c102(x:Int)(w:World):
  CR 102 [.int .i8 x] w (.int .i8 (pColor x)):=by
 refine en func102 ntmps102 ?_;refine zw<|yS 1<|zz<|w_seq<|zw<|yS 1<|zz<|w_block<|w_seq<|zw<|yS 2<|zz<|yC (x==1) (λhc1=>?_) λhc1=>?_
 ·refine w_skip<|n_then<|w_cond (b:=(x==1)) (by kernel_rfl) (λ_=>?_) (λhx=>absurd (hc1.symm.trans hx) (by decide));exact zw<|yS 1<|zz<|w_ret<|r_block<|r_then<|y1 (v:=.int .i8 1) (⟨ret_int (by simp only [beq_iff_eq,beq_eq_false_iff_ne,ne_eq] at*;unfold pColor;(repeat' split)<;>omega),yt⟩)
 refine zw<|yS 2<|zz<|yC (x==2) (λhc2=>?_) λhc2=>?_
 ·refine w_skip<|n_then<|w_cond (b:=(x==2)) (by kernel_rfl) (λ_=>?_) (λhx=>absurd (hc2.symm.trans hx) (by decide));exact zw<|yS 1<|zz<|w_ret<|r_block<|r_then<|y1 (v:=.int .i8 1) (⟨ret_int (by simp only [beq_iff_eq,beq_eq_false_iff_ne,ne_eq] at*;unfold pColor;(repeat' split)<;>omega),yt⟩)
 refine zw<|yS 2<|zz<|yC (x==3) (λhc3=>?_) λhc3=>?_
 ·refine w_skip<|n_then<|w_cond (b:=(x==3)) (by kernel_rfl) (λ_=>?_) (λhx=>absurd (hc3.symm.trans hx) (by decide));exact zw<|yS 1<|zz<|w_ret<|r_block<|r_then<|y1 (v:=.int .i8 1) (⟨ret_int (by simp only [beq_iff_eq,beq_eq_false_iff_ne,ne_eq] at*;unfold pColor;(repeat' split)<;>omega),yt⟩)
 refine zw<|yS 2<|zz<|yC (x==4) (λhc4=>?_) λhc4=>?_
 ·refine w_skip<|n_then<|w_cond (b:=(x==4)) (by kernel_rfl) (λ_=>?_) (λhx=>absurd (hc4.symm.trans hx) (by decide));exact zw<|yS 1<|zz<|w_ret<|r_block<|r_then<|y1 (v:=.int .i8 1) (⟨ret_int (by simp only [beq_iff_eq,beq_eq_false_iff_ne,ne_eq] at*;unfold pColor;(repeat' split)<;>omega),yt⟩)
 refine zw<|yS 2<|zz<|yC (x==5) (λhc5=>?_) λhc5=>?_
 ·refine w_skip<|n_then<|w_cond (b:=(x==5)) (by kernel_rfl) (λ_=>?_) (λhx=>absurd (hc5.symm.trans hx) (by decide));exact zw<|yS 1<|zz<|w_ret<|r_block<|r_then<|y1 (v:=.int .i8 1) (⟨ret_int (by simp only [beq_iff_eq,beq_eq_false_iff_ne,ne_eq] at*;unfold pColor;(repeat' split)<;>omega),yt⟩)
 refine w_region<|yS 2<|zz<|yC (x==6) (λhc6=>?_) λhc6=>?_
 ·exact zw<|yS 1<|zz<|w_ret<|r_block<|r_then<|y1 (v:=.int .i8 1) (⟨ret_int (by simp only [beq_iff_eq,beq_eq_false_iff_ne,ne_eq] at*;unfold pColor;(repeat' split)<;>omega),yt⟩)
 refine w_seq<|zw<|yS 2<|zz<|yC (x==7) (λhc7=>?_) λhc7=>?_
 ·refine w_skip<|n_then<|w_cond (b:=(x==7)) (by kernel_rfl) (λ_=>?_) (λhx=>absurd (hc7.symm.trans hx) (by decide));exact zw<|yS 1<|zz<|w_ret<|r_block<|r_then<|y1 (v:=.int .i8 2) (⟨ret_int (by simp only [beq_iff_eq,beq_eq_false_iff_ne,ne_eq] at*;unfold pColor;(repeat' split)<;>omega),yt⟩)
 refine zw<|yS 2<|zz<|yC (x==8) (λhc8=>?_) λhc8=>?_
 ·refine w_skip<|n_then<|w_cond (b:=(x==8)) (by kernel_rfl) (λ_=>?_) (λhx=>absurd (hc8.symm.trans hx) (by decide));exact zw<|yS 1<|zz<|w_ret<|r_block<|r_then<|y1 (v:=.int .i8 2) (⟨ret_int (by simp only [beq_iff_eq,beq_eq_false_iff_ne,ne_eq] at*;unfold pColor;(repeat' split)<;>omega),yt⟩)
 refine zw<|yS 2<|zz<|yC (x==9) (λhc9=>?_) λhc9=>?_
 ·refine w_skip<|n_then<|w_cond (b:=(x==9)) (by kernel_rfl) (λ_=>?_) (λhx=>absurd (hc9.symm.trans hx) (by decide));exact zw<|yS 1<|zz<|w_ret<|r_block<|r_then<|y1 (v:=.int .i8 2) (⟨ret_int (by simp only [beq_iff_eq,beq_eq_false_iff_ne,ne_eq] at*;unfold pColor;(repeat' split)<;>omega),yt⟩)
 refine zw<|yS 2<|zz<|yC (x==10) (λhc10=>?_) λhc10=>?_
 ·refine w_skip<|n_then<|w_cond (b:=(x==10)) (by kernel_rfl) (λ_=>?_) (λhx=>absurd (hc10.symm.trans hx) (by decide));exact zw<|yS 1<|zz<|w_ret<|r_block<|r_then<|y1 (v:=.int .i8 2) (⟨ret_int (by simp only [beq_iff_eq,beq_eq_false_iff_ne,ne_eq] at*;unfold pColor;(repeat' split)<;>omega),yt⟩)
 refine zw<|yS 2<|zz<|yC (x==11) (λhc11=>?_) λhc11=>?_
 ·refine w_skip<|n_then<|w_cond (b:=(x==11)) (by kernel_rfl) (λ_=>?_) (λhx=>absurd (hc11.symm.trans hx) (by decide));exact zw<|yS 1<|zz<|w_ret<|r_block<|r_then<|y1 (v:=.int .i8 2) (⟨ret_int (by simp only [beq_iff_eq,beq_eq_false_iff_ne,ne_eq] at*;unfold pColor;(repeat' split)<;>omega),yt⟩)
 refine w_region<|yS 2<|zz<|yC (x==12) (λhc12=>?_) λhc12=>?_
 ·exact zw<|yS 1<|zz<|w_ret<|r_block<|r_then<|y1 (v:=.int .i8 2) (⟨ret_int (by simp only [beq_iff_eq,beq_eq_false_iff_ne,ne_eq] at*;unfold pColor;(repeat' split)<;>omega),yt⟩)
 exact w_skip<|n_block<|zn<|yS 1<|zz<|w_ret<|y1 (v:=.int .i8 0) (⟨ret_int (by simp only [beq_iff_eq,beq_eq_false_iff_ne,ne_eq] at*;unfold pColor;(repeat' split)<;>omega),yt⟩)
theorem c98(b:Int)(sq:Int)(w:World):
  CR 98 [.int .u64 b,.int .i8 sq] w (.bool (occB b sq)):=by
 refine en func98 ntmps98 ?_;exact zw<|yS 1<|zx<|yS 4<|zk (some 9) (c119 b (IntKind.i64.wrap ((IntKind.i64.wrap sq)+1)) w (rot_pos _) (wrapu_pos _)) fun w1 v2=>yS 3<|zz<|w_ret<|y1 (⟨rfl,yt⟩)
theorem c99(sq:Int)(w:World)(h:0<=sq)(h2:sq<=63):
  CR 99 [.int .i8 sq] w (.int .u64 (bbSq sq)):=by
 refine en func99 ntmps99 ?_;refine zw<|yS 1<|zz<|w_seq<|w_cut (γ:=Unit) (λ_=>[(0,.int .i8 sq),(8,.bool ((decide (sq<0))||(decide (sq>63))))]) (λ_ w_=>Mod [] w w_) ?_ ?_
 ·refine w_region<|yS 3<|yE 5 (.bool (decide (sq<0))) ?_;cases hc4:(decide (sq<0))
  ·exact yS 3<|ze<|zb () yt
  exact yS 3<|ze<|zb () yt
 intro _ w1 v2;have hc6:((decide (sq<0))||(decide (sq>63)))=false:=(by simp;omega);refine w_cond (b:=((decide (sq<0))||(decide (sq>63)))) (by kernel_rfl) (λhx=>absurd (hc6.symm.trans hx) (by decide)) (λ_=>?_);exact w_skip<|zn<|yO 5 [.prop (0<=(IntKind.u8.wrap (63-(IntKind.u8.wrap sq))))] (by first|omega|assumption|exact wrapu8_pos _|exact wrapu_pos _|decide)<|zz<|w_ret<|y1 (⟨rfl,yt⟩)
theorem c132(sq:Int)(w:World):
  CR 132 [.int .i8 sq] w (.int .i8 (sqRank sq)):=by
 refine en func132 ntmps132 ?_;exact zw<|yS 1<|zx<|yO 3 [.prop ((8:Int)≠0)] (show (8:Int)≠0 from (by omega))<|zz<|w_ret<|y1 (⟨rfl,yt⟩)
theorem c133(sq:Int)(w:World):
  CR 133 [.int .i8 sq] w (.int .i8 (sqFile sq)):=by
 refine en func133 ntmps133 ?_;exact zw<|yS 1<|zx<|yO 3 [.prop ((8:Int)≠0)] (show (8:Int)≠0 from (by omega))<|zz<|w_ret<|y1 (⟨rfl,yt⟩)
theorem c120{c:GC}(o:Int)(sq:Int)(w:World)(hG:Glob c w)(h:0<=sq)(h2:sq<=63):
  CR 120 [.int .u64 o,.int .i8 sq] w (.int .u64 (diaA o sq)):=by
 refine en func120 ntmps120 ?_;exact zw<|yS 1<|zx<|yS 1<|zk (some 9) (c99 sq w (by omega) (by omega)) fun w1 v2=>yS 1<|zx<|yO 4 [.prop (0<=sq/\sq<((64:Nat):Int)),.cell ⟨3,(0+sq.toNat*1),none⟩ (.int .u64 (diagAt sq))] (⟨(show 0<=sq/\sq<((64:Nat):Int) from (by omega)),(Glob.diag (0+sq.toNat*1) (by omega))⟩)<|zx<|yO 4 [.prop (0<=sq/\sq<((64:Nat):Int)),.cell ⟨4,(0+sq.toNat*1),none⟩ (.int .u64 (antiAt sq))] (⟨(show 0<=sq/\sq<((64:Nat):Int) from (by omega)),(Glob.anti (0+sq.toNat*1) (by omega))⟩)<|zx<|yS 3<|zk (some 19) (c131 o (bbSq sq) (diagAt sq) w1) fun w5 v6=>yS 3<|zk (some 23) (c131 o (bbSq sq) (antiAt sq) w5) fun w9 v10=>yS 2<|zz<|w_ret<|y1 (⟨rfl,yt⟩)
theorem c121{c:GC}(o:Int)(sq:Int)(w:World)(hG:Glob c w)(h:0<=sq)(h2:sq<=63)(h3:0<=sqRank sq/\sqRank sq<=7)(h4:0<=sqFile sq/\sqFile sq<=7):
  CR 121 [.int .u64 o,.int .i8 sq] w (.int .u64 (hvA o sq)):=by
 refine en func121 ntmps121 ?_;exact zw<|yS 1<|zx<|yS 1<|zk (some 9) (c99 sq w (by omega) (by omega)) fun w1 v2=>yS 1<|zx<|yS 1<|zk (some 11) (c132 sq w1) fun w5 v6=>yO 3 [.prop (0<=(sqRank sq)/\(sqRank sq)<((8:Nat):Int)),.cell ⟨5,(0+(sqRank sq).toNat*1),none⟩ (.int .u64 (rankAt (sqRank sq)))] (⟨(show 0<=(sqRank sq)/\(sqRank sq)<((8:Nat):Int) from (by omega)),(Glob.ranks (0+(sqRank sq).toNat*1) (by omega))⟩)<|zx<|yS 1<|zk (some 15) (c133 sq w5) fun w9 v10=>yO 3 [.prop (0<=(sqFile sq)/\(sqFile sq)<((8:Nat):Int)),.cell ⟨6,(0+(sqFile sq).toNat*1),none⟩ (.int .u64 (fileAt (sqFile sq)))] (⟨(show 0<=(sqFile sq)/\(sqFile sq)<((8:Nat):Int) from (by omega)),(Glob.files (0+(sqFile sq).toNat*1) (by omega))⟩)<|zx<|yS 3<|zk (some 21) (c131 o (bbSq sq) (rankAt (sqRank sq)) w9) fun w13 v14=>yS 3<|zk (some 25) (c131 o (bbSq sq) (fileAt (sqFile sq)) w13) fun w17 v18=>yS 2<|zz<|w_ret<|y1 (⟨rfl,yt⟩)
def hasTag(M:Mv)(t:Int):Bool:=decide (bitsV .and .u16 t M.tags>0)
def orTag(x t:Int):Int:=bitsV .or .u16 x t
def occd(B:Bd)(sq:Int):Bool:=!(occB B.empty sq)
theorem c66{p b:Nat}{vm:Value}{S:Ps}{w:World}(hp:At w p (.cells (psCells b vm S) 110 (0,0))):
  CR 66 [pz p] w (.int .i8 S.turn):=by
 refine en func66 ntmps66 ?_;exact zw<|yS 1<|zx<|yL 5 p 5<|zz<|w_ret<|y1 (⟨rfl,yt⟩)
theorem c62{p b:Nat}{vm:Value}{S:Ps}{w:World}(hp:At w p (.cells (psCells b vm S) 110 (0,0))):
  CR 62 [pz p] w (pz b):=by
 refine en func62 ntmps62 ?_;exact zw<|yS 1<|zx<|yL 5 p 0<|zz<|w_ret<|y1 (⟨rfl,yt⟩)
theorem c58{m:Nat}{pos:Value}{M:Mv}{w:World}(hm:At w m (.cells (mvCells pos M) 98 (0,0))):
  CR 58 [pz m] w (.int .i8 M.s1):=by
 refine en func58 ntmps58 ?_;exact zw<|yS 1<|zx<|yL 5 m 8<|zz<|w_ret<|y1 (⟨rfl,yt⟩)
theorem c59{m:Nat}{pos:Value}{M:Mv}{w:World}(hm:At w m (.cells (mvCells pos M) 98 (0,0))):
  CR 59 [pz m] w (.int .i8 M.s2):=by
 refine en func59 ntmps59 ?_;exact zw<|yS 1<|zx<|yL 5 m 9<|zz<|w_ret<|y1 (⟨rfl,yt⟩)
theorem c60{m:Nat}{pos:Value}{M:Mv}{w:World}(hm:At w m (.cells (mvCells pos M) 98 (0,0))):
  CR 60 [pz m] w (.int .i8 M.promo):=by
 refine en func60 ntmps60 ?_;exact zw<|yS 1<|zx<|yL 5 m 10<|zz<|w_ret<|y1 (⟨rfl,yt⟩)
theorem c32{m:Nat}{pos:Value}{M:Mv}{w:World}(hm:At w m (.cells (mvCells pos M) 98 (0,0))):
  CR 32 [pz m] w (.int .u16 M.tags):=by
 refine en func32 ntmps32 ?_;exact zw<|yS 1<|zx<|yL 5 m 7<|zz<|w_ret<|y1 (⟨rfl,yt⟩)
theorem c74{m:Nat}{pos:Value}{M:Mv}{w:World}(hm:At w m (.cells (mvCells pos M) 98 (0,0)))(t:Int):
  CR 74 [pz m,.int .u16 t] w (.bool (hasTag M t)):=by
 refine en func74 ntmps74 ?_;exact zw<|yS 1<|zx<|yL 8 m 7<|zz<|w_ret<|y1 (⟨rfl,yt⟩)
theorem c136{m:Nat}{pos:Value}{M:Mv}{w:World}(hm:At w m (.cells (mvCells pos M) 98 (0,0)))(t:Int):
  CQ 136 [pz m,.int .u16 t] w (λe w'=>e=.returned (.tuple #[])/\Mod [m] w w'/\At w' m (.cells (mvCells pos {M with tags:=orTag M.tags t}) 98 (0,0))):=by
 refine en func136 ntmps136 ?_;refine w_region<|yL 8 m 7<|zS m 7 (.int .u16 (bitsV .or .u16 M.tags t)) fun w1 hu2=>ze ?_;exact end0 results136 (⟨rfl,yt,ya⟩)
theorem c97{b:Nat}{B:Bd}{w:World}(hb:At w b (.cells (bdCells B) 135 (0,0)))(x:Int):
  CR 97 [pz b,.int .i8 x] w (.int .u64 (B.of x)):=by
 refine en func97 ntmps97 ?_;refine zw<|yS 1<|zz<|w_seq<|zw<|yS 1<|zz<|w_block<|zw<|yS 2<|zz<|yC (x==1) (λhc1=>?_) λhc1=>?_
 ·exact zw<|yL 5 b 0<|zz<|w_ret<|r_block<|r_then<|y1 (v:=.int .u64 (B.bb 1)) (⟨ret_int (by simp only [beq_iff_eq,beq_eq_false_iff_ne,ne_eq] at*;unfold Bd.of;first|(subst_vars;rfl)|(rw [if_neg (by omega)])),yt⟩)
 refine zw<|yS 2<|zz<|yC (x==2) (λhc2=>?_) λhc2=>?_
 ·exact zw<|yL 5 b 1<|zz<|w_ret<|r_block<|r_then<|y1 (v:=.int .u64 (B.bb 2)) (⟨ret_int (by simp only [beq_iff_eq,beq_eq_false_iff_ne,ne_eq] at*;unfold Bd.of;first|(subst_vars;rfl)|(rw [if_neg (by omega)])),yt⟩)
 refine zw<|yS 2<|zz<|yC (x==3) (λhc3=>?_) λhc3=>?_
 ·exact zw<|yL 5 b 2<|zz<|w_ret<|r_block<|r_then<|y1 (v:=.int .u64 (B.bb 3)) (⟨ret_int (by simp only [beq_iff_eq,beq_eq_false_iff_ne,ne_eq] at*;unfold Bd.of;first|(subst_vars;rfl)|(rw [if_neg (by omega)])),yt⟩)
 refine zw<|yS 2<|zz<|yC (x==4) (λhc4=>?_) λhc4=>?_
 ·exact zw<|yL 5 b 3<|zz<|w_ret<|r_block<|r_then<|y1 (v:=.int .u64 (B.bb 4)) (⟨ret_int (by simp only [beq_iff_eq,beq_eq_false_iff_ne,ne_eq] at*;unfold Bd.of;first|(subst_vars;rfl)|(rw [if_neg (by omega)])),yt⟩)
 refine zw<|yS 2<|zz<|yC (x==5) (λhc5=>?_) λhc5=>?_
 ·exact zw<|yL 5 b 4<|zz<|w_ret<|r_block<|r_then<|y1 (v:=.int .u64 (B.bb 5)) (⟨ret_int (by simp only [beq_iff_eq,beq_eq_false_iff_ne,ne_eq] at*;unfold Bd.of;first|(subst_vars;rfl)|(rw [if_neg (by omega)])),yt⟩)
 refine zw<|yS 2<|zz<|yC (x==6) (λhc6=>?_) λhc6=>?_
 ·exact zw<|yL 5 b 5<|zz<|w_ret<|r_block<|r_then<|y1 (v:=.int .u64 (B.bb 6)) (⟨ret_int (by simp only [beq_iff_eq,beq_eq_false_iff_ne,ne_eq] at*;unfold Bd.of;first|(subst_vars;rfl)|(rw [if_neg (by omega)])),yt⟩)
 refine zw<|yS 2<|zz<|yC (x==7) (λhc7=>?_) λhc7=>?_
 ·exact zw<|yL 5 b 6<|zz<|w_ret<|r_block<|r_then<|y1 (v:=.int .u64 (B.bb 7)) (⟨ret_int (by simp only [beq_iff_eq,beq_eq_false_iff_ne,ne_eq] at*;unfold Bd.of;first|(subst_vars;rfl)|(rw [if_neg (by omega)])),yt⟩)
 refine zw<|yS 2<|zz<|yC (x==8) (λhc8=>?_) λhc8=>?_
 ·exact zw<|yL 5 b 7<|zz<|w_ret<|r_block<|r_then<|y1 (v:=.int .u64 (B.bb 8)) (⟨ret_int (by simp only [beq_iff_eq,beq_eq_false_iff_ne,ne_eq] at*;unfold Bd.of;first|(subst_vars;rfl)|(rw [if_neg (by omega)])),yt⟩)
 refine zw<|yS 2<|zz<|yC (x==9) (λhc9=>?_) λhc9=>?_
 ·exact zw<|yL 5 b 8<|zz<|w_ret<|r_block<|r_then<|y1 (v:=.int .u64 (B.bb 9)) (⟨ret_int (by simp only [beq_iff_eq,beq_eq_false_iff_ne,ne_eq] at*;unfold Bd.of;first|(subst_vars;rfl)|(rw [if_neg (by omega)])),yt⟩)
 refine zw<|yS 2<|zz<|yC (x==10) (λhc10=>?_) λhc10=>?_
 ·exact zw<|yL 5 b 9<|zz<|w_ret<|r_block<|r_then<|y1 (v:=.int .u64 (B.bb 10)) (⟨ret_int (by simp only [beq_iff_eq,beq_eq_false_iff_ne,ne_eq] at*;unfold Bd.of;first|(subst_vars;rfl)|(rw [if_neg (by omega)])),yt⟩)
 refine zw<|yS 2<|zz<|yC (x==11) (λhc11=>?_) λhc11=>?_
 ·exact zw<|yL 5 b 10<|zz<|w_ret<|r_block<|r_then<|y1 (v:=.int .u64 (B.bb 11)) (⟨ret_int (by simp only [beq_iff_eq,beq_eq_false_iff_ne,ne_eq] at*;unfold Bd.of;first|(subst_vars;rfl)|(rw [if_neg (by omega)])),yt⟩)
 refine zw<|yS 2<|zz<|yC (x==12) (λhc12=>?_) λhc12=>?_
 ·exact zw<|yL 5 b 11<|zz<|w_ret<|r_block<|r_then<|y1 (v:=.int .u64 (B.bb 12)) (⟨ret_int (by simp only [beq_iff_eq,beq_eq_false_iff_ne,ne_eq] at*;unfold Bd.of;first|(subst_vars;rfl)|(rw [if_neg (by omega)])),yt⟩)
 exact w_skip<|n_block<|zn<|yS 1<|zz<|w_ret<|y1 (v:=.int .u64 0) (⟨ret_int (by simp only [beq_iff_eq,beq_eq_false_iff_ne,ne_eq] at*;unfold Bd.of;first|(subst_vars;rfl)|(rw [if_neg (by omega)])),yt⟩)
theorem c144{b:Nat}{B:Bd}{w:World}(hb:At w b (.cells (bdCells B) 135 (0,0)))(sq:Int):
  CR 144 [pz b,.int .i8 sq] w (.bool (occd B sq)):=by
 refine en func144 ntmps144 ?_;exact zw<|yS 1<|zx<|yL 5 b 14<|zk (some 10) (c98 B.empty sq w) fun w1 v2=>yS 2<|zz<|w_ret<|y1 (⟨rfl,yt⟩)
theorem i64_in'{x:Int}(h:-9223372036854775808<=x)(h':x<=9223372036854775807):IntKind.i64.wrap x=x:=by rw [IntKind.wrap_i64];omega
theorem i8_in'{x:Int}(h:-128<=x)(h':x<=127):IntKind.i8.wrap x=x:=by
 simp only [IntKind.wrap];split<;>rename_i h1<;>simp [IntKind.signed,IntKind.bits] at h1⊢<;>omega
def pieceAt(B:Bd)(sq:Int):Int:=match (List.range 12).find? (λ(i:Nat)=>occB (B.of ((i:Int)+1)) sq) with|some i=>(i:Int)+1|none=>0
theorem pieceAt_hit{B:Bd}{sq j:Int}(h0:0<=j)(h1:j<((12:Nat):Int))(hn:∀i:Int,0<=i->i<j->occB (B.of (i+1)) sq=false)(hy:occB (B.of (((j.toNat*1:Nat):Int)+1)) sq=true):
  (((j.toNat*1:Nat):Int)+1)=pieceAt B sq:=by
 have:(List.range 12).find? (λ(i:Nat)=>occB (B.of ((i:Int)+1)) sq)=some (j.toNat*1):=by
  rw [List.find?_range_eq_some];refine ⟨hy,by simp;omega,λi hi=>?_⟩;have:=hn (i:Int) (by omega) (by omega);simp [this]
 unfold pieceAt;rw [this]
theorem pieceAt_miss{B:Bd}{sq j:Int}(h1:¬j<((12:Nat):Int))(hn:∀i:Int,0<=i->i<j->occB (B.of (i+1)) sq=false):0=pieceAt B sq:=by
 have:(List.range 12).find? (λ(i:Nat)=>occB (B.of ((i:Int)+1)) sq)=none:=by
  rw [List.find?_range_eq_none];intro i hi;have:=hn (i:Int) (by omega) (by omega);simp [this]
 unfold pieceAt;rw [this]
theorem forall_step{P:Int->Prop}{j:Int}(h:∀i:Int,0<=i->i<j->P i)(hj:P j):∀i:Int,0<=i->i<j+1->P i:=λi h0 h1=>by
 by_cases e:i=j
 ·subst e;exact hj
 ·exact h i h0 (by omega)
def newP(t c:Int):Int:=t+6*(c-1)
def bor(a b:Int):Int:=bitsV .or .u64 a b
def band(a b:Int):Int:=bitsV .and .u64 a b
def bnot(a:Int):Int:=bitsV .xor .u64 (if IntKind.u64.signed then-1 else IntKind.u64.max) a
def bwhite(B:Bd):Int:=bor (bor (bor (bor (bor (B.bb 1) (B.bb 2)) (B.bb 3)) (B.bb 4)) (B.bb 5)) (B.bb 6)
def bblack(B:Bd):Int:=bor (bor (bor (bor (bor (B.bb 7) (B.bb 8)) (B.bb 9)) (B.bb 10)) (B.bb 11)) (B.bb 12)
def calcB(B:Bd):Bd:={B with white:=bwhite B,black:=bblack B,empty:=bnot (bor (bwhite B) (bblack B))}
def lastK(f:Int->Bool):Nat->Int
 |0=>-1
 |n+1=>if f n then n else lastK f n
def kingsB(B:Bd):Bd:={B with wk:=lastK (λi=>occB (B.bb 1) i) 64,bk:=lastK (λi=>!occB (B.bb 1) i&&occB (B.bb 7) i) 64}
def moveK(B:Bd)(M:Mv):Bd:=if M.s1=B.wk then {B with wk:=M.s2} else if M.s1=B.bk then {B with bk:=M.s2} else B
theorem at_cast{w:World}{b:Nat}{o o':Obj}(h:At w b o)(e:o=o'):At w b o':=e▸h
theorem set_at{B:Bd}{v x:Int}{k:Nat}(h:x=(k:Int)):Obj.cells (bdCells (B.set k v)) 135 (0,0)=.cells (bdCells (B.set x.toNat v)) 135 (0,0):=by subst h;simp
theorem c72{c:GC}{b:Nat}{B:Bd}{w:World}(hb:At w b (.cells (bdCells B) 135 (0,0)))(hG:Glob c w)(sq:Int):
  CR 72 [pz b,.int .i8 sq] w (.int .i8 (pieceAt B sq)):=by
 refine en func72 ntmps72 ?_;refine zw<|yS 1<|zz<|w_seq<|zw<|yO 3 [.cell ⟨0,0,none⟩ (.slice (some ⟨c.ap,c.apo,none⟩) 12 12)] (hG.g0)<|zz<|w_block<|w_loop (γ:=Int) (λg1=>(12-g1).toNat) (λ(g1:Int)=>[(0,pz b),(1,.int .i8 sq),(8,.slice (some ⟨c.ap,c.apo,none⟩) 12 12),(9,.int .i64 ((12:Nat):Int)),(10,.int .i64 g1)]) (λ(g1:Int) w_=>(0<=g1/\g1<=12)/\Mod [] w w_/\(∀i:Int,0<=i->i<g1->occB (B.of (i+1)) sq=false)) 0 (hold_keep [0,1,8,9,10] (by kernel_rfl)) ⟨by constructor<;>(try simp only [])<;>omega,Mod.refl _ _,(λi h0 h1=>absurd h1 (by omega))⟩ ?_;rintro g1 w2 ⟨⟨h4,h5⟩,v3,hx6⟩;refine zw<|yS 1<|zz<|w_seq<|yC (decide (g1<((12:Nat):Int))) (λhc10=>?_) λhc10=>?_
 ·have dhc10:=of_decide_eq_true hc10;refine w_skip<|n_then<|w_seq<|w_block<|zw<|yO 3 [.prop (0<=g1/\g1<((12:Nat):Int)),.cell ⟨c.ap,(c.apo+g1.toNat*1),none⟩ (.int .i8 (((g1.toNat*1:Nat):Int)+1))] (⟨(show 0<=g1/\g1<((12:Nat):Int) from (by first|omega|assumption|exact wrapu8_pos _|exact wrapu_pos _|decide)),(Glob.pieces (g1.toNat*1) (by omega))⟩)<|zx<|yS 2<|zk (some 16) (c97 (yA w2 b) (((g1.toNat*1:Nat):Int)+1)) λw11 v12=>yS 1<|zx<|yS 2<|zk (some 19) (c98 (Bd.of B (((g1.toNat*1:Nat):Int)+1)) sq w11) λw17 v18=>zz<|zc (λhc23=>?_) λhc23=>?_
  ·exact zw<|yS 2<|zz<|w_ret<|r_block<|r_then<|r_then<|r_block<|r_then<|y1 (v:=.int .i8 (((g1.toNat*1:Nat):Int)+1)) (⟨ret_int (pieceAt_hit (by omega) (by assumption) hx6 (by assumption)),yt⟩)
  exact w_skip<|n_block<|n_then<|w_region<|yS 2<|yW 10 (zi (g1+1) (by omega) (by omega))<|ze<|l_back (g1+1) [0,1,8,9,10] (by kernel_rfl) (by omega) ⟨by constructor<;>(try simp only [])<;>omega,yt,(forall_step hx6 (by rw [←show (((g1.toNat*1:Nat):Int))=g1 from by omega];exact hc23))⟩
 have dhc10:=of_decide_eq_false hc10;exact w_exit<|x_then<|x_then<|x_hit<|zn<|yS 1<|zz<|w_ret<|y1 (v:=.int .i8 0) (⟨ret_int (pieceAt_miss (by assumption) hx6),yt⟩)
theorem c101{c:GC}{w:World}(hG:Glob c w)(t c':Int)(ht:1<=t/\t<=6)(hc:c'=1\/c'=2):
  CR 101 [.int .i8 t,.int .i8 c'] w (.int .i8 (newP t c')):=by
 refine en func101 ntmps101 ?_;refine zw<|yS 1<|zz<|w_seq<|zw<|yO 3 [.cell ⟨0,0,none⟩ (.slice (some ⟨c.ap,c.apo,none⟩) 12 12)] (hG.g0)<|zz<|w_block<|w_loop (γ:=Int) (λg1=>(12-g1).toNat) (λ(g1:Int)=>[(0,.int .i8 t),(1,.int .i8 c'),(7,.slice (some ⟨c.ap,c.apo,none⟩) 12 12),(8,.int .i64 ((12:Nat):Int)),(9,.int .i64 g1)]) (λ(g1:Int) w_=>(0<=g1/\g1<=12)/\Mod [] w w_/\(g1<=t+6*(c'-1)-1)) 0 (hold_keep [0,1,7,8,9] (by kernel_rfl)) ⟨by constructor<;>(try simp only [])<;>omega,Mod.refl _ _,(by omega)⟩ ?_;rintro g1 w2 ⟨⟨h4,h5⟩,v3,hx6⟩;refine zw<|yS 1<|zz<|w_seq<|yC (decide (g1<((12:Nat):Int))) (λhc9=>?_) λhc9=>?_
 ·have dhc9:=of_decide_eq_true hc9;refine w_skip<|n_then<|w_seq<|w_block<|zw<|yO 3 [.prop (0<=g1/\g1<((12:Nat):Int)),.cell ⟨c.ap,(c.apo+g1.toNat*1),none⟩ (.int .i8 (((g1.toNat*1:Nat):Int)+1))] (⟨(show 0<=g1/\g1<((12:Nat):Int) from (by first|omega|assumption|exact wrapu8_pos _|exact wrapu_pos _|decide)),(Glob.pieces (g1.toNat*1) (by omega))⟩)<|zz<|w_cut (γ:=Unit) (λ_=>[(0,.int .i8 t),(1,.int .i8 c'),(6,.int .i8 (((g1.toNat*1:Nat):Int)+1)),(7,.slice (some ⟨c.ap,c.apo,none⟩) 12 12),(8,.int .i64 ((12:Nat):Int)),(9,.int .i64 g1),(22,.bool (((pColor (((g1.toNat*1:Nat):Int)+1))==c')&&((pType (((g1.toNat*1:Nat):Int)+1))==t)))]) (λ_ w_=>Mod [] w2 w_) ?_ ?_
  ·refine w_region<|yS 1<|zk (some 14) (c102 (((g1.toNat*1:Nat):Int)+1) w2) λw13 v14=>yS 3<|yE 17 (.bool ((pColor (((g1.toNat*1:Nat):Int)+1))==c')) ?_;cases hc18:((pColor (((g1.toNat*1:Nat):Int)+1))==c')
   ·exact yS 5<|ze<|zb () yt
   exact yS 1<|zk (some 19) (c73 (((g1.toNat*1:Nat):Int)+1) w13) λw19 v20=>yS 3<|ze<|zb () yt
  intro _ w10 v11;refine yC (((pColor (((g1.toNat*1:Nat):Int)+1))==c')&&((pType (((g1.toNat*1:Nat):Int)+1))==t)) (λhc27=>?_) λhc27=>?_
  ·exact zw<|yS 2<|zz<|w_ret<|r_block<|r_then<|r_then<|r_block<|r_then<|y1 (v:=.int .i8 (((g1.toNat*1:Nat):Int)+1)) (⟨ret_int (by simp only [Bool.and_eq_true,beq_iff_eq] at*;unfold newP;unfold pColor pType at*;(repeat' split at*)<;>omega),yt⟩)
  exact w_skip<|n_block<|n_then<|w_region<|yS 2<|yW 9 (zi (g1+1) (by omega) (by omega))<|ze<|l_back (g1+1) [0,1,7,8,9] (by kernel_rfl) (by omega) ⟨by constructor<;>(try simp only [])<;>omega,yt,(by have hcc:=hc27;rw [Bool.and_eq_false_iff] at hcc;simp only [beq_eq_false_iff_ne,ne_eq] at hcc;unfold pColor pType at hcc;revert hcc;(repeat' split)<;>omega)⟩
 have dhc9:=of_decide_eq_false hc9;exact w_exit<|x_then<|x_then<|x_hit<|zn<|yS 1<|zz<|w_ret<|y1 (v:=.int .i8 0) (⟨ret_int (by unfold newP;omega),yt⟩)
theorem c100{b:Nat}{B:Bd}{w:World}(hb:At w b (.cells (bdCells B) 135 (0,0)))(x v:Int)(hx:1<=x/\x<=12):
  CQ 100 [pz b,.int .i8 x,.int .u64 v] w (λe w'=>e=.returned (.tuple #[])/\Mod [b] w w'/\At w' b (.cells (bdCells (B.set x.toNat v)) 135 (0,0))):=by
 have v0:Mod [b] w w:=Mod.refl _ _;refine en func100 ntmps100 ?_;refine zw<|yS 1<|zz<|w_block<|zw<|yS 2<|zz<|yC (x==1) (λhc1=>?_) λhc1=>?_
 ·have dhc1:=eq_of_beq hc1;refine w_region<|yS 4<|reg_store b 0 (.int .u64 v) none (by kernel_rfl) hb (Nat.le_of_ble_eq_true rfl) rfl ?_;intro w2 hu3;have hf4:At w2 b (.cells (bdCells (B.set 1 v)) 135 (0,0)):=hu3.at_;have v5:=Mod.fresh' v0 hu3.mod (by simp<;>omega);exact ze<|n_block<|end0 results100 (⟨rfl,v5,at_cast hf4 (set_at (by omega))⟩)
 have dhc1:=ne_of_beq_false hc1;refine zw<|yS 2<|zz<|yC (x==2) (λhc6=>?_) λhc6=>?_
 ·have dhc6:=eq_of_beq hc6;refine w_region<|yS 4<|reg_store b 1 (.int .u64 v) none (by kernel_rfl) hb (Nat.le_of_ble_eq_true rfl) rfl ?_;intro w7 hu8;have hf9:At w7 b (.cells (bdCells (B.set 2 v)) 135 (0,0)):=hu8.at_;have v10:=Mod.fresh' v0 hu8.mod (by simp<;>omega);exact ze<|n_block<|end0 results100 (⟨rfl,v10,at_cast hf9 (set_at (by omega))⟩)
 have dhc6:=ne_of_beq_false hc6;refine zw<|yS 2<|zz<|yC (x==3) (λhc11=>?_) λhc11=>?_
 ·have dhc11:=eq_of_beq hc11;refine w_region<|yS 4<|reg_store b 2 (.int .u64 v) none (by kernel_rfl) hb (Nat.le_of_ble_eq_true rfl) rfl ?_;intro w12 hu13;have hf14:At w12 b (.cells (bdCells (B.set 3 v)) 135 (0,0)):=hu13.at_;have v15:=Mod.fresh' v0 hu13.mod (by simp<;>omega);exact ze<|n_block<|end0 results100 (⟨rfl,v15,at_cast hf14 (set_at (by omega))⟩)
 have dhc11:=ne_of_beq_false hc11;refine zw<|yS 2<|zz<|yC (x==4) (λhc16=>?_) λhc16=>?_
 ·have dhc16:=eq_of_beq hc16;refine w_region<|yS 4<|reg_store b 3 (.int .u64 v) none (by kernel_rfl) hb (Nat.le_of_ble_eq_true rfl) rfl ?_;intro w17 hu18;have hf19:At w17 b (.cells (bdCells (B.set 4 v)) 135 (0,0)):=hu18.at_;have v20:=Mod.fresh' v0 hu18.mod (by simp<;>omega);exact ze<|n_block<|end0 results100 (⟨rfl,v20,at_cast hf19 (set_at (by omega))⟩)
 have dhc16:=ne_of_beq_false hc16;refine zw<|yS 2<|zz<|yC (x==5) (λhc21=>?_) λhc21=>?_
 ·have dhc21:=eq_of_beq hc21;refine w_region<|yS 4<|reg_store b 4 (.int .u64 v) none (by kernel_rfl) hb (Nat.le_of_ble_eq_true rfl) rfl ?_;intro w22 hu23;have hf24:At w22 b (.cells (bdCells (B.set 5 v)) 135 (0,0)):=hu23.at_;have v25:=Mod.fresh' v0 hu23.mod (by simp<;>omega);exact ze<|n_block<|end0 results100 (⟨rfl,v25,at_cast hf24 (set_at (by omega))⟩)
 have dhc21:=ne_of_beq_false hc21;refine zw<|yS 2<|zz<|yC (x==6) (λhc26=>?_) λhc26=>?_
 ·have dhc26:=eq_of_beq hc26;refine w_region<|yS 4<|reg_store b 5 (.int .u64 v) none (by kernel_rfl) hb (Nat.le_of_ble_eq_true rfl) rfl ?_;intro w27 hu28;have hf29:At w27 b (.cells (bdCells (B.set 6 v)) 135 (0,0)):=hu28.at_;have v30:=Mod.fresh' v0 hu28.mod (by simp<;>omega);exact ze<|n_block<|end0 results100 (⟨rfl,v30,at_cast hf29 (set_at (by omega))⟩)
 have dhc26:=ne_of_beq_false hc26;refine zw<|yS 2<|zz<|yC (x==7) (λhc31=>?_) λhc31=>?_
 ·have dhc31:=eq_of_beq hc31;refine w_region<|yS 4<|reg_store b 6 (.int .u64 v) none (by kernel_rfl) hb (Nat.le_of_ble_eq_true rfl) rfl ?_;intro w32 hu33;have hf34:At w32 b (.cells (bdCells (B.set 7 v)) 135 (0,0)):=hu33.at_;have v35:=Mod.fresh' v0 hu33.mod (by simp<;>omega);exact ze<|n_block<|end0 results100 (⟨rfl,v35,at_cast hf34 (set_at (by omega))⟩)
 have dhc31:=ne_of_beq_false hc31;refine zw<|yS 2<|zz<|yC (x==8) (λhc36=>?_) λhc36=>?_
 ·have dhc36:=eq_of_beq hc36;refine w_region<|yS 4<|reg_store b 7 (.int .u64 v) none (by kernel_rfl) hb (Nat.le_of_ble_eq_true rfl) rfl ?_;intro w37 hu38;have hf39:At w37 b (.cells (bdCells (B.set 8 v)) 135 (0,0)):=hu38.at_;have v40:=Mod.fresh' v0 hu38.mod (by simp<;>omega);exact ze<|n_block<|end0 results100 (⟨rfl,v40,at_cast hf39 (set_at (by omega))⟩)
 have dhc36:=ne_of_beq_false hc36;refine zw<|yS 2<|zz<|yC (x==9) (λhc41=>?_) λhc41=>?_
 ·have dhc41:=eq_of_beq hc41;refine w_region<|yS 4<|reg_store b 8 (.int .u64 v) none (by kernel_rfl) hb (Nat.le_of_ble_eq_true rfl) rfl ?_;intro w42 hu43;have hf44:At w42 b (.cells (bdCells (B.set 9 v)) 135 (0,0)):=hu43.at_;have v45:=Mod.fresh' v0 hu43.mod (by simp<;>omega);exact ze<|n_block<|end0 results100 (⟨rfl,v45,at_cast hf44 (set_at (by omega))⟩)
 have dhc41:=ne_of_beq_false hc41;refine zw<|yS 2<|zz<|yC (x==10) (λhc46=>?_) λhc46=>?_
 ·have dhc46:=eq_of_beq hc46;refine w_region<|yS 4<|reg_store b 9 (.int .u64 v) none (by kernel_rfl) hb (Nat.le_of_ble_eq_true rfl) rfl ?_;intro w47 hu48;have hf49:At w47 b (.cells (bdCells (B.set 10 v)) 135 (0,0)):=hu48.at_;have v50:=Mod.fresh' v0 hu48.mod (by simp<;>omega);exact ze<|n_block<|end0 results100 (⟨rfl,v50,at_cast hf49 (set_at (by omega))⟩)
 have dhc46:=ne_of_beq_false hc46;refine zw<|yS 2<|zz<|yC (x==11) (λhc51=>?_) λhc51=>?_
 ·have dhc51:=eq_of_beq hc51;refine w_region<|yS 4<|reg_store b 10 (.int .u64 v) none (by kernel_rfl) hb (Nat.le_of_ble_eq_true rfl) rfl ?_;intro w52 hu53;have hf54:At w52 b (.cells (bdCells (B.set 11 v)) 135 (0,0)):=hu53.at_;have v55:=Mod.fresh' v0 hu53.mod (by simp<;>omega);exact ze<|n_block<|end0 results100 (⟨rfl,v55,at_cast hf54 (set_at (by omega))⟩)
 have dhc51:=ne_of_beq_false hc51;refine zw<|yS 2<|zz ?_;have hc56:(x==12)=true:=(beq_iff_eq.2 (by omega));refine w_cond (b:=(x==12)) (by kernel_rfl) (λ_=>?_) (λhx=>absurd (hc56.symm.trans hx) (by decide));refine w_region<|yS 4<|reg_store b 11 (.int .u64 v) none (by kernel_rfl) hb (Nat.le_of_ble_eq_true rfl) rfl ?_;intro w57 hu58;have hf59:At w57 b (.cells (bdCells (B.set 12 v)) 135 (0,0)):=hu58.at_;have v60:=Mod.fresh' v0 hu58.mod (by simp<;>omega);exact ze<|n_block<|end0 results100 (⟨rfl,v60,at_cast hf59 (set_at (by omega))⟩)
def Bd.kings(B:Bd)(a b:Int):Bd:={B with wk:=a,bk:=b}
theorem lastK_succ{f:Int->Bool}{j:Int}(h:0<=j):lastK f (j+1).toNat=if f j then j else lastK f j.toNat:=by
 have e:(j+1).toNat=j.toNat+1:=by omega
 rw [e];simp only [lastK];rw [show ((j.toNat:Nat):Int)=j from by omega]
theorem bd_kings{B:Bd}{a b a' b':Int}(h:a=a')(h':b=b'):Obj.cells (bdCells (B.kings a b)) 135 (0,0)=.cells (bdCells (B.kings a' b')) 135 (0,0):=by rw [h,h']
theorem bd_eq{B B':Bd}(h:B=B'):Obj.cells (bdCells B) 135 (0,0)=.cells (bdCells B') 135 (0,0):=by rw [h]
theorem c103n{b:Nat}{B:Bd}{w:World}(hb:At w b (.cells (bdCells B) 135 (0,0))):
  CQ 103 [.pointer (some ⟨b,0,none⟩),.pointer none] w (λe w'=>e=.returned (.tuple #[])/\Mod [b] w w'/\At w' b (.cells (bdCells (kingsB (calcB B))) 135 (0,0))):=by
 refine en func103 ntmps103 ?_;refine w_seq<|w_qt<|yQo 30 [.cell ⟨b,0,none⟩ (.int .u64 (B.bb 1)),.cell ⟨b,1,none⟩ (.int .u64 (B.bb 2)),.cell ⟨b,2,none⟩ (.int .u64 (B.bb 3)),.cell ⟨b,3,none⟩ (.int .u64 (B.bb 4)),.cell ⟨b,4,none⟩ (.int .u64 (B.bb 5)),.cell ⟨b,5,none⟩ (.int .u64 (B.bb 6))] (λ_ hC=>⟨At.cell (At.on hb hC) rfl,At.cell (At.on hb hC) rfl,At.cell (At.on hb hC) rfl,At.cell (At.on hb hC) rfl,At.cell (At.on hb hC) rfl,At.cell (At.on hb hC) rfl⟩)<|q_ot fun w1 v2=>n_then<|w_seq<|w_qt<|yQo 30 [.cell ⟨b,6,none⟩ (.int .u64 (B.bb 7)),.cell ⟨b,7,none⟩ (.int .u64 (B.bb 8)),.cell ⟨b,8,none⟩ (.int .u64 (B.bb 9)),.cell ⟨b,9,none⟩ (.int .u64 (B.bb 10)),.cell ⟨b,10,none⟩ (.int .u64 (B.bb 11)),.cell ⟨b,11,none⟩ (.int .u64 (B.bb 12))] (λ_ hC=>⟨At.cell (At.on ya hC) rfl,At.cell (At.on ya hC) rfl,At.cell (At.on ya hC) rfl,At.cell (At.on ya hC) rfl,At.cell (At.on ya hC) rfl,At.cell (At.on ya hC) rfl⟩)<|q_ot fun w5 v6=>zn<|yS 5<|zx<|yS 4<|zS b 12 (.int .u64 (bwhite B)) ?_;intro w9 hu10;have hf11:At w9 b (.cells (bdCells {B with white:=(bwhite B)}) 135 (0,0)):=hu10.at_;refine zx<|yS 4<|zS b 13 (.int .u64 (bblack B)) ?_;intro w13 hu14;have hf15:At w13 b (.cells (bdCells {{B with white:=(bwhite B)} with black:=(bblack B)}) 135 (0,0)):=hu14.at_;refine zx<|yS 4<|zS b 14 (.int .u64 (bnot (bor (bwhite B) (bblack B)))) ?_;intro w17 hu18;have hf19:At w17 b (.cells (bdCells {{{B with white:=(bwhite B)} with black:=(bblack B)} with empty:=(bnot (bor (bwhite B) (bblack B)))}) 135 (0,0)):=hu18.at_;refine zz<|w_block<|zw<|yS 3<|zz<|yT<|zw<|yS 3<|zS b 15 (.int .i8 (-1)) ?_;intro w21 hu22;have hf23:At w21 b (.cells (bdCells {{{{B with white:=(bwhite B)} with black:=(bblack B)} with empty:=(bnot (bor (bwhite B) (bblack B)))} with wk:=(-1)}) 135 (0,0)):=hu22.at_;refine zx<|yS 3<|zS b 16 (.int .i8 (-1)) ?_;intro w25 hu26;have hf27:At w25 b (.cells (bdCells {{{{{B with white:=(bwhite B)} with black:=(bblack B)} with empty:=(bnot (bor (bwhite B) (bblack B)))} with wk:=(-1)} with bk:=(-1)}) 135 (0,0)):=hu26.at_;refine ze ?_;have hf29:At w25 b (.cells (bdCells ((calcB B).kings (-1) (-1))) 135 (0,0)):=at_cast hf27 rfl;refine zn<|yS 1<|zz<|w_block<|yP (γ:=Int) (λg30=>(64-g30).toNat) (λ(g30:Int)=>[(0,pz b),(92,.int .i64 g30)]) (λ(g30:Int) w_=>(0<=g30/\g30<=64)/\Mod [b] w25 w_/\At w_ b (.cells (bdCells ((calcB B).kings (lastK (λi=>occB (B.bb 1) i) g30.toNat) (lastK (λi=>!occB (B.bb 1) i&&occB (B.bb 7) i) g30.toNat))) 135 (0,0))/\(True)) 0 ⟨by omega,Mod.refl _ _,hf29,trivial⟩ ?_;rintro g30 w31 ⟨⟨h33,h34⟩,v32,hf36,hx35⟩;refine zw<|yS 1<|zz<|w_seq<|yC (decide (g30<64)) (λhc38=>?_) λhc38=>?_
 ·have dhc38:=of_decide_eq_true hc38;refine w_skip<|n_then<|w_seq<|w_block<|zw<|yS 2<|zx<|zs 3 [rz 0 b,(8,.int .i8 (IntKind.i8.wrap g30)),iz 92 g30]<|ze ?_;rw [(show ((IntKind.i8.wrap g30):Int)=g30 from i8_in' (by omega) (by omega))];refine zn<|yL 5 b 0<|zk (some 102) (c98 (B.bb 1) g30 w31) fun w39 v40=>zz<|zc (λhc44=>?_) λhc44=>?_
  ·refine w_region<|yS 4<|zS b 15 (.int .i8 g30) ?_;intro w45 hu46;have hf47:At w45 b (.cells (bdCells ((calcB B).kings g30 (lastK (λi=>!occB (B.bb 1) i&&occB (B.bb 7) i) g30.toNat))) 135 (0,0)):=hu46.at_;refine ze<|n_block<|n_then<|w_region<|yS 2<|yW 92 (zi (g30+1) (by omega) (by omega))<|ze ?_;have hf50:At w45 b (.cells (bdCells ((calcB B).kings (lastK (λi=>occB (B.bb 1) i) ((g30+1)).toNat) (lastK (λi=>!occB (B.bb 1) i&&occB (B.bb 7) i) ((g30+1)).toNat))) 135 (0,0)):=at_cast hf47 (bd_kings (by rw [lastK_succ (by omega)];simp only [hc44];simp) (by rw [lastK_succ (by omega)];simp only [hc44];simp));exact zl (g30+1) ⟨by omega,yt,hf50,trivial⟩
  refine zw<|yL 5 b 6<|zk (some 112) (c98 (B.bb 7) g30 w39) fun w51 v52=>zz<|zc (λhc56=>?_) λhc56=>?_
  ·refine w_region<|yS 4<|zS b 16 (.int .i8 g30) ?_;intro w57 hu58;have hf59:At w57 b (.cells (bdCells ((calcB B).kings (lastK (λi=>occB (B.bb 1) i) g30.toNat) g30)) 135 (0,0)):=hu58.at_;refine ze<|n_block<|n_then<|w_region<|yS 2<|yW 92 (zi (g30+1) (by omega) (by omega))<|ze ?_;have hf62:At w57 b (.cells (bdCells ((calcB B).kings (lastK (λi=>occB (B.bb 1) i) ((g30+1)).toNat) (lastK (λi=>!occB (B.bb 1) i&&occB (B.bb 7) i) ((g30+1)).toNat))) 135 (0,0)):=at_cast hf59 (bd_kings (by rw [lastK_succ (by omega)];simp only [hc44,hc56];simp) (by rw [lastK_succ (by omega)];simp only [hc44,hc56];simp));exact zl (g30+1) ⟨by omega,yt,hf62,trivial⟩
  refine w_skip<|n_block<|n_then<|w_region<|yS 2<|yW 92 (zi (g30+1) (by omega) (by omega))<|ze ?_;have hf63:At w51 b (.cells (bdCells ((calcB B).kings (lastK (λi=>occB (B.bb 1) i) ((g30+1)).toNat) (lastK (λi=>!occB (B.bb 1) i&&occB (B.bb 7) i) ((g30+1)).toNat))) 135 (0,0)):=at_cast ya (bd_kings (by rw [lastK_succ (by omega)];simp only [hc44,hc56];simp) (by rw [lastK_succ (by omega)];simp only [hc44,hc56];simp));exact zl (g30+1) ⟨by omega,yt,hf63,trivial⟩
 have dhc38:=of_decide_eq_false hc38;exact w_exit<|x_then<|x_then<|x_hit<|n_block<|end0 results103 (⟨rfl,yt,at_cast hf36 (by rw [show g30=64 from by omega];rfl)⟩)
theorem c103m{b:Nat}{B:Bd}{w:World}(hb:At w b (.cells (bdCells B) 135 (0,0))){m:Nat}{pos:Value}{M:Mv}(hm:At w m (.cells (mvCells pos M) 98 (0,0))):
  CQ 103 [.pointer (some ⟨b,0,none⟩),.pointer (some ⟨m,0,none⟩)] w (λe w'=>e=.returned (.tuple #[])/\Mod [b] w w'/\At w' b (.cells (bdCells (moveK (calcB B) M)) 135 (0,0))):=by
 have v0:Mod [b] w w:=Mod.refl _ _;refine en func103 ntmps103 ?_;refine w_seq<|w_qt<|yQo 30 [.cell ⟨b,0,none⟩ (.int .u64 (B.bb 1)),.cell ⟨b,1,none⟩ (.int .u64 (B.bb 2)),.cell ⟨b,2,none⟩ (.int .u64 (B.bb 3)),.cell ⟨b,3,none⟩ (.int .u64 (B.bb 4)),.cell ⟨b,4,none⟩ (.int .u64 (B.bb 5)),.cell ⟨b,5,none⟩ (.int .u64 (B.bb 6))] (λ_ hC=>⟨At.cell (At.on hb hC) rfl,At.cell (At.on hb hC) rfl,At.cell (At.on hb hC) rfl,At.cell (At.on hb hC) rfl,At.cell (At.on hb hC) rfl,At.cell (At.on hb hC) rfl⟩)<|q_ot ?_;intro w1 v2;have v5:=Mod.trans v0 (Mod.of_nil v2);refine n_then<|w_seq<|w_qt<|yQo 30 [.cell ⟨b,6,none⟩ (.int .u64 (B.bb 7)),.cell ⟨b,7,none⟩ (.int .u64 (B.bb 8)),.cell ⟨b,8,none⟩ (.int .u64 (B.bb 9)),.cell ⟨b,9,none⟩ (.int .u64 (B.bb 10)),.cell ⟨b,10,none⟩ (.int .u64 (B.bb 11)),.cell ⟨b,11,none⟩ (.int .u64 (B.bb 12))] (λ_ hC=>⟨At.cell (At.on ya hC) rfl,At.cell (At.on ya hC) rfl,At.cell (At.on ya hC) rfl,At.cell (At.on ya hC) rfl,At.cell (At.on ya hC) rfl,At.cell (At.on ya hC) rfl⟩)<|q_ot ?_;intro w6 v7;have v10:=Mod.trans v5 (Mod.of_nil v7);refine zn<|yS 5<|zx<|yS 4<|zS b 12 (.int .u64 (bwhite B)) ?_;intro w11 hu12;have hf13:At w11 b (.cells (bdCells {B with white:=(bwhite B)}) 135 (0,0)):=hu12.at_;have v15:=Mod.fresh' v10 hu12.mod (by simp<;>omega);refine zx<|yS 4<|zS b 13 (.int .u64 (bblack B)) ?_;intro w16 hu17;have hf18:At w16 b (.cells (bdCells {{B with white:=(bwhite B)} with black:=(bblack B)}) 135 (0,0)):=hu17.at_;have v20:=Mod.fresh' v15 hu17.mod (by simp<;>omega);refine zx<|yS 4<|zS b 14 (.int .u64 (bnot (bor (bwhite B) (bblack B)))) ?_;intro w21 hu22;have hf23:At w21 b (.cells (bdCells {{{B with white:=(bwhite B)} with black:=(bblack B)} with empty:=(bnot (bor (bwhite B) (bblack B)))}) 135 (0,0)):=hu22.at_;have v25:=Mod.fresh' v20 hu22.mod (by simp<;>omega);refine ze ?_;have hf26:At w21 b (.cells (bdCells ((calcB B).kings B.wk B.bk)) 135 (0,0)):=at_cast hf23 rfl;refine n_then<|w_block<|zw<|yS 3<|zz<|yF<|w_seq<|w_qt<|yQo 10 [.cell ⟨m,8,none⟩ (.int .i8 M.s1),.cell ⟨b,15,none⟩ (.int .i8 B.wk)] (λ_ hC=>⟨At.cell (At.on ya hC) rfl,At.cell (At.on hf26 hC) rfl⟩)<|q_ot ?_;intro w27 v28;have v31:=Mod.trans v25 (Mod.of_nil v28);refine n_then<|yC (M.s1==B.wk) (λhc32=>?_) λhc32=>?_
 ·have dhc32:=eq_of_beq hc32;refine w_region<|yL 7 m 9<|zS b 15 (.int .i8 M.s2) ?_;intro w33 hu34;have hf35:At w33 b (.cells (bdCells ((calcB B).kings M.s2 B.bk)) 135 (0,0)):=hu34.at_;have v37:=Mod.fresh' v31 hu34.mod (by simp<;>omega);exact ze<|n_block<|end0 results103 (⟨rfl,v37,at_cast hf35 (bd_eq (by rw [moveK,if_pos (show M.s1=(calcB B).wk from dhc32)];try rfl))⟩)
 have dhc32:=ne_of_beq_false hc32;refine w_seq<|w_qt<|yQo 10 [.cell ⟨m,8,none⟩ (.int .i8 M.s1),.cell ⟨b,16,none⟩ (.int .i8 B.bk)] (λ_ hC=>⟨At.cell (At.on ya hC) rfl,At.cell (At.on ya hC) rfl⟩)<|q_ot ?_;intro w38 v39;have v42:=Mod.trans v31 (Mod.of_nil v39);refine n_then<|yC (M.s1==B.bk) (λhc43=>?_) λhc43=>?_
 ·have dhc43:=eq_of_beq hc43;refine w_region<|yL 7 m 9<|zS b 16 (.int .i8 M.s2) ?_;intro w44 hu45;have hf46:At w44 b (.cells (bdCells ((calcB B).kings B.wk M.s2)) 135 (0,0)):=hu45.at_;have v48:=Mod.fresh' v42 hu45.mod (by simp<;>omega);exact ze<|n_block<|end0 results103 (⟨rfl,v48,at_cast hf46 (bd_eq (by rw [moveK,if_neg (show ¬M.s1=(calcB B).wk from dhc32),if_pos (show M.s1=(calcB B).bk from dhc43)];try rfl))⟩)
 have dhc43:=ne_of_beq_false hc43;exact w_skip<|n_block<|end0 results103 (⟨rfl,v42,at_cast ya (bd_eq (by rw [moveK,if_neg (show ¬M.s1=(calcB B).wk from dhc32),if_neg (show ¬M.s1=(calcB B).bk from dhc43)];try rfl))⟩)
theorem c69{b:Nat}{B:Bd}{w:World}(hb:At w b (.cells (bdCells B) 135 (0,0))):
  CQ 69 [pz b] w (λe w'=>∃b',e=.returned (.pointer (some ⟨b',0,none⟩))/\Mod [] w w'/\At w' b' (.cells (bdCells B) 135 (0,0))/\w.heap.size<=b'):=by
 have v0:Mod [] w w:=Mod.refl _ _;refine en func69 ntmps69 ?_;refine zw<|yS 1<|zz<|w_seq<|w_tail 69 (by kernel_rfl) (by kernel_rfl)<|yQo 69 [.cell ⟨b,12,none⟩ (.int .u64 B.white),.cell ⟨b,13,none⟩ (.int .u64 B.black),.cell ⟨b,14,none⟩ (.int .u64 B.empty),.cell ⟨b,15,none⟩ (.int .i8 B.wk),.cell ⟨b,16,none⟩ (.int .i8 B.bk),.cell ⟨b,0,none⟩ (.int .u64 (B.bb 1)),.cell ⟨b,1,none⟩ (.int .u64 (B.bb 2)),.cell ⟨b,2,none⟩ (.int .u64 (B.bb 3)),.cell ⟨b,3,none⟩ (.int .u64 (B.bb 4)),.cell ⟨b,4,none⟩ (.int .u64 (B.bb 5)),.cell ⟨b,5,none⟩ (.int .u64 (B.bb 6)),.cell ⟨b,6,none⟩ (.int .u64 (B.bb 7)),.cell ⟨b,7,none⟩ (.int .u64 (B.bb 8)),.cell ⟨b,8,none⟩ (.int .u64 (B.bb 9)),.cell ⟨b,9,none⟩ (.int .u64 (B.bb 10)),.cell ⟨b,10,none⟩ (.int .u64 (B.bb 11)),.cell ⟨b,11,none⟩ (.int .u64 (B.bb 12))] (λ_ hC=>⟨At.cell (At.on hb hC) rfl,At.cell (At.on hb hC) rfl,At.cell (At.on hb hC) rfl,At.cell (At.on hb hC) rfl,At.cell (At.on hb hC) rfl,At.cell (At.on hb hC) rfl,At.cell (At.on hb hC) rfl,At.cell (At.on hb hC) rfl,At.cell (At.on hb hC) rfl,At.cell (At.on hb hC) rfl,At.cell (At.on hb hC) rfl,At.cell (At.on hb hC) rfl,At.cell (At.on hb hC) rfl,At.cell (At.on hb hC) rfl,At.cell (At.on hb hC) rfl,At.cell (At.on hb hC) rfl,At.cell (At.on hb hC) rfl⟩)<|q_end (by kernel_rfl) (λa ha w1 v2=>(?_:Reg _ _ _ _ _ 69 _ w1) a ha);have v4:=zt v0 v2;refine zA (bdCells B) 135 (some 72) ?_;intro b5 w6 hn7;have hb9:=Nat.le_trans v4.size hn7.base;have v10:=hn7.mod;have v12:=zt v4 v10;have hf13:=hn7.at_;exact yS 1<|zz<|w_ret<|y1 (⟨_,rfl,v12,hf13,by omega⟩)
theorem c145{p b:Nat}{vm:Value}{S:Ps}{w:World}(hp:At w p (.cells (psCells b vm S) 110 (0,0))){B:Bd}(hb:At w b (.cells (bdCells B) 135 (0,0))):
  CQ 145 [pz p] w (λe w'=>∃p' b',e=.returned (.pointer (some ⟨p',0,none⟩))/\Mod [] w w'/\At w' p' (.cells (psCells b' (.slice none 0 0) S) 110 (0,0))/\At w' b' (.cells (bdCells B) 135 (0,0))/\w.heap.size<=p'/\w.heap.size<=b'):=by
 have v0:Mod [] w w:=Mod.refl _ _;refine en func145 ntmps145 ?_;refine zw<|yS 1<|zz<|w_seq<|w_tail1 29 4 [0,1,2,3,5,6,7,8,9,10,11,12,13,14,15,16,17,18,19,20,21,22,23,24,25,26,27,28] (by kernel_rfl) (by kernel_rfl)<|yRo 28 [.cell ⟨p,0,none⟩ (pz b),.cell ⟨p,5,none⟩ (.int .i8 S.turn),.cell ⟨p,1,none⟩ (.string S.castle),.cell ⟨p,6,none⟩ (.int .i8 S.ep),.cell ⟨p,3,none⟩ (.int .i64 S.half),.cell ⟨p,4,none⟩ (.int .i64 S.full),.cell ⟨p,7,none⟩ (.bool S.chk)] (λ_ hC=>⟨At.cell (At.on hp hC) rfl,At.cell (At.on hp hC) rfl,At.cell (At.on hp hC) rfl,At.cell (At.on hp hC) rfl,At.cell (At.on hp hC) rfl,At.cell (At.on hp hC) rfl,At.cell (At.on hp hC) rfl⟩)<|re_end (by kernel_rfl) (λa ha w1 v2=>(?_:EReg _ _ _ _ _ _ 29 4 _ w1) a ha);have hf3:=At.on hp v2;have v5:=zt v0 v2;refine e_call 69 [pz b] (some 7) (by kernel_rfl) v2 (c69 ya) ?_;rintro _ w6 ⟨b8,rfl,v7,hf9,hb10⟩;refine ⟨_,rfl,v7,?_⟩;have hb11:=Nat.le_trans v5.size hb10;have hf12:=At.on hf3 v7;have v14:=zt v5 v7;intro w15 v16;have hf17:=At.on hf12 v16;have hf19:=At.on hf9 v16;have v20:=zt v14 v16;refine yS 1<|zA (psCells b8 (.slice none 0 0) S) 110 (some 33) ?_;intro b21 w22 hn23;have ne24:p≠b21:=hn23.ne hf17;have hb25:=Nat.le_trans v20.size hn23.base;have v26:=hn23.mod;have hf29:=At.on hf19 v26;have v30:=zt v20 v26;have hf31:=hn23.at_;exact yS 1<|ze<|only_n<|n_then<|w_ret<|y1 (⟨_,_,rfl,v30,hf31,hf29,by omega,by omega⟩)
end Go.Proofs.YtgnhellfhjoaaaaGreatDoor
