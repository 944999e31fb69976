import PyProof.Rows.All
import Wide.All
import OpenK.AllK
import Wide.FinOn
import Lean
import PySem.Challenge.RW_te0050_04
set_option maxRecDepth 100000
set_option maxHeartbeats 0
set_option genInjectivity false
set_option genSizeOf false
set_option genCtorIdx false
set_option tactic.hygienic false
set_option linter.unusedVariables false
noncomputable section
namespace Mine.Internal
theorem ke.{u}{α:Type u}{a b:α}(h:some a=some b):a=b:=Option.some.inj h
theorem kg{n m k:Nat}(a:n<=m)(b:m<=k):n<=k:=Nat.le_trans a b
theorem kh.{u,v}{α:Sort u}{β:Sort v}{Nk PK:α}(f:α->β)(h:Nk=PK):f Nk=f PK:=congrArg f h
theorem kj.{u}{α:Type u}{l:List α}{i:Nat}{a:α}(h:l[i]?=some a):∃h:i<l.length,l[i]=a:=List.getElem?_eq_some_iff.mp h
theorem km{p:Prop}[i:Decidable p](h:decide p=true):p:=of_decide_eq_true h
theorem kq.{u}{α:Type u}{a b:α}{l:List α}(h:a∈b::l):a=b∨a∈l:=List.mem_cons.mp h
theorem ku.{u}{α:Type u}{a b:α}(h:a∈[b]):a=b:=List.mem_singleton.mp h
theorem kx.{u}{α:Type u}{l:List α}{i:Nat}(h:i<l.length):l[i]?=some l[i]:=List.getElem?_eq_getElem h
theorem ky.{u}{α:Type u}{as bs:List α}:(as++bs).length=as.length+bs.length:=List.length_append
theorem lf.{u}{α:Type u}[BEq α][LawfulBEq α]{a b:α}(h:(a==b)=true):a=b:=beq_iff_eq.mp h
theorem lg.{u,v}{α:Type u}{β:Type v}{as:List α}(f:α->β):(as.map f).length=as.length:=List.length_map f
theorem lh.{u}{α:Type u}{a:α}{s t:List α}(h:a∈s∨a∈t):a∈s++t:=List.mem_append.mpr h
theorem li{n m k:Nat}(a:n<m)(b:m<=k):n<k:=Nat.lt_of_lt_of_le a b
theorem lj{n m k:Nat}(a:n<=m)(b:m<k):n<k:=Nat.lt_of_le_of_lt a b
theorem lm{n m:Nat}(h:Nat.ble n m=true):n<=m:=Nat.le_of_ble_eq_true h
theorem lq{b:Bool}(h:(!b)=true):b=false:=(Bool.not_eq_true' b).mp h
theorem lu.{u}{α:Type u}(as bs cs:List α):as++bs++cs=as++(bs++cs):=List.append_assoc as bs cs
theorem lw(n k:Nat):n<=n+k:=Nat.le_add_right n k
theorem lx{n m:Nat}(h:n=m):n<=m:=Nat.le_of_eq h
theorem ly.{u}{α:Type u}{l:List α}{i:Nat}{a:α}(h:l[i]?=some a):a∈l:=List.mem_of_getElem? h
theorem ma{a b:Bool}(h:(a&&b)=true):a=true/\b=true:=Bool.and_eq_true_iff.mp h
theorem mc.{u}{α:Type u}{p:α->Bool}{l:List α}(h:l.all p=true):∀x∈l,p x=true:=List.all_eq_true.mp h
theorem me{n m:Nat}(h:n<=m)(k:Nat):k+n<=k+m:=Nat.add_le_add_left h k
theorem mf(n:Nat):n<=n:=Nat.le_refl n
theorem mh.{u}{α:Type u}(l:List α):l++[]=l:=List.append_nil l
theorem mi(n:Nat):0<=n:=Nat.zero_le n
theorem mj{n m:Nat}(h:n<=m):n.succ<=m.succ:=Nat.succ_le_succ h
theorem mn.{u}{α:Type u}{a:α}:¬a∈([]:List α):=List.not_mem_nil
theorem mq{n m:Nat}(h:n.succ<=m):n<=m:=Nat.le_of_succ_le h
theorem mu(n m:Nat):n<=m+n:=Nat.le_add_left n m
theorem mw(n:Nat):n<=n.succ:=Nat.le_succ n
theorem mx.{u}{α:Type u}{a:α}{s t:List α}(h:a∈s++t):a∈s∨a∈t:=List.mem_append.mp h
theorem my{a b:Bool}(h:(a||b)=true):a=true∨b=true:=Bool.or_eq_true_iff.mp h
abbrev Zs:=PySem.Str
section
open PySem PySem.W PySem.Calls PyProof.Rows
noncomputable def dP:Pos:=⟨0,0,0,0⟩
noncomputable def dE:Expr:=.Name "" dP
structure Vw where
 t:Nat
 ks:List Expr
 ck:List Keyword
 kn:Nat
 sc:Scope
 id:Zs
 c:Const
noncomputable def Kf:Scope:=⟨.function,[],false,false,[]⟩
noncomputable def G8:PySem.UnaryOp->Nat | .Not=>1 | _=>0
noncomputable def Lz:Expr->Vw
 | .BoolOp _ l _=>⟨1,l,[],0,Kf, "",.none⟩
 | .BinOp a _ b _=>⟨0,[a,b],[],0,Kf, "",.none⟩
 | .UnaryOp o a _=>⟨G8 o,[a],[],0,Kf, "",.none⟩
 | .IfExp a b c _=>⟨1,[a,b,c],[],0,Kf, "",.none⟩
 | .Dict ks vs _=>⟨6,ks.map (·.getD dE)++vs,[],0,Kf, "",.none⟩
 | .ListComp e gs sc _=>⟨3,e::gs.flatMap λg=>[g.target,g.iter],[],0,sc, "",.none⟩
 | .Compare a _ l _=>⟨1,a::l,[],0,Kf, "",.none⟩
 | .Call f l k _=>⟨0,f::l,k,0,Kf, "",.none⟩
 | .Attribute a _ _=>⟨5,[a],[],0,Kf, "",.none⟩
 | .Subscript a b _=>⟨5,[a,b],[],0,Kf, "",.none⟩
 | .List l _=>⟨0,l,[],0,Kf, "",.none⟩
 | .Tuple l k _=>⟨4,l,[],k,Kf, "",.none⟩
 | .Slice a b _ _=>⟨2,[a.getD dE,b.getD dE],[],0,Kf, "",.none⟩
 | .JoinedStr l _=>⟨0,l,[],0,Kf, "",.none⟩
 | .FormattedValue a _ _ _=>⟨0,[a],[],0,Kf, "",.none⟩
 | .Constant c k _=>⟨5,[],[],k,Kf, "",c⟩
 | .Name x _=>⟨5,[],[],0,Kf,x,.none⟩
 | .Starred .. | .SetComp .. | .DictComp .. | .Set ..=>⟨2,[],[],0,Kf, "",.none⟩
 | _=>⟨0,[],[],0,Kf, "",.none⟩
structure VS where
 ks:List Expr
 a:List Stmt
 b:List Stmt
 k:Nat
 nm:Zs
 as:Arguments
 sc:Scope
 sa:List Zs
noncomputable def PL:Arguments:=⟨[],[],none,[],[],none,[]⟩
noncomputable def Qr:Stmt->VS
 | .Return v _=>⟨[v.getD dE],[],[],0, "",PL,Kf,[]⟩
 | .Assign ts v _=>⟨v::ts,[],[],3, "",PL,Kf,[]⟩
 | .AugAssign t _ v _=>⟨[v,t],[],[],0, "",PL,Kf,[]⟩
 | .For t i b _ _=>⟨[t,i],b,[],0, "",PL,Kf,[]⟩
 | .While t b _ _=>⟨[t],b,[],0, "",PL,Kf,[]⟩
 | .If t a b _=>⟨[t],a,b,0, "",PL,Kf,[]⟩
 | .Expr x _=>⟨[x],[],[],0, "",PL,Kf,[]⟩
 | .FunctionDef nm as b _ _ _ sc _ _ _=>⟨[],b,[],1,nm,as,sc,[]⟩
 | .ClassDef nm bs _ b _ _ _ _ _ sa _=>⟨bs,b,[],2,nm,PL,Kf,sa⟩
 | _=>⟨[],[],[],0, "",PL,Kf,[]⟩
structure Lx where
 T:BT
 n:Nat
 k:Nat
noncomputable def Lx.al(s:Lx)(o:Obj):Lx:=⟨s.T.ins s.n o,s.n+1,s.k⟩
noncomputable def Lx.up(s:Lx)(a:Nat)(f:Obj->Obj):Lx:=⟨s.T.set a f,s.n,s.k⟩
noncomputable def Lx.QX(s:Lx)(l:List Obj):Lx:=l.foldl Lx.al s
noncomputable def sv(x:Zs)(t:Nat):Value:=.str x t
noncomputable def iv(n:Nat):Value:=.int n 0
noncomputable def NY(P:Params)(x:Zs)(t:Nat)(v:Value):DictEntry:=⟨PyData.keyHash P x,.str x t,v⟩
noncomputable def kD(l:List Value):Obj:=⟨.type "tuple",none,.seq l.toArray 0,#[]⟩
noncomputable def lI(c:Value)(l:List Value):Obj:=⟨c,none,.fields l.toArray,#[]⟩
noncomputable def Cq(l:List DictEntry)(n:Nat):Obj:=⟨.type "dict",none,.dict l.toArray n,#[]⟩
noncomputable def E6:Zs := "/claim/cut.py"
noncomputable def Cs(nm ql:Zs)(k a:Nat)(p:Pos)(np fl:Nat)(fn:Bool)(tab:Nat)(more:List Value)(k':Nat):Obj:=
 lI (.type "code") ([sv nm k,sv ql (k+1),sv E6 (k+2),iv p.line,iv np,iv 0,iv 0,iv fl,.ref a,.bool fn,iv 181,.ref tab,.none]++more++[iv k',iv p.line,sv E6 (k'+1)])
noncomputable def fnO(c:Value)(nm ql:Zs)(as:Arguments)(b:List Stmt)(sc:Scope)(g:Nat)(df:Value)(md cd:Value):Obj:=
 ⟨c,none,.func { name:=nm,qualname:=ql,params:=as,body:=.stmts b,scope:=sc,globals:=g,closure:=[],defaults:=df,kwdefaults:=.none,pyModule:=md,code:=cd},#[]⟩
noncomputable def dfV(e:Expr):Value:=match (Lz e).c with | .bool b=>.bool b | _=>.none
noncomputable def wO(k:Nat):List Zs->List Value
 | []=>[] | x::r=>sv x k::wO (k+1) r
noncomputable def EG(sc:Scope):List Zs:=sc.names.filterMap λx=>bif x.2==.local then some x.1 else none
noncomputable def th(f:DictEntry):Obj->Obj
 | ⟨c,d,.dict es n,s⟩=>⟨c,d,.dict (es.push f) (n+1),s⟩ | o=>o
noncomputable def Fx(l:List Value):Obj->Obj
 | ⟨c,d,.fields vs,s⟩=>⟨c,d,.fields (l.foldl Array.push vs),s⟩ | o=>o
noncomputable def EZ(P:Params)(md:Value)(pre:Zs)(ns tab:Nat)(s:Lx)(nm:Zs)(as:Arguments)(b:List Stmt)(sc:Scope)(p:Pos)(cmp:Bool):Lx:=
 let df:=as.defaults.map dfV
 let s:=bif df.isEmpty then s else s.al (kD df)
 let a:=s.n
 let k:=s.k
 let fs:=bif cmp then [] else EG sc
 let f:=bif cmp then a+2 else a+4
 let k':=k+3+fs.length
 let ql:=pre++nm
 let s:=(s.QX [kD [],lI .none []]).QX (bif cmp then [] else [kD (wO (k+3) fs),kD []])
 let s:=s.QX [fnO .none nm ql as b sc 0 .none .none .none,Cs nm ql k a p as.args.length 3 true (a+1) (bif cmp then [.none,.none,.ref f] else [.ref (a+2),.ref (a+3),.ref f]) k',
  fnO (.type "function") nm ql as b sc 3 (bif df.isEmpty then .none else .ref (a - 1)) md (.ref (f+1))]
 let s:=(s.up tab (Fx [iv p.line,iv p.col,.ref (f+1)])).up ns (th (NY P nm (k'+2) (.ref (f+2))))
 ⟨s.T,s.n,k'+3⟩
noncomputable def EY(P:Params)(k:Nat):List (Expr×Expr)->List DictEntry
 | []=>[]
 | x::r=>(match (Lz x.1).c,(Lz x.2).c with | .str a,.str b=>NY P a k (sv b (k+1))::EY P (k+2) r | _,_=>[])
noncomputable def Hc(P:Params)(md:Value)(pre:Zs)(ns tab:Nat)(s:Lx)(t:Stmt):Lx:=
 let w:=Qr t
 let d:=w.ks.headD dE
 bif Nat.beq w.k 1 then EZ P md pre ns tab s w.nm w.as w.a w.sc t.pos false else bif Nat.beq (Lz d).t 6 then
  let n:=(Lz d).ks.length / 2
  let l:=EY P s.k (((Lz d).ks.take n).zip ((Lz d).ks.drop n))
  let k:=s.k+3*l.length
  let s:=(s.al (Cq l l.length)).up ns (th (NY P (Lz (w.ks.tail.headD dE)).id k (.ref s.n)))
  ⟨s.T,s.n,k+1⟩
 else s
noncomputable def HE(a:Nat)(nm:Zs)(bs mro:List Value)(k k':Nat)(bt:Value)(nw:String):Obj:=
 ⟨.type "type",none,.cls { name:=nm,bases:=bs,mro:=.ref a::mro,ns:=a - 1,qualname:=nm,subclasses:=[]},#[bif bt==.none then none else some bt,none,some (sv nm k),some (sv nm k'),some (.builtin nw),some (.bool true)]⟩
noncomputable def GC(v:Value):Obj->Obj
 | ⟨c,d,.cls x,s⟩=>⟨c,d,.cls { x with subclasses:=x.subclasses++[v]},s⟩ | o=>o
noncomputable def Ha:Option Obj->List Value
 | some ⟨_,_,.cls x,_⟩=>x.mro | _=>[]
noncomputable def EQ(x:Zs):Option Obj->Value
 | some ⟨_,_,.dict es _,_⟩=>((es.toList.find? λe=>match e.key with | .str y _=>x==y | _=>false).map (·.val)).getD .none | _=>.none
noncomputable def Er(x:String)(a k:Nat)(g h:Value):Obj:=lI (.type "getset_descriptor") [sv (PySem.Str.ofString x) k,.ref a,g,h]
noncomputable def HD(P:Params)(md:Value)(s:Lx)(nm:Zs)(bs:List Expr)(b:List Stmt)(sa:List Zs)(p:Pos):Lx:=
 let bv:Value:=match bs with
  | [b]=>(match EQ (Lz b).id (s.T.get 3) with | .none=>.type (Lz b).id.toString | v=>v)
  | _=>.type "object"
 let isR:Bool:=match bv with | .ref _=>true | _=>false
 let isX:Bool:=match bv with | .type x=>x == "Exception" | _=>false
 let ba:Nat:=match bv with | .ref x=>x | _=>0
 let mro:List Value:=bif isR then Ha (s.T.get ba) else bif isX then [.type "Exception",.type "BaseException",.type "object"] else [.type "object"]
 let nw:=bif mro.any (·==.type "Exception") then "Exception.__new__" else "object.__new__"
 let a:=s.n+1
 let k:=s.k
 let s:=s.al (kD (bif bs.isEmpty then [] else [bv]))
 let e1:=NY P "__module__" (k+7) md
 let e2:=NY P "__qualname__" (k+9) (sv nm (k+8))
 let e3:=NY P "__firstlineno__" (k+11) (.int p.line (k+10))
 let s:=(s.QX [lI (.type "builtin_function_or_method") [.builtin "type.__prepare__",.type "type"],Cq [e1,e2,e3] 3,kD [],lI .none [],Cs nm nm (k+2) (a+2) p 0 0 false (a+3) [.none,.none,.none] (k+5),
  ⟨.type "frame",none,.plain,#[some (.ref (a+4)),some (.ref 3),some (.ref (a+1)),none,some md,none,some (.ref 0)]⟩]).up 12 (Fx [iv p.line,iv p.col,.ref (a+4)])
 let s:=b.foldl (Hc P md (nm ++ ".") (a+1) (a+3)) ⟨s.T,s.n,k+12⟩
 let k₂:=s.k+sa.length
 let t:=s.n
 let c:=t+2
 let e4:=NY P "__static_attributes__" k₂ (.ref t)
 let s:=(s.al (kD (wO s.k sa))).up (a+1) (th e4)
 let ms:=match s.T.get (a+1) with | some ⟨_,_,.dict es _,_⟩=>es.toList | _=>[]
 let gs:=bif isR then [] else bif isX then [("__weakref__",Value.builtin "ExceptionGroup.__weakref__",Value.none)] else [("__dict__",Value.builtin "function.__dict__",Value.builtin "function.__dict__#set"),("__weakref__",Value.builtin "ExceptionGroup.__weakref__",Value.none)]
 let g:=gs.length
 let Pm:=k₂+1+2*g
 let s:=s.QX ([Cq (e1::ms.tail.tail++(gs.zipIdx.map λq=>NY P (PySem.Str.ofString q.1.1) (k₂+2+2*q.2) (.ref (c+1+q.2)))++[NY P "__doc__" Pm .none]) (2+g),
  HE c nm [bv] mro k (k+8) (bif bs.isEmpty then .none else .ref (a - 1)) nw]++(gs.zipIdx.map λq=>Er q.1.1 c (k₂+1+2*q.2) q.1.2.1 q.1.2.2)++
  [lI (.type "super") [.ref c,.ref c,.ref c],lI (.type "builtin_function_or_method") [.builtin "object.__init_subclass__",.ref c]])
 let s:=bif isR then s.up ba (GC (.ref c)) else s
 let s:=bif isX then s.up 2 λ_=>⟨.none,none,.dict #[NY P "type.__subclasses__.Exception.0" (Pm+1) (iv c),NY P "type.__subclasses__.Exception.n" (Pm+2) (iv 1)] 2,#[]⟩ else s
 let k₄:=Pm+(bif isX then 4 else 2)
 let s:=s.up 3 (th (NY P nm k₄ (.ref c)))
 ⟨s.T,s.n,k₄+1⟩
noncomputable def Dm(v:Value):Obj->Obj
 | ⟨c,d,.dict es n,s⟩=>⟨c,d,.dict (match es.toList with | e::r=>({ e with val:=v}::r).toArray | []=>es) n,s⟩ | o=>o
noncomputable def cTx(e:Expr):Zs:=match (Lz e).c with | .str x=>x | _ => ""
noncomputable def He(P:Params)(s:Lx)(nm:Zs)(l:List Expr):Lx:=
 let s':=(s.al ⟨.type "list",none,.seq (wO s.k (l.map cTx)).toArray 0,#[]⟩).up 3 (th (NY P nm (s.k+l.length) (.ref s.n)))
 ⟨s'.T,s'.n,s.k+l.length+1⟩
noncomputable def GA(P:Params)(s:Lx)(t:Stmt):Lx:=
 let w:=Qr t
 let m:=EQ "__name__" (s.T.get 3)
 bif Nat.beq w.k 1 then EZ P m "" 3 12 s w.nm w.as w.a w.sc t.pos (w.nm == "_law_scalar" || w.nm == "law") else bif Nat.beq w.k 2 then HD P m s w.nm w.ks w.a w.sa t.pos else
  match (Lz (w.ks.headD dE)).c with
  | .str x=>⟨s.T.set 3 (Dm (sv x s.k)),s.n,s.k+2⟩
  | _=>bif (Lz (w.ks.headD dE)).ks.isEmpty then s else He P s (Lz (w.ks.tail.headD dE)).id (Lz (w.ks.headD dE)).ks
noncomputable def Br(l:List Obj):Lx:=(⟨.nil,0,0⟩:Lx).QX l
noncomputable def Ff(P:Params):Lx:=
 let s:=Br (boot_heap P).objs.toList
 let s:=s.QX [kD [],lI .none [],Cs "<module>" "<module>" 182 11 ⟨1,0,0,0⟩ 0 0 false 12 [.none,.none,.none] 185,⟨.type "frame",none,.plain,#[some (.ref 13),some (.ref 3),some (.ref 3),none,some (sv "__main__" 164),none,some (.ref 0)]⟩]
 ⟨s.T,s.n,187⟩
noncomputable abbrev pw:Program:=PySem.Challenge.pw_te0050_04
noncomputable def vM:List Stmt:=behindTheImports pw
noncomputable def ent:Env:={ scope:=pw.main.scope,locals:=mainNs,globals:=mainNs,cells:=[],code:=.ref 13,frame:=some 14}
noncomputable def zP:Pos:=⟨0,0,0,0⟩
noncomputable abbrev PJ:Code:=.body vM ent
noncomputable abbrev mB:Option Value:=some (.ref 6)
noncomputable def Qx(a k:Nat):List Stmt:=(vM.drop a).take k
noncomputable def f8(i:Nat)(P:Params):Lx:=(vM.take i).foldl (GA P) (Ff P)
noncomputable def O6(s:Lx)(os:OsState):SharedT:=⟨s.T,s.n,{},Array.mk [],boot_drawn,s.k,os⟩
noncomputable abbrev seg:=PySem.W.Fast.tw10110043849684766642
theorem Bf:@segRunT=@seg:=PySem.W.Fast.te10110043849684766642
noncomputable abbrev fk(w:World)(a k n:Nat)(p p':Pos):Prop:=∀os,segRunT treeTable pw w 11 mB 1 n (O6 (f8 a w.params) os) (piecesOf (Qx a k) ent PJ p [topFrame zP])=some (.next,O6 (f8 (a+k) w.params) os,PJ,p')
theorem dd{w:World}{a k n:Nat}{p p':Pos}(h:(λos=>seg treeTable pw w 11 mB 1 n (O6 (f8 a w.params) os) (piecesOf (Qx a k) ent PJ p [topFrame zP]))=λos=>some (.next,O6 (f8 (a+k) w.params) os,PJ,p')):fk w a k n p p':=λos=>by
 rw[Bf];exact congrFun h os
theorem pc1(w:World):fk w 0 8 1300 zP ⟨31,0,32,8⟩:=dd (by kernel_rfl)
theorem pc2(w:World):fk w 8 8 2000 ⟨31,0,32,8⟩ ⟨69,0,70,8⟩:=dd (by kernel_rfl)
theorem pc3(w:World):fk w 16 5 1000 ⟨69,0,70,8⟩ ⟨78,0,88,38⟩:=dd (by kernel_rfl)
theorem G7(w:World):fk (w.withFollow "special-get-raises" false) 21 1 2500 ⟨78,0,88,38⟩ ⟨89,0,962,20⟩:=dd (by kernel_rfl)
theorem G6(w:World):fk (w.withFollow "special-get-raises" true) 21 1 2500 ⟨78,0,88,38⟩ ⟨89,0,962,20⟩:=dd (by kernel_rfl)
theorem pc4(w:World):fk w 21 1 2500 ⟨78,0,88,38⟩ ⟨89,0,962,20⟩:=byRow2 "special-get-raises" (P:=λw=>fk w 21 1 2500 ⟨78,0,88,38⟩ ⟨89,0,962,20⟩) G7 G6 w
theorem pc5(w:World):fk w 22 12 900 ⟨89,0,962,20⟩ ⟨1026,0,1060,98⟩:=dd (by kernel_rfl)
theorem G4(w:World)(os:OsState):topGo treeTable pw w 11 mB 12 ⟨boot_heap w.params,Array.mk [],boot_drawn,boot_toks,os⟩ (topStub pw)=some ((O6 (f8 0 w.params) os).abs,⟨denote treeTable PJ,PJ,zP,[topFrame zP]⟩):=by kernel_rfl
theorem HK(w:World)(os:OsState):segRun treeTable pw w 11 mB 1 1 (O6 (f8 0 w.params) os).abs (blockOf vM ent PJ zP [topFrame zP])=some (.next,(O6 (f8 0 w.params) os).abs,PJ,zP):=by kernel_rfl
theorem Hv(w:World)(os:OsState):topRun treeTable pw w 11 mB 2 (O6 (f8 34 w.params) os).abs ⟨doneF .next,PJ,⟨1026,0,1060,98⟩,[topFrame zP]⟩=some (O6 (f8 34 w.params) os).abs:=by kernel_rfl
theorem HC:vM=Qx 0 8++(Qx 8 8++(Qx 16 5++(Qx 21 1++(Qx 22 12++[])))):=by kernel_rfl
noncomputable def eQ(P:Params):Heap:=absHeap (f8 34 P).T 836 {}
theorem G0(w:World)(os:OsState):topRun treeTable pw w 11 mB (12+(1+(1300+(2000+(1000+(2500+(900+2))))))) ⟨boot_heap w.params,Array.mk [],boot_drawn,boot_toks,os⟩ (topStub pw)=some (O6 (f8 34 w.params) os).abs:=by
 refine go_top (G4 w os) (piece_block (env:=ent) (HK w os) ?_)
 rw[HC]
 exact piece_app (segRun_of (pc1 w os)) (piece_app (segRun_of (pc2 w os)) (piece_app (segRun_of (pc3 w os)) (piece_app (segRun_of (pc4 w os)) (piece_app (segRun_of (pc5 w os)) (piece_nil (Hv w os))))))
theorem GZ(w:World)(os:OsState):topRun treeTable pw w 11 mB (12+(1+(1300+(2000+(1000+(2500+(900+2))))))) ⟨boot_heap w.params,Array.mk [],boot_drawn,boot_toks,os⟩ (topStub pw)=some ⟨eQ w.params,Array.mk [],boot_drawn,1419,os⟩:=
 (G0 w os).trans (by kernel_rfl)
theorem DF:∀w:World,(fencedOpening treeTable pw w 20000).map (λs=>(s.heap,s.gens,s.drawn,s.toks))=some (boot_heap w.params,Array.mk [],boot_drawn,boot_toks):=
 boot_open (by kernel_rfl) (by kernel_rfl) λs=>by kernel_rfl
theorem Dk(w:World):((boot_heap w.params).isNs mainGlobals&&(Array.mk []:Array GenState).size==0,(boot_heap w.params).objs.size,(boot_heap w.params).nsMap mainGlobals "__annotations__")=(true,11,mB):=by kernel_rfl
noncomputable def Eh(t:Stmt):Bool:=Nat.beq (Qr t).k 1||Nat.beq (Qr t).k 2
noncomputable def vw:Program:={ pw with main:={ pw.main with body:=pw.main.body.filter Eh}}
noncomputable def loo:List Zs:=["Event", "NodeEvent", "CollectionStartEvent", "StreamStartEvent", "DocumentStartEvent", "DocumentEndEvent", "ScalarEvent", "Emitter", "_law_PIECES"]
noncomputable def XtF(s:Shared):Bool:=xlAt vw [] s&&recOk [] s
noncomputable abbrev Kc:=PySem.W.Fast.tw4187177175401517315
theorem Bp:@openSeen=@Kc:=PySem.W.Fast.te4187177175401517315
theorem GY(w:World)(os:OsState):openSeen vw loo (importedModules pw.main.body) XtF true ⟨eQ w.params,Array.mk [],boot_drawn,1419,os⟩=openGood vw loo:=by
 rw[Bp];kernel_rfl
theorem Dh(w:World)(os:OsState):(staticsOk (importedModules pw.main.body) (boot_heap w.params) (eQ w.params)&&namesBound pw (eQ w.params)&&gensDone ⟨eQ w.params,Array.mk [],boot_drawn,1419,os⟩&&laidKept (boot_heap w.params) (eQ w.params))=true:=by kernel_rfl
theorem DX:LeftO pw vw loo XtF (λs=>s.heap) (λw=>eQ w.params) 20000:=LeftO.of_pieces DF Dk GZ (by kernel_rfl) λw=>funext λos=>by rw[Dh,GY]
noncomputable def okO(o:Obj):Bool:=bif o.cls==.none then false else match o.data with | .freed=>false | _=>true
noncomputable def kF(P:Params):Frag:=(List.range 836).filterMap λa=>((f8 34 P).T.get a).bind λo=>bif okO o then some (a,o) else none
theorem oP{α:Type}{a:Nat}{o:α}:∀{l:List (Nat×α)},l.lookup a=some o->(a,o)∈l
 | (b,x)::r,h=>by
  rw[List.lookup_cons]at h
  cases e:a==b with
  | true=>rw[e]at h;obtain rfl:=ke h;obtain rfl:=lf e;exact .head _
  | false=>rw[e]at h;exact .tail _ (oP h)
theorem Ea(P:Params):(kF P).In (eQ P):=λa o h=>by
 obtain⟨b,hb,h⟩:=List.mem_filterMap.mp (oP h)
 obtain⟨x,hx,h⟩:=Option.bind_eq_some_iff.mp h
 cases e:okO x with
 | false=>rw[e]at h;cases h
 | true=>
  rw[e]at h;cases h
  refine(abs_get (List.mem_range.mp hb) hx).trans ?_
  obtain⟨c,d,dt,sl⟩:=o
  cases dt <;> first | rfl | (exfalso;revert e;unfold okO;cases (Value.none==c:Bool) <;> simp_all)
theorem Zq0{a b:Bool}(h:a=true)(k:b=true):(a&&b)=true:=by rw[h,k];rfl
noncomputable abbrev Zq1:=PySem.Challenge.rw_te0050_04.prog
theorem Zq2:PySem.W.Fast.tw8326940854005059898 { strict:=!PySem.W.R.allR (PySem.W.Fast.tw5923862056798008813 Zq1.main.body) (PySem.W.Fast.tw3471404346716756564 PySem.W.Fast.tw17691160309236699985),foot:=none,bare:=PySem.W.R.filterR (PySem.W.Fast.tw13343964577679436407 Zq1 Zq1.main.body) ["vars","dir","locals"] } Zq1.main.body=true:=by kernel_rfl
theorem Zq3:PySem.W.Fast.tw8377067652309620493 Zq1=true:=by kernel_rfl
theorem Zq4:(PySem.W.Fast.tw17119622794617984870 Zq1 Zq1.main.body fun _ n=>PySem.W.Fast.tw17868728402115742887 n)=true:=by kernel_rfl
theorem Zq5:PySem.W.Fast.tw12908688711261696721 Zq1=true:=Zq0 (Zq0 (Zq0 (Zq0 (by kernel_rfl) Zq3) (by kernel_rfl)) Zq2) Zq4
theorem Zq6:PySem.W.Fast.tw2436336058641802641 (PySem.W.Fast.tw2368527892694137696 PySem.Challenge.rw_te0050_04)=true:=by
 iterate 13 refine Zq0 ?_ (by kernel_rfl)
 exact Zq5
theorem Dn:PySem.Challenge.rw_te0050_04.wellSaid=true:=by
 rw[show @OpenLaw.wellSaid=@PySem.W.Fast.tw9446332074065402090 from PySem.W.Fast.te9446332074065402090]
 iterate 18 refine Zq0 ?_ (by kernel_rfl)
 exact Zq0 (Zq0 Zq6 (by kernel_rfl)) (by kernel_rfl)
end
inductive X where
 | v (i:Nat) | c (n:Nat) | a (x y:X) | m (k:Nat) (x:X) | w (x:X) (k:Nat)
noncomputable def lz(l:List Nat)(i:Nat):Nat:=Nat.rec (motive:=λJ=>List Nat->Nat) (λl=>l.headD 0) (λJ f l=>f l.tail) i l
noncomputable def X.den(l:List Nat):X->Nat
 | .v i=>lz l i
 | .c n=>n
 | .a x y=>x.den l+y.den l
 | .m k x=>k*x.den l
 | .w x k=>x.den l*k
noncomputable def nU:List Nat->List Nat->List Nat
 | [],l=>l
 | a::r,l=>(a+l.headD 0)::nU r l.tail
noncomputable def tF:Nat->List Nat
 | 0=>[1]
 | n+1=>0::tF n
noncomputable def dh:List Nat->List Nat->Nat
 | [],_=>0
 | a::r,l=>a*l.headD 0+dh r l.tail
noncomputable def X.nf:X->List Nat
 | .v i=>0::tF i
 | .c n=>[n]
 | .a x y=>nU x.nf y.nf
 | .m k x=>x.nf.map (k*·)
 | .w x k=>x.nf.map (k*·)
theorem jZ:∀a b l,dh (nU a b) l=dh a l+dh b l
 | [],b,l=>(Nat.zero_add _).symm
 | a::r,[],l=>by show(a+0)*_+dh (nU r []) _=_;rw[jZ];rfl
 | a::r,b::q,l=>by show(a+b)*_+dh (nU r q) _=_;rw[jZ,Nat.add_mul,Nat.add_add_add_comm];rfl
theorem nG(k:Nat):∀a l,dh (a.map (k*·)) l=k*dh a l
 | [],l=>rfl
 | a::r,l=>by show k*a*_+dh (r.map _) _=k*(a*_+dh r _);rw[nG,Nat.mul_add,Nat.mul_assoc]
theorem vb:∀i l,dh (tF i) l=lz l i
 | 0,l=>Nat.one_mul _
 | i+1,l=>by show 0*_+dh (tF i) _=_;rw[vb,Nat.zero_mul,Nat.zero_add];rfl
theorem fB(l:List Nat):∀x:X,dh x.nf (1::l)=x.den l
 | .v i=>by show 0*1+dh (tF i) l=_;rw[vb,Nat.zero_mul,Nat.zero_add];rfl
 | .c n=>Nat.mul_one n
 | .a x y=>by show dh (nU _ _) _=x.den l+y.den l;rw[jZ,fB l x,fB l y]
 | .m k x=>by show dh (x.nf.map _) _=k*x.den l;rw[nG,fB l x]
 | .w x k=>by show dh (x.nf.map _) _=x.den l*k;rw[nG,fB l x,Nat.mul_comm]
noncomputable def geL:List Nat->List Nat->Bool
 | _,[]=>true
 | a,b::q=>Nat.ble b (a.headD 0)&&geL a.tail q
theorem uG:∀a b l,geL a b=true->dh b l<=dh a l
 | _,[],l,_=>mi _
 | [],b::q,l,h=>by
  have:=uG [] q l.tail (ma h).2
  rw[show b=0 from Nat.le_zero.mp (lm (ma h).1)]
  show 0*_+dh q _<=0
  rw[Nat.zero_mul,Nat.zero_add];exact this
 | a::r,b::q,l,h=>Nat.add_le_add (Nat.mul_le_mul_right _ (lm (ma h).1)) (uG r q l.tail (ma h).2)
abbrev Cn:=Nat×X×X
noncomputable def imp(l:List Nat)(G:Prop)(cs:List Cn):Prop:=cs.foldr (λc g=>c.2.1.den l<=c.2.2.den l->g) G
noncomputable def A4(cs:List Cn):X×X:=cs.foldr (λc s=>(.a (.m c.1 c.2.1) s.1,.a (.m c.1 c.2.2) s.2)) (.c 0,.c 0)
noncomputable def bad(s:X×X):Bool:=geL s.1.nf (nU s.2.nf [1])
theorem ua{l:List Nat}{G:Prop}:∀{cs:List Cn},((A4 cs).1.den l<=(A4 cs).2.den l->G)->imp l G cs
 | [],h=>h (mf _)
 | c::cs,h=>λhc=>ua (cs:=cs) λhs=>h (Nat.add_le_add (Nat.mul_le_mul_left _ hc) hs)
theorem CA{l:List Nat}{s:X×X}(hb:bad s=true)(h:s.1.den l<=s.2.den l):False:=by
 have:=uG _ _ (1::l) hb
 rw[jZ,fB,fB]at this
 exact Nat.not_succ_le_self _ (kg this h)
theorem L2(l:List Nat)(k:Nat)(x y:X)(cs:List Cn)(h:bad (A4 ((k,.a y (.c 1),x)::cs))=true):imp l (x.den l<=y.den l) cs:=
 ua λhs=>Nat.le_of_not_lt λhn=>CA h (Nat.add_le_add (Nat.mul_le_mul_left _ hn) hs)
noncomputable abbrev Y0:X:=.v 0
noncomputable abbrev Y1:X:=.v 1
noncomputable abbrev Y2:X:=.v 2
noncomputable abbrev Y3:X:=.v 3
noncomputable abbrev Y4:X:=.v 4
noncomputable abbrev Y5:X:=.v 5
theorem nS{α:Type}{G:Prop}{a:α}(h:none=some a):G:=nomatch h
theorem JA{G:Prop}(h:false=true):G:=nomatch h
theorem KJ{p:Prop}(h:¬ p->False):p:=Classical.byContradiction h
theorem fo{d k:Nat}(h:k<=d):∃d',d=d'+k:=⟨d - k,(Nat.sub_add_cancel h).symm⟩
section
open PySem
abbrev Tx:=List Nat
noncomputable abbrev yT:Tx:=[116,97,103,58,121,97,109,108,46,111,114,103,44,50,48,48,50,58]
set_option genCtorIdx true in
inductive Nr | add | sub | mul | mod | fdiv
set_option genCtorIdx true in
inductive Nq | lt | le | gt | ge | eq | ne | K2 | Ow
inductive B | nul | bool(b:Bool) | int(i:Int) | str(s:Tx) | bb(a b:Bool)
inductive V | uu | b(x:B) | rc(c:Nat)(f:List (Nat×B)) | IA(k i:Nat) | ref(i:Nat) | em(j i:Nat) | NL | Ka(a r:V)
set_option genCtorIdx true in
inductive Ob | lst(l:List V) | LH(l:List (Tx×Tx)) | ins(c:Nat)(f:List (Nat×V))
structure St where
 cur:List Ob
 Jf:List (List Ob)
inductive O0 | stuck | cst(x:B) | neg(i:Nat) | loc(n:Nat) | NF
inductive O1 | not | isNone(y:Bool) | Jn(n:Nat) | len | ord | NM | Kp(tup:Bool)(cs:List Nat) | keys | join | MJ(t:Tx) | pop(fr:Bool) | Lh(k:Nat) | LJ | O9
set_option genCtorIdx true in
inductive Fm2 | ss
inductive O2 | cmp(o:Nq) | bin(o:Nr) | idx | Nj(t:Fm2) | starts | K3 | pair | inL
inductive E
 | n0 (o:O0) | u1 (o:O1) (a:E) | b2 (o:O2) (a b:E)
 | slice (a lo hi:E) | and (a b:E) | or (a b:E) | IF (t a b:E) | JX (o p:Nq) (a b c:E)
 | new (c:Nat) (as:E) | call (k:Nat) (a as:E) | KI (n:Nat) (a:E) | Jj (k:Nat) (as:E) | Kr (k:Nat) (a as:E) | Lj (k q:Nat) (as:E)
 | lst (as:E) | comp (s b:E) | OP (a:E) (k:Nat)
 | nil | pos (e r:E) | kw (k:Nat) (e r:E)
inductive S
 | nil | cons (s r:S) | stuck | pass | expr (e:E) | asg (ns:List Nat) (e:E) | N0 (k:Nat) (s b:E) | IP (n:Nat) (o e:E)
 | J1 (n:Nat) (o:Nr) (e:E) | Ke (n:Nat) (p:Nr) (o e:E) | MM (n:Nat) (e:E) | app (o e:E)
 | IF (t:E) (a b:S) | while (t:E) (b:S) | for (n:Nat) (e:E) (b:S) | forR (n:Nat) (e:E) (b:S) | ret (e:E) | Mc
noncomputable def ag(b:Bool)(x:α):Option α:=bif b then some x else none
noncomputable def Nl:V->Option B | .b x=>some x | _=>none
noncomputable def B.str?:B->Option Tx | .str s=>some s | _=>none
noncomputable def B.int?:B->Option Int | .int s=>some s | _=>none
noncomputable def B.bb?:B->Option (Bool×Bool) | .bb a b=>some (a,b) | _=>none
noncomputable def B.isNul:B->Bool | .nul=>true | _=>false
noncomputable def one:Tx->Option Nat | [c]=>some c | _=>none
noncomputable def aQ(v:V):Option Tx:=(Nl v).bind B.str?
noncomputable def vW(v:V):Option Nat:=(aQ v).bind one
noncomputable def dG(v:V):Option Int:=(Nl v).bind B.int?
noncomputable def Fv(v:V):Option (Bool×Bool):=(Nl v).bind B.bb?
noncomputable def jh:V->Option Nat | .ref i=>some i | _=>none
noncomputable def nO:V->Option (Nat×List (Nat×B)) | .rc c f=>some (c,f) | _=>none
noncomputable def CH:V->Option (Nat×Nat) | .em j i=>some (j,i) | _=>none
noncomputable def j9:V->Option (Nat×Nat) | .IA j i=>some (j,i) | _=>none
noncomputable def ab:V->Bool | .uu=>true | _=>false
noncomputable def aU(v:V):Bool:=(Nl v).any B.isNul
noncomputable def l8:Ob->Option (List V) | .lst l=>some l | _=>none
noncomputable def mA:Ob->Option (List (Tx×Tx)) | .LH l=>some l | _=>none
noncomputable def mz:Ob->Option (Nat×List (Nat×V)) | .ins c f=>some (c,f) | _=>none
noncomputable def N4:V->Bool
 | .b _=>true | .rc _ _=>true | .NL=>true | .Ka a r=>N4 a&&N4 r | _=>false
noncomputable def IU:Nat:=2 ^ 24
noncomputable def alloc(st:St)(o:Ob):V×St:=(.ref st.cur.length,{ st with cur:=st.cur++[o]})
noncomputable def dK(st:St)(i:Nat)(o:Ob):St:={ st with cur:=st.cur.set i o}
noncomputable def aP(st:St)(v:V):Option (Nat×List V):=(jh v).bind λi=>(st.cur[i]?).bind λo=>(l8 o).map λl=>(i,l)
noncomputable def fZ(st:St)(v:V):Option (Nat×List (Tx×Tx)):=(jh v).bind λi=>(st.cur[i]?).bind λo=>(mA o).map λl=>(i,l)
noncomputable def cC(st:St)(v:V):Option (Nat×Nat×List (Nat×V)):=(jh v).bind λi=>(st.cur[i]?).bind λo=>(mz o).map λl=>(i,l)
noncomputable def Ls(st:St)(v:V):Option ((Nat×Nat)×Nat×List (Nat×V)):=(CH v).bind λp=>(st.Jf[p.1]?).bind λR=>(R[p.2]?).bind λo=>(mz o).map λl=>(p,l)
noncomputable def B.truth:B->Bool
 | .nul=>false | .bool b=>b | .int i=>i != 0 | .str s=>s != [] | .bb _ _=>true
noncomputable def truth(st:St)(v:V):Option Bool:=
 ((Nl v).map B.truth).or (((nO v).map λJ=>true).or (((aP st v).map λp=>!p.2.isEmpty).or ((fZ st v).map λp=>!p.2.isEmpty)))
noncomputable def Lm(a b:Tx):Bool:=decide (a < b)
noncomputable def E9(o:Nq)(a b:Int):Option Bool:=match o with
 | .lt=>some (decide (a < b)) | .le=>some (decide (a<=b)) | .gt=>some (decide (b < a)) | .ge=>some (decide (b<=a))
 | .eq=>some (a==b) | .ne=>some (a != b) | _=>none
noncomputable def E7(o:Nq)(a b:Tx):Option Bool:=match o with
 | .lt=>some (Lm a b) | .le=>some (!Lm b a) | .eq=>some (a==b) | .ne=>some (a != b)
 | .K2=>(one a).map λc=>decide (c∈b) | .Ow=>(one a).map λc=>!decide (c∈b) | _=>none
noncomputable def E8(o:Nq)(x y:V):Option Bool:=match o with
 | .eq=>ag ((aU x&&(aQ y).isSome)||((aQ x).isSome&&aU y)) false
 | .ne=>ag ((aU x&&(aQ y).isSome)||((aQ x).isSome&&aU y)) true
 | _=>none
noncomputable def Qk(o:Nq)(x y:V):Option Bool:=
 ((dG x).bind λa=>(dG y).bind λb=>E9 o a b).or (((aQ x).bind λa=>(aQ y).bind λb=>E7 o a b).or (E8 o x y))
noncomputable def HI(o:Nr)(a b:Int):Option V:=match o with
 | .add=>some (.b (.int (a+b)))
 | .sub=>some (.b (.int (a - b)))
 | .mod=>ag (decide (0 < b)) (.b (.int (a.fmod b)))
 | .fdiv=>ag (decide (0 < b)&&decide (b<=1000000)) (.b (.int (a.fdiv b)))
 | .mul=>ag (a==2||(a==6||b==2)) (.b (.int (a*b)))
noncomputable def y8(o:Nr)(a b:Tx):Option V:=match o with
 | .add=>ag (decide (a.length+b.length<=IU)) (.b (.str (a++b)))
 | _=>none
noncomputable def y9(o:Nr)(a:Tx)(n:Int):Option V:=match o with
 | .mul=>ag (!a.isEmpty&&decide (-1000000<=n)&&decide (a.length*n.toNat<=IU)) (.b (.str (List.replicate n.toNat a).flatten))
 | _=>none
noncomputable def bop(o:Nr)(x y:V):Option V:=
 ((dG x).bind λa=>(dG y).bind λb=>HI o a b).or (((aQ x).bind λa=>(aQ y).bind λb=>y8 o a b).or ((aQ x).bind λa=>(dG y).bind λb=>y9 o a b))
noncomputable def HH(o:Nr)(x y:V)(st:St):Option (V×St):=
 ((bop o x y).map λv=>(v,st)).or (match o with
  | .add=>(aP st x).bind λp=>(aP st y).bind λq=>ag (decide (p.2.length+q.2.length<=IU)) (alloc st (.lst (p.2++q.2)))
  | _=>none)
noncomputable def de(l:List α)(i:Int):Option α:=if 0<=i then l[i.toNat]? else if 0<=i+l.length then l[(i+l.length).toNat]? else none
noncomputable def Je(n:Nat)(i:Int):Nat:=if i < 0 then(i+n).toNat else min i.toNat n
noncomputable def Pa(n:Nat):Option Int->Nat
 | some i=>Je n i
 | none=>0
noncomputable def QL(n:Nat):Option Int->Nat
 | some i=>Je n i
 | none=>n
noncomputable def ar(l:List α)(lo hi:Option Int):List α:=(l.drop (Pa l.length lo)).take (QL l.length hi - Pa l.length lo)
noncomputable def B.LC:B->Option (Option Int) | .nul=>some none | .int i=>some (some i) | _=>none
noncomputable def LC(v:V):Option (Option Int):=(Nl v).bind B.LC
noncomputable def qM(x:Tx):List Tx->List Tx
 | []=>[x]
 | y::r=>if Lm y x then y::qM x r else x::y::r
noncomputable def iO(l:List Tx):List Tx:=l.foldr qM []
noncomputable def bF(l:List Tx):List V:=l.map λt=>.b (.str t)
noncomputable def j2:List (Nat×Nat):=[(0,48),(7,97),(8,98),(9,116),(10,110),(11,118),(12,102),(13,114),(27,101),(34,34),(92,92),(133,78),(160,95),(8232,76),(8233,80)]
noncomputable def er(c:Nat):Option Tx:=(j2.lookup c).map λd=>[d]
noncomputable def fN(t:Tx)(i:Int):Option Tx:=bif t==[92,120,37,48,50,88]&&i==233 then some [92,120,69,57] else bif t==[92,85,37,48,56,88]&&i==128512 then some [92,85,48,48,48,49,70,54,48,48] else none
noncomputable def Ao(t:Tx)(v:V):Option Tx:=(dG v).bind (fN t)
noncomputable def Eu(t:Fm2)(x y:V):Option Tx:=match t with
 | .ss=>(aQ x).bind λa=>(aQ y).bind λb=>ag (decide (a.length<=1000)&&decide (b.length<=1000)) (a++b)
noncomputable def aO:List (Tx×Tx):=[([33],[33]),(yT,[33,33])]
noncomputable def iz(n:Nat)(v:V):List (Nat×V)->List (Nat×V)
 | []=>[(n,v)]
 | p::r=>bif p.1==n then(n,v)::r else p::iz n v r
structure Fn where
 name:String
 slots:List String
 Jg:Nat
 dflt:List B
 own:Nat
 body:S
 cl:Bool
noncomputable def ir(f:Fn)(pos:List V)(kw:List (Nat×V))(i:Nat):Option V:=
 (pos[i]?).or ((kw.lookup i).or (bif decide (f.Jg<=i+f.dflt.length) then(f.dflt[i+f.dflt.length - f.Jg]?).map .b else none))
noncomputable def dT:List Nat->Bool
 | []=>true
 | x::r=>!r.contains x&&dT r
noncomputable def aM(f:Fn)(pos:List V)(kw:List (Nat×V)):Option (List V):=
 bif decide (pos.length<=f.Jg)&&kw.all (λp=>decide (pos.length<=p.1)&&decide (p.1 < f.Jg))&&dT (kw.map (·.1)) then(List.range f.Jg).mapM (ir f pos kw) else none
structure Cx where
 fns:List Fn
 Jx:List (Fn×List Nat)
 sup:List (List Nat)
 IG:Nat->List V->St->Option (V×St)
 wf:Nat
 NF:V
noncomputable def sd(c:Cx)(a b:Nat):Bool:=(c.sup[a]?).any λl=>l.contains b
noncomputable def Ai(j:Nat):V->Option V
 | .b x=>some (.b x) | .rc a f=>some (.rc a f) | .ref i=>some (.em j i) | _=>none
noncomputable def f0(c:Cx)(o:O0)(l:List V)(st:St):Option (V×St):=match o with
 | .stuck=>none
 | .cst v=>some (.b v,st)
 | .neg i=>some (.b (.int (-(i:Int))),st)
 | .loc n=>l[n]?.bind λv=>ag (!ab v) (v,st)
 | .NF=>ag (!ab c.NF) (c.NF,st)
noncomputable def ia(n:Nat)(v:V)(st:St):Option V:=
 ((nO v).bind λp=>(p.2.lookup n).map .b).or (((cC st v).bind λp=>p.2.2.lookup n).or ((Ls st v).bind λp=>(p.2.2.lookup n).bind (Ai p.1.1)))
noncomputable def dz:List Tx:=[[97],[98,32,99],[10],[100,32,101,32,102],[32,103],[],[120,58,32,121],[45,32,122],[105,116,39,115],[104,10,105],[10,10],[106,107,108,109,32,110,111,112],[9],[113,32],[35,114],[233,32,115],[8232],[128512],[7,32,116]]
noncomputable def gC:V->Option (List V)
 | .NL=>some [] | .Ka a r=>(gC r).map λl=>a::l | _=>none
noncomputable def f1(c:Cx)(o:O1)(v:V)(st:St):Option (V×St):=match o with
 | .not=>(truth st v).map λb=>(.b (.bool !b),st)
 | .isNone y=>ag (!ab v) (.b (.bool (bif aU v then y else !y)),st)
 | .Jn n=>(ia n v st).map λx=>(x,st)
 | .len=>((aQ v).map λs=>(.b (.int s.length),st)).or ((aP st v).map λp=>(.b (.int p.2.length),st))
 | .ord=>(vW v).map λ(c:Nat)=>(.b (.int (c:Int)),st)
 | .NM=>(dG v).bind λk=>ag (decide (0<=k)&&decide (k<=9)) (.b (.str [48+k.toNat]),st)
 | .Kp _ cs=>(nO v).map λp=>(.b (.bool (cs.any λk=>sd c p.1 k)),st)
 | .keys=>((fZ st v).map λp=>p.2).map λt=>alloc st (.lst (bF (iO (t.map (·.1)))))
 | .join=>(aP st v).bind λp=>(p.2.mapM aQ).bind λss=>ag (decide (ss.flatten.length<=IU)) (.b (.str ss.flatten),st)
 | .MJ t=>(Ao t v).map λs=>(.b (.str s),st)
 | .pop fr=>(aP st v).bind λp=>bif fr then p.2.head?.map λx=>(x,dK st p.1 (.lst p.2.tail)) else p.2.getLast?.map λx=>(x,dK st p.1 (.lst p.2.dropLast))
 | .Lh k=>(cC st v).bind λp=>ag (p.2.1==0&&(p.2.2.lookup k).isNone) (.IA k p.1,st)
 | .LJ=>(cC st v).bind λp=>ag (p.2.1==0&&(p.2.2.lookup 127).isNone) (alloc st (.LH aO))
 | .O9=>(dG v).bind λk=>ag (decide (0<=k)) () |>.bind λJ=>(dz[k.toNat]?).map λt=>(.b (.str t),st)
noncomputable def EP(x i:V)(st:St):Option V:=
 ((dG i).bind λk=>((aQ x).bind λs=>(de s k).map λz=>.b (.str [z])).or
  (((Fv x).bind λp=>if k=0 then some (.b (.bool p.1)) else ag (decide (k=1)) (.b (.bool p.2))).or ((aP st x).bind λp=>ag (decide (0<=k)) () |>.bind λJ=>p.2[k.toNat]?))).or
 ((aQ i).bind λk=>((fZ st x).map λp=>p.2).bind λt=>(t.lookup k).map λs=>.b (.str s))
noncomputable def B.bool?:B->Option Bool | .bool b=>some b | _=>none
noncomputable def eqB:B->B->Option Bool
 | .int a,.int b=>some (a==b) | .str a,.str b=>some (a==b) | .nul,.str _=>some false | _,_=>none
noncomputable def f2(o:O2)(x y:V)(st:St):Option (V×St):=match o with
 | .cmp o=>(Qk o x y).map λb=>(.b (.bool b),st)
 | .bin o=>HH o x y st
 | .idx=>(EP x y st).map λv=>(v,st)
 | .Nj t=>(Eu t x y).map λs=>(.b (.str s),st)
 | .starts=>(aQ x).bind λs=>(aQ y).map λt=>(.b (.bool (t.isPrefixOf s)),st)
 | .pair=>((Nl x).bind B.bool?).bind λa=>((Nl y).bind B.bool?).map λb=>(.b (.bb a b),st)
 | .inL=>(Nl x).bind λa=>(aP st y).bind λp=>(p.2.mapM λv=>(Nl v).bind (eqB a)).map λbs=>(.b (.bool (bs.any id)),st)
 | .K3=>(vW x).bind λc=>(cC st y).bind λp=>ag (p.2.1==0&&(p.2.2.lookup 126).isNone) (.b (.bool (er c).isSome),st)
noncomputable def AD:V->Option V | .Ka .uu r=>some r | _=>none
noncomputable def f3(a x y:V)(st:St):Option (V×St):=(LC x).bind λp=>(LC y).bind λq=>
 ((aQ a).map λs=>(.b (.str (ar s p q)),st)).or (((aP st a).map λl=>alloc st (.lst (ar l.2 p q))).or (((AD a).bind gC).map λl=>alloc st (.lst (ar l p q))))
noncomputable def mK:List V->V
 | []=>.NL
 | a::r=>.Ka a (mK r)
noncomputable def itemAt(v:V)(st:St)(i:Nat):Option (Option V):=
 ((aQ v).map λs=>(s[i]?).map λx=>.b (.str [x])).or ((aP st v).map λp=>p.2[i]?)
noncomputable def dY(n:Int)(_:St)(i:Nat):Option (Option V):=some (if (i:Int) < n then some (.b (.int i)) else none)
noncomputable def eg(it:St->Nat->Option (Option V))(b:V->St->Option (V×St)):Nat->Nat->St->List V->Option (List V×St)
 | 0,_,_,_=>none
 | n+1,i,st,acc=>(it st i).bind λo=>match o with
  | none=>ag (decide (acc.length<=IU)) (acc,st)
  | some x=>(b x st).bind λq=>ag (!ab q.1) () |>.bind λJ=>eg it b n (i+1) q.2 (acc++[q.1])
noncomputable def ya(c:Cx)(k:Nat)(v:V)(st:St):Option Fn:=(cC st v).bind λp=>(c.fns[k]?).bind λf=>ag (f.own==p.2.1&&(p.2.2.lookup k).isNone) f
noncomputable def uF(c:Cx)(k:Nat)(v:V)(st:St):Option (Fn×Nat×Nat):=(Ls st v).bind λp=>(c.fns[k]?).bind λf=>ag (f.own==p.2.1&&(p.2.2.lookup k).isNone) (f,p.1)
noncomputable def Fu(l:List V):Option (List B):=l.mapM Nl
noncomputable def okA(r:List V×List (Nat×V)):Bool:=r.1.all N4&&r.2.all λp=>N4 p.2
noncomputable def ce3(c:Cx)(k:Nat)(vs:List V)(f:Fn×Nat×Nat)(r:(List V×List (Nat×V))×St):Option (V×St):=(r.2.Jf[f.2.1]?).bind λR=>(c.IG k vs ⟨R,[]⟩).bind λq=>ag (N4 q.1&&q.2.Jf.isEmpty) (q.1,{ r.2 with Jf:=r.2.Jf.set f.2.1 q.2.cur})
noncomputable def ce2(c:Cx)(k:Nat)(f:Fn×Nat×Nat)(r:(List V×List (Nat×V))×St):Option (V×St):=(aM f.1 (.ref f.2.2::r.1.1) r.1.2).bind λvs=>ag (okA r.1) () |>.bind λJ=>ce3 c k vs f r
noncomputable def nw3(c:Cx)(q:Nat)(vs:List V)(w:V×St)(r:(List V×List (Nat×V))×St):Option (V×St):=(c.IG q vs ⟨w.2.cur++[.ins 0 []],[]⟩).bind λu=>ag (aU u.1&&u.2.Jf.isEmpty) (.em r.2.Jf.length w.2.cur.length,{ r.2 with Jf:=r.2.Jf++[u.2.cur]})
noncomputable def nw2(c:Cx)(q:Nat)(w:V×St)(r:(List V×List (Nat×V))×St):Option (V×St):=(c.fns[q]?).bind λf=>(aM f [.ref w.2.cur.length,.ref 0] r.1.2).bind λvs=>ag (okA r.1&&r.1.1.isEmpty) () |>.bind λJ=>nw3 c q vs w r
noncomputable def cv2(c:Cx)(o:V×St)(p:Nat×Nat×List (Nat×V))(m:Nat×Nat):Option (V×St):=(c.fns[m.1]?).bind λf=>(aM f [.ref m.2] []).bind λvs=>ag (p.2.1==0) () |>.bind λJ=>c.IG m.1 vs o.2
mutual
noncomputable def IK(c:Cx)(e:E)(l:List V)(st:St):Option (V×St):=match e with
 | .n0 o=>f0 c o l st
 | .u1 o a=>(IK c a l st).bind λr=>f1 c o r.1 r.2
 | .b2 o a b=>(IK c a l st).bind λr=>(IK c b l r.2).bind λq=>f2 o r.1 q.1 q.2
 | .slice a x y=>(IK c a l st).bind λr=>(IK c x l r.2).bind λp=>(IK c y l p.2).bind λq=>f3 r.1 p.1 q.1 q.2
 | .and a b=>(IK c a l st).bind λr=>(truth r.2 r.1).bind λt=>bif t then IK c b l r.2 else some r
 | .or a b=>(IK c a l st).bind λr=>(truth r.2 r.1).bind λt=>bif t then some r else IK c b l r.2
 | .IF t a b=>(IK c t l st).bind λr=>(truth r.2 r.1).bind λt=>bif t then IK c a l r.2 else IK c b l r.2
 | .JX o p a b d=>(IK c a l st).bind λr=>(IK c b l r.2).bind λq=>(Qk o r.1 q.1).bind λt=>
   bif t then(IK c d l q.2).bind λu=>(Qk p q.1 u.1).map λw=>(.b (.bool w),u.2) else some (.b (.bool false),q.2)
 | .new k as=>(Kq c as l st).bind λr=>(c.Jx[k]?).bind λq=>(aM q.1 (.uu::r.1.1) r.1.2).bind λvs=>(Fu vs.tail).map λbs=>(.rc k (q.2.zip bs),r.2)
 | .call k a as=>(IK c a l st).bind λo=>(ya c k o.1 o.2).bind λf=>(Kq c as l o.2).bind λr=>(aM f (o.1::r.1.1) r.1.2).bind λvs=>c.IG k vs r.2
 | .KI n a=>(IK c a l st).bind λo=>(cC o.2 o.1).bind λp=>(p.2.2.lookup n).bind λv=>(j9 v).bind λm=>cv2 c o p m
 | .Jj k as=>(Kq c as l st).bind λr=>(c.fns[k]?).bind λf=>(aM f r.1.1 r.1.2).bind λvs=>ag (f.own==2) () |>.bind λJ=>c.IG k vs r.2
 | .Kr k a as=>(IK c a l st).bind λo=>(uF c k o.1 o.2).bind λf=>(Kq c as l o.2).bind λr=>ce2 c k f r
 | .Lj k q as=>(c.fns[k]?).bind λg=>(aM g [.ref 0] []).bind λPY=>(c.IG k PY ⟨[.ins 1 []],[]⟩).bind λw=>ag (aU w.1&&w.2.Jf.isEmpty) () |>.bind λJ=>(Kq c as l st).bind λr=>nw2 c q w r
 | .lst as=>(Kq c as l st).bind λr=>ag (r.1.2.isEmpty&&decide (r.1.1.length<=IU)) (alloc r.2 (.lst r.1.1))
 | .comp s b=>(IK c s l st).bind λr=>(dG r.1).bind λi=>ag (decide (-1000000<=i)&&decide (i<=1000000)) () |>.bind λJ=>(eg (dY i) (λx st=>IK c b [x] st) c.wf 0 r.2 []).map λq=>alloc q.2 (.lst q.1)
 | .OP a k=>(IK c a l st).bind λr=>l[k]?.bind λv=>(vW v).bind λd=>(cC r.2 r.1).bind λp=>ag (p.2.1==0&&(p.2.2.lookup 126).isNone) () |>.bind λJ=>(er d).map λz=>(.b (.str z),r.2)
 | _=>none
noncomputable def Kq(c:Cx)(e:E)(l:List V)(st:St):Option ((List V×List (Nat×V))×St):=match e with
 | .nil=>some (([],[]),st)
 | .pos e r=>(IK c e l st).bind λq=>(Kq c r l q.2).map λp=>((q.1::p.1.1,p.1.2),p.2)
 | .kw k e r=>(IK c e l st).bind λq=>(Kq c r l q.2).bind λp=>bif p.1.1.isEmpty then some (([],(k,q.1)::p.1.2),p.2) else none
 | _=>none
end
noncomputable def Cw(c:Cx)(s b:E)(l:List V)(st:St):Option (V×St):=(IK c s l st).bind λr=>(aP r.2 r.1).bind λJ=>(eg (itemAt r.1) (λx st=>IK c b [x] st) c.wf 0 r.2 []).map λq=>alloc q.2 (.lst q.1)
inductive Ly | next | ret(v:V)
abbrev JC:=Option (Ly×List V×St)
noncomputable def thn(q:Ly×List V×St)(f:List V->St->JC):JC:=match q.1 with
 | .next=>f q.2.1 q.2.2
 | .ret _=>some q
noncomputable def fU(t:List V->St->Option (V×St))(b:List V->St->JC):Nat->List V->St->JC
 | 0,_,_=>none
 | n+1,l,st=>(t l st).bind λr=>(truth r.2 r.1).bind λu=>bif u then(b l r.2).bind λq=>thn q (fU t b n) else some (.next,l,r.2)
noncomputable def cQ(k:Nat)(it:St->Nat->Option (Option V))(b:List V->St->JC):Nat->Nat->List V->St->JC
 | 0,_,_,_=>none
 | n+1,i,l,st=>(it st i).bind λo=>match o with
  | none=>some (.next,l,st)
  | some x=>(b (l.set k x) st).bind λq=>thn q (cQ k it b n (i+1))
noncomputable def gK(l:List V)(v:V):List Nat->List V
 | []=>l
 | n::r=>gK (l.set n v) v r
noncomputable def Be(n:Nat)(o v:V)(st:St):Option St:=(cC st o).bind λp=>ag (decide (p.2.2.length < 100)&&decide (n < 128)&&!ab v) (dK st p.1 (.ins p.2.1 (iz n v p.2.2)))
noncomputable def wR(v:V):Nat:=((aQ v).map List.length).getD 0
noncomputable def Ja(c:Cx)(s:S)(l:List V)(st:St):JC:=match s with
 | .nil=>some (.next,l,st)
 | .cons s r=>(Ja c s l st).bind λq=>thn q (Ja c r)
 | .pass=>some (.next,l,st)
 | .expr e=>(IK c e l st).map λr=>(.next,l,r.2)
 | .asg ns e=>(IK c e l st).map λr=>(.next,gK l r.1 ns,r.2)
 | .N0 k s b=>(Cw c s b l st).map λr=>(.next,l.set k r.1,r.2)
 | .IP n o e=>(IK c e l st).bind λr=>(IK c o l r.2).bind λq=>(Be n q.1 r.1 q.2).map λs=>(.next,l,s)
 | .J1 n o e=>l[n]?.bind λx=>(IK c e l st).bind λr=>(bop o x r.1).map λz=>(.next,l.set n z,r.2)
 | .Ke n p o e=>(IK c o l st).bind λq=>(ia n q.1 q.2).bind λx=>(IK c e l q.2).bind λr=>(bop p x r.1).bind λz=>(Be n q.1 z r.2).map λs=>(.next,l,s)
 | .MM n e=>l[n]?.bind λx=>(aP st x).bind λJ=>(IK c e l st).bind λr=>(aP r.2 x).bind λp=>(aP r.2 r.1).bind λw=>ag (decide (p.2.length+w.2.length<=IU)&&!(p.1==w.1)) (.next,l,dK r.2 p.1 (.lst (p.2++w.2)))
 | .app o e=>(IK c o l st).bind λq=>(aP q.2 q.1).bind λJ=>(IK c e l q.2).bind λr=>(aP r.2 q.1).bind λp=>ag (decide (p.2.length < IU)&&!ab r.1) (.next,l,dK r.2 p.1 (.lst (p.2++[r.1])))
 | .IF t a b=>(IK c t l st).bind λr=>(truth r.2 r.1).bind λu=>bif u then Ja c a l r.2 else Ja c b l r.2
 | .while t b=>fU (IK c t) (Ja c b) c.wf l st
 | .for n e b=>(IK c e l st).bind λr=>cQ n (itemAt r.1) (Ja c b) (c.wf+wR r.1) 0 l r.2
 | .forR n e b=>(IK c e l st).bind λr=>(dG r.1).bind λi=>ag (decide (-1000000<=i)&&decide (i<=1000000)) () |>.bind λJ=>cQ n (dY i) (Ja c b) c.wf 0 l r.2
 | .ret e=>(IK c e l st).map λr=>(.ret r.1,l,r.2)
 | .Mc=>some (.ret (.b .nul),l,st)
 | _=>none
noncomputable def Dp:Ly->Option V
 | .next=>some (.b .nul)
 | .ret v=>ag (!ab v) v
noncomputable def Cx.cell(c:Cx)(v:V):Cx:=⟨c.fns,c.Jx,c.sup,c.IG,c.wf,v⟩
noncomputable def Do(c:Cx)(k:Nat)(vs:List V)(st:St):Option (V×St):=(c.fns[k]?).bind λf=>
 (Ja (bif f.cl then c.cell (vs.headD .uu) else c) f.body ((bif f.cl then vs.tail else vs)++List.replicate (f.slots.length - f.Jg) .uu) st).bind λq=>(Dp q.1).map λv=>(v,q.2.2)
noncomputable def QS(fns:List Fn)(Jx:List (Fn×List Nat))(sup:List (List Nat))(wf:Nat):Nat->Cx
 | 0=>⟨fns,Jx,sup,λJ J J=>none,wf,.uu⟩
 | n+1=>⟨fns,Jx,sup,Do (QS fns Jx sup wf n),wf,.uu⟩
end
theorem lZ{α β:Type}{o:Option α}{f:α->Option β}{b:β}(h:o.bind f=some b):∃a,o=some a/\f a=some b:=Option.bind_eq_some_iff.mp h
theorem jF{α β:Type}{o:Option α}{f:α->β}{b:β}(h:o.map f=some b):∃a,o=some a/\f a=b:=Option.map_eq_some_iff.mp h
section
open PySem
noncomputable abbrev V.tt:V:=.b (.bool true)
noncomputable abbrev V.ff:V:=.b (.bool false)
noncomputable abbrev V.s(x:Tx):V:=.b (.str x)
noncomputable abbrev V.i(x:Int):V:=.b (.int x)
noncomputable abbrev V.o(x:Bool):V:=.b (.bool x)
noncomputable abbrev cL(r s m k:Bool):List V:=[.ref 2,.o r,.o s,.o m,.o k]
noncomputable abbrev I0:E:=.n0 (.loc 0)
noncomputable abbrev I1:E:=.n0 (.cst (.bool true))
noncomputable abbrev I2:E:=.n0 (.loc 1)
noncomputable abbrev I3:E:=.n0 (.cst (.bool false))
noncomputable abbrev I4:E:=.n0 (.cst (.int 1))
noncomputable abbrev I5:E:=.u1 (.Jn 69) I0
noncomputable abbrev I6:E:=.n0 (.loc 6)
noncomputable abbrev I7:E:=.n0 (.cst .nul)
noncomputable abbrev I8:E:=.n0 (.cst (.int 0))
noncomputable abbrev I9:E:=.n0 (.loc 5)
noncomputable abbrev J3:E:=.n0 (.loc 2)
noncomputable abbrev MR:E:=.n0 (.cst (.str [10,133,8232,8233]))
noncomputable abbrev JR:E:=.n0 (.loc 4)
noncomputable abbrev nY:E:=.u1 (.Jn 78) I0
noncomputable abbrev I13:E:=.b2 (.cmp .gt) nY (.u1 (.Jn 85) I0)
noncomputable abbrev J2:E:=.n0 (.loc 3)
noncomputable abbrev L0:E:=.n0 (.cst (.str [32]))
noncomputable abbrev K6:E:=.n0 (.loc 9)
noncomputable abbrev KN:E:=.n0 (.loc 7)
noncomputable abbrev MQ:E:=.u1 (.Jn 82) I0
noncomputable abbrev rE:E:=.u1 .not MQ
noncomputable abbrev Nn:E:=.u1 (.Jn 66) I0
noncomputable abbrev CY:S:=.expr (.call 10 I0 (.kw 3 I1 (.kw 4 I1 .nil)))
noncomputable abbrev iJ:E:=.pos I1 .nil
noncomputable abbrev rG:E:=.kw 3 I1 .nil
noncomputable abbrev I56:S:=.cons (.expr (.call 10 I0 rG)) .nil
noncomputable abbrev I18:S:=.IF (.and rE (.call 32 I0 .nil)) (.cons (.app Nn (.u1 (.Lh 19) I0)) (.cons CY .nil)) (.cons (.expr (.call 46 I0 (.pos (.n0 (.cst (.str [63]))) iJ))) (.cons (.app Nn (.u1 (.Lh 20) I0)) I56))
noncomputable abbrev Oi:S:=.expr (.call 47 I0 .nil)
noncomputable abbrev LL:E:=.n0 (.cst (.int 2))
noncomputable abbrev FO:E:=.IF (.b2 (.cmp .eq) J3 LL) (.n0 (.cst (.str [97,49]))) I7
noncomputable abbrev OY:E:=.n0 (.cst (.int 3))
noncomputable abbrev FP:E:=.IF (.b2 (.cmp .eq) J3 OY) (.n0 (.cst (.str [33,116]))) I7
noncomputable abbrev I76:E:=.n0 (.cst (.int 6))
noncomputable abbrev C1:E:=.b2 .idx (.Jj 61 .nil) (.b2 (.bin .mod) I0 I76)
noncomputable abbrev I21:E:=.new 9 (.pos FO (.pos FP (.pos J2 (.pos I2 (.kw 7 C1 .nil)))))
noncomputable abbrev Mo:E:=.n0 (.loc 22)
noncomputable abbrev iI:S:=.asg [3] I1
noncomputable abbrev wt:S:=.cons (.asg [2] I1) .nil
noncomputable abbrev mH:E:=.n0 (.loc 13)
noncomputable abbrev zE:E:=.n0 (.cst (.str [45]))
noncomputable abbrev I22:S:=.cons (.IF (.b2 (.cmp .K2) Mo (.n0 (.cst (.str [35,44,91,93,123,125,38,42,33,124,62,39,34,37,64,96])))) (.cons iI wt) .nil) (.cons (.IF (.b2 (.cmp .K2) Mo (.n0 (.cst (.str [63,58])))) (.cons iI (.cons (.IF mH wt .nil) .nil)) .nil) (.cons (.IF (.and (.b2 (.cmp .eq) Mo zE) mH) (.cons iI wt) .nil) .nil))
noncomputable abbrev Mx:E:=.u1 (.Jn 90) I0
noncomputable abbrev PV:S:=.cons (.expr (.call 48 I0 .nil)) .nil
noncomputable abbrev I26:E:=.or (.JX .le .le L0 JR (.n0 (.cst (.str [126])))) (.and (.u1 (.Jn 83) I0) (.or (.JX .le .le (.n0 (.cst (.str [160]))) JR (.n0 (.cst (.str [55295])))) (.JX .le .le (.n0 (.cst (.str [57344]))) JR (.n0 (.cst (.str [65533]))))))
noncomputable abbrev wq:E:=.n0 (.cst (.str [58]))
noncomputable abbrev I27:S:=.cons (.IF (.b2 (.cmp .K2) Mo (.n0 (.cst (.str [44,63,91,93,123,125])))) (.cons iI .nil) .nil) (.cons (.IF (.b2 (.cmp .eq) Mo wq) (.cons iI (.cons (.IF mH wt .nil) .nil)) .nil) (.cons (.IF (.and (.b2 (.cmp .eq) Mo (.n0 (.cst (.str [35])))) (.n0 (.loc 12))) (.cons iI wt) .nil) .nil))
noncomputable abbrev M4:E:=.n0 (.cst (.str []))
noncomputable abbrev rN:E:=.n0 (.cst (.str [33]))
noncomputable abbrev I29:E:=.or (.JX .le .le (.n0 (.cst (.str [48]))) K6 (.n0 (.cst (.str [57])))) (.or (.JX .le .le (.n0 (.cst (.str [65]))) K6 (.n0 (.cst (.str [90])))) (.or (.JX .le .le (.n0 (.cst (.str [97]))) K6 (.n0 (.cst (.str [122])))) (.or (.b2 (.cmp .K2) K6 (.n0 (.cst (.str [45,59,47,63,58,64,38,61,43,36,44,95,46,126,42,39,40,41,91,93])))) (.and (.b2 (.cmp .eq) K6 rN) (.b2 (.cmp .ne) J3 rN)))))
noncomputable abbrev I30:S:=.cons (.IP 67 I0 (.u1 (.pop false) Nn)) .nil
noncomputable abbrev L8:E:=.u1 (.Jn 68) I0
noncomputable abbrev I32:E:=.and (.or (.b2 (.cmp .eq) Mo (.n0 (.cst (.str [133])))) (.or (.JX .le .le (.n0 (.cst (.str [160]))) Mo (.n0 (.cst (.str [55295])))) (.or (.JX .le .le (.n0 (.cst (.str [57344]))) Mo (.n0 (.cst (.str [65533])))) (.JX .le .lt (.n0 (.cst (.str [65536]))) Mo (.n0 (.cst (.str [1114111]))))))) (.b2 (.cmp .ne) Mo (.n0 (.cst (.str [65279]))))
noncomputable abbrev Q6:E:=.u1 (.isNone true) I6
noncomputable abbrev Q7:E:=.pos I9 (.pos I6 (.pos Q6 (.kw 6 JR .nil)))
noncomputable abbrev O3:E:=.n0 (.cst (.str [10]))
noncomputable abbrev OZ:E:=.u1 (.Jn 64) I0
noncomputable abbrev KY:E:=.u1 .len I2
noncomputable abbrev zD:E:=.u1 (.isNone true) KN
noncomputable abbrev I71:E:=.n0 (.cst (.str [32,10,133,8232,8233]))
noncomputable abbrev I37:E:=.or zD (.b2 (.cmp .K2) KN I71)
noncomputable abbrev I39:S:=.cons (.IF (.b2 (.cmp .le) JR (.n0 (.cst (.str [255])))) (.cons (.asg [5] (.u1 (.MJ [92,120,37,48,50,88]) (.u1 .ord JR))) .nil) (.cons (.IF (.b2 (.cmp .le) JR (.n0 (.cst (.str [65535])))) (.cons (.asg [5] (.u1 (.MJ [92,117,37,48,52,88]) (.u1 .ord JR))) .nil) (.cons (.asg [5] (.u1 (.MJ [92,85,37,48,56,88]) (.u1 .ord JR))) .nil)) .nil)) .nil
noncomputable abbrev zJ:E:=.pos I7 (.pos I1 (.kw 6 I3 .nil))
noncomputable abbrev C0:E:=.Jj 68 (.pos (.n0 (.cst (.str [112]))) .nil)
noncomputable abbrev gi:E:=.lst .nil
noncomputable abbrev Of:E:=.n0 (.loc 11)
noncomputable abbrev NJ:E:=.n0 (.loc 10)
noncomputable abbrev CZ:E:=.Jj 68 (.pos (.n0 (.cst (.str [113]))) .nil)
noncomputable abbrev I40:E:=.b2 (.bin .add) (.b2 (.bin .add) (.b2 (.bin .add) (.b2 (.bin .add) (.lst (.pos (.new 10 (.pos I7 zJ)) .nil)) (.IF K6 C0 gi)) Of) (.IF NJ CZ gi)) (.lst (.pos (.new 11 .nil) .nil))
noncomputable abbrev Og:E:=.n0 (.loc 16)
noncomputable abbrev I41:E:=.b2 (.bin .add) (.b2 (.bin .add) (.IF K6 (.b2 (.bin .add) C0 C0) gi) Og) (.IF NJ (.b2 (.bin .add) CZ CZ) gi)
noncomputable abbrev Qo:S:=.IP 71 I0 (.u1 (.pop false) (.u1 (.Jn 70) I0))
noncomputable abbrev Oh:E:=.n0 (.cst (.int 4))
noncomputable abbrev Np:S:=.cons .stuck .nil
noncomputable abbrev I45:E:=.u1 .not (.or (.JX .le .le (.n0 (.cst (.str [48]))) J3 (.n0 (.cst (.str [57])))) (.or (.JX .le .le (.n0 (.cst (.str [65]))) J3 (.n0 (.cst (.str [90])))) (.or (.JX .le .le (.n0 (.cst (.str [97]))) J3 (.n0 (.cst (.str [122])))) (.b2 (.cmp .K2) J3 (.n0 (.cst (.str [45,95])))))))
noncomputable abbrev CT:E:=.b2 (.cmp .eq) (.b2 (.bin .add) I9 I4) K6
noncomputable abbrev I99:E:=.and CT (.and I13 (.and J3 (.and (.b2 (.cmp .ne) I9 I8) (.b2 (.cmp .ne) K6 KY))))
noncomputable abbrev PU:S:=.cons Oi .nil
noncomputable abbrev nX:E:=.slice I2 I9 K6
noncomputable abbrev zK:S:=.expr (.call 57 OZ (.pos KN .nil))
noncomputable abbrev I46:S:=.IF I99 PU (.cons (.asg [7] nX) (.cons (.Ke 78 .add I0 (.u1 .len KN)) (.cons zK .nil)))
noncomputable abbrev rI:S:=.IP 79 I0 I3
noncomputable abbrev rH:S:=.IP 80 I0 I3
noncomputable abbrev I78:S:=.cons (.Ke 78 .add I0 (.u1 .len I6)) (.cons (.expr (.call 57 OZ (.pos I6 .nil))) .nil)
noncomputable abbrev I47:S:=.IF (.and CT (.and I13 J3)) (.cons Oi (.cons rI (.cons rH .nil))) (.cons (.asg [6] nX) I78)
noncomputable abbrev FC:E:=.b2 (.cmp .Ow) (.b2 .idx I2 (.n0 (.neg 1))) MR
noncomputable abbrev Ge:E:=.or (.b2 (.cmp .eq) KY I4) (.b2 (.cmp .K2) (.b2 .idx I2 (.n0 (.neg 2))) MR)
noncomputable abbrev I48:S:=.IF FC (.cons (.J1 2 .add zE) .nil) (.cons (.IF Ge (.cons (.J1 2 .add (.n0 (.cst (.str [43])))) .nil) .nil) .nil)
noncomputable abbrev nW:E:=.pos I3 .nil
noncomputable abbrev I49:S:=.expr (.call 46 I0 (.pos (.n0 (.cst (.str [44]))) nW))
noncomputable abbrev Mp:E:=.n0 (.loc 8)
noncomputable abbrev FB:E:=.IF (.n0 (.loc 12)) I9 (.b2 (.bin .add) I9 J2)
noncomputable abbrev Go:E:=.Jj 66 (.pos Og (.pos J2 (.pos FB (.pos JR .nil))))
noncomputable abbrev Gu:E:=.b2 (.bin .add) (.b2 (.bin .add) (.n0 (.cst (.str [45,45,45,10]))) (.n0 (.loc 17))) (.n0 (.cst (.str [46,46,46,10])))
noncomputable abbrev I51:E:=.b2 (.cmp .eq) Go Gu
noncomputable abbrev zF:E:=.u1 (.isNone false) KN
noncomputable abbrev Q4:E:=.b2 (.cmp .ne) KN L0
noncomputable abbrev I53:E:=.and (.u1 .not J2) (.and zF (.and Q4 (.b2 (.cmp .eq) (.b2 .idx I2 I6) O3)))
noncomputable abbrev wh:E:=.u1 (.Jn 88) I0
noncomputable abbrev wn:E:=.u1 (.Jn 96) I5
noncomputable abbrev I54:S:=.IF (.u1 (.isNone true) wh) (.cons (.IP 88 I0 (.call 41 I0 (.pos wn .nil))) .nil) .nil
noncomputable abbrev zG:E:=.u1 (.Kp false [9]) I5
noncomputable abbrev zx:E:=.u1 (.Jn 102) Mx
noncomputable abbrev I57:E:=.and (.b2 (.cmp .lt) I2 (.n0 (.cst (.int 128)))) (.or (.u1 (.Kp false [8]) I5) (.or (.and zG (.and (.u1 .not (.u1 (.Jn 101) Mx)) (.u1 .not zx))) (.or (.call 29 I0 .nil) (.call 30 I0 .nil))))
noncomputable abbrev NI:E:=.u1 (.Jn 91) I0
noncomputable abbrev F9:E:=.b2 (.cmp .eq) (.slice J3 (.n0 (.neg 1)) I7) (.n0 (.cst (.str [43])))
noncomputable abbrev I60:S:=.IF F9 (.cons (.IP 81 I0 I1) .nil) .nil
noncomputable abbrev I62:E:=.and (.JX .lt .lt I8 I6 (.b2 (.bin .sub) KY I4)) (.and (.or (.b2 (.cmp .eq) JR L0) (.b2 (.cmp .ge) J2 I6)) (.and (.b2 (.cmp .gt) (.b2 (.bin .add) nY (.b2 (.bin .sub) I6 J2)) (.u1 (.Jn 85) I0)) J3))
noncomputable abbrev PT:S:=.cons (.asg [5] K6) .nil
noncomputable abbrev F4:S:=.cons (.IP 90 I0 (.call 42 I0 (.pos (.u1 (.Jn 99) I5) .nil))) .nil
noncomputable abbrev I65:S:=.IF (.u1 (.isNone true) Mx) F4 .nil
noncomputable abbrev CS:E:=.slice (.n0 (.loc 15)) I4 I7
noncomputable abbrev I66:E:=.b2 (.bin .add) (.b2 (.bin .add) (.b2 (.bin .add) (.IF K6 (.n0 (.cst (.str [45,32,112,10]))) M4) zE) CS) (.IF NJ (.n0 (.cst (.str [45,32,113,10]))) M4)
noncomputable abbrev I67:S:=.expr (.call 57 OZ (.pos I9 .nil))
noncomputable abbrev I68:E:=.or (.b2 .starts I2 (.n0 (.cst (.str [45,45,45])))) (.b2 .starts I2 (.n0 (.cst (.str [46,46,46]))))
noncomputable abbrev FG:E:=.and (.b2 (.cmp .eq) (.b2 (.bin .add) I6 I4) NJ) I13
noncomputable abbrev I69:S:=.IF FG PU (.cons (.asg [9] (.slice I2 I6 NJ)) (.cons (.Ke 78 .add I0 (.u1 .len K6)) (.cons (.expr (.call 57 OZ (.pos K6 .nil))) .nil)))
noncomputable abbrev I70:S:=.cons (.IF (.b2 (.cmp .eq) Mp O3) PV (.cons (.expr (.call 48 I0 (.pos Mp .nil))) .nil)) .nil
noncomputable abbrev PR:E:=.n0 (.cst (.str [39]))
noncomputable abbrev n3:E:=.u1 (.isNone true) I2
noncomputable abbrev wg:E:=.u1 (.Jn 98) I5
noncomputable abbrev ww:E:=.b2 .idx wg I8
noncomputable abbrev I73:E:=.and (.or rE n3) (.or (.and (.b2 (.cmp .eq) NI M4) ww) (.and (.b2 (.cmp .ne) NI M4) (.b2 .idx wg I4)))
noncomputable abbrev wj:E:=.u1 (.Jn 94) I5
noncomputable abbrev I74:S:=.asg [2] (.and I2 (.and (.u1 .not wj) (.and rE (.and (.u1 .not (.u1 (.Jn 92) I5)) (.and (.u1 .not (.u1 (.Jn 93) I5)) (.u1 .not (.call 31 I0 .nil)))))))
noncomputable abbrev I75:E:=.n0 (.cst (.str [0,32,9,13,10,133,8232,8233]))
noncomputable abbrev I77:E:=.b2 (.bin .mod) (.b2 (.bin .fdiv) J3 LL) OY
noncomputable abbrev I79:S:=.Ke 78 .add I0 (.u1 .len I9)
noncomputable abbrev Ph:E:=.u1 (.Jn 72) I0
noncomputable abbrev PQ:E:=.pos I2 .nil
noncomputable abbrev I83:S:=.IF (.b2 (.cmp .lt) I9 K6) (.cons (.asg [7] nX) (.cons (.Ke 78 .add I0 (.u1 .len KN)) (.cons zK PT))) .nil
noncomputable abbrev I84:E:=.b2 (.bin .add) (.b2 (.bin .add) (.IF K6 (.n0 (.cst (.str [112,58,32,112,10]))) M4) (.n0 (.loc 17))) (.IF NJ (.n0 (.cst (.str [113,58,32,113,10]))) M4)
noncomputable abbrev Pg:E:=.u1 (.Jn 100) Mx
noncomputable abbrev zI:E:=.u1 .not (.u1 (.Jn 79) I0)
noncomputable abbrev I86:E:=.or (.u1 .not (.u1 (.Jn 80) I0)) (.or (.b2 (.cmp .gt) nY I2) (.and (.b2 (.cmp .eq) nY I2) zI))
noncomputable abbrev I87:S:=.cons .stuck (.cons .stuck Np)
noncomputable abbrev I88:S:=.IF (.b2 (.cmp .eq) (.b2 .idx I2 I9) O3) PV .nil
noncomputable abbrev rJ:E:=.u1 (.Jn 95) I5
noncomputable abbrev I89:S:=.IF (.or Ph (.or MQ (.or rJ (.call 29 I0 .nil)))) (.cons (.expr (.call 13 I0 .nil)) .nil) (.cons (.expr (.call 21 I0 .nil)) .nil)
noncomputable abbrev I90:S:=.IF (.or Ph (.or MQ (.or rJ (.call 30 I0 .nil)))) (.cons (.expr (.call 16 I0 .nil)) .nil) (.cons (.expr (.call 24 I0 .nil)) .nil)
noncomputable abbrev I91:E:=.b2 (.bin .add) (.b2 (.bin .add) (.lst (.pos (.new 12 (.pos I7 zJ)) .nil)) Og) (.lst (.pos (.new 13 .nil) .nil))
noncomputable abbrev I92:E:=.b2 (.bin .mod) (.Jj 62 (.pos (.n0 .NF) .nil)) (.n0 (.cst (.int 19)))
noncomputable abbrev I94:S:=.cons (.IF (.b2 (.cmp .eq) (.b2 .idx I2 J2) L0) (.cons (.asg [5] (.n0 (.cst (.str [92])))) (.cons I79 (.cons I67 .nil))) .nil) .nil
noncomputable abbrev I95:E:=.b2 (.bin .add) I4 (.b2 (.bin .mod) (.b2 (.bin .fdiv) J3 I76) OY)
noncomputable abbrev I96:S:=.IF (.or MQ I13) PU .nil
noncomputable abbrev Q5:E:=.n0 (.cst (.str [34]))
noncomputable abbrev Gy:E:=.b2 .idx (.lst (.pos (.b2 .pair I1 I1) (.pos (.b2 .pair I1 I3) (.pos (.b2 .pair I3 I1) (.pos (.b2 .pair I3 I3) .nil))))) J3
noncomputable abbrev Gx:E:=.b2 (.bin .add) (.b2 (.bin .add) (.n0 (.cst (.str [63]))) CS) (.n0 (.cst (.str [58,32,118,10])))
noncomputable abbrev C5:E:=.lst (.pos (.new 4 .nil) (.pos (.new 6 rG) .nil))
noncomputable abbrev C4:E:=.lst (.pos (.new 7 rG) (.pos (.new 5 .nil) .nil))
noncomputable abbrev Gw:E:=.or (.u1 (.isNone true) JR) (.or (.b2 (.cmp .K2) JR (.n0 (.cst (.str [34,92,133,8232,8233,65279])))) (.u1 .not I26))
noncomputable abbrev rF:E:=.Jj 62 PQ
noncomputable abbrev Gv:E:=.b2 (.bin .add) (.b2 (.bin .add) (.b2 (.bin .mul) LL J2) I4) (.b2 (.bin .mod) rF (.n0 (.cst (.int 40))))
noncomputable abbrev mI:E:=.u1 (.Jn 84) I0
noncomputable abbrev C3:E:=.IF (.and J2 (.u1 .not I9)) (.b2 (.bin .mul) L0 I2) M4
noncomputable abbrev Gs:E:=.Jj 65 (.pos I2 (.pos LL (.pos (.b2 (.bin .mul) I76 (.b2 (.bin .mod) rF OY)) (.pos Mp .nil))))
noncomputable abbrev fS:E:=.u1 .not I2
noncomputable abbrev Gp:E:=.b2 .idx (.lst (.pos LL (.pos Oh (.pos OY (.pos (.n0 (.cst (.int 9))) .nil))))) (.b2 (.bin .mod) J3 Oh)
noncomputable abbrev C2:S:=.expr (.call 10 I0 (.kw 2 I1 .nil))
noncomputable abbrev mG:E:=.u1 (.Jn 91) I5
noncomputable abbrev rM:E:=.b2 (.cmp .lt) J2 I6
noncomputable abbrev Gn:E:=.IF (.b2 (.cmp .gt) I2 I8) (.b2 (.bin .mod) J3 (.n0 (.cst (.int 5)))) (.b2 (.bin .mod) J3 OY)
noncomputable abbrev Gm:S:=.asg [10] (.b2 (.cmp .eq) (.b2 (.bin .mod) (.b2 (.bin .fdiv) I6 (.n0 (.cst (.int 16)))) LL) I4)
noncomputable abbrev Gl:S:=.asg [9] (.b2 (.cmp .eq) (.b2 (.bin .mod) (.b2 (.bin .fdiv) I6 (.n0 (.cst (.int 8)))) LL) I4)
noncomputable abbrev mF:E:=.b2 .idx L8 I8
noncomputable abbrev Gk:S:=.IF (.b2 (.cmp .K2) (.b2 .idx I2 I8) I71) (.cons (.J1 2 .add (.u1 .NM mI)) .nil) .nil
noncomputable abbrev wv:E:=.u1 (.Kp false [11]) I5
noncomputable abbrev wu:E:=.u1 (.Kp false [13]) I5
noncomputable abbrev Gj:E:=.u1 .not (.or (.b2 (.cmp .eq) Mo O3) (.JX .le .le L0 Mo (.n0 (.cst (.str [126])))))
noncomputable abbrev Gi:E:=.IF (.n0 (.loc 12)) (.n0 (.loc 14)) (.Jj 67 (.pos (.n0 (.loc 14)) (.pos J2 .nil)))
noncomputable abbrev nZ:E:=.u1 (.Jn 89) I0
noncomputable abbrev Gh:S:=.cons (.asg [5] (.slice I2 J2 I6)) (.cons I79 (.cons I67 (.cons (.asg [3] I6) .nil)))
noncomputable abbrev CX:S:=.cons (.IP 91 I0 (.call 35 I0 .nil)) .nil
noncomputable abbrev CW:E:=.b2 (.cmp .eq) Og (.b2 (.bin .sub) KY I4)
noncomputable abbrev CV:E:=.pos I0 (.pos (.b2 (.bin .sub) I2 I4) .nil)
noncomputable abbrev CU:E:=.b2 (.bin .mod) I0 (.n0 (.cst (.int 5040)))
noncomputable abbrev Gg:E:=.b2 (.cmp .ne) (.slice mH (.n0 (.neg 4)) I7) (.n0 (.cst (.str [46,46,46,10])))
noncomputable abbrev Gf:S:=.asg [13] (.or (.b2 (.cmp .eq) KY I4) (.b2 (.cmp .K2) (.b2 .idx I2 I4) I75))
noncomputable abbrev wp:E:=.u1 (.isNone true) I9
noncomputable abbrev Gd:E:=.Jj 65 (.pos I0 (.pos I2 (.pos J3 (.pos (.b2 (.cmp .eq) J2 Oh) .nil))))
noncomputable abbrev Gc:S:=.cons (.asg [5] (.b2 (.bin .add) (.n0 (.cst (.str [92]))) (.OP I0 4))) .nil
noncomputable abbrev Gb:S:=.asg [8] (.b2 (.cmp .eq) (.b2 (.bin .mod) (.b2 (.bin .fdiv) I6 Oh) LL) I4)
noncomputable abbrev Ga:S:=.cons (.expr (.call 46 I0 (.pos (.n0 (.cst (.str [46,46,46]))) iJ))) PU
noncomputable abbrev wo:E:=.n0 (.cst (.int 10))
noncomputable abbrev rK:E:=.u1 (.Jn 71) I0
noncomputable abbrev zH:S:=.cons (.asg [6] NJ) .nil
noncomputable abbrev wm:S:=.Ke 72 .sub I0 I4
noncomputable abbrev F8:S:=.cons (.expr (.call 46 I0 (.pos (.n0 (.cst (.str [125]))) nW))) I30
noncomputable abbrev F7:E:=.b2 (.cmp .ne) (.slice mH I7 Oh) (.n0 (.cst (.str [45,45,45,10])))
noncomputable abbrev F6:E:=.b2 (.bin .add) (.Jj 68 (.pos (.n0 (.cst (.str [107]))) .nil)) Of
noncomputable abbrev F5:E:=.b2 (.bin .add) Of (.Jj 68 (.pos (.n0 (.cst (.str [118]))) .nil))
noncomputable abbrev nV:E:=.kw 1 I1 .nil
noncomputable abbrev F3:S:=.cons (.expr (.call 46 I0 (.pos (.n0 (.cst (.str [93]))) nW))) I30
noncomputable abbrev FZ:E:=.and (.or (.u1 (.Jn 92) I5) (.u1 (.Jn 93) I5)) (.u1 (.Jn 81) I0)
noncomputable abbrev FY:E:=.new 9 (.pos I7 (.pos I7 (.pos (.b2 .pair I1 I3) (.pos I0 .nil))))
noncomputable abbrev FX:E:=.b2 (.cmp .eq) (.b2 (.bin .mod) (.b2 (.bin .fdiv) J3 Oh) LL) I4
noncomputable abbrev FW:S:=.cons I96 (.cons (.app Nn (.u1 (.Lh 15) I0)) (.cons C2 .nil))
noncomputable abbrev FV:S:=.asg [5] (.b2 (.cmp .K2) JR (.n0 (.cst (.str [10,8232,8233]))))
noncomputable abbrev FU:E:=.b2 (.bin .add) (.n0 (.cst (.str [107,58,10]))) (.n0 (.loc 15))
noncomputable abbrev FT:E:=.or Q6 (.or (.b2 (.cmp .K2) I6 I71) (.b2 (.cmp .eq) I6 PR))
noncomputable abbrev zC:E:=.b2 (.cmp .K2) I9 MR
noncomputable abbrev FQ:E:=.IF (.b2 (.cmp .eq) I77 LL) (.n0 (.cst (.str [33,115]))) I7
noncomputable abbrev zB:E:=.b2 (.cmp .eq) Og I8
noncomputable abbrev FN:E:=.IF (.b2 (.cmp .eq) I77 I4) (.n0 (.cst (.str [97,51]))) I7
noncomputable abbrev zA:E:=.b2 (.cmp .eq) KN I4
noncomputable abbrev wb:E:=.u1 (.Jn 76) I0
noncomputable abbrev FM:S:=.IF (.u1 (.Jn 73) I0) (.cons (.IP 81 I0 I1) .nil) .nil
noncomputable abbrev FL:E:=.and (.u1 (.Kp false [1]) I5) (.u1 (.isNone false) wn)
noncomputable abbrev FK:E:=.Jj 66 (.pos Of (.pos J2 (.pos I9 (.pos JR .nil))))
noncomputable abbrev zy:S:=.cons (.ret I3) .nil
noncomputable abbrev CQ:S:=.IF MQ (.cons I49 PU) .nil
noncomputable abbrev FJ:E:=.b2 (.cmp .lt) (.u1 .len L8) (.b2 (.bin .add) I2 I4)
noncomputable abbrev FH:S:=.IF I68 (.cons (.asg [2] I1) (.cons iI .nil)) .nil
noncomputable abbrev FF:S:=.cons (.IP 90 I0 I7) (.cons (.IP 91 I0 I7) .nil)
noncomputable abbrev FE:E:=.b2 (.bin .add) (.n0 (.cst (.str [63,10,58]))) CS
noncomputable abbrev wa:S:=.IP 89 I0 I7
noncomputable def b_0:S:=(.cons (.app L8 I2) (.cons (.while (.u1 .not (.call 1 I0 .nil)) (.cons (.IP 69 I0 (.u1 (.pop true) L8)) (.cons (.expr (.KI 67 I0)) (.cons (.IP 69 I0 I7) .nil)))) .nil))
noncomputable def QO:Fn:=⟨"emit",["self", "event"],2,[],0,b_0,false⟩
noncomputable def b_1:S:=(.cons (.IF (.u1 .not L8) (.cons (.ret I1) .nil) .nil) (.cons (.asg [1] mF) (.cons (.IF (.u1 (.Kp false [6]) I2) (.cons (.ret (.call 2 I0 (.pos I4 .nil))) .nil) (.cons (.IF (.u1 (.Kp false [10]) I2) (.cons (.ret (.call 2 I0 (.pos LL .nil))) .nil) (.cons (.IF (.u1 (.Kp false [12]) I2) (.cons (.ret (.call 2 I0 (.pos OY .nil))) .nil) zy) .nil)) .nil)) .nil)))
noncomputable def f_1:Fn:=⟨"need_more_events",["self", "event"],1,[],0,b_1,false⟩
noncomputable def b_2:S:=(.cons (.asg [2] I8) (.cons (.for 3 (.slice L8 I4 I7) (.cons (.IF (.u1 (.Kp true [6,2]) J2) (.cons (.J1 2 .add I4) .nil) (.cons (.IF (.u1 (.Kp true [7,3]) J2) (.cons (.J1 2 .sub I4) .nil) (.cons (.IF (.u1 (.Kp false [5]) J2) (.cons (.asg [2] (.n0 (.neg 1))) .nil) .nil) .nil)) .nil)) (.cons (.IF (.b2 (.cmp .lt) J3 I8) zy .nil) .nil))) (.cons (.ret FJ) .nil)))
noncomputable def f_2:Fn:=⟨"need_events",["self", "count", "level", "event"],2,[],0,b_2,false⟩
noncomputable def b_3:S:=(.cons (.app (.u1 (.Jn 70) I0) rK) (.cons (.IF (.u1 (.isNone true) rK) (.cons (.IF I2 (.cons (.IP 71 I0 mI) .nil) (.cons (.IP 71 I0 I8) .nil)) .nil) (.cons (.IF (.u1 .not J3) (.cons (.Ke 71 .add I0 mI) .nil) .nil) .nil)) .nil))
noncomputable def ON:Fn:=⟨"increase_indent",["self", "flow", "indentless"],3,[(.bool false),(.bool false)],0,b_3,false⟩
noncomputable def b_4:S:=(.cons (.IF (.u1 (.Kp false [4]) I5) (.cons (.expr (.call 44 I0 .nil)) (.cons (.IP 67 I0 (.u1 (.Lh 6) I0)) .nil)) Np) .nil)
noncomputable def f_4:Fn:=⟨"expect_stream_start",["self"],1,[],0,b_4,false⟩
noncomputable def b_5:S:=Np
noncomputable def f_5:Fn:=⟨"expect_nothing",["self"],1,[],0,b_5,false⟩
noncomputable def b_6:S:=(.cons (.ret (.call 7 I0 nV)) .nil)
noncomputable def f_6:Fn:=⟨"expect_first_document_start",["self"],1,[],0,b_6,false⟩
noncomputable def b_7:S:=(.cons (.IF (.u1 (.Kp false [6]) I5) (.cons (.IF FZ (.cons .stuck Np) .nil) (.cons (.IF (.u1 (.Jn 92) I5) (.cons .stuck Np) .nil) (.cons (.IP 87 I0 (.u1 .LJ I0)) (.cons (.IF (.u1 (.Jn 93) I5) (.cons .stuck Np) .nil) (.cons I74 (.cons (.IF (.u1 .not J3) (.cons Oi (.cons (.expr (.call 46 I0 (.pos (.n0 (.cst (.str [45,45,45]))) iJ))) (.cons (.IF MQ PU .nil) .nil))) .nil) (.cons (.IP 67 I0 (.u1 (.Lh 9) I0)) .nil))))))) (.cons (.IF (.u1 (.Kp false [5]) I5) (.cons (.IF (.u1 (.Jn 81) I0) Ga .nil) (.cons (.expr (.call 45 I0 .nil)) (.cons (.IP 67 I0 (.u1 (.Lh 5) I0)) .nil))) Np) .nil)) .nil)
noncomputable def f_7:Fn:=⟨"expect_document_start",["self", "first", "implicit", "version_text", "handles", "handle", "prefix", "handle_text", "prefix_text"],2,[(.bool false)],0,b_7,false⟩
noncomputable def b_8:S:=(.cons (.IF (.u1 (.Kp false [7]) I5) (.cons Oi (.cons (.IF wj Ga .nil) (.cons (.expr (.call 43 I0 .nil)) (.cons (.IP 67 I0 (.u1 (.Lh 7) I0)) .nil)))) Np) .nil)
noncomputable def f_8:Fn:=⟨"expect_document_end",["self"],1,[],0,b_8,false⟩
noncomputable def b_9:S:=(.cons (.app Nn (.u1 (.Lh 8) I0)) (.cons (.expr (.call 10 I0 nV)) .nil))
noncomputable def f_9:Fn:=⟨"expect_document_root",["self"],1,[],0,b_9,false⟩
noncomputable def Iq:S:=(.cons (.IP 73 I0 I2) (.cons (.IP 74 I0 J3) (.cons (.IP 75 I0 J2) (.cons (.IP 76 I0 JR) (.cons (.IF (.u1 (.Kp false [8]) I5) (.cons (.expr (.call 11 I0 .nil)) .nil) (.cons (.IF (.u1 (.Kp true [9,2]) I5) (.cons (.expr (.call 33 I0 (.pos (.n0 (.cst (.str [38]))) .nil))) (.cons (.expr (.call 34 I0 .nil)) (.cons (.IF zG (.cons (.expr (.call 12 I0 .nil)) .nil) (.cons (.IF (.u1 (.Kp false [10]) I5) (.cons I89 .nil) (.cons (.IF (.u1 (.Kp false [12]) I5) (.cons I90 .nil) .nil) .nil)) .nil)) .nil))) Np) .nil)) .nil)))))
noncomputable def iF:Fn:=⟨"expect_node",["self", "root", "sequence", "mapping", "simple_key"],5,[(.bool false),(.bool false),(.bool false),(.bool false)],0,Iq,false⟩
noncomputable def Ip:S:=(.cons (.IF (.u1 (.isNone true) wn) Np .nil) (.cons (.expr (.call 33 I0 (.pos (.n0 (.cst (.str [42]))) .nil))) I30))
noncomputable def yL:Fn:=⟨"expect_alias",["self"],1,[],0,Ip,false⟩
noncomputable def Io:S:=(.cons (.expr (.call 3 I0 nV)) (.cons (.expr (.call 36 I0 .nil)) (.cons Qo I30)))
noncomputable def yK:Fn:=⟨"expect_scalar",["self"],1,[],0,Io,false⟩
noncomputable def Im:S:=(.cons (.expr (.call 46 I0 (.pos (.n0 (.cst (.str [91]))) (.pos I1 rG)))) (.cons (.Ke 72 .add I0 I4) (.cons (.expr (.call 3 I0 nV)) (.cons (.IP 67 I0 (.u1 (.Lh 14) I0)) .nil))))
noncomputable def yJ:Fn:=⟨"expect_flow_sequence",["self"],1,[],0,Im,false⟩
noncomputable def Il:S:=(.cons (.IF wv (.cons Qo (.cons wm F3)) FW) .nil)
noncomputable def yI:Fn:=⟨"expect_first_flow_sequence_item",["self"],1,[],0,Il,false⟩
noncomputable def Ik:S:=(.cons (.IF wv (.cons Qo (.cons wm (.cons CQ F3))) (.cons I49 FW)) .nil)
noncomputable def yH:Fn:=⟨"expect_flow_sequence_item",["self"],1,[],0,Ik,false⟩
noncomputable def Ij:S:=(.cons (.expr (.call 46 I0 (.pos (.n0 (.cst (.str [123]))) (.pos I1 rG)))) (.cons (.Ke 72 .add I0 I4) (.cons (.expr (.call 3 I0 nV)) (.cons (.IP 67 I0 (.u1 (.Lh 17) I0)) .nil))))
noncomputable def yG:Fn:=⟨"expect_flow_mapping",["self"],1,[],0,Ij,false⟩
noncomputable def Ii:S:=(.cons (.IF wu (.cons Qo (.cons wm F8)) (.cons I96 (.cons I18 .nil))) .nil)
noncomputable def yF:Fn:=⟨"expect_first_flow_mapping_key",["self"],1,[],0,Ii,false⟩
noncomputable def Ih:S:=(.cons (.IF wu (.cons Qo (.cons wm (.cons CQ F8))) (.cons I49 (.cons I96 (.cons I18 .nil)))) .nil)
noncomputable def yE:Fn:=⟨"expect_flow_mapping_key",["self"],1,[],0,Ih,false⟩
noncomputable def Ig:S:=(.cons (.expr (.call 46 I0 (.pos wq nW))) (.cons (.app Nn (.u1 (.Lh 18) I0)) I56))
noncomputable def Cd:Fn:=⟨"expect_flow_mapping_simple_value",["self"],1,[],0,Ig,false⟩
noncomputable def Ie:S:=(.cons I96 (.cons (.expr (.call 46 I0 (.pos wq iJ))) (.cons (.app Nn (.u1 (.Lh 18) I0)) I56)))
noncomputable def Cc:Fn:=⟨"expect_flow_mapping_value",["self"],1,[],0,Ie,false⟩
noncomputable def Id:S:=(.cons (.asg [1] (.and (.u1 (.Jn 75) I0) (.u1 .not (.u1 (.Jn 80) I0)))) (.cons (.expr (.call 3 I0 (.kw 1 I3 (.kw 2 I2 .nil)))) (.cons (.IP 67 I0 (.u1 (.Lh 22) I0)) .nil)))
noncomputable def yD:Fn:=⟨"expect_block_sequence",["self", "indentless"],1,[],0,Id,false⟩
noncomputable def Ic:S:=(.cons (.ret (.call 23 I0 nV)) .nil)
noncomputable def Cb:Fn:=⟨"expect_first_block_sequence_item",["self"],1,[],0,Ic,false⟩
noncomputable def Ib:S:=(.cons (.IF (.and fS wv) (.cons Qo I30) (.cons Oi (.cons (.expr (.call 46 I0 (.pos zE (.pos I1 (.kw 4 I1 .nil))))) (.cons (.app Nn (.u1 (.Lh 23) I0)) (.cons C2 .nil))))) .nil)
noncomputable def uZ:Fn:=⟨"expect_block_sequence_item",["self", "first"],2,[(.bool false)],0,Ib,false⟩
noncomputable def Ia:S:=(.cons (.expr (.call 3 I0 (.kw 1 I3 .nil))) (.cons (.IP 67 I0 (.u1 (.Lh 25) I0)) .nil))
noncomputable def yC:Fn:=⟨"expect_block_mapping",["self"],1,[],0,Ia,false⟩
noncomputable def H9:S:=(.cons (.ret (.call 26 I0 nV)) .nil)
noncomputable def Ca:Fn:=⟨"expect_first_block_mapping_key",["self"],1,[],0,H9,false⟩
noncomputable def H8:S:=(.cons (.IF (.and fS wu) (.cons Qo I30) (.cons Oi (.cons (.IF (.call 32 I0 .nil) (.cons (.app Nn (.u1 (.Lh 27) I0)) (.cons CY .nil)) (.cons (.expr (.call 46 I0 (.pos (.n0 (.cst (.str [63]))) (.pos I1 (.kw 4 I1 .nil))))) (.cons (.app Nn (.u1 (.Lh 28) I0)) I56))) .nil))) .nil)
noncomputable def rd:Fn:=⟨"expect_block_mapping_key",["self", "first"],2,[(.bool false)],0,H8,false⟩
noncomputable def H7:S:=(.cons (.expr (.call 46 I0 (.pos wq nW))) (.cons (.app Nn (.u1 (.Lh 26) I0)) I56))
noncomputable def B9:Fn:=⟨"expect_block_mapping_simple_value",["self"],1,[],0,H7,false⟩
noncomputable def H6:S:=(.cons Oi (.cons (.expr (.call 46 I0 (.pos wq (.pos I1 (.kw 4 I1 .nil))))) (.cons (.app Nn (.u1 (.Lh 26) I0)) I56)))
noncomputable def B8:Fn:=⟨"expect_block_mapping_value",["self"],1,[],0,H6,false⟩
noncomputable def H4:S:=(.cons (.ret (.and (.u1 (.Kp false [10]) I5) (.and L8 (.u1 (.Kp false [11]) mF)))) .nil)
noncomputable def yB:Fn:=⟨"check_empty_sequence",["self"],1,[],0,H4,false⟩
noncomputable def H0:S:=(.cons (.ret (.and (.u1 (.Kp false [12]) I5) (.and L8 (.u1 (.Kp false [13]) mF)))) .nil)
noncomputable def yA:Fn:=⟨"check_empty_mapping",["self"],1,[],0,H0,false⟩
noncomputable def HZ:S:=(.cons (.IF (.or (.u1 .not (.u1 (.Kp false [6]) I5)) (.u1 .not L8)) zy .nil) (.cons (.asg [1] mF) (.cons (.ret (.and (.u1 (.Kp false [9]) I2) (.and (.u1 (.isNone true) (.u1 (.Jn 96) I2)) (.and (.u1 (.isNone true) (.u1 (.Jn 97) I2)) (.and (.u1 (.Jn 98) I2) (.b2 (.cmp .eq) (.u1 (.Jn 99) I2) M4)))))) .nil)))
noncomputable def EO:Fn:=⟨"check_empty_document",["self", "event"],1,[],0,HZ,false⟩
noncomputable def zj:S:=(.cons (.asg [1] I8) (.cons (.IF FL (.cons I54 (.cons (.J1 1 .add (.u1 .len wh)) .nil)) .nil) (.cons (.IF (.and (.u1 (.Kp true [9,2]) I5) (.u1 (.isNone false) (.u1 (.Jn 97) I5))) (.cons (.IF (.u1 (.isNone true) nZ) (.cons (.IP 89 I0 (.call 40 I0 (.pos (.u1 (.Jn 97) I5) .nil))) .nil) .nil) (.cons (.J1 1 .add (.u1 .len nZ)) .nil)) .nil) (.cons (.IF zG (.cons I65 (.cons (.J1 1 .add (.u1 .len Pg)) .nil)) .nil) (.cons (.ret I57) .nil)))))
noncomputable def uY:Fn:=⟨"check_simple_key",["self", "length"],1,[],0,zj,false⟩
noncomputable def HY:S:=(.cons (.IF (.u1 (.isNone true) wn) (.cons (.IP 88 I0 I7) (.cons .Mc .nil)) .nil) (.cons I54 (.cons (.IF wh (.cons (.expr (.call 46 I0 (.pos (.b2 (.bin .add) I2 wh) iJ))) .nil) .nil) (.cons (.IP 88 I0 I7) .nil))))
noncomputable def lK:Fn:=⟨"process_anchor",["self", "indicator"],2,[],0,HY,false⟩
noncomputable def zi:S:=(.cons (.asg [1] (.u1 (.Jn 97) I5)) (.cons (.IF zG (.cons (.IF (.u1 (.isNone true) NI) CX .nil) (.cons (.IF I73 (.cons wa (.cons .Mc .nil)) .nil) (.cons (.IF (.and ww n3) (.cons (.asg [1] rN) (.cons wa .nil)) .nil) .nil))) (.cons (.IF (.and (.or rE n3) wg) (.cons wa (.cons .Mc .nil)) .nil) .nil)) (.cons (.IF n3 Np .nil) (.cons (.IF (.u1 (.isNone true) nZ) (.cons (.IP 89 I0 (.call 40 I0 PQ)) .nil) .nil) (.cons (.IF nZ (.cons (.expr (.call 46 I0 (.pos nZ iJ))) .nil) .nil) (.cons wa .nil))))))
noncomputable def iD:Fn:=⟨"process_tag",["self", "tag"],1,[],0,zi,false⟩
noncomputable def rq:S:=(.cons I65 (.cons (.IF (.or (.b2 (.cmp .eq) mG Q5) MQ) (.cons (.ret Q5) .nil) .nil) (.cons (.IF (.and (.u1 .not mG) ww) (.cons (.IF (.and (.u1 .not (.and wb (.or (.u1 (.Jn 101) Mx) zx))) (.or (.and Ph (.u1 (.Jn 103) Mx)) (.and (.u1 .not Ph) (.u1 (.Jn 104) Mx)))) (.cons (.ret M4) .nil) .nil) .nil) .nil) (.cons (.IF (.and mG (.b2 (.cmp .K2) mG (.n0 (.cst (.str [124,62]))))) (.cons (.IF (.and (.u1 .not Ph) (.and (.u1 .not wb) (.u1 (.Jn 105) Mx))) (.cons (.ret mG) .nil) .nil) .nil) .nil) (.cons (.IF (.or (.u1 .not mG) (.b2 (.cmp .eq) mG PR)) (.cons (.IF (.and (.u1 (.Jn 106) Mx) (.u1 .not (.and wb zx))) (.cons (.ret PR) .nil) .nil) .nil) .nil) (.cons (.ret Q5) .nil))))))
noncomputable def yz:Fn:=⟨"choose_scalar_style",["self"],1,[],0,rq,false⟩
noncomputable def zh:S:=(.cons I65 (.cons (.IF (.u1 (.isNone true) NI) CX .nil) (.cons (.asg [1] (.u1 .not wb)) (.cons (.IF (.b2 (.cmp .eq) NI Q5) (.cons (.expr (.call 52 I0 (.pos Pg PQ))) .nil) (.cons (.IF (.b2 (.cmp .eq) NI PR) (.cons (.expr (.call 51 I0 (.pos Pg PQ))) .nil) (.cons (.IF (.b2 (.cmp .eq) NI (.n0 (.cst (.str [62])))) (.cons (.expr (.call 54 I0 (.pos Pg .nil))) .nil) (.cons (.IF (.b2 (.cmp .eq) NI (.n0 (.cst (.str [124])))) (.cons (.expr (.call 55 I0 (.pos Pg .nil))) .nil) (.cons (.expr (.call 56 I0 (.pos Pg PQ))) .nil)) .nil)) .nil)) .nil)) FF))))
noncomputable def yy:Fn:=⟨"process_scalar",["self", "split"],1,[],0,zh,false⟩
noncomputable def HX:S:=I87
noncomputable def EN:Fn:=⟨"prepare_version",["self", "version", "major", "minor"],2,[],0,HX,false⟩
noncomputable def HW:S:=(.cons .stuck I87)
noncomputable def EM:Fn:=⟨"prepare_tag_handle",["self", "handle", "ch"],2,[],0,HW,false⟩
noncomputable def HV:S:=(.cons .stuck (.cons .stuck (.cons .stuck (.cons .stuck I87))))
noncomputable def EL:Fn:=⟨"prepare_tag_prefix",["self", "prefix", "chunks", "start", "ch", "data", "end"],2,[],0,HV,false⟩
noncomputable def vT:S:=(.cons (.IF fS Np .nil) (.cons (.IF (.b2 (.cmp .eq) I2 rN) (.cons (.ret I2) .nil) .nil) (.cons (.asg [2] I7) (.cons (.asg [3] I2) (.cons (.asg [4] (.u1 .keys (.u1 (.Jn 87) I0))) (.cons (.for 5 JR (.cons (.IF (.and (.b2 .starts I2 I9) (.or (.b2 (.cmp .eq) I9 rN) (.b2 (.cmp .lt) (.u1 .len I9) KY))) (.cons (.asg [2] (.b2 .idx (.u1 (.Jn 87) I0) I9)) (.cons (.asg [3] (.slice I2 (.u1 .len I9) I7)) .nil)) .nil) .nil)) (.cons (.asg [6] gi) (.cons (.asg [7,11] I8) (.cons (.while (.b2 (.cmp .lt) Of (.u1 .len J2)) (.cons (.asg [9] (.b2 .idx J2 Of)) (.cons (.IF I29 (.cons (.J1 11 .add I4) .nil) (.cons .stuck I87)) .nil))) (.cons (.IF (.b2 (.cmp .lt) KN Of) (.cons (.app I6 (.slice J2 KN Of)) .nil) .nil) (.cons (.asg [8] (.u1 .join I6)) (.cons (.IF J3 (.cons (.ret (.b2 (.Nj .ss) J3 Mp)) .nil) Np) .nil))))))))))))
noncomputable def uX:Fn:=⟨"prepare_tag",["self", "tag", "handle", "suffix", "prefixes", "prefix", "chunks", "start", "suffix_text", "ch", "data", "end"],2,[],0,vT,false⟩
noncomputable def Ft:S:=(.cons (.IF fS Np .nil) (.cons (.for 2 I2 (.cons (.IF I45 Np .nil) .nil)) (.cons (.ret I2) .nil)))
noncomputable def yx:Fn:=⟨"prepare_anchor",["self", "anchor", "ch"],2,[],0,Ft,false⟩
noncomputable def CG:S:=(.cons (.IF fS (.cons (.ret (.new 14 (.kw 1 I2 (.kw 2 I1 (.kw 3 I3 (.kw 4 I3 (.kw 5 I1 (.kw 6 I1 (.kw 7 I1 (.kw 8 I3 .nil)))))))))) .nil) .nil) (.cons (.asg [2] I3) (.cons (.asg [3] I3) (.cons (.asg [4] I3) (.cons (.asg [5] I3) (.cons (.asg [6] I3) (.cons (.asg [7] I3) (.cons (.asg [8] I3) (.cons (.asg [9] I3) (.cons (.asg [10] I3) (.cons (.asg [11] I3) (.cons FH (.cons (.asg [12] I1) (.cons Gf (.cons (.asg [14] I3) (.cons (.asg [15] I3) (.cons (.asg [16] I8) (.cons (.while (.b2 (.cmp .lt) Og KY) (.cons (.asg [22] (.b2 .idx I2 Og)) (.cons (.IF zB I22 I27) (.cons (.IF (.b2 (.cmp .K2) Mo MR) (.cons (.asg [4] I1) .nil) .nil) (.cons (.IF Gj (.cons (.IF I32 (.cons (.asg [23] I1) (.cons (.IF (.u1 .not (.u1 (.Jn 83) I0)) (.cons (.asg [5] I1) .nil) .nil) .nil)) (.cons (.asg [5] I1) .nil)) .nil) .nil) (.cons (.IF (.b2 (.cmp .eq) Mo L0) (.cons (.IF zB (.cons (.asg [6] I1) .nil) .nil) (.cons (.IF CW (.cons (.asg [8] I1) .nil) .nil) (.cons (.IF (.n0 (.loc 15)) (.cons (.asg [10] I1) .nil) .nil) (.cons (.asg [14] I1) (.cons (.asg [15] I3) .nil))))) (.cons (.IF (.b2 (.cmp .K2) Mo MR) (.cons (.IF zB (.cons (.asg [7] I1) .nil) .nil) (.cons (.IF CW (.cons (.asg [9] I1) .nil) .nil) (.cons (.IF (.n0 (.loc 14)) (.cons (.asg [11] I1) .nil) .nil) (.cons (.asg [14] I3) (.cons (.asg [15] I1) .nil))))) (.cons (.asg [14] I3) (.cons (.asg [15] I3) .nil))) .nil)) (.cons (.J1 16 .add I4) (.cons (.asg [12] (.b2 (.cmp .K2) Mo I75)) (.cons (.asg [13] (.or (.b2 (.cmp .ge) (.b2 (.bin .add) Og I4) KY) (.b2 (.cmp .K2) (.b2 .idx I2 (.b2 (.bin .add) Og I4)) I75))) .nil))))))))) (.cons (.asg [17] I1) (.cons (.asg [18] I1) (.cons (.asg [19] I1) (.cons (.asg [20] I1) (.cons (.asg [21] I1) (.cons (.IF (.or I6 (.or KN (.or Mp K6))) (.cons (.asg [17,18] I3) .nil) .nil) (.cons (.IF Mp (.cons (.asg [21] I3) .nil) .nil) (.cons (.IF NJ (.cons (.asg [17,18,19] I3) .nil) .nil) (.cons (.IF (.or Of I9) (.cons (.asg [17,18,19,21] I3) .nil) .nil) (.cons (.IF JR (.cons (.asg [17,18] I3) .nil) .nil) (.cons (.IF J2 (.cons (.asg [17] I3) .nil) .nil) (.cons (.IF J3 (.cons (.asg [18] I3) .nil) .nil) (.cons (.ret (.new 14 (.kw 1 I2 (.kw 2 I3 (.kw 3 JR (.kw 4 (.n0 (.loc 17)) (.kw 5 (.n0 (.loc 18)) (.kw 6 (.n0 (.loc 19)) (.kw 7 (.n0 (.loc 20)) (.kw 8 (.n0 (.loc 21)) .nil)))))))))) .nil)))))))))))))))))))))))))))))))
noncomputable def uW:Fn:=⟨"analyze_scalar",["self", "scalar", "block_indicators", "flow_indicators", "line_breaks", "special_characters", "leading_space", "leading_break", "trailing_space", "trailing_break", "break_space", "space_break", "preceded_by_whitespace", "followed_by_whitespace", "previous_space", "previous_break", "index", "allow_flow_plain", "allow_block_plain", "allow_single_quoted", "allow_double_quoted", "allow_block", "ch", "unicode_characters"],2,[],0,CG,false⟩
noncomputable def HU:S:=(.cons .pass .nil)
noncomputable def q7:Fn:=⟨"flush_stream",["self"],1,[],0,HU,false⟩
noncomputable def HT:S:=(.cons .pass .nil)
noncomputable def yw:Fn:=⟨"write_stream_start",["self"],1,[],0,HT,false⟩
noncomputable def HS:S:=(.cons (.expr (.call 43 I0 .nil)) .nil)
noncomputable def yu:Fn:=⟨"write_stream_end",["self"],1,[],0,HS,false⟩
noncomputable def Fs:S:=(.cons (.IF (.or (.u1 (.Jn 79) I0) (.u1 .not J3)) (.cons (.asg [5] I2) .nil) (.cons (.asg [5] (.b2 (.bin .add) L0 I2)) .nil)) (.cons (.IP 79 I0 J2) (.cons (.IP 80 I0 (.and (.u1 (.Jn 80) I0) JR)) (.cons I79 (.cons (.IP 81 I0 I3) (.cons I67 .nil))))))
noncomputable def eF:Fn:=⟨"write_indicator",["self", "indicator", "need_whitespace", "whitespace", "indention", "data"],5,[(.bool false),(.bool false)],0,Fs,false⟩
noncomputable def zg:S:=(.cons (.asg [1] (.or rK I8)) (.cons (.IF I86 PV .nil) (.cons (.IF (.b2 (.cmp .lt) nY I2) (.cons (.IP 79 I0 I1) (.cons (.asg [2] (.b2 (.bin .mul) L0 (.b2 (.bin .sub) I2 nY))) (.cons (.IP 78 I0 I2) (.cons (.expr (.call 57 OZ (.pos J3 .nil))) .nil)))) .nil) .nil)))
noncomputable def gf:Fn:=⟨"write_indent",["self", "indent", "data"],1,[],0,zg,false⟩
noncomputable def CF:S:=(.cons (.IF n3 (.cons (.asg [1] (.u1 (.Jn 86) I0)) .nil) .nil) (.cons (.IP 79 I0 I1) (.cons (.IP 80 I0 I1) (.cons (.Ke 77 .add I0 I4) (.cons (.IP 78 I0 I8) (.cons (.expr (.call 57 OZ PQ)) .nil))))))
noncomputable def gc:Fn:=⟨"write_line_break",["self", "data"],2,[.nul],0,CF,false⟩
noncomputable def HR:S:=I87
noncomputable def EK:Fn:=⟨"write_version_directive",["self", "version_text", "data"],2,[],0,HR,false⟩
noncomputable def HQ:S:=I87
noncomputable def EJ:Fn:=⟨"write_tag_directive",["self", "handle_text", "prefix_text", "data"],3,[],0,HQ,false⟩
noncomputable def Fq:S:=(.cons (.expr (.call 46 I0 (.pos PR iJ))) (.cons (.asg [3] I3) (.cons (.asg [4] I3) (.cons (.asg [5,9] I8) (.cons (.while (.b2 (.cmp .le) K6 KY) (.cons (.asg [6] I7) (.cons (.IF (.b2 (.cmp .lt) K6 KY) (.cons (.asg [6] (.b2 .idx I2 K6)) .nil) .nil) (.cons (.IF J2 (.cons (.IF (.or Q6 (.b2 (.cmp .ne) I6 L0)) (.cons I46 PT) .nil) .nil) (.cons (.IF JR (.cons (.IF (.or Q6 (.b2 (.cmp .Ow) I6 MR)) (.cons I88 (.cons (.for 8 nX I70) (.cons Oi PT))) .nil) .nil) (.cons (.IF FT (.cons I83 .nil) .nil) .nil)) .nil)) (.cons (.IF (.b2 (.cmp .eq) I6 PR) (.cons (.asg [7] (.n0 (.cst (.str [39,39])))) (.cons (.Ke 78 .add I0 LL) (.cons zK (.cons (.asg [5] (.b2 (.bin .add) K6 I4)) .nil)))) .nil) (.cons (.IF (.u1 (.isNone false) I6) (.cons (.asg [3] (.b2 (.cmp .eq) I6 L0)) (.cons (.asg [4] (.b2 (.cmp .K2) I6 MR)) .nil)) .nil) (.cons (.J1 9 .add I4) .nil))))))) (.cons (.expr (.call 46 I0 (.pos PR nW))) .nil))))))
noncomputable def yt:Fn:=⟨"write_single_quoted",["self", "text", "split", "spaces", "breaks", "start", "ch", "data", "br", "end"],3,[(.bool true)],0,Fq,false⟩
noncomputable def Fp:S:=(.cons (.expr (.call 46 I0 (.pos Q5 iJ))) (.cons (.asg [3,6] I8) (.cons (.while (.b2 (.cmp .le) I6 KY) (.cons (.asg [4] I7) (.cons (.IF (.b2 (.cmp .lt) I6 KY) (.cons (.asg [4] (.b2 .idx I2 I6)) .nil) .nil) (.cons (.IF Gw (.cons (.IF rM Gh .nil) (.cons (.IF (.u1 (.isNone false) JR) (.cons (.IF (.b2 .K3 JR I0) Gc I39) (.cons I79 (.cons I67 (.cons (.asg [3] (.b2 (.bin .add) I6 I4)) .nil)))) .nil) .nil)) .nil) (.cons (.IF I62 (.cons (.asg [5] (.b2 (.bin .add) (.slice I2 J2 I6) (.n0 (.cst (.str [92]))))) (.cons (.IF rM (.cons (.asg [3] I6) .nil) .nil) (.cons I79 (.cons I67 (.cons Oi (.cons rI (.cons rH I94))))))) .nil) (.cons (.J1 6 .add I4) .nil)))))) (.cons (.expr (.call 46 I0 (.pos Q5 nW))) .nil))))
noncomputable def yr:Fn:=⟨"write_double_quoted",["self", "text", "split", "start", "ch", "data", "end"],3,[(.bool true)],0,Fp,false⟩
noncomputable def HP:S:=(.cons (.asg [2] M4) (.cons (.IF I2 (.cons Gk (.cons I48 .nil)) .nil) (.cons (.ret J3) .nil)))
noncomputable def qZ:Fn:=⟨"determine_block_hints",["self", "text", "hints"],2,[],0,HP,false⟩
noncomputable def Fo:S:=(.cons (.asg [2] (.call 53 I0 PQ)) (.cons (.expr (.call 46 I0 (.pos (.b2 (.bin .add) (.n0 (.cst (.str [62]))) J3) iJ))) (.cons I60 (.cons (.expr (.call 48 I0 .nil)) (.cons iI (.cons (.asg [4] I3) (.cons (.asg [5] I1) (.cons (.asg [6,10] I8) (.cons (.while (.b2 (.cmp .le) NJ KY) (.cons (.asg [7] I7) (.cons (.IF (.b2 (.cmp .lt) NJ KY) (.cons (.asg [7] (.b2 .idx I2 NJ)) .nil) .nil) (.cons (.IF I9 (.cons (.IF (.or zD (.b2 (.cmp .Ow) KN MR)) (.cons (.IF I53 PV .nil) (.cons (.asg [3] (.b2 (.cmp .eq) KN L0)) (.cons (.for 8 (.slice I2 I6 NJ) I70) (.cons (.IF zF PU .nil) zH)))) .nil) .nil) (.cons (.IF JR (.cons (.IF Q4 (.cons I69 zH) .nil) .nil) (.cons (.IF I37 (.cons (.asg [9] (.slice I2 I6 NJ)) (.cons (.Ke 78 .add I0 (.u1 .len K6)) (.cons (.expr (.call 57 OZ (.pos K6 .nil))) (.cons (.IF zD PV .nil) zH)))) .nil) .nil)) .nil)) (.cons (.IF zF (.cons (.asg [5] (.b2 (.cmp .K2) KN MR)) (.cons (.asg [4] (.b2 (.cmp .eq) KN L0)) .nil)) .nil) (.cons (.J1 10 .add I4) .nil)))))) .nil)))))))))
noncomputable def yq:Fn:=⟨"write_folded",["self", "text", "hints", "leading_space", "spaces", "breaks", "start", "ch", "br", "data", "end"],2,[],0,Fo,false⟩
noncomputable def Fm:S:=(.cons (.asg [2] (.call 53 I0 PQ)) (.cons (.expr (.call 46 I0 (.pos (.b2 (.bin .add) (.n0 (.cst (.str [124]))) J3) iJ))) (.cons I60 (.cons (.expr (.call 48 I0 .nil)) (.cons iI (.cons (.asg [4,8] I8) (.cons (.while (.b2 (.cmp .le) Mp KY) (.cons (.asg [5] I7) (.cons (.IF (.b2 (.cmp .lt) Mp KY) (.cons (.asg [5] (.b2 .idx I2 Mp)) .nil) .nil) (.cons (.IF J2 (.cons (.IF (.or wp (.b2 (.cmp .Ow) I9 MR)) (.cons (.for 6 (.slice I2 JR Mp) (.cons (.IF (.b2 (.cmp .eq) I6 O3) PV (.cons (.expr (.call 48 I0 (.pos I6 .nil))) .nil)) .nil)) (.cons (.IF (.u1 (.isNone false) I9) PU .nil) (.cons (.asg [4] Mp) .nil))) .nil) .nil) (.cons (.IF (.or wp zC) (.cons (.asg [7] (.slice I2 JR Mp)) (.cons zK (.cons (.IF wp PV .nil) (.cons (.asg [4] Mp) .nil)))) .nil) .nil)) (.cons (.IF (.u1 (.isNone false) I9) (.cons (.asg [3] zC) .nil) .nil) (.cons (.J1 8 .add I4) .nil)))))) .nil)))))))
noncomputable def yp:Fn:=⟨"write_literal",["self", "text", "hints", "breaks", "start", "ch", "br", "data", "end"],2,[],0,Fm,false⟩
noncomputable def Fl:S:=(.cons FM (.cons (.IF fS (.cons .Mc .nil) .nil) (.cons (.IF zI (.cons (.asg [6] L0) I78) .nil) (.cons rI (.cons rH (.cons (.asg [3] I3) (.cons (.asg [4] I3) (.cons (.asg [5,9] I8) (.cons (.while (.b2 (.cmp .le) K6 KY) (.cons (.asg [7] I7) (.cons (.IF (.b2 (.cmp .lt) K6 KY) (.cons (.asg [7] (.b2 .idx I2 K6)) .nil) .nil) (.cons (.IF J2 (.cons (.IF Q4 (.cons I47 PT) .nil) .nil) (.cons (.IF JR (.cons (.IF (.b2 (.cmp .Ow) KN MR) (.cons I88 (.cons (.for 8 nX I70) (.cons Oi (.cons rI (.cons rH PT))))) .nil) .nil) (.cons (.IF I37 (.cons (.asg [6] nX) (.cons (.Ke 78 .add I0 (.u1 .len I6)) (.cons (.expr (.call 57 OZ (.pos I6 .nil))) PT))) .nil) .nil)) .nil)) (.cons (.IF zF (.cons (.asg [3] (.b2 (.cmp .eq) KN L0)) (.cons (.asg [4] (.b2 (.cmp .K2) KN MR)) .nil)) .nil) (.cons (.J1 9 .add I4) .nil)))))) .nil)))))))))
noncomputable def uV:Fn:=⟨"write_plain",["self", "text", "split", "spaces", "breaks", "start", "data", "ch", "br", "end"],3,[(.bool true)],0,Fl,false⟩
noncomputable def Fk:S:=(.cons (.app (.u1 (.Jn 107) I0) I2) .nil)
noncomputable def yo:Fn:=⟨"write",["self", "data"],2,[],1,Fk,false⟩
noncomputable def HO:S:=(.cons (.ret (.u1 .join (.u1 (.Jn 107) I0))) .nil)
noncomputable def yn:Fn:=⟨"text",["self"],1,[],1,HO,false⟩
noncomputable def HN:S:=(.cons (.IP 107 I0 gi) .nil)
noncomputable def B7:Fn:=⟨"__init__",["self"],1,[],1,HN,false⟩
noncomputable def vR:S:=(.cons (.IP 64 I0 I2) (.cons (.IP 65 I0 I7) (.cons (.IP 66 I0 gi) (.cons (.IP 67 I0 (.u1 (.Lh 4) I0)) (.cons (.IP 68 I0 gi) (.cons (.IP 69 I0 I7) (.cons (.IP 70 I0 gi) (.cons (.IP 71 I0 I7) (.cons (.IP 72 I0 I8) (.cons (.IP 73 I0 I3) (.cons (.IP 74 I0 I3) (.cons (.IP 75 I0 I3) (.cons (.IP 76 I0 I3) (.cons (.IP 77 I0 I8) (.cons (.IP 78 I0 I8) (.cons (.IP 79 I0 I1) (.cons (.IP 80 I0 I1) (.cons (.IP 81 I0 I3) (.cons (.IP 82 I0 J3) (.cons (.IP 83 I0 I9) (.cons (.IP 84 I0 LL) (.cons (.IF (.and J2 (.JX .lt .lt I4 J2 wo)) (.cons (.IP 84 I0 J2) .nil) .nil) (.cons (.IP 85 I0 (.n0 (.cst (.int 80)))) (.cons (.IF (.and JR (.b2 (.cmp .gt) JR (.b2 (.bin .mul) mI LL))) (.cons (.IP 85 I0 JR) .nil) .nil) (.cons (.IP 86 I0 O3) (.cons (.IF (.b2 .inL I6 (.lst (.pos (.n0 (.cst (.str [13]))) (.pos O3 (.pos (.n0 (.cst (.str [13,10]))) .nil))))) (.cons (.IP 86 I0 I6) .nil) .nil) (.cons (.IP 87 I0 I7) (.cons (.IP 88 I0 I7) (.cons wa FF)))))))))))))))))))))))))))))
noncomputable def ym:Fn:=⟨"__init__",["self", "stream", "canonical", "indent", "width", "allow_unicode", "line_break"],7,[.nul,.nul,.nul,.nul,.nul],0,vR,false⟩
noncomputable def Fj:S:=(.cons (.ret (.lst (.pos I7 (.pos PR (.pos Q5 (.pos (.n0 (.cst (.str [124]))) (.pos (.n0 (.cst (.str [62]))) (.pos M4 .nil)))))))) .nil)
noncomputable def yl:Fn:=⟨"_law_STYLES",[],0,[],2,Fj,false⟩
noncomputable def HM:S:=(.cons (.ret (.IF I0 (.u1 (.pop true) I0) I8)) .nil)
noncomputable def uU:Fn:=⟨"_law_next",["tape"],1,[],2,HM,false⟩
noncomputable def CE:S:=(.cons (.asg [1] (.u1 .join (.comp (.b2 (.bin .add) I4 (.b2 (.bin .mod) (.b2 (.bin .fdiv) I0 (.n0 (.cst (.int 24)))) OY)) (.u1 .O9 I92)))) (.cons (.asg [2] (.b2 (.bin .mod) (.b2 (.bin .fdiv) I0 I76) Oh)) (.cons (.asg [3] Gy) (.cons (.ret (.lst (.pos I21 .nil))) .nil))))
noncomputable def yk:Fn:=⟨"_law_scalar",["tape", "n", "value", "told", "pair"],2,[],2,CE,true⟩
noncomputable def CD:S:=(.cons (.asg [2] (.Jj 62 (.pos I0 .nil))) (.cons (.asg [3] Gn) (.cons (.asg [2] (.b2 (.bin .fdiv) J3 (.n0 (.cst (.int 5))))) (.cons (.IF (.b2 (.cmp .eq) J2 LL) (.cons (.asg [4] (.b2 (.bin .mod) J3 OY)) (.cons (.IF (.b2 (.cmp .eq) JR I8) (.cons (.ret (.lst (.pos (.new 8 (.pos (.n0 (.cst (.str [110,49]))) .nil)) .nil))) .nil) .nil) (.cons (.IF (.b2 (.cmp .eq) JR I4) (.cons (.ret (.lst (.pos (.new 10 (.pos (.n0 (.cst (.str [97,50]))) zJ)) (.pos (.new 11 .nil) .nil)))) .nil) .nil) (.cons (.ret (.lst (.pos (.new 12 (.pos I7 (.pos (.n0 (.cst (.str [33,109]))) (.pos I3 (.kw 6 I3 .nil))))) (.pos (.new 13 .nil) .nil)))) .nil)))) .nil) (.cons (.IF (.b2 (.cmp .lt) J2 LL) (.cons (.ret (.Jj 63 (.pos I0 (.pos J3 .nil)))) .nil) .nil) (.cons (.ret Gd) .nil))))))
noncomputable def yj:Fn:=⟨"_law_node",["tape", "depth", "n", "kind", "empty"],2,[],2,CD,false⟩
noncomputable def CC:S:=(.cons (.asg [4] (.b2 (.cmp .eq) (.b2 (.bin .mod) J3 LL) I4)) (.cons (.asg [5] FN) (.cons (.asg [6] FQ) (.cons (.asg [7] gi) (.cons (.forR 8 I95 (.cons (.IF (.or (.b2 (.cmp .eq) Mp I8) I0) (.cons (.MM 7 (.Jj 64 CV)) (.cons (.IF J2 (.cons (.MM 7 (.Jj 64 CV)) .nil) .nil) .nil)) .nil) .nil)) (.cons (.IF J2 (.cons (.ret (.b2 (.bin .add) (.b2 (.bin .add) (.lst (.pos (.new 12 Q7) .nil)) KN) (.lst (.pos (.new 13 .nil) .nil)))) .nil) .nil) (.cons (.ret (.b2 (.bin .add) (.b2 (.bin .add) (.lst (.pos (.new 10 Q7) .nil)) KN) (.lst (.pos (.new 11 .nil) .nil)))) .nil)))))))
noncomputable def uT:Fn:=⟨"_law_tree",["tape", "depth", "n", "pairs", "flow", "anchor", "tag", "row", "k"],4,[],2,CC,false⟩
noncomputable def CB:S:=(.cons (.asg [4] (.Lj 59 60 (.kw 3 I2 (.kw 4 J3 (.kw 5 J2 .nil))))) (.cons (.for 5 (.b2 (.bin .add) (.b2 (.bin .add) C5 I0) C4) (.cons (.expr (.Kr 0 JR (.pos I9 .nil))) .nil)) (.cons (.ret (.Kr 58 (.u1 (.Jn 64) JR) .nil)) .nil)))
noncomputable def uS:Fn:=⟨"_law_text",["row", "step", "width", "wide", "emitter", "event"],4,[],2,CB,false⟩
noncomputable def Fi:S:=(.cons (.asg [2] M4) (.cons iI (.cons (.for 4 I0 (.cons FV (.cons (.J1 2 .add (.b2 (.bin .add) C3 JR)) (.cons (.asg [3] I9) .nil)))) (.cons (.ret J3) .nil))))
noncomputable def yi:Fn:=⟨"_law_moved",["text", "step", "moved", "fresh", "sign", "ends"],2,[],2,Fi,false⟩
noncomputable def HL:S:=(.cons (.ret (.lst (.pos FY .nil))) .nil)
noncomputable def yh:Fn:=⟨"_law_words",["word"],1,[],2,HL,false⟩
noncomputable def e9:S:=(.cons (.N0 1 (.slice I0 I7 wo) CU) (.cons (.asg [2] rF) (.cons (.asg [3] Gp) (.cons (.asg [4] FX) (.cons (.asg [5] Gv) (.cons (.asg [6] rF) (.cons (.asg [7] (.b2 (.bin .mod) I6 Oh)) (.cons Gb (.cons Gl (.cons Gm (.cons (.asg [11] Gs) (.cons (.asg [12] (.and zA (.u1 .not Mp))) (.cons (.asg [13] FK) (.cons (.IF (.or F7 Gg) zy .nil) (.cons (.asg [14] (.slice mH Oh (.n0 (.neg 4)))) (.cons (.asg [15] Gi) (.cons (.IF (.b2 (.cmp .eq) KN I8) (.cons (.asg [16] I40) (.cons (.asg [17] I66) .nil)) (.cons (.IF zA (.cons (.asg [16] F6) (.cons (.asg [17] FU) .nil)) (.cons (.IF (.b2 (.cmp .eq) KN LL) (.cons (.asg [16] F5) (.cons (.asg [17] Gx) .nil)) (.cons (.asg [16] (.b2 (.bin .add) (.Jj 68 (.pos M4 .nil)) Of)) (.cons (.asg [17] FE) .nil))) .nil)) (.cons (.asg [16] I41) (.cons (.asg [16] I91) (.cons (.asg [17] I84) .nil))))) (.cons (.ret I51) .nil))))))))))))))))))
noncomputable def EI:Fn:=⟨"law",["script", "tape", "head", "step", "wide", "width", "frame", "kind", "pairs", "ahead", "behind", "tree", "still", "alone", "body", "moved", "row", "due"],1,[],2,e9,false⟩
noncomputable def fns:List Fn:=[QO,f_1,f_2,ON,f_4,f_5,f_6,f_7,f_8,f_9,iF,yL,yK,yJ,yI,yH,yG,yF,yE,Cd,Cc,yD,Cb,uZ,yC,Ca,rd,B9,B8,yB,yA,EO,uY,lK,iD,yz,yy,EN,EM,EL,uX,yx,uW,q7,yw,yu,eF,gf,gc,EK,EJ,yt,yr,qZ,yq,yp,uV,yo,yn,B7,ym,yl,uU,yk,yj,uT,uS,yi,yh,EI]
noncomputable def eR:List Fn:=[QO,f_1,f_2,ON,f_4,f_5,f_6,f_7,f_8,f_9,iF,yL,yK,yJ,yI,yH,yG,yF,yE,Cd,Cc,yD,Cb,uZ,yC,Ca,rd,B9,B8,yB,yA,EO,uY,lK,iD,yz,yy,EN,EM,EL,uX,yx,uW,q7,yw,yu,eF,gf,gc,EK,EJ,yt,yr,qZ,yq,yp,uV,yo,yn,B7,ym,yl,uU,yk,yj,uT,uS,yi,yh]
noncomputable def Jx:List (Fn×List Nat):=[(⟨"__init__",["self", "start_mark", "end_mark"],3,[.nul,.nul],2,.nil,false⟩,[108,109]),
 (⟨"__init__",["self", "anchor", "start_mark", "end_mark"],4,[.nul,.nul],2,.nil,false⟩,[96,108,109]),
 (⟨"__init__",["self", "anchor", "tag", "implicit", "start_mark", "end_mark", "flow_style"],7,[.nul,.nul,.nul],2,.nil,false⟩,[96,97,98,108,109,95]),
 (⟨"__init__",["self", "start_mark", "end_mark"],3,[.nul,.nul],2,.nil,false⟩,[108,109]),
 (⟨"__init__",["self", "start_mark", "end_mark", "encoding"],4,[.nul,.nul,.nul],2,.nil,false⟩,[108,109,65]),
 (⟨"__init__",["self", "start_mark", "end_mark"],3,[.nul,.nul],2,.nil,false⟩,[108,109]),
 (⟨"__init__",["self", "start_mark", "end_mark", "explicit", "version", "tags"],6,[.nul,.nul,.nul,.nul,.nul],2,.nil,false⟩,[108,109,94,92,93]),
 (⟨"__init__",["self", "start_mark", "end_mark", "explicit"],4,[.nul,.nul,.nul],2,.nil,false⟩,[108,109,94]),
 (⟨"__init__",["self", "anchor", "start_mark", "end_mark"],4,[.nul,.nul],2,.nil,false⟩,[96,108,109]),
 (⟨"__init__",["self", "anchor", "tag", "implicit", "value", "start_mark", "end_mark", "style"],8,[.nul,.nul,.nul],2,.nil,false⟩,[96,97,98,99,108,109,91]),
 (⟨"__init__",["self", "anchor", "tag", "implicit", "start_mark", "end_mark", "flow_style"],7,[.nul,.nul,.nul],2,.nil,false⟩,[96,97,98,108,109,95]),
 (⟨"__init__",["self", "start_mark", "end_mark"],3,[.nul,.nul],2,.nil,false⟩,[108,109]),
 (⟨"__init__",["self", "anchor", "tag", "implicit", "start_mark", "end_mark", "flow_style"],7,[.nul,.nul,.nul],2,.nil,false⟩,[96,97,98,108,109,95]),
 (⟨"__init__",["self", "start_mark", "end_mark"],3,[.nul,.nul],2,.nil,false⟩,[108,109]),
 (⟨"__init__",["self", "scalar", "empty", "multiline", "allow_flow_plain", "allow_block_plain", "allow_single_quoted", "allow_double_quoted", "allow_block"],9,[],2,.nil,false⟩,[100,101,102,103,104,106,110,105])]
noncomputable def gF:List (List Nat):=[[0],[1,0],[2,1,0],[3,0],[4,0],[5,0],[6,0],[7,0],[8,1,0],[9,1,0],[10,2,1,0],[11,3,0],[12,2,1,0],[13,3,0],[14]]
noncomputable def uO:List String:=["stream", "encoding", "states", "state", "events", "event", "indents", "indent", "flow_level", "root_context", "sequence_context", "mapping_context", "simple_key_context", "line", "column", "whitespace", "indention", "open_ended", "canonical", "allow_unicode", "best_indent", "best_width", "best_line_break", "tag_prefixes", "prepared_anchor", "prepared_tag", "analysis", "style", "version", "tags", "explicit", "flow_style", "anchor", "tag", "implicit", "value", "scalar", "empty", "multiline", "allow_flow_plain", "allow_block_plain", "allow_block", "allow_single_quoted", "rows", "start_mark", "end_mark", "allow_double_quoted"]
end
section
open PySem PySem.W PySem.Calls PyProof.Rows
noncomputable def Jo(t:Tx):Zs:=⟨t.toArray⟩
structure Lay where
 P:Params
 K:Frag
 Jl:Nat->Addr
 Ju:Nat->Addr
 fn:Nat->Addr
 Kn:Addr
 Md:Addr
 nm:Nat->Zs
 gn:Nat->Zs
 cn:Nat->Zs
 pn:Nat->List Zs
 cp:Nat->List Zs
 sa:Addr
 so:Obj
noncomputable def cV:Nat:=59
noncomputable def kZ(e:Expr):List Expr:=(Lz e).ks
noncomputable def IS(n:Nat)(e:Expr):Expr:=(kZ e).getD n dE
noncomputable def KW(e:Expr):List Keyword:=(Lz e).ck
noncomputable def LY(e:Expr):List Expr:=(kZ e).tail
noncomputable def knd(e:Expr):Nat:=(Lz e).kn
noncomputable def Ma(e:Expr):Scope:=(Lz e).sc
noncomputable def Nw(e:Expr):Zs:=(Lz e).id
noncomputable def ij:Nq->CmpOp
 | .lt=>.Lt | .le=>.LtE | .gt=>.Gt | .ge=>.GtE | .eq=>.Eq | .ne=>.NotEq | .K2=>.In | .Ow=>.NotIn
noncomputable def vJ:Nr->Operator
 | .add=>.Add | .sub=>.Sub | .mul=>.Mult | .mod=>.Mod | .fdiv=>.FloorDiv
noncomputable def isA(y:Bool):CmpOp:=bif y then .Is else .IsNot
noncomputable def cE(c:Const)(e:Expr):Expr:=.Constant c (knd e) e.pos
noncomputable def nE(x:Zs)(e:Expr):Expr:=.Name x e.pos
noncomputable def bI(e:Expr):Bool:=Nat.beq (Lz e).t 5
noncomputable def Me(e:Expr):Bool:=!Nat.beq (Lz e).t 2
noncomputable def noC(e:Expr):Bool:=!Nat.beq (Lz e).t 3
noncomputable def dZ(e:Expr):Bool:=!Nat.beq (Lz e).t 1
noncomputable def line(a b:Expr):Bool:=a.pos.endLine==b.pos.line
noncomputable def dO(sc:Scope)(g:Zs):Bool:=sc.names.lookup g==some .globalImplicit&&!(g==("__debug__" : Zs))
noncomputable def cst:B->Const
 | .bool b=>.bool b | .int i=>.int i | .str s=>.str (Jo s) | _=>.none
noncomputable def op0(sl:List Zs)(o:O0)(e:Expr):Expr:=match o with
 | .stuck=>e
 | .cst v=>cE (cst v) e
 | .neg i=>.UnaryOp .USub (cE (.int i) (IS 0 e)) e.pos
 | .loc n=>nE (sl.getD n "") e
 | .NF=>nE (Nw e) e
noncomputable def ok0(sc:Scope)(o:O0)(e:Expr):Bool:=match o with
 | .NF=>sc.names.lookup (Nw e)==some .cell&&!(Nw e==("__debug__" : Zs))
 | .stuck=>Me e&&dZ e
 | .cst v=>(match v with | .nul=>true | .bool _=>true | .int _=>true | .str s=>decide (s.length<=1000) | _=>false)
 | _=>true
noncomputable def wL(o:O1)(e:Expr):Expr:=match o with
 | .len=>IS 1 e | .ord=>IS 1 e | .NM=>IS 1 e | .Kp _ _=>IS 1 e | .keys=>IS 0 (IS 0 (IS 1 e)) | .join=>IS 1 e | .O9=>IS 1 e | .MJ _=>IS 1 e | .pop _=>IS 0 (IS 0 e) | .LJ=>IS 0 (IS 0 (IS 0 e)) | _=>IS 0 e
noncomputable def mE(x:Expr)(nm:Zs)(as:List Expr)(ks:List Keyword)(e:Expr):Expr:=.Call (.Attribute x nm (IS 0 e).pos) as ks e.pos
noncomputable def gE(g:Zs)(as:List Expr)(ks:List Keyword)(e:Expr):Expr:=.Call (nE g (IS 0 e)) as ks e.pos
noncomputable def op1(Y:Lay)(o:O1)(x e:Expr):Expr:=match o with
 | .not=>.UnaryOp .Not x e.pos
 | .isNone y=>.Compare x [isA y] [cE .none (IS 1 e)] e.pos
 | .Jn n=>.Attribute x (Y.nm n) e.pos
 | .len=>gE "len" [x] [] e
 | .ord=>gE "ord" [x] [] e
 | .NM=>gE "str" [x] [] e
 | .Kp tup cs=>gE "isinstance" [x,bif tup then .Tuple ((cs.zip (kZ (IS 2 e))).map λp=>nE (Y.cn p.1) p.2) (knd (IS 2 e)) (IS 2 e).pos else nE (Y.cn (cs.headD 0)) (IS 2 e)] [] e
 | .keys=>gE "sorted" [mE x "keys" [] [] (IS 1 e)] [] e
 | .join=>mE (cE (.str "") (IS 0 (IS 0 e))) "join" [x] [] e
 | .MJ t=>.BinOp (cE (.str (Jo t)) (IS 0 e)) .Mod x e.pos
 | .pop fr=>mE x "pop" (bif fr then [cE (.int 0) (IS 1 e)] else []) [] e
 | .Lh k=>.Attribute x (Y.nm k) e.pos
 | .O9=>.Subscript (nE "_law_PIECES" (IS 0 e)) x e.pos
 | .LJ=>mE (.Attribute x "DEFAULT_TAG_PREFIXES" (IS 0 (IS 0 e)).pos) "copy" [] [] e
noncomputable def DJ(Y:Lay)(sc:Scope)(o:O1)(x e:Expr):Bool:=match o with
 | .Jn n=>bI x&&decide (64<=n/\n < 126)
 | .len=>dO sc "len"
 | .ord=>dO sc "ord"
 | .NM=>dO sc "str"
 | .Kp tup cs=>dO sc "isinstance" && cs.all (λd=>decide (d < 14)&&dO sc (Y.cn d))&&(bif tup then decide (cs.length<=100)&&(kZ (IS 2 e)).length==cs.length else cs.length==1)
 | .keys=>dO sc "sorted" && bI x&&line (IS 0 (IS 1 e)) (IS 1 e)
 | .join=>line (IS 0 e) e
 | .pop _=>bI x&&line (IS 0 e) e
 | .Lh k=>bI x&&decide (k < 57)
 | .LJ=>bI x&&line (IS 0 e) e
 | .O9=>dO sc "_law_PIECES"
 | _=>true
noncomputable def n9(o:O2)(e:Expr):Expr:=match o with
 | .Nj .ss=>IS 0 (IS 0 e) | .starts=>IS 0 (IS 0 e) | _=>IS 0 e
noncomputable def n8(o:O2)(e:Expr):Expr:=match o with
 | .Nj .ss=>IS 0 (IS 1 e) | .K3=>IS 0 (IS 1 e) | _=>IS 1 e
noncomputable def fvE(x e:Expr):Expr:=.FormattedValue x 115 none e.pos
noncomputable def op2(o:O2)(x y e:Expr):Expr:=match o with
 | .cmp o=>.Compare x [ij o] [y] e.pos
 | .bin o=>.BinOp x (vJ o) y e.pos
 | .idx=>.Subscript x y e.pos
 | .Nj .ss=>.JoinedStr [fvE x (IS 0 e),fvE y (IS 1 e)] e.pos
 | .starts=>mE x "startswith" [y] [] e
 | .pair=>.Tuple [x,y] (knd e) e.pos
 | .inL=>.Compare x [.In] [y] e.pos
 | .K3=>.Compare x [.In] [.Attribute y "ESCAPE_REPLACEMENTS" (IS 1 e).pos] e.pos
noncomputable def tH(o:O2)(x y e:Expr):Bool:=match o with
 | .cmp o=>!behindInMarks (ij o) y | .inL=>!behindInMarks .In y | .K3=>bI y | .starts=>bI x&&line (IS 0 e) e | _=>true
noncomputable def jM:E->Bool
 | .n0 (.cst .nul)=>true | _=>false
noncomputable def ui(o:BoolOp):E->Bool
 | .and _ _=>o==.And | .or _ _=>o==.Or | _=>false
noncomputable def tlE(o:BoolOp)(e:Expr):Expr:=.BoolOp o (LY e) e.pos
noncomputable def iY(e:Expr):Bool:=match kZ e with | [_,_]=>true | _=>false
noncomputable def Ql(o:BoolOp)(x y e:Expr):Expr:=.BoolOp o (x::bif iY e then [y] else kZ y) e.pos
noncomputable def QA(o:BoolOp)(e:Expr):Expr:=bif iY e then IS 1 e else tlE o e
noncomputable def m9(sc:Scope)(x:Zs):Bool:=sc.names.all (λy=>!(y.2==.free)&&!(y.2==.cell)&&(!(y.2==.local)||sc.names.lookup y.1==some .local))&&sc.kind==.function&&sc.names.lookup x==some .local&&!(x==("__debug__" : Zs))
noncomputable def DH(Kf sc:Scope)(x:Zs):Bool:=sc.names.all (λy=>!(y.2==.cell)&&((!(y.2==.free)||Kf.names.lookup y.1==some .cell)&&(!(y.2==.local)||sc.names.lookup y.1==some .local)))&&(sc.kind==.function&&(sc.names.lookup x==some .local&&!(x==("__debug__" : Zs))))
noncomputable def rlS(sc:Scope):Scope:={ sc with names:=sc.names.map λy=>if y.2==.free then(y.1,.cell) else y}
noncomputable def hJ(as:List Expr)(ks:List Keyword):Expr:=.Call dE as ks dP
noncomputable def kwX(k:Option Zs)(x:Expr)(h:Expr):Keyword:=⟨k,x,((KW h).headD ⟨none,dE,dP⟩).pos⟩
noncomputable def hdE(h:Expr):Expr:=(LY h).headD dE
noncomputable def tlH(h:Expr):Expr:=hJ (LY h).tail (KW h)
noncomputable def hdK(h:Expr):Expr:=((KW h).headD ⟨none,dE,dP⟩).value
noncomputable def tlK(h:Expr):Expr:=hJ (LY h) (KW h).tail
noncomputable def IX(Y:Lay):E->List Zs->List Zs->Expr->Expr
 | .n0 o,sl,_,e=>op0 sl o e
 | .u1 o a,sl,_,e=>op1 Y o (IX Y a sl [] (wL o e)) e
 | .b2 o a b,sl,_,e=>op2 o (IX Y a sl [] (n9 o e)) (IX Y b sl [] (n8 o e)) e
 | .slice a x y,sl,_,e=>.Subscript (IX Y a sl [] (IS 0 e)) (.Slice (bif jM x then none else some (IX Y x sl [] (IS 0 (IS 1 e)))) (bif jM y then none else some (IX Y y sl [] (IS 1 (IS 1 e)))) none (IS 1 e).pos) e.pos
 | .and a b,sl,_,e=>Ql .And (IX Y a sl [] (IS 0 e)) (IX Y b sl [] (QA .And e)) e
 | .or a b,sl,_,e=>Ql .Or (IX Y a sl [] (IS 0 e)) (IX Y b sl [] (QA .Or e)) e
 | .IF t a b,sl,_,e=>.IfExp (IX Y t sl [] (IS 0 e)) (IX Y a sl [] (IS 1 e)) (IX Y b sl [] (IS 2 e)) e.pos
 | .JX o p a b d,sl,_,e=>.Compare (IX Y a sl [] (IS 0 e)) [ij o,ij p] [IX Y b sl [] (IS 1 e),IX Y d sl [] (IS 2 e)] e.pos
 | .new c as,sl,_,e=>gE (Y.cn c) (LY (IX Y as sl (Y.cp c) e)) (KW (IX Y as sl (Y.cp c) e)) e
 | .call k a as,sl,_,e=>mE (IX Y a sl [] (IS 0 (IS 0 e))) (Y.nm k) (LY (IX Y as sl (Y.pn k) e)) (KW (IX Y as sl (Y.pn k) e)) e
 | .KI k a,sl,_,e=>mE (IX Y a sl [] (IS 0 (IS 0 e))) (Y.nm k) [] [] e
 | .Jj k as,sl,_,e=>gE (Y.gn k) (LY (IX Y as sl (Y.pn k) e)) (KW (IX Y as sl (Y.pn k) e)) e
 | .Kr k a as,sl,_,e=>mE (IX Y a sl [] (IS 0 (IS 0 e))) (Y.nm k) (LY (IX Y as sl (Y.pn k) e)) (KW (IX Y as sl (Y.pn k) e)) e
 | .Lj _ q as,sl,_,e=>gE "Emitter" [gE "Rows" [] [] (IS 1 e)] (KW (IX Y as sl (Y.pn q) (hJ [] (KW e)))) e
 | .lst as,sl,_,e=>.List (LY (IX Y as sl [] (hJ (kZ e) []))) e.pos
 | .comp s b,sl,_,e=>.ListComp (IX Y b [Nw (IS 1 e)] [] (IS 0 e)) [⟨nE (Nw (IS 1 e)) (IS 1 e),gE "range" [IX Y s sl [] (IS 1 (IS 2 e))] [] (IS 2 e),[],0⟩] (Ma e) e.pos
 | .OP a k,sl,_,e=>.Subscript (.Attribute (IX Y a sl [] (IS 0 (IS 0 e))) "ESCAPE_REPLACEMENTS" (IS 0 e).pos) (nE (sl.getD k "") (IS 1 e)) e.pos
 | .nil,_,_,_=>hJ [] []
 | .pos a r,sl,ps,h=>hJ (IX Y a sl [] (hdE h)::LY (IX Y r sl ps (tlH h))) (KW (IX Y r sl ps (tlH h)))
 | .kw k a r,sl,ps,h=>hJ [] (kwX ps[k]? (IX Y a sl [] (hdK h)) h::KW (IX Y r sl ps (tlK h)))
noncomputable def Jy(Y:Lay)(sc:Scope):E->List Zs->List Zs->Expr->Bool
 | .n0 o,_,_,e=>ok0 sc o e
 | .u1 o a,sl,_,e=>Jy Y sc a sl [] (wL o e)&&DJ Y sc o (IX Y a sl [] (wL o e)) e
 | .b2 o a b,sl,_,e=>Jy Y sc a sl [] (n9 o e)&&(Jy Y sc b sl [] (n8 o e)&&tH o (IX Y a sl [] (n9 o e)) (IX Y b sl [] (n8 o e)) e)
 | .slice a x y,sl,_,e=>Jy Y sc a sl [] (IS 0 e)&&(Jy Y sc x sl [] (IS 0 (IS 1 e))&&Jy Y sc y sl [] (IS 1 (IS 1 e)))
 | .and a b,sl,_,e=>Jy Y sc a sl [] (IS 0 e)&&(Jy Y sc b sl [] (QA .And e)&&(iY e||ui .And b))
 | .or a b,sl,_,e=>Jy Y sc a sl [] (IS 0 e)&&(Jy Y sc b sl [] (QA .Or e)&&(iY e||ui .Or b))
 | .IF t a b,sl,_,e=>Jy Y sc t sl [] (IS 0 e)&&(Jy Y sc a sl [] (IS 1 e)&&Jy Y sc b sl [] (IS 2 e))
 | .JX o p a b d,sl,_,e=>Jy Y sc a sl [] (IS 0 e)&&(Jy Y sc b sl [] (IS 1 e)&&(Jy Y sc d sl [] (IS 2 e)&&!lastMarks [ij o,ij p] [IX Y b sl [] (IS 1 e),IX Y d sl [] (IS 2 e)]))
 | .new c as,sl,_,e=>Jy Y sc as sl (Y.cp c) e&&dO sc (Y.cn c)
 | .call k a as,sl,_,e=>Jy Y sc a sl [] (IS 0 (IS 0 e))&&(Jy Y sc as sl (Y.pn k) e&&(bI (IX Y a sl [] (IS 0 (IS 0 e)))&&(line (IS 0 e) e&&decide (k < cV/\(LY (IX Y as sl (Y.pn k) e)).length+(KW (IX Y as sl (Y.pn k) e)).length < 20))))
 | .KI k a,sl,_,e=>Jy Y sc a sl [] (IS 0 (IS 0 e))&&(bI (IX Y a sl [] (IS 0 (IS 0 e)))&&(line (IS 0 e) e&&decide (64<=k/\k < 126)))
 | .Jj k as,sl,_,e=>Jy Y sc as sl (Y.pn k) e&&dO sc (Y.gn k)
 | .Kr k a as,sl,_,e=>Jy Y sc a sl [] (IS 0 (IS 0 e))&&(Jy Y sc as sl (Y.pn k) e&&(bI (IX Y a sl [] (IS 0 (IS 0 e)))&&(line (IS 0 e) e&&decide (k < cV/\(LY (IX Y as sl (Y.pn k) e)).length+(KW (IX Y as sl (Y.pn k) e)).length < 20))))
 | .Lj k q as,sl,_,e=>Jy Y sc as sl (Y.pn q) (hJ [] (KW e))&&(dO sc "Emitter" && (dO sc "Rows" && decide (k=cV/\q=cV+1)))
 | .lst as,sl,_,e=>Jy Y sc as sl [] (hJ (kZ e) [])
 | .comp s b,sl,_,e=>Jy Y sc s sl [] (IS 1 (IS 2 e))&&(Jy Y (rlS (Ma e)) b [Nw (IS 1 e)] [] (IS 0 e)&&(DH sc (Ma e) (Nw (IS 1 e))&&dO sc "range"))
 | .OP a _,sl,_,e=>Jy Y sc a sl [] (IS 0 (IS 0 e))&&bI (IX Y a sl [] (IS 0 (IS 0 e)))
 | .nil,_,_,_=>true
 | .pos a r,sl,ps,h=>Jy Y sc a sl [] (hdE h)&&Jy Y sc r sl ps (tlH h)
 | .kw k a r,sl,ps,h=>Jy Y sc a sl [] (hdK h)&&(Jy Y sc r sl ps (tlK h)&&decide (k < ps.length))
noncomputable def PZ(Y:Lay)(s b:E)(sl:List Zs)(e:Expr):Expr:=.ListComp (IX Y b [Nw (IS 1 e)] [] (IS 0 e)) [⟨nE (Nw (IS 1 e)) (IS 1 e),IX Y s sl [] (IS 2 e),[],0⟩] (Ma e) e.pos
noncomputable def okC(Y:Lay)(sc:Scope)(s b:E)(sl:List Zs)(e:Expr):Bool:=Jy Y sc s sl [] (IS 2 e)&&(Jy Y (Ma e) b [Nw (IS 1 e)] [] (IS 0 e)&&m9 (Ma e) (Nw (IS 1 e)))
noncomputable def dS:Stmt:=.Pass dP
noncomputable def nT:Nr->Bool
 | .add=>true | .sub=>true | _=>false
noncomputable def sP(s:Stmt):List Expr:=(Qr s).ks
noncomputable def az(n:Nat)(s:Stmt):Expr:=(sP s).getD n dE
noncomputable def cP(s:Stmt):List Stmt:=(Qr s).a
noncomputable def Fh(s:Stmt):List Stmt:=(Qr s).b
noncomputable def bP(b:List Stmt):Stmt:=.While dE b [] dP
noncomputable def A3(nm:Zs)(k e:Expr):Bool:=k.pos.line==e.pos.line&&!((Ma e).names.any λy=>y.1==nm&&(y.2==.local||y.2==.cell))
noncomputable def toS(Y:Lay)(sl:List Zs):S->Stmt->Stmt
 | .nil,_=>bP []
 | .cons s r,h=>bP (toS Y sl s ((cP h).headD dS)::cP (toS Y sl r (bP (cP h).tail)))
 | .stuck,s=>s
 | .pass,s=>.Pass s.pos
 | .expr e,s=>.Expr (IX Y e sl [] (az 0 s)) s.pos
 | .asg ns e,s=>.Assign ((ns.zip (sP s).tail).map λp=>nE (sl.getD p.1 "") p.2) (IX Y e sl [] (az 0 s)) s.pos
 | .N0 k a b,s=>.Assign [nE (sl.getD k "") (az 1 s)] (PZ Y a b sl (az 0 s)) s.pos
 | .IP n o e,s=>.Assign [.Attribute (IX Y o sl [] (IS 0 (az 1 s))) (Y.nm n) (az 1 s).pos] (IX Y e sl [] (az 0 s)) s.pos
 | .J1 n o e,s=>.AugAssign (nE (sl.getD n "") (az 1 s)) (vJ o) (IX Y e sl [] (az 0 s)) s.pos
 | .Ke n p o e,s=>.AugAssign (.Attribute (IX Y o sl [] (IS 0 (az 1 s))) (Y.nm n) (az 1 s).pos) (vJ p) (IX Y e sl [] (az 0 s)) s.pos
 | .MM n e,s=>.AugAssign (nE (sl.getD n "") (az 1 s)) .Add (IX Y e sl [] (az 0 s)) s.pos
 | .app o e,s=>.Expr (mE (IX Y o sl [] (IS 0 (IS 0 (az 0 s)))) "append" [IX Y e sl [] (IS 1 (az 0 s))] [] (az 0 s)) s.pos
 | .IF t a b,s=>.If (IX Y t sl [] (az 0 s)) (cP (toS Y sl a (bP (cP s)))) (cP (toS Y sl b (bP (Fh s)))) s.pos
 | .while t b,s=>.While (IX Y t sl [] (az 0 s)) (cP (toS Y sl b (bP (cP s)))) [] s.pos
 | .for n e b,s=>.For (nE (sl.getD n "") (az 0 s)) (IX Y e sl [] (az 1 s)) (cP (toS Y sl b (bP (cP s)))) [] s.pos
 | .forR n e b,s=>.For (nE (sl.getD n "") (az 0 s)) (gE "range" [IX Y e sl [] (IS 1 (az 1 s))] [] (az 1 s)) (cP (toS Y sl b (bP (cP s)))) [] s.pos
 | .ret e,s=>.Return (some (IX Y e sl [] (az 0 s))) s.pos
 | .Mc,s=>.Return none s.pos
noncomputable def toB(Y:Lay)(sl:List Zs)(i:S)(b:List Stmt):List Stmt:=cP (toS Y sl i (bP b))
noncomputable def cB:S->Bool
 | .nil=>false | .cons _ _=>false | _=>true
noncomputable def Oo:S->Bool
 | .cons s r=>cB s&&(Oo s&&(!cB r&&Oo r)) | .IF _ a b=>!cB a&&(Oo a&&(!cB b&&Oo b)) | .while _ b=>!cB b&&Oo b | .for _ _ b=>!cB b&&Oo b | .forR _ _ b=>!cB b&&Oo b
 | _=>true
noncomputable def f9(Y:Lay)(sl:List Zs)(sc:Scope):S->Stmt->Bool
 | .nil,_=>true
 | .cons s r,h=>f9 Y sl sc s ((cP h).headD dS)&&f9 Y sl sc r (bP (cP h).tail)
 | .stuck,_=>true
 | .pass,_=>true
 | .expr e,s=>Jy Y sc e sl [] (az 0 s)&&noC (IX Y e sl [] (az 0 s))
 | .asg ns e,s=>Jy Y sc e sl [] (az 0 s)&&(noC (IX Y e sl [] (az 0 s))&&decide (ns≠[]/\ns.length=(sP s).tail.length)&&ns.all λk=>decide (k < sl.length))
 | .N0 k a b,s=>okC Y sc a b sl (az 0 s)&&(decide (k < sl.length)&&A3 (sl.getD k "") (az 1 s) (az 0 s))
 | .IP _ o e,s=>Jy Y sc o sl [] (IS 0 (az 1 s))&&(Jy Y sc e sl [] (az 0 s)&&noC (IX Y e sl [] (az 0 s)))
 | .J1 _ o e,s=>Jy Y sc e sl [] (az 0 s)&&nT o
 | .Ke n p o e,s=>Jy Y sc o sl [] (IS 0 (az 1 s))&&(Jy Y sc e sl [] (az 0 s)&&(nT p&&decide (64<=n/\n < 126)))
 | .MM _ e,s=>Jy Y sc e sl [] (az 0 s)
 | .app o e,s=>Jy Y sc o sl [] (IS 0 (IS 0 (az 0 s)))&&(Jy Y sc e sl [] (IS 1 (az 0 s))&&(bI (IX Y o sl [] (IS 0 (IS 0 (az 0 s))))&&line (IS 0 (az 0 s)) (az 0 s)))
 | .IF t a b,s=>Jy Y sc t sl [] (az 0 s)&&(f9 Y sl sc a (bP (cP s))&&f9 Y sl sc b (bP (Fh s)))
 | .while t b,s=>Jy Y sc t sl [] (az 0 s)&&f9 Y sl sc b (bP (cP s))
 | .for k e b,s=>Jy Y sc e sl [] (az 1 s)&&(decide (k < sl.length)&&f9 Y sl sc b (bP (cP s)))
 | .forR k e b,s=>Jy Y sc e sl [] (IS 1 (az 1 s))&&(decide (k < sl.length)&&(dO sc "range" && f9 Y sl sc b (bP (cP s))))
 | .ret e,s=>Jy Y sc e sl [] (az 0 s)
 | .Mc,_=>true
noncomputable def okB(Y:Lay)(sl:List Zs)(sc:Scope)(i:S)(b:List Stmt):Bool:=f9 Y sl sc i (bP b)
theorem dX(t:Tx):(Jo t).length=t.length:=rfl
theorem jw(t:Tx):(Jo t).cps.toList=t:=rfl
theorem jv{a b:Tx}(h:Jo a=Jo b):a=b:=kh (λs:Zs=>s.cps.toList) h
theorem m5(x:Zs):Jo x.cps.toList=x:=rfl
theorem xj(a b:Tx):(Jo a==Jo b)=(a==b):=Bool.eq_iff_iff.mpr ⟨λh=>beq_iff_eq.mpr (jv (lf h)),λh=>beq_iff_eq.mpr (kh Jo (lf h))⟩
theorem IJ{α β:Type}{G:Prop}{o:Option α}{f:α->Option β}{b:β}(h:o.bind f=some b)(k:∀a,o=some a->f a=some b->G):G:=let ⟨a,x,y⟩:=Option.bind_eq_some_iff.mp h;k a x y
theorem JD{α β:Type}{G:Prop}{o:Option α}{f:α->β}{b:β}(h:o.map f=some b)(k:∀a,o=some a->f a=b->G):G:=let ⟨a,x,y⟩:=Option.map_eq_some_iff.mp h;k a x y
theorem LW{α:Type}{G:Prop}{o p:Option α}{a:α}(h:o.or p=some a)(k:o=some a->G)(k':p=some a->G):G:=(Option.or_eq_some_iff.mp h).elim k λh=>k' h.2
theorem Km{α:Type}{G:Prop}{b:Bool}{x y:α}(h:ag b x=some y)(k:b=true->x=y->G):G:=Bool.rec (motive:=λb=>ag b x=some y->(b=true->x=y->G)->G) (λh J=>nS h) (λh k=>k rfl (ke h)) b h k
theorem yEl{α:Type}{G:Prop}{o:Option α}{p:α->Bool}(h:o.any p=true)(k:∀a,o=some a->p a=true->G):G:=Option.rec (motive:=λo=>o.any p=true->(∀a,o=some a->p a=true->G)->G) (λh J=>nomatch h) (λa h k=>k a rfl h) o h k
theorem aEl{a b:Bool}{G:Prop}(h:(a&&b)=true)(k:a=true->b=true->G):G:=k (ma h).1 (ma h).2
theorem dEl{p:Prop}{_:Decidable p}(h:decide p=true):p:=km h
inductive IE{α β:Type}(R:α->β->Prop):List α->List β->Prop
 | nil:IE R [] []
 | cons {a b l k}:R a b->IE R l k->IE R (a::l) (b::k)
section
variable{α β:Type}{R R':α->β->Prop}{l l':List α}{k k':List β}
theorem IE.mono(h:∀a b,R a b->R' a b)(x:IE R l k):IE R' l k:=by
 induction x with
 | nil=>exact .nil
 | cons r _ ih=>exact .cons (h _ _ r) ih
theorem IE.length(x:IE R l k):l.length=k.length:=by
 induction x with
 | nil=>rfl
 | cons _ _ ih=>exact kh (·+1) ih
theorem IE.app(x:IE R l k)(y:IE R l' k'):IE R (l++l') (k++k'):=by
 induction x with
 | nil=>exact y
 | cons r _ ih=>exact .cons r ih
theorem IE.snoc{a b}(h:IE R l k)(x:R a b):IE R (l++[a]) (k++[b]):=h.app (.cons x .nil)
theorem IE.rev(x:IE R l k):IE R l.reverse k.reverse:=by
 induction x with
 | nil=>exact .nil
 | cons r _ ih=>(refine(List.reverse_cons)▸?_;refine(List.reverse_cons).symm▸?_);exact ih.snoc r
theorem IE.drop(x:IE R l k):∀n,IE R (l.drop n) (k.drop n):=by
 induction x with
 | nil=>intro n;(refine(List.drop_nil).symm▸?_;refine(List.drop_nil).symm▸?_);exact .nil
 | cons r x ih=>intro n;cases n with | zero=>exact .cons r x | succ n=>exact ih n
theorem IE.take(x:IE R l k):∀n,IE R (l.take n) (k.take n):=by
 induction x with
 | nil=>intro n;(refine(List.take_nil).symm▸?_;refine(List.take_nil).symm▸?_);exact .nil
 | cons r x ih=>intro n;cases n with | zero=>exact .nil | succ n=>exact .cons r (ih n)
theorem IE.set{a b}(x:IE R l k)(r:R a b):∀i:Nat,IE R (l.set i a) (k.set i b):=by
 induction x with
 | nil=>exact λJ=>.nil
 | cons r' x ih=>intro i;cases i with | zero=>exact .cons r x | succ i=>exact .cons r' (ih i)
theorem IE.flip(x:IE R l k):IE (λb a=>R a b) k l:=by
 induction x with
 | nil=>exact .nil
 | cons r _ ih=>exact .cons r ih
theorem IE.get{a}(x:IE R l k){i:Nat}(h:l[i]?=some a):∃b,k[i]?=some b/\R a b:=by
 induction x generalizing i with
 | nil=>exact nS h
 | cons r x ih=>
  cases i with
  | zero=>obtain rfl:=ke h;exact⟨_,rfl,r⟩
  | succ i=>exact ih h
theorem IE.mapL{γ:Type}{f:γ->α}{l:List γ}(x:IE (λa b=>R (f a) b) l k):IE R (l.map f) k:=by
 induction x with
 | nil=>exact .nil
 | cons r _ ih=>exact .cons r ih
theorem IE.last{a}(x:IE R l k)(h:l.getLast?=some a):∃b,k=k.dropLast++[b]/\R a b/\IE R l.dropLast k.dropLast:=by
 have y:=x.rev
 rw[<- List.head?_reverse]at h
 (refine(List.reverse_reverse k)▸?_;refine(List.dropLast_reverse)▸?_;refine(List.reverse_reverse l)▸?_;refine(List.dropLast_reverse).symm▸?_)
 revert h
 generalize l.reverse=u at y
 generalize k.reverse=v at y
 cases y with
 | nil=>exact nS
 | cons r y=>intro h;obtain rfl:=ke h;exact⟨_,List.reverse_cons,r,y.rev⟩
theorem IE.empty(h:IE R l k):k.isEmpty=l.isEmpty:=by cases h <;> rfl
end
noncomputable abbrev C6(xs:List Value)(n:Nat):Obj:={ cls:=.type "tuple",data:=.seq xs.toArray n}
noncomputable abbrev aK(xs:List Value)(n:Nat):Obj:=listOf xs.toArray n
noncomputable abbrev Led:=List (Addr×Obj)
structure AM where
 cur:List Addr
 Jf:List (List Addr)
abbrev AM.le(a b:AM):Prop:=
 (∀(i:Nat) x,a.cur[i]?=some x->b.cur[i]?=some x)/\
 (∀(j:Nat) l,a.Jf[j]?=some l->∃l',b.Jf[j]?=some l'/\∀(i:Nat) x,l[i]?=some x->l'[i]?=some x)
section
variable{a b:AM}(zz:AM.le a b)
def AM.le.cur:=zz.1
def AM.le.Jf:=zz.2
end
theorem AM.le.rfl{a:AM}:a.le a:=⟨λJ J h=>h,λJ l h=>⟨l,h,λJ J h=>h⟩⟩
theorem AM.le.trans{a b c:AM}(h:a.le b)(k:b.le c):a.le c:=
 ⟨λi x e=>k.cur i x (h.cur i x e),λj l e=>(h.Jf j l e).elim λl' p=>(k.Jf j l' p.1).elim λl'' q=>⟨l'',q.1,λi x e=>q.2 i x (p.2 i x e)⟩⟩
inductive Jw(s:Tx):Value->Prop
 | mk (t:Tok):s.length<=IU->Jw s (.str (Jo s) t)
inductive dk(i:Int):Value->Prop
 | mk (t:Tok):dk i (.int i t)
inductive Lw(φ:Led)(P:List Value->Prop):Value->Prop
 | mk {q xs n}:(q,C6 xs n)∈φ->P xs->Lw φ P (.ref q)
inductive K7(p:Value->Prop)(r:List Value->Prop):List Value->Prop
 | mk {y ys}:p y->r ys->K7 p r (y::ys)
structure EnR(P:Params)(p:Tx×Tx)(e:DictEntry):Prop where
 k:Jw p.1 e.key
 h:e.hash=PyData.keyHash P (Jo p.1)
 v:Jw p.2 e.val
noncomputable abbrev dl(P:Params)(l:List (Tx×Tx))(es:List DictEntry):Prop:=IE (EnR P) l es
structure DR(P:Params)(l:List (Tx×Tx))(es:List DictEntry):Prop where
 r:dl P l es
 le:l.length<=60
 nd:(l.map (·.1)).Nodup
noncomputable def LK(P:Params)(φ:Led):B->Value->Prop
 | .nul=>λx=>x=.none
 | .bool b=>λx=>x=.bool b
 | .int i=>dk i
 | .str s=>Jw s
 | .bb a b=>Lw φ (·=[.bool a,.bool b])
inductive PO(Y:Lay)(φ:Led)(c:Nat)(f:List (Nat×B)):Value->Prop
 | mk {q d es n}:c < 15->(q,instObj (Y.Ju c) d)∈φ->(d,dictOf es n)∈φ->(∀a v,f.lookup a=some v->a < 128/\∃y,getL (Y.nm a) es=some (some y)/\LK Y.P φ v y)->PO Y φ c f (.ref q)
inductive CO(Y:Lay)(φ:Led)(am:AM)(k i:Nat):Value->Prop
 | mk {q a}:k < 57->am.cur[i]?=some a->(q,methodObj (.ref (Y.fn k)) (.ref a))∈φ->CO Y φ am k i (.ref q)
inductive kC(am:AM)(i:Nat):Value->Prop
 | mk {a}:am.cur[i]?=some a->kC am i (.ref a)
inductive EmX(am:AM)(j i:Nat):Value->Prop
 | mk {l a}:am.Jf[j]?=some l->l[i]?=some a->EmX am j i (.ref a)
inductive TcR(Y:Lay)(φ:Led)(a:V)(p:Value->Prop)(r:List Value->Prop):Value->Prop
 | tup {x}:Lw φ (K7 p r) x->TcR Y φ a p r x
 | scr {xs}:a=.uu->(Y.so.cls=.type "list" /\ ∃n,Y.so.data=.seq xs.toArray n)->r xs->xs.length<=IU->TcR Y φ a p r (.ref Y.sa)
noncomputable def VRT(Y:Lay)(φ:Led)(am:AM)(v:V):(Value->Prop)×(List Value->Prop):=
 V.rec (motive:=λJ=>(Value->Prop)×(List Value->Prop)) (λJ=>False,λJ=>False) (λy=>(LK Y.P φ y,λJ=>False)) (λc f=>(PO Y φ c f,λJ=>False))
  (λk i=>(CO Y φ am k i,λJ=>False)) (λi=>(kC am i,λJ=>False)) (λj i=>(EmX am j i,λJ=>False))
  (Lw φ (·=[]),(·=[])) (λa J p r=>(TcR Y φ a p.1 r.2,K7 p.1 r.2)) v
noncomputable abbrev VR(Y:Lay)(φ:Led)(am:AM)(v:V)(x:Value):Prop:=(VRT Y φ am v).1 x
noncomputable abbrev Mw(Y:Lay)(φ:Led)(am:AM)(v:V)(xs:List Value):Prop:=(VRT Y φ am v).2 xs
section
variable{Y:Lay}{φ Kw:Led}{am Mm:AM}
theorem Lw.mono{P P':List Value->Prop}(h:∀p∈φ,p∈Kw)(k:∀xs,P xs->P' xs){x:Value}(r:Lw φ P x):Lw Kw P' x:=by cases r with | mk m c=>exact .mk (h _ m) (k _ c)
theorem LK.mono{P:Params}(h:∀p∈φ,p∈Kw){v:B}{x:Value}:LK P φ v x->LK P Kw v x:=by
 cases v with
 | bb=>exact Lw.mono h λJ=>id
 | _=>exact id
theorem PO.mono(h:∀p∈φ,p∈Kw){c f x}(r:PO Y φ c f x):PO Y Kw c f x:=by
 cases r with | mk lt m m' g=>exact .mk lt (h _ m) (h _ m') λa v hv=>⟨(g a v hv).1,(g a v hv).2.imp λy r=>⟨r.1,r.2.mono h⟩⟩
theorem VRT.mono(h:∀p∈φ,p∈Kw)(v:V)(k:N4 v=true∨am.le Mm):(∀x,VR Y φ am v x->VR Y Kw Mm v x)/\∀xs,Mw Y φ am v xs->Mw Y Kw Mm v xs:=by
 induction v with
 | uu=>exact⟨λJ=>id,λJ=>id⟩
 | b y=>exact⟨λJ=>LK.mono (P:=Y.P) h,λJ=>id⟩
 | rc c f=>exact⟨λJ=>PO.mono h,λJ=>id⟩
 | IA c i=>exact⟨λx r=>k.elim (λz=>nomatch z) λk=>by cases r with | mk l e m=>exact .mk l (k.cur _ _ e) (h _ m),λJ=>id⟩
 | ref i=>exact⟨λx r=>k.elim (λz=>nomatch z) λk=>by cases r with | mk e=>exact .mk (k.cur _ _ e),λJ=>id⟩
 | em j i=>exact⟨λx r=>k.elim (λz=>nomatch z) λk=>by cases r with | mk e e'=>exact(k.Jf j _ e).elim λl' p=>.mk p.1 (p.2 _ _ e'),λJ=>id⟩
 | NL=>exact⟨λx=>Lw.mono h λJ=>id,λJ=>id⟩
 | Ka a r iha ihr=>
  have ha:=iha (k.imp (λe=>(ma e).1) id)
  have hr:=ihr (k.imp (λe=>(ma e).2) id)
  have hc:∀xs,K7 (VR Y φ am a) (Mw Y φ am r) xs->K7 (VR Y Kw Mm a) (Mw Y Kw Mm r) xs:=λxs r=>by cases r with | mk c d=>exact .mk (ha.1 _ c) (hr.2 _ d)
  exact⟨λx z=>by cases z with | tup z=>exact .tup (z.mono h hc) | scr e e' z l=>exact .scr e e' (hr.2 _ z) l,hc⟩
theorem K7.el{p:Value->Prop}{r:List Value->Prop}{G:List Value->Prop}{xs:List Value}(h:K7 p r xs)(k:∀y ys,p y->r ys->G (y::ys)):G xs:=by cases h with | mk a b=>exact k _ _ a b
theorem Mw.el{a r:V}{G:List Value->Prop}{xs:List Value}(h:Mw Y φ am (.Ka a r) xs)(k:∀y ys,VR Y φ am a y->Mw Y φ am r ys->G (y::ys)):G xs:=K7.el (p:=VR Y φ am a) (r:=Mw Y φ am r) h k
theorem Mw.mk{a b:V}{x:Value}{xs:List Value}(r:VR Y φ am a x)(q:Mw Y φ am b xs):Mw Y φ am (.Ka a b) (x::xs):=K7.mk (p:=VR Y φ am a) (r:=Mw Y φ am b) r q
theorem VR.scrE{r:V}{x:Value}{G:Value->Prop}(h:VR Y φ am (.Ka .uu r) x)(k:∀xs,(Y.so.cls=.type "list" /\ ∃n,Y.so.data=.seq xs.toArray n)->Mw Y φ am r xs->xs.length<=IU->G (.ref Y.sa)):G x:=by
 have h':TcR Y φ .uu (λJ=>False) (Mw Y φ am r) x:=h
 cases h' with
 | tup h=>cases h with | mk m c=>cases c with | mk c=>exact c.elim
 | scr _ o c l=>exact k _ o c l
theorem VR.mono(h:∀p∈φ,p∈Kw)(k:am.le Mm){v:V}{x:Value}(r:VR Y φ am v x):VR Y Kw Mm v x:=(VRT.mono h v (.inr k)).1 x r
theorem VR.free{v:V}{x:Value}(hv:N4 v=true)(r:VR Y φ am v x):VR Y φ Mm v x:=(VRT.mono (λJ h=>h) v (.inl hv)).1 x r
noncomputable def adr(c:Led):Addr:=(c.head?.map (·.1)).getD 0
noncomputable def FR(Y:Lay)(φ:Led)(am:AM)(f:List (Nat×V))(es:List DictEntry):Prop:=
 ∀n,n < 128->(∀v,f.lookup n=some v->∃y,getL (Y.nm n) es=some (some y)/\VR Y φ am v y)/\(f.lookup n=none->getL (Y.nm n) es=some none)
inductive OR(Y:Lay)(φ:Led)(am:AM):Ob->Led->Prop
 | lst {l a xs n}:IE (VR Y φ am) l xs->l.length<=IU->OR Y φ am (.lst l) [(a,aK xs n)]
 | LH {l a es n}:DR Y.P l es->OR Y φ am (.LH l) [(a,dictOf es n)]
 | ins {k f a d es n}:k < 2->FR Y φ am f es->es.length<=f.length->f.length<=100->OR Y φ am (.ins k f) [(a,instObj (Y.Jl k) d),(d,dictOf es n)]
theorem FR.mono{f:List (Nat×V)}{es:List DictEntry}(h:∀p∈φ,p∈Kw)(k:am.le Mm)(r:FR Y φ am f es):FR Y Kw Mm f es:=
 λn hn=>⟨λv hv=>((r n hn).1 v hv).imp λJ z=>⟨z.1,z.2.mono h k⟩,(r n hn).2⟩
theorem OR.mono{o:Ob}{c:Led}(h:∀p∈φ,p∈Kw)(k:am.le Mm)(r:OR Y φ am o c):OR Y Kw Mm o c:=by
 cases r with
 | lst r z=>exact .lst (r.mono λJ J q=>q.mono h k) z
 | LH d=>exact .LH d
 | ins a b c d=>exact .ins a (b.mono h k) c d
theorem OR.lstE{G:Prop}{l:List V}{c:Led}(r:OR Y φ am (.lst l) c)(k:∀a xs n,c=[(a,aK xs n)]->IE (VR Y φ am) l xs->l.length<=IU->G):G:=by cases r with | lst r z=>exact k _ _ _ rfl r z
theorem OR.dctE{G:Prop}{l:List (Tx×Tx)}{c:Led}(r:OR Y φ am (.LH l) c)(k:∀a es n,c=[(a,dictOf es n)]->DR Y.P l es->G):G:=by cases r with | LH d=>exact k _ _ _ rfl d
theorem OR.Ls{G:Prop}{i:Nat}{f:List (Nat×V)}{c:Led}(r:OR Y φ am (.ins i f) c)(k:∀a d es n,c=[(a,instObj (Y.Jl i) d),(d,dictOf es n)]->i < 2->FR Y φ am f es->es.length<=f.length->f.length<=100->G):G:=by cases r with | ins a b c d=>exact k _ _ _ _ rfl a b c d
end
structure Ad where
 cur:List Led
 Jf:List (List Led)
noncomputable def Ad.am(a:Ad):AM:=⟨a.cur.map adr,a.Jf.map (·.map adr)⟩
noncomputable def Ad.led(a:Ad):Led:=a.cur.flatten++a.Jf.flatten.flatten
section
variable{Y:Lay}{φ Kw:Led}{am Mm:AM}
noncomputable def RR(Y:Lay)(φ:Led)(R:List Ob)(c:List Led):Prop:=IE (OR Y φ ⟨c.map adr,[]⟩) R c
structure Rep(Y:Lay)(φ:Led)(st:St)(ad:Ad):Prop where
 cur:IE (OR Y φ ad.am) st.cur ad.cur
 Jf:IE (RR Y φ) st.Jf ad.Jf
theorem RR.mono{R:List Ob}{c:List Led}(h:∀p∈φ,p∈Kw)(r:RR Y φ R c):RR Y Kw R c:=IE.mono (λJ J q=>q.mono h .rfl) r
theorem Rep.mono{st:St}{ad:Ad}(h:∀p∈φ,p∈Kw)(r:Rep Y φ st ad):Rep Y Kw st ad:=⟨r.cur.mono λJ J q=>q.mono h .rfl,r.Jf.mono λJ J q=>q.mono h⟩
end
abbrev Inv(hB:Heap)(L:Addr)(m:Zs->Option Value)(h:Heap)(ad:Ad)(φ:Led):Prop:=
 Fr hB L h m/\
 News hB L h (ad.led++φ)/\
 ((ad.led++φ).map (·.1)).Nodup/\
 (∀p∈ad.led++φ,hB.objs.size<=p.1)
section
variable{hB:Heap}{L:Addr}{m:Zs->Option Value}{h:Heap}{ad:Ad}{φ:Led}(zz:Inv hB L m h ad φ)
def Inv.fr:=zz.1
def Inv.nw:=zz.2.1
def Inv.nd:=zz.2.2.1
def Inv.lo:=zz.2.2.2
end
theorem cz(n:Zs)(e:DictEntry)(r:List DictEntry):getL n (e::r)=bif e.key.isStr n then some (some e.val) else bif e.refKey then(getL n r).bind (Option.rec none λv=>some (some v)) else getL n r:=by
 unfold getL
 (refine(List.find?_cons)▸?_;refine(List.any_cons)▸?_)
 cases e.key.isStr n with
 | true=>rfl
 | false=>
  cases r.find? _ with
  | some e'=>cases e.refKey <;> rfl
  | none=>cases e.refKey <;> cases r.any _ <;> rfl
theorem qL{v:Value}{a b:Zs}(h1:v.isStr a=true)(h2:v.isStr b=true):a=b:=by
 cases v with
 | str s t=>exact(lf h1).symm.trans (lf h2)
 | _=>exact JA h1
theorem iP(n:Zs)(hs:Int)(k v:Value)(e:DictEntry)(r:List DictEntry):putL n hs k v (e::r)=bif e.key.isStr n then⟨e.hash,e.key,v⟩::r else e::putL n hs k v r:=by
 show(if e.key.isStr n=true then _ else _)=_
 cases e.key.isStr n with | true=>rfl | false=>rfl
theorem d9(n o:Zs)(hs:Int)(t:Tok)(v:Value)(es:List DictEntry):getL o (putL n hs (.str n t) v es)=bif n==o then some (some v) else getL o es:=by
 induction es with
 | nil=>show getL o [⟨hs,.str n t,v⟩]=_;rw[cz];rfl
 | cons e r ih=>
  rw[iP]
  cases h:e.key.isStr n with
  | true=>
   rw[cond_true,cz,cz]
   show(bif e.key.isStr o then some (some v) else bif e.refKey then _ else _)=_
   cases ho:e.key.isStr o with
   | true=>(refine(qL h ho).symm▸?_;rw[beq_self_eq_true]);rfl
   | false=>
    cases NB:n==o with
    | true=>rw[lf NB,ho]at h;exact JA h
    | false=>rfl
  | false=>
   (rewrite[cond_false];rewrite[cz];rewrite[cz];refine(ih)▸?_)
   cases NB:n==o with
   | true=>(refine(lf NB)▸?_;refine(h)▸?_);cases e.refKey <;> rfl
   | false=>rfl
theorem gN(n:Zs)(hs:Int)(t:Tok)(v:Value)(es:List DictEntry):(putL n hs (.str n t) v es).length<=es.length+1/\(∀y,getL n es=some (some y)->(putL n hs (.str n t) v es).length=es.length):=by
 induction es with
 | nil=>exact⟨mf 1,λy h=>nomatch h⟩
 | cons e r ih=>
  rw[iP,cz]
  cases h:e.key.isStr n with
  | true=>exact⟨mw _,λJ J=>rfl⟩
  | false=>
   refine⟨mj ih.1,λy h=>kh (·+1) ?_⟩
   cases he:e.refKey with
   | false=>rw[he]at h;exact ih.2 y h
   | true=>
    rw[he]at h
    refine IJ h λa h1 h2=>?_
    cases a with
    | none=>exact nS h2
    | some z=>exact ih.2 z h1
section
variable{Y:Lay}{φ Kw:Led}{am Mm:AM}{v:V}{x:Value}{G:Prop}
theorem kA{x:B}:Nl v=some x->v=.b x:=V.casesOn (motive:=λv=>Nl v=some x->v=.b x) v nS (λJ h=>kh _ (ke h)) (λJ J=>nS) (λJ J=>nS) (λJ=>nS) (λJ J=>nS) nS (λJ J=>nS)
theorem rA{x:Nat}:jh v=some x->v=.ref x:=V.casesOn (motive:=λv=>jh v=some x->v=.ref x) v nS (λJ=>nS) (λJ J=>nS) (λJ J=>nS) (λJ h=>kh _ (ke h)) (λJ J=>nS) nS (λJ J=>nS)
theorem nP{p:Nat×Nat}:j9 v=some p->v=.IA p.1 p.2:=V.casesOn (motive:=λv=>j9 v=some p->v=.IA p.1 p.2) v nS (λJ=>nS) (λJ J=>nS) (λa b h=>kh (λp:Nat×Nat=>V.IA p.1 p.2) (ke h)) (λJ=>nS) (λJ J=>nS) nS (λJ J=>nS)
theorem vV{p:Nat×Nat}:CH v=some p->v=.em p.1 p.2:=V.casesOn (motive:=λv=>CH v=some p->v=.em p.1 p.2) v nS (λJ=>nS) (λJ J=>nS) (λJ J=>nS) (λJ=>nS) (λa b h=>kh (λp:Nat×Nat=>V.em p.1 p.2) (ke h)) nS (λJ J=>nS)
theorem vU{p:Nat×List (Nat×B)}:nO v=some p->v=.rc p.1 p.2:=V.casesOn (motive:=λv=>nO v=some p->v=.rc p.1 p.2) v nS (λJ=>nS) (λa b h=>kh (λp:Nat×List (Nat×B)=>V.rc p.1 p.2) (ke h)) (λJ J=>nS) (λJ=>nS) (λJ J=>nS) nS (λJ J=>nS)
theorem rB{o:Ob}{x:List V}:l8 o=some x->o=.lst x:=Ob.casesOn (motive:=λo=>l8 o=some x->o=.lst x) o (λJ h=>kh _ (ke h)) (λJ=>nS) (λJ J=>nS)
theorem rC{o:Ob}{x:List (Tx×Tx)}:mA o=some x->o=.LH x:=Ob.casesOn (motive:=λo=>mA o=some x->o=.LH x) o (λJ=>nS) (λJ h=>kh _ (ke h)) (λJ J=>nS)
theorem ji{o:Ob}{p:Nat×List (Nat×V)}:mz o=some p->o=.ins p.1 p.2:=Ob.casesOn (motive:=λo=>mz o=some p->o=.ins p.1 p.2) o (λJ=>nS) (λJ=>nS) (λa b h=>kh (λp:Nat×List (Nat×V)=>Ob.ins p.1 p.2) (ke h))
theorem str?_inv{b:B}{x:Tx}:b.str?=some x->b=.str x:=B.casesOn (motive:=λb=>b.str?=some x->b=.str x) b nS (λJ=>nS) (λJ=>nS) (λJ h=>kh _ (ke h)) (λJ J=>nS)
theorem int?_inv{b:B}{x:Int}:b.int?=some x->b=.int x:=B.casesOn (motive:=λb=>b.int?=some x->b=.int x) b nS (λJ=>nS) (λJ h=>kh _ (ke h)) (λJ=>nS) (λJ J=>nS)
theorem bool?_inv{b:B}{x:Bool}:b.bool?=some x->b=.bool x:=B.casesOn (motive:=λb=>b.bool?=some x->b=.bool x) b nS (λJ h=>kh _ (ke h)) (λJ=>nS) (λJ=>nS) (λJ J=>nS)
theorem bb?_inv{b:B}{p:Bool×Bool}:b.bb?=some p->b=.bb p.1 p.2:=B.casesOn (motive:=λb=>b.bb?=some p->b=.bb p.1 p.2) b nS (λJ=>nS) (λJ=>nS) (λJ=>nS) (λa b h=>kh (λp:Bool×Bool=>B.bb p.1 p.2) (ke h))
theorem jA{s:Tx}{c:Nat}(h:one s=some c):s=[c]:=by
 cases s with
 | nil=>exact nS h
 | cons a r=>cases r with | nil=>obtain rfl:=ke h;rfl | cons=>exact nS h
theorem xw{b:B}(h:b.isNul=true):b=.nul:=by cases b <;> first | rfl | exact JA h
theorem VR.B{b:B}(r:VR Y φ am v x)(h:Nl v=some b):LK Y.P φ b x:=(kA h▸r:VR Y φ am (.b b) x)
theorem VR.int{i:Int}(r:VR Y φ am v x)(h:dG v=some i):dk i x:=IJ h λJ h1 h2=>(int?_inv h2▸r.B h1:LK Y.P φ (.int i) x)
theorem VR.str{s:Tx}(r:VR Y φ am v x)(h:aQ v=some s):Jw s x:=IJ h λJ h1 h2=>(str?_inv h2▸r.B h1:LK Y.P φ (.str s) x)
theorem VR.bb{p:Bool×Bool}(r:VR Y φ am v x)(h:Fv v=some p):Lw φ (·=[.bool p.1,.bool p.2]) x:=IJ h λJ h1 h2=>(bb?_inv h2▸r.B h1:LK Y.P φ (.bb p.1 p.2) x)
theorem VR.ch{c:Nat}(r:VR Y φ am v x)(h:vW v=some c):Jw [c] x:=IJ h λJ h1 h2=>(jA h2▸r.str h1)
theorem tL(h:aU v=true):v=.b .nul:=yEl h λJ h1 h2=>xw h2▸kA h1
theorem VR.nul(r:VR Y φ am v x)(h:aU v=true):x=.none:=(tL h▸r:VR Y φ am (.b .nul) x)
theorem VR.rc{p:Nat×List (Nat×Internal.B)}(r:VR Y φ am v x)(h:nO v=some p):PO Y φ p.1 p.2 x:=(vU h▸r:VR Y φ am (.rc p.1 p.2) x)
theorem VR.shape(r:VR Y φ am v x):(v=.b .nul/\x=.none)∨((∀i,x≠.builtin i)/\x≠.none/\handedIn x=true):=by
 have tup:∀{P},Lw φ P x->(∀i,x≠.builtin i)/\x≠.none/\handedIn x=true:=λr=>by cases r;exact⟨nofun,nofun,rfl⟩
 cases v with
 | uu=>exact r.elim
 | b y=>
  cases y with
  | nul=>exact .inl ⟨rfl,r⟩
  | bool b=>cases r;exact .inr ⟨nofun,nofun,rfl⟩
  | int=>cases r;exact .inr ⟨nofun,nofun,rfl⟩
  | str=>cases r;exact .inr ⟨nofun,nofun,rfl⟩
  | bb=>exact .inr (tup r)
 | rc=>cases r;exact .inr ⟨nofun,nofun,rfl⟩
 | IA=>cases r;exact .inr ⟨nofun,nofun,rfl⟩
 | ref=>cases r;exact .inr ⟨nofun,nofun,rfl⟩
 | em=>cases r;exact .inr ⟨nofun,nofun,rfl⟩
 | NL=>exact .inr (tup r)
 | Ka a b=>
  have r:TcR Y φ a (VR Y φ am a) (Mw Y φ am b) x:=r
  cases r with | tup r=>exact .inr (tup r) | scr=>exact .inr ⟨nofun,nofun,rfl⟩
theorem VR.handed(r:VR Y φ am v x):handedIn x=true:=r.shape.elim (λh=>h.2▸rfl) λh=>h.2.2
end
noncomputable def Ad.set(a:Ad)(i:Nat)(c:Led):Ad:=⟨a.cur.set i c,a.Jf⟩
noncomputable def Ad.add(a:Ad)(c:Led):Ad:=⟨a.cur++[c],a.Jf⟩
theorem gJ{α:Type}{l:List α}{i:Nat}{a:α}(h:l[i]?=some a):l.set i a=l:=(kj h).elim λhi e=>e▸List.set_getElem_self hi
theorem dA{α β:Type}{l:List α}{i:Nat}{a:α}(f:α->β)(h:l[i]?=some a):(l.map f)[i]?=some (f a):=by (refine(List.getElem?_map)▸?_;refine(h)▸?_);rfl
theorem Ad.Qy{ad:Ad}{i:Nat}{c c':Led}(h:ad.cur[i]?=some c)(e:adr c'=adr c):(ad.set i c').am=ad.am:=by
 show(⟨(ad.cur.set i c').map adr,ad.am.Jf⟩:AM)=ad.am
 (refine(List.map_set)▸?_;refine(e)▸?_;refine(gJ (dA adr h)).symm▸?_);rfl
theorem tU{p:Addr×Obj}{l:Led}{a:Addr}(h:p∈l)(e:p.1=a):a∈l.map (·.1):=e▸List.mem_map_of_mem h
theorem Ad.Mn{ad:Ad}{c:Led}:ad.am.le (ad.add c).am:=⟨λi x e=>by
 show((ad.cur++[c]).map adr)[i]?=_
 (refine(List.map_append)▸?_);exact(List.getElem?_append_left (kj e).1).trans e,λJ l h=>⟨l,h,λJ J h=>h⟩⟩
theorem Ad.split{ad:Ad}{i:Nat}{c:Led}(h:ad.cur[i]?=some c):∃A B:Led,ad.led=A++(c++B)/\∀c',(ad.set i c').led=A++(c'++B):=by
 have hi:=(kj h).1
 have go:∀c',(ad.set i c').led=(ad.cur.take i).flatten++(c'++((ad.cur.drop (i+1)).flatten++ad.Jf.flatten.flatten)):=λc'=>by
  show(ad.cur.set i c').flatten++_=_
  (refine(List.set_eq_take_append_cons_drop)▸?_;refine(if_pos hi)▸?_;refine(List.flatten_append).symm▸?_;refine(List.flatten_cons).symm▸?_;rewrite[lu];rw[lu]);rfl
 refine⟨_,_,?_,go⟩
 (refine(go c)▸?_)
 exact kh (λl:List Led=>l.flatten++ad.Jf.flatten.flatten) (gJ h).symm
theorem Ad.mem{ad:Ad}{i:Nat}{c:Led}(h:ad.cur[i]?=some c){p:Addr×Obj}(hp:p∈c):p∈ad.led:=
 lh (.inl (List.mem_flatten.mpr ⟨c,ly h,hp⟩))
theorem Ad.memE{ad:Ad}{j i:Nat}{cs:List Led}{c:Led}(h:ad.Jf[j]?=some cs)(h':cs[i]?=some c){p:Addr×Obj}(hp:p∈c):p∈ad.led:=
 lh (.inr (List.mem_flatten.mpr ⟨c,List.mem_flatten.mpr ⟨cs,ly h,ly h'⟩,hp⟩))
theorem Ad.K4{ad:Ad}{c φ:Led}:((ad.add c).led++φ).Perm (c++(ad.led++φ)):=by
 show(((ad.cur++[c]).flatten++ad.Jf.flatten.flatten)++φ).Perm (c++((ad.cur.flatten++ad.Jf.flatten.flatten)++φ))
 (refine(List.flatten_append).symm▸?_;refine(List.flatten_singleton)▸?_;rewrite[lu];rewrite[lu];rw[lu])
 exact List.perm_append_comm_assoc _ _ _
section
variable{hB:Heap}{L:Addr}{m m':Zs->Option Value}{h h':Heap}{ad QY:Ad}{φ Kw up:Led}{it:Addr}{o o':Obj}{G:Prop}
theorem Upd.at:∀(pre:Led){post:Led},((pre++(it,o)::post).map (·.1)).Nodup->Upd it o o' (pre++(it,o)::post) (pre++(it,o')::post)
 | [],_,h=>.head λp hp e=>(List.nodup_cons.mp h).1 (tU hp e)
 | _::pre,_,h=>.tail (λe=>(List.nodup_cons.mp h).1 (tU (lh (.inr (.head _)):(it,o)∈_) e.symm)) (Upd.at pre (List.nodup_cons.mp h).2)
theorem Inv.get(I:Inv hB L m h ad φ){a:Addr}{o:Obj}(k:(a,o)∈ad.led++φ):h.get? a=some o:=(I.nw _ k).1
theorem Inv.above(I:Inv hB L m h ad φ):hB.objs.size<=h.objs.size:=kg I.fr.above (Nat.le_of_lt I.fr.ns.lt)
theorem Inv.perm{mid:Led}(I:Inv hB L m h ad φ)(e:(ad.led++φ).Perm (mid++(QY.led++Kw))):Inv hB L m h QY Kw:=by
 have hm:∀p∈QY.led++Kw,p∈ad.led++φ:=λp hp=>e.mem_iff.mpr (lh (.inr hp))
 have hn:=(e.map (·.1)).nodup_iff.mp I.nd
 rw[List.map_append,List.nodup_append]at hn
 exact⟨I.fr,λp hp=>I.nw p (hm p hp),hn.2.1,λp hp=>I.lo p (hm p hp)⟩
theorem Inv.more{c:Led}(I:Inv hB L m h ad φ)(F':Fr hB L h' m)(N':News hB L h' (c++(ad.led++φ)))(hc:(c.map (·.1)).Nodup)(hn:∀p∈c,∀q∈ad.led++φ,q.1≠p.1)(hl:∀p∈c,hB.objs.size<=p.1)(e:(QY.led++Kw).Perm (c++(ad.led++φ))):Inv hB L m h' QY Kw:=by
 refine⟨F',λp hp=>N' p (e.mem_iff.mp hp),((e.map (·.1)).nodup_iff).mpr ?_,λp hp=>(mx (e.mem_iff.mp hp)).elim (hl p) (I.lo p)⟩
 (refine(List.map_append)▸?_;rw[List.nodup_append])
 exact⟨hc,I.nd,λa ha b hb hab=>(List.mem_map.mp ha).elim λp hp=>(List.mem_map.mp hb).elim λq hq=>hn p hp.1 q hq.1 (hq.2.trans (hab.symm.trans hp.2.symm))⟩
theorem Inv.one(I:Inv hB L m h ad φ){q:Addr}(hq:h.objs.size<=q)(F':Fr hB L h' m)(N':News hB L h' ((q,o)::(ad.led++φ)))(e:(QY.led++Kw).Perm ((q,o)::(ad.led++φ))):Inv hB L m h' QY Kw:=
 I.more (c:=[(q,o)]) F' N' (List.nodup_cons.mpr ⟨mn,.nil⟩) (λp hp r hr e=>Nat.lt_irrefl _ (li (Heap.lt_size (I.nw r hr).1) (e▸ku hp▸hq))) (λp hp=>ku hp▸kg I.above hq) e
theorem Inv.push(I:Inv hB L m h ad φ)(o:Obj)(hf:o.isFreed=false:=by rfl):Inv hB L m (h.push o) ad φ:=⟨I.fr.push o,λp hp=>I.nw.push I.fr o hf p (.tail _ hp),I.nd,I.lo⟩
theorem Inv.upd{i:Nat}{pre post:Led}(I:Inv hB L m h ad φ)(hc:ad.cur[i]?=some (pre++(it,o)::post))(o':Obj)(k:Upd it o o' (ad.led++φ) ((ad.set i (pre++(it,o')::post)).led++φ)->
  (∀h',Fr hB L h' m->News hB L h' ((ad.set i (pre++(it,o')::post)).led++φ)->Inv hB L m h' (ad.set i (pre++(it,o')::post)) φ)->G):G:=by
 obtain⟨A,B,e1,e2⟩:=Ad.split hc
 have e3:∀o,A++(pre++(it,o)::post++B)++φ=(A++pre)++(it,o)::(post++(B++φ)):=λo=>by simp only[lu,List.cons_append]
 have nd:=I.nd
 have lo:=I.lo
 rw[e1,e3]at nd lo
 have U:=Upd.at (o':=o') _ nd
 rw[<- e3,<- e3,<- e1,<- e2]at U
 refine k U λh' F' N'=>⟨F',N',?_,λq hq=>?_⟩
 ·(rewrite[e2];rewrite[e3];refine(List.map_append)▸?_;refine(List.map_cons)▸?_);rw[List.map_append,List.map_cons]at nd;exact nd
 ·rw[e2,e3]at hq
  exact(mx hq).elim (λh=>lo q (lh (.inl h))) λh=>(kq h).elim (λe=>e▸lo (it,o) (lh (.inr (.head _)))) λh=>lo q (lh (.inr (.tail _ h)))
theorem aC:(ad.led++(φ++(it,o)::up)).Perm ((it,o)::(ad.led++(φ++up))):=((List.perm_middle (l₁:=φ)).append_left _).trans List.perm_middle
theorem dI:((ad.led++(φ++(it,o)::up)).map (·.1)).Perm (it::(ad.led++(φ++up)).map (·.1)):=aC.map _
theorem Inv.addUp(I:Inv hB L m h ad (φ++up))(o:Obj)(hf:o.isFreed=false):Inv hB L m (h.push o) ad (φ++((h.objs.size,o)::up)):=I.one (mf _) (I.fr.push o) (I.nw.push I.fr o hf) aC
theorem Inv.MH(I:Inv hB L m h ad (φ++((it,o)::up))):(it ∉ (ad.led++(φ++up)).map (·.1))/\((ad.led++(φ++up)).map (·.1)).Nodup:=List.nodup_cons.mp (dI.nodup_iff.mp I.nd)
theorem Inv.L3(I:Inv hB L m h ad (φ++((it,o)::up))):h.get? it=some o/\it≠L/\hB.get? it=none:=I.nw _ (aC.mem_iff.mpr (.head _))
theorem Inv.L9(I:Inv hB L m h ad (φ++((it,o)::up)))(hs:Heap.SameBut it h h')(ho:h'.get? it=some o'):Inv hB L m h' ad (φ++((it,o')::up)):=by
 have z:=I.L3
 refine⟨I.fr.change hs z.2.1 z.2.2,λp hp=>?_,dI.nodup_iff.mpr (List.nodup_cons.mpr I.MH),λp hp=>?_⟩
 ·refine(kq (aC.mem_iff.mp hp)).elim (λe=>e▸⟨ho,z.2⟩) λhp=>?_
  have q:=I.nw p (aC.mem_iff.mpr (.tail _ hp))
  exact⟨(hs.2 _ λe=>I.MH.1 (tU hp e)).trans q.1,q.2⟩
 ·exact(kq (aC.mem_iff.mp hp)).elim (λe=>e▸I.lo (it,o) (aC.mem_iff.mpr (.head _))) λhp=>I.lo p (aC.mem_iff.mpr (.tail _ hp))
theorem Inv.OQ(I:Inv hB L m h ad (φ++((it,o)::up)))(hs:Heap.ExtBut it h h'):Inv hB L m h' ad (φ++up):=by
 have z:=I.L3
 refine⟨⟨I.fr.ns.extBut hs (Ne.symm z.2.1),λb x e=>hs b x (λeb=>nomatch (eb▸e:hB.get? it=some x)▸z.2.2) (I.fr.keep b x e),I.fr.above⟩,λp hp=>?_,I.MH.2,λp hp=>I.lo p (aC.mem_iff.mpr (.tail _ hp))⟩
 have q:=I.nw p (aC.mem_iff.mpr (.tail _ hp))
 exact⟨hs _ _ (λe=>I.MH.1 (tU hp e)) q.1,q.2⟩
theorem Inv.QQ(I:Inv hB L m h ad (φ++((it,o)::up))):Inv hB L m h ad (φ++up):=I.OQ (h':=h) λJ J J e=>e
end
structure Wd where
 prog:Program
 w:World
 Y0:Lay
 hB:Heap
 p:Program
 loose:List Zs
 mg:Zs->Option Value
 mb:Zs->Option Value
noncomputable abbrev Wd.Y(W:Wd):Lay:={ W.Y0 with P:=W.w.params}
structure Cf extends Wd where
 sl:List Zs
 sc:Scope
 cn:Zs
 L:Addr
 fa:Option Addr
 fr:Option Addr
 cd:Value
 c:Cx
 n:Nat
 hs:Bool
 cells:List (Zs×Addr):=[]
noncomputable abbrev Cf.M(C:Cf):Model:=model C.prog C.w
noncomputable abbrev Cf.env(C:Cf):Env:={ scope:=C.sc,locals:=C.L,globals:=mainGlobals,cells:=C.cells,qual:=C.cn,func:=C.fa,code:=C.cd,frame:=C.fr,builtins:=builtinsNs}
structure Bk where
 A:Around
 X:Value->Shared->Prop
 l:List V
 m:Zs->Option Value
noncomputable abbrev dC:=List (Bool×Addr×Obj)
structure Pt where
 s:Shared
 ad:Ad
 φ:Led
 up:dC
noncomputable abbrev Pt.ul(p:Pt):Led:=p.up.map (·.2)
noncomputable abbrev Pt.mv(p:Pt)(h:Heap)(tk:Tok)(ad:Ad)(φ:Led):Pt:=⟨{ p.s with heap:=h,toks:=tk},ad,φ,p.up⟩
noncomputable abbrev Pt.tk(p:Pt)(tk:Tok):Pt:=p.mv p.s.heap tk p.ad p.φ
noncomputable abbrev Cf.V(C:Cf)(p:Pt)(v:V)(x:Value):Prop:=VR C.Y p.φ p.ad.am v x
structure At(C:Cf)(m:Zs->Option Value)(st:St)(p:Pt):Prop where
 inv:Inv C.hB C.L m p.s.heap p.ad (p.φ++p.ul)
 rep:Rep C.Y p.φ st p.ad
abbrev Od(x y:Bool×Addr×Obj):Prop:=
 y.1=x.1/\
 y.2.1=x.2.1/\
 (y.2.2=x.2.2∨(x.1=true/\∃sl,y.2.2={ x.2.2 with slots:=sl}))
section
variable{x y:Bool×Addr×Obj}(zz:Od x y)
def Od.b:=zz.1
def Od.a:=zz.2.1
def Od.o:=zz.2.2
end
noncomputable abbrev KS(u v:dC):Prop:=IE Od u v
theorem KS.rfl:∀{u:dC},KS u u
 | []=>.nil
 | _::_=>.cons ⟨Eq.refl _,Eq.refl _,.inl (Eq.refl _)⟩ KS.rfl
theorem Od.trans{a b c:Bool×Addr×Obj}(h:Od a b)(k:Od b c):Od a c:=⟨k.b.trans h.b,k.a.trans h.a,k.o.elim (λe=>e▸h.o) λ⟨d,sl,e⟩=>h.o.elim (λe'=>.inr ⟨h.b▸d,sl,e'▸e⟩) λ⟨d',sl',e'⟩=>.inr ⟨d',sl,by (refine(e)▸?_;exact(e')▸rfl)⟩⟩
theorem KS.trans{u v:dC}(h:KS u v):∀{w:dC},KS v w->KS u w:=by
 induction h with
 | nil=>exact λk=>by cases k;exact .nil
 | cons r _ ih=>exact λk=>by cases k with | cons r' k=>exact .cons (r.trans r') (ih k)
structure To(p q:Pt):Prop where
 sub:∀z∈p.φ,z∈q.φ
 am:p.ad.am.le q.ad.am
 up:KS p.up q.up
 sh:q.s={ p.s with heap:=q.s.heap,toks:=q.s.toks}
noncomputable def CR(C:Cf)(p:Pt):Prop:=∀n,C.sc.names.lookup n=some .cell->∃ca oc x,C.cells.lookup n=some ca/\(ca,oc)∈p.φ/\oc.data=.cell (some x)/\C.V p C.c.NF x
noncomputable abbrev LR(C:Cf)(p:Pt)(l:List V)(m:Zs->Option Value):Prop:=
 (∀(i:Nat)(v:V),l[i]?=some v->v≠.uu->∃n x,C.sl[i]?=some n/\m n=some x/\C.V p v x)/\CR C p
abbrev KA(A:Around)(n:Nat):Prop:=
 A.depth+2*n+2 < recursionLimit/\
 A.units+20*n+20 < cLine/\
 A.handled=none
section
variable{A:Around}{n:Nat}(zz:KA A n)
def KA.d:=zz.1
def KA.u:=zz.2.1
def KA.h:=zz.2.2
end
structure Pre(C:Cf)(K:Bk)(st:St)(p:Pt):Prop where
 rm:C.hs=true->KA K.A C.n
 lr:LR C p K.l K.m
 at':At C K.m st p
section
variable{C:Cf}{K:Bk}{m:Zs->Option Value}{st II st'':St}{p q r:Pt}{v:V}{x:Value}{l:List V}{G:Prop}{t0:Tok}
theorem To.rfl:To p p:=⟨λJ h=>h,.rfl,.rfl,Eq.refl _⟩
theorem To.trans(a:To p q)(b:To q r):To p r:=⟨λz h=>b.sub z (a.sub z h),a.am.trans b.am,a.up.trans b.up,by (refine(b.sh)▸?_;rw[a.sh])⟩
theorem To.mv{h:Heap}{ad:Ad}{φ:Led}(a:∀z∈p.φ,z∈φ)(b:p.ad.am.le ad.am):To p (p.mv h t0 ad φ):=⟨a,b,.rfl,Eq.refl _⟩
theorem To.tk:To p (p.tk t0):=⟨λJ h=>h,.rfl,.rfl,Eq.refl _⟩
theorem To.h{h:Heap}:To p (p.mv h t0 p.ad p.φ):=⟨λJ h=>h,.rfl,.rfl,Eq.refl _⟩
theorem To.vr(t:To p q)(r:C.V p v x):C.V q v x:=r.mono t.sub t.am
theorem To.all{vs:List V}{xs:List Value}(t:To p q)(r:IE (C.V p) vs xs):IE (C.V q) vs xs:=r.mono λJ J=>t.vr
theorem CR.to(r:CR C p)(t:To p q):CR C q:=λn a=>(r n a).imp λJ=>Exists.imp λJ=>Exists.imp λJ z=>⟨z.1,t.sub _ z.2.1,z.2.2.1,t.vr z.2.2.2⟩
theorem CR.no(h:∀y∈C.sc.names,y.2≠.cell):CR C p:=λn a=>(h _ (mem_of_lookup a) rfl).elim
theorem LR.to(r:LR C p l m)(t:To p q):LR C q l m:=⟨λi v a b=>(r.1 i v a b).imp λJ=>Exists.imp λJ z=>⟨z.1,z.2.1,t.vr z.2.2⟩,r.2.to t⟩
theorem At.tk(a:At C m st p):At C m st (p.tk t0):=⟨a.inv,a.rep⟩
theorem Pre.to(P:Pre C K st p)(t:To p q)(a:At C K.m II q):Pre C K II q:=⟨P.rm,P.lr.to t,a⟩
theorem At.push(a:At C m st p)(o:Obj)(hf:o.isFreed=false:=by rfl):At C m st (p.mv (p.s.heap.push o) t0 p.ad p.φ):=⟨a.inv.push o hf,a.rep⟩
theorem At.h{h:Heap}(a:At C m st p)(F':Fr C.hB C.L h m)(N':News C.hB C.L h (p.ad.led++(p.φ++p.ul))):At C m st (p.mv h t0 p.ad p.φ):=⟨⟨F',N',a.inv.nd,a.inv.lo⟩,a.rep⟩
theorem At.freeze{h:Heap}{o:Obj}{z:Addr}(a:At C m st p)(hz:p.s.heap.objs.size<=z)(F':Fr C.hB C.L h m)(N':News C.hB C.L h ((z,o)::(p.ad.led++(p.φ++p.ul))))(k:To p (p.mv h t0 p.ad ((z,o)::p.φ))->At C m st (p.mv h t0 p.ad ((z,o)::p.φ))->G):G:=
 k (.mv (λJ h=>.tail _ h) .rfl) ⟨a.inv.one hz F' N' List.perm_middle,a.rep.mono λJ h=>.tail _ h⟩
theorem At.obj{i:Nat}{o:Ob}(a:At C m st p)(h:st.cur[i]?=some o)(r:kC p.ad.am i x)(k:∀c,p.ad.cur[i]?=some c->OR C.Y p.φ p.ad.am o c->x=.ref (adr c)->G):G:=by
 obtain⟨c,hc,hr⟩:=a.rep.cur.get h
 cases r with
 | mk ha=>exact k c hc hr (kh _ (ke (ha.symm.trans (dA adr hc))))
theorem VR.ref{Y:Lay}{φ:Led}{am:AM}{i:Nat}(r:VR Y φ am v x)(h:jh v=some i):kC am i x:=(rA h▸r:VR Y φ am (.ref i) x)
theorem At.mem{c:Led}{i:Nat}{o:Obj}{z:Addr}(hc:p.ad.cur[i]?=some c)(hm:(z,o)∈c):(z,o)∈p.ad.led++(p.φ++p.ul):=lh (.inl (Ad.mem hc hm))
theorem At.got{o:Obj}{z:Addr}(a:At C m st p)(h:(z,o)∈p.φ):p.s.heap.get? z=some o:=a.inv.get (lh (.inr (lh (.inl h))))
@[elab_as_elim] theorem At.lst{P:Value->Prop}{q:Nat×List V}(a:At C m st p)(hl:aP st v=some q)(r:C.V p v x)(k:∀a xs n,p.ad.cur[q.1]?=some [(a,aK xs n)]->p.s.heap.get? a=some (aK xs n)->IE (C.V p) q.2 xs->q.2.length<=IU->P (.ref a)):P x:=
 IJ hl λi h1 h=>IJ h λo h2 h=>JD h λl h3 e=>a.obj h2 (r.ref h1) λc hc hr e2=>by
  subst e;rw[rB h3]at hr
  exact hr.lstE λz xs n e3 rx hz=>by subst e3;exact e2▸k z xs n hc (a.inv.get (At.mem hc (.head _))) rx hz
@[elab_as_elim] theorem At.LH{P:Value->Prop}{q:Nat×List (Tx×Tx)}(a:At C m st p)(hl:fZ st v=some q)(r:C.V p v x)(k:∀a es n,p.ad.cur[q.1]?=some [(a,dictOf es n)]->p.s.heap.get? a=some (dictOf es n)->DR C.w.params q.2 es->P (.ref a)):P x:=
 IJ hl λi h1 h=>IJ h λo h2 h=>JD h λl h3 e=>a.obj h2 (r.ref h1) λc hc hr e2=>by
  subst e;rw[rC h3]at hr
  exact hr.dctE λz es n e3 d=>by subst e3;exact e2▸k z es n hc (a.inv.get (At.mem hc (.head _))) d
@[elab_as_elim] theorem At.ins{P:Value->Prop}{q:Nat×Nat×List (Nat×V)}(a:At C m st p)(hl:cC st v=some q)(r:C.V p v x)
  (k:∀a d es n,p.ad.cur[q.1]?=some [(a,instObj (C.Y.Jl q.2.1) d),(d,dictOf es n)]->InstAt p.s.heap a (instObj (C.Y.Jl q.2.1) d) (C.Y.Jl q.2.1) (some (dictOf es n))->q.2.1 < 2->FR C.Y p.φ p.ad.am q.2.2 es->es.length<=q.2.2.length->q.2.2.length<=100->P (.ref a)):P x:=
 IJ hl λi h1 h=>IJ h λo h2 h=>JD h λl h3 e=>a.obj h2 (r.ref h1) λc hc hr e2=>by
  subst e;rw[ji h3]at hr
  exact hr.Ls λz d es n e3 lt f1 f2 f3=>by subst e3;exact e2▸k z d es n hc ⟨a.inv.get (At.mem hc (.head _)),rfl,rfl,a.inv.get (At.mem hc (.tail _ (.head _)))⟩ lt f1 f2 f3
@[elab_as_elim] theorem At.rc{c:Nat}{f:List (Nat×B)}{P:Value->Prop}(a:At C m st p)(r:PO C.Y p.φ c f x)
  (k:∀q d es n,c < 15->InstAt p.s.heap q (instObj (C.Y.Ju c) d) (C.Y.Ju c) (some (dictOf es n))->(∀a v,f.lookup a=some v->a < 128/\∃y,getL (C.Y.nm a) es=some (some y)/\LK C.w.params p.φ v y)->P (.ref q)):P x:=by
 cases r with | mk lt m m' g=>exact k _ _ _ _ lt ⟨a.got m,rfl,rfl,a.got m'⟩ g
theorem At.turn{i:Nat}{pre post:Led}{z:Addr}{o:Obj}{ob:Ob}(a:At C m st p)(hc:p.ad.cur[i]?=some (pre++(z,o)::post))(o':Obj)(he:adr (pre++(z,o')::post)=adr (pre++(z,o)::post))(r:OR C.Y p.φ p.ad.am ob (pre++(z,o')::post))
  (k:Upd z o o' (p.ad.led++(p.φ++p.ul)) ((p.ad.set i (pre++(z,o')::post)).led++(p.φ++p.ul))->(∀h tk,Fr C.hB C.L h m->News C.hB C.L h ((p.ad.set i (pre++(z,o')::post)).led++(p.φ++p.ul))->
   To p (p.mv h tk (p.ad.set i (pre++(z,o')::post)) p.φ)/\At C m (dK st i ob) (p.mv h tk (p.ad.set i (pre++(z,o')::post)) p.φ))->G):G:=
 a.inv.upd hc o' λU hI=>k U λh tk F' N'=>by
  have hme:=Ad.Qy hc he
  exact⟨.mv (λJ h=>h) (hme▸.rfl),hI h F' N',show IE (OR _ _ (p.ad.set i _).am) _ _ from hme▸a.rep.cur.set r i,a.rep.Jf⟩
theorem At.alloc{h:Heap}{c:Led}{ob:Ob}(a:At C m st p)(I':Inv C.hB C.L m h (p.ad.add c) (p.φ++p.ul))(r:OR C.Y p.φ (p.ad.add c).am ob c)(k:To p (p.mv h t0 (p.ad.add c) p.φ)->At C m (alloc st ob).2 (p.mv h t0 (p.ad.add c) p.φ)->C.V (p.mv h t0 (p.ad.add c) p.φ) (alloc st ob).1 (.ref (adr c))->G):G:=
 k (.mv (λJ h=>h) Ad.Mn) ⟨I',(a.rep.cur.mono λJ J q=>q.mono (λJ h=>h) Ad.Mn).snoc r,a.rep.Jf⟩ (.mk (by
  show((p.ad.cur++[c]).map adr)[st.cur.length]?=_
  (refine(a.rep.cur.length)▸?_;refine(List.map_append)▸?_;refine(List.getElem?_append_right (lx (lg _)))▸?_;rewrite[lg];rw[Nat.sub_self]);rfl))
theorem At.QB{h:Heap}{z:Addr}{xs:List Value}{n:Nat}{vs:List V}(a:At C m st p)(hz:p.s.heap.objs.size<=z)(F':Fr C.hB C.L h m)(N':News C.hB C.L h ((z,aK xs n)::(p.ad.led++(p.φ++p.ul))))(r:IE (C.V p) vs xs)(hl:vs.length<=IU)
  (k:To p (p.mv h t0 (p.ad.add [(z,aK xs n)]) p.φ)->At C m (Internal.alloc st (.lst vs)).2 (p.mv h t0 (p.ad.add [(z,aK xs n)]) p.φ)->C.V (p.mv h t0 (p.ad.add [(z,aK xs n)]) p.φ) (Internal.alloc st (.lst vs)).1 (.ref z)->G):G:=
 a.alloc (a.inv.one hz F' N' Ad.K4) (.lst (r.mono λJ J q=>q.mono (λJ h=>h) Ad.Mn) hl) k
end
noncomputable def Lq(C:Cf)(K:Bk)(p:Pt)(r:V×St)(Q:Value->Shared->Prop):Prop:=∀x q,To p q->At C K.m r.2 q->C.V q r.1 x->Q x q.s
noncomputable def MN(C:Cf)(K:Bk)(p:Pt)(b:Bool)(st:St)(Q:Bool->Shared->Prop):Prop:=∀q,To p q->At C K.m st q->Q b q.s
noncomputable def IQ(C:Cf)(i:E):Prop:=∀e0,Jy C.Y C.sc i C.sl [] e0=true->∀{K:Bk}{st:St}{p:Pt}{r:V×St}{Q:Value->Shared->Prop},
 IK C.c i K.l st=some r->Pre C K st p->Lq C K p r Q->wpAny C.M K.A (eval (IX C.Y i C.sl [] e0) C.env) Q K.X p.s
noncomputable def JI(C:Cf)(i:E):Prop:=∀e0,Jy C.Y C.sc i C.sl [] e0=true->∀{K:Bk}{st:St}{p:Pt}{r:V×St}{b:Bool}{Q:Bool->Shared->Prop},
 IK C.c i K.l st=some r->truth r.2 r.1=some b->Pre C K st p->MN C K p b r.2 Q->wpAny C.M K.A (isTrue (IX C.Y i C.sl [] e0) C.env (eval (IX C.Y i C.sl [] e0) C.env)) Q K.X p.s
theorem IQ.x{C:Cf}{i:E}(h:IQ C i){e0:Expr}(hc:Jy C.Y C.sc i C.sl [] e0=true){A:Around}{X:Value->Shared->Prop}{l:List V}{m:Zs->Option Value}{st:St}{p:Pt}{r:V×St}{Q:Value->Shared->Prop}(hv:IK C.c i l st=some r)(rm:C.hs=true->KA A C.n)(lr:LR C p l m)(a:At C m st p)
  (k:∀x q,To p q->At C m r.2 q->C.V q r.1 x->Q x q.s):wpAny C.M A (eval (IX C.Y i C.sl [] e0) C.env) Q X p.s:=h _ hc (K:=⟨A,X,l,m⟩) hv ⟨rm,lr,a⟩ k
theorem JI.x{C:Cf}{i:E}(h:JI C i){e0:Expr}(hc:Jy C.Y C.sc i C.sl [] e0=true){A:Around}{X:Value->Shared->Prop}{l:List V}{m:Zs->Option Value}{st:St}{p:Pt}{r:V×St}{b:Bool}{Q:Bool->Shared->Prop}(hv:IK C.c i l st=some r)(hb:truth r.2 r.1=some b)(rm:C.hs=true->KA A C.n)(lr:LR C p l m)(a:At C m st p)
  (k:∀q,To p q->At C m r.2 q->Q b q.s):wpAny C.M A (isTrue (IX C.Y i C.sl [] e0) C.env (eval (IX C.Y i C.sl [] e0) C.env)) Q X p.s:=h _ hc (K:=⟨A,X,l,m⟩) hv hb ⟨rm,lr,a⟩ k
noncomputable def iy(C:Cf)(K:Bk)(p:Pt)(x:Expr)(r:V×St):Prop:=∀tk {Q:Value->Shared->Prop},Lq C K p r Q->wpAny C.M K.A (eval x C.env) Q K.X (p.tk tk).s
section
variable{C:Cf}{K:Bk}{st II:St}{p q:Pt}{r r':V×St}{a b:E}{Q:Value->Shared->Prop}{x:Value}{e:Expr}{t0:Tok}
theorem Lq.after(P:Lq C K p r Q)(t:To p q):Lq C K q r Q:=λx z t' a r=>P x z (t.trans t') a r
theorem MN.after{b:Bool}{Q:Bool->Shared->Prop}(P:MN C K p b st Q)(t:To p q):MN C K q b st Q:=λz t' a=>P z (t.trans t') a
theorem IQ.done(ha:IQ C a)(hc:Jy C.Y C.sc a C.sl [] e=true)(hv:IK C.c a K.l st=some r)(P:Pre C K st p):iy C K p (IX C.Y a C.sl [] e) r:=λtk J post=>ha e hc hv (P.to (.tk (t0:=tk)) P.at'.tk) (post.after .tk)
end
abbrev KR(W:Wd):Prop:=
 W.Y.K.In W.hB/\
 TopRead W.p W.loose W.mg W.mb W.hB/\
 W.hB.get? W.Y0.sa=some W.Y0.so
section
variable{W:Wd}(zz:KR W)
def KR.X:=zz.1
def KR.T:=zz.2.1
def KR.S:=zz.2.2
end
noncomputable def cg:List (Tx×Tx):=j2.map λp=>([p.1],[p.2])
abbrev JE(K:Frag)(C fI:Addr):Prop:=
 makesIn K C=true/\
 findIn K (.ref C) "__init__" = some (some (.ref fI))/\
 typeIn K (.ref fI)=some (.type "function")/\
 findIn K (.ref C) "__setattr__" = some (some (.builtin "object.__setattr__"))/\
 plainOver K C=true/\
 hasDictIn K C=true/\
 keepIn K (.ref C)=true
section
variable{K:Frag}{C fI:Addr}(zz:JE K C fI)
def JE.makes:=zz.1
def JE.init:=zz.2.1
def JE.ty:=zz.2.2.1
def JE.set:=zz.2.2.2.1
def JE.over:=zz.2.2.2.2.1
def JE.has:=zz.2.2.2.2.2.1
def JE.keep:=zz.2.2.2.2.2.2
end
abbrev Ix(Y:Lay)(c:Cx):Prop:=
 (∀a b,a < 128->b < 128->a≠b->(Y.nm a==Y.nm b)=false)/\
 (∀k,k < 15->findIn Y.K (.ref (Y.Ju k)) "__bool__" = some none)/\
 (∀k,k < 15->findIn Y.K (.ref (Y.Ju k)) "__len__" = some none)/\
 (∀k,k < 15->plainGet Y.K (Y.Ju k) "" = true)/\
 (∀k,k < 15->hasDictIn Y.K (Y.Ju k)=true)/\
 (∀k n,k < 15->64<=n->n < 126->findIn Y.K (.ref (Y.Ju k)) (Y.nm n)=some none)/\
 (∀k,k < 15->findIn Y.K (.ref (Y.Ju k)) "__class__" = some (some (.builtin "object.__class__")))/\
 (∀k,k < 15->mroIn Y.K (Y.Ju k) (.type "object")=some true)/\
 (∀k d,k < 15->d < 14->kitOne Y.K (.ref (Y.Ju k)) (.ref (Y.Ju d))=some (sd c k d))/\
 specialIn Y.K (.builtin "object.__class__") "__get__" = some (some (.builtin "getset_descriptor.__get__"))
abbrev Iw(Y:Lay)(c:Cx):Prop:=
 takesIn Y.K (.builtin "object.__class__")=some true/\
 (∀k,k < 2->plainGet Y.K (Y.Jl k) "" = true)/\
 (∀k,k < 2->hasDictIn Y.K (Y.Jl k)=true)/\
 (∀k,k < 2->findIn Y.K (.ref (Y.Jl k)) "__setattr__" = some (some (.builtin "object.__setattr__")))/\
 (∀k,k < 2->plainOver Y.K (Y.Jl k)=true)/\
 (∀k n,k < 2->n < 128->takerIn Y.K (Y.Jl k) (Y.nm n)=some none)/\
 (∀k n,k < 2->64<=n->n < 126->findIn Y.K (.ref (Y.Jl k)) (Y.nm n)=some none)/\
 (∀k f,k < cV->c.fns[k]?=some f->f.own < 2/\findIn Y.K (.ref (Y.Jl f.own)) (Y.nm k)=some (some (.ref (Y.fn k))))/\
 (∀k,k < cV->isFn Y.K (.ref (Y.fn k))=true/\specialIn Y.K (.ref (Y.fn k)) "__get__" = some (some (.builtin "function.__get__"))/\takesIn Y.K (.ref (Y.fn k))=some false/\copiedNames.contains (Y.nm k)=false)/\
 (∀k,k < 57->findIn Y.K (.ref (Y.Jl 0)) (Y.nm k)=some (some (.ref (Y.fn k))))
abbrev Iv(Y:Lay)(c:Cx):Prop:=
 (∀k,k < 15->nsIn Y.K mainGlobals (Y.cn k)=some (some (.ref (Y.Ju k))))/\
 (∀k,k < 2->JE Y.K (Y.Jl k) (Y.fn (cV+1 - k)))/\
 nsIn Y.K mainGlobals "Emitter" = some (some (.ref (Y.Jl 0)))/\
 nsIn Y.K mainGlobals "Rows" = some (some (.ref (Y.Jl 1)))/\
 (∀n∈["len", "ord", "isinstance", "sorted", "range", "str"],nsIn Y.K mainGlobals (PySem.Str.ofString n)=some none)/\
 (∀k f,c.fns[k]?=some f->f.own=2->nsIn Y.K mainGlobals (Y.gn k)=some (some (.ref (Y.fn k))))/\
 (∃es n,Y.K.lookup Y.Kn=some (dictOf es n)/\dl Y.P cg es)/\
 (∃es n,Y.K.lookup Y.Md=some (dictOf es n)/\DR Y.P aO es)/\
 (Y.Kn==sysModules)=false/\
 (Y.Md==sysModules)=false
abbrev Iu(Y:Lay)(c:Cx):Prop:=
 findIn Y.K (.ref (Y.Jl 0)) "ESCAPE_REPLACEMENTS" = some (some (.ref Y.Kn))/\
 findIn Y.K (.ref (Y.Jl 0)) "DEFAULT_TAG_PREFIXES" = some (some (.ref Y.Md))/\
 specialIn Y.K (.ref Y.Kn) "__get__" = some none/\
 specialIn Y.K (.ref Y.Md) "__get__" = some none/\
 Y.nm 126 = "ESCAPE_REPLACEMENTS" /\
 Y.nm 127 = "DEFAULT_TAG_PREFIXES" /\
 (∃q xs n,nsIn Y.K mainGlobals "_law_PIECES" = some (some (.ref q))/\Y.K.lookup q=some (aK xs n)/\IE Jw dz xs)
abbrev IY(Y:Lay)(c:Cx):Prop:=Ix Y c/\Iw Y c/\Iv Y c/\Iu Y c
section
variable{Y:Lay}{c:Cx}(zz:IY Y c)
def IY.nmI:=zz.1.1
def IY.rBool:=zz.1.2.1
def IY.rLen:=zz.1.2.2.1
def IY.rGet:=zz.1.2.2.2.1
def IY.rHas:=zz.1.2.2.2.2.1
def IY.rAtt:=zz.1.2.2.2.2.2.1
def IY.rCls:=zz.1.2.2.2.2.2.2.1
def IY.rObj:=zz.1.2.2.2.2.2.2.2.1
def IY.rSub:=zz.1.2.2.2.2.2.2.2.2.1
def IY.QU:=zz.1.2.2.2.2.2.2.2.2.2
def IY.QT:=zz.2.1.1
def IY.Mj:=zz.2.1.2.1
def IY.NS:=zz.2.1.2.2.1
def IY.iSet:=zz.2.1.2.2.2.1
def IY.iOver:=zz.2.1.2.2.2.2.1
def IY.iTak:=zz.2.1.2.2.2.2.2.1
def IY.Po:=zz.2.1.2.2.2.2.2.2.1
def IY.mOwn:=zz.2.1.2.2.2.2.2.2.2.1
def IY.mFn:=zz.2.1.2.2.2.2.2.2.2.2.1
def IY.mEm:=zz.2.1.2.2.2.2.2.2.2.2.2
def IY.QN:=zz.2.2.1.1
def IY.mkI:=zz.2.2.1.2.1
def IY.gEm:=zz.2.2.1.2.2.1
def IY.gRows:=zz.2.2.1.2.2.2.1
def IY.gBi:=zz.2.2.1.2.2.2.2.1
def IY.gFn:=zz.2.2.1.2.2.2.2.2.1
def IY.OP:=zz.2.2.1.2.2.2.2.2.2.1
def IY.LA:=zz.2.2.1.2.2.2.2.2.2.2.1
def IY.escHi:=zz.2.2.1.2.2.2.2.2.2.2.2.1
def IY.pfxHi:=zz.2.2.1.2.2.2.2.2.2.2.2.2
def IY.Qi:=zz.2.2.2.1
def IY.emPfx:=zz.2.2.2.2.1
def IY.OO:=zz.2.2.2.2.2.1
def IY.Qz:=zz.2.2.2.2.2.2.1
def IY.P7:=zz.2.2.2.2.2.2.2.1
def IY.nmPfx:=zz.2.2.2.2.2.2.2.2.1
def IY.O9:=zz.2.2.2.2.2.2.2.2.2
end
abbrev Ok(C:Cf):Prop:=
 KR C.toWd/\
 IY C.Y C.c/\
 C.sc.kind=.function/\
 C.sl.Nodup/\
 (∀x∈C.sl,C.sc.names.lookup x=some .local/\(x==("__debug__" : Zs))=false)
section
variable{C:Cf}(zz:Ok C)
def Ok.O:=zz.1
def Ok.K:=zz.2.1
def Ok.hk:=zz.2.2.1
def Ok.nd:=zz.2.2.2.1
def Ok.lc:=zz.2.2.2.2
end
theorem fF:IU=16777216:=rfl
theorem jt{k:Nat}(h:k<=IU):(k:Int) < 2 ^ 63:=by rw[fF]at h;omega
theorem Aa{k:Nat}(h:k<=IU):¬ (k:Int) ≥ 2 ^ 63:=Int.not_le.mpr (jt h)
theorem cW{k:Nat}(h:k<=IU):k<=sizeLine:=kg h (by decide)
theorem DY{k:Nat}(h:k<=60):k<=IU:=kg h (by decide)
theorem fH{k:Nat}(h:k<=1000):k<=IU:=kg h (by decide)
section
variable{P:Params}{l:List (Tx×Tx)}{es:List DictEntry}{prog:Program}{w:World}
theorem EnR.is{p:Tx×Tx}{e:DictEntry}(r:EnR w.params p e):(PySem.strKind prog w).is (Jo p.1) e.key=true:=by
 obtain⟨k,h,v⟩:=r
 generalize e.key=z at k
 cases k with | mk t _=>exact strKind_is prog w _ t
noncomputable def ek(l:List (Tx×Tx))(es:List DictEntry):List (Zs×Value):=l.zipWith (λp e=>(Jo p.1,e.val)) es
theorem IE.keysOf(h:dl P l es):(ek l es).map (·.1)=(l.map (·.1)).map Jo:=by
 induction h with
 | nil=>rfl
 | cons _ _ ih=>exact kh (_::·) ih
theorem IE.pairs(h:dl w.params l es):Pairs (PySem.strKind prog w) es (ek l es):=by
 induction h with
 | nil=>exact .nil
 | cons r _ ih=>exact .cons r.is rfl ih
theorem IE.ent(h:dl w.params l es):∀e∈es,∃k,(PySem.strKind prog w).is k e.key=true/\e.hash=(PySem.strKind prog w).hash k:=by
 induction h with
 | nil=>exact λJ h=>nomatch h
 | cons r _ ih=>exact λe h=>(kq h).elim (λq=>q▸⟨_,r.is,r.h⟩) (ih e)
theorem DR.Nb{k:Nat}(h:DR w.params l es):(dictOf es k).IsDictOf (PySem.strKind prog w) (ek l es):=
 ⟨es.toArray,k,⟨rfl,rfl,rfl⟩,rfl,λe he=>h.r.ent e (List.mem_toArray.mp he),h.r.pairs,by (refine(h.r.keysOf)▸?_);exact List.Pairwise.map _ (λa b hab e=>hab (jv e)) h.nd⟩
theorem IE.Ox(h:dl P l es):(ek l es).length=l.length:=by
 have:=kh List.length h.keysOf
 rw[lg,lg,lg]at this
 exact this
theorem xT(h:dl P l es):(!(ek l es).isEmpty)=!l.isEmpty:=by cases h <;> rfl
theorem DR.dictAt{h:Heap}{q:Addr}{k:Nat}(d:DR w.params l es)(e:h.get? q=some (dictOf es k)):h.DictOf (PySem.strKind prog w) q (ek l es):=Heap.dictOf_iff.mpr ⟨_,e,d.Nb⟩
end
theorem aE{h:Heap}{a:Addr}{xs:List Value}{k:Nat}(e:h.get? a=some (aK xs k)):h.IsList a xs.toArray:=⟨_,e,rfl,_,rfl⟩
section
variable{C:Cf}{B:Bk}{m:Zs->Option Value}{st II:St}{p q:Pt}{r:V×St}{v w:V}{x y:Value}{A:Around}{X:Value->Shared->Prop}{e:Expr}{tk:Tok}{b:Bool}
theorem At.K(O:KR C.toWd)(a:At C m st p):C.Y.K.In p.s.heap:=O.X.keeps a.inv.fr.keep
theorem At.noSys(O:KR C.toWd)(a:At C m st p){z:Addr}{o:Obj}(k:(z,o)∈p.ad.led++(p.φ++p.ul)):(z==sysModules)=false:=
 beq_eq_false_iff_ne.mpr λe=>Nat.lt_irrefl _ (li (Nat.lt_of_succ_lt (Nat.lt_of_succ_lt O.T.g.lt)) (kg (a.inv.lo _ k) (lx e)))
theorem At.inφ{z:Addr}{o:Obj}(h:(z,o)∈p.φ):(z,o)∈p.ad.led++(p.φ++p.ul):=lh (.inr (lh (.inl h)))
theorem dw(H:Ok C){Q:Bool->Shared->Prop}(r:C.V p v x)(a:At C m st p)(ht:truth st v=some b)(fin:∀tk,Q b (p.tk tk).s):wpAny C.M A (truthy x) Q X p.s:=by
 have f0:Q b p.s:=fin p.s.toks
 have f2:=fin (p.s.toks+1+1)
 have dic:∀{q es n l},(q,dictOf es n)∈p.ad.led++(p.φ++p.ul)->DR C.w.params l es->(!l.isEmpty)=b->wpAny C.M A (truthy (.ref q)) Q X p.s:=λm d e=>
  wpAny_truthy_dict (a.noSys H.O m) (d.dictAt (a.inv.get m)) (d.r.Ox.symm▸jt (DY d.le)) (by (refine(xT d.r)▸?_;refine(e)▸?_);exact f2)
 refine LW ht (λh=>JD h λy hy e=>?_) λh=>LW h (λh=>JD h λy hy e=>?_) λh=>LW h (λh=>JD h λy hy e=>?_) λh=>JD h λy hy e=>?_
 ·have r:=r.B hy
  subst e
  cases y with
  | nul=>cases r;exact truthy_none f0
  | bool=>cases r;exact wpAny_truthy_bool f0
  | int i=>cases r;exact PySem.P.truthy_int f0
  | str t=>
   cases r with | mk u hz=>
   refine PySem.P.truthy_str (Aa hz) ?_
   cases t <;> exact f2
  | bb=>cases r with | mk hm e=>subst e;exact ktl_truthy (a.got hm) (by simp) f2
 ·subst e
  exact a.rc (r.rc hy) λq d es n lt I g=>truthy_K0 a.inv.fr H.O.X I (H.K.rBool _ lt) (H.K.rLen _ lt) f0
 ·subst e
  exact a.lst hy r λz xs n hc hg hx hz=>wpAny_truthy_list (aE hg) (by (refine(List.size_toArray)▸?_;refine(hx.length)▸?_);exact jt hz) (by (rewrite[List.isEmpty_toArray];refine(hx.empty)▸?_);exact f2)
 ·subst e
  exact a.LH hy r λz es n hc hg d=>dic (At.mem hc (.head _)) d rfl
theorem ga{e:Expr}{env:Env}{whole:Sem Value}(h:dZ e=true):isTrue e env whole=(do let v <- whole;standAt e.pos;holding [v] (truthy v)):=by
 cases e with
 | UnaryOp op=>cases op <;> first | rfl | exact JA h
 | _=>first | rfl | exact JA h
theorem gp(H:Ok C){i:E}(hp:∀e0,Jy C.Y C.sc i C.sl [] e0=true->dZ (IX C.Y i C.sl [] e0)=true)(h:IQ C i):JI C i:=λe0 hc B st p r b Q hv ht P post=>
 isTrue_plain (h e0 hc hv P λx q t a rx=>dw H rx a ht λtk=>post _ (t.trans .tk) a.tk) (ga (hp e0 hc))
theorem dB{α:Type}{l:List α}{i:Nat}{a d:α}(h:l[i]?=some a):l.getD i d=a:=by (refine(List.getD_eq_getElem?_getD)▸?_;refine(h)▸?_);rfl
theorem oQ(H:Ok C){Q:Value->Shared->Prop}{k:Nat}(hv:B.l[k]?=some v)(hn:v≠.uu)(P:Pre C B st p)(h:∀x,C.V p v x->Q x p.s):wpAny C.M A (eval (nE (C.sl.getD k "") e) C.env) Q X p.s:=by
 refine KJ λhG=>?_
 obtain⟨n,y,h1,h2,r⟩:=P.lr.1 k v hv hn
 refine hG ?_
 clear hG
 have z:=H.lc n (ly h1)
 (refine(dB h1)▸?_)
 exact wpAny_Name (wpAny_loadName_local (env:=C.env) H.hk z.1 P.at'.inv.fr.ns h2 (h y r)) z.2
theorem cI(H:Ok C){Q:Value->Shared->Prop}{g:Zs}(hg:dO C.sc g=true)(a:At C m st p)(e':nsIn C.Y.K mainGlobals g=some (some x))(h:Q x p.s):wpAny C.M A (eval (nE g e) C.env) Q X p.s:=
 aEl hg λh1 h2=>nameG_K (env:=C.env) a.inv.fr H.O.X H.O.T e' h rfl H.hk (lf h1) (lq h2)
end
theorem uh{o:BoolOp}{b:E}:ui o b=true->∃x y,(o=.And/\b=.and x y)∨(o=.Or/\b=.or x y):=
 E.casesOn (motive:=λb=>ui o b=true->∃x y,(o=.And/\b=.and x y)∨(o=.Or/\b=.or x y)) b (λJ=>JA) (λJ J=>JA) (λJ J J=>JA) (λJ J J=>JA) (λx y h=>⟨x,y,.inl ⟨lf h,rfl⟩⟩) (λx y h=>⟨x,y,.inr ⟨lf h,rfl⟩⟩)
  (λJ J J=>JA) (λJ J J J J=>JA) (λJ J=>JA) (λJ J J=>JA) (λJ J=>JA) (λJ J=>JA) (λJ J J=>JA) (λJ J J=>JA) (λJ=>JA) (λJ J=>JA) (λJ J=>JA) JA (λJ J=>JA) (λJ J J=>JA)
theorem Cy{M:Model}{A:Around}{Q:Bool->Shared->Prop}{X:Value->Shared->Prop}{s:Shared}{env:Env}{whole:Sem Value}{y:Expr}{q:Pos}:∀{o:BoolOp},wpAny M A (isTrue y env (eval y env)) Q X s->wpAny M A (isTrue (.BoolOp o [y] q) env whole) Q X s
 | .And,h=>isTrue_and (wpAny_mono h (λc s h=>by cases c with | false=>exact h | true=>exact isTrue_and_nil h) λJ J h=>h)
 | .Or,h=>isTrue_or (wpAny_mono h (λc s h=>by cases c with | true=>exact h | false=>exact isTrue_or_nil h) λJ J h=>h)
abbrev Tl(o:BoolOp)(y:Expr)(q:Pos)(l:List Expr):Prop:=
 (∀env,eval y env=eval (.BoolOp o l q) env)/\
 (∀{M A}{Q:Bool->Shared->Prop}{X s env whole},wpAny M A (isTrue y env (eval y env)) Q X s->wpAny M A (isTrue (.BoolOp o l q) env whole) Q X s)
section
variable{o:BoolOp}{y:Expr}{q:Pos}{l:List Expr}(zz:Tl o y q l)
def Tl.e:=zz.1
def Tl.t:=@And.right _ _ zz
end
theorem pE{Y:Lay}{b:E}{sl:List Zs}{e:Expr}{o:BoolOp}(x:Expr)(h:(iY e||ui o b)=true):∃z T,Ql o x (IX Y b sl [] (QA o e)) e=.BoolOp o (x::z::T) e.pos/\Tl o (IX Y b sl [] (QA o e)) e.pos (z::T):=by
 unfold Ql QA
 cases h1:iY e with
 | true=>exact⟨_,[],rfl,λJ=>rfl,Cy⟩
 | false=>
  rw[h1]at h
  obtain⟨x',y',⟨rfl,rfl⟩ | ⟨rfl,rfl⟩⟩:=uh h
  ·exact⟨_,_,rfl,λJ=>rfl,λh=>h⟩
  ·exact⟨_,_,rfl,λJ=>rfl,λh=>h⟩
section
variable{C:Cf}{a b d t:E}
theorem sN(H:Ok C)(ha:IQ C a)(hb:IQ C b):IQ C (.and a b):=λe0 hc B st p r Q hv P post=>aEl hc λh1 h2=>aEl h2 λh2 h3=>IJ hv λq hq h=>IJ h λt ht h=>by
 obtain⟨z,T,e1,e2⟩:=pE (Y:=C.Y) (sl:=C.sl) (IX C.Y a C.sl [] (IS 0 e0)) h3
 show wpAny C.M B.A (eval (Ql _ _ _ _) _) Q B.X p.s
 (refine(e1)▸?_)
 refine BoolOp_and (ha _ h1 hq P λx q t' a' rx=>dw H rx a' ht λtk=>?_)
 rw[<- e2.e]
 cases t with
 | false=>obtain rfl:=ke h;exact post x _ (t'.trans .tk) a'.tk rx
 | true=>exact hb _ h2 h (P.to (t'.trans .tk) a'.tk) (post.after (t'.trans (.tk (t0:=tk))))
theorem xc(H:Ok C)(ha:IQ C a)(hb:IQ C b):IQ C (.or a b):=λe0 hc B st p r Q hv P post=>aEl hc λh1 h2=>aEl h2 λh2 h3=>IJ hv λq hq h=>IJ h λt ht h=>by
 obtain⟨z,T,e1,e2⟩:=pE (Y:=C.Y) (sl:=C.sl) (IX C.Y a C.sl [] (IS 0 e0)) h3
 show wpAny C.M B.A (eval (Ql _ _ _ _) _) Q B.X p.s
 (refine(e1)▸?_)
 refine BoolOp_or (ha _ h1 hq P λx q t' a' rx=>dw H rx a' ht λtk=>?_)
 rw[<- e2.e]
 cases t with
 | true=>obtain rfl:=ke h;exact post x _ (t'.trans .tk) a'.tk rx
 | false=>exact hb _ h2 h (P.to (t'.trans .tk) a'.tk) (post.after (t'.trans (.tk (t0:=tk))))
theorem sB(ha:JI C a)(hb:JI C b):JI C (.and a b):=λe0 hc B st p r bb Q hv Qd P post=>aEl hc λh1 h2=>aEl h2 λh2 h3=>IJ hv λq hq h=>IJ h λt ht h=>by
 obtain⟨z,T,e1,e2⟩:=pE (Y:=C.Y) (sl:=C.sl) (IX C.Y a C.sl [] (IS 0 e0)) h3
 show wpAny C.M B.A (isTrue (Ql _ _ _ _) _ _) Q B.X p.s
 (refine(e1)▸?_)
 refine isTrue_and (ha _ h1 hq ht P λq t' a'=>?_)
 cases t with
 | false=>obtain rfl:=ke h;cases ht.symm.trans Qd;exact post _ t' a'
 | true=>exact e2.t (hb _ h2 h Qd (P.to t' a') (post.after t'))
theorem xa(ha:JI C a)(hb:JI C b):JI C (.or a b):=λe0 hc B st p r bb Q hv Qd P post=>aEl hc λh1 h2=>aEl h2 λh2 h3=>IJ hv λq hq h=>IJ h λt ht h=>by
 obtain⟨z,T,e1,e2⟩:=pE (Y:=C.Y) (sl:=C.sl) (IX C.Y a C.sl [] (IS 0 e0)) h3
 show wpAny C.M B.A (isTrue (Ql _ _ _ _) _ _) Q B.X p.s
 (refine(e1)▸?_)
 refine isTrue_or (ha _ h1 hq ht P λq t' a'=>?_)
 cases t with
 | true=>obtain rfl:=ke h;cases ht.symm.trans Qd;exact post _ t' a'
 | false=>exact e2.t (hb _ h2 h Qd (P.to t' a') (post.after t'))
theorem sL(ht:JI C t)(ha:IQ C a)(hb:IQ C b):IQ C (.IF t a b):=λe0 hc B st p r Q hv P post=>aEl hc λh1 h2=>aEl h2 λh2 h3=>IJ hv λq hq h=>IJ h λu hu h=>
 IfExp_ (ht _ h1 hq hu P λq t' a'=>by
  cases u with
  | true=>exact ha _ h2 h (P.to t' a') (post.after t')
  | false=>exact hb _ h3 h (P.to t' a') (post.after t'))
theorem sz(ht:JI C t)(ha:JI C a)(hb:JI C b):JI C (.IF t a b):=λe0 hc B st p r bb Q hv Qd P post=>aEl hc λh1 h2=>aEl h2 λh2 h3=>IJ hv λq hq h=>IJ h λu hu h=>
 isTrue_IfExp (ht _ h1 hq hu P λq t' a'=>by
  cases u with
  | true=>exact ha _ h2 h Qd (P.to t' a') (post.after t')
  | false=>exact hb _ h3 h Qd (P.to t' a') (post.after t'))
end
section
variable{M:Model}{W:Wd}{A:Around}{X:Value->Shared->Prop}{Q:Value->Shared->Prop}{s:Shared}{x y r:V}{u v:Value}{Y:Lay}{φ:Led}{am:AM}{b:Bool}
theorem vp{o:Nq}{i j:Int}(hu:dk i u)(hv:dk j v)(h:E9 o i j=some b)(q:Q (.bool b) s):wpAny (model W.prog W.w) A (compareOp (ij o) u v) Q X s:=by
 cases hu;cases hv
 cases o with
 | lt=>obtain rfl:=ke h;exact PySem.P.lt_int q
 | le=>obtain rfl:=ke h;exact PySem.P.le_int q
 | gt=>obtain rfl:=ke h;exact PySem.P.gt_int q
 | ge=>obtain rfl:=ke h;exact PySem.P.ge_int q
 | eq=>obtain rfl:=ke h;exact PySem.P.eq_int q
 | ne=>obtain rfl:=ke h;exact PySem.P.ne_int q
 | _=>exact nS h
theorem vn{o:Nq}{i j:Tx}(hu:Jw i u)(hv:Jw j v)(h:E7 o i j=some b)(q:Q (.bool b) s):wpAny (model W.prog W.w) A (compareOp (ij o) u v) Q X s:=by
 cases hu;cases hv
 cases o with
 | lt=>obtain rfl:=ke h;exact PySem.P.lt_str q
 | le=>obtain rfl:=ke h;exact PySem.P.le_str q
 | eq=>obtain rfl:=ke h;exact PySem.P.eq_str q
 | ne=>obtain rfl:=ke h;exact PySem.P.ne_str q
 | K2=>exact JD h λd hd e=>PySem.P.in_str (by (refine(jA hd)▸?_;rewrite[show Jo [d]=⟨#[d]⟩ from rfl];rw[StrLaws.found_one]);exact e▸q)
 | Ow=>exact JD h λd hd e=>PySem.P.notIn_str (by (refine(jA hd)▸?_;rewrite[show Jo [d]=⟨#[d]⟩ from rfl];rw[StrLaws.found_one]);exact e▸q)
 | _=>exact nS h
theorem vo{o:Nq}(hu:VR Y φ am x u)(hv:VR Y φ am y v)(h:E8 o x y=some b)(q:Q (.bool b) s):wpAny (model W.prog W.w) A (compareOp (ij o) u v) Q X s:=by
 have key:∀{z:Bool},ag ((aU x&&(aQ y).isSome)||((aQ x).isSome&&aU y)) z=some b->z=b/\((u=.none/\∃s t,v=.str s t)∨((∃s t,u=.str s t)/\v=.none)):=λh=>Km h λh1 h2=>⟨h2,(my h1).elim
  (λh=>aEl h λa1 a2=>.inl ⟨hu.nul a1,(Option.isSome_iff_exists.mp a2).elim λz hz=>by cases hv.str hz;exact⟨_,_,rfl⟩⟩) λh=>aEl h λa1 a2=>.inr ⟨(Option.isSome_iff_exists.mp a1).elim λz hz=>by cases hu.str hz;exact⟨_,_,rfl⟩,hv.nul a2⟩⟩
 cases o with
 | eq=>
  obtain⟨rfl,⟨rfl,b,t,rfl⟩ | ⟨⟨b,t,rfl⟩,rfl⟩⟩:=key h
  ·exact EqNone.eq_none_str q
  ·exact EqNone.eq_str_none q
 | ne=>
  obtain⟨rfl,⟨rfl,b,t,rfl⟩ | ⟨⟨b,t,rfl⟩,rfl⟩⟩:=key h
  ·exact EqNone.ne_none_str q
  ·exact EqNone.ne_str_none q
 | _=>exact nS h
theorem e7{o:Nq}(hu:VR Y φ am x u)(hv:VR Y φ am y v)(h:Qk o x y=some b)(q:Q (.bool b) s):wpAny (model W.prog W.w) A (compareOp (ij o) u v) Q X s:=
 LW h (λh=>IJ h λa ha h=>IJ h λc hc h=>vp (hu.int ha) (hv.int hc) h q) λh=>LW h (λh=>IJ h λa ha h=>IJ h λc hc h=>vn (hu.str ha) (hv.str hc) h q) λh=>vo hu hv h q
theorem pG(a b:Tx):Jo a++Jo b=Jo (a++b):=kh PySem.Str.mk (List.append_toArray a b)
theorem Bi(k:Nat)(a acc:Array Nat):((List.replicate k a).foldl (·++·) acc).toList=acc.toList++(List.replicate k a.toList).flatten:=by
 induction k generalizing acc with
 | zero=>exact(mh _).symm
 | succ k ih=>(refine(List.replicate_succ)▸?_;refine(List.foldl_cons).symm▸?_;rewrite[ih];refine(List.replicate_succ)▸?_;refine(List.flatten_cons).symm▸?_;refine(Array.toList_append).symm▸?_;rw[lu])
theorem qF{n:Nat}{k:Int}(hp:0 < n)(h:n*k.toNat<=IU):k<=IU:=Int.le_trans (Int.self_le_toNat k) (Int.ofNat_le.mpr (kg (Nat.le_mul_of_pos_left _ hp) h))
theorem xI{n:Nat}{k:Int}(hk:1 < k)(h:n*k.toNat<=IU):¬ (n:Int) > (2 ^ 63 - 1) / k:=by
 have h2:(n:Int)*k<=IU:=by (refine(Int.toNat_of_nonneg (Int.le_of_lt (Int.lt_trans (by decide) hk)))▸?_;rw[<- Int.natCast_mul]);exact Int.ofNat_le.mpr h
 exact Int.not_lt.mpr ((Int.le_ediv_iff_mul_le (Int.lt_trans (by decide) hk)).mpr (Int.le_trans h2 (by decide)))
theorem xH{k:Int}(h:-1000000<=k)(h':k<=IU):(decide (k < -(2 ^ 63:Int))||decide (k ≥ 2 ^ 63))=false:=by
 rw[fF]at h'
 rw[decide_eq_false (by omega),decide_eq_false (by omega)];rfl
theorem vI{a:Tx}{k:Int}(hu:Jw a u)(hv:dk k v)(h:y9 .mul a k=some r)(q:∀tk z,VR Y φ am r z->Q z { s with toks:=tk}):wpAny (model W.prog W.w) A (binaryOp .Mult u v) Q X s:=Km h λhz e=>by
 subst e
 obtain⟨QE,QD⟩:=ma hz
 obtain⟨hz0,QE⟩:=ma QE
 rw[decide_eq_true_eq]at QE QD
 cases hu with | mk t ha=>
 cases hv with | mk w=>
 have Pw:0 < a.length:=List.length_pos_iff.mpr λe=>by subst e;exact JA hz0
 have hk:=qF Pw QD
 have hval:((List.replicate k.toNat a).flatten).length<=IU:=by
  (refine(List.length_flatten)▸?_;refine(List.map_replicate)▸?_;refine(List.sum_replicate_nat)▸?_;rw[Nat.mul_comm]);exact QD
 refine PySem.P.mul_str (xH QE hk) (λh1 h2=>xI (by rw[Bool.or_eq_false_iff,beq_eq_false_iff_ne]at h2;omega) QD) (λh1 J=>decide_eq_false (Nat.not_lt.mpr (cW QD))) ?_
 have fin:∀{y:Zs},y.cps.toList=(List.replicate k.toNat a).flatten->∀tk t,Q (.str y t) { s with toks:=tk}:=λ{y} e tk t=>q tk _ (by (refine(m5 y)▸?_;refine(e).symm▸?_);exact Jw.mk t hval)
 by_cases h1:k < 1
 ·(refine(if_pos h1)▸?_)
  exact⟨by decide,fin (by rw[show k.toNat=0 by omega];rfl) _ _⟩
 ·(refine(if_neg h1)▸?_)
  by_cases h2:(k==1||(Jo a).length==0)=true
  ·(refine(if_pos h2)▸?_)
   have:k=1:=(my h2).elim lf λh=>absurd (lf h) (Nat.ne_of_gt Pw)
   exact fin (by (refine(this)▸?_);exact(mh a).symm) _ _
  ·(refine(if_neg h2)▸?_)
   have e:=Bi k.toNat (Jo a).cps #[]
   refine⟨?_,fin e _ _⟩
   show Array.size _<=sizeLine
   (refine(Array.length_toList)▸?_;refine(e)▸?_)
   exact cW hval
theorem pJ{f:Value->Value->Sem Value}{a b:Tx}(hu:Jw a u)(hv:Jw b v)(h:y8 .add a b=some r)(q:∀tk z,VR Y φ am r z->Q z { s with toks:=tk})(k:∀t u,(∀t' tk,Q (.str (Jo a++Jo b) t') { s with toks:=tk})->(Jo a).length+(Jo b).length<=sizeLine->wpAny M A (f (.str (Jo a) t) (.str (Jo b) u)) Q X s):wpAny M A (f u v) Q X s:=Km h λhz e=>by
 subst e
 have hz:=km hz
 cases hu with | mk t ha=>
 cases hv with | mk w=>
 exact k t w (λt' tk=>q tk _ (by rw[pG];exact Jw.mk t' (by (refine(ky)▸?_);exact hz))) (cW hz)
theorem xd{a b:Int}(h:0 < b)(h':b<=1000000):Builtin.divisionGoesByPylong a b=false:=PyProof.noPylong_small (by omega)
theorem y7{o:Nr}(hu:VR Y φ am x u)(hv:VR Y φ am y v)(h:bop o x y=some r)(q:∀tk z,VR Y φ am r z->Q z { s with toks:=tk}):wpAny (model W.prog W.w) A (binaryOp (vJ o) u v) Q X s:=
 LW h (λh=>IJ h λa ha h=>IJ h λb hb h=>by
  have hu:=hu.int ha
  have hv:=hv.int hb
  cases hu;cases hv
  cases o with
  | add=>obtain rfl:=ke h;exact PySem.P.add_int (q _ _ (dk.mk _))
  | sub=>obtain rfl:=ke h;exact PySem.P.sub_int (q _ _ (dk.mk _))
  | mul=>exact Km h λhz e=>PySem.P.mul_int (q _ _ (e▸dk.mk _)) ((my hz).elim (λh=>lf h▸IntMulOk.of_left (by decide)) λh=>(my h).elim (λh=>lf h▸IntMulOk.of_left (by decide)) λh=>lf h▸IntMulOk.of_right (by decide))
  | mod=>exact Km h λhz e=>PyProof.Rows.mod_int (Int.ne_of_gt (km hz)) (q _ _ (e▸dk.mk _))
  | fdiv=>exact Km h λhz e=>aEl hz λhz h2=>PyProof.Rows.floordiv_int (Int.ne_of_gt (km hz)) (q _ _ (e▸dk.mk _)) (.inl (xd (km hz) (km h2))))
 λh=>LW h (λh=>IJ h λa ha h=>IJ h λb hb h=>by
  cases o with
  | add=>exact pJ (f:=binaryOp .Add) (hu.str ha) (hv.str hb) h q λt u h1 h2=>PyProof.Rows.add_str h1 h2
  | _=>exact nS h) λh=>IJ h λa ha h=>IJ h λb hb h=>by
  cases o with
  | mul=>exact vI (hu.str ha) (hv.int hb) h q
  | _=>exact nS h
theorem o7{o:Nr}(ho:nT o=true)(hu:VR Y φ am x u)(hv:VR Y φ am y v)(h:bop o x y=some r)(q:∀tk z,VR Y φ am r z->Q z { s with toks:=tk}):wpAny (model W.prog W.w) A (inplaceOp (vJ o) u v) Q X s:=
 LW h (λh=>IJ h λa ha h=>IJ h λb hb h=>by
  have hu:=hu.int ha
  have hv:=hv.int hb
  cases hu;cases hv
  cases o with
  | add=>obtain rfl:=ke h;exact PySem.P.iadd_int (q _ _ (dk.mk _))
  | sub=>obtain rfl:=ke h;exact PySem.P.isub_int (q _ _ (dk.mk _))
  | _=>exact JA ho)
 λh=>LW h (λh=>IJ h λa ha h=>IJ h λb hb h=>by
  cases o with
  | add=>exact pJ (f:=inplaceOp .Add) (hu.str ha) (hv.str hb) h q λt u h1 h2=>PyProof.Rows.iadd_str h1 h2
  | _=>exact nS h) λh=>IJ h λa ha h=>IJ h λb hb h=>by
  cases o with
  | mul=>exact JA ho
  | _=>exact nS h
end
theorem bf{Y:Lay}{sc:Scope}{sl ps:List Zs}{e:Expr}(i:E):Jy Y sc i sl ps e=true->Me (IX Y i sl ps e)=true:=
 E.casesOn (motive:=λi=>Jy Y sc i sl ps e=true->Me (IX Y i sl ps e)=true) i (λo=>O0.casesOn (motive:=λo=>ok0 sc o e=true->Me (op0 sl o e)=true) o (λh=>aEl h λh J=>h) (λJ J=>rfl) (λJ J=>rfl) (λJ J=>rfl) λJ=>rfl)
  (λo a J=>O1.casesOn (motive:=λo=>Me (op1 Y o (IX Y a sl [] (wL o e)) e)=true) o rfl (λJ=>rfl) (λJ=>rfl) rfl rfl rfl (λJ J=>rfl) rfl rfl (λJ=>rfl) (λJ=>rfl) (λJ=>rfl) rfl rfl)
  (λo a b J=>O2.casesOn (motive:=λo=>Me (op2 o (IX Y a sl [] (n9 o e)) (IX Y b sl [] (n8 o e)) e)=true) o (λJ=>rfl) (λJ=>rfl) rfl (λt=>by cases t <;> rfl) rfl rfl rfl rfl)
  (λJ J J J=>rfl) (λJ J J=>rfl) (λJ J J=>rfl) (λJ J J J=>rfl) (λJ J J J J J=>rfl) (λJ J J=>rfl) (λJ J J J=>rfl) (λJ J J=>rfl) (λJ J J=>rfl) (λJ J J J=>rfl) (λJ J J J=>rfl) (λJ J=>rfl) (λJ J J=>rfl) (λJ J J=>rfl) (λJ=>rfl) (λJ J J=>rfl) (λJ J J J=>rfl)
theorem bX{b:Expr}(h:bI b=true)(attr:Zs)(pos:Pos)(env:Env):eval (.Attribute b attr pos) env=(do
   let o <- eval b env
   standAt pos.atName
   let r <- holding [o] (getAttr o attr true)
   letTemporaryGo b o r
   pure r):=by cases b <;> first | rfl | exact JA h
theorem bz{b:Expr}(h:bI b=true)(a:Zs)(env:Env):attributeBase b a env (eval b env)=eval b env:=by cases b <;> first | rfl | exact JA h
theorem bG{e:Expr}{r:List Expr}{env:Env}(h:Me e=true):starEach (e::r) env=(false,eval e env)::starEach r env:=by cases e <;> first | rfl | exact JA h
theorem r9{e:Expr}(h:Me e=true)(o i:Value):subscripted e false o i=operate [o,i] (getItem o i):=by cases e <;> first | rfl | exact JA h
theorem xN{e:Expr}{x:Zs}{t:Tok}(r:Value):letTemporaryGo e (.str x t) r=pure ():=by cases e <;> rfl
theorem jg{x:Expr}{env:Env}{pos:Pos}(h:Me x=true):backTo pos (starEach [x] env)=[(false,eval x env)]:=by (refine(bG h)▸?_);rfl
theorem vQ{x y:Expr}{env:Env}{pos:Pos}(h:Me x=true)(h':Me y=true):backTo pos (starEach [x,y] env)=[(false,eval x env),(false,eval y env)]:=by (refine(bG h)▸?_;refine(bG h')▸?_);rfl
noncomputable def U1(C:Cf)(o:O1):Prop:=∀x e,DJ C.Y C.sc o x e=true->Me x=true->∀{B:Bk}{st:St}{p:Pt}{r w:V×St}{Q:Value->Shared->Prop},
 f1 C.c o r.1 r.2=some w->Pre C B st p->iy C B p x r->Lq C B p w Q->wpAny C.M B.A (eval (op1 C.Y o x e) C.env) Q B.X p.s
section
variable{C:Cf}{B:Bk}{m:Zs->Option Value}{st II:St}{p q:Pt}{r:V×St}{v w:V}{x y:Value}{A:Around}{X:Value->Shared->Prop}{Q:Value->Shared->Prop}{e f:Expr}{tk:Tok}{b:Bool}{a d:E}
@[elab_as_elim] theorem At.Ls{P:Value->Prop}{q:(Nat×Nat)×Nat×List (Nat×V)}(a:At C m st p)(hl:Ls st v=some q)(r:C.V p v x)
  (k:∀a d es n cs,p.ad.Jf[q.1.1]?=some cs->cs[q.1.2]?=some [(a,instObj (C.Y.Jl q.2.1) d),(d,dictOf es n)]->InstAt p.s.heap a (instObj (C.Y.Jl q.2.1) d) (C.Y.Jl q.2.1) (some (dictOf es n))->q.2.1 < 2->FR C.Y p.φ ⟨cs.map adr,[]⟩ q.2.2 es->P (.ref a)):P x:=
 IJ hl λi h1 h=>IJ h λR h2 h=>IJ h λo h3 h=>JD h λl h4 e=>by
  subst e
  rw[ji h4]at h3
  obtain⟨cs,Lu,hr⟩:=a.rep.Jf.get h2
  obtain⟨c,hc,hr⟩:=IE.get hr h3
  cases (vV h1▸r:VR C.Y p.φ p.ad.am (.em i.1 i.2) x) with
  | mk e1 e2=>
  cases e1.symm.trans (dA (List.map adr) Lu)
  cases e2.symm.trans (dA adr hc)
  refine hr.Ls λz d es n e3 lt f1 J J=>?_
  subst e3
  exact k z d es n cs Lu hc ⟨a.inv.get (lh (.inl (Ad.memE Lu hc (.head _)))),rfl,rfl,a.inv.get (lh (.inl (Ad.memE Lu hc (.tail _ (.head _)))))⟩ lt f1
theorem qJ{j:Nat}{cs:List Led}(Lu:p.ad.Jf[j]?=some cs)(h:Ai j v=some w)(r:VR C.Y p.φ ⟨cs.map adr,[]⟩ v x):C.V p w x:=by
 cases v with
 | b=>obtain rfl:=ke h;exact r
 | rc=>obtain rfl:=ke h;exact r
 | ref i=>obtain rfl:=ke h;cases r with | mk e=>exact EmX.mk (dA (List.map adr) Lu) e
 | _=>exact nS h
theorem pF(H:Ok C){k:Nat}(hk:64<=k/\k < 126)(a:At C m st p)(r:C.V p v x)(hf:ia k v st=some w)(h:∀y,C.V p w y->Q y (p.tk (p.s.toks+1)).s):wpAny C.M A (getAttr x (C.Y.nm k) b) Q X p.s:=
 have k128:k < 128:=Nat.lt_trans hk.2 (by decide)
 LW hf (λhf=>IJ hf λz hz hf=>JD hf λy hy e=>by
  subst e
  refine a.rc (r.rc hz) λq d es n lt I g=>?_
  obtain⟨_,u,hu,ru⟩:=g _ _ hy
  exact get_own a.inv.fr H.O.X I (H.K.rGet _ lt) (H.K.rHas _ lt) (H.K.rAtt _ _ lt hk.1 hk.2) rfl hu (VR.handed (v:=.b y) (Y:=C.Y) (am:=p.ad.am) ru) (h u ru))
 λhf=>LW hf (λhf=>IJ hf λz hz hf=>by
  refine a.ins hz r λz' d es n hc I lt g J J=>?_
  obtain⟨u,hu,ru⟩:=(g k k128).1 _ hf
  exact get_own a.inv.fr H.O.X I (H.K.Mj _ lt) (H.K.NS _ lt) (H.K.Po _ _ lt hk.1 hk.2) rfl hu ru.handed (h u ru))
 λhf=>IJ hf λz hz hf=>IJ hf λy hy hf=>by
  refine a.Ls hz r λz' d es n cs Lu hc I lt g=>?_
  obtain⟨u,hu,ru⟩:=(g k k128).1 _ hy
  exact get_own a.inv.fr H.O.X I (H.K.Mj _ lt) (H.K.NS _ lt) (H.K.Po _ _ lt hk.1 hk.2) rfl hu ru.handed (h u (qJ Lu hf ru))
theorem AU(H:Ok C)(k:Nat):U1 C (.Jn k):=λx e hc hs B st p r w Q hf P D post=>aEl hc λhb h1=>JD hf λz hz e'=>by
 subst e'
 exact Attribute_any_ (D p.s.toks λy q t a ry=>pF H (km h1) a ry hz λu ru=>post u _ (t.trans .tk) a.tk ru) (bX hb _ _ _)
theorem AQ(H:Ok C)(k:Nat):U1 C (.Lh k):=λx e hc hs B st p r w Q hf P D post=>aEl hc λhb h1=>IJ hf λz hz hf=>Km hf λhg e'=>aEl hg λh2 h3=>by
 subst e'
 have hk:=km h1
 obtain⟨f1,f2,f3,f5⟩:=H.K.mFn k (Nat.lt_trans hk (by decide))
 refine Attribute_any_ (D p.s.toks λy q t a ry=>?_) (bX hb _ _ _)
 refine a.ins hz ry λz' d es n hc I lt g J J=>?_
 have NB:=(g k (Nat.lt_trans hk (by decide))).2 (Option.isNone_iff_eq_none.mp h3)
 rw[lf h2]at I lt
 refine get_bind (a.K H.O) I (plainGet_of (H.K.Mj _ lt)).1 (findObj_fn (H.K.NS _ lt) (H.K.mEm k hk) f2 f3 f5 (show lookIn _ (dictOf es n)=_ by (rewrite[lookIn_dict];exact(NB).symm▸rfl))) (plainGet_of (H.K.Mj _ lt)).2
  (wpAny_call (fn_get (s:={ q.s with toks:=q.s.toks+1}) (a.K H.O) (lf f1) (handed_on rfl ?_)))
 exact a.freeze (mf _) (a.inv.fr.push (methodObj (.ref (C.Y.fn k)) (.ref z'))) (a.inv.nw.push a.inv.fr _) λt' a'=>post _ _ (t.trans t') a' (CO.mk hk (dA adr hc) (.head _))
theorem AP(H:Ok C):U1 C .not:=λx e hc hs B st p r w Q hf P D post=>JD hf λz hz e'=>by
 subst e'
 exact UnaryOp_ (D p.s.toks λy q t a ry=>not_of (dw H ry a hz λtk=>post _ _ (t.trans .tk) a.tk rfl))
theorem A2{a:E}(ha:JI C a):JI C (.u1 .not a):=λe0 hc B st p r b Q hv ht P post=>aEl hc λhc J=>IJ hv λq hq h=>JD h λz hz e'=>by
 subst e'
 obtain rfl:=ke ht
 exact isTrue_not (ha _ hc hq hz P λq t a=>post q t a)
theorem Ef{z:Bool}(r:C.V p v x)(hf:f1 C.c (.isNone z) v st=some (w,II))(h:∀b,w=.b (.bool b)->st=II->Q (.bool b) p.s):wpAny C.M A (compareOp (isA z) x .none) Q X p.s:=Km hf λhu e=>by
 obtain⟨rfl,rfl⟩:=Prod.mk.inj e
 have h:=h _ rfl rfl
 refine r.shape.elim (λz1=>?_) λz1=>?_
 ·rw[z1.1]at h;(refine(z1.2).symm▸?_)
  cases z
  ·exact wpAny_isNot_self rfl h
  ·exact wpAny_is_self rfl h
 ·have h2:aU v=false:=(Bool.eq_false_or_eq_true _).elim (λh=>(z1.2.1 (r.nul h)).elim) id
  rw[h2]at h
  have hp:plainIs x .none=true:=by cases x <;> first | rfl | exact absurd rfl (z1.1 _)
  cases z
  ·exact wpAny_isNot_other hp z1.2.1 h
  ·exact wpAny_is_other hp z1.2.1 h
theorem pO(z:Bool):U1 C (.isNone z):=λx e hc hs B st p r w Q hf P D post=>
 wpAny_Compare1 (D p.s.toks λy q t a ry=>Constant_none (Ef ry hf λb e e2=>post _ _ t (e2▸a) (e▸rfl))) (by cases z <;> rfl)
theorem pQ{a:E}{z:Bool}(ha:IQ C a):JI C (.u1 (.isNone z) a):=λe0 hc B st p r b Q hv ht P post=>aEl hc λhc J=>IJ hv λq hq h=>
 wpAny_isTrue_Compare1 (ha _ hc hq P λy q t a ry=>Constant_none (Ef ry h λb' e e2=>wpAny_truthy_bool (by rw[e]at ht;obtain rfl:=ke ht;exact post q t (e2▸a)))) (by cases z <;> rfl)
theorem eG(H:Ok C){pos:Pos}{g:String}{id:Value}(hg:dO C.sc (PySem.Str.ofString g)=true)(NW:g∈["len", "ord", "isinstance", "sorted", "range", "str"])(hb:bootBuiltins (PySem.Str.ofString g)=some id)(hn:(PySem.Str.ofString g) ≠ "__name__")
  (a:At C m st p) (args:List Expr) (h:wpAny C.M A (callWith pos id [] (backTo pos (starEach args C.env)) []) Q X p.s):wpAny C.M A (eval (.Call (nE (PySem.Str.ofString g) e) args [] pos) C.env) Q X p.s:=aEl hg λh1 h2=>
 wpAny_Call_Name_kw (Name_function_global (env:=C.env) H.hk (lf h1) (loadGlobal_builtin (env:=C.env) (H.O.T.g.keeps a.inv.fr.keep) (mg_none_of H.O.X H.O.T.g (H.K.gBi g NW)) (H.O.T.b.keeps a.inv.fr.keep) ((H.O.T.builtins _ hn).trans hb) h) (lq h2))
theorem AR(H:Ok C):U1 C .len:=λx e hc hs B st p r w Q hf P D post=>by
 refine eG H hc (by simp) (by boot_by_name) (by decide) P.at' [x] ?_
 (refine(jg hs)▸?_)
 refine callWith_builtin1 (D p.s.toks λy q t a ry=>?_)
 refine LW hf (λhf=>JD hf λz hz e'=>?_) λhf=>JD hf λz hz e'=>?_
 ·subst e'
  cases ry.str hz with | mk u hl=>exact PySem.P.len_str (Aa hl) (post _ _ (t.trans .tk) a.tk (dk.mk _))
 ·subst e'
  exact a.lst hz ry λz' xs n hc hg hx hl=>call_len_list (aE hg) (by (refine(List.size_toArray)▸?_;refine(hx.length)▸?_);exact jt hl) (post _ _ (t.trans .tk) a.tk (by (refine(List.size_toArray).symm▸?_;refine(hx.length)▸?_);exact dk.mk _))
theorem AO(H:Ok C):U1 C .ord:=λx e hc hs B st p r w Q hf P D post=>JD (o:=vW r.1) hf λd hd e'=>by
 subst e'
 refine eG H hc (by simp) (by boot_by_name) (by decide) P.at' [x] ?_
 (refine(jg hs)▸?_)
 refine callWith_builtin1 (D p.s.toks λy q t a ry=>?_)
 cases ry.ch hd with | mk u hl=>exact PySem.P.ord_of_char (post _ _ (t.trans .tk) a.tk (dk.mk _))
theorem Cp{i:Int}(h0:0<=i)(h1:i<=9):PySem.Str.ofString (toString i)=Jo [48+i.toNat]:=by
 obtain⟨n,rfl⟩:=Int.eq_ofNat_of_zero_le h0
 exact(by decide +kernel:∀n:Fin 10,PySem.Str.ofString (toString (n.1:Int))=Jo [48+(n.1:Int).toNat]) ⟨n,Nat.lt_succ_of_le (Int.ofNat_le.mp h1)⟩
theorem wE(H:Ok C):U1 C .NM:=λx e hc hs B st p r w Q hf P D post=>IJ hf λi hi hf=>Km hf λhb e'=>by
 subst e'
 rw[Bool.and_eq_true,decide_eq_true_eq,decide_eq_true_eq]at hb
 refine eG H hc (by simp) (by boot_by_name) (by decide) P.at' [x] ?_
 (refine(jg hs)▸?_)
 refine PySem.callWith_type1 (D p.s.toks λy q t a ry=>?_)
 cases ry.int hi with
 | mk u=>
  have hlog:i.natAbs.log2 < 1920:=lj (Nat.log2_le_self _) (by omega)
  refine PySem.P.str_of_int hlog ?_
  rw[Cp hb.1 hb.2]
  exact post _ _ (t.trans .tk) a.tk (Jw.mk _ (by show 1<=IU;decide))
theorem cw2{M:Model}{s:Shared}{id:String}{pos:Pos}{t u:Sem Value}(h:wpAny M A t (λv Js=>wpAny M A u (λz JU=>wpAny M A (call (.builtin id) [v,z]) Q X JU) X Js) X s) :
  wpAny M A (callWith pos (.builtin id) [] [(false,t),(false,u)] []) Q X s:=
 callWith_of (P:=λJ=>True) rfl (λh J=>⟨_,.inr (.inl rfl),Looks.of_pure rfl⟩) (evalArgs_plain (Calls.spliced_cons (wpAny_mono h (λv Js Jv=>Calls.spliced_cons (wpAny_mono Jv (λz JU J7=>Calls.spliced_nil ⟨trivial,J7⟩) λJ J x=>x)) λJ J x=>x)))
theorem pH(H:Ok C){k:Nat}(hk:k < 15):∀cs:List Nat,(∀d∈cs,d < 14)->kitAny C.Y.K (.ref (C.Y.Ju k)) (cs.map λd=>.ref (C.Y.Ju d))=some (cs.any λd=>sd C.c k d)
 | [],_=>rfl
 | d::cs,hd=>by
  (refine(List.map_cons)▸?_;rewrite[kitAny];refine(H.K.rSub k d hk (hd d (.head _)))▸?_;refine(List.any_cons)▸?_)
  cases sd C.c k d
  ·exact pH H hk cs λx hx=>hd x (.tail _ hx)
  ·rfl
theorem lU(H:Ok C){pos:Pos}(a:At C m st p):∀(cs:List Nat)(es:List Expr)(Q:List Value->Shared->Prop),es.length=cs.length->(∀d∈cs,d < 14/\dO C.sc (C.Y.cn d)=true)->Q (cs.map λd=>.ref (C.Y.Ju d)) p.s->
  wpAny C.M A (spliced (backTo pos (starEach ((cs.zip es).map λp=>nE (C.Y.cn p.1) p.2) C.env))) Q X p.s
 | [],_,Q,_,_,h=>Calls.spliced_nil h
 | d::cs,[],Q,hl,_,h=>nomatch hl
 | d::cs,e::es,Q,hl,hc,h=>Calls.spliced_cons (x:=eval (nE (C.Y.cn d) e) C.env) (cI H (hc d (.head _)).2 a (H.K.QN d (Nat.lt_trans (hc d (.head _)).1 (by decide))) (lU H a cs es _ (Nat.succ.inj hl) (λd hd=>hc d (.tail _ hd)) h))
theorem AT(H:Ok C)(tup:Bool)(cs:List Nat):U1 C (.Kp tup cs):=λx e hc hs B st p r w Q hf P D post=>aEl hc λhc h3=>aEl hc λhg h2=>JD hf λz hz e'=>by
 subst e'
 have Lu:∀d∈cs,d < 14/\dO C.sc (C.Y.cn d)=true:=λd hd=>aEl (mc h2 d hd) λh1 h2=>⟨km h1,h2⟩
 refine eG H hg (by simp) (by boot_by_name) (by decide) P.at' _ ?_
 have kit:∀{q:Pt}{z' d:Addr}{es:List DictEntry}{k:Nat},z.1 < 15->_:=λ{q} {z' d} {es} {k} lt=>kitx_own (x:=z') (ox:=instObj (C.Y.Ju z.1) d) (od:=dictOf es k) (H.K.rGet z.1 lt) (H.K.rHas _ lt) (H.K.rCls _ lt) H.K.QU H.K.QT (H.K.rObj _ lt)
 cases tup with
 | true=>
  refine aEl h3 λh4 h5=>?_
  rw[vQ hs rfl]
  refine cw2 (D p.s.toks λy q t a ry=>Tuple_ (lU H a cs _ _ (lf h5) Lu ?_))
  refine newTuple_N a.inv.fr a.inv.nw (λQf F' N'=>?_) (by rw[lg];exact cW (kg (km h4) (by decide)))
  have a':=a.h (t0:=q.s.toks) F' λp hp=>N' p (.tail _ hp)
  refine a'.rc (ry.rc hz) λz' d es n lt I g=>?_
  exact kia_tup (s:={ q.s with heap:=Qf}) (kit (q:=q) (z':=z') (d:=d) (es:=es) (k:=n) lt) (a'.K H.O) I (N' _ (.head _)).1 (pH H lt _ λd hd=>(Lu d hd).1) (by intro e;cases e) λOq=>post _ _ ((t.trans .h).trans .tk) (a'.tk (t0:=Oq)) rfl
 | false=>
  cases cs with
  | nil=>exact JA h3
  | cons d cs=>
  cases cs with
  | cons=>exact JA h3
  | nil=>
  rw[vQ hs rfl]
  refine cw2 (D p.s.toks λy q t a ry=>cI H (Lu d (.head _)).2 a (H.K.QN d (Nat.lt_trans (Lu d (.head _)).1 (by decide))) ?_)
  exact a.rc (ry.rc hz) λz' d' es n lt I g=>kia_one (kit (q:=q) (z':=z') (d:=d') (es:=es) (k:=n) lt) (a.K H.O) I (H.K.rSub _ _ lt (Lu d (.head _)).1) (by intro e;cases e) λOq=>post _ _ (t.trans .tk) (a.tk (t0:=Oq)) (show Value.bool _=Value.bool _ by simp)
end
theorem kW{M:Model}{id:String}(h:Heap):∃k,(k=Keeper.frame∨k=Keeper.machine∨k=Keeper.boundFrame)/\Looks M h (keeperOf (.builtin id)) k:=⟨_,.inr (.inl rfl),Looks.of_pure rfl⟩
section
variable{C:Cf}{B:Bk}{m:Zs->Option Value}{st II:St}{p q:Pt}{r:V×St}{v w:V}{x y:Value}{A:Around}{X:Value->Shared->Prop}{Q:Value->Shared->Prop}{e f:Expr}{tk:Tok}{b:Bool}{a d:E}{M:Model}{s:Shared}{pos:Pos}{G:Prop}
theorem Cr{id:String}{first:List Value}(h:wpAny M A (call (.builtin id) (first++[])) Q X s):wpAny M A (callWith pos (.builtin id) first [] []) Q X s:=
 callWith_of (P:=λJ=>True) rfl (λh J=>kW h) (evalArgs_nil3 ⟨trivial,h⟩)
theorem E4{id:String}{first:List Value}{t:Sem Value}(h:wpAny M A t (λv Js=>wpAny M A (call (.builtin id) (first++[v])) Q X Js) X s):wpAny M A (callWith pos (.builtin id) first [(false,t)] []) Q X s:=
 callWith_of (P:=λJ=>True) rfl (λh J=>kW h) (evalArgs_plain (Calls.spliced_cons (wpAny_mono h (λJ J Jv=>Calls.spliced_nil ⟨trivial,Jv⟩) λJ J x=>x)))
theorem g7{W:Wd}{nm:Zs}{id:String}{l:Addr}{xs:List Value}{k:Nat}{args:List (Bool×Sem Value)}(slot:Slot "list" nm id)(hty:typeOf (.builtin id)=pure (.type "method_descriptor"))(hg:s.heap.get? l=some (aK xs k))(h:wpAny (model W.prog W.w) A (callWith pos (.builtin id) [.ref l] args []) Q X s) :
  MethodOnS W.prog W.w A X nm (.ref l) pos args Q s:=⟨"list",id,PySem.F.plainAttrs_list,slot,hty,⟨_,hg,rfl⟩,λa e=>(Value.ref.inj e)▸⟨_,hg,rfl⟩,h⟩
theorem lO{W:Wd}{nm:Zs}{id:String}{l:Addr}{es:List DictEntry}{k:Nat}{args:List (Bool×Sem Value)}(slot:Slot "dict" nm id)(hty:typeOf (.builtin id)=pure (.type "method_descriptor"))(hg:s.heap.get? l=some (dictOf es k))(h:wpAny (model W.prog W.w) A (callWith pos (.builtin id) [.ref l] args []) Q X s) :
  MethodOnS W.prog W.w A X nm (.ref l) pos args Q s:=⟨"dict",id,PySem.F.plainAttrs_dict,slot,hty,⟨_,hg,rfl⟩,λa e=>(Value.ref.inj e)▸⟨_,hg,rfl⟩,h⟩
theorem At.Nz{i k k':Nat}{z:Addr}{xs PX:List Value}{l':List V}(a:At C m st p)(hc:p.ad.cur[i]?=some [(z,aK xs k)])(rx:IE (C.V p) l' PX)(hz:l'.length<=IU)
  (g:Upd z (aK xs k) (aK PX k') (p.ad.led++(p.φ++p.ul)) ((p.ad.set i [(z,aK PX k')]).led++(p.φ++p.ul))->(∀h tk,Fr C.hB C.L h m->News C.hB C.L h ((p.ad.set i [(z,aK PX k')]).led++(p.φ++p.ul))->
   To p (p.mv h tk (p.ad.set i [(z,aK PX k')]) p.φ)/\At C m (dK st i (.lst l')) (p.mv h tk (p.ad.set i [(z,aK PX k')]) p.φ))->G):G:=
 a.turn (pre:=[]) (post:=[]) hc (aK PX k') rfl (.lst rx hz) g
theorem xS{xs:List Value}{b:Value}(e:xs=xs.dropLast++[b]):kl_last xs=some (xs.dropLast,b):=(kh kl_last e).trans (kpa_last b _)
theorem AK(fr:Bool):U1 C (.pop fr):=λx e hc hs B st p r w Q hf P D post=>aEl hc λhb hl=>IJ hf λl KU hf=>by
 cases fr with
 | false=>
  refine JD (o:=l.2.getLast?) hf λu hu e'=>?_
  subst e'
  refine Call_method0 (bz hb _ _) hl (D p.s.toks λy q t a ry=>a.lst KU ry λz xs n hc hg hx hz=>?_)
  obtain⟨b,eb,rb,hr⟩:=hx.last hu
  refine a.Nz (k':=n+1) hc hr (List.length_dropLast▸kg (Nat.sub_le _ _) hz) λU go=>g7 PySem.F.slot_list_pop PySem.F.type_list_pop hg (Cr ?_)
  exact kl_pop a.inv.fr a.inv.nw (xS eb) U (show xs.length<=sizeLine from hx.length▸cW hz) λh F' N'=>post b _ (t.trans (go h _ F' N').1) (go h _ F' N').2 ((go h _ F' N').1.vr rb)
 | true=>
  refine JD (o:=l.2.head?) hf λu hu e'=>?_
  subst e'
  refine Call_method1 (bz hb _ _) rfl hl (D p.s.toks λy q t a ry=>a.lst KU ry λz xs n hc hg hx hz=>?_)
  obtain⟨i,l⟩:=l
  cases hx with
  | nil=>exact nS hu
  | cons rb hr=>
  obtain rfl:=ke hu
  refine a.Nz (k':=n+1) hc hr (mq hz) λU go=>g7 PySem.F.slot_list_pop PySem.F.type_list_pop hg (E4 (wpAny_Constant_int ?_))
  exact kl_popAt (i:=0) (k:=0) (p:=[]) (s:={ q.s with toks:=q.s.toks+1}) a.inv.fr a.inv.nw rfl (if_pos (by simp)) rfl U (show List.length _<=sizeLine from(IE.cons rb hr).length▸cW hz) λh F' N'=>post _ _ (t.trans (go h _ F' N').1) (go h _ F' N').2 ((go h _ F' N').1.vr rb)
theorem wP{Y:Lay}{φ:Led}{am:AM}{vs:List V}{xs:List Value}(x:IE (VR Y φ am) vs xs):∀{ss:List Tx},vs.mapM aQ=some ss->∃l:List (Zs×Tok),xs=strValues l/\l.map (·.1)=ss.map Jo:=by
 induction x with
 | nil=>intro ss h;obtain rfl:=ke h;exact⟨[],rfl,rfl⟩
 | cons r _ ih=>
  intro ss h
  rw[List.mapM_cons]at h
  refine IJ h λt ht h=>IJ h λts hts e=>?_
  obtain rfl:=ke e
  obtain⟨l,rfl,hl⟩:=ih hts
  cases r.str ht with | mk u _=>exact⟨(_,u)::l,rfl,kh (_::·) hl⟩
theorem qW(ss:List Tx):PySem.Txt.join (Jo []) (ss.map Jo)=Jo ss.flatten:=by
 show PySem.Builtin.Str.glued _ _=_
 rw[PySem.StrLaws.glued_eq_join]
 induction ss with
 | nil=>rfl
 | cons x r ih=>
  cases r with
  | nil=>exact kh Jo (mh x).symm
  | cons y r=>
   show Jo x++Jo []++PySem.Str.join (Jo []) ((y::r).map Jo)=_
   (refine(ih)▸?_;rewrite[pG];rewrite[pG];rw[mh]);rfl
theorem nq{ss:List Tx}(h:ss.flatten.length<=IU):JoinOk (Jo []) (ss.map Jo)=true:=by
 unfold JoinOk
 (rewrite[Bool.not_eq_true'];rewrite[PySem.StrLaws.joinTotal];refine(List.map_map).symm▸?_;rewrite[dX];refine(List.length_nil)▸?_;rewrite[Nat.mul_zero];rw[Nat.add_zero])
 rw[List.length_flatten]at h
 exact decide_eq_false (Nat.not_lt.mpr (cW h))
theorem wG:U1 C .join:=λx e hc hs B st p r w Q hf P D post=>IJ hf λl hl hf=>IJ hf λss hss hf=>Km hf λhlen e'=>by
 subst e'
 refine Call_method1 (by rfl) (by (refine(bG hs)▸?_);rfl) hc (wpAny_Constant_str (PySem.SB.join (D (p.s.toks+1) λy q t a ry=>?_)))
 refine a.lst hl ry λz xs n hc hg hx hz=>?_
 obtain⟨ll,rfl,e2⟩:=wP hx hss
 have hlen:=km hlen
 refine⟨_,ll,rfl,aE hg,_,e2,nq hlen,λt' k=>?_⟩
 rw[show PySem.Txt.join ("" : Zs) (ss.map Jo)=Jo ss.flatten from qW ss]
 exact post _ _ (t.trans .tk) a.tk (Jw.mk t' hlen)
end
theorem tX{a b:Tx}(h:Lm b a=false)(h':Lm a b=false):a=b:=List.le_antisymm (List.not_lt.mp (of_decide_eq_false h)) (List.not_lt.mp (of_decide_eq_false h'))
theorem tV{a b c:Tx}(h:Lm b a=false)(h':Lm c b=false):Lm c a=false:=decide_eq_false (List.not_lt.mpr (List.le_trans (List.not_lt.mp (of_decide_eq_false h)) (List.not_lt.mp (of_decide_eq_false h'))))
theorem tW{a b:Tx}(h:Lm a b=true):Lm b a=false:=decide_eq_false (List.lt_asymm (km h))
noncomputable abbrev fR(l:List Tx):Prop:=l.Pairwise (λa b=>Lm b a=false)
theorem qt{l:List Tx}:∀{k:List Tx},l.Perm k->fR l->fR k->l=k:=by
 induction l with
 | nil=>intro k h _ _;exact(List.nil_perm.mp h).symm
 | cons a l ih=>
  intro k h ha hb
  cases k with
  | nil=>exact(List.not_perm_cons_nil h).elim
  | cons b k=>
   have hab:a=b:=(kq (h.subset (.head _))).elim id λh1=>(kq (h.symm.subset (.head _))).elim Eq.symm λh2=>tX (List.rel_of_pairwise_cons ha h2) (List.rel_of_pairwise_cons hb h1)
   subst hab
   (exact(ih (List.Perm.cons_inv h) (List.pairwise_cons.mp ha).2 (List.pairwise_cons.mp hb).2).symm▸rfl)
theorem i3(x y:Tx)(r:List Tx):qM x (y::r)=if Lm y x then y::qM x r else x::y::r:=rfl
theorem iZ(x:Tx)(l:List Tx):(qM x l).Perm (x::l):=by
 induction l with
 | nil=>exact .refl _
 | cons y r ih=>
  rw[i3]
  split
  ·exact(ih.cons y).trans (.swap x y r)
  ·exact .refl _
set_option tactic.hygienic true in
theorem lB(x:Tx){l:List Tx}(h:fR l):fR (qM x l):=by
 induction l with
 | nil=>exact List.pairwise_singleton _ _
 | cons y r ih=>
  rw[i3]
  have Qe:=List.pairwise_cons.mp h
  split
  ·rename_i hl
   exact List.pairwise_cons.mpr ⟨λz hz=>(kq ((iZ x r).subset hz)).elim (λe=>e▸tW hl) (Qe.1 z),ih Qe.2⟩
  ·rename_i hl
   have hl:=Bool.eq_false_iff.mpr hl
   exact List.pairwise_cons.mpr ⟨λz hz=>(kq hz).elim (λe=>e▸hl) λhz=>tV hl (Qe.1 z hz),h⟩
theorem gH(l:List Tx):(iO l).Perm l:=by
 induction l with
 | nil=>exact .refl _
 | cons x l ih=>exact(iZ x _).trans (ih.cons x)
theorem jq(l:List Tx):fR (iO l):=by
 induction l with
 | nil=>exact .nil
 | cons x l ih=>exact lB x ih
theorem qp(l:List Zs):∀p:Zs,risingS p l=true->fR ((p::l).map (·.cps.toList)):=by
 induction l with
 | nil=>exact λp J=>List.pairwise_singleton _ _
 | cons x r ih=>
  intro p h
  obtain⟨h1,h2⟩:=ma (show(!PySem.Spec.ltCps x.cps.toList p.cps.toList&&risingS x r)=true from h)
  rw[Bool.not_eq_true',ltCps_eq]at h1
  have ih:=ih x h2
  exact List.pairwise_cons.mpr ⟨λz hz=>(kq hz).elim (λe=>e▸h1) λhz=>tV h1 (List.rel_of_pairwise_cons ih hz),ih⟩
theorem pS{vs:List Value}{ss:List Zs}(h:StrsAre vs ss)(hz:∀x∈ss,x.cps.toList.length<=IU):IE Jw (ss.map (·.cps.toList)) vs:=by
 induction h with
 | nil=>exact .nil
 | cons x t _ ih=>exact .cons (Jw.mk t (hz x (.head _))) (ih λy hy=>hz y (.tail _ hy))
theorem Jw.le{t:Tx}{x:Value}(r:Jw t x):t.length<=IU:=by cases r with | mk _ h=>exact h
theorem IE.keyLe{P:Params}{l:List (Tx×Tx)}{es:List DictEntry}(h:dl P l es):∀y∈l.map (·.1),y.length<=IU:=by
 induction h with
 | nil=>exact λJ h=>nomatch h
 | cons r _ ih=>exact λy hy=>(kq hy).elim (λe=>e▸r.k.le) (ih y)
theorem nj{kvs:List (Zs×Value)}{vs:List Value}(hl:vs.length=kvs.length)(hv:∀(j:Nat) v,vs[j]?=some v->∃k x,kvs[j]?=some (k,x)/\Value.isStrOf k v=true):StrsAre vs (vs.map PyProof.Rows.strOf)/\vs.map PyProof.Rows.strOf=kvs.map (·.1):=by
 refine⟨strsAre_map vs λv OC=>?_,List.ext_getElem? λj=>?_⟩
 ·refine KJ λhG=>?_
  obtain⟨j,hj⟩:=List.mem_iff_getElem?.mp OC
  obtain⟨kk,x,hx,Qc⟩:=hv j v hj
  refine hG ?_
  clear hG
  exact(Value.isStrOf_shape Qc).elim λu e=>⟨_,u,e⟩
 ·(refine(List.getElem?_map)▸?_;refine(List.getElem?_map).symm▸?_)
  cases hj:vs[j]? with
  | none=>(refine(List.getElem?_eq_none (hl▸List.getElem?_eq_none_iff.mp hj))▸?_);rfl
  | some v=>
   refine KJ λhG=>?_
   obtain⟨kk,x,hx,Qc⟩:=hv j v hj
   obtain⟨u,rfl⟩:=Value.isStrOf_shape Qc
   refine hG ?_
   clear hG
   (refine(hx)▸?_);rfl
section
variable{C:Cf}{B:Bk}{m:Zs->Option Value}{st II:St}{p q:Pt}{r:V×St}{v w:V}{x y:Value}{A:Around}{X:Value->Shared->Prop}{Q:Value->Shared->Prop}{e f:Expr}{G:Prop}
theorem pW{h:Heap}{z:Addr}{vs out:List Value}{n:Nat}{φ:Led}(F:Fr C.hB C.L h m)(N:News C.hB C.L h ((z,aK vs n)::φ))(lt:∀p∈φ,p.1 < z)(k:∀e,Fr C.hB C.L (sortedHeap h z vs out.toArray) m->News C.hB C.L (sortedHeap h z vs out.toArray) ((z,aK out e)::φ)->G):G:=by
 have hB:=N _ (.head _)
 obtain⟨e,he⟩:=sortedHeap_at (out:=out.toArray) hB.1
 have keep:∀b o,b≠z->h.get? b=some o->(sortedHeap h z vs out.toArray).get? b=some o:=λb o hb e=>(sortedHeap_old hb (Heap.lt_size e)).trans e
 refine k e ⟨?_,λb o e=>keep _ _ (λeb=>nomatch (eb▸e:C.hB.get? z=some o).symm.trans hB.2.2) (F.keep b o e),F.above⟩ λp hp=>(kq hp).elim (λe=>e▸⟨he,hB.2⟩) λhp=>⟨keep _ _ (Nat.ne_of_lt (lt p hp)) (N p (.tail _ hp)).1,(N p (.tail _ hp)).2⟩
 refine KJ λhG=>?_
 obtain⟨oL,a1,a2,hL,a3⟩:=F.ns
 refine hG ?_
 clear hG
 exact⟨oL,a1,a2,keep _ _ (Ne.symm hB.2.1) hL,a3⟩
theorem mS(O:KR C.toWd)(hh:A.handled=none){d:Addr}{es:List DictEntry}{k:Nat}{t:List (Tx×Tx)}(a:At C m st p)(hd:(d,dictOf es k)∈p.ad.led++(p.φ++p.ul))(hr:DR C.w.params t es)
  (h:∀h' tk q xs n,Fr C.hB C.L h' m->News C.hB C.L h' ((q,aK xs n)::(p.ad.led++(p.φ++p.ul)))->(∀z∈p.ad.led++(p.φ++p.ul),z.1 < q)->IE Jw (iO (t.map (·.1))) xs->Q (.ref q) { p.s with heap:=h',toks:=tk}) :
  wpAny C.M A (call (.builtin "dict.keys") [.ref d]) (λv Js=>wpAny C.M A (call (.builtin "sorted") [v]) Q X Js) X p.s:=by
 have kz:(ek t es).length<=60:=hr.r.Ox.symm▸hr.le
 refine kdl_view_keys (knd:=PySem.strKind C.prog C.w) a.inv.fr a.inv.nw hd hr.Nb (a.noSys O hd) λD Jv F₁ N1 lt₁=>?_
 have hat:Jv.DictAt (PySem.strKind C.prog C.w) d (ek t es) k:=by
  refine KJ λhG=>?_
  obtain⟨PG,ep,a1,a2,a3,a4,a5⟩:=hr.Nb (prog:=C.prog) (w:=C.w) (k:=k)
  refine hG ?_
  clear hG
  cases a2
  exact⟨_,_,(N1 _ (.tail _ hd)).1,a1,rfl,a3,a4,a5⟩
 refine kdu_sorted (s:={ p.s with heap:=Jv}) (kdl_keys (knd:=PySem.strKind C.prog C.w) (r:=D) (d:=d) (kvs:=ek t es) (ep:=k)) hh F₁ N1 ⟨⟨_,(N1 _ (.head _)).1,rfl,rfl⟩,hat⟩ (kdl_size (kg kz (by decide))) λz J7 tk vs F₂ Q2 P8 hl hv=>?_
 obtain⟨hS,Qb⟩:=nj hl hv
 rw[hr.r.keysOf]at Qb
 refine wpAny_call_entry slot_list_sort ⟨_,(Q2 _ (.head _)).1,rfl⟩ entry_list_sort (list_sort_treeK strKind_oneLt (Q2 _ (.head _)).1 hS.keysOf (λv₁ v₂ rest e=>keyKind_strs (by rw[<- e];exact hS)) (by exact L2 [_,_] 1 (.a Y1 (.c 1)) (.c 64) [(1,Y0,(.c 60)),(1,Y1,Y0)] rfl kz (lx hl)) λII hp hs=>⟨_,rfl,?_⟩) (args_list_sort _)
 obtain⟨ss',b1,b2,b3⟩:=sorted_out_str hS hp hs
 refine pW (out:=((arrOf II).map (·.2)).toList) F₂ (λp hp=>Q2 p ((kq hp).elim (λe=>e▸.head _) λh=>.tail _ (.tail _ h))) (λp hp=>P8 p (.tail _ hp)) λe F₃ N₃=>?_
 refine h _ tk z _ _ F₃ N₃ (λp hp=>P8 p (.tail _ hp)) ?_
 rw[Qb]at b2
 have hb:ss'.map (·.cps.toList)=iO (t.map (·.1)):=by
  refine qt ?_ ?_ (jq _)
  ·have:=b2.map (·.cps.toList)
   rw[List.map_map,show(λx:Zs=>x.cps.toList) ∘ Jo=id from rfl,List.map_id]at this
   exact this.trans (gH _).symm
  ·cases ss' with
   | nil=>exact .nil
   | cons x r=>exact qp r x b3
 (refine(hb)▸?_)
 exact pS b1 λx hx=>by
  obtain⟨y,hy,rfl⟩:=List.mem_map.mp (b2.subset hx)
  exact hr.r.keyLe y hy
theorem wF(H:Ok C)(hs0:C.hs=true):U1 C .keys:=λx e hc hs B st p r w Q hf P D post=>aEl hc λhc hl=>aEl hc λhg hb=>JD hf λt ht e'=>by
 subst e'
 refine eG H hg (by simp) (by boot_by_name) (by decide) P.at' _ ?_
 rw[jg rfl]
 refine callWith_builtin1 (Call_method0 (bz hb _ _) hl (D p.s.toks λy q t' a ry=>?_))
 have fin:∀{z es n},(z,dictOf es n)∈q.ad.led++(q.φ++q.ul)->DR C.w.params t es->MethodOnS C.prog C.w B.A B.X "keys" (.ref z) (IS 1 e).pos [] (λv JU=>wpAny C.M B.A (call (.builtin "sorted") [v]) Q B.X JU) q.s:=λ{z es n} hm d=>
  lO (W:=C.toWd) PySem.F.slot_dict_keys PySem.F.type_dict_keys (a.inv.get hm) (Cr (mS H.O (P.rm hs0).h a hm d λh tk u xs k F' N' lt hx=>by
   have hlen:=(gH (t.map (·.1))).length_eq
   rw[lg]at hlen
   refine a.alloc (t0:=tk) (c:=[(u,aK xs k)]) (a.inv.more (c:=[(u,aK xs k)]) F' N' (List.nodup_cons.mpr ⟨mn,.nil⟩) (λp hp y hy e=>Nat.lt_irrefl _ (li (lt y hy) (lx (e.trans (kh Prod.fst (ku hp))).symm))) (λp hp=>(ku hp)▸kg (a.inv.lo _ hm) (Nat.le_of_lt (lt _ hm))) Ad.K4)
    (.lst (IE.mapL (f:=λt=>V.b (.str t)) (hx.mono λJ J r=>r)) (by (rewrite[lg];refine(hlen)▸?_);exact DY d.le)) λt'' QZ r''=>post _ _ (t'.trans t'') QZ r''))
 refine JD ht λz hz e'=>?_
 subst e'
 exact a.LH hz ry λz es n hc hg d=>fin (At.mem hc (.head _)) d
end
end
section
open PySem PySem.W PySem.Calls PyProof.Rows PySem.SeqAt
structure KV(p:Tx×Tx)(kv:Zs×Value):Prop where
 k:kv.1=Jo p.1
 le:p.1.length<=IU
 v:Jw p.2 kv.2
theorem IE.kv{P:Params}{l:List (Tx×Tx)}{es:List DictEntry}(h:dl P l es):IE KV l (ek l es):=by
 induction h with
 | nil=>exact .nil
 | cons r _ ih=>exact .cons ⟨rfl,r.k.le,r.v⟩ ih
theorem lA(a b:Tx)(t:Tok):Value.isStrOf (Jo a) (.str (Jo b) t)=(b==a):=(isStr_of _ _).symm.trans (xj b a)
section
variable{prog:Program}{w:World}{l:List (Tx×Tx)}{es:List DictEntry}{kvs:List (Zs×Value)}
set_option tactic.hygienic true in
theorem kR(h:Pairs (strKind prog w) es kvs):∀{l:List (Tx×Tx)},IE KV l kvs->(∀e∈es,∃k,(strKind prog w).is k e.key=true/\e.hash=(strKind prog w).hash k)->dl w.params l es:=by
 induction h with
 | nil=>intro l r _;cases r;exact .nil
 | cons h1 h2 _ ih=>
  rename_i e kv es kvs _
  intro l r hk
  cases r with
  | @cons p _ _ _ r q=>
  refine KJ λhG=>?_
  obtain⟨t,ht⟩:=Value.isStrOf_shape (show Value.isStrOf kv.1 e.key=true from h1)
  obtain⟨k,NV,Py⟩:=hk e (.head _)
  obtain⟨t',ht'⟩:=Value.isStrOf_shape (show Value.isStrOf k e.key=true from NV)
  refine hG ?_
  clear hG
  have hkk:kv.1=k:=by injection ht.symm.trans ht'
  refine .cons ⟨?_,?_,h2▸r.v⟩ (ih q λe' he'=>hk e' (.tail _ he'))
  ·(refine(ht)▸?_;refine(r.k)▸?_);exact .mk t r.le
  ·(refine(Py)▸?_;refine(hkk)▸?_;refine(r.k).symm▸?_);rfl
theorem KV.keys(r:IE KV l kvs):kvs.map (·.1)=(l.map (·.1)).map Jo:=by
 induction r with
 | nil=>rfl
 | cons x _ ih=>(refine(List.map_cons)▸?_;rewrite[List.map_cons];refine(List.map_cons).symm▸?_;refine(ih)▸?_;exact(x.k).symm▸rfl)
theorem jP{o:Obj}(h:o.IsDictOf (strKind prog w) kvs)(r:IE KV l kvs)(hz:l.length<=60):∃es n,o=dictOf es n/\DR w.params l es:=by
 refine KJ λhG=>?_
 obtain⟨es,ep,⟨c1,c2,c3⟩,hd,hk,hp,nd⟩:=h
 refine hG ?_
 clear hG
 rw[KV.keys r]at nd
 refine⟨es.toList,ep,?_,kR hp r λe he=>hk e (Array.mem_toList_iff.mp he),hz,List.Pairwise.of_map _ (λa b h e=>h (by (exact(e).symm▸rfl))) nd⟩
 obtain⟨a,b,c,d⟩:=o
 obtain rfl:=c1;obtain rfl:=c2;obtain rfl:=c3;obtain rfl:=hd;rfl
theorem IE.find{P:Params}(r:dl P l es)(k:Tx):(∀v,l.lookup k=some v->∃x,findBy Value.isStrOf es.toArray (Jo k)=some x/\Jw v x)/\(l.lookup k=none->findBy Value.isStrOf es.toArray (Jo k)=none):=by
 unfold findBy
 rw[List.find?_toArray]
 induction r with
 | nil=>exact⟨nofun,λJ=>rfl⟩
 | @cons p e l es r _ ih=>
  obtain⟨p1,p2⟩:=p
  obtain⟨rk,_,rv⟩:=r
  (rewrite[List.lookup_cons];refine(List.find?_cons)▸?_)
  generalize e.key=z at rk
  cases rk with | mk t _=>
  rw[lA,show(k==p1)=(p1==k) from Bool.eq_iff_iff.mpr ⟨λh=>beq_iff_eq.mpr (lf h).symm,λh=>beq_iff_eq.mpr (lf h).symm⟩]
  cases p1==k with
  | true=>exact⟨λv h=>(ke h)▸⟨_,rfl,rv⟩,nofun⟩
  | false=>exact ih
theorem IE.mapOf{k:Nat}{h:Heap}{d:Addr}(r:dl w.params l es)(e:h.get? d=some (dictOf es k)):h.MapOf (strKind prog w) d (λx=>findBy Value.isStrOf es.toArray x):=
 ⟨_,es.toArray,k,e,⟨rfl,rfl,rfl⟩,rfl,λen he=>r.ent en (List.mem_toArray.mp he),λJ=>rfl⟩
end
theorem i8(c:Nat):er c=cg.lookup [c]:=by
 unfold er cg
 induction j2 with
 | nil=>rfl
 | cons p l ih=>
  (refine(List.map_cons)▸?_;rewrite[List.lookup_cons];rewrite[List.lookup_cons];rw[show(([c]:Tx)==[p.1])=(c==p.1) from Bool.and_true _])
  cases c==p.1 with
  | true=>rfl
  | false=>exact ih
section
variable{C:Cf}{B:Bk}{m:Zs->Option Value}{st II:St}{p q:Pt}{r:V×St}{v w:V}{x y:Value}{A:Around}{X:Value->Shared->Prop}{Q:Value->Shared->Prop}{e f:Expr}{tk:Tok}{a d:E}{G:Prop}
theorem j6(H:Ok C){k:Nat}{nm:Zs}{z:Addr}(hk:k < 128)(Ng:C.Y.nm k=nm)(he:findIn C.Y.K (.ref (C.Y.Jl 0)) nm=some (some (.ref z)))(hg:specialIn C.Y.K (.ref z) "__get__" = some none)(hcp:copiedNames.contains nm=false)
  (a:At C m st p) (r:C.V p v x) {i:Nat×Nat×List (Nat×V)} (hi:cC st v=some i) (h0:(i.2.1==0&&(i.2.2.lookup k).isNone)=true) (h:Q (.ref z) (p.tk (p.s.toks+1)).s):wpAny C.M A (getAttr x nm true) Q X p.s:=aEl h0 λh1 h2=>by
 refine a.ins hi r λz' d es n hc I lt g J J=>?_
 have NB:=(g k hk).2 (Option.isNone_iff_eq_none.mp h2)
 rw[Ng]at NB
 rw[lf h1]at I lt
 exact get_cls a.inv.fr H.O.X I (H.K.Mj _ lt) (H.K.NS _ lt) he hg rfl hcp NB h
theorem rS(H:Ok C):U1 C .LJ:=λx e hc hs B st p r w Q hf P D post=>aEl hc λhb hl=>IJ hf λi hi hf=>Km hf λh0 e'=>by
 subst e'
 refine Call_method0 (bz (by rfl) _ _) hl (Attribute_any_ (D p.s.toks λy q t a ry=>j6 H (by decide) H.K.nmPfx H.K.emPfx H.K.Qz (by decide +kernel) a ry hi h0 ?_) (bX hb _ _ _))
 obtain⟨es0,k0,hlk,hD0⟩:=H.K.LA
 have hg0:=a.K H.O _ _ hlk
 refine lO (W:=C.toWd) PySem.F.slot_dict_copy PySem.F.type_dict_copy hg0 (Cr ?_)
 refine call_meetsIn (s:={ q.s with toks:=q.s.toks+1}) PySem.F.slot_dict_copy ⟨_,hg0,rfl⟩ PySem.F.entry_dict_copy (PySem.F.args_dict_copy_1 _) (meets_dict_copy (strKind C.prog C.w) _ H.K.pfxHi) ⟨_,hD0.dictAt hg0,by (refine(hD0.r.Ox)▸?_);decide,λh hd' J Qc=>?_⟩
 refine KJ λhG=>?_
 obtain⟨o',OH,hd''⟩:=Heap.dictOf_iff.mp hd'
 obtain⟨PG,n',rfl,hD'⟩:=jP hd'' hD0.r.kv (by decide)
 refine hG ?_
 clear hG
 refine a.alloc (c:=[(q.s.heap.objs.size,dictOf PG n')]) (a.inv.one (mf _) (a.inv.fr.kept Qc) (λz hz=>(kq hz).elim (λe=>e▸⟨OH,Nat.ne_of_gt a.inv.fr.ns.lt,Heap.get?_none_of_le a.inv.above⟩) λhz=>⟨Qc _ _ (a.inv.nw z hz).1,(a.inv.nw z hz).2⟩) Ad.K4) (.LH hD') λt' a' r'=>post _ _ (t.trans t') a' r'
theorem w7(v:Internal.B):IQ C (.n0 (.cst v)):=λe0 hc B st p r Q hv P post=>by
 obtain rfl:=ke hv
 have here:∀{x},C.V p (.b v) x->∀tk,Q x (p.tk tk).s:=λr tk=>post _ _ .tk P.at'.tk r
 cases v with
 | nul=>exact Constant_none (here (x:=.none) rfl _)
 | bool b=>exact Constant_bool (here (x:=.bool b) rfl _)
 | int i=>exact wpAny_Constant_int (here (dk.mk _) _)
 | str t=>exact wpAny_Constant_str (here (Jw.mk _ (fH (km hc))) _)
 | _=>exact JA hc
theorem w5(i:Nat):IQ C (.n0 (.neg i)):=λe0 hc B st p r Q hv P post=>by
 obtain rfl:=ke hv
 exact UnaryOp_ (wpAny_Constant_int (PySem.P.neg_int (post _ _ .tk P.at'.tk (dk.mk _))))
theorem w6(H:Ok C)(k:Nat):IQ C (.n0 (.loc k)):=λe0 hc B st p r Q hv P post=>IJ hv λv OC h=>Km h λhn e'=>by
 subst e'
 exact oQ H OC (λe=>by subst e;exact JA hn) P λx rx=>post x p .rfl P.at' rx
theorem w8(H:Ok C):IQ C (.n0 .NF):=λe0 hc B st p r Q hv P post=>aEl hc λh1 h2=>Km hv λJ e=>by
 subst e
 refine KJ λhG=>?_
 obtain⟨ca,oc,x,e1,e2,e3,e4⟩:=P.lr.2 _ (lf h1)
 refine hG ?_
 clear hG
 exact wpAny_Name (wpAny_loadName_cell (env:=C.env) H.hk (lf h1) e1 ⟨oc,P.at'.got e2,e3⟩ (post x p .rfl P.at' e4)) (lq h2)
theorem GX(H:Ok C)(o:O0):IQ C (.n0 o):=by
 cases o with
 | stuck=>exact λe0 hc B st p r Q hv=>nomatch hv
 | cst v=>exact w7 v
 | neg i=>exact w5 i
 | loc k=>exact w6 H k
 | NF=>exact w8 H
theorem pk(H:Ok C){h:Heap}(X:C.Y.K.In h):∃f:Zs->Option Value,h.MapOf (PySem.strKind C.prog C.w) C.Y.Kn f/\∀k:Tx,(∀v,cg.lookup k=some v->∃x,f (Jo k)=some x/\Jw v x)/\(cg.lookup k=none->f (Jo k)=none):=
 H.K.OP.elim λes z=>z.elim λk z=>⟨_,z.2.mapOf (X _ _ z.1),z.2.find⟩
theorem qP(H:Ok C){d:Nat}(r:Jw [d] x)(Q0:C.Y.K.In p.s.heap)(post:∀tk,Q (.bool (er d).isSome) (p.tk tk).s):wpAny C.M A (compareOp .In x (.ref C.Y.Kn)) Q X p.s:=by
 cases r with | mk t _=>
 obtain⟨f,hf,hl⟩:=pk H Q0
 refine wpAny_in_of (strKind_is _ _ _ t) H.K.escHi hf ?_
 rw[i8]at post
 have hl:=hl [d]
 cases hq:cg.lookup [d] with
 | none=>(refine(hl.2 hq)▸?_);rw[hq]at post;exact post _
 | some d=>obtain⟨y,e1,_⟩:=hl.1 _ hq;(refine(e1)▸?_);rw[hq]at post;exact post _
theorem sM(H:Ok C)(ha:IQ C a)(k:Nat):IQ C (.OP a k):=λe0 hc B st p r Q hv P post=>aEl hc λh1 hb=>IJ hv λw hw h=>IJ h λu hu h=>IJ h λd hd h=>IJ h λi hi h=>IJ h λJ hg h=>JD h λz hz e'=>by
 subst e'
 refine Subscript_ (Attribute_any_ (ha _ h1 hw P λy q t a ry=>j6 H (by decide) H.K.P7 H.K.Qi H.K.OO (by decide +kernel) a ry hi (Km hg λh J=>h) ?_) (bX hb _ _ _))
 have a1:=a.tk (t0:=q.s.toks+1)
 refine oQ H hu (λe=>by subst e;exact nS hd) (P.to (t.trans .tk) a1) λx rx=>?_
 cases rx.ch hd with | mk t' _=>
 obtain⟨f,hf,hl⟩:=pk H (a.K H.O)
 rw[i8]at hz
 obtain⟨y,e1,ry⟩:=(hl [d]).1 _ hz
 exact PyProof.Rows.tail_any (s:={ q.s with toks:=q.s.toks+1}) hf.typeIs slot_dict_getitem.lookup (wpAny_getItem_of (s:={ q.s with toks:=q.s.toks+1}) (strKind_is C.prog C.w _ t') hf e1 (post _ _ (t.trans .tk) a.tk ry)) rfl
end
section
theorem iS{α:Type}(l:List α)(a:Nat)(k:Nat):((List.range k).map (a+·)).filterMap (l[·]?)=(l.drop a).take k:=by
 induction k with
 | zero=>rfl
 | succ k ih=>(refine(List.range_succ)▸?_;refine(List.map_append)▸?_;refine(List.filterMap_append)▸?_;refine(ih)▸?_;refine(List.take_add_one)▸?_;refine(List.getElem?_drop)▸?_);rfl
theorem dJ(a b:Nat):sliceRange (a:Int) (b:Int) 1=(List.range (b - a)).map (a+·):=by
 have e2:(if (a:Int) < b then((b:Int) - a+1 - 1) / 1 else 0).toNat=b - a:=by
  rw[Int.ediv_one,Int.add_sub_cancel]
  by_cases h:(a:Int) < b
  ·rw[if_pos h];exact Int.toNat_sub b a
  ·rw[if_neg h,Nat.sub_eq_zero_of_le (Int.ofNat_le.mp (Int.not_lt.mp h))];rfl
 show(List.range (if (a:Int) < b then((b:Int) - a+1 - 1) / 1 else 0).toNat).map _=_
 (refine(e2).symm▸?_)
 exact List.map_congr_left λk J=>by rw[Int.one_mul];rfl
theorem vA(a b:Nat):((min a b:Nat):Int)=min (a:Int) b:=(Nat.le_total a b).elim (λh=>by rw[Nat.min_eq_left h,Int.min_eq_left (Int.ofNat_le.mpr h)]) λh=>by rw[Nat.min_eq_right h,Int.min_eq_right (Int.ofNat_le.mpr h)]
theorem lW(i:Int)(n:Nat):max (0:Int) (min (if i < 0 then i+n else i) n)=(Je n i:Nat):=by
 unfold Je
 by_cases h:i < 0
 ·rw[if_pos h,if_pos h,Int.min_eq_left (Int.le_trans (Int.add_le_add_right (Int.le_of_lt h) _) (Int.le_of_eq (Int.zero_add _))),Int.max_comm]
  exact(Int.toNat_eq_max _).symm
 ·rw[if_neg h,if_neg h,vA,Int.toNat_of_nonneg (Int.not_lt.mp h),Int.max_eq_right]
  exact Int.le_min.mpr ⟨Int.not_lt.mp h,Int.natCast_nonneg n⟩
theorem sm(lo hi:Option Int)(n:Nat):Builtin.Str.strSliceIndices lo hi 1 n=(List.range (QL n hi - Pa n lo)).map (Pa n lo+·):=by
 rw[<- dJ]
 unfold Builtin.Str.strSliceIndices
 have e1:((1:Int) > 0)=True:=eq_true (by decide)
 simp only[e1,if_true]
 cases lo <;> cases hi <;> simp only[lW] <;> rfl
theorem wQ(x:Zs)(lo hi:Option Int):(Builtin.Str.strSliceIndices lo hi 1 x.length).filterMap (x.cps[·]?)=ar x.cps.toList lo hi:=by
 rw[sm]
 have e:(λi=>x.cps[i]?)=λi=>x.cps.toList[i]?:=funext λi=>Array.getElem?_toList.symm
 (refine(e)▸?_)
 exact iS x.cps.toList _ _
theorem ey{α:Type}(l:List α)(lo hi:Option Int):(ar l lo hi).length<=l.length:=by
 unfold ar
 (refine(List.length_take)▸?_;refine(List.length_drop)▸?_);exact kg (Nat.min_le_right _ _) (Nat.sub_le _ _)
theorem xZ{α:Type}{l:List α}{i:Int}{a:α}(h:de l i=some a):∃j,seqIndex? i l.length=some j/\l[j]?=some a:=by
 unfold de at h
 unfold seqIndex?
 split at h
 ·have J5:=(kj h).1
  refine⟨_,?_,h⟩
  have e1:¬ i < 0:=by omega
  simp only[e1,if_false]
  rw[if_pos]
  simp;omega
 ·split at h
  ·have J5:=(kj h).1
   refine⟨_,?_,h⟩
   have e1:i < 0:=by omega
   simp only[e1,if_true]
   rw[if_pos]
   simp;omega
  ·exact nS h
theorem qR{α:Type}{l:List α}{i:Int}{a:α}(h:de l i=some a)(hl:l.length<=IU):(decide (i < -(2 ^ 63:Int))||decide (i ≥ 2 ^ 63))=false:=by
 have:=fF
 unfold de at h
 rw[Bool.or_eq_false_iff,decide_eq_false_iff_not,decide_eq_false_iff_not]
 split at h
 ·have J5:=(kj h).1;omega
 ·split at h
  ·have J5:=(kj h).1;omega
  ·exact nS h
noncomputable def ed(o:Option Int)(t:Tok):Option (Int×Tok):=o.map λi=>(i,t)
theorem kQ(o:Option Int)(t:Tok):(ed o t).map (·.1)=o:=by cases o <;> rfl
theorem gS{Y:Lay}{φ:Led}{am:AM}{v:V}{x:Value}{o:Option Int}(r:VR Y φ am v x)(h:LC v=some o):∃t,x=partValue (ed o t):=IJ h λb hb h=>by
 have r:=r.B hb
 cases b with
 | nul=>obtain rfl:=ke h;exact⟨0,r⟩
 | int=>obtain rfl:=ke h;cases r;exact⟨_,rfl⟩
 | _=>exact nS h
theorem Bw{n h l:Nat}(e:n=h - l)(a:h<=n)(p:0 < l):n=0:=(Nat.eq_zero_or_pos n).elim id λhn=>(Nat.lt_irrefl n (lj (kg (lx e) (Nat.sub_le_sub_right a l)) (Nat.sub_lt hn p))).elim
theorem rh(n:Nat)(i:Int):Je n i<=n:=by
 unfold Je
 split
 ·next h=>exact Int.toNat_le.mpr (Int.le_trans (Int.add_le_add_right (Int.le_of_lt h) _) (Int.le_of_eq (Int.zero_add _)))
 ·exact Nat.min_le_right _ _
set_option tactic.hygienic true in
theorem js{s:Tx}{t:Tok}{lo hi:Option Int}{t1 t2:Tok}{Q:Value->Shared->Prop}{sh:Shared}(hs:s.length<=IU)(h:∀tk x,Jw (ar s lo hi) x->Q x { sh with toks:=tk}):(sliceMade (Jo s) t (ed lo t1) (ed hi t2) none).post Q sh:=by
 have hp:=wQ (Jo s) lo hi
 rw[jw]at hp
 unfold sliceMade slicePicked
 rw[kQ,kQ]
 have hlen:(Builtin.Str.strSliceIndices lo hi 1 (Jo s).length).length=(QL s.length hi - Pa s.length lo):=by (rewrite[sm];rewrite[dX];rewrite[lg];exact(List.length_range)▸rfl)
 split
 ·rename_i hcond
  have e:ar s lo hi=s:=by
   have h2:=lf (ma hcond).2
   rw[show(Builtin.Str.strSliceIndices lo hi 1 (Jo s).length).length=(Jo s).length from h2,dX]at hlen
   unfold ar
   have h3:QL s.length hi<=s.length:=by cases hi with
    | none=>exact mf _
    | some i=>exact rh _ _
   rcases Nat.eq_zero_or_pos (Pa s.length lo) with h4 | h4
   ·(refine(h4)▸?_;refine(List.drop_zero)▸?_)
    exact List.take_of_length_le (by first | exact lx hlen.symm | exact lx hlen | (rw[h4]at hlen;first | exact lx hlen | exact lx hlen.symm))
   ·have:s=[]:=List.length_eq_zero_iff.mp (Bw hlen h3 h4)
    subst this;(refine(List.drop_nil).symm▸?_;exact(List.take_nil).symm▸rfl)
  exact h sh.toks _ (by (refine(e).symm▸?_);exact .mk t hs)
 ·have e:(slicePicked.eq_1 (Jo s) (ed lo t1) (ed hi t2) none)=slicePicked.eq_1 (Jo s) (ed lo t1) (ed hi t2) none:=rfl
  refine⟨?_,h (sh.toks+1) _ ?_⟩
  ·show Array.size _<=sizeLine
   (rewrite[show((Option.map (λx=>x.1) (none:Option (Int×Tok))).getD 1)=1 from rfl];refine(hp)▸?_;refine(List.size_toArray)▸?_)
   exact cW (kg (ey _ _ _) hs)
  ·(rewrite[show((Option.map (λx=>x.1) (none:Option (Int×Tok))).getD 1)=1 from rfl];refine(hp).symm▸?_)
   exact Jw.mk _ (kg (ey _ _ _) hs)
theorem pT(s t:Tx):PySem.Txt.startswith (Jo s) (Jo t)=t.isPrefixOf s:=by
 unfold PySem.Txt.startswith
 (rewrite[PySem.StrLaws.subAt_eq];rewrite[jw];rewrite[jw];rewrite[dX];rewrite[dX];refine(List.drop_zero)▸?_;rewrite[Bool.eq_iff_iff];rewrite[Bool.and_eq_true];rewrite[decide_eq_true_eq];rewrite[beq_iff_eq];rw[List.isPrefixOf_iff_prefix])
 exact⟨λh=>h.2▸List.take_prefix _ _,λh=>⟨by have:=h.length_le;exact L2 [_,_] 1 (.a (.c 0) Y0) Y1 [(1,Y0,Y1)] rfl this,(List.prefix_iff_eq_take.mp h).symm⟩⟩
theorem qr(xs:List Value)(lo hi:Option Int):slicePick xs.toArray lo hi none=(ar xs lo hi).toArray:=by
 have hb:sliceBounds lo hi none xs.length=(((Pa xs.length lo:Nat):Int),((QL xs.length hi:Nat):Int),1):=by
  unfold sliceBounds
  (refine(Option.getD_none)▸?_)
  cases lo <;> cases hi <;> simp only[lW] <;> rfl
 unfold slicePick
 (refine(List.size_toArray)▸?_;refine(hb)▸?_;rw[dJ])
 have:=iS xs (Pa xs.length lo) (QL xs.length hi - Pa xs.length lo)
 show List.toArray _=_
 rw[show(λi=>xs.toArray[i]?)=λi=>xs[i]? from funext λi=>List.getElem?_toArray]
 exact kh _ this
noncomputable def U2(C:Cf)(o:O2):Prop:=∀x y e,tH o x y e=true->Me x=true->Me y=true->∀{B:Bk}{st:St}{p:Pt}{r q w:V×St}{Q:Value->Shared->Prop},
 f2 o r.1 q.1 q.2=some w->Pre C B st p->iy C B p x r->(∀z,To p z->At C B.m r.2 z->iy C B z y q)->Lq C B p w Q->wpAny C.M B.A (eval (op2 o x y e) C.env) Q B.X p.s
noncomputable def T2(C:Cf)(o:O2):Prop:=∀x y e,tH o x y e=true->Me x=true->Me y=true->∀{B:Bk}{st:St}{p:Pt}{r q w:V×St}{b:Bool}{Q:Bool->Shared->Prop},
 f2 o r.1 q.1 q.2=some w->truth w.2 w.1=some b->Pre C B st p->iy C B p x r->(∀z,To p z->At C B.m r.2 z->iy C B z y q)->MN C B p b w.2 Q->wpAny C.M B.A (isTrue (op2 o x y e) C.env (eval (op2 o x y e) C.env)) Q B.X p.s
abbrev Oj(C:Cf)(o:O2)(k:CmpOp)(g:Expr->Expr->Expr):Prop:=
 (∀x y e,op2 o x y e=.Compare x [k] [g y e] e.pos)/\
 (∀x y e,tH o x y e=true->behindInMarks k (g y e)=false)/\
 (∀x y e,tH o x y e=true->∀{B:Bk}{st:St}{p:Pt}{r q w:V×St}{Q:Value->Shared->Prop},f2 o r.1 q.1 q.2=some w->Pre C B st p->iy C B p x r->(∀z,To p z->At C B.m r.2 z->iy C B z y q)->
  (∀z b,w=(.b (.bool b),q.2)->To p z->At C B.m q.2 z->Q (.bool b) z.s)->wpAny C.M B.A (eval x C.env) (λu Js=>wpAny C.M B.A (eval (g y e) C.env) (λv JU=>wpAny C.M B.A (compareOp k u v) Q B.X JU) B.X Js) B.X p.s)
section
variable{C:Cf}{o:O2}{k:CmpOp}{g:Expr->Expr->Expr}(zz:Oj C o k g)
def Oj.e:=zz.1
def Oj.m:=zz.2.1
def Oj.s:=zz.2.2
end
section
variable{C:Cf}{B:Bk}{m:Zs->Option Value}{st II:St}{p q:Pt}{r w:V×St}{v:V}{x y:Value}{A:Around}{X:Value->Shared->Prop}{Q:Value->Shared->Prop}{e f:Expr}{tk:Tok}{b:Bool}{a d:E}{o:O2}{k:CmpOp}{g:Expr->Expr->Expr}
theorem Oj.u(h:Oj C o k g):U2 C o:=λx y e hc J J B st p r q w Q hf P D1 D2 post=>by
 rw[h.e]
 exact wpAny_Compare1 (h.s x y e hc hf P D1 D2 λz b e' t a=>post _ z t (e'▸a) (e'▸rfl)) (h.m x y e hc)
theorem Oj.t(h:Oj C o k g):T2 C o:=λx y e hc J J B st p r q w b Q hf ht P D1 D2 post=>by
 rw[h.e]
 refine wpAny_isTrue_Compare1 (h.s x y e hc hf P D1 D2 λz b' e' t a=>wpAny_truthy_bool ?_) (h.m x y e hc)
 rw[e']at ht post
 obtain rfl:=ke ht
 exact post z t a
theorem two{x y:Expr}{r q:V×St}{R:Value->Value->Shared->Prop}(D1:iy C B p x r)(D2:∀z,To p z->At C B.m r.2 z->iy C B z y q)(tk:Tok)(h:∀a b z,To p z->At C B.m q.2 z->C.V z r.1 a->C.V z q.1 b->R a b z.s) :
  wpAny C.M B.A (eval x C.env) (λa Js=>wpAny C.M B.A (eval y C.env) (R a) B.X Js) B.X (p.tk tk).s:=
 D1 tk λa z t at' ra=>D2 z t at' z.s.toks λb z' t' at'' rb=>h a b z' (t.trans t') at'' (t'.vr ra) rb
theorem vx(o:Nq):Oj C (.cmp o) (ij o) λy J=>y:=⟨λJ J J=>rfl,λJ J J h=>lq h,λx y e hc B st p r q w Q hf P D1 D2 post=>JD hf λb hb e'=>
 two D1 D2 p.s.toks λKZ LQ z t a r1 r2=>e7 r1 r2 hb (post z b e'.symm t a)⟩
noncomputable def eOf(a:Internal.B)(y:Value):Bool:=match a,y with
 | .int i,.int j _=>j==i | .str s,.str x _=>x==Jo s | _,_=>false
theorem Ch{a b:Internal.B}{r:Bool}{P:Params}{φ:Led}{x y:Value}(h:eqB a b=some r)(hx:LK P φ a x)(hy:LK P φ b y):(∀{A:Around}{s:Shared},EqAt A s y x (eOf a y))/\eOf a y=r:=by
 cases a with
 | int a=>cases b with
  | int b=>
   obtain rfl:=ke h
   cases hx;cases hy
   exact⟨EqAt.int_int _ _ _ _,Bool.eq_iff_iff.mpr ⟨λh=>beq_iff_eq.mpr (lf h).symm,λh=>beq_iff_eq.mpr (lf h).symm⟩⟩
  | _=>exact nS h
 | str a=>cases b with
  | str b=>
   obtain rfl:=ke h
   cases hx;cases hy
   exact⟨EqAt.str_str _ _ _ _,Bool.eq_iff_iff.mpr ⟨λh=>beq_iff_eq.mpr (jv (lf h)).symm,λh=>beq_iff_eq.mpr (kh Jo (lf h).symm)⟩⟩
  | _=>exact nS h
 | nul=>cases b with
  | str b=>
   obtain rfl:=ke h
   cases hy
   cases show x=.none from hx
   exact⟨EqAt.str_none _ _,rfl⟩
  | _=>exact nS h
 | _=>exact nS h
theorem BN{a:Internal.B}{Y:Lay}{φ:Led}{am:AM}{x:Value}(hx:LK Y.P φ a x){l:List V}{xs:List Value}(q:IE (VR Y φ am) l xs):∀{bs:List Bool},(l.mapM λv=>(Nl v).bind (eqB a))=some bs->
  (∀y∈xs,∀{A:Around}{s:Shared},EqAt A s y x (eOf a y))/\xs.any (eOf a)=bs.any id:=by
 induction q with
 | nil=>exact λh=>by obtain rfl:=ke h;exact⟨λJ h=>(nomatch h),rfl⟩
 | cons r q ih=>
  intro bs h
  rw[List.mapM_cons]at h
  refine IJ h λb hb h=>IJ h λbs' hb' h=>IJ hb λz hz he=>?_
  obtain rfl:=ke h
  have E:=Ch he hx (r.B hz)
  exact⟨λw hw A s=>(kq hw).elim (λe=>e▸E.1) λhw=>(ih hb').1 w hw,by (refine(List.any_cons)▸?_;refine(List.any_cons).symm▸?_;refine((ih hb').2).symm▸?_;refine(E.2).symm▸?_);rfl⟩
theorem vv:Oj C .inL .In λy J=>y:=⟨λJ J J=>rfl,λJ J J h=>lq h,λx y e hc B st p r q w Q hf P D1 D2 post=>IJ hf λa ha hf=>IJ hf λl hl hf=>JD hf λbs NX e'=>by
 refine two D1 D2 p.s.toks λKZ LQ z t at' r1 r2=>?_
 refine at'.lst hl r2 λu xs n hc hg hx hz=>?_
 obtain⟨i1,i2⟩:=BN (r1.B ha) hx NX
 refine in_listAt (items:=xs.toArray) (eOf a) ⟨_,hg,rfl,_,rfl⟩ (λz hz=>i1 z (List.mem_toArray.mp hz)) ?_
 (refine(List.any_toArray)▸?_;refine(i2)▸?_)
 exact post z _ e'.symm t at'⟩
theorem lT(H:Ok C):Oj C .K3 .In λy e=>.Attribute y "ESCAPE_REPLACEMENTS" (IS 1 e).pos:=⟨λJ J J=>rfl,λJ J J J=>rfl,λx y e hc B st p r q w Q hf P D1 D2 post=>IJ hf λd hd hf=>IJ hf λi hi hf=>Km hf λhg e'=>by
 refine D1 p.s.toks λKZ z t at' r1=>Attribute_any_ (D2 z t at' z.s.toks λLQ z' t' a' r2=>?_) (bX hc _ _ _)
 refine j6 H (by decide) H.K.P7 H.K.Qi H.K.OO (by decide +kernel) a' r2 hi hg ?_
 exact qP (p:=z'.tk (z'.s.toks+1)) H (r1.ch hd) (a'.tk.K H.O) λOq=>post (z'.tk Oq) _ e'.symm ((t.trans t').trans .tk) a'.tk⟩
theorem AI(o:Nr):U2 C (.bin o):=λx y e J J J B st p r q w Q hf P D1 D2 post=>wpAny_BinOp (two D1 D2 p.s.toks λKZ LQ z t a r1 r2=>by
 refine LW hf (λhf=>JD hf λu hu e'=>?_) λhf=>?_
 ·subst e'
  exact y7 r1 r2 hu λOq u ru=>post _ _ (t.trans (.tk (t0:=Oq))) a.tk ru
 cases o with
 | add=>
  refine IJ hf λl hl hf=>IJ hf λl' KU hf=>Km hf λhlen e'=>?_
  have hlen:=km hlen
  refine a.lst hl r1 λz1 xs n J hg hx hz=>a.lst KU r2 λz2 xs2 n2 J hg2 hx2 QD=>?_
  subst e'
  refine add_lists a.inv.fr a.inv.nw (aE hg) (aE hg2) (λQf F' N'=>?_) (by (refine(hx.length)▸?_;refine(hx2.length)▸?_);exact cW hlen)
  exact a.QB (mf _) F' N' (hx.app hx2) (by (refine(ky)▸?_);exact hlen) λt' a' r'=>post _ _ (t.trans t') a' r'
 | _=>exact nS hf)
theorem sW{j n:Nat}(h:j < n):seqIndex? (j:Int) n=some j:=by
 unfold seqIndex?
 have e1:¬ ((j:Int) < 0):=by omega
 simp only[e1,if_false]
 rw[if_pos (by simp;exact L2 [_,_] 1 (.a Y0 (.c 1)) Y1 [(1,(.a Y0 (.c 1)),Y1)] rfl h)];rfl
theorem zd{P:Bool×Bool}{kk:Int}{w:V}(hf:(if kk=0 then some (V.b (.bool P.1)) else ag (decide (kk=1)) (V.b (.bool P.2)))=some w):∃(j:Nat)(b:Bool),kk=(j:Int)/\j < 2/\([Value.bool P.1,.bool P.2])[j]?=some (.bool b)/\w=.b (.bool b):=by
 by_cases h0:kk=0
 ·rw[if_pos h0]at hf;obtain rfl:=ke hf;exact⟨0,_,h0,by decide,rfl,rfl⟩
 ·rw[if_neg h0]at hf;exact Km hf λh e=>⟨1,_,km h,by decide,rfl,e.symm⟩
theorem AH:U2 C .idx:=λx y e J hs Nf B st p r q w Q hf P D1 D2 post=>JD hf λz hz e'=>by
 subst e'
 have hsl:=r9 Nf
 refine Subscript_ (two D1 D2 p.s.toks λKZ LQ u t a r1 r2=>?_)
 have fin:∀{y},C.V u z y->∀tk,Q y (u.tk tk).s:=λr tk=>post _ _ (t.trans .tk) a.tk r
 refine LW hz (λhf=>IJ hf λkk hk hf=>?_) λhf=>IJ hf λkk hk hf=>IJ hf λl hl hf=>JD hf λv hv e'=>?_
 ·have r2:=r2.int hk
  cases r2 with | mk t2=>
  refine LW hf (λhf=>IJ hf λs hs hf=>JD hf λv hv e'=>?_) λhf=>LW hf (λhf=>IJ hf λpq hpq hf=>?_) λhf=>IJ hf λl hl hf=>IJ hf λJ hg hf=>?_
  ·subst e'
   cases r1.str hs with | mk t1 hl=>
   obtain⟨j,hj,hjz⟩:=xZ hv
   refine subscriptTail_builtin (typeIs_str _ _ _) PySem.F.slot_str_getitem.lookup ?_ (hsl _ _) (λr=>xN r)
   refine PySem.P.getItem_str (c:=v) (qR hv hl) ?_ ?_
   ·(rewrite[dX];refine(hj)▸?_);exact(List.getElem?_toArray (xs:=s) (i:=j)).trans hjz
   ·exact fin (Jw.mk _ (show 1<=IU by decide)) _
  ·refine KJ λhG=>?_
   obtain⟨j,b,rfl,hj,hjb,rfl⟩:=zd hf
   refine hG ?_
   clear hG
   cases r1.bb hpq with | mk hm e2=>
   subst e2
   exact item_tupleT (l:=[.bool pq.1,.bool pq.2]) (j:=j) ⟨_,a.got hm,rfl,_,rfl⟩ (by omega) (by omega) (sW hj) hjb (fin (y:=.bool b) rfl _) (hsl _ _)
  ·have h0:=Km hg λh J=>km h
   refine a.lst hl r1 λz1 xs n J hg hx hz=>?_
   obtain⟨y',hy,ry⟩:=hx.get hf
   have J5:=(kj hf).1
   exact PyProof.Rows.tail_any (aE hg).typeIs PySem.F.slot_list_getitem.lookup (wpAny_getItem_list (aE hg) h0 (by have:=fF;omega) ((List.getElem?_toArray ..).trans hy) (fin ry _)) (hsl _ _)
 ·subst e'
  cases r2.str hk with | mk t2 hlk=>
  have dic:∀{qa es n},u.s.heap.get? qa=some (dictOf es n)->DR C.w.params l es->wpAny C.M B.A (subscriptTail x y (.ref qa) (.str (Jo kk) t2)) Q B.X u.s:=λhg d=>by
   obtain⟨y',hy,ry⟩:=(d.r.find kk).1 _ hv
   have MO:=d.r.mapOf (prog:=C.prog) hg
   exact PyProof.Rows.tail_any MO.typeIs slot_dict_getitem.lookup (wpAny_getItem_of (strKind_is C.prog C.w _ t2) MO hy (fin ry _)) (hsl _ _)
  refine JD hl λi hi e'=>?_
  subst e'
  exact a.LH hi r1 λz es n hc hg d=>dic hg d
theorem AN(H:Ok C):U1 C .O9:=λx e hc hs B st p r w Q hf P D post=>IJ hf λkk hk hf=>IJ hf λJ hg hf=>JD hf λt ht e'=>by
 subst e'
 have h0:=Km hg λh J=>km h
 have hsl:=r9 hs
 refine KJ λhG=>?_
 obtain⟨q,xs,n,h1,h2,h3⟩:=H.K.O9
 refine hG ?_
 clear hG
 refine Subscript_ (cI H hc P.at' h1 (D p.s.toks λy u t1 a r2=>?_))
 have r2:=r2.int hk
 cases r2 with | mk t2=>
 obtain⟨y',hy,ry⟩:=h3.get ht
 have J5:=(kj ht).1
 have J5:kk.toNat < 19:=J5
 exact PyProof.Rows.tail_any (aE (a.K H.O _ _ h2)).typeIs PySem.F.slot_list_getitem.lookup (wpAny_getItem_list (aE (a.K H.O _ _ h2)) h0 (by omega) ((List.getElem?_toArray ..).trans hy) (post _ _ (t1.trans .tk) a.tk ry)) (hsl _ _)
theorem pN:U2 C .starts:=λx y e hc hs Nf B st p r q w Q hf P D1 D2 post=>aEl hc λhb hl=>IJ hf λs hs1 hf=>JD hf λs' hs2 e'=>by
 subst e'
 refine Call_method1 (bz hb _ _) (by (refine(bG Nf)▸?_);rfl) hl (D1 p.s.toks λKZ z t a r1=>?_)
 cases r1.str hs1 with | mk t1 h1=>
 refine PySem.SB.startswith (D2 z t a z.s.toks λLQ z' t' a' r2=>?_)
 cases r2.str hs2 with | mk t2 h2=>
 exact⟨_,t2,rfl,by rw[pT];exact post _ _ (t.trans t') a' rfl⟩
theorem sp2{M:Model}{R:List Value->Shared->Prop}{s:Shared}{t u:Sem Value}(H:wpAny M A t (λa Js=>wpAny M A u (λb JU=>R [a,b] JU) X Js) X s):wpAny M A (spliced [(false,t),(false,u)]) R X s:=
 Calls.spliced_cons (wpAny_mono H (λJ J Jv=>Calls.spliced_cons (wpAny_mono Jv (λJ J J7=>Calls.spliced_nil J7) λJ J x=>x)) λJ J x=>x)
theorem rV{xs:List Value}(a:At C m st p)(hx:xs.length<=IU)(h:∀z q,To p z->At C m st z->(q,C6 xs 0)∈z.φ->Q (.ref q) z.s):wpAny C.M A (newTuple xs) Q X p.s:=
 newTuple_N a.inv.fr a.inv.nw (λQf F' N'=>a.freeze (t0:=p.s.toks) (mf _) F' N' λt a'=>h _ _ t a' (.head _)) (cW hx)
theorem wC:U2 C .pair:=λx y e J hs Nf B st p r q w Q hf P D1 D2 post=>by
 refine Tuple_ ?_
 (refine(vQ hs Nf)▸?_)
 refine sp2 (two D1 D2 p.s.toks λKZ LQ u t a r1 r2=>rV a (show 2<=IU by decide) λz i t' a' hm=>?_)
 refine IJ hf λb1 h1 hf=>JD hf λb2 h2 e'=>IJ h1 λJ h3 h4=>IJ h2 λJ h5 h6=>?_
 subst e'
 cases (bool?_inv h4▸r1.B h3:LK C.w.params _ (.bool b1) KZ)
 cases (bool?_inv h6▸r2.B h5:LK C.w.params _ (.bool b2) LQ)
 exact post _ z (t.trans t') a' (Lw.mk hm rfl)
end
open Builtin.Str (Writer)
theorem rl{α:Type}{M:Model}{A:Around}{E:Value->Shared->Prop}{s:Shared}{Q:α->Shared->Prop}{n:Nat}{b:α}{f:Nat->α->Sem (ForInStep α)}(h:wpAny M A (forIn (List.range' 0 n 1) b f) Q E s):wpAny M A (forIn [:n] b f) Q E s:=KPc.range_list n b f▸h
theorem gT{w:Writer}{T T':Zs}{N:Nat}(g:KPc.Good w T N)(e:T=T'):KPc.Good w T' N:=e▸g
abbrev PS:=List Value×Writer×List Nat
abbrev PF(X:Zs)(F:Nat->PS->Sem (ForInStep PS)):Prop:=
 (∀{M:Model}{A:Around}{E:Value->Shared->Prop}{s:Shared}{Q:ForInStep PS->Shared->Prop}{x:Nat}{p:List Value}{w:Writer}{T:Zs}{N:Nat}{r:List Nat},KPc.Good w T N->N<=16777216->r.isEmpty=false->(r.span (· != 37)).1.isEmpty=false->((r.span (· != 37)).1.length==X.length)=false->
  (∀w',KPc.Good w' (T++⟨(r.span (· != 37)).1.toArray⟩) (N+(r.span (· != 37)).1.length)->Q (.yield (p,w',(r.span (· != 37)).2)) s)->wpAny M A (F x (p,w,r)) Q E s)/\
 (∀{M:Model}{A:Around}{E:Value->Shared->Prop}{s:Shared}{Q:ForInStep PS->Shared->Prop}{x:Nat}{p:List Value}{w:Writer}{T:Zs}{N:Nat},KPc.Good w T N->N<=16777216->Q (.done (p,w,[])) s->wpAny M A (F x (p,w,[])) Q E s)/\
 (∀{M:Model}{A:Around}{E:Value->Shared->Prop}{s:Shared}{Q:ForInStep PS->Shared->Prop}{x:Nat}{p:List Value}{u:Tok}{w:Writer}{T:Zs}{N:Nat}{t:List Nat}{i:Int}{c:Nat}{h:Tx},KPc.Good w T N->N<=16777216->((i,c,h)=(233,50,[69,57])∨(i,c,h)=(128512,56,[48,48,48,49,70,54,48,48]))->
  (∀w',KPc.Good w' (T++Jo h) (N+10)->Q (.yield (p,w',t)) s)->wpAny M A (F x (.int i u::p,w,37::48::c::88::t)) Q E s)
section
variable{X:Zs}{F:Nat->PS->Sem (ForInStep PS)}(zz:PF X F)
def PF.lit:=@And.left _ _ zz
def PF.fin:=@And.left _ _ (@And.right _ _ zz)
def PF.hex:=@And.right _ _ (@And.right _ _ zz)
end
theorem Du(o:Value)(X:Zs)(i:Int)(u:Tok){P:Prop}(post:∀F:Nat->PS->Sem (ForInStep PS),PF X F->(∀{M:Model}{A:Around}{E:Value->Shared->Prop}{s:Shared}{Q:Fin->Shared->Prop},
  (wpAny M A (forIn (List.range' 0 X.length 1) ([.int i u],({}:Writer),X.cps.toList) F) (λq s'=>q.1=[]/\∃T N,KPc.Good q.2.1 T N/\N<=16777216/\∀t k,Q (.done (.ret (.str T t))) { s' with toks:=k}) E s)->wpAny M A (Builtin.Str.percentFormat o X (.int i u)) Q E s)->P):P:=by
 apply post
 rotate_left
 ·intro M A E s Q h
  refine wpAny_bind (m:=isInstance (.int i u) (.type "tuple")) (wpAny_isInstance (typeIs_int _ _ _) PySem.F.sub_int_tuple ?_)
  refine wpAny_bind (wpAny_of_eq (a:=none) rfl ?_)
  refine wpAny_bind (wpAny_of_eq (KPc.fills _ _) ?_)
  refine wpAny_ite (KPc.ite_no Bool.false_ne_true ?_)
  refine wpAny_bind (wpAny_pure ?_)
  refine wpAny_bind (wpAny_mono (rl h) (λq s' ⟨e,T,N,g,hN,k⟩=>?_) λJ J x=>x)
  exact wpAny_ite (KPc.ite_no (λh=>by rw[e]at h;exact nomatch h) (KPc.finish_ok g hN rfl k))
 ·refine⟨?_,?_,?_⟩
  ·intro M A E s Q x p w T N r g hN hr hc hl k
   refine wpAny_ite (KPc.ite_no (KPc.short_good g hN) ?_)
   refine wpAny_ite (KPc.ite_no (ne_true_of_eq_false hr) ?_)
   refine wpAny_ite (KPc.ite_yes (kh Bool.not hc) ?_)
   refine wpAny_pure (k _ (KPc.good_add g ?_))
   exact KPc.obj_none (if_neg (ne_true_of_eq_false hl))
  ·intro M A E s Q x p w T N g hN k
   refine wpAny_ite (KPc.ite_no (KPc.short_good g hN) ?_)
   exact wpAny_of_eq (a:=.done (p,w,[])) rfl k
  ·intro M A E s Q x p u w T N t i c h g hN hi k
   refine wpAny_ite (KPc.ite_no (KPc.short_good g hN) ?_)
   rcases hi with e | e
   ·cases e
    refine wpAny_bind (m:=holding [.int 233 u] _) (wpAny_holding ?_)
    (repeat kpc_if)
    refine wpAny_bind (wpAny_of_eq (a:=(233:Int)) rfl ?_)
    (repeat kpc_if)
    refine wpAny_pure ?_
    exact wpAny_of_eq (a:=.yield (p,w.add ⟨(Jo [69,57]).cps.toList.toArray⟩ (if t.isEmpty=true then none else none),t)) (by kernel_rfl) (k _ (KPc.good_mono (KPc.good_add g (KPc.obj_none (ite_self _))) (me (by decide) _)))
   ·cases e
    refine wpAny_bind (m:=holding [.int 128512 u] _) (wpAny_holding ?_)
    (repeat kpc_if)
    refine wpAny_bind (wpAny_of_eq (a:=(128512:Int)) rfl ?_)
    (repeat kpc_if)
    refine wpAny_pure ?_
    exact wpAny_of_eq (a:=.yield (p,w.add ⟨(Jo [48,48,48,49,70,54,48,48]).cps.toList.toArray⟩ none,t)) (by kernel_rfl) (k _ (KPc.good_mono (KPc.good_add g (KPc.obj_none rfl)) (me (by decide) _)))
theorem BA(t u:Tok):Meets (Builtin.«str.__mod__» ⟨[.str ⟨#[92,120,37,48,50,88]⟩ t,.int 233 u],[]⟩) (λJ R s=>∀t' k,R (.ok (.ret (.str (Jo [92,120,69,57]) t'))) { s with toks:=k}):=by
 refine KPc.meets_of λprog w A s Q E h=>?_
 rw[KPc.entry_is]
 refine Du (.str ⟨#[92,120,37,48,50,88]⟩ t) ⟨#[92,120,37,48,50,88]⟩ 233 u λG st hp=>?_
 refine hp ?_
 refine KPc.turn (st.lit KPc.good0 (by decide) rfl rfl rfl λw2 g2=>?_)
 refine KPc.turn (st.hex g2 (by decide) (.inl rfl) λw3 g3=>?_)
 refine KPc.turn (st.fin g3 (by decide) ?_)
 exact⟨rfl,_,_,gT g3 (by decide +kernel),by decide,h⟩
theorem Bz(t u:Tok):Meets (Builtin.«str.__mod__» ⟨[.str ⟨#[92,85,37,48,56,88]⟩ t,.int 128512 u],[]⟩) (λJ R s=>∀t' k,R (.ok (.ret (.str (Jo [92,85,48,48,48,49,70,54,48,48]) t'))) { s with toks:=k}):=by
 refine KPc.meets_of λprog w A s Q E h=>?_
 rw[KPc.entry_is]
 refine Du (.str ⟨#[92,85,37,48,56,88]⟩ t) ⟨#[92,85,37,48,56,88]⟩ 128512 u λG st hp=>?_
 refine hp ?_
 refine KPc.turn (st.lit KPc.good0 (by decide) rfl rfl rfl λw2 g2=>?_)
 refine KPc.turn (st.hex g2 (by decide) (.inr rfl) λw3 g3=>?_)
 refine KPc.turn (st.fin g3 (by decide) ?_)
 exact⟨rfl,_,_,gT g3 (by decide +kernel),by decide,h⟩
section
variable{C:Cf}{B:Bk}{m:Zs->Option Value}{st II:St}{p q:Pt}{r w:V×St}{v:V}{x y:Value}{A:Around}{X:Value->Shared->Prop}{Q:Value->Shared->Prop}{e f:Expr}{tk:Tok}{b:Bool}{a d:E}{o:O2}{k:CmpOp}{g:Expr->Expr->Expr}
set_option tactic.hygienic true in
theorem uM{s:Shared}{t:Tx}{v:V}{r:Tx}{u:Value}{k:Tok}{Y:Lay}{φ:Led}{am:AM}(hu:VR Y φ am v u)(h:Ao t v=some r)
  (q:∀tk x,Jw r x->Q x { s with toks:=tk}):wpAny C.M A (binaryOp .Mod (.str (Jo t) k) u) Q X s:=IJ h λi hi h1=>by
 cases hu.int hi with | mk w=>
 unfold fN at h1
 cases ha:(t==[92,120,37,48,50,88]&&i==233) with
 | true=>
  rw[ha]at h1
  obtain rfl:=ke h1
  refine aEl ha λe1 e2=>?_
  rw[lf e1,lf e2]
  exact KPc.mod_lit (X':=⟨#[92,120,37,48,50,88]⟩) rfl (by decide +kernel) (λJ J=>BA _ _) λt' k'=>q _ _ (Jw.mk t' (by decide))
 | false=>
  rw[ha,cond_false]at h1
  cases hb:(t==[92,85,37,48,56,88]&&i==128512) with
  | true=>
   rw[hb]at h1
   obtain rfl:=ke h1
   refine aEl hb λe1 e2=>?_
   rw[lf e1,lf e2]
   exact KPc.mod_lit (X':=⟨#[92,85,37,48,56,88]⟩) rfl (by decide +kernel) (λJ J=>Bz _ _) λt' k'=>q _ _ (Jw.mk t' (by decide))
  | false=>rw[hb]at h1;exact nS h1
theorem wH(t:Tx):U1 C (.MJ t):=λx e hc hs B st p r w Q hf P D post=>JD hf λz hz e'=>by
 subst e'
 exact wpAny_BinOp (wpAny_Constant_str (D (p.s.toks+1) λKZ u t' a r=>uM r hz λOq x rx=>post _ _ (t'.trans (.tk (t0:=Oq))) a.tk rx))
theorem jp{M:Model}{s:Shared}{out:Tx}{x:Sem Value}{rest:List (Sem Value)}(h:wpAny M A x (λv Js=>∃y t,v=.str (Jo y) t/\(out++y).length<=IU/\wpAny M A (joinParts (Jo (out++y)) rest) Q X Js) X s):wpAny M A (joinParts (Jo out) (x::rest)) Q X s:=
 joinParts_cons (wpAny_mono h (λv Js ⟨y,t,e,h1,h2⟩=>by subst e;show(_++_:Zs).length<=_/\wpAny M A (joinParts (_++_) _) _ _ _;rw[pG];exact⟨cW h1,h2⟩) λJ J h=>h)
theorem uI{x:Expr}{r:V×St}{s:Tx}(D:iy C B p x r)(hs:aQ r.1=some s)(h:∀z t,To p z->At C B.m r.2 z->Q (.str (Jo s) t) z.s)(tk:Tok):wpAny C.M B.A (eval (fvE x e) C.env) Q B.X (p.tk tk).s:=
 wpAny_FormattedValue_s (D tk λy z t a ry=>by
  cases ry.str hs with | mk t1 hl=>
  exact habitSame_str (λt' Oq=>formatField_str (s:=(z.tk Oq).s) (λt'' tk''=>h (z.tk tk'') t'' (t.trans .tk) a.tk) (cW hl)) (cW hl))
theorem wD(f:Fm2):U2 C (.Nj f):=λx y e J hs Nf B st p r q w Q hf P D1 D2 post=>JD hf λu hu e'=>by
 subst e'
 have fin:∀{z:Pt}{i:Zs},To p z->At C B.m q.2 z->i=Jo u->u.length<=IU->Q (.str i z.s.toks) { z.s with toks:=z.s.toks+1}:=λt a e h=>post _ (_) (t.trans (.tk (t0:=_))) a.tk (e▸Jw.mk _ h)
 cases f
 refine IJ hu λi hi hu=>IJ hu λj hj hu=>Km hu λhg e'=>aEl hg λh1 h2=>?_
 have h1:=km h1
 have h2:=km h2
 subst e'
 have hz:(i++j).length<=IU:=by (refine(ky)▸?_);have:=fF;omega
 exact JoinedStr_many (jp (out:=[]) (uI D1 hi (λz t1 t a=>⟨i,t1,rfl,fH h1,jp (uI (D2 z t a) hj (λz' t2 t' a'=>⟨j,t2,rfl,hz,joinParts_nil (fin (t.trans t') a' rfl hz) (cW hz)⟩) z.s.toks)⟩) p.s.toks))
end
end
section
variable{C:Cf}{B:Bk}{m:Zs->Option Value}{st II:St}{p q:Pt}{r w:V×St}{v:V}{x y:Value}{A:Around}{X:Value->Shared->Prop}{Q:Value->Shared->Prop}{e f:Expr}{tk:Tok}{b:Bool}{a d t:E}
theorem pM{r:V}:∀{l:List V}{xs:List Value},gC r=some l->Mw C.Y p.φ p.ad.am r xs->IE (C.V p) l xs:=by
 induction r with
 | NL=>intro l xs h k;obtain rfl:=ke h;cases (k:xs=[]);exact .nil
 | Ka a r _ ih=>
  refine λ{l xs} h k=>JD h λl' h' e=>?_
  subst e
  exact Mw.el (G:=IE (C.V p) (a::l')) k λy ys c d=>.cons c (ih h' d)
 | _=>exact λh=>nS h
theorem rT(H:Ok C)(hs:C.hs=true)(o:O1):U1 C o:=
 O1.casesOn (motive:=λo=>U1 C o) o (AP H) pO (AU H) (AR H) (AO H) (wE H) (AT H) (wF H hs) wG wH AK (AQ H) (rS H) (AN H)
theorem AJ(H:Ok C)(hs:C.hs=true)(o:O2):U2 C o:=
 O2.casesOn (motive:=λo=>U2 C o) o (λo=>(vx o).u) AI AH wD pN (lT H).u wC vv.u
theorem ou{o:O1}(hu:U1 C o)(ha:IQ C a):IQ C (.u1 o a):=λe0 hc B st p r Q hv P post=>aEl hc λh1 h2=>IJ hv λq hq h=>
 hu _ e0 h2 (bf a h1) h P (ha.done h1 hq P) post
theorem ow(H:Ok C)(hs:C.hs=true){o:O2}(ha:IQ C a)(hb:IQ C d):IQ C (.b2 o a d):=λe0 hc B st p r Q hv P post=>aEl hc λh1 h2=>aEl h2 λh2 h3=>IJ hv λq hq h=>IJ h λz hz h=>
 AJ H hs o _ _ e0 h3 (bf a h1) (bf d h2) h P (ha.done h1 hq P) (λz t a'=>hb.done h2 hz (P.to t a')) post
theorem jr{o:O2}{k:CmpOp}{g:Expr->Expr->Expr}(hm:Oj C o k g)(ha:IQ C a)(hb:IQ C d):JI C (.b2 o a d):=λe0 hc B st p r b Q hv ht P post=>aEl hc λh1 h2=>aEl h2 λh2 h3=>IJ hv λq hq h=>IJ h λz hz h=>
 hm.t _ _ e0 h3 (bf a h1) (bf d h2) h ht P (ha.done h1 hq P) (λz t a'=>hb.done h2 hz (P.to t a')) post
theorem w9(H:Ok C)(hs:C.hs=true){o:O1}(ha:IQ C a)(haT:JI C a):JI C (.u1 o a):=by
 have hE:=ou (rT H hs o) ha
 cases o with
 | not=>exact A2 haT
 | isNone z=>exact pQ ha
 | _=>exact gp H (λJ J=>rfl) hE
theorem xb(H:Ok C)(hs:C.hs=true){o:O2}(ha:IQ C a)(hb:IQ C d):JI C (.b2 o a d):=by
 have hE:=ow H hs (o:=o) ha hb
 cases o with
 | cmp o=>exact jr (vx o) ha hb
 | inL=>exact jr vv ha hb
 | K3=>exact jr (lT H) ha hb
 | Nj f=>exact gp H (λJ J=>by cases f <;> rfl) hE
 | _=>exact gp H (λJ J=>rfl) hE
theorem qf{o k:Nq}(ha:IQ C a)(hb:IQ C t)(hd:IQ C d):IQ C (.JX o k a t d):=λe0 hc B st p r Q hv P post=>aEl hc λh1 h2=>aEl h2 λh2 h3=>aEl h3 λh3 h4=>IJ hv λq1 Pu h=>IJ h λq2 hq2 h=>IJ h λtt htt h=>
 Compare_chain (ha _ h1 Pu P λKZ u t1 a1 r1=>chain_link (hb _ h2 hq2 (P.to t1 a1) λLQ u2 t2 a2 r2=>e7 (t2.vr r1) r2 htt (wpAny_truthy_bool (by
  cases tt with
  | false=>obtain rfl:=ke h;exact post _ u2 (t1.trans t2) a2 rfl
  | true=>exact IJ h λq3 Pq h=>JD h λbb hbb e'=>chain_last (hd _ h3 Pq (P.to (t1.trans t2) a2) λx₃ u3 t3 a3 r3=>e7 (t3.vr r2) r3 hbb (post _ u3 ((t1.trans t2).trans t3) (e'▸a3) (e'▸rfl))))))) (lq h4)
theorem pX{o k:Nq}(ha:IQ C a)(hb:IQ C t)(hd:IQ C d):JI C (.JX o k a t d):=λe0 hc B st p r b Q hv ht P post=>aEl hc λh1 h2=>aEl h2 λh2 h3=>aEl h3 λh3 h4=>IJ hv λq1 Pu h=>IJ h λq2 hq2 h=>IJ h λtt htt h=>
 isTrue_chain (ha _ h1 Pu P λKZ u t1 a1 r1=>test_link (hb _ h2 hq2 (P.to t1 a1) λLQ u2 t2 a2 r2=>e7 (t2.vr r1) r2 htt (wpAny_truthy_bool (by
  cases tt with
  | false=>obtain rfl:=ke h;obtain rfl:=ke ht;exact post u2 (t1.trans t2) a2
  | true=>
   refine IJ h λq3 Pq h=>JD h λbb hbb e'=>?_
   subst e';obtain rfl:=ke ht
   exact test_last (hd _ h3 Pq (P.to (t1.trans t2) a2) λx₃ u3 t3 a3 r3=>e7 (t3.vr r2) r3 hbb (wpAny_truthy_bool (post u3 ((t1.trans t2).trans t3) a3))))))) (lq h4)
theorem vf{i:E}(hi:IQ C i)(hc:Jy C.Y C.sc i C.sl [] e=true)(hv:IK C.c i B.l st=some r)(P:Pre C B st p)(post:Lq C B p r Q):wpAny C.M B.A (evalPart (bif jM i then none else some (IX C.Y i C.sl [] e)) C.env) Q B.X p.s:=by
 cases h:jM i with
 | false=>exact hi e hc hv P post
 | true=>
  rw[cond_true,evalPart_none]
  have:i=.n0 (.cst .nul):=by
   cases i with
   | n0 o=>
    cases o with
    | cst v=>
     cases v with
     | nul=>rfl
     | _=>exact JA h
    | _=>exact JA h
   | _=>exact JA h
  subst this
  obtain rfl:=ke hv
  exact wpAny_pure (post _ p .rfl P.at' rfl)
theorem rt{v r:V}(h:AD v=some r):v=.Ka .uu r:=by
 cases v with
 | Ka a r=>cases a with | uu=>obtain rfl:=ke h;rfl | _=>exact nS h
 | _=>exact nS h
theorem mU(H:Ok C){lo hi:E}(ha:IQ C a)(hlo:IQ C lo)(hhi:IQ C hi):IQ C (.slice a lo hi):=λe0 hc B st p r Q hv P post=>aEl hc λh1 h2=>aEl h2 λh2 h3=>IJ hv λq1 Pu h=>IJ h λq2 hq2 h=>IJ h λq3 Pq h=>IJ h λo1 ho1 h=>IJ h λo2 Px h=>by
 refine Subscript_ (ha _ h1 Pu P λKZ u1 t1 a1 r1=>wpAny_Slice (vf hlo h2 hq2 (P.to t1 a1) λLQ u2 t2 a2 r2=>vf hhi h3 Pq (P.to (t1.trans t2) a2) λx₃ u3 t3 a3 r3=>?_))
 rw[evalPart_none]
 refine wpAny_pure ?_
 obtain⟨k1,rfl⟩:=gS r2 ho1
 obtain⟨k2,rfl⟩:=gS r3 Px
 have tt:=(t1.trans t2).trans t3
 have r1:=(t2.trans t3).vr r1
 have a4:=a3.push (t0:=u3.s.toks) { cls:=.type "slice",data:=.fields #[partValue (ed o1 k1),partValue (ed o2 k2),.none]}
 refine KJ λhn=>?_
 have lst:∀{z:Addr}{xs:List Value}{l:List V},KZ=.ref z->(u3.s.heap.push { cls:=.type "slice",data:=.fields #[partValue (ed o1 k1),partValue (ed o2 k2),.none]}).IsList z xs.toArray->IE (C.V u3) l xs->l.length<=IU->alloc q3.2 (.lst (ar l o1 o2))=r->False:=λ{z xs l} e hg hx hz e'=>hn (by
  subst e e'
  refine PyProof.Rows.tail_any (ops:=[_,_]) hg.typeIs PySem.F.slot_list_getitem.lookup ?_ rfl
  refine wpAny_getItem_list_slice hg (Heap.IsSliceOf.new ..) (lo:=o1) (hi:=o2) (st:=none) ?_ ?_ .none (λe=>nomatch e) ?_ (by (refine(List.size_toArray)▸?_;refine(hx.length)▸?_);exact cW hz)
  ·cases o1 with | none=>exact .none | some i=>exact .int i _
  ·cases o2 with | none=>exact .none | some i=>exact .int i _
  rw[qr]
  have N2:=a4.inv.nw.push a4.inv.fr (aK (ar xs o1 o2) 0) rfl
  refine a4.QB (t0:=u3.s.toks) (vs:=ar l o1 o2) (mf _) (a4.inv.fr.push _) N2 ?_ (kg (ey _ _ _) hz) λt' a' r'=>post _ _ ((tt.trans .h).trans t') a' r'
  unfold ar
  (refine(hx.length).symm▸?_)
  exact(hx.drop _).take _)
 refine LW h (λh=>JD h λs hs e'=>hn ?_) λh=>LW h (λh=>JD h λl hl e'=>?_) λh=>JD h λl hl e'=>IJ hl λt h1 h2=>?_
 ·subst e'
  cases r1.str hs with | mk k hz=>
  refine PyProof.Rows.tail_any (ops:=[_,_]) (typeIs_str _ _ _) PySem.F.slot_str_getitem.lookup ?_ rfl
  refine wpAny_getItem_str_slice (l:=ed o1 k1) (u:=ed o2 k2) (st:=none) ⟨_,Heap.get?_push_size _ rfl,rfl,rfl⟩ rfl ?_
  exact js hz λtk x r=>post x _ ((tt.trans .h).trans (.tk (t0:=tk))) a4.tk r
 ·revert lst
  exact a4.lst (P:=λx=>(∀{z:Addr}{xs:List Value}{l:List V},x=.ref z->(u3.s.heap.push { cls:=.type "slice",data:=.fields #[partValue (ed o1 k1),partValue (ed o2 k2),.none]}).IsList z xs.toArray->IE (C.V u3) l xs->l.length<=IU->alloc q3.2 (.lst (ar l o1 o2))=r->False)->False) hl (r1:C.V (u3.mv _ u3.s.toks u3.ad u3.φ) q1.1 KZ) λz xs n hc hg hx hz lst=>lst rfl (aE hg) hx hz e'
 ·rw[rt h1]at r1
  refine VR.scrE (G:=λx=>KZ=x->False) r1 (λxs eo c hz e=>?_) rfl
  have c:=pM h2 c
  exact lst e ⟨_,a4.inv.fr.keep _ _ H.O.S,eo⟩ c (c.length▸hz) e'
noncomputable def FA(C:Cf)(B:Bk)(p:Pt)(vs:List V)(st:St)(Q:List Value->Shared->Prop):Prop:=∀xs q,To p q->At C B.m st q->IE (C.V q) vs xs->Q xs q.s
noncomputable def v9(C:Cf)(i:E):Prop:=∀(ps:List Zs)(h0:Expr)(pos:Pos),Jy C.Y C.sc i C.sl ps h0=true->∀{B:Bk}{st:St}{p:Pt}{r:(List V×List (Nat×V))×St}{Q:List Value->Shared->Prop},
 Kq C.c i B.l st=some r->r.1.1=[]->Pre C B st p->FA C B p (r.1.2.map (·.2)) r.2 Q->wpAny C.M B.A (evalAll ((backToKw pos (keywordEach (KW (IX C.Y i C.sl ps h0)) C.env)).map (·.2))) Q B.X p.s
noncomputable def fj(C:Cf)(i:E):Prop:=∀(ps:List Zs)(h0:Expr)(pos:Pos),Jy C.Y C.sc i C.sl ps h0=true->∀{B:Bk}{st:St}{p:Pt}{r:(List V×List (Nat×V))×St}{Q:List Value->List Value->Shared->Prop},
 Kq C.c i B.l st=some r->Pre C B st p->(∀xs ys q,To p q->At C B.m r.2 q->IE (C.V q) r.1.1 xs->IE (C.V q) (r.1.2.map (·.2)) ys->Q xs ys q.s)->
 wpAny C.M B.A (spliced (backTo pos (starEach (LY (IX C.Y i C.sl ps h0)) C.env))) (λxs Js=>wpAny C.M B.A (evalAll ((backToKw pos (keywordEach (KW (IX C.Y i C.sl ps h0)) C.env)).map (·.2))) (λys JU=>Q xs ys JU) B.X Js) B.X p.s
noncomputable def aA(ps:List Zs)(r:List (Nat×V)):List Zs:=r.map λp=>(ps[p.1]?).getD ""
theorem kL:v9 C .nil:=λps h0 pos hc B st p r Q hv J P post=>by
 obtain rfl:=ke hv
 exact kwAll_nil (post [] p .rfl P.at' .nil)
theorem oU{k:Nat}{e i:E}{l:List V}{rr:(List V×List (Nat×V))×St}{G:Prop}(hv:Kq C.c (.kw k e i) l st=some rr)(g:∀q z,IK C.c e l st=some q->Kq C.c i l q.2=some z->z.1.1=[]->rr=(([],(k,q.1)::z.1.2),z.2)->G):G:=IJ hv λq hq h=>IJ h λz hz h=>by
 cases he:z.1.1.isEmpty with
 | false=>rw[he]at h;exact nS h
 | true=>rw[he]at h;obtain rfl:=ke h;exact g q z hq hz (List.isEmpty_iff.mp he) rfl
theorem ot{k:Nat}{i j:E}(ha:IQ C i)(hr:v9 C j):v9 C (.kw k i j):=λps h0 pos hc B st p r Q hv J P post=>aEl hc λh1 h2=>aEl h2 λh2 h3=>oU hv λq z hq hz hzn e'=>by
 subst e'
 show wpAny C.M B.A (evalAll ((backToKw pos (keywordEach (kwX ps[k]? (IX C.Y i C.sl [] (hdK h0)) h0::KW (IX C.Y j C.sl ps (tlK h0))) C.env)).map (·.2))) Q B.X p.s
 (refine(kx (km h3))▸?_)
 exact kwAll_cons (ha _ h1 hq P λx u t a rv=>hr ps _ pos h2 hz hzn (P.to t a) λxs u' t' a' rs=>post _ u' (t.trans t') a' (.cons (t'.vr rv) rs))
theorem oq{i:E}(hK:v9 C i)(hi:∀ps e,LY (IX C.Y i C.sl ps e)=[])(h0:∀{l st r},Kq C.c i l st=some r->r.1.1=[]):fj C i:=λps e pos hc B st p r Q hv P post=>by
 rw[hi]
 exact Calls.spliced_nil (hK ps e pos hc hv (h0 hv) P λys q t a r'=>post [] ys q t a (h0 hv▸.nil) r')
theorem sI{i j:E}(ha:IQ C i)(hr:fj C j):fj C (.pos i j):=λps e pos hc B st p r Q hv P post=>aEl hc λh1 h2=>IJ hv λq hq h=>JD h λz hz e'=>by
 subst e'
 show wpAny C.M B.A (spliced (backTo pos (starEach (IX C.Y i C.sl [] (hdE e)::LY (IX C.Y j C.sl ps (tlH e))) C.env))) _ _ _
 (refine(bG (bf i h1))▸?_)
 exact Calls.spliced_cons (ha _ h1 hq P λx u t a rv=>hr ps _ pos h2 hz (P.to t a) λxs ys u' t' a' rx ry=>post _ _ u' (t.trans t') a' (.cons (t'.vr rv) rx) ry)
theorem yP{M:Model}{α:Type}{t:Sem α}{Q:α->List Value->Shared->Prop}{s:Shared}(h:wpAny M A t (λxs Js=>wpAny M A (evalAll []) (λys JU=>Q xs ys JU) X Js) X s) :
  wpAny M A t (λxs Js=>Q xs [] Js) X s:=λΓ p hΓ=>Sem.wp_mono M Γ t (λJ p' J h'=>h' Γ p' hΓ) (λJ J J h'=>h') p s (h Γ p hΓ)
theorem yY(i:E):∀(ps:List Zs)(h0:Expr),KW h0=[]->Jy C.Y C.sc i C.sl ps h0=true->∀{l st r},Kq C.c i l st=some r->r.1.2=[]->KW (IX C.Y i C.sl ps h0)=[]:=by
 induction i with
 | nil=>exact λJ J J J J J J J J=>rfl
 | pos e r _ ih=>exact λps h0 h hc l st r hv hr=>aEl hc λh1 h2=>IJ hv λq hq h'=>JD h' λz hz e'=>ih ps (tlH h0) h h2 hz (by subst e';exact hr)
 | kw k e r _ _=>exact λps h0 h hc l st r hv hr=>oU hv λq z J J J e'=>by subst e';cases hr
 | _=>exact λJ J J J J J J hv=>nomatch hv
theorem sK(hs:fj C a):IQ C (.lst a):=λe0 hc B st p r Q hv P post=>IJ hv λw hw h=>Km h λhg e'=>aEl hg λh1 h2=>by
 have h2:=km h2
 have K:=hs [] _ e0.pos hc (Q:=λxs J Js=>wpAny C.M B.A (newList xs) Q B.X Js) hw P λxs ys u t a rx J=>newList_N a.inv.fr a.inv.nw (λQf F' N'=>a.QB (t0:=u.s.toks) (mf _) F' N' rx h2 λt' a' r'=>post _ _ (t.trans t') (e'▸a') (e'▸r')) (rx.length▸cW h2)
 rw[yY a [] _ rfl hc hw (List.isEmpty_iff.mp h1)]at K
 exact List_ (yP (Q:=λxs J Js=>wpAny C.M B.A (newList xs) Q B.X Js) K)
end
noncomputable def Bk.at(K:Bk)(l:List V)(m:Zs->Option Value):Bk:={ K with l:=l,m:=m}
noncomputable def AtS(C:Cf)(p:Pt)(r:Ly)(Q:Flow->Shared->Prop):Prop:=match r with
 | .next=>Q .next p.s
 | .ret v=>∀x,C.V p v x->Q (.ret x) p.s
noncomputable def L7(C:Cf)(K:Bk)(p:Pt)(r:Ly×List V×St)(Q:Flow->Shared->Prop):Prop:=∀m q,To p q->Pre C (K.at r.2.1 m) r.2.2 q->AtS C q r.1 Q
noncomputable def dD(C:Cf)(i:S):Prop:=∀s0,f9 C.Y C.sl C.sc i s0=true->∀{K:Bk}{st:St}{p:Pt}{r:Ly×List V×St}{Q:Flow->Shared->Prop},
 Ja C.c i K.l st=some r->Pre C K st p->L7 C K p r Q->wpAny C.M K.A (exec (toS C.Y C.sl i s0) C.env) Q K.X p.s
noncomputable def Kt(C:Cf)(i:S):Prop:=∀s0,f9 C.Y C.sl C.sc i s0=true->∀{K:Bk}{st:St}{p:Pt}{r:Ly×List V×St}{Q:Flow->Shared->Prop},
 Ja C.c i K.l st=some r->Pre C K st p->L7 C K p r Q->wpAny C.M K.A (execs (cP (toS C.Y C.sl i s0)) C.env) Q K.X p.s
theorem Kt.x{C:Cf}{i:S}(h:Kt C i){s0:Stmt}(h1:f9 C.Y C.sl C.sc i s0=true){A:Around}{X:Value->Shared->Prop}{l:List V}{m:Zs->Option Value}{st:St}{p:Pt}{r:Ly×List V×St}{Q:Flow->Shared->Prop}(hv:Ja C.c i l st=some r)(rm:C.hs=true->KA A C.n)(lr:LR C p l m)(a:At C m st p)
  (k:∀m' q,To p q->LR C q r.2.1 m'->At C m' r.2.2 q->AtS C q r.1 Q):wpAny C.M A (execs (cP (toS C.Y C.sl i s0)) C.env) Q X p.s:=h _ h1 (K:=⟨A,X,l,m⟩) hv ⟨rm,lr,a⟩ λm' q t P'=>k m' q t P'.lr P'.at'
section
variable{C:Cf}{K:Bk}{m:Zs->Option Value}{st II:St}{p q:Pt}{r:Ly×List V×St}{v:V}{x y:Value}{Q:Flow->Shared->Prop}{e:Expr}{tk:Tok}{i t o d:E}{a b:S}{k:Nat}
theorem L7.after(P:L7 C K p r Q)(t:To p q):L7 C K q r Q:=λm' z t' a=>P m' z (t.trans t') a
theorem sO:Kt C .nil:=λs0 J K st p r Q hv P post=>by
 obtain rfl:=ke hv
 exact wpAny_execs_nil (post K.m p .rfl P)
theorem qh(hi:dD C a)(hj:Kt C b):Kt C (.cons a b):=λs0 hc K st p r Q hv P post=>aEl hc λh1 h2=>IJ hv λq hq h=>
 wpAny_execs_cons (hi _ h1 hq P λm' z t P'=>by
  obtain⟨c,l,NN⟩:=q
  cases c with
  | next=>exact hj _ h2 (K:=K.at l m') h P' λm q t'=>post m q (t.trans t')
  | ret v=>obtain rfl:=ke h;exact post m' z t P')
theorem p5:dD C .pass:=λs0 J K st p r Q hv P post=>by
 obtain rfl:=ke hv
 exact wpAny_Pass (post K.m p .rfl P)
theorem sC(hi:IQ C i):dD C (.ret i):=λs0 hc K st p r Q hv P post=>JD hv λw hw e'=>by
 subst e'
 exact wpAny_Return_some (hi _ hc hw P λy q t a ry=>post K.m q t (P.to t a) y ry)
theorem pZ:dD C .Mc:=λs0 hc K st p r Q hv P post=>by
 obtain rfl:=ke hv
 exact wpAny_Return_none (post K.m p .rfl P _ rfl)
theorem sD(ht:JI C t)(ha:Kt C a)(hb:Kt C b):dD C (.IF t a b):=λs0 hc K st p r Q hv P post=>aEl hc λh1 h2=>aEl h2 λh2 h3=>IJ hv λw hw h=>IJ h λu hu h=>
 wpAny_If (ht _ h1 hw hu P λq t' a'=>by
  cases u with
  | true=>exact ha _ h2 h (P.to t' a') (post.after t')
  | false=>exact hb _ h3 h (P.to t' a') (post.after t'))
theorem jC{x:Expr}(h:noC x=true)(h':Me x=true)(t:Option Expr)(n:Nat)(env:Env):swapsWith x t n env=pure false:=by
 cases x <;> first | rfl | exact JA h | exact JA h'
theorem tO{x:Expr}(h:noC x=true)(h':Me x=true)(ts:List Expr)(n:Nat)(env:Env):swapsWithSole ts x n env=pure false:=by
 cases ts with
 | nil=>rfl
 | cons t ts=>cases ts with
  | nil=>exact jC h h' _ _ _
  | cons=>rfl
theorem p7(H:Ok C)(hi:IQ C i):dD C (.expr i):=λs0 hc K st p r Q hv P post=>aEl hc λh1 h2=>JD hv λw hw e'=>by
 subst e'
 exact wpAny_Expr_any (hi _ h1 hw P λy q t a ry=>post K.m q t (P.to t a)) (by show(C.sc.kind==.module&&_)=false;(refine(H.hk)▸?_);rfl) (jC h2 (bf i h1) _ _ _)
inductive WI(C:Cf)(K:Bk)(p:Pt)(r:Ly×List V×St)(g:List V->St->JC):Shared->Prop
 | mk {l m st q}:To p q->Pre C (K.at l m) st q->g l st=some r->WI C K p r g q.s
set_option tactic.hygienic true in
theorem mT(ht:JI C t)(hb:Kt C b):dD C (.while t b):=λs0 hc K st p r Q hv P post=>aEl hc λh1 h2=>by
 refine wpAny_While (codeAny_whileLoop (λk=>WI C K p r (fU (IK C.c t) (Ja C.c b) k)) (λk s' hI=>?_) C.c.wf (.mk (l:=K.l) (m:=K.m) .rfl P hv))
 obtain⟨t1,P1,hl⟩:=hI
 rename_i l m NN q1
 cases k with
 | zero=>exact nS hl
 | succ k=>
  refine IJ hl λw hw hl=>IJ hl λu hu hl=>ht.x h1 (l:=l) (m:=m) hw hu P1.rm P1.lr P1.at' λq2 t2 a2=>?_
  cases u with
  | false=>obtain rfl:=ke hl;exact wpAny_execs_nil (post m q2 (t1.trans t2) (P1.to t2 a2))
  | true=>
   refine IJ hl λz hz hl=>hb.x h2 (l:=l) (m:=m) hz P1.rm (P1.lr.to t2) a2 λm3 q3 t3 lr3 a3=>?_
   obtain⟨c,l2,P0⟩:=z
   cases c with
   | next=>exact⟨k,Nat.lt_succ_self k,.mk ((t1.trans t2).trans t3) (Pre.mk (K:=K.at l2 m3) P1.rm lr3 a3) hl⟩
   | ret v=>obtain rfl:=ke hl;exact λx rx=>post m3 q3 ((t1.trans t2).trans t3) ⟨P1.rm,lr3,a3⟩ x rx
theorem LR.store{l:List V}{n:Zs}(r:LR C p l m)(nd:C.sl.Nodup)(hx:C.sl[k]?=some n)(rv:C.V p v y):LR C p (l.set k v) (λz=>if z=n then some y else m z):=⟨λi w hi hw=>by
 by_cases hik:i=k
 ·subst hik
  rw[List.getElem?_set_self']at hi
  exact JD hi λJ J e=>by subst e;exact⟨n,y,hx,if_pos rfl,rv⟩
 ·rw[List.getElem?_set_ne (Ne.symm hik)]at hi
  refine KJ λhG=>?_
  obtain⟨nm,z,a,b,q⟩:=r.1 i w hi hw
  refine hG ?_
  clear hG
  refine⟨nm,z,a,(if_neg λe=>hik ?_).trans b,q⟩
  obtain⟨ha,ha'⟩:=kj a
  obtain⟨hb,hb'⟩:=kj hx
  exact(List.getElem_inj nd).mp (ha'.trans (e.trans hb'.symm)),r.2⟩
theorem fq(H:Ok C){R:Unit->Shared->Prop}{X:Value->Shared->Prop}{A:Around}(hk:k < C.sl.length)(P:Pre C K st p)(rv:C.V p v y)(h:∀m' q,To p q->Pre C (K.at (K.l.set k v) m') st q->R () q.s):wpAny C.M A (storeName C.env (C.sl.getD k "") y) R X p.s:=by
 have hx:=kx hk
 (refine(dB hx)▸?_)
 refine wpAny_storeName_local (env:=C.env) (H.lc _ (ly hx)).1 P.at'.inv.fr.ns (λh' hn Nf=>?_) (by show(C.sc.kind==.class||(C.sc.kind==.module&&C.L != mainGlobals))=false;(refine(H.hk)▸?_);rfl)
 exact h _ (p.mv h' _ p.ad p.φ) .h ⟨P.rm,P.lr.store H.nd hx rv,⟨P.at'.inv.fr.set hn Nf,P.at'.inv.nw.set Nf,P.at'.inv.nd,P.at'.inv.lo⟩,P.at'.rep⟩
theorem jn(H:Ok C){R:Unit->Shared->Prop}{X:Value->Shared->Prop}{A:Around}(hk:k < C.sl.length)(P:Pre C K st p)(rv:C.V p v y)(h:∀m' q,To p q->Pre C (K.at (K.l.set k v) m') st q->R () q.s):wpAny C.M A (assign (nE (C.sl.getD k "") e) C.env y) R X p.s:=
 wpAny_assign_Name (fq H hk P rv h)
theorem nh{l:List (Nat×Expr)}{x:Expr}{env:Env}:swappedStores (l.map λp=>nE (C.sl.getD p.1 "") p.2) x env=pure none:=by
 cases l with
 | nil=>rfl
 | cons a l=>cases l <;> rfl
theorem tP(H:Ok C){X:Value->Shared->Prop}{A:Around}(ns:List Nat):∀{k:Nat}{ts:List Expr}{t:Expr}{K:Bk}{p:Pt}{R:Unit->Shared->Prop},((k::ns).all λk=>decide (k < C.sl.length))=true->ns.length=ts.length->Pre C K st p->C.V p v y->
  (∀m' q,To p q->Pre C (K.at (gK K.l v (k::ns)) m') st q->R () q.s)->wpAny C.M A (assignAll y ((assignEach (((k::ns).zip (t::ts)).map λp=>nE (C.sl.getD p.1 "") p.2) C.env).map (·.2))) R X p.s:=by
 induction ns with
 | nil=>exact λ{k ts t K p R} h1 h2 P rv h=>(List.eq_nil_of_length_eq_zero h2.symm)▸aEl h1 λh1 J=>jn H (km h1) P rv h
 | cons k' ns ih=>
  intro k ts t K p R h1 h2 P rv h
  cases ts with
  | nil=>exact nomatch h2
  | cons t' ts=>exact aEl h1 λh1 h3=>wpAny_bind (wpAny_holding (jn (e:=t) H (km h1) P rv λm' q tt P'=>ih h3 (Nat.succ.inj h2) P' (tt.vr rv) λm'' q' t' P''=>h m'' q' (tt.trans t') P''))
theorem qE(H:Ok C){X:Value->Shared->Prop}{A:Around}{ns:List Nat}{ts:List Expr}{K:Bk}{p:Pt}{R:Unit->Shared->Prop}(h1:(ns.all λk=>decide (k < C.sl.length))=true)(h0:ns≠[])(h2:ns.length=ts.length)(P:Pre C K st p)(rv:C.V p v y)
  (h:∀m' q,To p q->Pre C (K.at (gK K.l v ns) m') st q->R () q.s):wpAny C.M A (assignAll y ((assignEach ((ns.zip ts).map λp=>nE (C.sl.getD p.1 "") p.2) C.env).map (·.2))) R X p.s:=by
 cases ns with
 | nil=>exact(h0 rfl).elim
 | cons k ns=>
  cases ts with
  | nil=>exact nomatch h2
  | cons t ts=>exact tP H ns h1 (Nat.succ.inj h2) P rv h
theorem sG(H:Ok C){ns:List Nat}(hi:IQ C i):dD C (.asg ns i):=λs0 hc K st p r Q hv P post=>aEl hc λh1 h2=>aEl h2 λh2 h3=>aEl h2 λh2 h4=>JD hv λw hw e'=>by
 subst e'
 have h4:=km h4
 exact wpAny_Assign_stores (hi _ h1 hw P λy q t a ry=>qE H h3 h4.1 h4.2 (P.to t a) ry λm' q' t' P'=>post m' q' (t.trans t') P') (tO h2 (bf i h1) _ _ _) nh
theorem p9(H:Ok C){o:Nr}(hi:IQ C i):dD C (.J1 k o i):=λs0 hc K st p r Q hv P post=>aEl hc λh1 h2=>IJ hv λu hu h=>IJ h λw hw h=>JD h λz hz e'=>by
 subst e'
 refine KJ λhG=>?_
 obtain⟨n,x,e1,e2,rx⟩:=P.lr.1 k u hu λe=>by subst e;exact nS hz
 refine hG ?_
 clear hG
 have hk:=(kj e1).1
 show wpAny C.M K.A (exec (.AugAssign (nE (C.sl.getD k "") _) _ _ _) _) Q K.X p.s
 have hg:C.sl.getD k "" = n:=dB e1
 (refine(hg)▸?_)
 refine wpAny_AugAssign_Name (wpAny_loadName_local (env:=C.env) H.hk (H.lc _ (ly e1)).1 P.at'.inv.fr.ns e2 ?_)
 refine hi _ h1 hw P λy q t a ry=>o7 h2 (t.vr rx) ry hz λtk zv rz=>?_
 (refine(hg)▸?_)
 exact fq H hk (P.to (t.trans (.tk (t0:=tk))) a.tk) rz λm' q' t' P'=>post m' q' ((t.trans .tk).trans t') P'
end
theorem vL{a b:Nat}(h:a≠b):(a==b)=false:=beq_eq_false_iff_ne.mpr h
theorem kN(k:Nat)(v:V)(n:Nat)(f:List (Nat×V)):(iz k v f).lookup n=bif n==k then some v else f.lookup n:=by
 induction f with
 | nil=>rw[iz,List.lookup_cons];cases n==k <;> rfl
 | cons p r ih=>
  obtain⟨a,b⟩:=p
  rw[iz]
  cases hq:(a==k) with
  | true=>
   (rewrite[cond_true];rewrite[List.lookup_cons];rewrite[List.lookup_cons];refine(lf hq).symm▸?_)
   cases n==k <;> rfl
  | false=>
   (rewrite[cond_false];rewrite[List.lookup_cons];rewrite[List.lookup_cons];refine(ih)▸?_)
   cases h:n==a with
   | true=>(refine(lf h)▸?_;refine(hq)▸?_);rfl
   | false=>rfl
theorem zZ(k:Nat)(v:V)(f:List (Nat×V)):(iz k v f).length=bif (f.lookup k).isSome then f.length else f.length+1:=by
 induction f with
 | nil=>rfl
 | cons p r ih=>
  obtain⟨a,b⟩:=p
  rw[iz,List.lookup_cons]
  cases hq:(a==k) with
  | true=>(refine(lf hq).symm▸?_;rw[show(k==k)=true from beq_self_eq_true k]);rfl
  | false=>
   (rewrite[show(k==a)=false from vL (Ne.symm (beq_eq_false_iff_ne.mp hq))];rewrite[cond_false];refine(List.length_cons).symm▸?_;refine(ih)▸?_)
   cases (List.lookup k r).isSome <;> rfl
section
variable{C:Cf}{K:Bk}{m:Zs->Option Value}{st II:St}{p q:Pt}{r:Ly×List V×St}{v w:V}{x y:Value}{Q:Flow->Shared->Prop}{e:Expr}{tk:Tok}{i t o d:E}{a b:S}{k:Nat}{f:List (Nat×V)}{es:List DictEntry}{Y:Lay}{φ:Led}{am:AM}
theorem FR.put(nmI:∀a b,a < 128->b < 128->a≠b->(Y.nm a==Y.nm b)=false)(hk:k < 128)(r:FR Y φ am f es)(rv:VR Y φ am v y)(hs:Int)(t:Tok):FR Y φ am (iz k v f) (putL (Y.nm k) hs (.str (Y.nm k) t) y es):=λn hn=>by
 rw[kN]
 by_cases h:n=k
 ·subst h
  rw[show(n==n)=true from beq_self_eq_true n,cond_true]
  exact⟨λw hw=>⟨y,(d9 _ _ _ _ _ _).trans (by rw[beq_self_eq_true];rfl),ke hw▸rv⟩,nofun⟩
 ·(refine(vL h)▸?_;rewrite[cond_false];rewrite[d9];refine(nmI k n hk hn (Ne.symm h))▸?_;rw[cond_false])
  exact r n hn
theorem FR.len(hk:k < 128)(r:FR Y φ am f es)(hl:es.length<=f.length)(hs:Int)(t:Tok):(putL (Y.nm k) hs (.str (Y.nm k) t) y es).length<=(iz k v f).length:=by
 rw[zZ]
 cases hq:f.lookup k with
 | none=>exact kg (gN _ _ _ _ _).1 (mj hl)
 | some w=>
  obtain⟨z,hz,_⟩:=(r k hk).1 w hq
  exact((gN _ _ _ _ _).2 z hz).symm▸hl
theorem FR.tot(hk:k < 128)(r:FR Y φ am f es):(getL (Y.nm k) es).isSome=true:=by
 cases hq:f.lookup k with
 | none=>(refine((r k hk).2 hq)▸?_);rfl
 | some w=>obtain⟨z,hz,_⟩:=(r k hk).1 w hq;(refine(hz)▸?_);rfl
theorem kM(H:Ok C){A:Around}{X:Value->Shared->Prop}{R:Unit->Shared->Prop}(a:At C m st p)(ro:C.V p w x)(rv:C.V p v y)(hs:Be k w v st=some II)(h:∀q,To p q->At C m II q->R () q.s):wpAny C.M A (setAttr x (C.Y.nm k) y) R X p.s:=
 IJ hs λz hz hs=>Km hs λhg e'=>aEl hg λhg J=>aEl hg λh1 h2=>by
  subst e'
  have hlen:=km h1
  have hk:=km h2
  refine a.ins hz ro λz' d es n hc I lt g gl gle=>?_
  have hF:=g.put H.K.nmI hk rv (PyData.keyHash C.w.params (C.Y.nm k)) (p.s.toks+1)
  have hl:=FR.len (v:=v) (y:=y) hk g gl (PyData.keyHash C.w.params (C.Y.nm k)) (p.s.toks+1)
  have hpl:(iz k v z.2.2).length<=100:=by
   rw[zZ];cases (List.lookup k z.2.2).isSome
   ·exact hlen
   ·exact Nat.le_of_lt hlen
  generalize hes:putL (C.Y.nm k) (PyData.keyHash C.w.params (C.Y.nm k)) (.str (C.Y.nm k) (p.s.toks+1)) y es=PG at hF hl
  refine a.turn (pre:=[(z',instObj (C.Y.Jl z.2.1) d)]) (post:=[]) hc (dictOf PG (putN (C.Y.nm k) es n)) rfl (.ins lt hF hl hpl) λU go=>?_
  exact set_dict a.inv.fr H.O.X a.inv.nw I rfl (H.K.iSet _ lt) (H.K.iOver _ lt) (H.K.iTak _ _ lt hk) (H.K.NS _ lt) (g.tot hk) (by (exact(hes).symm▸rfl)) U (kg hl (kg hpl (by decide))) λh' F' N'=>h _ (go h' _ F' N').1 (go h' _ F' N').2
theorem pY(H:Ok C)(ho:IQ C o)(hi:IQ C i):dD C (.IP k o i):=λs0 hc K st p r Q hv P post=>aEl hc λh1 h2=>aEl h2 λh2 h3=>IJ hv λw hw h=>IJ h λu hu h=>JD h λs1 hs e'=>by
 subst e'
 exact plainObj_wpAny_Assign_Attribute (hi _ h2 hw P λy q t a ry=>ho _ h1 hu (P.to t a) λov q2 t2 a2 ro=>kM H a2 ro (t2.vr ry) hs λq3 t3 a3=>post K.m q3 ((t.trans t2).trans t3) (P.to ((t.trans t2).trans t3) a3)) (jC h3 (bf i h2) _ _ _)
theorem qb(H:Ok C){n:Nat}{op:Nr}(ho:IQ C o)(hi:IQ C i):dD C (.Ke n op o i):=λs0 hc K st p r Q hv P post=>aEl hc λh1 h2=>aEl h2 λh2 h3=>aEl h3 λh3 h4=>IJ hv λu hu h=>IJ h λv0 hv0 h=>IJ h λw hw h=>IJ h λz hz h=>JD h λs1 hs e'=>by
 subst e'
 refine wpAny_AugAssign_AttributeAny (ho _ h1 hu P λov q t a ro=>pF H (km h4) a ro hv0 λy0 r0=>?_)
 have t':=t.trans (.tk (t0:=q.s.toks+1))
 refine hi _ h2 hw (P.to t' a.tk) λy q2 t2 a2 ry=>o7 h3 (t2.vr r0) ry hz λtk zv rz=>?_
 have t2':=t2.trans (.tk (t0:=tk))
 exact kM H a2.tk (t2'.vr ro) rz hs λq3 t3 a3=>post K.m q3 ((t'.trans t2').trans t3) (P.to ((t'.trans t2').trans t3) a3)
theorem rO(H:Ok C){A:Around}{X:Value->Shared->Prop}{s:Shared}{f:Expr}{as:List Expr}{ks:List Keyword}{p q:Pos}(h:wpAny C.M A (eval (.Call f as ks p) C.env) (λJ=>Q .next) X s):wpAny C.M A (exec (.Expr (.Call f as ks p) q) C.env) Q X s:=
 wpAny_Expr_any h (by show(C.sc.kind==.module&&_)=false;(refine(H.hk)▸?_);rfl) rfl
theorem kE(xs:List Value)(y:Value):xs.toArray.push y=(xs++[y]).toArray:=by rw[List.push_toArray]
theorem sH(H:Ok C)(ho:IQ C o)(hi:IQ C i):dD C (.app o i):=λs0 hc K st p r Q hv P post=>aEl hc λh1 h2=>aEl h2 λh2 h3=>aEl h3 λh3 h4=>IJ hv λu hu h=>IJ h λq0 hq0 h=>IJ h λw hw h=>IJ h λq1 Pu h=>Km h λhg e'=>aEl hg λhg J=>by
 subst e'
 have hg:=km hg
 refine rO H (Call_method1 (bz h3 _ _) (by (refine(bG (bf i h2))▸?_);rfl) h4 (ho _ h1 hu P λov q t a ro=>?_))
 have ro':=ro
 revert ro'
 refine a.lst hq0 ro λz xs0 n0 J hg0 J J ro=>?_
 refine g7 (W:=C.toWd) PySem.F.slot_list_append PySem.F.type_list_append hg0 (E4 ?_)
 refine hi _ h2 hw (P.to t a) λy q2 t2 a2 ry=>?_
 have ro2:=t2.vr ro
 generalize hx:Value.ref z=x at ro2
 revert hx
 refine a2.lst Pu ro2 λz' xs n hc hgt hx hz e=>?_
 cases e
 refine a2.Nz (k':=n+1) (l':=q1.2++[w.1]) hc (hx.snoc ry) (by (refine(ky)▸?_);exact hg) λU go=>?_
 have U:Upd z (listOf xs.toArray n) (listOf (xs.toArray.push y) (n+1)) (q2.ad.led++(q2.φ++q2.ul)) ((q2.ad.set q1.1 [(z,aK (xs++[y]) (n+1))]).led++(q2.φ++q2.ul)):=by rw[kE];exact U
 exact append_K a2.inv.fr a2.inv.nw U (λh3 F' N'=>post K.m _ ((t.trans t2).trans (go h3 q2.s.toks F' N').1) (P.to ((t.trans t2).trans (go h3 q2.s.toks F' N').1) (go h3 q2.s.toks F' N').2)) (by (refine(List.size_toArray)▸?_;refine(hx.length)▸?_);exact cW hz)
theorem El{M:Model}{A:Around}{E:Value->Shared->Prop}{s:Shared}{a b:Value}{Q:Value->Shared->Prop}(ha:s.TypeIs a "list")(hb:s.TypeIs b "list")(hc:wpAny M A (call (.builtin "list.__iadd__") [a,b]) Q E s):wpAny M A (inplaceOp .Add a b) Q E s:=by
 unfold inplaceOp
 refine wpAny_holding ?_
 have hl:=PySem.F.slot_list_iadd.lookup
 have hfi:fillsInplaceSlot (.type "list") "add" (Operator.Add==.Add)=pure false:=by
  unfold fillsInplaceSlot
  show(typeLookup (.type "list") (dunderI "add") >>= λfi=>pure (fi.isSome&&!isSeqSlot fi))=pure false
  rw[hl];rfl
 refine wpAny_bind (wpAny_typeOf ha (wpAny_bind (wpAny_of_eq hfi ?_)))
 show wpAny M A (if false=true then _ else _) Q E s
 rw[if_neg Bool.false_ne_true]
 refine wpAny_bind (wpAny_binaryOp1_none (nm := "add") ha hb PySem.noFill_list_add ?_)
 refine wpAny_bind (wpAny_of_eq (PySem.seqSlot_of hl (by decide +kernel)) ?_)
 exact wpAny_bind (wpAny_rule hc)
theorem oz{α:Type}{u:α}:∀{l:List α}{k:Nat},l[k]?=some u->l.set k u=l
 | [],_,h=>nomatch h
 | a::l,0,h=>kh (·::l) (ke h).symm
 | a::l,k+1,h=>kh (a::·) (oz (l:=l) h)
theorem uo{M:Program}{w:World}{A:Around}{E:Value->Shared->Prop}{s:Shared}{Q:Value->Shared->Prop}{hB:Heap}{L D b:Addr}{m:Zs->Option Value}{news MG:Led}{xs ys:List Value}{n n2 k:Nat}(F:Fr hB L s.heap m)(N:News hB L s.heap news)(hb:(b,aK ys n2)∈news)
  (hk:(ys=[]/\k=n)∨(ys≠[]/\k=n+1)) (U:Upd D (aK xs n) (aK (xs++ys) k) news MG) (hl:xs.length+ys.length<=IU) (h:∀h',Fr hB L h' m->News hB L h' MG->Q (.ref D) { s with heap:=h'}):wpAny (model M w) A (inplaceOp .Add (.ref D) (.ref b)) Q E s:=by
 refine KJ λhG=>?_
 obtain⟨pre,post,rfl,rfl,a,c⟩:=U.split
 refine hG ?_
 clear hG
 have z:=N (D,aK xs n) (lh (.inr (.head _)))
 have zb:=N _ hb
 have hnl:¬(!xs.toArray.isEmpty&&Builtin.List.listTooLong (xs.toArray.size+ys.toArray.size))=true:=λh=>aEl h λJ h2=>Nat.not_lt.mpr (cW hl) (km h2)
 refine El (aE z.1).typeIs (aE zb.1).typeIs (call_meets PySem.F.slot_list_iadd ⟨_,z.1,rfl⟩ PySem.F.entry_list_iadd (PySem.F.args_list_iadd_2 _ _) (PySem.AutoSeq1.list___iadd___list_list_0 D xs.toArray n b ys.toArray n2 hnl (kg (lw _ _) (cW hl)) (Nat.le_succ_of_le (cW hl))) ⟨z.1,zb.1,h _ (F.change (Heap.SameBut.update ..) z.2.1 z.2.2) ?_⟩)
 rcases hk with⟨rfl,rfl⟩ | ⟨Kg,rfl⟩
 ·exact kl_turn0 (λx=>x++#[]) N a c (by simp) (by simp)
 ·exact kl_turn _ N a c (by simp) (by simpa using Kg)
theorem p8(H:Ok C)(hi:IQ C i):dD C (.MM k i):=λs0 hc K st p r Q hv P post=>IJ hv λu hu h=>IJ h λq0 hq0 h=>IJ h λw hw h=>IJ h λq1 Pu h=>IJ h λw1 hw1 h=>Km h λhg e'=>aEl hg λhg J=>by
 subst e'
 have hg:=km hg
 refine KJ λhG=>?_
 obtain⟨n,x,e1,e2,rx⟩:=P.lr.1 k u hu λe=>by subst e;exact nS hq0
 refine hG ?_
 clear hG
 have hk:=(kj e1).1
 show wpAny C.M K.A (exec (.AugAssign (nE (C.sl.getD k "") _) .Add _ _) _) Q K.X p.s
 have hge:C.sl.getD k "" = n:=dB e1
 (refine(hge)▸?_)
 refine wpAny_AugAssign_Name (wpAny_loadName_local (env:=C.env) H.hk (H.lc _ (ly e1)).1 P.at'.inv.fr.ns e2 ?_)
 refine hi _ hc hw P λy q2 t2 a2 ry=>?_
 have fin:∀{q3:Pt}{P0:St}{z:Value},To p q3->At C K.m P0 q3->C.V q3 u z->(∀m' q,To p q->Pre C (K.at K.l m') P0 q->Q .next q.s)->wpAny C.M K.A (storeName C.env n z) (λJ=>Q .next) K.X q3.s:=λt3 a3 rz ps=>by
  (refine(hge)▸?_)
  exact fq H hk (P.to t3 a3) rz λm' q' t' P'=>ps m' q' (t3.trans t') (oz hu▸P')
 have ro:=t2.vr rx
 have ro':=ro
 revert ro'
 refine a2.lst Pu ro λz' xs n1 hc hgt hx hz ro=>?_
 refine a2.lst hw1 ry λz2 ys n2 hc2 hgt2 hx2 QD=>?_
 have hlen:xs.length+ys.length<=IU:=by (refine(hx.length)▸?_;refine(hx2.length)▸?_);exact hg
 have hb:=At.mem hc2 (.head _)
 refine a2.Nz (k':=if ys=[] then n1 else n1+1) (PX:=xs++ys) (l':=q1.2++w1.2) hc (hx.app hx2) (by (refine(ky)▸?_);exact hg) λU go=>?_
 refine uo a2.inv.fr a2.inv.nw hb (by by_cases hy:ys=[] <;> simp[hy]) U hlen λh3 F' N'=>?_
 have g:=go h3 q2.s.toks F' N'
 exact fin (t2.trans g.1) g.2 (g.1.vr ro) λm' q t' P'=>post m' q t' P'
end
noncomputable def CP(q:Addr)(i:Nat)(o:Obj):Prop:=o.cls=.type "list_iterator" /\ o.data=.fields #[.ref q,.int i 0]
noncomputable def fh(x:Zs)(t:Tok)(i:Nat)(o:Obj):Prop:=o.cls=.type (if x.cps.all (· < 128) then "str_ascii_iterator" else "str_iterator")/\o.data=.fields #[.str x t,.int i 0]
inductive Q3(x:Value)(i:Nat)(o:Obj):Prop
 | lst {a}:x=.ref a->CP a i o->Q3 x i o
 | str {s t}:x=.str s t->fh s t i o->Q3 x i o
noncomputable abbrev Pt.wi(p:Pt)(z:Addr×Obj):Pt:=⟨p.s,p.ad,p.φ,(false,z)::p.up⟩
section
variable{C:Cf}{K:Bk}{m:Zs->Option Value}{st II:St}{p q:Pt}{r:Ly×List V×St}{v:V}{x y:Value}{Q:Flow->Shared->Prop}{e:Expr}{tk:Tok}{i t o d:E}{a b:S}{k:Nat}{A:Around}{X:Value->Shared->Prop}{it:Addr}{oi:Obj}{j:Nat}{w:Option V}{z:Addr×Obj}
theorem To.wi(t:To (p.wi z) q):∃q',q=q'.wi z/\To p q':=by
 obtain⟨s,ad,φ,up⟩:=q
 obtain⟨a,b,c,d⟩:=t
 revert c
 generalize hu:(Pt.mk s ad φ up).up=u
 intro c
 obtain rfl:=hu
 cases c with
 | @cons _ y _ up' r c=>
  obtain⟨y0,y1,y2⟩:=y
  obtain⟨z1,z2⟩:=z
  cases (show y0=false from r.b)
  cases (show y1=z1 from r.a)
  cases r.o.elim id λh'=>nomatch h'.1
  exact⟨⟨s,ad,φ,up'⟩,Eq.refl _,a,b,c,d⟩
theorem iW{Q:Option Value->Shared->Prop}(hh:A.handled=none)(a:At C m st (p.wi (it,oi)))(r:C.V p v x)(hI:Q3 x j oi)(hw:itemAt v st j=some w)
  (h0:w=none->∀h',Heap.ExtBut it p.s.heap h'->Q none { p.s with heap:=h'})
  (h1:∀u,w=some u->∀h' y tk o',h'.get? it=some o'->Q3 x (j+1) o'->Heap.SameBut it p.s.heap h'->C.V p u y->Q (some y) { p.s with heap:=h',toks:=tk}):wpAny C.M A (pyNext (.ref it)) Q X p.s:=by
 have hit:p.s.heap.get? it=some oi:=a.inv.L3.1
 refine LW hw (λhw=>JD hw λt ht hw=>?_) λhw=>JD hw λl hl hw=>?_
 ·cases r.str ht with | mk tk hl=>
  cases hI with
  | lst e _=>cases e
  | str e hS=>
  cases e
  have ec:(Jo t).cps[j]?=t[j]?:=List.getElem?_toArray
  cases hz:t[j]? with
  | none=>
   rw[hz]at hw ec
   obtain rfl:=hw
   cases ha:(Jo t).cps.all (· < 128) with
   | true=>rw[fh,ha]at hS;exact wpAny_pyNext_ascii_end hh (it:=it) ⟨oi,hit,hS⟩ ec (h0 rfl)
   | false=>rw[fh,ha]at hS;exact wpAny_pyNext_wide_end hh (it:=it) ⟨oi,hit,hS⟩ ec (h0 rfl)
  | some z=>
   rw[hz]at hw ec
   obtain rfl:=hw
   cases ha:(Jo t).cps.all (· < 128) with
   | true=>
    rw[fh,ha]at hS
    exact wpAny_pyNext_ascii_item (it:=it) ⟨oi,hit,hS⟩ ec λh' ⟨o',OH,Nf⟩ NA=>h1 _ rfl h' _ _ o' OH (.str rfl (by (rewrite[fh];refine(ha).symm▸?_);exact Nf)) NA (Jw.mk _ (show 1<=IU by decide))
   | false=>
    rw[fh,ha]at hS
    exact wpAny_pyNext_wide_item (it:=it) ⟨oi,hit,hS⟩ ec λh' ⟨o',OH,Nf⟩ NA=>h1 _ rfl h' _ _ o' OH (.str rfl (by (rewrite[fh];refine(ha)▸?_);exact Nf)) NA (Jw.mk _ (show 1<=IU by decide))
 ·subst hw
  have r':C.V (p.wi (it,oi)) v x:=r
  revert hI h1
  refine a.lst hl r' λc xs n hc hg hx hz hI h1=>?_
  cases hI with
  | str e _=>cases e
  | lst e hS=>
  cases e
  cases hz:l.2[j]? with
  | none=>exact wpAny_pyNext_list_end hh (it:=it) (l:=c) (items:=xs.toArray) ⟨oi,hit,hS⟩ (aE hg) ((List.getElem?_toArray (xs:=xs)).trans (List.getElem?_eq_none (hx.length▸List.getElem?_eq_none_iff.mp hz))) (h0 hz)
  | some u=>
   obtain⟨y,hy,ry⟩:=hx.get hz
   exact wpAny_pyNext_list_item (it:=it) (l:=c) (i:=j) (items:=xs.toArray) ⟨oi,hit,hS⟩ (aE hg) ((List.getElem?_toArray (xs:=xs)).trans hy) λh' ⟨o',OH,Nf⟩ NA=>h1 u hz h' y p.s.toks o' OH (.lst rfl Nf) NA ry
theorem iX{Q:Value->Shared->Prop}(a:At C m st p)(r:C.V p v x)(hw:itemAt v st 0=some w)(h:∀o,o.isFreed=false->Q3 x 0 o->Q (.ref p.s.heap.objs.size) { p.s with heap:=p.s.heap.push o}):wpAny C.M A (pyIter x) Q X p.s:=by
 refine LW hw (λhw=>JD hw λt ht J=>?_) λhw=>JD hw λl hl J=>?_
 ·cases r.str ht with | mk tk hl=>
  cases ha:(Jo t).cps.all (· < 128) with
  | true=>exact wpAny_pyIter_ascii ha (h _ rfl (.str rfl (by (rewrite[fh];refine(ha).symm▸?_);exact⟨rfl,rfl⟩)))
  | false=>exact wpAny_pyIter_wide ha (h _ rfl (.str rfl (by (rewrite[fh];refine(ha)▸?_);exact⟨rfl,rfl⟩)))
 ·revert h
  exact a.lst hl r λc xs n hc hg hx hz h=>wpAny_pyIter_list (aE hg) (h _ rfl (.lst rfl ⟨rfl,rfl⟩))
inductive FI(C:Cf)(K:Bk)(p:Pt)(r:Ly×List V×St)(it:Addr)(IT:Nat->Obj->Prop)(g:Nat->List V->St->JC):Shared->Prop
 | mk {l m st q j o}:To p q->Pre C (K.at l m) st (q.wi (it,o))->IT j o->g j l st=some r->FI C K p r it IT g q.s
set_option tactic.hygienic true in
theorem pf(H:Ok C)(hb:Kt C b){s0:Stmt}{IT:Nat->Obj->Prop}{go:St->Nat->Option (Option V)}(hk:k < C.sl.length)(hbd:f9 C.Y C.sl C.sc b s0=true)
  (next:∀{X:Value->Shared->Prop}{Q:Option Value->Shared->Prop}{q:Pt}{m:Zs->Option Value}{st:St}{o:Obj}{j:Nat}{w:Option V},To p q->At C m st (q.wi (it,o))->IT j o->go st j=some w->
   (w=none->∀h',Heap.ExtBut it q.s.heap h'->Q none { q.s with heap:=h'})->
   (∀u,w=some u->∀h' y tk o',h'.get? it=some o'->IT (j+1) o'->Heap.SameBut it q.s.heap h'->C.V q u y->Q (some y) { q.s with heap:=h',toks:=tk})->wpAny C.M K.A (pyNext (.ref it)) Q X q.s)
  {wf:Nat} (hv:cQ k go (Ja C.c b) wf 0 K.l st=some r) (P:Pre C K st (p.wi (it,oi))) (Kz:IT 0 oi) (post:L7 C K p r Q) :
  codeAny C.M K.A (.forLoop (nE (C.sl.getD k "") e) (.ref it) (cP (toS C.Y C.sl b s0)) [] C.env) (λr s'=>match r with | .ok f=>Q f s' | .error e=>cameBackBy C.M K.A C.env K.X e s') p.s:=by
 refine codeAny_forLoop (λf=>FI C K p r it IT (λj=>cQ k go (Ja C.c b) f j)) (λf s' hI=>?_) wf (.mk (l:=K.l) (m:=K.m) .rfl P Kz hv) (λz=>rfl)
 obtain⟨t1,P1,Kz,hl⟩:=hI
 rename_i l m NN q1 j o1
 cases f with
 | zero=>exact nS hl
 | succ f=>
 refine IJ hl λu hu hl=>next t1 P1.at' Kz hu (λe1 J7 QM=>?_) λu e1 J7 xv MA Ov OG Nc NA rx=>?_
 ·subst e1;obtain rfl:=ke hl
  exact wpAny_execs_nil (post m _ (t1.trans (.h (t0:=q1.s.toks) (h:=J7))) ⟨P1.rm,P1.lr,P1.at'.inv.OQ QM,P1.at'.rep⟩)
 ·subst e1
  have tq:To p (q1.mv J7 MA q1.ad q1.φ):=t1.trans .h
  have P2:Pre C (K.at l m) NN ((q1.mv J7 MA q1.ad q1.φ).wi (it,Ov)):=⟨P1.rm,P1.lr,P1.at'.inv.L9 NA OG,P1.at'.rep⟩
  refine jn (v:=u) (y:=xv) H hk P2 rx λm3 q3 t3 P3=>?_
  obtain⟨q3,rfl,t3'⟩:=t3.wi
  refine IJ hl λzz hz hl=>hb.x hbd (l:=l.set k u) (m:=m3) hz P3.rm P3.lr P3.at' λm4 q4 t4 lr4 a4=>?_
  obtain⟨q4,rfl,t4'⟩:=t4.wi
  have tt:=(tq.trans t3').trans t4'
  obtain⟨c,l2,P0⟩:=zz
  cases c with
  | next=>exact⟨f,Nat.lt_succ_self f,   .mk (q:=q4) tt (Pre.mk (K:=K.at l2 m4) P.rm lr4 a4) Nc hl⟩
  | ret v=>obtain rfl:=ke hl;exact λx rx=>post m4 q4 tt ⟨P.rm,lr4,a4.inv.QQ,a4.rep⟩ x rx
theorem DU{k:Nat}{go:St->Nat->Option (Option V)}{b:List V->St->JC}{n:Nat}{l:List V}(h:cQ k go b n 0 l st=some r):∃w,go st 0=some w:=by
 cases n with
 | zero=>exact nS h
 | succ n=>exact IJ h λw hw J=>⟨w,hw⟩
theorem sU{e:Expr}(h:Me e=true)(env:Env)(v:Value):foldedSetIterable e env v=pure v:=by cases e <;> first | rfl | exact JA h
theorem sE(H:Ok C)(hs0:C.hs=true)(hi:IQ C i)(hb:Kt C b):dD C (.for k i b):=λs0 hc K st p r Q hv P post=>aEl hc λh1 h2=>aEl h2 λh2 h3=>IJ hv λw hw hl=>by
 obtain⟨w0,h0⟩:=DU hl
 refine wpAny_For (hi _ h1 hw P λy q t a ry=>iX a ry h0 λo hfr Kz=>?_) λJ=>sU (bf i h1) _ _
 exact pf (p:=q.mv (q.s.heap.push o) q.s.toks q.ad q.φ) (IT:=Q3 y) H hb (km h2) h3 (λtq a' hI hw h0 h1=>iW (P.rm hs0).h a' (tq.vr (To.h.vr ry)) hI hw h0 h1) hl ⟨P.rm,(P.to t a).lr,a.inv.addUp o hfr,a.rep⟩ Kz λm' q' t' P'=>post m' q' ((t.trans .h).trans t') P'
noncomputable def RgR(n:Int)(j:Nat)(o:Obj):Prop:=o={ cls:=.type "range_iterator",dict:=none,data:=.fields #[rawInt j,rawInt ((n.toNat:Int) - j),rawInt 1],slots:=#[]}
theorem p6(H:Ok C)(hs0:C.hs=true)(hi:IQ C i)(hb:Kt C b):dD C (.forR k i b):=λs0 hc K st p r Q hv P post=>aEl hc λh1 h2=>aEl h2 λh2 h3=>aEl h3 λh3 h4=>IJ hv λw hw hl=>IJ hl λN hN hl=>IJ hl λJ hb1 hl=>Km hb1 λPC J=>aEl PC λh5 h6=>by
 have h5:=km h5
 have h6:=km h6
 refine wpAny_For (eG H h3 (by simp) (id:=.type "range") (by boot_by_name) (by decide) P.at' [_] ?_) (by intro _;rfl)
 (refine(jg (bf i h1))▸?_)
 refine PySem.callWith_type rfl (Calls.evalArgs_plain (Calls.spliced_cons (hi _ h1 hw P λy q t a ry=>Calls.spliced_nil ?_)))
 cases ry.int hN with | mk tN=>
 refine call_range_1 (wpAny_pyIter_range (IsRange.new ..) (small_one (by decide) (by decide) (by omega) (by omega)) ?_)
 have hsz:Builtin.Range.rangeSize 0 N 1=(N.toNat:Int):=by rw[rangeSize_one];split <;> omega
 (refine(hsz)▸?_)
 have a1:=a.push (t0:=q.s.toks+2) { cls:=.type "range",data:=.fields #[.int 0 q.s.toks,.int N tN,.int 1 (q.s.toks+1)]}
 refine pf (p:=(q.mv (q.s.heap.push _) _ q.ad q.φ).mv ((q.s.heap.push _).push _) _ q.ad q.φ) (go:=dY N) (IT:=RgR N) H hb (km h2) h4 ?_ hl ⟨P.rm,(P.to t a).lr,a1.inv.addUp _ rfl,a1.rep⟩ (show _=_ by simp) λm' q' t' P'=>post m' q' (((t.trans .h).trans .h).trans t') P'
 intro X Q q' m st o j w tq a' hI hw h0 h1
 obtain rfl:=hI
 have hit:=a'.inv.L3.1
 obtain rfl:=ke hw
 by_cases J5:(j:Int) < N
 ·rw[if_pos J5]at h0 h1
  refine wpAny_pyNext_range_item hit (by omega) λh' PA NA=>h1 _ rfl h' _ _ _ PA ?_ NA (dk.mk _)
  unfold RgR
  rw[show(N.toNat:Int) - (j:Int) - 1=(N.toNat:Int) - ((j+1:Nat):Int) from by omega];rfl
 ·rw[if_neg J5]at h0
  exact wpAny_pyNext_range_end (P.rm hs0).h hit (by omega) (h0 rfl)
end
end
section
open PySem PySem.W PySem.Calls PyProof.Rows
theorem IE.get'{α β:Type}{R:α->β->Prop}{l:List α}{k:List β}{b:β}(x:IE R l k){i:Nat}(h:k[i]?=some b):∃a,l[i]?=some a/\R a b:=x.flip.get h
theorem oT{β:Type}{ex:β}{normal:List Zs}{f:Zs×Value->List (Zs×Value)×β->Sem (ForInStep (List (Zs×Value)×β))}(hf:∀p acc,p.1∈normal->acc.lookup p.1=none->f p (acc,ex)=pure (.yield (acc++[p],ex))) :
  ∀(kws acc:List (Zs×Value)),(∀p∈kws,p.1∈normal/\acc.lookup p.1=none)->(kws.map (·.1)).Nodup->(forIn kws (acc,ex) f:Sem _)=pure (acc++kws,ex)
 | [],acc,_,_=>by simp
 | p::kws,acc,h,nd=>by
  (rewrite[List.forIn_cons];refine(hf p acc (h p (.head _)).1 (h p (.head _)).2)▸?_;rw[pure_bind])
  rw[List.map_cons,List.nodup_cons]at nd
  have:=oT hf kws (acc++[p]) (λq hq=>⟨(h q (.tail _ hq)).1,by
   (rewrite[List.lookup_append];refine((h q (.tail _ hq)).2).symm▸?_)
   have Kg:(q.1==p.1)=false:=by
    rw[beq_eq_false_iff_ne]
    intro e
    exact nd.1 (e▸List.mem_map_of_mem hq)
   have QI:¬ q.1=p.1:=by simpa using Kg
   simp[QI]⟩) nd.2
  simpa using this
theorem lP{f:Zs×Value->List (Zs×Value)->Sem (ForInStep (List (Zs×Value)))}(hf:∀p acc,f p acc=pure (.yield (if (acc.lookup p.1).isNone then acc++[p] else acc))) :
  ∀(ds acc:List (Zs×Value)),(forIn ds acc f:Sem _)=pure (ds.foldl (λacc p=>if (acc.lookup p.1).isNone then acc++[p] else acc) acc)
 | [],acc=>by simp
 | p::ds,acc=>by
  (rewrite[List.forIn_cons];refine(hf p acc)▸?_;rewrite[pure_bind];refine(List.foldl_cons).symm▸?_)
  exact lP hf ds _
theorem wZ{α:Type}{o:Option α}(h:o.isSome=true):¬ o.isNone=true:=by cases o with | none=>cases h | some=>exact Bool.false_ne_true
noncomputable def eI(names:List Zs)(xs:List Value)(kws:List (Zs×Value))(ds:List Value):List (Zs×Value):=
 let d:=ds.drop (ds.length - names.length)
 ((names.drop (names.length - d.length)).zip d).foldl (λacc p=>if (acc.lookup p.1).isNone then acc++[p] else acc) (names.zip xs++kws)
noncomputable def Dl(fd:FuncData)(args:List Arg):FuncData:={ fd with params:=⟨[],args,none,[],fd.params.kw_defaults,none,fd.params.defaults⟩}
theorem nK{s:Shared}{fd:FuncData}{args:List Arg}{xs:List Value}{kws:List (Zs×Value)}{oi:Option (Array Value)}
  (hd:∀(M:Model)(A:Around)(E:Value->Shared->Prop)(Q:Option (Array Value)->Shared->Prop),Q oi s->wpAny M A (seqItems? fd.defaults) Q E s)
  (hlen:xs.length<=(args.map (·.arg)).length) (QK:∀p∈kws,p.1∈args.map (·.arg)/\((args.map (·.arg)).zip xs).lookup p.1=none) (nd:(kws.map (·.1)).Nodup)
  (OI:∀x∈(args.map (·.arg)).take ((args.map (·.arg)).length - ((oi.getD #[]).toList.drop ((oi.getD #[]).toList.length - (args.map (·.arg)).length)).length),(((args.map (·.arg)).zip xs++kws).lookup x).isSome=true) :
  BindsTo s (Dl fd args) ⟨xs,kws⟩ ((args.map (·.arg)).filterMap λx=>((eI (args.map (·.arg)) xs kws (oi.getD #[]).toList).lookup x).map (x,·)):=by
 intro M A E Q hq
 refine wpAny_bind (m:=forIn kws _ _) (wpAny_of_eq (oT (normal:=args.map (·.arg)) (λp acc h1 h2=>?_) kws _ QK nd) ?_)
 ·exact(if_pos (Bool.or_eq_true_iff.mpr (.inl (List.contains_iff_mem.mpr h1)))).trans (if_neg (by rw[h2];exact Bool.false_ne_true))
 refine wpAny_bind (m:=seqItems? _) (hd _ _ _ _ ?_)
 refine wpAny_ite (KPc.ite_no (λh=>?_) ?_)
 ·exact Nat.not_lt_of_le hlen (km (ma h).1)
 refine wpAny_ite (KPc.ite_no (λh=>Bool.false_ne_true ((kh (λl:List Zs=>!l.isEmpty) (List.filter_eq_nil_iff.mpr λx hx=>wZ (OI x hx))).symm.trans h)) ?_)
 refine wpAny_bind (wpAny_of_eq (lP (λp acc=>(apply_ite (λz=>(pure (ForInStep.yield z):Sem _)) _ _ _).symm) _ _) ?_)
 refine wpAny_bind (wpAny_pure (wpAny_pure ?_))
 show Q (List.filterMap _ (args.map (·.arg)++[])) s
 rw[mh];exact hq
theorem zl{P:Arguments}(hp:P.posonlyargs=[])(hv:P.vararg=none)(hk:P.kwonlyargs=[])(OK:P.kwarg=none):P=⟨[],P.args,none,[],P.kw_defaults,none,P.defaults⟩:=by
 refine(show P=Arguments.mk P.posonlyargs P.args P.vararg P.kwonlyargs P.kw_defaults P.kwarg P.defaults from by cases P;rfl).trans ?_
 rw[hp,hv,hk,OK]
theorem xh{fd:FuncData}(hp:fd.params.posonlyargs=[])(hv:fd.params.vararg=none)(hk:fd.params.kwonlyargs=[])(OK:fd.params.kwarg=none):fd=Dl fd fd.params.args:=
 kh (λp=>{ fd with params:=p}) (zl hp hv hk OK)
theorem lY{s:Shared}{fd:FuncData}{xs:List Value}{kws:List (Zs×Value)}{oi:Option (Array Value)}(N:List Zs)(hN:fd.params.args.map (·.arg)=N)
  (hp:fd.params.posonlyargs=[]) (hv:fd.params.vararg=none) (hk:fd.params.kwonlyargs=[]) (OK:fd.params.kwarg=none)
  (hd:∀(M:Model)(A:Around)(E:Value->Shared->Prop)(Q:Option (Array Value)->Shared->Prop),Q oi s->wpAny M A (seqItems? fd.defaults) Q E s)
  (hlen:xs.length<=N.length) (QK:∀p∈kws,p.1∈N/\(N.zip xs).lookup p.1=none) (nd:(kws.map (·.1)).Nodup)
  (OI:∀x∈N.take (N.length - ((oi.getD #[]).toList.drop ((oi.getD #[]).toList.length - N.length)).length),((N.zip xs++kws).lookup x).isSome=true) :
  BindsTo s fd ⟨xs,kws⟩ (N.filterMap λx=>((eI N xs kws (oi.getD #[]).toList).lookup x).map (x,·)):=by
 subst hN
 exact(kh (λx=>BindsTo s x ⟨xs,kws⟩ _) (xh hp hv hk OK)).mpr (nK hd hlen QK nd OI)
theorem vl{s:Shared}{T:Addr}{o:Obj}{items:Array Value}{n:Nat}(ho:s.heap.get? T=some o)(hs:o.data=.seq items n)(M:Model)(A:Around)(E:Value->Shared->Prop)(Q:Option (Array Value)->Shared->Prop)(h:Q (some items) s) :
  wpAny M A (seqItems? (.ref T)) Q E s:=wpAny_seqItems ho hs h
theorem rg{s:Shared}(M:Model)(A:Around)(E:Value->Shared->Prop)(Q:Option (Array Value)->Shared->Prop)(h:Q none s):wpAny M A (seqItems? .none) Q E s:=wpAny_pure h
structure FD where
 name:Zs
 qual:Zs
 params:Arguments
 body:List Stmt
 scope:Scope
 dV:Value
 kV:Value
 doc:Value
 pm:Value
 cdv:Value
 ct:Value
 oc:Value
 an:Option Addr
 od:Option Addr
 osl:Array (Option Value)
noncomputable abbrev FD.fd(d:FD):FuncData:=fnOf d.name d.qual d.params d.body d.scope d.dV d.kV d.doc d.pm d.an d.cdv d.ct
noncomputable abbrev FD.ps(d:FD):List Zs:=d.params.args.map (·.arg)
abbrev FD.Ok(K:Frag)(f:Addr)(d:FD):Prop:=
 K.lookup f=some ⟨d.oc,d.od,.func d.fd,d.osl⟩/\
 codeIn K d.cdv d.qual=true/\
 d.params.posonlyargs=[]/\
 d.params.vararg=none/\
 d.params.kwonlyargs=[]/\
 d.params.kwarg=none/\
 d.scope.isCoroutine=false/\
 d.scope.isGenerator=false/\
 d.scope.kind=.function
abbrev FD.Pl(d:FD):Prop:=(∀x∈d.scope.names,x.2≠.cell)/\(∀y∈d.ps,d.scope.names.lookup y=some .local)
section
variable{K:Frag}{f:Addr}{d:FD}(zz:FD.Ok K f d)
def FD.Ok.here:=zz.1
def FD.Ok.cd:=zz.2.1
def FD.Ok.po:=zz.2.2.1
def FD.Ok.va:=zz.2.2.2.1
def FD.Ok.ko:=zz.2.2.2.2.1
def FD.Ok.ka:=zz.2.2.2.2.2.1
def FD.Ok.co:=zz.2.2.2.2.2.2.1
def FD.Ok.ge:=zz.2.2.2.2.2.2.2.1
def FD.Ok.ki:=zz.2.2.2.2.2.2.2.2
end
theorem gX{prog:Program}{w:World}{A:Around}{E:Value->Shared->Prop}{s:Shared}{env:Env}{o:Expr}{name:Zs}{apos pos:Pos}{args:List Expr}{kws:List Keyword}{Q:Value->Shared->Prop}
  (hbase:attributeBase o name env (eval o env)=eval o env) (hform:methodCallForm (args.length+kws.length) (backTo pos (starEach args env)) (backToKw pos (keywordEach kws env))=true) (hline:(apos.endLine==pos.line)=true)
  (h:wpAny (model prog w) A (eval o env) (λov Js=>∀pl,wpAny (model prog w) A (getMethod ov name pl) (λfx JU=>wpAny (model prog w) A (callWith pos fx.1 fx.2 (backTo pos (starEach args env)) (backToKw pos (keywordEach kws env))) Q E JU) E Js) E s) :
  wpAny (model prog w) A (eval (.Call (.Attribute o name apos) args kws pos) env) Q E s:=by
 rw[show eval (.Call (.Attribute o name apos) args kws pos) env=(do
  let ov <- attributeBase o name env (eval o env)
  standAt apos.atName
  methodCall o name apos pos env ov (args.length+kws.length) (backTo pos (starEach args env)) (backToKw pos (keywordEach kws env))) from rfl,hbase]
 refine wpAny_bind (wpAny_mono h (λov Js Jv=>?_) λJ J e=>e)
 refine wpAny_bind (wpAny_standAt ?_)
 have Pw:methodCallPos true o env apos pos=pure pos:=by unfold methodCallPos;simp[hline]
 unfold methodCall
 (refine(hform)▸?_)
 refine wpAny_bind (wpAny_holding (wpAny_mono (Jv _) (λfx JU J7=>?_) λJ J e=>e))
 exact wpAny_bind (wpAny_of_eq Pw J7)
theorem eh{β:Type}{x:Zs}{v:β}:∀{l:List (Zs×β)},(x,v)∈l->(∀p∈l,p.1=x->p.2=v)->l.lookup x=some v
 | p::l,h,hu=>by
  rw[List.lookup_cons]
  cases hq:(x==p.1) with
  | true=>
   have:=hu p (.head _) (by simpa using Eq.symm (by simpa using hq))
   simp[this]
  | false=>
   rcases kq h with rfl | h
   ·simp at hq
   ·exact eh h λq hq=>hu q (.tail _ hq)
theorem lG{β:Type}(x:Zs)(ds:List (Zs×β)):∀(acc:List (Zs×β)),(ds.foldl (λacc p=>if (acc.lookup p.1).isNone then acc++[p] else acc) acc).lookup x=(acc.lookup x).or (ds.lookup x):=by
 induction ds with
 | nil=>exact λacc=>Option.or_none.symm
 | cons p ds ih=>
  intro acc
  rw[List.foldl_cons,ih,List.lookup_cons]
  have e1:[p].lookup x=match x==p.1 with | true=>some p.2 | false=>none:=by rw[List.lookup_cons];rfl
  cases ha:acc.lookup p.1 with
  | none=>
   rw[show(if (none:Option β).isNone=true then acc++[p] else acc)=acc++[p] from rfl,List.lookup_append,e1,Option.or_assoc]
   cases x==p.1 <;> rfl
  | some v=>
   rw[show(if (some v).isNone=true then acc++[p] else acc)=acc from rfl]
   cases hq:x==p.1 with
   | true=>rw[lf hq,ha];rfl
   | false=>rfl
theorem dp{β:Type}:∀{N:List Zs}{zs:List β}{i:Nat}{x:Zs},N.Nodup->N[i]?=some x->(N.zip zs).lookup x=zs[i]?
 | [],_,_,_,_,h=>by simp at h
 | a::N,[],i,x,_,_=>by simp
 | a::N,z::zs,0,x,_,h=>by simp at h;subst h;simp
 | a::N,z::zs,i+1,x,nd,h=>by
  rw[List.nodup_cons]at nd
  simp only[List.getElem?_cons_succ]at h
  have Kg:(x==a)=false:=by
   rw[beq_eq_false_iff_ne]
   rintro rfl
   exact nd.1 (ly h)
  (refine(List.zip_cons_cons)▸?_;rewrite[List.lookup_cons];refine(Kg)▸?_)
  simpa using dp nd.2 h
theorem dL{α β:Type}{f:α->Option β}:∀{l:List α}{r:List β},l.mapM f=some r->IE (λa b=>f a=some b) l r
 | [],r,h=>by simp at h;subst h;exact .nil
 | a::l,r,h=>by
  rw[List.mapM_cons]at h
  refine KJ λhG=>?_
  obtain⟨b,hb,h⟩:=lZ (show(f a).bind _=_ from h)
  obtain⟨bs,NX,h⟩:=lZ (show(l.mapM f).bind _=_ from h)
  refine hG ?_
  clear hG
  obtain rfl:=ke h
  exact .cons hb (dL NX)
theorem dR:∀{l:List Nat},dT l=true->l.Nodup
 | [],_=>.nil
 | a::l,h=>by
  have h':(!l.contains a&&dT l)=true:=h
  rw[Bool.and_eq_true]at h'
  rw[List.nodup_cons]
  exact⟨by simpa using h'.1,dR h'.2⟩
theorem gW{N:List Zs}(nd:N.Nodup){i j:Nat}{x:Zs}(hi:N[i]?=some x)(hj:N[j]?=some x)(h:i < j):False:=
 (List.pairwise_iff_getElem.mp nd) _ _ (kj hi).1 (kj hj).1 h ((kj hi).2.trans (kj hj).2.symm)
theorem iV{R:V->Value->Prop}{ps:List Zs}(nd:ps.Nodup){i:Nat}{x:Zs}(hx:ps[i]?=some x){kw:List (Nat×V)}:∀{ys:List Value},(∀p∈kw,p.1 < ps.length)->IE R (kw.map (·.2)) ys->
  (match kw.lookup i with | some v=>∃y,((aA ps kw).zip ys).lookup x=some y/\R v y | none=>((aA ps kw).zip ys).lookup x=none):=by
 induction kw with
 | nil=>exact λ_ _=>rfl
 | cons p kw ih=>
  intro ys J5 h
  cases h with
  | cons r q=>
   have hk:=J5 p (.head _)
   have ih:=ih (λp hp=>J5 p (.tail _ hp)) q
   rw[List.lookup_cons,show aA ps (p::kw)=ps[p.1]::aA ps kw from kh (·::_) (kh (·.getD "") (kx hk)),List.zip_cons_cons,List.lookup_cons]
   cases e:i==p.1 with
   | true=>
    have hq:x=ps[p.1]:=ke (hx.symm.trans (lf e▸kx hk))
    rw[beq_iff_eq.mpr hq];exact⟨_,rfl,r⟩
   | false=>
    rw[beq_eq_false_iff_ne.mpr λe':x=ps[p.1]=>?_];exact ih
    have h2:=e'▸hx
    exact(Nat.lt_or_gt_of_ne (beq_eq_false_iff_ne.mp e)).elim (λh=>gW nd h2 (kx hk) h) λh=>gW nd (kx hk) h2 h
theorem ei{ps:List Zs}(nd:ps.Nodup):∀{kw:List (Nat×V)},(∀p∈kw,p.1 < ps.length)->(kw.map (·.1)).Nodup->(aA ps kw).Nodup
 | [],_,_=>.nil
 | p::kw,J5,hn=>by
  rw[List.map_cons,List.nodup_cons]at hn
  show((ps[p.1]?).getD "" :: aA ps kw).Nodup
  rw[List.nodup_cons]
  refine⟨λNW=>?_,ei nd (λq hq=>J5 q (.tail _ hq)) hn.2⟩
  obtain⟨q,hq,e⟩:=List.mem_map.mp NW
  have h1:=J5 p (.head _)
  have h2:=J5 q (.tail _ hq)
  rw[kx h1,kx h2]at e
  simp only[Option.getD_some]at e
  have Kg:p.1≠q.1:=λe=>hn.1 (e▸List.mem_map_of_mem hq)
  rcases Nat.lt_or_gt_of_ne Kg with h | h
  ·exact(List.pairwise_iff_getElem.mp nd) _ _ h1 h2 h e.symm
  ·exact(List.pairwise_iff_getElem.mp nd) _ _ h2 h1 h e
theorem IE.Pk{α β γ:Type}{R:γ->β->Prop}{f:α->γ}{l:List α}{k:List β}(h:IE R (l.map f) k):l.length=k.length:=by (refine(h.length)▸?_;rw[lg])
theorem qY{N:List Zs}{g:Zs->Option Value}{nm:Zs}{y:Value}(hm:nm∈N)(hy:g nm=some y):(N.filterMap λx=>(g x).map (x,·)).reverse.lookup nm=some y:=by
 refine eh ?_ λp hp e=>?_
 ·rw[List.mem_reverse,List.mem_filterMap]
  exact⟨nm,hm,by (refine(hy)▸?_);rfl⟩
 ·rw[List.mem_reverse,List.mem_filterMap]at hp
  refine KJ λhG=>?_
  obtain⟨z,_,hz⟩:=hp
  obtain⟨w,hw,rfl⟩:=jF hz
  refine hG ?_
  clear hG
  dsimp only at e
  subst e
  rw[hy]at hw;exact(ke hw).symm
theorem xP{f:Fn}{pos:List V}{kw:List (Nat×V)}{vs:List V}(hl:aM f pos kw=some vs){P:Prop}(post:pos.length<=f.Jg->(∀p∈kw,pos.length<=p.1/\p.1 < f.Jg)->(kw.map (·.1)).Nodup->vs.length=f.Jg->(∀(i:Nat)(v:V),vs[i]?=some v->i < f.Jg/\ir f pos kw i=some v)->P):P:=by
 unfold aM at hl
 cases hc:(decide (pos.length<=f.Jg)&&kw.all (λp=>decide (pos.length<=p.1)&&decide (p.1 < f.Jg))&&dT (kw.map (·.1))) with
 | false=>rw[hc]at hl;exact nS hl
 | true=>
  rw[hc,cond_true]at hl
  refine aEl hc λh1 h3=>aEl h1 λh1 h2=>?_
  have hM:=dL hl
  refine post (km h1) (λp hp=>aEl (mc h2 p hp) λa b=>⟨km a,km b⟩) (dR h3) (hM.length.symm.trans List.length_range) λi v hv=>?_
  obtain⟨a,ha,e⟩:=hM.get' hv
  rw[List.getElem?_range (hM.length.symm.trans List.length_range▸(kj hv).1)]at ha
  exact⟨hM.length.symm.trans List.length_range▸(kj hv).1,ke ha▸e⟩
theorem tZ{N:List Zs}(nd:N.Nodup){ds:List Value}{j:Nat}{nm:Zs}(h:N[j]?=some nm)(hd:ds.length<=N.length):((N.drop (N.length - ds.length)).zip ds).lookup nm=if N.length<=j+ds.length then ds[j+ds.length - N.length]? else none:=by
 split
 ·next hle=>
  refine dp (i:=j+ds.length - N.length) (nd.sublist (List.drop_sublist _ _)) ?_
  rw[List.getElem?_drop,<- h]
  exact kh (N[·]?) ((Nat.add_comm _ _).trans ((Nat.sub_add_sub_cancel hle hd).trans (Nat.add_sub_cancel ..)))
 ·next hle=>
  cases hq:((N.drop (N.length - ds.length)).zip ds).lookup nm with
  | none=>rfl
  | some y=>
   obtain⟨l1,l2,e,_⟩:=List.lookup_eq_some_iff.mp hq
   have hm:(nm,y)∈((N.drop (N.length - ds.length)).zip ds):=e▸List.mem_append_right l1 (.head _)
   obtain⟨q,hq⟩:=List.getElem?_of_mem (List.of_mem_zip hm).1
   rw[List.getElem?_drop]at hq
   exact(gW nd h hq (li (Nat.lt_sub_of_add_lt (Nat.lt_of_not_le hle)) (lw _ _))).elim
section
variable{R:V->Value->Prop}{f:Fn}{N:List Zs}{pos:List V}{kw:List (Nat×V)}{xs ys ds:List Value}
theorem kX(nd:N.Nodup){i:Nat}{nm:Zs}(h:N[i]?=some nm):(N.zip xs++(aA N kw).zip ys).lookup nm=(xs[i]?).or (((aA N kw).zip ys).lookup nm):=by
 rw[List.lookup_append,dp nd h]
theorem za(nd:N.Nodup)(OK:∀p∈kw,pos.length<=p.1/\p.1 < N.length)(hx:IE R pos xs){p:Zs×Value}(hp:p∈(aA N kw).zip ys):p.1∈N/\(N.zip xs).lookup p.1=none:=by
 refine KJ λhG=>?_
 obtain⟨q,hq,e⟩:=List.mem_map.mp (List.of_mem_zip hp).1
 obtain⟨ha,hb⟩:=OK q hq
 rw[kx hb,Option.getD_some]at e
 have hidx:N[q.1]?=some p.1:=e▸kx hb
 exact hG ⟨ly hidx,(dp nd hidx).trans (List.getElem?_eq_none (hx.length▸ha))⟩
theorem rp(nd:N.Nodup)(NU:f.Jg=N.length)(OK:∀p∈kw,pos.length<=p.1/\p.1 < N.length)(hx:IE R pos xs)(hy:IE R (kw.map (·.2)) ys)(hdn:f.dflt.length=ds.length){j:Nat}{x:Zs}{v:V}(hj:N[j]?=some x)(hjl:j < N.length - ds.length)(ha:ir f pos kw j=some v):((N.zip xs++(aA N kw).zip ys).lookup x).isSome=true:=by
 rw[kX nd hj]
 unfold ir at ha
 rw[show decide (f.Jg<=j+f.dflt.length)=false from decide_eq_false (Nat.not_le_of_lt (NU▸hdn▸Nat.add_lt_of_lt_sub hjl)),cond_false,Option.or_none]at ha
 refine LW ha (λhp=>?_) λhk=>?_
 ·obtain⟨y,Pp,_⟩:=hx.get hp
  rw[Pp];rfl
 ·have:=iV nd hj (λp hp=>(OK p hp).2) hy
  rw[hk]at this
  obtain⟨y,Pp,_⟩:=this
  rw[Pp]
  cases xs[j]? <;> rfl
theorem vK(nd:N.Nodup)(NU:f.Jg=N.length)(OK:∀p∈kw,pos.length<=p.1/\p.1 < N.length)(hx:IE R pos xs)(hy:IE R (kw.map (·.2)) ys)(hd:IE (λb=>R (.b b)) f.dflt ds)(hdl:ds.length<=N.length){i:Nat}{nm:Zs}{v:V}(Ng:N[i]?=some nm)(ha:ir f pos kw i=some v):∃y,(eI N xs ((aA N kw).zip ys) ds).lookup nm=some y/\R v y:=by
 have hdn:=hd.length
 unfold eI
 rw[show ds.drop (ds.length - N.length)=ds from by rw[Nat.sub_eq_zero_of_le hdl];rfl,lG,kX nd Ng]
 refine KJ λno=>?_
 unfold ir at ha
 cases hpi:pos[i]? with
 | some w=>
  rw[hpi]at ha;obtain rfl:=ke ha
  obtain⟨y,Pp,ry⟩:=hx.get hpi
  exact no ⟨y,by rw[Pp];rfl,ry⟩
 | none=>
  rw[hpi,Option.none_or]at ha
  rw[show xs[i]?=none from by rw[List.getElem?_eq_none_iff]at hpi ⊢;exact hx.length▸hpi,Option.none_or]at no
  have hk:=iV nd Ng (λp hp=>(OK p hp).2) hy
  cases hki:kw.lookup i with
  | some w=>
   rw[hki]at ha hk;obtain rfl:=ke ha
   obtain⟨y,Pp,ry⟩:=hk
   exact no ⟨y,by rw[Pp];rfl,ry⟩
  | none=>
   rw[hki]at ha hk
   rw[hk,Option.none_or,tZ nd Ng hdl,<- NU,<- hdn]at no
   rw[Option.none_or]at ha
   cases hde:decide (f.Jg<=i+f.dflt.length) with
   | false=>rw[hde]at ha;exact nS ha
   | true=>
    rw[hde,cond_true]at ha
    rw[if_pos (km hde)]at no
    obtain⟨b,hb,rfl⟩:=jF ha
    obtain⟨y,Pp,ry⟩:=hd.get hb
    exact no ⟨y,Pp,ry⟩
end
theorem qK{R:V->Value->Prop}{f:Fn}{N:List Zs}(NU:f.Jg=N.length)(nd:N.Nodup){pos:List V}{kw:List (Nat×V)}{vs:List V}{xs ys ds:List Value}
  (hl:aM f pos kw=some vs) (hx:IE R pos xs) (hy:IE R (kw.map (·.2)) ys) (hd:IE (λb=>R (.b b)) f.dflt ds) (hdl:f.dflt.length<=f.Jg) {P:Prop}
  (post:xs.length<=N.length->(∀p∈(aA N kw).zip ys,p.1∈N/\(N.zip xs).lookup p.1=none)->(((aA N kw).zip ys).map (·.1)).Nodup->
  (∀x∈N.take (N.length - (ds.drop (ds.length - N.length)).length),((N.zip xs++(aA N kw).zip ys).lookup x).isSome=true)->vs.length=f.Jg->
  (∀(i:Nat)(v:V),vs[i]?=some v->∃nm y,N[i]?=some nm/\(eI N xs ((aA N kw).zip ys) ds).lookup nm=some y/\R v y)->P):P:=by
 refine xP hl λh1 h2 h3 h4 h5=>?_
 rw[NU]at h1 h2
 have hdl':ds.length<=N.length:=hd.length▸NU▸hdl
 refine post (hx.length▸h1) (λp hp=>za nd h2 hx hp) ?_ (λx hxm=>?_) h4 λi v hv=>?_
 ·rw[show(((aA N kw).zip ys).map (·.1))=aA N kw from List.map_fst_zip (lx ((lg _).trans hy.Pk))]
  exact ei nd (λp hp=>(h2 p hp).2) h3
 ·rw[show ds.drop (ds.length - N.length)=ds from by rw[Nat.sub_eq_zero_of_le hdl'];rfl]at hxm
  obtain⟨j,hj⟩:=List.getElem?_of_mem hxm
  have hjl:=(kj hj).1
  rw[List.length_take]at hjl
  rw[List.getElem?_take_of_lt (li hjl (Nat.min_le_left _ _))]at hj
  have hv:=kx (l:=vs) (i:=j) (h4▸NU▸(kj hj).1)
  exact rp nd NU h2 hx hy hd.length hj (li hjl (Nat.min_le_left _ _)) (h5 j _ hv).2
 ·obtain⟨hi,ha⟩:=h5 i v hv
  have Ng:=kx (l:=N) (i:=i) (NU▸hi)
  obtain⟨y,e,r⟩:=vK nd NU h2 hx hy hd hdl' Ng ha
  exact⟨_,y,Ng,e,r⟩
theorem eW{M:Model}{A:Around}{E:Value->Shared->Prop}{s:Shared}{f:Value}{args:List (Bool×Sem Value)}{keywords:List (Option Zs×Sem Value)}{Q:Args->Shared->Prop}(ha:args.all (λx=>!x.1)=true)
  (hall:keywords.all (·.1.isSome)=true)
  (h:wpAny M A (spliced args) (λvs Js=>wpAny M A (evalAll (keywords.map (·.2))) (λks JU=>Q ⟨vs,(keywords.filterMap (·.1)).zip ks⟩ JU) E Js) E s) :
  wpAny M A (evalArgs f true args keywords) Q E s:=by
 cases args with
 | cons p rest=>
  obtain⟨b,x⟩:=p
  cases b with
  | false=>exact evalArgs_kw hall h
  | true=>exact JA ha
 | nil=>
  unfold evalArgs
  show wpAny M A (spliced [] >>= _) Q E s
  refine wpAny_bind (wpAny_mono h (λvs Js Jv=>?_) λJ J x=>x)
  refine wpAny_bind (wpAny_pure (wpAny_holding ?_))
  simp only[hall,if_true]
  refine wpAny_bind (wpAny_mono Jv (λks JU J7=>?_) λJ J x=>x)
  exact wpAny_bind (wpAny_pure (wpAny_pure J7))
noncomputable def wx(K:Frag)(P:Params)(l:List B)(dV:Value):Prop:=
 (l=[]/\dV=.none)∨∃T o items k,dV=.ref T/\K.lookup T=some o/\o.data=.seq items k/\IE (LK P []) l items.toList
theorem je{K:Frag}{P:Params}{s:Shared}(Q0:K.In s.heap){f:Fn}{a:Addr}{d:FD}(D:FD.Ok K a d){N:List Zs}(hN:d.ps=N)(hnp:f.Jg=N.length)(nd:N.Nodup)(hdl:f.dflt.length<=f.Jg)(hdf:wx K P f.dflt d.dV)
  {R:V->Value->Prop} (hR:∀b y,LK P [] b y->R (.b b) y) {pos:List V} {kw:List (Nat×V)} {vs:List V} {xs ys:List Value} (hl:aM f pos kw=some vs) (rx:IE R pos xs) (ry:IE R (kw.map (·.2)) ys) :
  ∀{G:Prop},(∀binds,BindsTo s d.fd ⟨xs,(aA N kw).zip ys⟩ binds->(∀y∈binds,y.1∈d.ps)->vs.length=f.Jg->(∀(i:Nat)(v:V),vs[i]?=some v->∃nm y,N[i]?=some nm/\binds.reverse.lookup nm=some y/\R v y)->G)->G:=by
 intro G post
 obtain⟨oi,hd,hdf⟩:∃oi:Option (Array Value),IE (λb=>R (.b b)) f.dflt (oi.getD #[]).toList/\∀(M:Model)(A:Around)(E:Value->Shared->Prop)(Q:Option (Array Value)->Shared->Prop),Q oi s->wpAny M A (seqItems? d.fd.defaults) Q E s:=by
  rcases hdf with⟨h1,h2⟩ | ⟨T,o,items,kk,h1,h2,h3,h4⟩
  ·exact⟨none,by (refine(h1)▸?_);exact .nil,λM A E Q h=>by show wpAny M A (seqItems? d.dV) Q E s;(refine(h2)▸?_);exact rg M A E Q h⟩
  ·exact⟨some items,h4.mono λa b r=>hR a b r,λM A E Q h=>by show wpAny M A (seqItems? d.dV) Q E s;(refine(h1)▸?_);exact vl (Q0 _ _ h2) h3 M A E Q h⟩
 refine qK hnp nd hl rx ry hd hdl λb2 b3 b4 b5 b1 b7=>?_
 have hN':d.fd.params.args.map (·.arg)=N:=hN
 have hb:=lY (s:=s) (fd:=d.fd) (xs:=xs) (kws:=(aA N kw).zip ys) (oi:=oi) N hN' D.po D.va D.ko D.ka hdf b2 b3 b4 b5
 refine post _ hb (λy hy=>?_) b1 λi v hv=>?_
 ·obtain⟨z,hz,hz'⟩:=List.mem_filterMap.mp hy
  obtain⟨w,_,rfl⟩:=jF hz'
  (refine(hN)▸?_);exact hz
 ·obtain⟨nm,y,h1,h2,h3⟩:=b7 i v hv
  exact⟨nm,y,h1,qY (ly h1) h2,h3⟩
structure K5(A:Around)(n:Nat):Prop where
 d:A.depth+2*n+1 < recursionLimit
 u:A.units+20*n+10 < cLine
 h:A.handled=none
theorem KA.PZ{A:Around}{n:Nat}(R:KA A n):K5 A n:=⟨Nat.lt_trans (Nat.lt_succ_self _) R.d,lj (me (by decide) _) R.u,R.h⟩
theorem K5.deeper{A:Around}{n:Nat}(R:K5 A (n+1))(e:Env):KA (A.deeper e) n:=by
 obtain⟨a,b,c⟩:=R
 refine⟨?_,?_,c⟩
 ·show A.depth+1+2*n+2 < _;exact L2 [_,_,_] 1 (.a (.a (.a (.a Y0 (.c 1)) (.m 2 Y1)) (.c 2)) (.c 1)) Y2 [(1,(.a (.a (.a Y0 (.m 2 (.a Y1 (.c 1)))) (.c 1)) (.c 1)),Y2)] rfl a
 ·show A.units+3+20*n+20 < _;exact L2 [_,_,_] 1 (.a (.a (.a (.a Y1 (.c 3)) (.m 20 Y0)) (.c 20)) (.c 1)) Y2 [(1,(.a (.a (.a Y1 (.m 20 (.a Y0 (.c 1)))) (.c 10)) (.c 1)),Y2)] rfl b
noncomputable def Fn.sl(f:Fn):List Zs:=f.slots.map PySem.Str.ofString
noncomputable def Fn.ML(f:Fn):List Zs:=bif f.cl then f.sl.tail else f.sl
abbrev FD.Ce(f:Fn)(d:FD):Prop:=∃t r,f.sl=t::r/\0 < f.Jg/\(∀n,cellsFrom n d.scope.names []=[(t,n)])/\d.scope.names.lookup t=some .cell/\(∀x,d.scope.names.lookup x=some .cell->x=t)/\∀y∈d.ps,y=t∨d.scope.names.lookup y=some .local
abbrev JO(W:Wd)(k:Nat)(f:Fn)(d:FD):Prop:=
 FD.Ok W.Y.K (W.Y.fn k) d/\
 d.ps=W.Y.pn k/\
 f.Jg=(W.Y.pn k).length/\
 f.sl.Nodup/\
 (∀x∈f.ML,d.scope.names.lookup x=some .local/\(x==("__debug__" : Zs))=false)/\
 f.sl.take f.Jg=W.Y.pn k/\
 f.dflt.length<=f.Jg/\
 wx W.Y.K W.w.params f.dflt d.dV/\
 okB W.Y f.ML d.scope f.body d.body=true/\
 toB W.Y f.ML f.body d.body=d.body/\
 Oo f.body=true/\
 cB f.body=false/\
 ((f.cl=false/\FD.Pl d)∨(f.cl=true/\FD.Ce f d))
section
variable{W:Wd}{k:Nat}{f:Fn}{d:FD}(zz:JO W k f d)
def JO.ok:=zz.1
def JO.pse:=zz.2.1
def JO.Jg:=zz.2.2.1
def JO.nd:=zz.2.2.2.1
def JO.lc:=zz.2.2.2.2.1
def JO.take:=zz.2.2.2.2.2.1
def JO.dle:=zz.2.2.2.2.2.2.1
def JO.dfl:=zz.2.2.2.2.2.2.2.1
def JO.body:=zz.2.2.2.2.2.2.2.2.1
def JO.txt:=zz.2.2.2.2.2.2.2.2.2.1
def JO.wf:=zz.2.2.2.2.2.2.2.2.2.2.1
def JO.bl:=zz.2.2.2.2.2.2.2.2.2.2.2.1
def JO.cls:=zz.2.2.2.2.2.2.2.2.2.2.2.2
end
noncomputable def dU(W:Wd)(fns:List Fn):Prop:=∀(k:Nat)(f:Fn),fns[k]?=some f->∃d,JO W k f d
noncomputable def Cf.of(W:Wd)(c:Cx)(n:Nat)(sl:List Zs)(d:FD)(L f:Addr)(cs:List (Zs×Addr):=[]):Cf:={ toWd:=W,sl:=sl,sc:=d.scope,cn:=d.qual ++ ".<locals>.",L:=L,fa:=some f,fr:=some L,cd:=d.cdv,c:=c,n:=n,hs:=true,cells:=cs}
noncomputable def Bd(W:Wd)(k:Nat)(f:Fn)(φ:Led)(am:AM)(vs:List V)(binds:List (Zs×Value)):Prop:=
 vs.length=f.Jg/\∀(i:Nat)(v:V),vs[i]?=some v->∃nm y,(W.Y.pn k)[i]?=some nm/\binds.reverse.lookup nm=some y/\VR W.Y φ am v y
noncomputable def cN(W:Wd)(c:Cx)(n:Nat):Prop:=∀(C:Cf),C.toWd=W->∀(k:Nat)(f:Fn)(d:FD),c.fns[k]?=some f->JO W k f d->∀{A:Around}{X:Value->Shared->Prop}{Q:Value->Shared->Prop}{m:Zs->Option Value}{st:St}{p:Pt}{vs:List V}{r:V×St}{args:Args}{binds:List (Zs×Value)},
 c.IG k vs st=some r->K5 A n->At C m st p->BindsTo p.s d.fd args binds->(∀y∈binds,y.1∈d.ps)->Bd W k f p.φ p.ad.am vs binds->
 (∀x q,To p q->At C m r.2 q->C.V q r.1 x->Q x q.s)->codeAny C.M A (.call (.ref (W.Y.fn k)) args) (wants Q X) p.s
noncomputable abbrev Pt.ups(p:Pt)(u:dC):Pt:=⟨p.s,p.ad,p.φ,u⟩
section
variable{C:Cf}{K:Bk}{m m':Zs->Option Value}{st II:St}{p q:Pt}{v:V}{x y:Value}{e:Expr}{tk:Tok}{i t o:E}{k:Nat}{A:Around}{X:Value->Shared->Prop}{f:Addr}{d:FD}{G:Prop}
theorem At.back{D:Cf}{oL:Obj}{es:Array DictEntry}{ep:Nat}{u:dC}(hD:D.toWd=C.toWd)(hL:oL.data=.dict es ep)(hs:StrKeys es/\∀name,nsFind es name=m name)(lo:C.hB.objs.size<=C.L)(a:At D m' st q)(hu:KS ((true,C.L,oL)::u) q.up):KS u q.up.tail/\At C m st (q.ups q.up.tail):=by
 obtain⟨s,ad,φ,qu⟩:=q
 revert hu
 generalize hq:(Pt.mk s ad φ qu).up=w
 intro hu
 obtain rfl:=hq
 cases hu with
 | @cons _ y _ up r c=>
 obtain⟨y0,y1,y2⟩:=y
 cases (show y1=C.L from r.a)
 have hd:y2.data=.dict es ep:=r.o.elim (λe=>(kh Obj.data e).trans hL) λ⟨_,sl,e⟩=>(kh Obj.data e).trans hL
 obtain⟨Q8,R⟩:=a
 have eB:D.hB=C.hB:=kh Wd.hB hD
 have nd:=Q8.MH
 refine⟨c,⟨⟨⟨y2,es,ep,Q8.L3.1,hd,hs⟩,eB▸Q8.fr.keep,lo⟩,λz hz=>?_,nd.2,λz hz=>eB▸Q8.lo z (aC.mem_iff.mpr (.tail _ hz))⟩,(kh Wd.Y hD)▸R⟩
 have q:=Q8.nw z (aC.mem_iff.mpr (.tail _ hz))
 exact⟨q.1,λe=>nd.1 (tU hz e),eB▸q.2.2⟩
theorem vE(O:KR C.toWd)(D:FD.Ok C.Y.K f d)(Z:FD.Pl d){R:Result->Shared->Prop}{args:Args}{binds:List (Zs×Value)}(c:Cx)(n:Nat)(sl:List Zs)(a:At C m st p)(OF:A.depth < recursionLimit)(L5:BindsTo p.s d.fd args binds)(hb:∀y∈binds,y.1∈d.ps)
  (h:∀(oL:Obj)(Jv:Heap)(D:Cf),D=Cf.of C.toWd c n sl d p.s.heap.objs.size f->At D (λy=>binds.reverse.lookup y) st ((p.mv Jv (p.s.toks+binds.length) p.ad p.φ).ups ((true,C.L,oL)::p.up))->
   (∀m' II (q:Pt) (u:dC),At D m' II q->KS ((true,C.L,oL)::u) q.up->KS u q.up.tail/\At C m II (q.ups q.up.tail))->
   wpAny C.M (A.deeper D.env) (execs d.body D.env) (λfl s'=>R (.ok (.ret (match fl with | .ret v=>v | _=>.none))) s') (λe s'=>wpAny C.M (A.deeper D.env) (leaving D.env e) (λJ K1=>R (.error e) K1) (λe' K1=>R (.error e') K1) s') { p.s with heap:=Jv,toks:=p.s.toks+binds.length}) :
  codeAny C.M A (.call (.ref f) args) R p.s:=by
 have X:=a.K O
 refine codeAny_call_def (fd:=d.fd) (body:=d.body) (binds:=binds) OF (X _ _ D.here) rfl (O.T.nolimit.keeps a.inv.fr.keep) (codeRec_of X D.cd) rfl L5 Z.1 (λy hy=>Z.2 _ (hb y hy)) (λJv hns J6=>?_) D.co D.ge D.ki
 refine KJ λhG=>?_
 obtain⟨oL,es,ep,hL,hd,hr⟩:=a.inv.fr.ns
 refine hG ?_
 clear hG
 have noL:C.hB.get? C.L=none:=Heap.get?_none_of_le a.inv.fr.above
 refine h oL Jv _ rfl ⟨⟨⟨hns,λb o e=>J6 _ _ (a.inv.fr.keep b o e),a.inv.above⟩,λz hz=>?_,dI.nodup_iff.mpr (List.nodup_cons.mpr ⟨λNW=>(List.mem_map.mp NW).elim λz w=>(a.inv.nw z w.1).2.1 w.2,a.inv.nd⟩),λz hz=>?_⟩,a.rep⟩ (λm' II q u a' hu=>At.back (C:=C) (D:=Cf.of C.toWd c n sl d p.s.heap.objs.size f) rfl hd hr a.inv.fr.above a' hu)
 ·refine(kq (aC.mem_iff.mp hz)).elim (λe=>by subst e;exact⟨J6 _ _ hL,Nat.ne_of_lt (Heap.lt_size hL),noL⟩) λhz=>?_
  have w:=a.inv.nw z hz
  exact⟨J6 _ _ w.1,Nat.ne_of_lt (Heap.lt_size w.1),w.2.2⟩
 ·exact(kq (aC.mem_iff.mp hz)).elim (λe=>by subst e;exact a.inv.fr.above) (a.inv.lo z)
theorem im{k:Zs->Option NameKind}{n:Zs}(h:k n=some .local):∀(b:List (Zs×Value))(m:Zs->Option Value),bindL k b m n=(b.reverse.lookup n).or (m n)
 | [],m=>rfl
 | (a,v)::r,m=>by
  rw[bindL,im h r,List.reverse_cons,List.lookup_append,Option.or_assoc]
  refine kh _ ?_
  by_cases e:n=a
  ·subst e
   rw[if_pos h,if_pos rfl,List.lookup_cons,show(n==n)=true from beq_self_eq_true n]
   rfl
  ·rw[List.lookup_cons,show(n==a)=false from beq_eq_false_iff_ne.mpr e]
   split
   ·exact if_neg e
   ·rfl
theorem io{k:Zs->Option NameKind}{n:Zs}(h:¬ k n=some .local):∀(b:List (Zs×Value))(m:Zs->Option Value),bindC k b m n=(b.reverse.lookup n).or (m n)
 | [],m=>rfl
 | (a,v)::r,m=>by
  rw[bindC,io h r,List.reverse_cons,List.lookup_append,Option.or_assoc]
  refine kh _ ?_
  by_cases e:n=a
  ·subst e
   rw[if_neg h,if_pos rfl,List.lookup_cons,show(n==n)=true from beq_self_eq_true n]
   rfl
  ·rw[List.lookup_cons,show(n==a)=false from beq_eq_false_iff_ne.mpr e]
   split
   ·rfl
   ·exact if_neg e
theorem y5(O:KR C.toWd)(D:FD.Ok C.Y.K f d){t:Zs}(k1:∀n,cellsFrom n d.scope.names []=[(t,n)])(k2:d.scope.names.lookup t=some .cell){R:Result->Shared->Prop}{args:Args}{binds:List (Zs×Value)}(c:Cx)(n:Nat)(sl:List Zs)(a:At C m st p)(OF:A.depth < recursionLimit)(L5:BindsTo p.s d.fd args binds)(hb:∀y∈binds,y.1=t∨d.scope.names.lookup y.1=some .local){x0:Value}(hx:binds.reverse.lookup t=some x0)
  (h:∀(oL:Obj)(Jv:Heap)(tk:Tok)(m1:Zs->Option Value)(oc:Obj)(ca:Addr)(D:Cf),D=Cf.of C.toWd c n sl d p.s.heap.objs.size f [(t,ca)]->oc.data=.cell (some x0)->(∀y v,d.scope.names.lookup y=some .local->binds.reverse.lookup y=some v->m1 y=some v)->
   At D m1 st ((p.mv Jv tk p.ad ((ca,oc)::p.φ)).ups ((true,C.L,oL)::p.up))->
   (∀m' II (q:Pt) (u:dC),At D m' II q->KS ((true,C.L,oL)::u) q.up->KS u q.up.tail/\At C m II (q.ups q.up.tail))->
   wpAny C.M (A.deeper D.env) (execs d.body D.env) (λfl s'=>R (.ok (.ret (match fl with | .ret v=>v | _=>.none))) s') (λe s'=>wpAny C.M (A.deeper D.env) (leaving D.env e) (λJ K1=>R (.error e) K1) (λe' K1=>R (.error e') K1) s') { p.s with heap:=Jv,toks:=tk}) :
  codeAny C.M A (.call (.ref f) args) R p.s:=by
 have X:=a.K O
 have hnl:=O.T.nolimit.keeps a.inv.fr.keep
 have e1:=k1 (p.s.heap.objs.size+1)
 refine codeAny_call_function (fd:=d.fd) (body:=d.body) OF (X _ _ D.here) rfl D.co D.ge rfl (codeRec_of X D.cd) (L5 _ _ _ _ ?_)
 refine wpAny_newFunctionEnv_cells D.ki (λy hy=>(hb y hy).elim (λe=>.inr ⟨e▸k2,?_⟩) .inl) λenv he s' x=>?_
 ·show((cellsFrom (p.s.heap.objs.size+1) d.scope.names []).lookup y.1).isSome=true
  rw[e1,e,List.lookup_cons,show(t==t)=true from beq_self_eq_true t];rfl
 have he:env=(Cf.of C.toWd c n sl d p.s.heap.objs.size f [(t,p.s.heap.objs.size+1)]).env:=he.trans (kh (λcs=>newEnv d.scope p.s.heap.objs.size mainGlobals cs (d.qual ++ ".<locals>.") (some f) d.cdv none builtinsNs) e1)
 subst he
 refine KJ λhG=>?_
 obtain⟨oL,es,ep,hL,hd,hr⟩:=a.inv.fr.ns
 obtain⟨Jv,tk,rfl⟩:=x.toInCall.same
 obtain⟨oc,hoc,hdc⟩:=x.cell t (p.s.heap.objs.size+1) (by show List.lookup t [(t,p.s.heap.objs.size+1)]=_;rw[List.lookup_cons,show(t==t)=true from beq_self_eq_true t])
 refine hG ?_
 clear hG
 have J6:=x.toInCall.keep
 have noL:C.hB.get? C.L=none:=Heap.get?_none_of_le a.inv.fr.above
 have Kg:∀z∈p.ad.led++(p.φ++p.ul),z.1≠p.s.heap.objs.size:=λz hz=>Nat.ne_of_lt (Heap.lt_size (a.inv.nw z hz).1)
 refine⟨hnl.keeps J6,codeAny_func ?_⟩
 refine a.freeze (t0:=tk) (h:=Jv) (o:=oc) (z:=p.s.heap.objs.size+1) (mw _) ⟨⟨oL,es,ep,J6 _ _ hL,hd,hr⟩,λb o e=>J6 _ _ (a.inv.fr.keep b o e),a.inv.fr.above⟩ (λz hz=>(kq hz).elim (λe=>by subst e;exact⟨hoc,Nat.ne_of_gt (Nat.lt_succ_of_lt (Heap.lt_size hL)),Heap.get?_none_of_le (Nat.le_succ_of_le a.inv.above)⟩) λhz=>⟨J6 _ _ (a.inv.nw z hz).1,(a.inv.nw z hz).2⟩) λt' a'=>?_
 have QI:∀z∈p.ad.led++(((p.s.heap.objs.size+1,oc)::p.φ)++p.ul),z.1≠p.s.heap.objs.size:=λz hz=>(kq (List.perm_middle.mem_iff.mp hz)).elim (λe=>by subst e;exact Nat.succ_ne_self _) (Kg z)
 refine h oL Jv tk _ oc _ _ rfl (hdc.trans (kh _ (?_:_=some x0))) (λy v hy hv=>?_) (At.mk ⟨⟨x.toInCall.ns,λb o e=>J6 _ _ (a.inv.fr.keep b o e),a.inv.above⟩,λz hz=>?_,dI.nodup_iff.mpr (List.nodup_cons.mpr ⟨λNW=>(List.mem_map.mp NW).elim λz w=>(a'.inv.nw z w.1).2.1 w.2,a'.inv.nd⟩),λz hz=>?_⟩ a'.rep) (λm' II q u a' hu=>At.back (C:=C) (D:=Cf.of C.toWd c n sl d p.s.heap.objs.size f [(t,p.s.heap.objs.size+1)]) rfl hd hr a.inv.fr.above a' hu)
 ·refine(io (k:=Env.kindOf (Cf.of C.toWd c n sl d p.s.heap.objs.size f [(t,p.s.heap.objs.size+1)]).env) (n:=t) (λe=>?_) binds _).trans (by rw[hx];rfl)
  exact JA (kh (λz:Option NameKind=>z==some .cell) (e.symm.trans k2))
 ·exact(im (k:=Env.kindOf (Cf.of C.toWd c n sl d p.s.heap.objs.size f [(t,p.s.heap.objs.size+1)]).env) (n:=y) hy binds _).trans (by rw[hv];rfl)
 ·refine(kq (aC.mem_iff.mp hz)).elim (λe=>by subst e;exact⟨J6 _ _ hL,Nat.ne_of_lt (Heap.lt_size hL),noL⟩) λhz=>?_
  have w:=a'.inv.nw z hz
  exact⟨w.1,QI z hz,w.2.2⟩
 ·exact(kq (aC.mem_iff.mp hz)).elim (λe=>by subst e;exact a.inv.fr.above) (a'.inv.lo z)
theorem tY{D:Cf}{W:Wd}{f:Fn}{vs:List V}{binds:List (Zs×Value)}{φ:Led}{am:AM}(F:JO W k f d)(hs:D.sl=f.sl)(hV:∀v x,VR W.Y φ am v x->D.V p v x)(b:Bd W k f φ am vs binds)(hc:CR D p):LR D p (vs++List.replicate (f.slots.length - f.Jg) .uu) (λy=>binds.reverse.lookup y):=⟨λi w hi hw=>by
 by_cases J5:i < vs.length
 ·rw[List.getElem?_append_left J5]at hi
  refine KJ λhG=>?_
  obtain⟨nm,y,h1,h2,h3⟩:=b.2 i w hi
  refine hG ?_
  clear hG
  refine⟨nm,y,?_,h2,hV _ _ h3⟩
  (refine(hs)▸?_)
  rw[<- F.take,List.getElem?_take]at h1
  split at h1
  ·exact h1
  ·exact nS h1
 ·rw[List.getElem?_append_right (Nat.not_lt.mp J5),List.getElem?_replicate]at hi
  split at hi
  ·obtain rfl:=ke hi;exact(hw rfl).elim
  ·exact nS hi,hc⟩
theorem qG{D:Cf}{W:Wd}{f:Fn}{vs:List V}{binds:List (Zs×Value)}{φ:Led}{am:AM}(F:JO W k f d)(hs:D.sl=f.sl.tail)(NX:f.ML=f.sl.tail)(hV:∀v x,VR W.Y φ am v x->D.V p v x)(b:Bd W k f φ am vs binds)(hm:∀y v,d.scope.names.lookup y=some .local->binds.reverse.lookup y=some v->m y=some v)(hc:CR D p):LR D p (vs.tail++List.replicate (f.slots.length - f.Jg) .uu) m:=⟨λi w hi hw=>by
 by_cases J5:i < vs.tail.length
 ·rw[List.getElem?_append_left J5,List.getElem?_tail]at hi
  refine KJ λhG=>?_
  obtain⟨nm,y,h1,h2,h3⟩:=b.2 (i+1) w hi
  refine hG ?_
  clear hG
  rw[<- F.take,List.getElem?_take]at h1
  split at h1
  ·have h4:f.sl.tail[i]?=some nm:=List.getElem?_tail▸h1
   exact⟨nm,y,hs▸h4,hm _ _ (F.lc nm (NX▸ly h4)).1 h2,hV _ _ h3⟩
  ·exact nS h1
 ·rw[List.getElem?_append_right (Nat.not_lt.mp J5),List.getElem?_replicate]at hi
  split at hi
  ·obtain rfl:=ke hi;exact(hw rfl).elim
  ·exact nS hi,hc⟩
theorem xk{W:Wd}{c:Cx}{n:Nat}(O:KR W)(hC:C.toWd=W){f:Fn}(hf:c.fns[k]?=some f)(F:JO W k f d)(hB:∀L f',Kt (Cf.of W c n f.ML d L f') f.body)(hB':∀v L f' cs,Kt (Cf.of W (c.cell v) n f.ML d L f' cs) f.body)
  {Q:Value->Shared->Prop} {vs:List V} {r:V×St} {args:Args} {binds:List (Zs×Value)} (hr:Do c k vs st=some r) (Rm:K5 A (n+1)) (a:At C m st p) (L5:BindsTo p.s d.fd args binds) (hb:∀y∈binds,y.1∈d.ps) (bd:Bd W k f p.φ p.ad.am vs binds)
  (post:∀x q,To p q->At C m r.2 q->C.V q r.1 x->Q x q.s):codeAny C.M A (.call (.ref (W.Y.fn k)) args) (wants Q X) p.s:=by
 subst hC
 have rl:A.depth < recursionLimit:=by have:=Rm.d;exact L2 [_,_,_] 1 (.a Y0 (.c 1)) Y2 [(1,(.a (.a (.a Y0 (.m 2 (.a Y1 (.c 1)))) (.c 1)) (.c 1)),Y2)] rfl this
 refine IJ hr λf' hf' hr=>?_
 cases hf.symm.trans hf'
 refine IJ hr λz hz hr=>JD hr λw hw e'=>?_
 subst e'
 have fin:∀{q:Pt},To p q->At C m z.2.2 q->(∀v x,z.1=.ret v->C.V q v x->wants Q X (.ok (.ret x)) q.s)/\(z.1=.next->wants Q X (.ok (.ret .none)) q.s):=λt a=>⟨λv x e rx=>by rw[e]at hw;exact Km hw λJ e=>by subst e;exact post x _ t a rx,λe=>by rw[e]at hw;obtain rfl:=ke hw;exact post .none _ t a rfl⟩
 rcases F.cls with⟨e,Z⟩ | ⟨e,t,tr,hs,hp,k1,k2,k3,k4⟩
 ·have NX:f.ML=f.sl:=by unfold Fn.ML;rw[e];rfl
  rw[e,cond_false,cond_false]at hz
  refine vE O F.ok Z c n f.ML a rl L5 hb λoL Jv D hD a1 back=>?_
  have B:=@Kt.x _ _ (hB p.s.heap.objs.size (C.Y.fn k)) (bP d.body)
  rw[<- hD]at B
  subst hD
  refine F.txt▸B F.body hz (λJ=>Rm.deeper _) (tY (p:=(p.mv Jv (p.s.toks+binds.length) p.ad p.φ).ups ((true,C.L,oL)::p.up)) F NX (λv x r=>r) bd (CR.no Z.1)) a1 λm2 q2 t2 J a2=>?_
  obtain⟨hu,a3⟩:=back _ _ _ _ a2 t2.up
  have tt:To p (q2.ups q2.up.tail):=⟨t2.sub,t2.am,hu,t2.sh⟩
  have fn:=fin tt a3
  obtain⟨c1,l1,NN⟩:=z
  cases c1 with
  | next=>exact fn.2 rfl
  | ret u=>exact λx rx=>fn.1 u x rfl rx
 ·have NX:f.ML=f.sl.tail:=by unfold Fn.ML;rw[e];rfl
  rw[e,cond_true,cond_true]at hz
  obtain⟨v0,e0,r0⟩:∃v0,vs[0]?=some v0/\∃y,binds.reverse.lookup t=some y/\VR C.Y p.φ p.ad.am v0 y:=by
   have h0:=kx (l:=vs) (i:=0) (bd.1▸hp)
   obtain⟨nm,y,h1,h2,h3⟩:=bd.2 0 _ h0
   rw[<- F.take,List.getElem?_take,if_pos hp,hs]at h1
   obtain rfl:=ke h1
   exact⟨_,h0,y,h2,h3⟩
  obtain⟨x0,hx0,rx0⟩:=r0
  have hv0:vs.headD .uu=v0:=by cases vs with | nil=>exact nS e0 | cons a r=>exact ke e0
  rw[hv0]at hz
  refine y5 O F.ok k1 k2 (c.cell v0) n f.ML a rl L5 (λy hy=>k4 _ (hb y hy)) hx0 λoL Jv tk m1 oc ca D hD hoc hm a1 back=>?_
  have B:=@Kt.x _ _ (hB' v0 p.s.heap.objs.size (C.Y.fn k) [(t,ca)]) (bP d.body)
  rw[<- hD]at B
  subst hD
  refine F.txt▸B F.body hz (λJ=>Rm.deeper _) (qG (p:=(p.mv Jv tk p.ad ((ca,oc)::p.φ)).ups ((true,C.L,oL)::p.up)) F NX NX (λv x r=>VR.mono (λJ h=>.tail _ h) .rfl r) bd hm λx hx=>?_) a1 λm2 q2 t2 J a2=>?_
  ·cases k3 x hx
   exact⟨ca,oc,x0,by show List.lookup t [(t,ca)]=_;rw[List.lookup_cons,show(t==t)=true from beq_self_eq_true t],.head _,hoc,VR.mono (λJ h=>.tail _ h) .rfl rx0⟩
  obtain⟨hu,a3⟩:=back _ _ _ _ a2 t2.up
  have tt:To p (q2.ups q2.up.tail):=⟨λz hz=>t2.sub z (.tail _ hz),t2.am,hu,t2.sh⟩
  have fn:=fin tt a3
  obtain⟨c1,l1,NN⟩:=z
  cases c1 with
  | next=>exact fn.2 rfl
  | ret u=>exact λx rx=>fn.1 u x rfl rx
theorem di{W:Wd}{c:Cx}{n:Nat}(Z:cN W c n)(hC:C.toWd=W)(O:KR W){f:Fn}(hf:c.fns[k]?=some f)(F:JO W k f d){Q:Value->Shared->Prop}{pos vs:List V}{kw:List (Nat×V)}{r:V×St}{xs ys:List Value}
  (hl:aM f pos kw=some vs) (hr:c.IG k vs st=some r) (R:K5 A n) (a:At C m st p) (rx:IE (C.V p) pos xs) (ry:IE (C.V p) (kw.map (·.2)) ys) (post:∀x q,To p q->At C m r.2 q->C.V q r.1 x->Q x q.s) :
  codeAny C.M A (.call (.ref (W.Y.fn k)) ⟨xs,(aA (W.Y.pn k) kw).zip ys⟩) (wants Q X) p.s:=by
 subst hC
 exact je (a.K O) F.ok F.pse F.Jg (F.take▸F.nd.sublist (List.take_sublist _ _)) F.dle F.dfl (R:=C.V p) (λb y r=>LK.mono (Kw:=p.φ) (λJ h=>(mn h).elim) r) hl rx ry λbinds h1 h2 h3 h4=>Z C rfl k f d hf F hr R a h1 h2 ⟨h3,h4⟩ post
end
abbrev Q1(C:Cf)(i:E)(ps:List Zs)(h0:Expr)(kw:List (Nat×V))(pos:Pos):Prop:=
 (backToKw pos (keywordEach (KW (IX C.Y i C.sl ps h0)) C.env)).filterMap (·.1)=aA ps kw/\
 (backToKw pos (keywordEach (KW (IX C.Y i C.sl ps h0)) C.env)).all (·.1.isSome)=true/\
 (backToKw pos (keywordEach (KW (IX C.Y i C.sl ps h0)) C.env)).any (·.1.isNone)=false/\
 (backTo pos (starEach (LY (IX C.Y i C.sl ps h0)) C.env)).all (λx=>!x.1)=true/\
 (backTo pos (starEach (LY (IX C.Y i C.sl ps h0)) C.env)).any (·.1)=false
section
variable{C:Cf}{i:E}{ps:List Zs}{h0:Expr}{kw:List (Nat×V)}{pos:Pos}(zz:Q1 C i ps h0 kw pos)
def Q1.nm:=zz.1
def Q1.ks:=zz.2.1
def Q1.kn:=zz.2.2.1
def Q1.as:=zz.2.2.2.1
def Q1.an:=zz.2.2.2.2
end
section
variable{C:Cf}{K:Bk}{m m':Zs->Option Value}{st II:St}{p q:Pt}{v:V}{x y:Value}{e:Expr}{tk:Tok}{i t o a:E}{k:Nat}{A:Around}{X:Value->Shared->Prop}{f:Addr}{d:FD}{G:Prop}{Q:Value->Shared->Prop}{l:List V}
theorem shape{ps:List Zs}{pos:Pos}(i:E):∀{h0:Expr}{st:St}{r:(List V×List (Nat×V))×St},Jy C.Y C.sc i C.sl ps h0=true->Kq C.c i l st=some r->Q1 C i ps h0 r.1.2 pos:=by
 induction i with
 | nil=>exact λJ hv=>by obtain rfl:=ke hv;exact⟨rfl,rfl,rfl,rfl,rfl⟩
 | pos e r _ ih=>
  intro h0 st rr hc hv
  refine aEl hc λh1 h2=>IJ hv λq hq h=>JD h λz hz e'=>?_
  subst e'
  refine KJ λhG=>?_
  obtain⟨a1,a2,a3,a4,a5⟩:=ih h2 hz
  refine hG ?_
  clear hG
  have hs:starEach (LY (IX C.Y (.pos e r) C.sl ps h0)) C.env=(false,eval (IX C.Y e C.sl [] (hdE h0)) C.env)::starEach (LY (IX C.Y r C.sl ps (tlH h0))) C.env:=bG (bf e h1)
  exact⟨a1,a2,a3,by (refine(hs)▸?_);exact a4,by (refine(hs)▸?_);exact a5⟩
 | kw k e r _ ih=>
  intro h0 st rr hc hv
  refine aEl hc λh1 h2=>aEl h2 λh2 h3=>oU hv λq z hq hz hzn e'=>?_
  subst e'
  refine KJ λhG=>?_
  obtain⟨a1,a2,a3,_,_⟩:=ih h2 hz
  refine hG ?_
  clear hG
  have J5:=km h3
  have hk:=kx J5
  have hs:KW (IX C.Y (.kw k e r) C.sl ps h0)=kwX (some ps[k]) (IX C.Y e C.sl [] (hdK h0)) h0::KW (IX C.Y r C.sl ps (tlK h0)):=by
   show kwX ps[k]? _ _::_=_
   (exact(hk).symm▸rfl)
  refine⟨?_,?_,?_,rfl,rfl⟩
  ·(refine(hs)▸?_)
   show ps[k]::(backToKw pos (keywordEach (KW (IX C.Y r C.sl ps (tlK h0))) C.env)).filterMap (·.1)=(ps[k]?).getD "" :: aA ps z.1.2
   (refine(a1).symm▸?_;refine(hk)▸?_);rfl
  ·(refine(hs)▸?_);exact a2
  ·(refine(hs)▸?_);exact a3
 | _=>exact λJ hv=>nomatch hv
theorem FD.Ok.keep{K:Frag}(D:FD.Ok K f d):keepIn K (.ref f)=true:=by show(match K.lookup f with | some ⟨_,_,.func _,_⟩=>true | some ⟨_,_,.cls _,_⟩=>specialIn K (.ref f) "__call__" == some (some (.builtin "type.__call__")) | _=>false)=true;(exact(D.here)▸rfl)
theorem FD.Ok.fnIn{K:Frag}(D:FD.Ok K f d):fnIn K f=true:=by unfold PySem.W.fnIn;(exact(D.here)▸rfl)
theorem pe{n:Nat}{as:List (Bool×Sem Value)}{ks:List (Option Zs×Sem Value)}(h1:as.all (λx=>!x.1)=true)(h2:ks.all (·.1.isSome)=true)(h:n < 20):methodCallForm n as ks=true:=by
 unfold methodCallForm
 (refine(h1).symm▸?_;refine(h2).symm▸?_;rewrite[Bool.true_and];rewrite[Bool.true_and];rw[decide_eq_true_eq])
 split <;> omega
theorem gA(H:Ok C)(hi:fj C i){ps:List Zs}{h0:Expr}{pos:Pos}{fv:Value}{first:List Value}{r:(List V×List (Nat×V))×St}(hc:Jy C.Y C.sc i C.sl ps h0=true)(hk:keepIn C.Y.K fv=true)(hv:Kq C.c i K.l st=some r)(P:Pre C K st p)
  (h:∀xs ys q,To p q->At C K.m r.2 q->IE (C.V q) r.1.1 xs->IE (C.V q) (r.1.2.map (·.2)) ys->codeAny C.M K.A (.call fv ⟨first++xs,(aA ps r.1.2).zip ys⟩) (wants Q K.X) q.s) :
  wpAny C.M K.A (callWith pos fv first (backTo pos (starEach (LY (IX C.Y i C.sl ps h0)) C.env)) (backToKw pos (keywordEach (KW (IX C.Y i C.sl ps h0)) C.env))) Q K.X p.s:=by
 have S:=shape (pos:=pos) i hc hv
 refine callWith_of (P:=C.Y.K.In) (by (refine(S.an).symm▸?_;refine(S.kn).symm▸?_);rfl) (keeps_K hk) (eW S.as S.ks ?_)
 refine hi ps h0 pos hc hv P λxs ys q t a rx ry=>⟨a.K H.O,wpAny_call ?_⟩
 (refine(S.nm)▸?_)
 exact h xs ys q t a rx ry
theorem y4(H:Ok C)(T:dU C.toWd C.c.fns)(ha:IQ C a)(hi:fj C i)(hc:Jy C.Y C.sc (.call k a i) C.sl [] e=true){o:V×St}{g:Fn}{w:(List V×List (Nat×V))×St}(ho:IK C.c a K.l st=some o)(hg:ya C.c k o.1 o.2=some g)(hw:Kq C.c i K.l o.2=some w)(P:Pre C K st p)
  (h:∀d,C.c.fns[k]?=some g->JO C.toWd k g d->∀xs ys q,To p q->At C K.m w.2 q->IE (C.V q) (o.1::w.1.1) xs->IE (C.V q) (w.1.2.map (·.2)) ys->codeAny C.M K.A (.call (.ref (C.Y.fn k)) ⟨xs,(aA (C.Y.pn k) w.1.2).zip ys⟩) (wants Q K.X) q.s) :
  wpAny C.M K.A (eval (IX C.Y (.call k a i) C.sl [] e) C.env) Q K.X p.s:=aEl hc λh1 h2=>aEl h2 λh2 h3=>aEl h3 λh3 h4=>aEl h4 λh4 h5=>IJ hg λz hz hg=>IJ hg λg' OL hg=>Km hg λPx e'=>aEl Px λPx NB=>by
 subst e'
 have h5:=km h5
 obtain⟨d,D⟩:=T k g' OL
 have S:=shape (pos:=e.pos) i h2 hw
 refine KJ λhG=>?_
 obtain⟨f1,_,_,_⟩:=H.K.mFn k h5.1
 obtain⟨_,OM⟩:=H.K.mOwn k g' h5.1 OL
 refine hG ?_
 clear hG
 refine gX (bz h3 _ _) (pe S.as S.ks h5.2) h4 (ha _ h1 ho P λx q t a' r pl=>?_)
 have r':=r
 revert r'
 refine a'.ins hz r λz' dx es n hcx I lt g J J r=>?_
 refine method_inst a'.inv.fr H.O.X I (H.K.Mj _ lt) (lf Px▸OM) f1 ((g k (Nat.lt_trans h5.1 (by decide))).2 (Option.isNone_iff_eq_none.mp NB)) ?_
 exact gA H hi h2 D.ok.keep hw (P.to t a') λxs ys q2 t2 a2 rx ry=>h d OL D _ ys q2 (t.trans t2) a2 (.cons (t2.vr r) rx) ry
theorem qg(H:Ok C)(hs:C.hs=true)(T:dU C.toWd C.c.fns)(Z:cN C.toWd C.c C.n)(ha:IQ C a)(hi:fj C i):IQ C (.call k a i):=λe0 hc K st p r Q hv P post=>IJ hv λo ho h=>IJ h λg hg h=>IJ h λw hw h=>IJ h λvs N6 h=>
 y4 H T ha hi hc ho hg hw P λd OL D xs ys q t a' rx ry=>di Z rfl H.O OL D N6 h (P.rm hs).PZ a' rx ry λx q' t' QZ r'=>post x q' (t.trans t') QZ r'
theorem vC(H:Ok C)(T:dU C.toWd C.c.fns)(ha:IQ C a)(hc:Jy C.Y C.sc (.KI k a) C.sl [] e=true){o:V×St}{z:Nat×Nat×List (Nat×V)}{u:V}{mt:Nat×Nat}{g:Fn}(ho:IK C.c a K.l st=some o)(hz:cC o.2 o.1=some z)(hu:z.2.2.lookup k=some u)(hm:j9 u=some mt)(hg:C.c.fns[mt.1]?=some g)(P:Pre C K st p)
  (h:∀d,JO C.toWd mt.1 g d->∀x q,To p q->At C K.m o.2 q->C.V q (.ref mt.2) x->codeAny C.M K.A (.call (.ref (C.Y.fn mt.1)) ⟨[x],[]⟩) (wants Q K.X) q.s) :
  wpAny C.M K.A (eval (IX C.Y (.KI k a) C.sl [] e) C.env) Q K.X p.s:=aEl hc λh1 h2=>aEl h2 λh2 h3=>aEl h3 λh3 h4=>by
 have h4:=km h4
 obtain⟨d,D⟩:=T _ g hg
 refine gX (bz h2 _ _) rfl h3 (ha _ h1 ho P λx q t a' r pl=>?_)
 refine a'.ins hz r λz' dx es n hcx I lt gg J J=>?_
 obtain⟨y,hy,ry⟩:=(gg k (Nat.lt_trans h4.2 (by decide))).1 _ hu
 have hga:=plainGet_of (H.K.Mj z.2.1 lt)
 refine method_usual (a'.K H.O) I hga.1 hga.2 (H.K.Po _ _ lt h4.1 h4.2) rfl ?_
 refine get_own a'.inv.fr H.O.X I (H.K.Mj _ lt) (H.K.NS _ lt) (H.K.Po _ _ lt h4.1 h4.2) rfl hy ry.handed ?_
 have ry:VR C.Y q.φ q.ad.am (.IA mt.1 mt.2) y:=nP hm▸ry
 cases ry with | mk hk he hqm=>
 have a2:=a'.tk (t0:=q.s.toks+1)
 refine callWith_M0 (s:={ q.s with toks:=q.s.toks+1}) ⟨a'.got hqm,a'.K H.O⟩ D.ok.fnIn (call_meth (s:={ q.s with toks:=q.s.toks+1}) a'.inv.nw (At.inφ hqm) ?_)
 exact h d D _ (q.tk (q.s.toks+1)) (t.trans .tk) a2 (kC.mk he)
theorem mW(H:Ok C)(hs:C.hs=true)(T:dU C.toWd C.c.fns)(Z:cN C.toWd C.c C.n)(ha:IQ C a):IQ C (.KI k a):=λe0 hc K st p r Q hv P post=>IJ hv λo ho h=>IJ h λz hz h=>IJ h λu hu h=>IJ h λmt hmt h=>IJ h λg hg h=>IJ h λvs N6 h=>IJ h λJ J h=>
 vC H T ha hc ho hz hu hmt hg P λd D x q t a' rx=>di (kw:=[]) (ys:=[]) Z rfl H.O hg D N6 h (P.rm hs).PZ a' (.cons rx .nil) .nil λx q' t' QZ r'=>post x q' (t.trans t') QZ r'
theorem mX(H:Ok C)(hs:C.hs=true)(T:dU C.toWd C.c.fns)(Z:cN C.toWd C.c C.n)(hi:fj C i):IQ C (.Jj k i):=λe0 hc K st p r Q hv P post=>aEl hc λh1 h2=>IJ hv λw hw h=>IJ h λg hg h=>IJ h λvs N6 h=>IJ h λJ ho h=>by
 obtain⟨d,D⟩:=T _ g hg
 refine wpAny_Call_Name_kw (cI H h2 P.at' (H.K.gFn k g hg (Km ho λh J=>lf h)) ?_)
 exact gA (first:=[]) H hi h1 D.ok.keep hw P λxs ys q t a' rx ry=>di Z rfl H.O hg D N6 h (P.rm hs).PZ a' rx ry λx q' t' QZ r'=>post x q' (t.trans t') QZ r'
end
noncomputable def i4(self:Zs):List Zs->List Stmt->List Stmt
 | [],_=>[]
 | nm::ns,b=>.Assign [.Attribute (nE self (IS 0 (az 1 (b.headD dS)))) nm (az 1 (b.headD dS)).pos] (nE nm (az 0 (b.headD dS))) (b.headD dS).pos::i4 self ns b.tail
abbrev JL(W:Wd)(k:Nat)(q:Fn×List Nat):Prop:=
 k < 15/\
 (∃fI d self names,JE W.Y.K (W.Y.Ju k) fI/\(FD.Ok W.Y.K fI d/\FD.Pl d)/\d.ps=W.Y.cp k/\wx W.Y.K W.w.params q.1.dflt d.dV/\W.Y.cp k=self::names/\i4 self names d.body=d.body/\q.2.map W.Y.nm=names/\(∀nm∈names,takerIn W.Y.K (W.Y.Ju k) nm=some none)/\∀nm∈self::names,(nm==("__debug__" : Zs))=false)/\
 q.1.Jg=(W.Y.cp k).length/\
 (W.Y.cp k).Nodup/\
 q.1.dflt.length<=q.1.Jg/\
 (∀a∈q.2,a < 128)/\
 q.2.length<=100
section
variable{W:Wd}{k:Nat}{q:Fn×List Nat}(zz:JL W k q)
def JL.lt:=zz.1
theorem JL.make(zz:JL W k q){P:Prop}(post:∀fI d self names,JE W.Y.K (W.Y.Ju k) fI->FD.Ok W.Y.K fI d/\FD.Pl d->d.ps=W.Y.cp k->wx W.Y.K W.w.params q.1.dflt d.dV->W.Y.cp k=self::names->i4 self names d.body=d.body->q.2.map W.Y.nm=names->(∀nm∈names,takerIn W.Y.K (W.Y.Ju k) nm=some none)->(∀nm∈self::names,(nm==("__debug__" : Zs))=false)->P):P:=
 zz.2.1.elim λfI h=>h.elim λd h=>h.elim λs h=>h.elim λn h=>post fI d s n h.1 h.2.1 h.2.2.1 h.2.2.2.1 h.2.2.2.2.1 h.2.2.2.2.2.1 h.2.2.2.2.2.2.1 h.2.2.2.2.2.2.2.1 h.2.2.2.2.2.2.2.2
def JL.Jg:=zz.2.2.1
def JL.nd:=zz.2.2.2.1
def JL.dle:=zz.2.2.2.2.1
def JL.hi:=zz.2.2.2.2.2.1
def JL.le:=zz.2.2.2.2.2.2
end
theorem AE{α:Type}{l:List Nat}:∀{k:List α}{a:Nat}{v:α},(l.zip k).lookup a=some v->∃i:Nat,l[i]?=some a/\k[i]?=some v:=by
 induction l with
 | nil=>exact λh=>nS h
 | cons b l ih=>
  intro k a v h
  cases k with
  | nil=>exact nS h
  | cons w k=>
   rw[List.zip_cons_cons,List.lookup_cons]at h
   cases he:a==b with
   | true=>rw[he]at h;exact⟨0,kh some (lf he).symm,h⟩
   | false=>rw[he]at h;exact(ih h).elim λi k=>⟨i+1,k.1,k.2⟩
theorem rW{es:List DictEntry}{name:Zs}{hs:Int}{t:Tok}{v:Value}(h:∀n,(getL n es).isSome=true)(n:Zs):(getL n (putL name hs (.str name t) v es)).isSome=true:=by
 rw[d9]
 cases name==n with | true=>rfl | false=>exact h n
theorem pL(C:Addr)(rest:List Value)(kw:List (Zs×Value)):(Code.builtin "type.__call__" ⟨.ref C::rest,kw⟩).weight=1:=by kernel_rfl
theorem rQ(C:Addr)(rest:List Value)(kw:List (Zs×Value)):(Code.builtin "type.__call__" ⟨.ref C::rest,kw⟩).cUnits=1:=by kernel_rfl
theorem K5.init{A:Around}{n:Nat}(R:KA A n)(C:Addr)(rest:List Value)(kw:List (Zs×Value)):K5 (A.under (.builtin "type.__call__" ⟨.ref C::rest,kw⟩)) n:=by
 refine⟨?_,?_,R.h⟩
 ·rw[show ∀(A:Around)(c:Code),(A.under c).depth=A.depth+c.weight from λJ J=>rfl,pL];have:=R.d;exact L2 [_,_,_] 1 (.a (.a (.a (.a Y0 (.c 1)) (.m 2 Y1)) (.c 1)) (.c 1)) Y2 [(1,(.a (.a (.a Y0 (.m 2 Y1)) (.c 2)) (.c 1)),Y2)] rfl this
 ·rw[show ∀(A:Around)(c:Code),(A.under c).units=A.units+c.cUnits from λJ J=>rfl,rQ];have:=R.u;exact L2 [_,_,_] 1 (.a (.a (.a (.a Y0 (.c 1)) (.m 20 Y1)) (.c 10)) (.c 1)) Y2 [(1,(.a (.a (.a Y0 (.m 20 Y1)) (.c 20)) (.c 1)),Y2)] rfl this
section
variable{C D:Cf}{K:Bk}{m m':Zs->Option Value}{st II:St}{p q:Pt}{v:V}{x y:Value}{e:Expr}{tk:Tok}{i t o a:E}{k:Nat}{A:Around}{X:Value->Shared->Prop}{f:Addr}{d:FD}{G:Prop}{l:List V}
theorem uc{Q:Value->Shared->Prop}{nm:Zs}(F:Fr D.hB D.L p.s.heap m)(hy:m nm=some y)(h:Q y p.s)(hk:D.sc.kind=.function)(hl:D.sc.names.lookup nm=some .local)(hd:(nm==("__debug__" : Zs))=false):wpAny D.M A (eval (nE nm e) D.env) Q X p.s:=
 wpAny_Name (wpAny_loadName_local (env:=D.env) hk hl F.ns hy h) hd
theorem wB{l r:Led}{a:Addr}{o o':Obj}(h:((l++(a,o)::r).map (·.1)).Nodup):((l++(a,o')::r).map (·.1)).Nodup:=by
 rw[List.map_append,List.map_cons]at h ⊢;exact h
theorem BC{l r:Led}{a:Addr}{o o':Obj}{n:Nat}(h:∀w∈l++(a,o)::r,n<=w.1):∀w∈l++(a,o')::r,n<=w.1:=λw hw=>
 (mx hw).elim (λk=>h w (lh (.inl k))) λk=>(kq k).elim (λe=>e▸h (a,o) (lh (.inr (.head _)))) λk=>h w (lh (.inr (.tail _ k)))
theorem fG{l f r:Led}{z y:Addr×Obj}{a:Addr}(w:Obj):l++(f++(z::y::(a,w)::r))=(l++(f++[z,y]))++(a,w)::r:=by rw[lu,lu];rfl
theorem qT{es:List DictEntry}{nm n:Zs}{ns:List Zs}{m:Zs->Option Value}{h:Int}{tk:Tok}{y w:Value}(hy:m nm=some y)(hw:(getL n es=some (some w)/\n ∉ nm::ns)∨(n∈nm::ns/\m n=some w)):(getL n (putL nm h (.str nm tk) y es)=some (some w)/\n ∉ ns)∨(n∈ns/\m n=some w):=by
 rw[d9]
 refine hw.elim (λ⟨a,b⟩=>.inl ⟨?_,λh=>b (.tail _ h)⟩) λ⟨a,b⟩=>?_
 ·rw[show(nm==n)=false from beq_eq_false_iff_ne.mpr λe=>b (e▸.head _)];exact a
 ·by_cases NW:n∈ns
  ·exact .inr ⟨NW,b⟩
  ·cases (kq a).resolve_right NW
   rw[beq_self_eq_true]
   exact .inl ⟨kh some (hy.symm.trans b),NW⟩
theorem uk(O:KR D.toWd){C fI x dx:Addr}(H:JE D.Y.K C fI)(hk:D.sc.kind=.function){self:Zs}{Q:Flow->Shared->Prop}{z:Bool×Addr×Obj}{up:dC}(OE:m self=some (.ref x))(hls:D.sc.names.lookup self=some .local)(hds:(self==("__debug__" : Zs))=false)(names:List Zs) :
  ∀(body:List Stmt)(p:Pt)(es:List DictEntry)(k:Nat),(∀nm∈names,takerIn D.Y.K C nm=some none/\D.sc.names.lookup nm=some .local/\(nm==("__debug__" : Zs))=false/\∃y,m nm=some y)->es.length+names.length<=1000->(∀n,(getL n es).isSome=true)->
  At D m st (p.ups (z::(false,x,instObj C dx)::(false,dx,dictOf es k)::up))->
  (∀PG k' h' tk,At D m st ((p.mv h' tk p.ad p.φ).ups (z::(false,x,instObj C dx)::(false,dx,dictOf PG k')::up))->(∀nm y,((getL nm es=some (some y)/\nm ∉ names)∨(nm∈names/\m nm=some y))->getL nm PG=some (some y))->Q .next { p.s with heap:=h',toks:=tk})->
  wpAny D.M A (execs (i4 self names body) D.env) Q X p.s:=by
 induction names with
 | nil=>exact λbody p es k _ _ _ a post=>wpAny_execs_nil (post es k p.s.heap p.s.toks a λnm y h=>h.elim (·.1) λh=>nomatch h.1)
 | cons nm ns ih=>
  intro body p es k hn hz ht a post
  refine KJ λhG=>?_
  obtain⟨t1,l1,d1,y,hy⟩:=hn nm (.head _)
  have fr:=a.inv.fr
  refine hG (wpAny_execs_cons (plainObj_wpAny_Assign_Attribute (uc fr hy (uc fr OE ?_ hk hls hds) hk l1 d1) rfl))
  clear hG
  have nd:=(fG (dictOf es k)▸a.inv.nd:(((p.ad.led++(p.φ++[z.2,(x,instObj C dx)]))++(dx,dictOf es k)::up.map (·.2)).map (·.1)).Nodup)
  have nw:=(fG (dictOf es k)▸a.inv.nw:News D.hB D.L p.s.heap ((p.ad.led++(p.φ++[z.2,(x,instObj C dx)]))++(dx,dictOf es k)::up.map (·.2)))
  have lo:=(fG (dictOf es k)▸a.inv.lo:∀w∈(p.ad.led++(p.φ++[z.2,(x,instObj C dx)]))++(dx,dictOf es k)::up.map (·.2),D.hB.objs.size<=w.1)
  have hl:=(gN nm (PyData.keyHash D.w.params nm) (p.s.toks+1) y es).1
  have QE:es.length+1+ns.length<=1000:=Nat.add_right_comm es.length 1 ns.length▸hz
  refine set_dict fr O.X nw (InstAt.of_news nw (x:=x) (C:=C) (dx:=dx) (od:=dictOf es k) (sl:=#[]) (lh (.inl (lh (.inr (lh (.inr (.tail _ (.head _)))))))) (lh (.inr (.head _)))) rfl H.set H.over t1 H.has (ht nm) rfl (Upd.at (o':=dictOf (putL nm (PyData.keyHash D.w.params nm) (.str nm (p.s.toks+1)) y es) (putN nm es k)) _ nd) (kg hl (kg (kg (lw _ _) QE) (by decide))) λQf F' N'=>?_
  exact ih body.tail (p.mv Qf (p.s.toks+2) p.ad p.φ) _ (putN nm es k) (λn hn'=>hn n (.tail _ hn')) (kg (Nat.add_le_add_right hl _) QE) (rW ht) ⟨⟨F',fG (dictOf _ (putN nm es k))▸N',fG (dictOf _ (putN nm es k))▸wB nd,fG (dictOf _ (putN nm es k))▸BC lo⟩,a.rep⟩ λPG k' h3 tk a3 hg=>post PG k' h3 tk a3 λn w hw=>hg n w (qT hy hw)
theorem kU(O:KR C.toWd){R:Result->Shared->Prop}{c fI:Addr}(H:JE C.Y.K c fI){rest:List Value}{kw:List (Zs×Value)}(a:At C m st p)
  (h:∀x dx Jv,At C m st ((p.mv Jv p.s.toks p.ad p.φ).ups ((false,x,instObj c dx)::(false,dx,emptyDict)::p.up))->codeAny C.M (A.under (.builtin "type.__call__" ⟨.ref c::rest,kw⟩)) (.call (.ref fI) ⟨.ref x::rest,kw⟩) (InitBack x R) { p.s with heap:=Jv}) :
  codeAny C.M A (.call (.ref c) ⟨rest,kw⟩) R p.s:=by
 have X:=a.K O
 have I:=a.inv
 have h':=h (p.s.heap.objs.size+1) p.s.heap.objs.size ((p.s.heap.push emptyDict).push (instObj c p.s.heap.objs.size)) ⟨?_,a.rep⟩
 ·refine KJ λhG=>?_
  obtain⟨⟨hh,g,d,t,os⟩,_⟩:=p
  refine hG ?_
  clear hG
  exact make_core (makes_of X H.makes) (looks_findIn X H.init) (λself=>bind_fn X self H.ty) (.inl rfl) h'
 have N1:=(I.nw.push I.fr emptyDict).push (I.fr.push _) (instObj c p.s.heap.objs.size)
 rw[Heap.size_push]at N1
 refine I.more (c:=[(p.s.heap.objs.size+1,instObj c p.s.heap.objs.size),(p.s.heap.objs.size,emptyDict)]) ((I.fr.push emptyDict).push (instObj c p.s.heap.objs.size)) N1 ?_ (λz hz w hw e=>?_) (λz hz=>?_) ?_
 ·exact List.nodup_cons.mpr ⟨λh=>Nat.succ_ne_self _ (ku h),List.nodup_cons.mpr ⟨mn,.nil⟩⟩
 ·have lt:=Heap.lt_size (I.nw w hw).1
  rcases kq hz with e' | e'
  ·rw[e,e']at lt;exact Nat.lt_irrefl _ (Nat.lt_of_succ_lt lt)
  ·rw[e,ku e']at lt;exact Nat.lt_irrefl _ lt
 ·rcases kq hz with e' | e'
  ·(refine(e')▸?_);exact Nat.le_succ_of_le I.above
  ·(refine(ku e')▸?_);exact I.above
 ·exact aC.trans (List.Perm.cons _ aC)
theorem BG{f:Fn}{pos:List V}{kw:List (Nat×V)}{vs:List V}(h:aM f pos kw=some vs)(h0:0 < f.Jg):vs[0]?=ir f pos kw 0:=by
 unfold aM at h
 revert h
 cases (decide (pos.length<=f.Jg)&&_&&_) with
 | false=>exact nofun
 | true=>
  intro h
  have hM:=dL h
  obtain⟨b,h1,h2⟩:=hM.get (i:=0) (by rw[List.getElem?_range h0])
  exact h1.trans h2.symm
theorem sJ(H:Ok C)(hs:C.hs=true)(N:∀(k:Nat)(q:Fn×List Nat),C.c.Jx[k]?=some q->JL C.toWd k q)(hi:fj C i):IQ C (.new k i):=λe0 hc K st p r Q hv P post=>aEl hc λh1 h2=>IJ hv λw hw h=>IJ h λf hf h=>IJ h λvs N6 h=>JD h λbs NX e'=>by
 subst e'
 have Z:=N k f hf
 refine Z.make λfI d self names M D NU hdf hcp hbody Mk htak hdeb=>?_
 have Rm:=P.rm hs
 refine wpAny_Call_Name_kw (cI H h2 P.at' (H.K.QN k Z.lt) ?_)
 refine gA (first:=[]) H hi h1 M.keep hw P λxs ys q t a rx ry=>kU H.O M a λx dx Jv Nk=>?_
 refine je (s:={ q.s with heap:=Jv}) (Nk.K H.O) D.1 NU Z.Jg Z.nd Z.dle hdf (R:=λv y=>(v=.uu/\y=.ref x)∨C.V q v y) (λb y r=>.inr (LK.mono (Kw:=q.φ) (λJ h=>(mn h).elim) r)) N6
  (.cons (.inl ⟨rfl,rfl⟩) (rx.mono λJ J=>.inr)) (ry.mono λJ J=>.inr) λbinds b1 b2 b3 b4=>?_
 have np:f.1.Jg=names.length+1:=by (refine(Z.Jg)▸?_;refine(hcp)▸?_);rfl
 have OE:binds.reverse.lookup self=some (.ref x):=by
  obtain⟨nm,y,e1,e2,e3⟩:=b4 0 _ (BG N6 (by exact L2 [_,_] 1 (.a (.c 0) (.c 1)) Y0 [(1,(.a Y1 (.c 1)),Y0)] rfl (lx np.symm)))
  rw[hcp]at e1
  obtain rfl:=ke e1
  exact e3.elim (λe=>e.2▸e2) λe=>e.elim
 have Ng:∀(i:Nat)(nm:Zs)(b:Internal.B),names[i]?=some nm->bs[i]?=some b->∃y,binds.reverse.lookup nm=some y/\LK C.w.params q.φ b y:=λi nm b hi hb=>by
  obtain⟨u,hu,he⟩:=(dL NX).get' hb
  rw[List.getElem?_tail]at hu
  refine KJ λhG=>?_
  obtain⟨nm',y,e1,e2,e3⟩:=b4 (i+1) u hu
  refine hG ?_
  clear hG
  rw[hcp,List.getElem?_cons_succ,hi]at e1
  obtain rfl:=ke e1
  rw[kA he]at e3
  exact e3.elim (λe=>JA (kh ab e.1)) λe3=>⟨y,e2,e3⟩
 have hbl:bs.length=names.length:=by
  have h1:=(dL NX).length
  rw[List.length_tail,b3,np]at h1
  exact h1.symm
 have hmem:∀nm∈self::names,nm∈d.ps:=λnm hn=>by (refine(NU)▸?_;refine(hcp)▸?_);exact hn
 have hlen:names.length<=100:=Mk▸(lg (as:=f.2) C.Y.nm).symm▸Z.le
 refine vE (C:=C) (p:=(q.mv Jv q.s.toks q.ad q.φ).ups _) H.O D.1 D.2 C.c C.n [] Nk (by have:=(K5.init Rm (C.Y.Ju k) ([]++xs) ((aA (C.Y.cp k) w.1.2).zip ys)).d;exact L2 [_,_,_] 1 (.a Y0 (.c 1)) Y2 [(1,(.a (.a (.a Y0 (.m 2 Y1)) (.c 1)) (.c 1)),Y2)] rfl this) b1 b2 λoL J7 D' hD a2 back=>?_
 subst hD
 have e1:(execs d.body)=execs (i4 self names d.body):=by (exact(hbody).symm▸rfl)
 (refine(e1)▸?_)
 refine uk (D:=Cf.of C.toWd C.c C.n [] d Jv.objs.size fI) (p:=(q.mv Jv q.s.toks q.ad q.φ).mv J7 _ q.ad q.φ) (es:=[]) (k:=0) H.O M D.1.ki OE (D.2.2 _ (hmem _ (.head _))) (hdeb _ (.head _)) names d.body (λnm hn=>⟨htak nm hn,D.2.2 _ (hmem _ (.tail _ hn)),hdeb _ (.tail _ hn),?_⟩) (by show 0+names.length<=1000;exact L2 [_] 1 (.a (.c 0) Y0) (.c 1000) [(1,Y0,(.c 100))] rfl hlen) (λn=>rfl) a2 λes kk NT tk₃ a3 hg=>⟨rfl,?_⟩
 ·obtain⟨i,hi⟩:=List.getElem?_of_mem hn
  have PA:=(kj hi).1
  obtain⟨y,hy,_⟩:=Ng i nm bs[i] hi (kx (by exact L2 [_,_,_] 1 (.a Y2 (.c 1)) Y1 [(1,Y0,Y1),(1,(.a Y2 (.c 1)),Y0)] rfl (lx hbl.symm) PA))
  exact⟨y,hy⟩
 have a4:=(back _ _ _ _ a3 .rfl).2
 have sub:∀z∈q.φ,z∈((x,instObj (C.Y.Ju k) dx)::(dx,dictOf es kk)::q.φ):=λz hz=>.tail _ (.tail _ hz)
 refine post (.ref x) (q.mv NT tk₃ q.ad ((x,instObj (C.Y.Ju k) dx)::(dx,dictOf es kk)::q.φ)) (t.trans (.mv sub .rfl)) ⟨a4.inv.perm (mid:=[]) ?_,a4.rep.mono sub⟩ (PO.mk Z.lt (.head _) (.tail _ (.head _)) λa v hv=>?_)
 ·exact List.Perm.append_left _ (List.perm_middle.trans (List.Perm.cons _ List.perm_middle))
 ·obtain⟨i,h1,h2⟩:=AE hv
  have h3:names[i]?=some (C.Y.nm a):=by (refine(Mk)▸?_;refine(List.getElem?_map)▸?_;refine(h1)▸?_);rfl
  obtain⟨y,hy,ry'⟩:=Ng i _ v h3 h2
  exact⟨Z.hi a (ly h1),y,hg _ _ (.inr ⟨ly h3,hy⟩),ry'.mono sub⟩
end
noncomputable abbrev pl(l:Led):dC:=l.map λz=>(false,z)
theorem iQ(l:Led)(u:dC):(pl l++u).map (·.2)=l++u.map (·.2):=by
 (refine(List.map_append)▸?_;refine(List.map_map).symm▸?_)
 exact kh (·++_) (List.map_id l)
theorem KS.app{u:dC}:∀{l:Led}{w:dC},KS (pl l++u) w->∃u',w=pl l++u'/\KS u u'
 | [],w,h=>⟨w,Eq.refl _,h⟩
 | z::l,_,.cons (b:=y) r h=>by
  obtain⟨u',e,h'⟩:=KS.app (l:=l) h
  obtain⟨y0,y1,y2⟩:=y
  obtain⟨z1,z2⟩:=z
  cases (show y0=false from r.b)
  cases (show y1=z1 from r.a)
  cases r.o.elim id λh'=>nomatch h'.1
  exact⟨u',kh (_::·) e,h'⟩
noncomputable def Ad.oth(ad:Ad)(j:Nat):Led:=ad.cur.flatten++((ad.Jf.take j).flatten.flatten++(ad.Jf.drop (j+1)).flatten.flatten)
noncomputable def Ad.Ou(ad:Ad)(j:Nat)(c:List Led):Ad:={ ad with Jf:=ad.Jf.set j c}
theorem tC{a b c d:Led}{φ u:Led}:((a++[])++(φ++((b++(c++d))++u))).Perm ((b++(c++(a++d)))++(φ++u)):=by
 classical
 exact List.perm_iff_count.mpr λx=>by simp only[List.count_append,List.count_nil];exact Nat.le_antisymm (L2 [_,_,_,_,_,_] 1 (.a (.a Y0 (.c 0)) (.a Y1 (.a (.a Y2 (.a Y3 Y4)) Y5))) (.a (.a Y2 (.a Y3 (.a Y0 Y4))) (.a Y1 Y5)) [] rfl) (L2 [_,_,_,_,_,_] 1 (.a (.a Y2 (.a Y3 (.a Y0 Y4))) (.a Y1 Y5)) (.a (.a Y0 (.c 0)) (.a Y1 (.a (.a Y2 (.a Y3 Y4)) Y5))) [] rfl)
theorem Ad.Lf{ad:Ad}{j:Nat}(hj:j < ad.Jf.length)(c:List Led)(φ up:Led):((⟨c,[]⟩:Ad).led++(φ++(ad.oth j++up))).Perm ((ad.Ou j c).led++(φ++up)):=by
 have e:(ad.Ou j c).led=ad.cur.flatten++((ad.Jf.take j).flatten.flatten++(c.flatten++(ad.Jf.drop (j+1)).flatten.flatten)):=by
  show ad.cur.flatten++(ad.Jf.set j c).flatten.flatten=_
  (refine(List.set_eq_take_append_cons_drop)▸?_;refine(if_pos hj)▸?_;refine(List.flatten_append).symm▸?_;refine(List.flatten_append).symm▸?_;refine(List.flatten_cons).symm▸?_;exact(List.flatten_append).symm▸rfl)
 (refine(e)▸?_)
 exact tC
noncomputable abbrev Pt.reg(p:Pt)(j:Nat)(cs:List Led):Pt:=⟨p.s,⟨cs,[]⟩,p.φ,pl (p.ad.oth j)++p.up⟩
section
variable{C:Cf}{K:Bk}{m m':Zs->Option Value}{st II:St}{p q:Pt}{v:V}{x y:Value}{e:Expr}{tk:Tok}{i t o a:E}{k j:Nat}{A:Around}{X:Value->Shared->Prop}{d:FD}{G:Prop}{l:List V}{Q:Value->Shared->Prop}{R R':List Ob}{cs cs':List Led}
theorem At.take(a:At C m st p)(hR:st.Jf[j]?=some R):∃cs,p.ad.Jf[j]?=some cs/\At C m ⟨R,[]⟩ (p.reg j cs):=by
 obtain⟨cs,Lu,hr⟩:=a.rep.Jf.get hR
 refine⟨cs,Lu,a.inv.perm (mid:=[]) ?_,hr,.nil⟩
 show(p.ad.led++(p.φ++p.ul)).Perm ((⟨cs,[]⟩:Ad).led++(p.φ++(pl (p.ad.oth j)++p.up).map (·.2)))
 rw[iQ]
 have:=Ad.Lf (kj Lu).1 cs p.φ p.ul
 rw[show p.ad.Ou j cs=p.ad from kh (Ad.mk p.ad.cur) (gJ Lu)]at this
 exact this.symm
theorem At.lay(r:Rep C.Y p.φ st p.ad)(Lu:p.ad.Jf[j]?=some cs)(t:To (p.reg j cs) q)(b:At C m ⟨R',[]⟩ q):∃q',q'.s=q.s/\q'.φ=q.φ/\To p q'/\At C m { st with Jf:=st.Jf.set j R'} q'/\(∀z∈q'.ad.led,z∈q.ad.led∨(false,z)∈q.up)/\∀y∈q'.up,y∈q.up:=by
 obtain⟨s,⟨c₂,QP⟩,φ,u⟩:=q
 obtain⟨sub,am,up,sh⟩:=t
 obtain⟨u',rfl,hu⟩:=KS.app up
 obtain⟨I,R1⟩:=b
 have he:QP=[]:=by have:=R1.Jf;cases this;rfl
 subst he
 have hj:=(kj Lu).1
 have hle:p.ad.am.le (p.ad.Ou j c₂).am:=by
  refine⟨λJ J h=>h,λn l hl=>?_⟩
  show ∃l',((p.ad.Jf.set j c₂).map (·.map adr))[n]?=some l'/\_
  have KU:(p.ad.Jf.map (·.map adr))[n]?=some l:=hl
  rw[List.getElem?_map]at KU ⊢
  by_cases e:n=j
  ·subst e
   rw[Lu]at KU
   obtain rfl:=ke KU
   (refine(List.getElem?_set_self hj)▸?_)
   exact⟨_,rfl,am.cur⟩
  ·(refine(List.getElem?_set_ne (Ne.symm e)).symm▸?_)
   exact⟨l,KU,λJ J h=>h⟩
 refine⟨⟨s,p.ad.Ou j c₂,φ,u'⟩,rfl,rfl,⟨sub,hle,hu,sh⟩,⟨I.perm (mid:=[]) ?_,r.cur.mono λJ J q=>q.mono sub hle,(IE.mono (λJ J q=>RR.mono sub q) r.Jf).set R1.cur j⟩,λz hz=>?_,λy hy=>lh (.inr hy)⟩
 ·show((⟨c₂,[]⟩:Ad).led++(φ++(pl (p.ad.oth j)++u').map (·.2))).Perm _
  rw[iQ]
  exact Ad.Lf hj c₂ φ _
 ·have h:=(Ad.Lf hj c₂ [] []).mem_iff.mpr (lh (.inl hz))
  exact(mx h).elim .inl λh=>.inr (lh (.inl (List.mem_map.mpr ⟨z,by rw[mh]at h;exact h,rfl⟩)))
theorem oG{φ:Led}{am Mm:AM}{Y:Lay}{l:List V}{xs:List Value}(h:∀v∈l,N4 v=true)(a:IE (VR Y φ am) l xs):IE (VR Y φ Mm) l xs:=by
 induction a with
 | nil=>exact .nil
 | cons r _ ih=>exact .cons (r.free (h _ (.head _))) (ih λv hv=>h v (.tail _ hv))
theorem gV{φ:Led}{am Mm:AM}{Y:Lay}{r:List V×List (Nat×V)}(h:okA r=true):(∀{xs},IE (VR Y φ am) r.1 xs->IE (VR Y φ Mm) r.1 xs)/\∀{ys},IE (VR Y φ am) (r.2.map (·.2)) ys->IE (VR Y φ Mm) (r.2.map (·.2)) ys:=aEl h λh1 h2=>
 ⟨oG (mc h1),oG λv hv=>(List.mem_map.mp hv).elim λp hp=>hp.2▸mc h2 p hp.1⟩
theorem vF(H:Ok C)(T:dU C.toWd C.c.fns)(ha:IQ C a)(hi:fj C i)(hc:Jy C.Y C.sc (.Kr k a i) C.sl [] e=true){o:V×St}{f:Fn×Nat×Nat}{w:(List V×List (Nat×V))×St}(ho:IK C.c a K.l st=some o)(hf:uF C.c k o.1 o.2=some f)(hw:Kq C.c i K.l o.2=some w)(LP:okA w.1=true)(hR:w.2.Jf[f.2.1]?=some R)(P:Pre C K st p)
  (h:∀d cs q,C.c.fns[k]?=some f.1->JO C.toWd k f.1 d->To p q->At C K.m w.2 q->q.ad.Jf[f.2.1]?=some cs->At C K.m ⟨R,[]⟩ (q.reg f.2.1 cs)->∀xs ys,IE (C.V (q.reg f.2.1 cs)) (.ref f.2.2::w.1.1) xs->IE (C.V (q.reg f.2.1 cs)) (w.1.2.map (·.2)) ys->
   codeAny C.M K.A (.call (.ref (C.Y.fn k)) ⟨xs,(aA (C.Y.pn k) w.1.2).zip ys⟩) (wants Q K.X) q.s) :
  wpAny C.M K.A (eval (IX C.Y (.Kr k a i) C.sl [] e) C.env) Q K.X p.s:=aEl hc λh1 h2=>aEl h2 λh2 h3=>aEl h3 λh3 h4=>aEl h4 λh4 h5=>IJ hf λz hz hf=>IJ hf λg OL hf=>Km hf λPx e'=>aEl Px λPx NB=>by
 subst e'
 have h5:=km h5
 obtain⟨d,D⟩:=T k g OL
 have S:=shape (pos:=e.pos) i h2 hw
 obtain⟨f1,_,_,_⟩:=H.K.mFn k h5.1
 obtain⟨_,OM⟩:=H.K.mOwn k g h5.1 OL
 refine gX (bz h3 _ _) (pe S.as S.ks h5.2) h4 (ha _ h1 ho P λx q t a' r pl=>?_)
 refine a'.Ls hz r λz' dx es n cs Lu hcx I lt g'=>?_
 refine method_inst a'.inv.fr H.O.X I (H.K.Mj _ lt) (lf Px▸OM) f1 ((g' k (Nat.lt_trans h5.1 (by decide))).2 (Option.isNone_iff_eq_none.mp NB)) ?_
 refine gA H hi h2 D.ok.keep hw (P.to t a') λxs ys q2 t2 a2 rx ry=>?_
 obtain⟨cs',hcs',a3⟩:=a2.take hR
 refine h d cs' q2 OL D (t.trans t2) a2 hcs' a3 _ ys (.cons (kC.mk ?_) ((gV LP).1 rx)) ((gV LP).2 ry)
 obtain⟨lr,hlr,QH⟩:=t2.am.Jf z.1.1 (cs.map adr) (dA (List.map adr) Lu)
 cases hlr.symm.trans (dA (List.map adr) hcs')
 exact QH _ _ (dA adr hcx)
theorem mY(H:Ok C)(hs:C.hs=true)(T:dU C.toWd C.c.fns)(Z:cN C.toWd C.c C.n)(ha:IQ C a)(hi:fj C i):IQ C (.Kr k a i):=λe0 hc K st p r Q hv P post=>IJ hv λo ho h=>IJ h λf hf h=>IJ h λw hw h=>IJ h λvs N6 h=>IJ h λJ hg h=>IJ h λR hR h=>IJ h λz hz h=>Km h λhzf e'=>aEl hzf λz1 z2=>by
 subst e'
 refine vF H T ha hi hc ho hf hw (Km hg λh J=>h) hR P λd cs q OL D t a' Lu a3 xs ys rx ry=>di (p:=q.reg f.2.1 cs) Z rfl H.O OL D N6 hz (P.rm hs).PZ a3 rx ry λy q2 t2 a4 r4=>?_
 obtain⟨zv,zc,ze⟩:=z
 cases List.isEmpty_iff.mp z2
 obtain⟨q',e1,e2,t5,a5,_⟩:=At.lay a'.rep Lu t2 a4
 (refine(e1)▸?_)
 exact post y q' (t.trans t5) a5 (show VR C.Y q'.φ q'.ad.am zv y from e2▸r4.free z1)
theorem qN{M:Model}{c:Code}{s:Shared}{x:Addr}{R:Result->Shared->Prop}(h:codeAny M A c (wants (λv s'=>v=.none/\R (.ok (.ret (.ref x))) s') (λe s'=>R (.error e) s')) s):codeAny M A c (InitBack x R) s:=
 codeAny_mono h λr s' h'=>by
  match r,h' with
  | .ok (.ret v),h'=>exact h'
  | .error e,h'=>exact h'
theorem tB{a b c φ u:Led}{x y:Addr×Obj}:(a++(φ++(x::y::(b++u)))).Perm (((b++(([x,y]:Led)++[]))++[])++(φ++(a++u))):=by
 classical
 exact List.perm_iff_count.mpr λz=>by simp only[List.count_append,List.count_nil,List.count_cons];exact Nat.le_antisymm (L2 [_,_,_,_,_,_] 1 (.a Y0 (.a Y1 (.a (.a (.a Y2 Y3) Y4) Y5))) (.a (.a (.a Y2 (.a (.a (.a (.c 0) Y4) Y5) (.c 0))) (.c 0)) (.a Y1 (.a Y0 Y3))) [] rfl) (L2 [_,_,_,_,_,_] 1 (.a (.a (.a Y2 (.a (.a (.a (.c 0) Y4) Y5) (.c 0))) (.c 0)) (.a Y1 (.a Y0 Y3))) (.a Y0 (.a Y1 (.a (.a (.a Y2 Y3) Y4) Y5))) [] rfl)
theorem tA{a c φ u:Led}:((c++[])++(φ++(a++u))).Perm (a++(φ++(c++u))):=by
 classical
 exact List.perm_iff_count.mpr λz=>by simp only[List.count_append,List.count_nil];exact Nat.le_antisymm (L2 [_,_,_,_] 1 (.a (.a Y0 (.c 0)) (.a Y1 (.a Y2 Y3))) (.a Y2 (.a Y1 (.a Y0 Y3))) [] rfl) (L2 [_,_,_,_] 1 (.a Y2 (.a Y1 (.a Y0 Y3))) (.a (.a Y0 (.c 0)) (.a Y1 (.a Y2 Y3))) [] rfl)
theorem tz{a b c φ u:Led}:((a++b)++(φ++(c++u))).Perm ((a++(b++(c++[])))++(φ++u)):=by
 classical
 exact List.perm_iff_count.mpr λz=>by simp only[List.count_append,List.count_nil];exact Nat.le_antisymm (L2 [_,_,_,_,_] 1 (.a (.a Y0 Y1) (.a Y2 (.a Y3 Y4))) (.a (.a Y0 (.a Y1 (.a Y3 (.c 0)))) (.a Y2 Y4)) [] rfl) (L2 [_,_,_,_,_] 1 (.a (.a Y0 (.a Y1 (.a Y3 (.c 0)))) (.a Y2 Y4)) (.a (.a Y0 Y1) (.a Y2 (.a Y3 Y4))) [] rfl)
theorem kT(H:Ok C)(hs:C.hs=true)(T:dU C.toWd C.c.fns)(Z:cN C.toWd C.c C.n){n:Nat}(hn:n < 2)(hk:k=cV+1 - n){f:Fn}(hf:C.c.fns[k]?=some f){pos:List V}{kw:List (Nat×V)}{vs:List V}{w:V×St}{xs ys:List Value}
  (hl:aM f (.ref R.length::pos) kw=some vs) (hw:C.c.IG k vs ⟨R++[.ins n []],[]⟩=some w) (h1:aU w.1=true) (h2:w.2.Jf=[]) (Rm:KA A C.n) (a:At C m st (p.ups (pl cs.flatten++p.up))) (r:Rep C.Y p.φ ⟨R,[]⟩ ⟨cs,[]⟩)
  (rx:IE (VR C.Y p.φ ⟨cs.map adr,[]⟩) pos xs) (ry:IE (VR C.Y p.φ ⟨cs.map adr,[]⟩) (kw.map (·.2)) ys)
  (h:∀x c' q,To p q->q.ad=p.ad->(∀(i:Nat) y,(cs.map adr++[x])[i]?=some y->(c'.map adr)[i]?=some y)->At C m st (q.ups (pl c'.flatten++q.up))->Rep C.Y q.φ ⟨w.2.cur,[]⟩ ⟨c',[]⟩->Q (.ref x) q.s) :
  codeAny C.M A (.call (.ref (C.Y.Jl n)) ⟨xs,(aA (C.Y.pn k) kw).zip ys⟩) (wants Q X) p.s:=by
 refine kU (p:=p.ups (pl cs.flatten++p.up)) H.O (hk▸H.K.mkI n hn) a λx dx Jv Nk=>?_
 obtain⟨d,D⟩:=T k f hf
 have le:(⟨cs.map adr,[]⟩:AM).le (⟨(cs++[[(x,instObj (C.Y.Jl n) dx),(dx,emptyDict)]]).map adr,[]⟩:AM):=⟨λi y h=>by (refine(List.map_append)▸?_);exact(List.getElem?_append_left (kj h).1).trans h,λJ J e=>nomatch e⟩
 refine qN (di (p:=⟨{ p.s with heap:=Jv},⟨cs++[[(x,instObj (C.Y.Jl n) dx),(dx,emptyDict)]],[]⟩,p.φ,pl p.ad.led++p.up⟩) (m:=m) (xs:=.ref x::xs) Z rfl H.O hf D hl hw (.init Rm _ _ _) ⟨?_,?_⟩ ?_ ?_ ?_)
 ·refine Nk.inv.perm (mid:=[]) ?_
  show(p.ad.led++(p.φ++((x,instObj (C.Y.Jl n) dx)::(dx,emptyDict)::(pl cs.flatten++p.up).map (·.2)))).Perm ((cs++[[(x,instObj (C.Y.Jl n) dx),(dx,emptyDict)]]).flatten++[]++(p.φ++(pl p.ad.led++p.up).map (·.2)))
  (rewrite[iQ];rewrite[iQ];refine(List.flatten_append)▸?_;refine(List.flatten_cons).symm▸?_;refine(List.flatten_nil).symm▸?_)
  exact tB (c:=[])
 ·exact⟨(r.cur.mono λJ J q=>q.mono (λJ h=>h) le).snoc (.ins hn (λn J=>⟨nofun,λJ=>rfl⟩) (mf _) (mi _)),.nil⟩
 ·refine .cons (kC.mk ?_) (rx.mono λJ J q=>q.mono (λJ h=>h) le)
  show((cs++_).map adr)[R.length]?=some x
  (rewrite[show R.length=cs.length from r.cur.length];refine(List.map_append)▸?_;refine(List.getElem?_append_right (lx (lg _)))▸?_;rewrite[lg];rw[Nat.sub_self]);rfl
 ·exact ry.mono λJ J q=>q.mono (λJ h=>h) le
 intro y q b PK ry₂
 obtain⟨w1,wc,we⟩:=w
 cases (show we=[] from h2)
 obtain⟨s2,⟨c₂,QP⟩,Ol,u₂⟩:=q
 obtain⟨sub,am,up,sh⟩:=b
 obtain⟨u',rfl,hu⟩:=KS.app up
 obtain⟨I2,R2⟩:=PK
 have he:QP=[]:=by have:=R2.Jf;cases this;rfl
 subst he
 have hx:=am.cur
 refine⟨ry₂.nul h1,h x c₂ ⟨s2,p.ad,Ol,u'⟩ ⟨sub,.rfl,hu,sh⟩ rfl (λi y h=>hx i y ?_) ⟨I2.perm (mid:=[]) ?_,a.rep.mono sub⟩ R2⟩
 ·show((cs++_).map adr)[i]?=some y
  (refine(List.map_append)▸?_);exact h
 ·show(c₂.flatten++[]++(Ol++List.map Prod.snd (pl p.ad.led++u'))).Perm (p.ad.led++(Ol++List.map Prod.snd (pl c₂.flatten++u')))
  have pu:∀(l:Led)(u:dC),List.map Prod.snd (pl l++u)=l++u.map (·.2):=iQ
  rw[pu,pu]
  exact tA
theorem yZ{ps:List Zs}{h0:Expr}{i:E}{r:(List V×List (Nat×V))×St}(hv:Kq C.c i l st=some r)(h:r.1.1=[]):LY (IX C.Y i C.sl ps h0)=[]:=by
 cases i with
 | nil=>rfl
 | pos e r=>exact IJ hv λq hq hv=>JD hv λz hz e'=>by subst e';cases h
 | kw=>rfl
 | _=>exact nS hv
theorem mV(H:Ok C)(hs:C.hs=true)(T:dU C.toWd C.c.fns)(Z:cN C.toWd C.c C.n){q0:Nat}(hi:fj C i):IQ C (.Lj k q0 i):=λe0 hc K st p r Q hv P post=>aEl hc λh1 k2=>aEl k2 λg2 k3=>aEl k3 λg3 g4=>
 IJ hv λg hfg h=>IJ h λPY QF h=>IJ h λw hw h=>IJ h λJ hgw h=>IJ h λz hz h=>IJ h λf hf h=>IJ h λvs N6 h=>IJ h λJ LP h=>IJ h λu hu' h=>Km h λhgu e'=>Km hgw λhgw J=>Km LP λLP J=>aEl hgw λw1 w2=>aEl hgu λu1 u2'=>aEl LP λo1 o2=>by
 subst e'
 obtain⟨rfl,rfl⟩:=km g4
 have Rm:=P.rm hs
 have S:=shape (pos:=e0.pos) i h1 hz
 have hsx:starEach [gE "Rows" [] [] (IS 1 e0)] C.env=[(false,eval (gE "Rows" [] [] (IS 1 e0)) C.env)]:=rfl
 show wpAny C.M K.A (eval (gE "Emitter" [gE "Rows" [] [] (IS 1 e0)] (KW (IX C.Y i C.sl (C.Y.pn (cV+1)) (hJ [] (KW e0)))) e0) C.env) Q K.X p.s
 refine wpAny_Call_Name_kw (cI H g2 P.at' H.K.gEm ?_)
 (refine(hsx)▸?_)
 refine callWith_of (P:=C.Y.K.In) (by (refine(S.kn).symm▸?_);rfl) (keeps_K (H.K.mkI 0 (by decide)).keep) (eW rfl S.ks ?_)
 (refine(S.nm)▸?_)
 refine Calls.spliced_cons ?_
 refine wpAny_Call_Name_kw (cI H g3 P.at' H.K.gRows ?_)
 refine callWith_of (P:=C.Y.K.In) rfl (keeps_K (H.K.mkI 1 (by decide)).keep) (evalArgs_nil3 ⟨P.at'.K H.O,wpAny_call ?_⟩)
 refine kT (p:=p) H hs T Z (n:=1) (by decide) rfl hfg (R:=[]) (cs:=[]) (pos:=[]) (kw:=[]) (ys:=[]) QF hw w1 (List.isEmpty_iff.mp w2) Rm P.at' ⟨.nil,.nil⟩ .nil .nil λxr cr q1 t1 e1 p1 a1 R1=>?_
 have lr1:LR C q1 K.l K.m:=P.lr.to t1
 have fin:∀xs ys (q2:Pt),To (q1.ups (pl cr.flatten++q1.up)) q2->At C K.m z.2 q2->IE (C.V q2) z.1.1 xs->IE (C.V q2) (z.1.2.map (·.2)) ys->codeAny C.M K.A (.call (.ref (C.Y.Jl 0)) ⟨.ref xr::xs,(aA (C.Y.pn (cV+1)) z.1.2).zip ys⟩) (wants Q K.X) q2.s:=λxs ys q2 t2 a2 rx ry=>by
  rw[List.isEmpty_iff.mp o2]at rx
  cases rx
  obtain⟨s2,M3,φ2,u2⟩:=q2
  obtain⟨Qv,am2,up2,sh2⟩:=t2
  obtain⟨u',rfl,hu⟩:=KS.app up2
  refine kT (p:=⟨s2,M3,φ2,u'⟩) H hs T Z (n:=0) (by decide) rfl hf (R:=w.2.cur) (cs:=cr) (pos:=[.ref 0]) (xs:=[.ref xr]) N6 hu' u1 (List.isEmpty_iff.mp u2') Rm a2 (R1.mono Qv) (.cons (kC.mk (p1 0 xr rfl)) .nil) ((gV o1).2 ry) λxe ce q3 t3 e3 p3 a3 R3=>?_
  obtain⟨s3,ad3,φ3,u3⟩:=q3
  cases (show ad3=M3 from e3)
  have hle:M3.am.le ({ M3 with Jf:=M3.Jf++[ce]}:Ad).am:=⟨λJ J h=>h,λn l hl=>⟨l,by
   show((M3.Jf++[ce]).map (·.map adr))[n]?=some l
   have KU:(M3.Jf.map (·.map adr))[n]?=some l:=hl
   (refine(List.map_append)▸?_);exact(List.getElem?_append_left (kj KU).1).trans KU,λJ J h=>h⟩⟩
  refine post (.ref xe) ⟨s3,{ M3 with Jf:=M3.Jf++[ce]},φ3,u3⟩ ⟨λz hz=>t3.sub z (Qv z (t1.sub z hz)),(t1.am.trans am2).trans hle,(t1.up.trans hu).trans t3.up,((t1.trans (⟨Qv,am2,hu,sh2⟩:To q1 ⟨s2,M3,φ2,u'⟩)).trans t3).sh⟩ ⟨a3.inv.perm (mid:=[]) ?_,a2.rep.cur.mono λJ J q=>q.mono t3.sub hle,(a2.rep.Jf.mono λJ J q=>RR.mono t3.sub q).snoc R3.cur⟩ (EmX.mk (l:=ce.map adr) ?_ ?_)
  ·show(M3.led++(φ3++List.map Prod.snd (pl ce.flatten++u3))).Perm ((M3.cur.flatten++(M3.Jf++[ce]).flatten.flatten)++(φ3++u3.map (·.2)))
   have pu:∀(l:Led)(u:dC),List.map Prod.snd (pl l++u)=l++u.map (·.2):=iQ
   (rewrite[pu];refine(List.flatten_append).symm▸?_;refine(List.flatten_append).symm▸?_;refine(List.flatten_cons).symm▸?_;refine(List.flatten_nil).symm▸?_;rw[mh])
   have:=tz (a:=M3.cur.flatten) (b:=M3.Jf.flatten.flatten) (φ:=φ3) (c:=ce.flatten) (u:=u3.map (·.2))
   rw[mh]at this
   exact this
  ·show((M3.Jf++[ce]).map (·.map adr))[z.2.Jf.length]?=_
   (refine(a2.rep.Jf.length)▸?_;refine(List.map_append)▸?_;refine(List.getElem?_append_right (lx (lg _)))▸?_;rewrite[lg];rw[Nat.sub_self]);rfl
  ·refine p3 _ _ ?_
   (refine(R1.cur.length)▸?_;refine(List.getElem?_append_right (lx (lg _)))▸?_;rewrite[lg];rw[Nat.sub_self]);rfl
 have key:=hi (C.Y.pn (cV+1)) (hJ [] (KW e0)) e0.pos h1 hz (p:=q1.ups (pl cr.flatten++q1.up)) ⟨P.rm,lr1,a1⟩ (Q:=λxs ys JU=>C.Y.K.In JU.heap/\wpAny C.M K.A (call (.ref (C.Y.Jl 0)) (.ref xr::xs) ((aA (C.Y.pn (cV+1)) z.1.2).zip ys)) Q K.X JU) λxs ys q2 t2 a2 rx ry=>⟨a2.K H.O,wpAny_call (fin xs ys q2 t2 a2 rx ry)⟩
 rw[yZ hz (List.isEmpty_iff.mp o2)]at key
 exact key
end
end
section
open PySem PySem.W PySem.Calls PyProof.Rows PySem.SeqAt
theorem KS.f{z:Addr×Obj}{u w:dC}(h:KS ((false,z)::u) w):∃w',w=(false,z)::w'/\KS u w':=by
 cases h with
 | @cons _ y _ w' r c=>
  obtain⟨y0,y1,y2⟩:=y
  obtain⟨z1,z2⟩:=z
  cases (show y0=false from r.b)
  cases (show y1=z1 from r.a)
  cases r.o.elim id λh'=>nomatch h'.1
  exact⟨w',Eq.refl _,c⟩
theorem KS.t{z:Addr}{o:Obj}{u w:dC}(h:KS ((true,z,o)::u) w):∃o' w',w=(true,z,o')::w'/\Od (true,z,o) (true,z,o')/\KS u w':=by
 cases h with
 | @cons _ y _ w' r c=>
  obtain⟨y0,y1,y2⟩:=y
  cases (show y0=true from r.b)
  cases (show y1=z from r.a)
  exact⟨y2,w',Eq.refl _,r,c⟩
theorem qH{it:St->Nat->Option (Option V)}{b:V->St->Option (V×St)}{f:Nat}:∀{i:Nat}{st:St}{acc:List V}{r:List V×St},eg it b f i st acc=some r->acc.length<=r.1.length/\r.1.length<=IU:=by
 induction f with
 | zero=>exact λh=>nomatch h
 | succ f ih=>
  intro i st acc r h
  refine IJ h λo ho h=>?_
  cases o with
  | none=>exact Km h λhg e=>by subst e;exact⟨mf _,km hg⟩
  | some x=>
   refine IJ h λq hq h=>IJ h λJ J h=>?_
   have:=ih h
   rw[ky]at this
   exact⟨kg (lw _ _) this.1,this.2⟩
noncomputable abbrev Cf.inner(C:Cf)(x:Zs)(sc:Scope)(L:Addr)(cl:List (Zs×Addr):=[]):Cf:={ C with sl:=[x],sc:=sc,L:=L,fa:=none,cells:=cl}
section
variable{C:Cf}{K:Bk}{m m':Zs->Option Value}{st II:St}{p q:Pt}{v:V}{x y:Value}{e:Expr}{tk:Tok}{i b:E}{k:Nat}{A:Around}{X:Value->Shared->Prop}{G:Prop}
theorem At.pu{u:dC}(a:At C m st p)(h:(p.up.map (·.2)).Perm (u.map (·.2))):At C m st (p.ups u):=⟨a.inv.perm (mid:=[]) ((h.append_left _).append_left _),a.rep⟩
abbrev Nt(C:Cf)(p:Pt)(L:Addr):Prop:=
 (∀z∈p.ad.led++(p.φ++p.ul),z.1≠L)/\
 L≠C.L/\
 C.hB.get? L=none
section
variable{C:Cf}{p:Pt}{L:Addr}(zz:Nt C p L)
def Nt.led:=zz.1
def Nt.fr:=zz.2.1
def Nt.no:=zz.2.2
end
theorem At.but{h':Heap}{L:Addr}(a:At C m st p)(w:Nt C p L)(hs:Heap.SameBut L p.s.heap h'):At C m st (p.mv h' tk p.ad p.φ):=
 ⟨⟨a.inv.fr.change hs w.fr w.no,λz hz=>⟨(hs.2 _ (w.led z hz)).trans (a.inv.nw z hz).1,(a.inv.nw z hz).2⟩,a.inv.nd,a.inv.lo⟩,a.rep⟩
theorem At.L9{z:Addr}{o o':Obj}(a:At C m st (p.wi (z,o)))(k:Upd z o o' (p.ad.led++(p.φ++(z,o)::p.ul)) (p.ad.led++(p.φ++(z,o')::p.ul))->(∀h tk,Fr C.hB C.L h m->News C.hB C.L h (p.ad.led++(p.φ++(z,o')::p.ul))->At C m st ((p.mv h tk p.ad p.φ).wi (z,o')))->G):G:=by
 have e:∀o,p.ad.led++(p.φ++(z,o)::p.ul)=(p.ad.led++p.φ)++(z,o)::p.ul:=λo=>(lu _ _ _).symm
 have nd:((p.ad.led++(p.φ++(z,o)::p.ul)).map (·.1)).Nodup:=a.inv.nd
 have lo:∀w∈p.ad.led++(p.φ++(z,o)::p.ul),C.hB.objs.size<=w.1:=a.inv.lo
 rw[e]at nd lo
 have U:=Upd.at (o':=o') _ nd
 rw[<- e,<- e]at U
 refine k U λh tk F N=>⟨⟨F,N,?_,λw hw=>?_⟩,a.rep⟩
 ·show((p.ad.led++(p.φ++(z,o')::p.ul)).map (·.1)).Nodup
  (rewrite[e];refine(List.map_append)▸?_;refine(List.map_cons)▸?_);rw[List.map_append,List.map_cons]at nd;exact nd
 ·have hw:w∈p.ad.led++(p.φ++(z,o')::p.ul):=hw
  rw[e]at hw
  exact(mx hw).elim (λh=>lo w (lh (.inl h))) λh=>(kq h).elim (λe=>by subst e;exact lo (z,o) (lh (.inr (.head _)))) λh=>lo w (lh (.inr (.tail _ h)))
noncomputable abbrev Pt.c3(q:Pt)(a b c:Addr×Obj)(t:Bool):Pt:=q.ups ((t,a)::(false,b)::(false,c)::q.up)
theorem To.c3{p q:Pt}{L:Addr}{oL:Obj}{b c:Addr×Obj}{G:Pt->Prop}(t:To (p.c3 (L,oL) b c true) q)(k:∀oL' q',To p q'->Od (true,L,oL) (true,L,oL')->G (q'.c3 (L,oL') b c true)):G q:=by
 obtain⟨s4,ad4,φ4,u4⟩:=q
 obtain⟨oL4,u5,e,sl4,up5⟩:=KS.t (u:=(false,b)::(false,c)::p.up) (w:=u4) t.up
 subst e
 obtain⟨u6,e,up6⟩:=KS.f up5
 subst e
 obtain⟨u7,e,up7⟩:=KS.f up6
 subst e
 exact k oL4 ⟨s4,ad4,φ4,u7⟩ ⟨t.sub,t.am,up7,t.sh⟩ sl4
theorem jz{a b c:Addr×Obj}{u:Led}:(a::b::c::u).Perm (c::a::b::u):=(List.Perm.cons _ (List.Perm.swap _ _ _)).trans (List.Perm.swap _ _ _)
theorem Bl{a b c:Addr×Obj}{u:Led}:(c::a::b::u).Perm (a::b::c::u):=jz.symm
inductive CI(C D:Cf)(K:Bk)(p:Pt)(oL:Obj)(z it:Addr)(IT:Nat->Obj->Prop)(r:List V×St)(g:Nat->St->List V->Option (List V×St)):Shared->Prop
 | mk {lv m st q j o oL' acc ys kk}:To p q->Od (true,C.L,oL) (true,C.L,oL')->Pre D (K.at [lv] m) st (q.c3 (C.L,oL') (z,aK ys kk) (it,o) true)->IT j o->g j st acc=some r->IE (C.V q) acc ys->CI C D K p oL z it IT r g q.s
theorem vX{xs:List Value}{n:Nat}{D L:Addr}{hB:Heap}{s:Shared}{news MG:Led}{Q:Value->Shared->Prop}(F:Fr hB L s.heap m)(N:News hB L s.heap news)(U:Upd D (aK xs n) (aK (xs++[y]) (n+1)) news MG)(hz:xs.length<=sizeLine)(h:∀h',Fr hB L h' m->News hB L h' MG->Q .none { s with heap:=h'}) :
  wpAny C.M A (call (.builtin "list.append") [.ref D,y]) Q X s:=append_K (its:=xs.toArray) F N (by rw[kE];exact U) h hz
set_option tactic.hygienic true in
theorem ja(H:Ok C){x:Zs}{Kf sc:Scope}{cl:List (Zs×Addr)}{iter e0:Expr}{px pos:Pos}(hb:∀L,IQ (C.inner x sc L cl) b)(hk:Jy C.Y sc b [x] [] e0=true)(hn0:∀w∈Kf.names,w.2≠.cell)(N8:Kf.kind=.function)(NC:sc.kind=.function)(hx:sc.names.lookup x=some .local)(hdb:(x==("__debug__" : Zs))=false)
  {it:Addr} {o:Obj} {IT:Nat->Obj->Prop} {go:St->Nat->Option (Option V)} {wf:Nat} {r:List V×St} (rm:KA K.A C.n) (a1:At C K.m st (p.wi (it,o))) (Kz:IT 0 o) (hcr:∀L,CR (C.inner x sc L cl) p)
  (next:∀{L:Addr}{X:Value->Shared->Prop}{Q:Option Value->Shared->Prop}{q:Pt}{m:Zs->Option Value}{st:St}{o:Obj}{j:Nat}{w:Option V},(∀v y,C.V p v y->C.V q v y)->At (C.inner x sc L cl) m st (q.wi (it,o))->IT j o->go st j=some w->
   (w=none->∀h',Heap.ExtBut it q.s.heap h'->Q none { q.s with heap:=h'})->
   (∀u,w=some u->∀h' y tk o',h'.get? it=some o'->IT (j+1) o'->Heap.SameBut it q.s.heap h'->C.V q u y->Q (some y) { q.s with heap:=h',toks:=tk})->wpAny C.M K.A (pyNext (.ref it)) Q X q.s)
  (self:∀{X Q:Value->Shared->Prop}{s:Shared},s.heap.get? it=some o->Q (.ref it) s->wpAny C.M K.A (pyIter (.ref it)) Q X s)
  (hv:eg go (λx st=>IK C.c b [x] st) wf 0 st []=some r) {RR:Value->Env->Result->Shared->Prop}
  (post:∀(ce:Env) z m₂ q ys kk,To p q->At C K.m r.2 (q.wi (z,aK ys kk))->Nt C (q.wi (z,aK ys kk)) ce.locals->q.s.heap.Ns ce.locals m₂->IE (C.V q) r.1 ys->r.1.length<=IU->RR (.ref z) ce (.ok .next) q.s) :
  wpAny C.M K.A (newList []) (λacc Qu=>wpAny C.M K.A (newFunctionEnv Kf C.env.globals cl [] C.env.qual none .none (some C.env)) (λOU Qt=>
   codeAny C.M K.A (.compStart (.ListComp (IX C.Y b [x] [] e0) [⟨.Name x px,iter,[],0⟩] Kf pos) 0 (.ref it) acc { OU with scope:=sc}) (RR acc OU) Qt) K.X Qu) K.X p.s:=by
 refine newList_N a1.inv.fr a1.inv.nw (λh2 F2 N2=>?_) (mi _)
 have a2:At C K.m st ((p.mv h2 p.s.toks p.ad p.φ).ups ((false,p.s.heap.objs.size,aK [] 0)::(false,it,o)::p.up)):=⟨a1.inv.one (mf _) F2 N2 aC,a1.rep⟩
 dsimp only
 generalize p.s.heap.objs.size=z at*
 refine wpAny_newFunctionEnv hn0 (λw hw=>(mn hw).elim) (λh3 hns NA=>?_) N8
 dsimp only at hns NA ⊢
 have J6:∀b o,h2.get? b=some o->h3.get? b=some o:=λb o e=>NA.extBut b o (Nat.ne_of_lt (Heap.lt_size e)) (Heap.get?_push_of_some _ e)
 refine KJ λhG=>?_
 obtain⟨oL,es,ep,hL,hd,hr⟩:=a2.inv.fr.ns
 refine hG ?_
 clear hG
 have noL:C.hB.get? C.L=none:=Heap.get?_none_of_le a2.inv.fr.above
 have hCb:C.hB.objs.size<=h2.objs.size:=a2.inv.above
 have a3:At (C.inner x sc h2.objs.size cl) _ st ((p.mv h3 p.s.toks p.ad p.φ).c3 (C.L,oL) (z,aK [] 0) (it,o) true):=⟨⟨⟨hns,λb o e=>J6 _ _ (a2.inv.fr.keep b o e),hCb⟩,λw hw=>?_,dI.nodup_iff.mpr (List.nodup_cons.mpr ⟨λNW=>(List.mem_map.mp NW).elim λw h=>(a2.inv.nw w h.1).2.1 h.2,a2.inv.nd⟩),λw hw=>?_⟩,a1.rep⟩
 rotate_left
 ·refine(kq (aC.mem_iff.mp hw)).elim (λe=>by subst e;exact⟨J6 _ _ hL,Nat.ne_of_lt (Heap.lt_size hL),noL⟩) λhw=>?_
  have h:=a2.inv.nw w hw
  exact⟨J6 _ _ h.1,Nat.ne_of_lt (Heap.lt_size h.1),h.2.2⟩
 ·exact(kq (aC.mem_iff.mp hw)).elim (λe=>by subst e;exact a2.inv.fr.above) (a2.inv.lo w)
 generalize h2.objs.size=L at*
 have hC0:C.hB.get? L=none:=Heap.get?_none_of_le hCb
 have H':Ok (C.inner x sc L cl):=⟨H.O,H.K,NC,List.nodup_cons.mpr ⟨mn,.nil⟩,λw hw=>by (refine(ku hw).symm▸?_);exact⟨hx,hdb⟩⟩
 generalize hce:newEnv Kf L C.env.globals cl C.env.qual none .none (some C.env) builtinsNs=ce
 have hcl:ce.locals=L:=by (refine(hce)▸?_);rfl
 have loop:codeAny C.M K.A (.compLoop (.ListComp (IX C.Y b [x] [] e0) [⟨.Name x px,iter,[],0⟩] Kf pos) 0 (.ref it) (.ref z) (C.inner x sc L cl).env) (RR (.ref z) ce) { p.s with heap:=h3}:=by
  refine codeAny_compLoop_list (λf=>CI C (C.inner x sc L cl) K p oL z it IT r (λj st acc=>eg go (λx st=>IK C.c b [x] st) f j st acc)) (λf s' hI=>?_) wf (.mk (q:=p.mv h3 p.s.toks p.ad p.φ) (lv:=.uu) .h ⟨rfl,rfl,.inl rfl⟩ ⟨λJ=>rm,⟨λi v h h'=>?_,hcr L⟩,a3⟩ Kz hv .nil)
  ·refine KJ λhG=>?_
   obtain⟨t1,sl1,P1,hst1,N7,Ml⟩:=hI
   refine hG ?_
   clear hG
   rename_i lv m1 NN q1 j1 o1 P6 acc1 ys kk
   cases f with
   | zero=>exact nS N7
   | succ f=>
   refine IJ N7 λu hu N7=>next (q:=q1.ups ((true,C.L,P6)::(false,z,aK ys kk)::q1.up)) (λv y r=>t1.vr r) (P1.at'.pu (u:=(false,it,o1)::(true,C.L,P6)::(false,z,aK ys kk)::q1.up) jz) hst1 hu (λe1 J7 QM=>?_) λu' e1 J7 xv MA Ov OG Nc QG rx=>?_
   ·subst e1
    refine Km N7 λhg e2=>?_
    subst e2
    have Q8:At (C.inner x sc L cl) m1 NN ((q1.mv J7 q1.s.toks q1.ad q1.φ).ups ((true,C.L,P6)::(false,z,aK ys kk)::q1.up)):=⟨(P1.at'.pu (u:=(false,it,o1)::(true,C.L,P6)::(false,z,aK ys kk)::q1.up) jz).inv.OQ QM,P1.at'.rep⟩
    have B:=At.back (C:=C) (D:=C.inner x sc L cl) (m:=K.m) rfl hd hr a2.inv.fr.above Q8 (u:=(false,z,aK ys kk)::q1.up) (.cons sl1 KS.rfl)
    refine post ce z m1 (q1.mv J7 q1.s.toks q1.ad q1.φ) ys kk (t1.trans .h) B.2 (hcl▸⟨λw hw=>(Q8.inv.nw w ?_).2.1,?_,hC0⟩) (hcl▸Q8.inv.fr.ns) Ml (km hg)
    ·exact aC.mem_iff.mpr (.tail _ hw)
    ·exact Ne.symm (Q8.inv.nw (C.L,P6) (aC.mem_iff.mpr (.head _))).2.1
   ·subst e1
    have P2:Pre (C.inner x sc L cl) (K.at [lv] m1) NN ((q1.mv J7 MA q1.ad q1.φ).c3 (C.L,P6) (z,aK ys kk) (it,Ov) true):=⟨P1.rm,P1.lr,At.pu (p:=(q1.mv J7 MA q1.ad q1.φ).ups ((false,it,Ov)::(true,C.L,P6)::(false,z,aK ys kk)::q1.up)) ⟨(P1.at'.pu (u:=(false,it,o1)::(true,C.L,P6)::(false,z,aK ys kk)::q1.up) jz).inv.L9 QG OG,P1.at'.rep⟩ Bl⟩
    refine jn (C:=C.inner x sc L cl) (e:=.Name "" px) (k:=0) (v:=u') (y:=xv) H' (show 0 < 1 from Nat.zero_lt_one) P2 rx λm3 q3 t3 P3=>?_
    refine IJ N7 λw hw N7=>IJ N7 λJ J N7=>?_
    refine(hb L).x hk hw P3.rm P3.lr P3.at' λyv q4 t4 a4 rv=>?_
    refine To.c3 (G:=λq4=>At (C.inner x sc L cl) m3 w.2 q4->(C.inner x sc L cl).V q4 w.1 yv->LR (C.inner x sc L cl) q4 [u'] m3->wpAny _ _ _ _ _ q4.s) (t3.trans t4) (λoL4 q5 t8 sl4 a4 rv lr4=>?_) a4 rv (P3.lr.to t4)
    have t7:To q1 q5:=To.h.trans t8
    have a5:At (C.inner x sc L cl) m3 w.2 ((q5.ups ((true,C.L,oL4)::(false,it,Ov)::q5.up)).wi (z,aK ys kk)):=a4.pu (List.Perm.swap _ _ _)
    have hal:=qH N7
    rw[ky]at hal
    have hys:ys.length+1<=IU:=Ml.length▸kg hal.1 hal.2
    refine a5.L9 (o':=aK (ys++[yv]) (kk+1)) λU go=>?_
    refine vX a5.inv.fr a5.inv.nw U (cW (mq hys)) λh₅ F' N'=>?_
    exact⟨f,Nat.lt_succ_self f,   .mk (q:=q5.mv h₅ q5.s.toks q5.ad q5.φ) (t1.trans (t7.trans .h)) (sl1.trans sl4) ⟨P3.rm,lr4,(go h₅ q5.s.toks F' N').pu (List.Perm.swap _ _ _)⟩ Nc N7 ((t7.all Ml).snoc rv)⟩
  ·cases i with
   | zero=>obtain rfl:=ke h;exact(h' rfl).elim
   | succ i=>exact nS h
 subst hce
 have hit:h3.get? it=some o:=(a3.inv.nw (it,o) (aC.mem_iff.mpr (.tail _ (lh (.inr (lh (.inr (.tail _ (.head _))))))))).1
 exact codeAny_compStart_list loop (self hit loop)
set_option tactic.hygienic true in
theorem nI(H:Ok C)(hs:C.hs=true){x:Zs}{sc:Scope}{iter e0:Expr}{px pos:Pos}(hb:∀L,IQ (C.inner x sc L) b)(hk:Jy C.Y sc b [x] [] e0=true)(LP:m9 sc x=true){l:Nat×List V}{r:List V×St}(rm:KA K.A C.n)(a:At C K.m st p)(ry:C.V p v y)(hl:aP st v=some l)
  (hv:eg (itemAt v) (λx st=>IK C.c b [x] st) C.c.wf 0 st []=some r) {RR:Value->Env->Result->Shared->Prop}
  (post:∀(ce:Env) z m₂ q ys kk,To p q->At C K.m r.2 (q.wi (z,aK ys kk))->Nt C (q.wi (z,aK ys kk)) ce.locals->q.s.heap.Ns ce.locals m₂->IE (C.V q) r.1 ys->r.1.length<=IU->RR (.ref z) ce (.ok .next) q.s) :
  wpAny C.M K.A (pyIter y) (λit JU=>wpAny C.M K.A (newList []) (λacc Qu=>wpAny C.M K.A (newFunctionEnv sc C.env.globals [] [] C.env.qual none .none (some C.env)) (λOU Qt=>
   codeAny C.M K.A (.compStart (.ListComp (IX C.Y b [x] [] e0) [⟨.Name x px,iter,[],0⟩] sc pos) 0 it acc { OU with scope:=sc}) (RR acc OU) Qt) K.X Qu) K.X JU) K.X p.s:=aEl LP λLP hdb=>aEl LP λLP hx=>aEl LP λMk NC=>by
 have hnc:∀w∈sc.names,w.2≠.cell:=λw hw=>aEl (mc Mk w hw) λh J=>aEl h λJ h e=>(by rw[e]at h;exact JA h)
 obtain⟨la,rfl⟩:∃la,y=.ref la:=a.lst hl ry λla J J J J J J=>⟨la,rfl⟩
 obtain⟨w0,hw0⟩:∃w,itemAt v st 0=some w:=by
  revert hv
  cases C.c.wf with
  | zero=>exact nofun
  | succ n=>exact λhv=>IJ hv λw hw J=>⟨w,hw⟩
 refine iX a ry hw0 λo hfr Kz=>?_
 refine ja (p:=p.mv (p.s.heap.push o) p.s.toks p.ad p.φ) H hb hk hnc (lf NC) (lf NC) (lf hx) (lq hdb) (IT:=Q3 (.ref la)) rm ⟨a.inv.addUp o hfr,a.rep⟩ Kz (λL=>CR.no hnc) (λsub a hI hw h0 h1=>iW (C:=C.inner x sc _) rm.h a (sub _ _ ry) hI hw h0 h1) (λhg h=>?_) hv λce z m₂ q ys kk t=>post ce z m₂ q ys kk (To.h.trans t)
 cases Kz with
 | lst e hS=>exact wpAny_pyIter_listiter (l:=_) (i:=0) ⟨o,hg,hS⟩ h
 | str e _=>cases e
theorem lQ{z:Addr}{ys:List Value}{kk:Nat}{acc:List V}(a:At C m st (p.wi (z,aK ys kk)))(Ml:IE (C.V p) acc ys)(hl:acc.length<=IU)
  (k:To p (p.mv p.s.heap tk (p.ad.add [(z,aK ys kk)]) p.φ)->At C m (alloc st (.lst acc)).2 (p.mv p.s.heap tk (p.ad.add [(z,aK ys kk)]) p.φ)->C.V (p.mv p.s.heap tk (p.ad.add [(z,aK ys kk)]) p.φ) (alloc st (.lst acc)).1 (.ref z)->G):G:=by
 have I:Inv C.hB C.L m p.s.heap (p.ad.add [(z,aK ys kk)]) (p.φ++p.ul):=a.inv.perm (mid:=[]) (aC.trans (Ad.K4 (c:=[(z,aK ys kk)])).symm)
 have ml:=Ad.Mn (ad:=p.ad) (c:=[(z,aK ys kk)])
 refine k (.mv (λJ h=>h) ml) ⟨I,(a.rep.cur.mono λJ J q=>q.mono (λJ h=>h) ml).snoc (.lst (Ml.mono λJ J q=>q.mono (λJ h=>h) ml) hl),a.rep.Jf⟩ (kC.mk ?_)
 show((p.ad.cur++[_]).map adr)[st.cur.length]?=_
 (refine(a.rep.cur.length)▸?_;refine(List.map_append)▸?_;refine(List.getElem?_append_right (lx (lg _)))▸?_;rewrite[lg];rw[Nat.sub_self]);rfl
theorem m8{sc:Scope}{x:Zs}(LP:m9 sc x=true):(∀y∈sc.names,y.2≠.free)/\sc.kind=.function/\∀y∈sc.names,y.2=.local->sc.names.lookup y.1=some .local:=aEl LP λLP J=>aEl LP λLP J=>aEl LP λhn hk=>
 ⟨λy hy=>aEl (mc hn y hy) λh J=>aEl h λh J e=>(by rw[e]at h;exact JA h),lf hk,λy hy e=>aEl (mc hn y hy) λJ h=>(my h).elim (λh=>(by rw[e]at h;exact JA h)) lf⟩
noncomputable def nJ(cs:List (Zs×Addr)):List (Zs×NameKind)->List (Zs×Addr)->List (Zs×Addr)
 | [],acc=>acc
 | (n,k)::r,acc=>if k==.free then nJ cs r ((n,(cs.lookup n).getD 0)::acc) else nJ cs r acc
theorem il{env:Env}{f:Zs×NameKind->List (Zs×Addr)->Sem (ForInStep (List (Zs×Addr)))}(hf:∀n k cs,f (n,k) cs=if k==.free then(do let a <- cellOf env n;pure (.yield ((n,a)::cs))) else pure (.yield cs)) :
  ∀(l:List (Zs×NameKind))(acc:List (Zs×Addr)),(∀y∈l,y.2=.free->∃a,env.cells.lookup y.1=some a)->(forIn l acc f:Sem _)=pure (nJ env.cells l acc)
 | [],acc,_=>by rw[List.forIn_nil];rfl
 | (n,k)::r,acc,h=>by
  rw[List.forIn_cons,hf]
  unfold nJ
  by_cases hk:(k==NameKind.free)=true
  ·obtain⟨a,ha⟩:=h (n,k) (.head _) (lf hk)
   have hc:cellOf env n=pure a:=by unfold cellOf;rw[show env.cells.lookup n=some a from ha]
   rw[if_pos hk,if_pos hk,hc,pure_bind,pure_bind,show env.cells.lookup n=some a from ha]
   exact il hf r _ λy hy=>h y (.tail _ hy)
  ·rw[if_neg hk,if_neg hk,pure_bind]
   exact il hf r _ λy hy=>h y (.tail _ hy)
theorem lV{env:Env}{sc:Scope}(h:∀y∈sc.names,y.2=.free->∃a,env.cells.lookup y.1=some a):closureFor sc env=pure (nJ env.cells sc.names []):=by
 show(forIn sc.names [] _ >>= λcs=>pure cs)=_
 rw[il (env:=env) (λn k cs=>?_) _ _ h,pure_bind]
 cases hk:k==NameKind.free <;> simp[hk]
theorem fP{cs:List (Zs×Addr)}{x:Zs}{a:Addr}(hx:cs.lookup x=some a):∀(l:List (Zs×NameKind))(acc:List (Zs×Addr)),(∀y∈acc,cs.lookup y.1=some y.2)->(∀y∈l,y.2=.free->∃a,cs.lookup y.1=some a)->(x∈acc.map (·.1)∨(x,.free)∈l)->(nJ cs l acc).lookup x=some a
 | [],acc,h1,_,h=>by
  show acc.lookup x=some a
  cases hl:acc.lookup x with
  | some b=>rw[<- hx,h1 _ (mem_of_lookup hl)]
  | none=>
   obtain⟨y,hy,e⟩:=List.mem_map.mp (h.resolve_right (λh=>nomatch h))
   have:=(List.lookup_eq_none_iff.mp hl) y hy
   rw[e]at this
   exact JA ((bne_self_eq_false x).symm.trans this)
 | (n,k)::r,acc,h1,h2,h=>by
  unfold nJ
  by_cases hk:(k==NameKind.free)=true
  ·rw[if_pos hk]
   obtain⟨b,hb⟩:=h2 (n,k) (.head _) (lf hk)
   refine fP hx r _ (λy hy=>(kq hy).elim (λe=>by rw[e,show cs.lookup n=some b from hb];rfl) (h1 y)) (λy hy=>h2 y (.tail _ hy)) (h.elim (λh=>.inl (.tail _ h)) λh=>(kq h).elim (λe=>.inl (by rw[(Prod.mk.inj e).1];exact .head _)) .inr)
  ·rw[if_neg hk]
   refine fP hx r _ h1 (λy hy=>h2 y (.tail _ hy)) (h.elim .inl λh=>(kq h).elim (λe=>(hk (by rw[<- (Prod.mk.inj e).2];rfl)).elim) .inr)
theorem tG{Kf sc:Scope}{x:Zs}(LP:DH Kf sc x=true):(∀y∈sc.names,y.2≠.cell)/\(∀y∈sc.names,y.2=.free->Kf.names.lookup y.1=some .cell)/\(∀y∈sc.names,y.2=.local->sc.names.lookup y.1=some .local)/\sc.kind=.function/\sc.names.lookup x=some .local/\(x==("__debug__" : Zs))=false:=aEl LP λh1 h2=>aEl h2 λh2 h3=>aEl h3 λh3 h4=>
 ⟨λy hy=>aEl (mc h1 y hy) λh J e=>(by rw[e]at h;exact JA h),
  λy hy e=>aEl (mc h1 y hy) λJ h=>aEl h λh J=>(my h).elim (λh=>(by rw[e]at h;exact JA h)) lf,
  λy hy e=>aEl (mc h1 y hy) λJ h=>aEl h λJ h=>(my h).elim (λh=>(by rw[e]at h;exact JA h)) lf,
  lf h2,lf h3,lq h4⟩
theorem qe(H:Ok C)(hs:C.hs=true)(hi:IQ C i)(hb:∀x sc L cl,sc.kind=.function->sc.names.lookup x=some .local/\(x==("__debug__" : Zs))=false->IQ (C.inner x sc L cl) b):IQ C (.comp i b):=λe0 hc K st p r Q hv P post=>aEl hc λh1 h2=>aEl h2 λh2 h3=>aEl h3 λh3 h4=>IJ hv λw hw hl=>IJ hl λN hN hl=>IJ hl λJ hb1 hl=>JD hl λz hz e'=>Km hb1 λPC J=>aEl PC λh5 h6=>by
 subst e'
 have h5:=km h5
 have h6:=km h6
 obtain⟨o1,o2,o3,o4,o5,o6⟩:=tG h3
 have NF:∀y∈(Ma e0).names,y.2=.free->∃a,C.env.cells.lookup y.1=some a:=λy hy e=>(P.lr.2 y.1 (o2 y hy e)).imp λca z=>z.elim λ_ z=>z.elim λ_ z=>z.1
 have hrel:relabel (Ma e0) C.env=rlS (Ma e0):=kh (λns=>{ Ma e0 with names:=ns}) (List.map_congr_left λy hy=>by
  obtain⟨n,k⟩:=y
  show(if (k==NameKind.free&&C.sc.kind==.function&&C.sc.names.lookup n==some .cell)=true then(n,NameKind.cell) else(n,k))=if (k==NameKind.free)=true then(n,.cell) else(n,k)
  cases hk:k==NameKind.free with
  | false=>rfl
  | true=>rw[H.hk,o2 (n,k) hy (lf hk)];rfl)
 have hx:(rlS (Ma e0)).names.lookup (Nw (IS 1 e0))=some .local:=hrel▸lookup_relabel_local (env:=C.env) o5
 show wpAny C.M K.A (eval (.ListComp _ _ _ _) C.env) Q K.X p.s
 rw[eval_ListComp]
 refine wpAny_comprehension_free (use:=none) rfl (λx=>rfl) (lV NF) o4 o3 ?_
 refine eG H h4 (by simp) (id:=.type "range") (by boot_by_name) (by decide) P.at' [_] ?_
 (refine(jg (bf i h1))▸?_)
 refine PySem.callWith_type rfl (Calls.evalArgs_plain (Calls.spliced_cons (hi _ h1 hw P λy q t a ry=>Calls.spliced_nil ?_)))
 cases ry.int hN with | mk tN=>
 refine call_range_1 (wpAny_pyIter_range (IsRange.new ..) (small_one (by decide) (by decide) (by omega) (by omega)) ?_)
 have hsz:Builtin.Range.rangeSize 0 N 1=(N.toNat:Int):=by rw[rangeSize_one];split <;> omega
 (refine(hsz)▸?_)
 have a1:=a.push (t0:=q.s.toks+2) { cls:=.type "range",data:=.fields #[.int 0 q.s.toks,.int N tN,.int 1 (q.s.toks+1)]}
 rw[hrel]
 refine ja (p:=(q.mv (q.s.heap.push _) _ q.ad q.φ).mv ((q.s.heap.push _).push _) _ q.ad q.φ) (go:=dY N) (IT:=RgR N) (Kf:=Ma e0) (sc:=rlS (Ma e0)) (RR:=λacc ce=>compPost C.M K.A K.X none Q acc ce.locals) H (λL=>hb _ _ L _ o4 ⟨hx,o6⟩) h2 o1 o4 o4 hx o6 (P.rm hs) ⟨a1.inv.addUp _ rfl,a1.rep⟩ (show _=_ by simp) (λL n hn=>?_) (λ{L} {X} {Q} {q'} {m} {st} {o} {j} {w} sub a' hI hw h0 h1=>?_) (λhg h=>wpAny_pyIter_rangeiter hg h) hz λce z m₂ q2 ys kk t2 a2 aw hn Ml hle=>⟨m₂,hn,λNT hs3=>?_⟩
 ·obtain⟨y,hy,e⟩:=List.mem_map.mp (mem_of_lookup hn)
  cases hk:y.2==NameKind.free with
  | false=>
   rw[hk]at e
   exact(o1 y hy (by rw[show y=(n,NameKind.cell) from e])).elim
  | true=>
   rw[hk]at e
   have e:(y.1,NameKind.cell)=(n,NameKind.cell):=e
   obtain rfl:=(Prod.mk.inj e).1
   have hf:=lf hk
   obtain⟨ca,oc,x,f1,f2,f3,f4⟩:=P.lr.2 y.1 (o2 y hy hf)
   exact⟨ca,oc,x,fP f1 _ _ (λ_ h=>nomatch h) NF (.inr (by rw[<- hf];exact hy)),t.sub _ f2,f3,t.vr f4⟩
 ·obtain rfl:=hI
  have hit:=a'.inv.L3.1
  obtain rfl:=ke hw
  by_cases J5:(j:Int) < N
  ·rw[if_pos J5]at h0 h1
   refine wpAny_pyNext_range_item hit (by omega) λh' PA NA=>h1 _ rfl h' _ _ _ PA ?_ NA (dk.mk _)
   unfold RgR
   rw[show(N.toNat:Int) - (j:Int) - 1=(N.toNat:Int) - ((j+1:Nat):Int) from by omega];rfl
  ·rw[if_neg J5]at h0
   exact wpAny_pyNext_range_end (P.rm hs).h hit (by omega) (h0 rfl)
 ·have a3:At C K.m _ ((q2.mv NT q2.s.toks q2.ad q2.φ).wi (z,aK ys kk)):=a2.but aw hs3
  exact lQ (p:=q2.mv NT q2.s.toks q2.ad q2.φ) (tk:=q2.s.toks) a3 Ml hle λt4 a4 r4=>post _ _ (((((t.trans .h).trans .h).trans t2).trans .h).trans t4) a4 r4
theorem qd(H:Ok C)(hs:C.hs=true)(hi:IQ C i)(hb:∀x sc L,sc.kind=.function->sc.names.lookup x=some .local/\(x==("__debug__" : Zs))=false->IQ (C.inner x sc L) b):dD C (.N0 k i b):=λs0 hc K st p r Q hv P post=>aEl hc λhc hsw=>aEl hsw λhk hsw=>aEl hc λh1 h2=>aEl h2 λh2 h3=>JD hv λw0 hw0 e'=>IJ hw0 λw hw h=>IJ h λl hl h=>JD h λz hz e''=>by
 subst e';subst e''
 have hk:=km hk
 have hx:=kx hk
 have Ng:=(H.lc _ (ly hx)).1
 have hg:C.sl.getD k "" = C.sl[k]:=dB hx
 rw[<- hg]at Ng
 obtain⟨o1,o2,o3⟩:=m8 h3
 have hswap:swapsWith (PZ C.Y i b C.sl (az 0 s0)) (some (nE (C.sl.getD k "") (az 1 s0))) s0.pos.line C.env=pure true:=by
  show pure (C.env.blockKind==.function&&C.env.kindOf (C.sl.getD k "")==some .local&&(az 1 s0).pos.line==(az 0 s0).pos.line&&!((Ma (az 0 s0)).names.any λy=>y.1==C.sl.getD k "" && (y.2==.local||y.2==.cell)))=pure true
  have e1:C.env.blockKind=.function:=by
   show(if C.sc.kind.isAnnotationScope then ScopeKind.function else C.sc.kind)=.function
   (refine(H.hk).symm▸?_);rfl
  (refine(e1).symm▸?_;rewrite[show C.env.kindOf (C.sl.getD k "")=some .local from Ng];rewrite[Bool.and_assoc];rw[show((az 1 s0).pos.line==(az 0 s0).pos.line&&!((Ma (az 0 s0)).names.any λy=>y.1==C.sl.getD k "" && (y.2==.local||y.2==.cell)))=true from hsw]);rfl
 show wpAny C.M K.A (exec (.Assign [.Name (C.sl.getD k "") (az 1 s0).pos] (PZ C.Y i b C.sl (az 0 s0)) s0.pos) C.env) Q K.X p.s
 (refine(exec_Assign_Name_used _ _ _ _ hswap)▸?_)
 refine wpAny_bind (wpAny_standAt (wpAny_bind ?_))
 show wpAny _ K.A (do let _ <- comprehension (.ListComp (IX C.Y b [Nw (IS 1 (az 0 s0))] [] (IS 0 (az 0 s0))) [⟨nE (Nw (IS 1 (az 0 s0))) (IS 1 (az 0 s0)),IX C.Y i C.sl [] (IS 2 (az 0 s0)),[],0⟩] (Ma (az 0 s0)) (az 0 s0).pos) (Ma (az 0 s0)) C.env _ (newList []) false (eval (IX C.Y i C.sl [] (IS 2 (az 0 s0))) C.env) (some (assign (nE (C.sl.getD k "") (az 1 s0)) C.env))) _ _ p.s
 refine wpAny_bind (wpAny_mono (wpAny_comprehension_use (Q:=λJ s'=>Q .next s') rfl (sU (bf i h1) _) o1 o2 o3 (hi _ h1 hw P λy q t a ry=>?_)) (λJ s' hq=>wpAny_pure (wpAny_pure hq)) λJ J e=>e)
 refine nI H hs (λL=>hb _ _ L o2 (aEl h3 λh3 h5=>aEl h3 λJ h4=>⟨lf h4,lq h5⟩)) h2 h3 (P.rm hs) a ry hl hz (RR:=λacc ce rs s'=>match rs with
   | .ok _=>wpAny C.M K.A (assign (nE (C.sl.getD k "") (az 1 s0)) C.env acc) (λJ K1=>∃m,K1.heap.Ns ce.locals m/\∀h',Heap.SameBut ce.locals K1.heap h'->Q .next { K1 with heap:=h'}) K.X s'
   | .error x=>∃m,s'.heap.Ns ce.locals m/\∀h',Heap.SameBut ce.locals s'.heap h'->wpAny C.M K.A (PySem.passOn "comprehension.variables-let-go" x { ce with scope:=Ma (az 0 s0)}) (λJ s'=>Q .next s') K.X { s' with heap:=h'}) λce z m₂ q2 ys kk t2 a2 aw hn Ml hle=>?_
 refine wpAny_assign_Name (wpAny_storeName_local (env:=C.env) Ng a2.inv.fr.ns (λNT hn₃ OD=>?_) (by show(C.sc.kind==.class||(C.sc.kind==.module&&C.L != mainGlobals))=false;(refine(H.hk)▸?_);rfl))
 refine⟨m₂,hn.sameBut OD aw.fr,λh₄ hs₄=>?_⟩
 have a3:At C _ _ ((q2.mv NT q2.s.toks q2.ad q2.φ).wi (z,aK ys kk)):=⟨⟨a2.inv.fr.set hn₃ OD,a2.inv.nw.set OD,a2.inv.nd,a2.inv.lo⟩,a2.rep⟩
 have a4:=a3.but (tk:=q2.s.toks+1) ⟨aw.led,aw.fr,aw.no⟩ hs₄
 exact lQ (p:=q2.mv h₄ (q2.s.toks+1) q2.ad q2.φ) (tk:=q2.s.toks+1) a4 Ml hle λt5 a5 r5=>by
  have tt:=((t.trans t2).trans (.h (t0:=q2.s.toks+1) (h:=h₄))).trans t5
  have lr:=LR.store (P.lr.to tt) H.nd hx r5
  rw[<- hg]at lr
  exact post _ _ tt ⟨P.rm,lr,a5⟩
end
end
section
open PySem PySem.W PySem.Calls PyProof.Rows
abbrev Hy(C:Cf):Prop:=
 Ok C/\
 C.hs=true/\
 dU C.toWd C.c.fns/\
 (∀(k:Nat)(q:Fn×List Nat),C.c.Jx[k]?=some q->JL C.toWd k q)/\
 cN C.toWd C.c C.n
section
variable{C:Cf}(zz:Hy C)
def Hy.ok:=zz.1
def Hy.hs:=zz.2.1
def Hy.T:=zz.2.2.1
def Hy.N:=zz.2.2.2.1
def Hy.Z:=zz.2.2.2.2
end
structure All(C:Cf)(i:E):Prop where
 e:IQ C i
 t:JI C i
 k:v9 C i
 l:fj C i
section
variable{C:Cf}{i:E}
theorem All.pl(H:Hy C)(he:IQ C i)(hp:∀e0,Jy C.Y C.sc i C.sl [] e0=true->dZ (IX C.Y i C.sl [] e0)=true)(hl:∀{l:List V}{st:St},Kq C.c i l st=none):All C i:=
 ⟨he,gp H.ok hp he,λJ J J J J J J J J hv=>nS (hl.symm.trans hv),λJ J J J J J J J J hv=>nS (hl.symm.trans hv)⟩
theorem All.et(he:IQ C i)(ht:JI C i)(hl:∀{l:List V}{st:St},Kq C.c i l st=none):All C i:=
 ⟨he,ht,λJ J J J J J J J J hv=>nS (hl.symm.trans hv),λJ J J J J J J J J hv=>nS (hl.symm.trans hv)⟩
theorem qx(h:∀{l:List V}{st:St},IK C.c i l st=none):IQ C i/\JI C i:=⟨λJ J J J J J J hv=>nS (h.symm.trans hv),λJ J J J J J J J hv=>nS (h.symm.trans hv)⟩
theorem Hy.inner(H:Hy C){x:Zs}{sc:Scope}(L:Addr){cl:List (Zs×Addr)}(hk:sc.kind=.function)(hx:sc.names.lookup x=some .local/\(x==("__debug__" : Zs))=false):Hy (C.inner x sc L cl):=
 ⟨⟨H.ok.O,H.ok.K,hk,List.nodup_cons.mpr ⟨mn,.nil⟩,λw hw=>by (refine(ku hw).symm▸?_);exact hx⟩,H.hs,H.T,H.N,H.Z⟩
theorem gm(i:E):∀C:Cf,Hy C->All C i:=by
 induction i with
 | n0 o=>exact λC H=>.pl H (GX H.ok o) (λe0 hc=>by cases o with | stuck=>exact aEl hc λJ h=>h | _=>rfl) rfl
 | u1 o a ih=>exact λC H=>.et (ou (rT H.ok H.hs o) (ih C H).e) (w9 H.ok H.hs (ih C H).e (ih C H).t) rfl
 | b2 o a b iha ihb=>exact λC H=>.et (ow H.ok H.hs (iha C H).e (ihb C H).e) (xb H.ok H.hs (iha C H).e (ihb C H).e) rfl
 | slice a b d iha ihb ihd=>exact λC H=>.pl H (mU H.ok (iha C H).e (ihb C H).e (ihd C H).e) (λJ J=>rfl) rfl
 | and a b iha ihb=>exact λC H=>.et (sN H.ok (iha C H).e (ihb C H).e) (sB (iha C H).t (ihb C H).t) rfl
 | or a b iha ihb=>exact λC H=>.et (xc H.ok (iha C H).e (ihb C H).e) (xa (iha C H).t (ihb C H).t) rfl
 | IF t a b iht iha ihb=>exact λC H=>.et (sL (iht C H).t (iha C H).e (ihb C H).e) (sz (iht C H).t (iha C H).t (ihb C H).t) rfl
 | JX o p a b d iha ihb ihd=>exact λC H=>.et (qf (iha C H).e (ihb C H).e (ihd C H).e) (pX (iha C H).e (ihb C H).e (ihd C H).e) rfl
 | new k as ih=>exact λC H=>.pl H (sJ H.ok H.hs H.N (ih C H).l) (λJ J=>rfl) rfl
 | call k a as iha ih=>exact λC H=>.pl H (qg H.ok H.hs H.T H.Z (iha C H).e (ih C H).l) (λJ J=>rfl) rfl
 | KI k a iha=>exact λC H=>.pl H (mW H.ok H.hs H.T H.Z (iha C H).e) (λJ J=>rfl) rfl
 | Jj k as ih=>exact λC H=>.pl H (mX H.ok H.hs H.T H.Z (ih C H).l) (λJ J=>rfl) rfl
 | Kr k a as iha ih=>exact λC H=>.pl H (mY H.ok H.hs H.T H.Z (iha C H).e (ih C H).l) (λJ J=>rfl) rfl
 | Lj k q as ih=>exact λC H=>.pl H (mV H.ok H.hs H.T H.Z (ih C H).l) (λJ J=>rfl) rfl
 | lst as ih=>exact λC H=>.pl H (sK (ih C H).l) (λJ J=>rfl) rfl
 | comp s b ihs ihb=>exact λC H=>.pl H (qe H.ok H.hs (ihs C H).e λx sc L cl hk hx=>(ihb _ (H.inner L hk hx)).e) (λJ J=>rfl) rfl
 | OP a k iha=>exact λC H=>.pl H (sM H.ok (iha C H).e k) (λJ J=>rfl) rfl
 | nil=>exact λC H=>⟨(qx rfl).1,(qx rfl).2,kL,oq kL (λJ J=>rfl) λhv=>by obtain rfl:=ke hv;rfl⟩
 | pos e r ihe ihr=>exact λC H=>⟨(qx rfl).1,(qx rfl).2,λJ J J J J J J J J hv hn=>IJ hv λq hq h=>JD h λz hz e'=>(by subst e';cases hn),sI (ihe C H).e (ihr C H).l⟩
 | kw k e r ihe ihr=>exact λC H=>⟨(qx rfl).1,(qx rfl).2,ot (ihe C H).e (ihr C H).k,oq (ot (ihe C H).e (ihr C H).k) (λJ J=>rfl) λhv=>oU hv λq z J J J e'=>by subst e';rfl⟩
theorem fu(H:Hy C)(i:S):Oo i=true->(cB i=true->dD C i)/\(cB i=false->Kt C i):=by
 have E:∀i,IQ C i:=λi=>(gm i C H).e
 have T:∀i,JI C i:=λi=>(gm i C H).t
 have L:∀i,fj C i:=λi=>(gm i C H).l
 have no:∀{i:S},cB i=true->dD C i->(cB i=true->dD C i)/\(cB i=false->Kt C i):=λhi hs=>⟨λJ=>hs,λh=>JA (h.symm.trans hi)⟩
 induction i with
 | nil=>exact λJ=>⟨λh=>JA h,λJ=>sO⟩
 | cons s r ihs ihr=>exact λw=>aEl w λw1 w=>aEl w λw2 w=>aEl w λw3 w4=>⟨λh=>JA h,λJ=>qh ((ihs w2).1 w1) ((ihr w4).2 (lq w3))⟩
 | stuck=>exact λJ=>no rfl λJ J J J J J J hv=>nS hv
 | pass=>exact λJ=>no rfl p5
 | expr e=>exact λJ=>no rfl (p7 H.ok (E e))
 | asg ns e=>exact λJ=>no rfl (sG H.ok (E e))
 | N0 k s b=>exact λJ=>no rfl (qd H.ok H.hs (E s) λx sc L hk hx=>(gm b _ (H.inner L hk hx)).e)
 | IP k o e=>exact λJ=>no rfl (pY H.ok (E o) (E e))
 | J1 k o e=>exact λJ=>no rfl (p9 H.ok (E e))
 | Ke k p o e=>exact λJ=>no rfl (qb H.ok (E o) (E e))
 | MM k e=>exact λJ=>no rfl (p8 H.ok (E e))
 | app o e=>exact λJ=>no rfl (sH H.ok (E o) (E e))
 | IF t a b iha ihb=>exact λw=>aEl w λw1 w=>aEl w λw2 w=>aEl w λw3 w4=>no rfl (sD (T t) ((iha w2).2 (lq w1)) ((ihb w4).2 (lq w3)))
 | «while» t b ihb=>exact λw=>aEl w λw1 w2=>no rfl (mT (T t) ((ihb w2).2 (lq w1)))
 | «for» k e b ihb=>exact λw=>aEl w λw1 w2=>no rfl (sE H.ok H.hs (E e) ((ihb w2).2 (lq w1)))
 | forR k e b ihb=>exact λw=>aEl w λw1 w2=>no rfl (p6 H.ok H.hs (E e) ((ihb w2).2 (lq w1)))
 | ret e=>exact λJ=>no rfl (sC (E e))
 | Mc=>exact λJ=>no rfl pZ
end
abbrev Ks(W:Wd)(c:Cx):Prop:=
 KR W/\
 IY W.Y c/\
 dU W c.fns/\
 (∀(k:Nat)(q:Fn×List Nat),c.Jx[k]?=some q->JL W k q)
section
variable{W:Wd}{c:Cx}(zz:Ks W c)
def Ks.O:=zz.1
def Ks.K:=zz.2.1
def Ks.T:=zz.2.2.1
def Ks.N:=zz.2.2.2
end
theorem Ks.hy{W:Wd}{c:Cx}{n:Nat}(Z:Ks W c)(h1:cN W c n){k:Nat}{f:Fn}{d:FD}(F:JO W k f d)(L f':Addr)(cs:List (Zs×Addr)):Hy (Cf.of W c n f.ML d L f' cs):=
 ⟨⟨Z.O,Z.K,F.ok.ki,(by unfold Fn.ML;cases f.cl with | true=>exact F.nd.sublist (List.tail_sublist _) | false=>exact F.nd),F.lc⟩,rfl,Z.T,Z.N,h1⟩
theorem vB{W:Wd}{fns:List Fn}{Jx:List (Fn×List Nat)}{sup:List (List Nat)}{wf:Nat}(Z:∀n,Ks W (QS fns Jx sup wf n))(n:Nat):cN W (QS fns Jx sup wf n) n:=by
 have hf':∀n,(QS fns Jx sup wf n).fns=fns:=λn=>by cases n <;> rfl
 induction n with
 | zero=>exact λJ J J J J J J J J J J J J J J J J hr=>nS hr
 | succ n ih=>
  intro C hC k f d hf F A X Q m st p vs r args binds hr Rm a hb h1 bd post
  have hf:(QS fns Jx sup wf n).fns[k]?=some f:=by (refine(hf' n).symm▸?_);exact hf
  exact xk (Z n).O hC hf F (λL f'=>((fu ((Z n).hy ih F L f' []) f.body F.wf).2 F.bl)) (λv L f' cs=>((fu (Ks.hy (c:=(QS fns Jx sup wf n).cell v) (Z n) ih F L f' cs) f.body F.wf).2 F.bl)) hr Rm a hb h1 bd post
noncomputable def Cf.law(W:Wd)(c:Cx)(n:Nat)(sl:List Zs)(sc:Scope)(cn:Zs)(L f:Addr)(cd:Value):Cf:={ toWd:=W,sl:=sl,sc:=sc,cn:=cn,L:=L,fa:=some f,fr:=some L,cd:=cd,c:=c,n:=n,hs:=true}
theorem xQ{W:Wd}{c:Cx}{n:Nat}(Z:Ks W c)(h1:cN W c n){sl:List Zs}{sc:Scope}{cn:Zs}{L f:Addr}{cd:Value}(hk:sc.kind=.function)(nd:sl.Nodup)(hce:∀y∈sc.names,y.2≠.cell)
  (lc:∀x∈sl,sc.names.lookup x=some .local/\(x==("__debug__" : Zs))=false) {i:S} {body:List Stmt} (ok:okB W.Y sl sc i body=true) (tx:toB W.Y sl i body=body) (wf:Oo i=true) (bl:cB i=false)
  {A:Around} {X:Value->Shared->Prop} {Q:Flow->Shared->Prop} {s:Shared} {m:Zs->Option Value} {v:V} {x:Value} {k:Nat} {l:List V} {st:St} {nm:Zs}
  (hr:Ja c i (v::List.replicate k .uu) ⟨[],[]⟩=some (.ret (.b (.bool true)),l,st)) (rm:KA A n) (F:Fr W.hB L s.heap m) (hn:sl[0]?=some nm) (hm:m nm=some x) (hx:VR W.Y [] ⟨[],[]⟩ v x)
  (post:∀h tk,(∀b o,W.hB.get? b=some o->h.get? b=some o)->Q (.ret (.bool true)) { s with heap:=h,toks:=tk}):wpAny (model W.prog W.w) A (execs body (Cf.law W c n sl sc cn L f cd).env) Q X s:=by
 have H:Hy (Cf.law W c n sl sc cn L f cd):=⟨⟨Z.O,Z.K,hk,nd,lc⟩,rfl,Z.T,Z.N,h1⟩
 (refine(tx)▸?_)
 refine(fu H i wf).2 bl _ ok (K:=⟨A,X,v::List.replicate k .uu,m⟩) (p:=⟨s,⟨[],[]⟩,[],[]⟩) hr ⟨λJ=>rm,⟨λj w hj hw=>?_,CR.no hce⟩,⟨⟨F,λJ h=>(mn h).elim,.nil,λJ h=>(mn h).elim⟩,⟨.nil,.nil⟩⟩⟩ λm' q t P y r=>?_
 ·cases j with
  | zero=>obtain rfl:=ke hj;exact⟨nm,x,hn,hm,hx⟩
  | succ j=>exact(hw (List.mem_replicate.mp (ly (show(List.replicate k V.uu)[j]?=some w from hj))).2).elim
 ·cases r
  have:=post q.s.heap q.s.toks P.at'.inv.fr.keep
  (refine(t.sh)▸?_);exact this
noncomputable def vy:List String:=["Event","NodeEvent","CollectionStartEvent","CollectionEndEvent","StreamStartEvent","StreamEndEvent","DocumentStartEvent","DocumentEndEvent","AliasEvent","ScalarEvent","SequenceStartEvent","SequenceEndEvent","MappingStartEvent","MappingEndEvent","ScalarAnalysis"]
noncomputable def Hn:List Nat:=[330,337,344,352,359,366,373,381,388,395,403,410,417,424,431,438,445,452,459,466,473,480,487,495,502,509,517,524,531,538,545,552,559,566,573,580,587,594,601,608,615,622,629,636,643,650,658,665,673,680,687,695,704,711,718,725,733,761,768,754,316,783,790,795,802,809,816,823,830]
noncomputable def Fa:List Nat:=[59,81,101,113,133,145,165,185,197,217,229,241,253,265,296]
noncomputable def g9:List Nat:=[49,78,98,49,130,49,162,182,78,214,98,49,98,49,293]
noncomputable def ee(n:Nat):Fn:=eR.getD n QO
noncomputable def stN(s:String):Zs:=PySem.Str.ofString s
noncomputable def xE(n:Nat):Zs:=
 bif Nat.blt n 59 then stN (ee n).name else bif Nat.blt n 64 then Jo [n] else bif Nat.blt n 111 then stN (uO.getD (n - 64) "") else bif Nat.blt n 126 then Jo [n] else bif Nat.beq n 126 then "ESCAPE_REPLACEMENTS" else "DEFAULT_TAG_PREFIXES"
noncomputable def Yw(K:Frag)(P:Params)(sa:Addr)(so:Obj):Lay:=
 ⟨P,K,λn=>bif Nat.beq n 0 then 736 else 771,λn=>Fa.getD n 0,λn=>Hn.getD n 0,696,308,xE,λn=>stN (ee n).name,λn=>stN (vy.getD n ""),
  λn=>((ee n).slots.take (ee n).Jg).map stN,λn=>((Jx.getD n (QO,[])).1.slots).map stN,sa,so⟩
theorem v7{α:Type}{f g:Nat->α}:∀(n a:Nat),(List.range' a n).map f=(List.range' a n).map g->∀k,a<=k->k < a+n->f k=g k
 | 0,a,_,k,h1,h2=>(Nat.lt_irrefl _ (lj h1 h2)).elim
 | n+1,a,h,k,h1,h2=>by
  cases h1 with
  | refl=>exact(List.cons.inj h).1
  | step h1=>exact v7 n (a+1) (List.cons.inj h).2 _ (mj h1) (by rw[Nat.succ_add_eq_add_succ];exact h2)
noncomputable def G9:FD:=⟨"", "",⟨[],[],none,[],[],none,[]⟩,[],⟨.function,[],false,false,[]⟩,.none,.none,.none,.none,.none,.none,.none,none,none,#[]⟩
noncomputable def wS:FuncBody->List Stmt
 | .stmts b=>b | .expr _=>[]
noncomputable def gb(K:Frag)(a:Addr):FD:=match K.lookup a with
 | some ⟨oc,od,.func fd,osl⟩=>⟨fd.name,fd.qualname,fd.params,wS fd.body,fd.scope,fd.defaults,fd.kwdefaults,fd.doc,fd.pyModule,fd.code,fd.closureTuple,oc,fd.annotations,od,osl⟩
 | _=>G9
noncomputable def Bt(d:FD):Obj:=⟨d.oc,d.od,.func d.fd,d.osl⟩
noncomputable def dbg(x:Zs):Bool:=!(x==("__debug__" : Zs))
noncomputable def fdB(K:Frag)(d:FD):Bool:=
 codeIn K d.cdv d.qual&&(d.params.posonlyargs.isEmpty&&(d.params.vararg.isNone&&(d.params.kwonlyargs.isEmpty&&(d.params.kwarg.isNone&&(!d.scope.isCoroutine&&(!d.scope.isGenerator&&(d.scope.kind==.function)))))))
noncomputable def plB(d:FD):Bool:=d.scope.names.all (λx=>!(x.2==.cell))&&d.ps.all (λy=>d.scope.names.lookup y==some .local)
noncomputable def ceB(f:Fn)(d:FD):Bool:=!f.sl.isEmpty&&(Nat.blt 0 f.Jg&&(d.scope.names.filter (λx=>x.2==.cell)==[(f.sl.headD "",.cell)]&&(d.scope.names.lookup (f.sl.headD "")==some .cell&&d.ps.all (λy=>y==f.sl.headD "" || d.scope.names.lookup y==some .local))))
theorem ng{α:Type}{l:List α}(h:l.isEmpty=true):l=[]:=by cases l with | nil=>rfl | cons=>exact JA h
theorem oI{α:Type}{l:Option α}(h:l.isNone=true):l=none:=by cases l with | none=>rfl | some=>exact JA h
theorem not_of{b:Bool}(h:(!b)=true):b=false:=by cases b with | false=>rfl | true=>exact JA h
theorem Aq{K:Frag}{a:Addr}{d:FD}(h:K.lookup a=some (Bt d))(b:fdB K d=true):FD.Ok K a d:=
 aEl b λh1 b=>aEl b λh2 b=>aEl b λh3 b=>aEl b λh4 b=>aEl b λh5 b=>aEl b λh6 b=>aEl b λh7 h8=>
  ⟨h,h1,ng h2,oI h3,ng h4,oI h5,not_of h6,not_of h7,lf h8⟩
theorem z5{d:FD}(b:plB d=true):FD.Pl d:=aEl b λh9 h10=>⟨λx hx e=>(by have:=mc h9 x hx;rw[e]at this;exact JA this),λy hy=>lf (mc h10 y hy)⟩
theorem jc:∀{l:List (Zs×NameKind)}{n:Nat}{acc:List (Zs×Addr)},l.filter (λx=>x.2==.cell)=[]->cellsFrom n l acc=acc
 | [],_,_,_=>rfl
 | (a,k)::l,n,acc,h=>by
  unfold cellsFrom
  cases hk:k==NameKind.cell with
  | true=>rw[List.filter_cons_of_pos (by exact hk)]at h;exact nomatch h
  | false=>rw[List.filter_cons_of_neg (by rw[hk];exact Bool.false_ne_true)]at h;exact jc h
theorem jb{t:Zs}:∀{l:List (Zs×NameKind)}{n:Nat},l.filter (λx=>x.2==.cell)=[(t,.cell)]->cellsFrom n l []=[(t,n)]
 | [],_,h=>nomatch h
 | (a,k)::l,n,h=>by
  unfold cellsFrom
  cases hk:k==NameKind.cell with
  | true=>rw[List.filter_cons_of_pos (by exact hk)]at h;rw[<- (Prod.mk.inj (List.cons.inj h).1).1];exact jc (List.cons.inj h).2
  | false=>rw[List.filter_cons_of_neg (by rw[hk];exact Bool.false_ne_true)]at h;exact jb h
theorem Fe{f:Fn}{d:FD}(b:ceB f d=true):FD.Ce f d:=aEl b λh1 b=>aEl b λh2 b=>aEl b λh3 b=>aEl b λh4 h5=>by
 have h3:=lf h3
 refine⟨f.sl.headD "",f.sl.tail,?_,lm h2,λn=>jb h3,lf h4,λx hx=>?_,λy hy=>(my (mc h5 y hy)).imp lf lf⟩
 ·cases hf:f.sl with
  | nil=>rw[hf]at h1;exact JA h1
  | cons a r=>rfl
 ·have:=(List.mem_filter (p:=λx:Zs×NameKind=>x.2==NameKind.cell)).mpr ⟨mem_of_lookup hx,rfl⟩
  rw[h3]at this
  exact(Prod.mk.inj (ku this)).1
noncomputable def AC:B->Value->Bool
 | .nul,.none=>true | .bool a,.bool b=>a==b | .int a,.int b _=>a==b | .str a,.str b _=>decide (a.length<=1000)&&Jo a==b | _,_=>false
theorem zf{P:Params}{b:B}{x:Value}(h:AC b x=true):LK P [] b x:=by
 cases b with
 | nul=>cases x with | none=>rfl | _=>exact JA h
 | bool=>cases x with | bool=>cases lf h;rfl | _=>exact JA h
 | int=>cases x with | int=>cases lf h;exact .mk _ | _=>exact JA h
 | str=>cases x with | str=>exact aEl h λh1 h2=>by cases lf h2;exact .mk _ (fH (dEl h1)) | _=>exact JA h
 | _=>cases x <;> exact JA h
noncomputable def nM:List B->List Value->Bool
 | [],[]=>true | a::l,x::r=>AC a x&&nM l r | _,_=>false
theorem l6{P:Params}:∀{l:List B}{r:List Value},nM l r=true->IE (LK P []) l r
 | [],[],_=>.nil
 | _::_,_::_,h=>aEl h λh1 h2=>.cons (zf h1) (l6 h2)
 | [],_::_,h=>nomatch h
 | _::_,[],h=>nomatch h
noncomputable def xV(K:Frag):Value->Option (List Value)
 | .ref T=>(K.lookup T).bind λo=>match o.data with | .seq items _=>some items.toList | _=>none
 | _=>none
noncomputable def Hk:Value->Bool
 | .none=>true | _=>false
noncomputable def vm(K:Frag)(l:List B)(v:Value):Bool:=(l.isEmpty&&Hk v)||(xV K v).any (nM l)
theorem pB{K:Frag}{P:Params}{l:List B}{v:Value}(h:vm K l v=true):wx K P l v:=by
 rcases my h with h | h
 ·exact aEl h λh1 h2=>.inl ⟨ng h1,by cases v with | none=>rfl | _=>exact JA h2⟩
 ·refine yEl h λxs h1 h2=>.inr ?_
  cases v with
  | ref T=>
   refine IJ h1 λo h3 h4=>?_
   obtain⟨oc,od,dt,osl⟩:=o
   cases dt with
   | seq items k=>obtain rfl:=ke h4;exact⟨T,_,items,k,rfl,h3,rfl,l6 h2⟩
   | _=>exact nS h4
  | _=>exact nS h1
noncomputable def fnB(Y:Lay)(k:Nat)(f:Fn)(d:FD):Bool:=
 fdB Y.K d&&(d.ps==Y.pn k&&(f.Jg==(Y.pn k).length&&(decide f.sl.Nodup&&(f.ML.all (λx=>d.scope.names.lookup x==some .local&&dbg x)&&(f.sl.take f.Jg==Y.pn k&&(Nat.ble f.dflt.length f.Jg&&(vm Y.K f.dflt d.dV&&
  (okB Y f.ML d.scope f.body d.body&&(Oo f.body&&(!cB f.body&&bif f.cl then ceB f d else plB d))))))))))
noncomputable def MX(Y:Lay)(k:Nat):Bool×Option Obj×List Stmt:=(fnB Y k (ee k) (gb Y.K (Y.fn k)),Y.K.lookup (Y.fn k),toB Y (ee k).ML (ee k).body (gb Y.K (Y.fn k)).body)
noncomputable def MW(Y:Lay)(k:Nat):Bool×Option Obj×List Stmt:=(true,some (Bt (gb Y.K (Y.fn k))),(gb Y.K (Y.fn k)).body)
theorem Et{W:Wd}{k:Nat}(h:MX W.Y k=MW W.Y k):JO W k (ee k) (gb W.Y.K (W.Y.fn k)):=
 aEl (kh (·.1) h) λh1 b=>aEl b λh2 b=>aEl b λh3 b=>aEl b λh4 b=>aEl b λh5 b=>aEl b λh6 b=>aEl b λh7 b=>aEl b λh8 b=>aEl b λh9 b=>aEl b λh11 b=>aEl b λQe h13=>
  ⟨Aq (kh (·.2.1) h) h1,lf h2,lf h3,dEl h4,λx hx=>aEl (mc h5 x hx) λa b=>⟨lf a,not_of b⟩,lf h6,lm h7,
     pB h8,h9,kh (·.2.2) h,h11,not_of Qe,(by cases e:(ee k).cl with | true=>rw[e]at h13;exact .inr ⟨rfl,Fe h13⟩ | false=>rw[e]at h13;exact .inl ⟨rfl,z5 h13⟩)⟩
noncomputable def iAt(k:Nat):Fn×List Nat:=Jx.getD k (QO,[])
noncomputable def mkL(K:Frag)(C fI:Addr):List Bool×List (Option (Option Value))×Option Value:=
 ([makesIn K C,plainOver K C,hasDictIn K C,keepIn K (.ref C)],[findIn K (.ref C) "__init__",findIn K (.ref C) "__setattr__"],typeIn K (.ref fI))
noncomputable def mkR(fI:Addr):List Bool×List (Option (Option Value))×Option Value:=
 ([true,true,true,true],[some (some (.ref fI)),some (some (.builtin "object.__setattr__"))],some (.type "function"))
theorem aT{α β:Type}{x y:α}(h:x=y)(f:α->β):f x=f y:=kh f h
theorem Af{K:Frag}{C fI:Addr}(h:mkL K C fI=mkR fI):JE K C fI:=
 ⟨aT h (·.1.getD 0 true),aT h (·.2.1.getD 0 none),aT h (·.2.2),aT h (·.2.1.getD 1 none),aT h (·.1.getD 1 true),aT h (·.1.getD 2 true),aT h (·.1.getD 3 true)⟩
noncomputable def inB(Y:Lay)(k:Nat)(q:Fn×List Nat)(d:FD):Bool:=
 fdB Y.K d&&(plB d&&(d.ps==Y.cp k&&(vm Y.K q.1.dflt d.dV&&(Y.cp k==(Y.cp k).headD "" :: (Y.cp k).tail&&(q.2.map Y.nm==(Y.cp k).tail&&((Y.cp k).tail.all (λnm=>takerIn Y.K (Y.Ju k) nm==some none)&&((Y.cp k).all dbg&&
  (q.1.Jg==(Y.cp k).length&&(decide (Y.cp k).Nodup&&(Nat.ble q.1.dflt.length q.1.Jg&&(q.2.all (λa=>Nat.blt a 128)&&Nat.ble q.2.length 100)))))))))))
noncomputable def BM(Y:Lay)(k:Nat):(List Bool×List (Option (Option Value))×Option Value)×Bool×Option Obj×List Stmt:=
 (mkL Y.K (Y.Ju k) (g9.getD k 0),inB Y k (iAt k) (gb Y.K (g9.getD k 0)),Y.K.lookup (g9.getD k 0),i4 ((Y.cp k).headD "") (Y.cp k).tail (gb Y.K (g9.getD k 0)).body)
noncomputable def BL(Y:Lay)(k:Nat):(List Bool×List (Option (Option Value))×Option Value)×Bool×Option Obj×List Stmt:=
 (mkR (g9.getD k 0),true,some (Bt (gb Y.K (g9.getD k 0))),(gb Y.K (g9.getD k 0)).body)
theorem Ek{W:Wd}{k:Nat}(lt:k < 15)(h:BM W.Y k=BL W.Y k):JL W k (iAt k):=
 aEl (kh (·.2.1) h) λh1 b=>aEl b λh0 b=>aEl b λh2 b=>aEl b λh3 b=>aEl b λh4 b=>aEl b λh5 b=>aEl b λh6 b=>aEl b λh7 b=>aEl b λh8 b=>aEl b λh9 b=>aEl b λh10 b=>aEl b λh11 Qe=>
  ⟨lt,⟨_,_,_,_,Af (kh (·.1) h),⟨Aq (kh (·.2.2.1) h) h1,z5 h0⟩,lf h2,pB h3,lf h4,kh (·.2.2.2) h,lf h5,λnm hn=>lf (mc h6 nm hn),
   λnm hn=>not_of (mc h7 nm (lf h4▸hn))⟩,lf h8,dEl h9,lm h10,λa ha=>lm (mc h11 a ha),lm Qe⟩
noncomputable abbrev OV:=Option (Option Value)
noncomputable def bi(s:String):OV:=some (some (.builtin s))
noncomputable def rf(a:Addr):OV:=some (some (.ref a))
noncomputable def JF(f:Nat->α)(a n:Nat):List α:=(List.range' a n).map f
theorem cX{α:Type}{f g:Nat->α}{a n:Nat}(h:JF f a n=JF g a n){k:Nat}(h1:a<=k)(h2:k < a+n):f k=g k:=v7 n a h k h1 h2
theorem dc{α:Type}{f g:Nat->α}{n:Nat}(h:JF f 0 n=JF g 0 n){k:Nat}(h2:k < n):f k=g k:=cX h (mi _) (by rw[Nat.zero_add];exact h2)
noncomputable def rL(Y:Lay)(k:Nat):List Bool×List OV×List (Option Bool)×List OV:=
 ([plainGet Y.K (Y.Ju k) "",hasDictIn Y.K (Y.Ju k)],
  [findIn Y.K (.ref (Y.Ju k)) "__bool__",findIn Y.K (.ref (Y.Ju k)) "__len__",findIn Y.K (.ref (Y.Ju k)) "__class__",nsIn Y.K mainGlobals (Y.cn k)],
  mroIn Y.K (Y.Ju k) (.type "object")::JF (λd=>kitOne Y.K (.ref (Y.Ju k)) (.ref (Y.Ju d))) 0 14,
  JF (λn=>findIn Y.K (.ref (Y.Ju k)) (Y.nm n)) 64 62)
noncomputable def rR(Y:Lay)(k:Nat):List Bool×List OV×List (Option Bool)×List OV:=
 ([true,true],[some none,some none,bi "object.__class__",rf (Y.Ju k)],
  some true::JF (λd=>some ((gF[k]?).any λl=>l.contains d)) 0 14,JF (λJ=>some none) 64 62)
noncomputable def iL(Y:Lay)(k:Nat):(List Bool×List (Option (Option Value))×Option Value)×List Bool×List OV×List OV×List OV:=
 (mkL Y.K (Y.Jl k) (Y.fn (cV+1 - k)),[plainGet Y.K (Y.Jl k) "",hasDictIn Y.K (Y.Jl k),plainOver Y.K (Y.Jl k)],[findIn Y.K (.ref (Y.Jl k)) "__setattr__"],
  JF (λn=>takerIn Y.K (Y.Jl k) (Y.nm n)) 0 128,JF (λn=>findIn Y.K (.ref (Y.Jl k)) (Y.nm n)) 64 62)
noncomputable def iR(Y:Lay)(k:Nat):(List Bool×List (Option (Option Value))×Option Value)×List Bool×List OV×List OV×List OV:=
 (mkR (Y.fn (cV+1 - k)),[true,true,true],[bi "object.__setattr__"],JF (λJ=>some none) 0 128,JF (λJ=>some none) 64 62)
noncomputable def DQ(Y:Lay)(k:Nat):List Bool×List OV×Option Bool:=
 ([Nat.blt (ee k).own 2,isFn Y.K (.ref (Y.fn k)),copiedNames.contains (Y.nm k)],[findIn Y.K (.ref (Y.Jl (ee k).own)) (Y.nm k),specialIn Y.K (.ref (Y.fn k)) "__get__",bif Nat.blt k 57 then findIn Y.K (.ref (Y.Jl 0)) (Y.nm k) else none],takesIn Y.K (.ref (Y.fn k)))
noncomputable def mR(Y:Lay)(k:Nat):List Bool×List OV×Option Bool:=
 ([true,true,false],[rf (Y.fn k),bi "function.__get__",bif Nat.blt k 57 then rf (Y.fn k) else none],some false)
noncomputable def gL(Y:Lay)(k:Nat):List OV:=bif Nat.beq (ee k).own 2 then [nsIn Y.K mainGlobals (Y.gn k)] else []
noncomputable def gR(Y:Lay)(k:Nat):List OV:=List.replicate (bif Nat.beq (ee k).own 2 then 1 else 0) (rf (Y.fn k))
noncomputable def biL:List Zs:=[PySem.Str.ofString "len",PySem.Str.ofString "ord",PySem.Str.ofString "isinstance",PySem.Str.ofString "sorted",PySem.Str.ofString "range",PySem.Str.ofString "str"]
noncomputable def oL(Y:Lay):List OV×List OV×List Bool×Option Bool:=
 ([specialIn Y.K (.builtin "object.__class__") "__get__",nsIn Y.K mainGlobals "Emitter",nsIn Y.K mainGlobals "Rows",findIn Y.K (.ref (Y.Jl 0)) "ESCAPE_REPLACEMENTS",findIn Y.K (.ref (Y.Jl 0)) "DEFAULT_TAG_PREFIXES",specialIn Y.K (.ref Y.Kn) "__get__",specialIn Y.K (.ref Y.Md) "__get__"],
  biL.map (λn=>nsIn Y.K mainGlobals n),[Y.Kn==sysModules,Y.Md==sysModules,decide ((JF Y.nm 0 128).Nodup)],takesIn Y.K (.builtin "object.__class__"))
noncomputable def oR(Y:Lay):List OV×List OV×List Bool×Option Bool:=
 ([bi "getset_descriptor.__get__",rf (Y.Jl 0),rf (Y.Jl 1),rf Y.Kn,rf Y.Md,some none,some none],biL.map (λJ=>some none),[false,false,true],some true)
noncomputable def ie(P:Params)(l:List (Tx×Tx))(tk:List (Tok×Tok)):List DictEntry:=(l.zip tk).map λp=>⟨PyData.keyHash P (Jo p.1.1),.str (Jo p.1.1) p.2.1,.str (Jo p.1.2) p.2.2⟩
noncomputable def shB(l:List (Tx×Tx)):Bool:=l.all λp=>Nat.ble p.1.length 1000&&Nat.ble p.2.length 1000
theorem j3{P:Params}:∀{l:List (Tx×Tx)}{tk:List (Tok×Tok)},l.length=tk.length->shB l=true->dl P l (ie P l tk)
 | [],_,_,_=>.nil
 | _::_,[],h,_=>nomatch h
 | _::_,_::_,h,b=>aEl b λb1 b2=>aEl b1 λb3 b4=>.cons ⟨.mk _ (fH (lm b3)),rfl,.mk _ (fH (lm b4))⟩ (j3 (Nat.succ.inj h) b2)
noncomputable def Av:List (Tok×Tok):=[(1120,1121),(1122,1123),(1124,1125),(1126,1127),(1128,1129),(1130,1131),(1132,1133),(1134,1135),(1136,1137),(1138,1139),(1140,1141),(1142,1143),(1144,1145),(1146,1147),(1148,1149)]
noncomputable def kY:List Zs:=EI.sl
noncomputable abbrev Qj(Y:Lay):FD:=gb Y.K 835
noncomputable def DZ(Y:Lay):Bool×List Stmt:=
 (okB Y kY (Qj Y).scope e9 (Qj Y).body&&((Qj Y).scope.kind==.function&&(decide kY.Nodup&&(kY.all (λx=>(Qj Y).scope.names.lookup x==some .local&&dbg x)&&(Qj Y).scope.names.all λy=>!(y.2==.cell)))),
  toB Y kY e9 (Qj Y).body)
noncomputable def pcX:Nat->List Tx->List Value
 | _,[]=>[] | k,t::r=>.str (Jo t) k::pcX (k+1) r
abbrev Facts(Y:Lay):Prop:=
 oL Y=oR Y/\
 iL Y 0=iR Y 0/\
 iL Y 1=iR Y 1/\
 JF (BM Y) 0 15=JF (BL Y) 0 15/\
 JF (rL Y) 0 15=JF (rR Y) 0 15/\
 JF (DQ Y) 0 59=JF (mR Y) 0 59/\
 JF (gL Y) 0 69=JF (gR Y) 0 69/\
 JF (MX Y) 0 10=JF (MW Y) 0 10/\
 JF (MX Y) 10 10=JF (MW Y) 10 10/\
 JF (MX Y) 20 10=JF (MW Y) 20 10/\
 JF (MX Y) 30 10=JF (MW Y) 30 10/\
 JF (MX Y) 40 10=JF (MW Y) 40 10/\
 JF (MX Y) 50 10=JF (MW Y) 50 10/\
 JF (MX Y) 60 9=JF (MW Y) 60 9/\
 (Y.K.lookup Y.Kn,Y.K.lookup Y.Md)=(some (dictOf (ie Y.P cg Av) 15),some (dictOf (ie Y.P aO [(633,634),(635,636)]) 2))/\
 DZ Y=(true,(Qj Y).body)/\
 (nsIn Y.K mainGlobals "_law_PIECES",Y.K.lookup 776)=(rf 776,some (aK (pcX 1317 dz) 0))
section
variable{Y:Lay}(zz:Facts Y)
def Facts.o:=zz.1
def Facts.i0:=zz.2.1
def Facts.i1:=zz.2.2.1
def Facts.n:=zz.2.2.2.1
def Facts.r:=zz.2.2.2.2.1
def Facts.m:=zz.2.2.2.2.2.1
def Facts.g:=zz.2.2.2.2.2.2.1
def Facts.f0:=zz.2.2.2.2.2.2.2.1
def Facts.f1:=zz.2.2.2.2.2.2.2.2.1
def Facts.f2:=zz.2.2.2.2.2.2.2.2.2.1
def Facts.f3:=zz.2.2.2.2.2.2.2.2.2.2.1
def Facts.f4:=zz.2.2.2.2.2.2.2.2.2.2.2.1
def Facts.f5:=zz.2.2.2.2.2.2.2.2.2.2.2.2.1
def Facts.f6:=zz.2.2.2.2.2.2.2.2.2.2.2.2.2.1
def Facts.d:=zz.2.2.2.2.2.2.2.2.2.2.2.2.2.2.1
def Facts.p:=zz.2.2.2.2.2.2.2.2.2.2.2.2.2.2.2.1
def Facts.pc:=zz.2.2.2.2.2.2.2.2.2.2.2.2.2.2.2.2
end
section
variable(P:Params)(sa:Addr)(so:Obj)
theorem Hq:oL (Yw (kF P) P sa so)=oR (Yw (kF P) P sa so):=by kernel_rfl
theorem Ey:iL (Yw (kF P) P sa so) 0=iR (Yw (kF P) P sa so) 0:=by kernel_rfl
theorem Ex:iL (Yw (kF P) P sa so) 1=iR (Yw (kF P) P sa so) 1:=by kernel_rfl
theorem Hr:JF (BM (Yw (kF P) P sa so)) 0 15=JF (BL (Yw (kF P) P sa so)) 0 15:=by kernel_rfl
theorem Ho:JF (rL (Yw (kF P) P sa so)) 0 15=JF (rR (Yw (kF P) P sa so)) 0 15:=by kernel_rfl
theorem Hs:JF (DQ (Yw (kF P) P sa so)) 0 59=JF (mR (Yw (kF P) P sa so)) 0 59:=by kernel_rfl
theorem Ht:JF (gL (Yw (kF P) P sa so)) 0 69=JF (gR (Yw (kF P) P sa so)) 0 69:=by kernel_rfl
theorem EF:JF (MX (Yw (kF P) P sa so)) 0 10=JF (MW (Yw (kF P) P sa so)) 0 10:=by kernel_rfl
theorem EE:JF (MX (Yw (kF P) P sa so)) 10 10=JF (MW (Yw (kF P) P sa so)) 10 10:=by kernel_rfl
theorem ED:JF (MX (Yw (kF P) P sa so)) 20 10=JF (MW (Yw (kF P) P sa so)) 20 10:=by kernel_rfl
theorem EC:JF (MX (Yw (kF P) P sa so)) 30 10=JF (MW (Yw (kF P) P sa so)) 30 10:=by kernel_rfl
theorem EB:JF (MX (Yw (kF P) P sa so)) 40 10=JF (MW (Yw (kF P) P sa so)) 40 10:=by kernel_rfl
theorem EA:JF (MX (Yw (kF P) P sa so)) 50 10=JF (MW (Yw (kF P) P sa so)) 50 10:=by kernel_rfl
theorem Ez:JF (MX (Yw (kF P) P sa so)) 60 9=JF (MW (Yw (kF P) P sa so)) 60 9:=by kernel_rfl
theorem Hu:((Yw (kF P) P sa so).K.lookup (Yw (kF P) P sa so).Kn,(Yw (kF P) P sa so).K.lookup (Yw (kF P) P sa so).Md)=(some (dictOf (ie (Yw (kF P) P sa so).P cg Av) 15),some (dictOf (ie (Yw (kF P) P sa so).P aO [(633,634),(635,636)]) 2)):=by kernel_rfl
theorem Hp:DZ (Yw (kF P) P sa so)=(true,(Qj (Yw (kF P) P sa so)).body):=by kernel_rfl
theorem Ew:(nsIn (Yw (kF P) P sa so).K mainGlobals "_law_PIECES",(Yw (kF P) P sa so).K.lookup 776)=(rf 776,some (aK (pcX 1317 dz) 0)):=by kernel_rfl
theorem B6:Facts (Yw (kF P) P sa so):=⟨Hq P sa so,Ey P sa so,Ex P sa so,Hr P sa so,Ho P sa so,Hs P sa so,Ht P sa so,EF P sa so,EE P sa so,ED P sa so,EC P sa so,EB P sa so,EA P sa so,Ez P sa so,Hu P sa so,Hp P sa so,Ew P sa so⟩
end
end
section
open PySem
theorem Iz{o:Option α}{f:α->Option β}{a:α}{z:Option β}(h:o=some a)(k:f a=z):o.bind f=z:=h▸k
theorem bQ{b:Bool}{x:α}(h:b=true):ag b x=some x:=h▸rfl
theorem av{st:St}{j:Nat}{l:List V}(h:st.cur[j]?=some (.lst l)):aP st (.ref j)=some (j,l):=Iz (f:=λo=>(l8 o).map λl=>(j,l)) h rfl
theorem d3{st:St}{j c:Nat}{l:List (Nat×V)}(h:st.cur[j]?=some (.ins c l)):cC st (.ref j)=some (j,c,l):=Iz (f:=λo=>(mz o).map λl=>(j,l)) h rfl
theorem dW{st:St}{v:V}{p:Nat×List V}(h:aP st v=some p):truth st v=some (!p.2.isEmpty):=by
 cases v with
 | ref j=>show(Option.map _ (aP st (.ref j))).or _=_;(refine(h)▸?_);rfl
 | _=>exact nS h
theorem Bv{st:St}{v:V}{b:Bool}(h:truth st v=some b):f1 cc .not v st=some (.o !b,st):=kh (Option.map λb=>(V.b (.bool !b),st)) h
theorem j8{st:St}{v:V}{j:Nat×Nat×List (Nat×V)}{w:V}(h:cC st v=some j)(hw:j.2.2.lookup n=some w):f1 cc (.Jn n) v st=some (w,st):=by
 have:nO v=none:=by cases v with | rc a f=>cases h | _=>rfl
 show(ia n v st).map _=_
 unfold ia
 (refine(this)▸?_;refine(h)▸?_)
 show((j.2.2.lookup n).or _).map _=_
 (refine(hw)▸?_);rfl
theorem jR{st:St}{j:Nat×List V}{v u:V}{k:Int}(h:aP st v=some j)(h0:0<=k)(hu:j.2[k.toNat]?=some u):f2 .idx v (.i k) st=some (u,st):=by
 have e:EP v (.i k) st=some u:=by
  cases v with
  | ref a=>
   show(((aP st (.ref a)).bind λp=>(ag (decide (0<=k)) ()).bind λJ=>p.2[k.toNat]?).or none)=_
   rw[Iz h (Iz (f:=λJ=>j.2[k.toNat]?) (bQ (decide_eq_true h0)) hu)];rfl
  | _=>exact nS h
 exact kh (Option.map _) e
noncomputable abbrev IH(d:Nat):Cx:=QS eR Jx gF 400 d
noncomputable abbrev Ev(d:Nat)(x:E)(l:List V)(s:St)(v:V)(s':St):Prop:=IK (IH d) x l s=some (v,s')
noncomputable abbrev Ep(d:Nat)(x:E)(l:List V)(s:St)(v:V):Prop:=IK (IH d) x l s=some (v,s)
noncomputable abbrev Es(d:Nat)(x:S)(l:List V)(s:St)(l':List V)(s':St):Prop:=Ja (IH d) x l s=some (.next,l',s')
noncomputable def xW(k:Nat):Bool:=k==6||k==10||k==12
noncomputable def Eg(k:Nat):Bool:=k==7||k==11||k==13
noncomputable def N5(lv:Int)(k:Nat):Int:=bif xW k then lv+1 else bif Eg k then lv - 1 else bif k==5 then -1 else lv
noncomputable def db:Int->List Nat->Bool
 | _,[]=>false
 | lv,k::r=>decide (N5 lv k < 0)||db (N5 lv k) r
noncomputable def bO(n:Nat)(ks:List Nat):Bool:=!db 0 ks.tail&&decide (ks.length < n+1)
noncomputable def bN(ks:List Nat):Bool:=match ks with
 | []=>true
 | k::_=>bif k==6 then bO 1 ks else bif k==10 then bO 2 ks else bif k==12 then bO 3 ks else false
noncomputable def PE(k:Nat):Bool:=decide (4<=k)&&decide (k<=13)
noncomputable def lX:S:=match b_2 with | .cons _ (.cons (.for _ _ b) _)=>b | _=>.nil
theorem ev10{k:Nat}(h:PE k=true):k=4∨k=5∨k=6∨k=7∨k=8∨k=9∨k=10∨k=11∨k=12∨k=13:=
 (by decide +kernel:∀k:Fin 14,PE k.1=true->k.1=4∨k.1=5∨k.1=6∨k.1=7∨k.1=8∨k.1=9∨k.1=10∨k.1=11∨k.1=12∨k.1=13) ⟨k,Nat.lt_succ_of_le (km (ma h).2)⟩ h
theorem u9{P:Nat->Prop}{k:Nat}(h:PE k=true)(h4:P 4)(h5:P 5)(h6:P 6)(h7:P 7)(h8:P 8)(h9:P 9)(h10:P 10)(h11:P 11)(Qe:P 12)(h13:P 13):P k:=by
 rcases ev10 h with rfl | rfl | rfl | rfl | rfl | rfl | rfl | rfl | rfl | rfl <;> assumption
theorem rn(d:Nat)(s n:V)(lv:Int)(k:Nat)(f:List (Nat×B))(st:St)(h:PE k=true):Ja (IH d) lX [s,n,.i lv,.rc k f] st=
  some (bif decide (N5 lv k < 0) then .ret .ff else .next,[s,n,.i (N5 lv k),.rc k f],st):=by
 have hs:(IH d).sup=gF:=by cases d <;> rfl
 have fin:∀k,∀QC:Int,((bif decide (QC < 0) then some (Ly.ret .ff,[s,n,.i QC,.rc k f],st) else some (Ly.next,[s,n,.i QC,.rc k f],st):JC).bind λq=>thn q λl st=>some (.next,l,st))=some (bif decide (QC < 0) then Ly.ret .ff else .next,[s,n,.i QC,.rc k f],st):=λk QC=>by cases decide (QC < 0) <;> rfl
 generalize IH d=c at hs
 obtain⟨a1,a2,a3,a4,a5,a6⟩:=c
 subst hs
 exact u9 (P:=λk=>Ja ⟨a1,a2,gF,a4,a5,a6⟩ lX [s,n,.i lv,.rc k f] st=some (bif decide (N5 lv k < 0) then .ret .ff else .next,[s,n,.i (N5 lv k),.rc k f],st)) h (fin 4 lv) (by exact fin 5 (-1)) (fin 6 (lv+1)) (fin 7 (lv - 1)) (fin 8 lv) (fin 9 lv) (fin 10 (lv+1)) (fin 11 (lv - 1)) (fin 12 (lv+1)) (fin 13 (lv - 1))
noncomputable def J8:V->Nat | .rc k _=>k | _=>99
noncomputable def bn(vs:List V):List Nat:=vs.map J8
noncomputable def JY(v:V):Prop:=∃k f,v=.rc k f/\PE k=true
theorem jL{j:Nat}{vs r:List V}{st:St}{i:Nat}(hl:aP st (.ref j)=some (j,vs))(hd:vs.drop i=r):itemAt (.ref j) st i=some r.head?:=by
 show(Option.or none ((aP st (.ref j)).map _))=_
 rw[hl,<- hd,List.head?_drop];rfl
theorem sX(d:Nat)(s n:V){st:St}{j:Nat}{vs:List V}(hl:aP st (.ref j)=some (j,vs))(r:List V):∀(i:Nat)(lv:Int)(x:V)(fuel:Nat),vs.drop i=r->(∀v∈r,JY v)->r.length < fuel->
  ∀{P:Prop},(∀y z,cQ 3 (itemAt (.ref j)) (Ja (IH d) lX) fuel i [s,n,.i lv,x] st=some (bif db lv (bn r) then .ret .ff else .next,[s,n,y,z],st)->P)->P:=by
 induction r with
 | nil=>
  intro i lv x fuel hd _ hf P post
  obtain⟨f,rfl⟩:=fo hf
  exact post _ _ (Iz (jL hl hd) rfl)
 | cons v r ih=>
  intro i lv x fuel hd he hf P post
  cases fuel with
  | zero=>exact absurd hf (Nat.not_lt_zero _)
  | succ f=>
   obtain⟨k,g,rfl,hk⟩:=he v (.head _)
   have hb:=rn d s n lv k g st hk
   have cl:db lv (bn (.rc k g::r))=(decide (N5 lv k < 0)||db (N5 lv k) (bn r)):=rfl
   cases hc:decide (N5 lv k < 0) with
   | true=>
    rw[hc]at hb cl
    rw[cl]at post
    exact post _ _ (Iz (jL hl hd) (Iz hb rfl))
   | false=>
    rw[hc]at hb cl
    rw[cl]at post
    exact ih (i+1) (N5 lv k) (.rc k g) f (by rw[<- List.drop_drop,hd];rfl) (λv hv=>he v (.tail _ hv)) (Nat.lt_of_succ_lt_succ hf) λy z e=>post y z (Iz (jL hl hd) (Iz hb e))
theorem go{c:Cx}{a b:S}{l l':List V}{st II:St}{R:JC}(h:Ja c a l st=some (.next,l',II))(k:Ja c b l' II=R):Ja c (.cons a b) l st=R:=Iz h k
theorem J0{c:Cx}{a b:S}{l l':List V}{st II:St}{v:V}(h:Ja c a l st=some (.ret v,l',II)):Ja c (.cons a b) l st=some (.ret v,l',II):=Iz h rfl
structure O4(st:St)(e q:Nat)(vs:List V):Prop where
 ins:∃fs,st.cur[e]?=some (.ins 0 fs)/\fs.lookup 68=some (.ref q)/\(fs.lookup 2).isNone=true
 lst:st.cur[q]?=some (.lst vs)
theorem O4.al{st:St}{e q:Nat}{vs:List V}(h:O4 st e q vs)(o:Ob):O4 (alloc st o).2 e q vs:=by
 have up:∀{j:Nat}{o':Ob},st.cur[j]?=some o'->(alloc st o).2.cur[j]?=some o':=λhj=>(List.getElem?_append_left (kj hj).1).trans hj
 obtain⟨fs,h1,h2⟩:=h.ins
 exact⟨⟨fs,up h1,h2⟩,up h.lst⟩
theorem O4.ev{st:St}{e q:Nat}{vs:List V}(h:O4 st e q vs){c:Cx}{l:List V}(hl:l[0]?=some (.ref e)):IK c L8 l st=some (.ref q,st):=by
 obtain⟨fs,h1,h2,_⟩:=h.ins
 refine Iz (a:=(.ref e,st)) ?_ (j8 (d3 h1) h2)
 show(l[0]?).bind _=_
 rw[hl];rfl
theorem Ba(vs:List V):ar vs (some 1) none=vs.tail:=by
 cases vs with
 | nil=>rfl
 | cons v vs=>
  show((v::vs).drop (min 1 (vs.length+1))).take (vs.length+1 - min 1 (vs.length+1))=vs
  rw[Nat.min_eq_left (mj (mi _))]
  exact List.take_of_length_le (mf _)
theorem BX{c:Cx}{e q:Nat}{st:St}{vs:List V}{l:List V}(h:O4 st e q vs)(h0:l[0]?=some (.ref e)):IK c (.slice L8 I4 I7) l st=some (alloc st (.lst vs.tail)):=by
 refine Iz (h.ev h0) ?_
 show(Option.or none (((aP st (.ref q)).map λl=>alloc st (.lst (ar l.2 (some 1) none))).or _))=_
 rw[av h.lst]
 show some (alloc st (.lst (ar vs (some 1) none)))=_
 rw[Ba]
theorem xO{c:Cx}{e q n:Nat}{st:St}{vs:List V}{l:List V}(h:O4 st e q vs)(h0:l[0]?=some (.ref e))(h1:l[1]?=some (.i n)):IK c FJ l st=some (.o (decide ((bn vs).length < n+1)),st):=by
 have hlen:IK c (.u1 .len L8) l st=some (.i ((bn vs).length),st):=by
  refine Iz (h.ev h0) ?_
  show(Option.or none ((aP _ (.ref q)).map _))=_
  rw[av h.lst]
  exact kh (λn:Nat=>some (V.b (.int n),st)) (lg J8:(bn vs).length=_).symm
 have hn:IK c I2 l st=some (.i n,st):=by show(l[1]?).bind _=_;rw[h1];rfl
 refine Iz hlen (Iz (Iz hn rfl) ?_)
 exact kh (λb=>some (V.b (.bool b),st)) (decide_eq_decide.mpr Int.ofNat_lt:decide (((bn vs).length:Int) < ((n+1:Nat):Int))=_)
theorem qD(d:Nat){st:St}{e q:Nat}{vs:List V}(h:O4 st e q vs)(hv:∀v∈vs,JY v)(hl:vs.length<=300)(n:Nat) :
  (IH (d+1)).IG 2 [.ref e,.i n] st=some (.o (bO n (bn vs)),(alloc st (.lst vs.tail)).2):=by
 have hj:aP (alloc st (.lst vs.tail)).2 (.ref st.cur.length)=some (st.cur.length,vs.tail):=av (by
  show(st.cur++[_])[st.cur.length]?=_
  rw[List.getElem?_append_right (mf _),Nat.sub_self];rfl)
 have hw:(IH d).wf=400:=by cases d <;> rfl
 refine sX d (.ref e) (.i n) hj vs.tail 0 0 .uu 400 rfl (λv hm=>hv v (List.mem_of_mem_tail hm)) (lj (kg (lx List.length_tail) (kg (Nat.sub_le _ _) hl)) (by decide)) λy z e1=>?_
 have body:Ja (IH d) (.for 3 (.slice L8 I4 I7) lX) [.ref e,.i n,.i 0,.uu] st=some (bif db 0 (bn vs).tail then .ret .ff else .next,[.ref e,.i n,y,z],(alloc st (.lst vs.tail)).2):=by
  refine Iz (BX h rfl) ?_
  show cQ 3 (itemAt (.ref st.cur.length)) (Ja (IH d) lX) (IH d).wf 0 _ _=_
  rw[hw];exact(List.map_tail:bn vs.tail=(bn vs).tail)▸e1
 have whole:Ja (IH d) b_2 [.ref e,.i n,.uu,.uu] st=some (.ret (.o (bO n (bn vs))),[.ref e,.i n,y,z],(alloc st (.lst vs.tail)).2):=by
  refine go (l':=[.ref e,.i n,.i 0,.uu]) (II:=st) rfl ?_
  unfold bO
  cases hc:db 0 (bn vs).tail with
  | true=>rw[hc]at body;exact J0 body
  | false=>rw[hc]at body;exact go body (J0 (kh (Option.map _) (xO (h.al (.lst vs.tail)) rfl rfl)))
 exact Iz (a:=f_2) (by cases d <;> rfl) (Iz whole rfl)
theorem cK(d:Nat):(IH d).fns=eR:=by cases d <;> rfl
theorem ew(d:Nat):(IH d).wf=400:=by cases d <;> rfl
theorem rj(d:Nat){st:St}{e q:Nat}{vs:List V}(h:O4 st e q vs)(hv:∀v∈vs,JY v)(hl:vs.length<=300)(n:Nat)(x:V) :
  Ja (IH (d+1)) (.cons (.ret (.call 2 I0 (.pos (.n0 (.cst (.int n))) .nil))) .nil) [.ref e,x] st=some (.ret (.o (bO n (bn vs))),[.ref e,x],(alloc st (.lst vs.tail)).2):=
 h.ins.elim λfs h0=>J0 (kh (Option.map _) (Iz (a:=(V.ref e,st)) rfl (Iz (Iz (d3 h0.1) (Iz (a:=f_2) rfl (bQ h0.2.2)):ya (IH (d+1)) 2 (.ref e) st=some f_2) (Iz (a:=(([V.b (.int n)],[]),st)) rfl (Iz (a:=[V.ref e,.i n]) rfl (qD d h hv hl n)))):Ev (d+1) (.call 2 I0 (.pos (.n0 (.cst (.int n))) .nil)) [.ref e,x] st (.o (bO n (bn vs))) (alloc st (.lst vs.tail)).2))
noncomputable def td:S:=match b_1 with | .cons _ (.cons _ r)=>r | _=>.nil
noncomputable def Pb(k:Nat):Nat:=bif k==6 then 1 else bif k==10 then 2 else bif k==12 then 3 else 0
theorem oM(d k e:Nat)(f:List (Nat×B))(st:St)(hk:PE k=true){v:V}{l:List V}{s:St}:(Pb k=0->some (Ly.ret .ff,[.ref e,.rc k f],st)=some (.ret v,l,s))->(∀n:Nat,Pb k=n+1->Ja (IH (d+1)) (.cons (.ret (.call 2 I0 (.pos (.n0 (.cst (.int (n+1:Nat)))) .nil))) .nil) [.ref e,.rc k f] st=some (.ret v,l,s))->Ja (IH (d+1)) td [.ref e,.rc k f] st=some (.ret v,l,s):=
 u9 (P:=λk=>(Pb k=0->some (Ly.ret .ff,[.ref e,.rc k f],st)=some (.ret v,l,s))->(∀n:Nat,Pb k=n+1->Ja (IH (d+1)) (.cons (.ret (.call 2 I0 (.pos (.n0 (.cst (.int (n+1:Nat)))) .nil))) .nil) [.ref e,.rc k f] st=some (.ret v,l,s))->Ja (IH (d+1)) td [.ref e,.rc k f] st=some (.ret v,l,s)) hk
  (λh0 J=>h0 rfl) (λh0 J=>h0 rfl) (λJ h1=>J0 (h1 0 rfl)) (λh0 J=>h0 rfl) (λh0 J=>h0 rfl) (λh0 J=>h0 rfl) (λJ h1=>J0 (J0 (h1 1 rfl))) (λh0 J=>h0 rfl) (λJ h1=>J0 (J0 (J0 (h1 2 rfl)))) (λh0 J=>h0 rfl)
theorem xF{k:Nat}{ks:List Nat}:bN (k::ks)=bif (Pb k==0) then false else bO (Pb k) (k::ks):=by
 show(bif k==6 then bO 1 (k::ks) else bif k==10 then bO 2 (k::ks) else bif k==12 then bO 3 (k::ks) else false)=_
 unfold Pb
 cases k==6 <;> cases k==10 <;> cases k==12 <;> rfl
theorem qy(d:Nat){st:St}{e q:Nat}{vs:List V}(h:O4 st e q vs)(hv:∀v∈vs,JY v)(hl:vs.length<=300){P:Prop}(post:∀II,(IH (d+2)).IG 1 [.ref e] st=some (.o (bN (bn vs)),II)->((II=st∨II=(alloc st (.lst vs.tail)).2))->P):P:=by
 have hn:Ep (d+1) (.u1 .not L8) [.ref e,.uu] st (.o vs.isEmpty):=
  Iz (h.ev rfl) ((Bv (dW (av h.lst))).trans (by show some (V.b (.bool (!!vs.isEmpty)),st)=_;rw[Bool.not_not]))
 have wrap:∀{b II l'},Ja (IH (d+1)) b_1 [.ref e,.uu] st=some (.ret (.o b),l',II)->(IH (d+2)).IG 1 [.ref e] st=some (.o b,II):=λ{b II l'} h=>by
  show((Ja (IH (d+1)) b_1 [.ref e,.uu] st).bind λq=>(Dp q.1).map λv=>(v,q.2.2))=_
  exact Iz h rfl
 cases vs with
 | nil=>exact post st (wrap (J0 (Iz hn rfl))) (.inl rfl)
 | cons v vs=>
  obtain⟨k,f,rfl,hk⟩:=hv v (.head _)
  have pre:∀{R},Ja (IH (d+1)) td [.ref e,.rc k f] st=R->Ja (IH (d+1)) b_1 [.ref e,.uu] st=R:=λhr=>
   go (l':=[.ref e,.uu]) (II:=st) (Iz hn rfl) (go (l':=[.ref e,.rc k f]) (II:=st) (kh (Option.map _) (Iz (h.ev rfl) (Iz (a:=(V.b (.int 0),st)) rfl (jR (av h.lst) (Int.le_refl _) rfl)):Ep (d+1) mF [.ref e,.uu] st (.rc k f))) hr)
  have nk:bN (bn (.rc k f::vs))=bif (Pb k==0) then false else bO (Pb k) (bn (.rc k f::vs)):=xF
  rw[nk]at post
  cases hq:Pb k with
  | zero=>rw[hq]at post;exact post st (wrap (pre (oM d k e f st hk (λJ=>rfl) (λn h=>absurd (hq.symm.trans h).symm (Nat.succ_ne_zero n))))) (.inl rfl)
  | succ n=>rw[hq]at post;exact post _ (wrap (l':=[.ref e,.rc k f]) (pre (oM d k e f st hk (λh=>absurd (hq.symm.trans h) (Nat.succ_ne_zero n)) (λm hm=>by cases Nat.succ.inj (hq.symm.trans hm);exact rj d h hv hl (n+1) _)))) (.inr rfl)
noncomputable def tk:Nat->S->S
 | n+1,.cons a r=>.cons a (tk n r)
 | _,_=>.nil
noncomputable def ak:Nat->S->S
 | n+1,.cons _ r=>ak n r
 | _,s=>s
noncomputable def Lo:S->S | .cons a _=>a | _=>.nil
theorem bK{c:Cx}{t a b:E}{l:List V}{st s1:St}{v:V}{u:Bool}(h:IK c t l st=some (v,s1))(hu:truth s1 v=some u):IK c (.IF t a b) l st=bif u then IK c a l s1 else IK c b l s1:=Iz h (Iz hu rfl)
theorem zm{c:Cx}{a b:E}{l:List V}{st s1:St}{v:V}{u:Bool}(h:IK c a l st=some (v,s1))(hu:truth s1 v=some u):IK c (.and a b) l st=bif u then IK c b l s1 else some (v,s1):=Iz h (Iz hu rfl)
theorem Bo{c:Cx}{a b:E}{l:List V}{st s1:St}{v:V}{u:Bool}(h:IK c a l st=some (v,s1))(hu:truth s1 v=some u):IK c (.or a b) l st=bif u then some (v,s1) else IK c b l s1:=Iz h (Iz hu rfl)
theorem aR{c:Cx}{e:E}{l:List V}{st s1:St}{v:V}(h:IK c e l st=some (v,s1))(b:S):Ja c (.cons (.ret e) b) l st=some (.ret v,l,s1):=J0 (kh (Option.map _) h)
theorem bB{c:Cx}{a b:E}{l:List V}{st:St}{u w:Bool}(h:IK c a l st=some (.o u,st))(h':IK c b l st=some (.o w,st)):IK c (.and a b) l st=some (.o (u&&w),st):=by
 rw[zm (u:=u) h rfl,h'];cases u <;> rfl
theorem cu{c:Cx}{a b:E}{l:List V}{st:St}{u w:Bool}(h:IK c a l st=some (.o u,st))(h':IK c b l st=some (.o w,st)):IK c (.or a b) l st=some (.o (u||w),st):=by
 rw[Bo (u:=u) h rfl,h'];cases u <;> rfl
theorem DM{c:Cx}{a:E}{l:List V}{st:St}{u:Bool}(h:IK c a l st=some (.o u,st)):IK c (.u1 .not a) l st=some (.o (!u),st):=Iz h rfl
theorem aX{c:Cx}{k:Nat}{as:E}{l:List V}{st s1:St}{vs ws:List V}{f:Fn}{y:V×St}(h:Kq c as l st=some ((vs,[]),s1))(hf:c.fns[k]?=some f)(hl:aM f vs []=some ws)(ho:f.own=2)(hc:c.IG k ws s1=some y):IK c (.Jj k as) l st=some y:=
 Iz h (Iz hf (Iz hl (Iz (a:=()) (bQ (by rw[ho];rfl)) hc)))
theorem ap{d k:Nat}{f:Fn}{vs:List V}{st II:St}{v:V}{l:List V}(hf:eR[k]?=some f)(h:Ja (IH d) f.body (vs++List.replicate (f.slots.length - f.Jg) .uu) st=some (.ret v,l,II))(hv:ab v=false)(hc:f.cl=false:=by rfl):(IH (d+1)).IG k vs st=some (v,II):=
 Iz (by rw[cK];exact hf) (Iz (by rw[hc];exact h) (by show(ag (!ab v) v).map _=_;rw[hv];rfl))
theorem aa{d k:Nat}{f:Fn}{vs:List V}{st II:St}{l:List V}(hf:eR[k]?=some f)(h:Es d f.body (vs++List.replicate (f.slots.length - f.Jg) .uu) st l II)(hc:f.cl=false:=by rfl):(IH (d+1)).IG k vs st=some (.b .nul,II):=
 Iz (by rw[cK];exact hf) (Iz (by rw[hc];exact h) rfl)
theorem fc{c:Cx}{o e:E}{l:List V}{st s1:St}{k:Nat}{xs ys:List V}{v:V}(ho:IK c o l st=some (.ref k,st))(hx:st.cur[k]?=some (.lst xs))(he:IK c e l st=some (v,s1))(hy:s1.cur[k]?=some (.lst ys))(hl:ys.length < IU)(hu:ab v=false) :
  Ja c (.app o e) l st=some (.next,l,dK s1 k (.lst (ys++[v]))):=
 Iz ho (Iz (av hx) (Iz he (Iz (av hy) (bQ (by (refine(hu)▸?_;refine(decide_eq_true hl).symm▸?_);rfl)))))
theorem oS:2000<=IU:=by decide
theorem ae{c:Cx}{t:E}{a b:S}{l:List V}{st s1:St}{v:V}{R:JC}(h:IK c t l st=some (v,s1))(hu:truth s1 v=some true)(k:Ja c a l s1=R):Ja c (.IF t a b) l st=R:=Iz h (Iz hu k)
theorem ac{c:Cx}{t:E}{a b:S}{l:List V}{st s1:St}{v:V}{R:JC}(h:IK c t l st=some (v,s1))(hu:truth s1 v=some false)(k:Ja c b l s1=R):Ja c (.IF t a b) l st=R:=Iz h (Iz hu k)
structure Wr where
 col:Int
 line:Int
 ws:Bool
 ind:Bool
 Kc:Bool
 rows:List Tx
structure Op where
 enc:V
 IL:B
 wide:B
 bi:Int
 bw:Int
 lb:Tx
structure Ct where
 indent:B
 lvl:Int
 root:Bool
 sq:Bool
 mp:Bool
 sk:Bool
structure Ms where
 LA:V
 IB:B
 tag:B
 Jp:V
 IV:B
structure Sk where
 state:V
 event:V
 IC:List V
 events:List V
 ID:List V
structure Em where
 w:Wr
 o:Op
 c:Ct
 m:Ms
 k:Sk
noncomputable def L6(e:Em):List (Nat×V):=[(64,.ref 0),(65,e.o.enc),(66,.ref 3),(67,e.k.state),(68,.ref 4),(69,e.k.event),(70,.ref 5),(71,.b e.c.indent),(72,.i e.c.lvl),(73,.o e.c.root),(74,.o e.c.sq),(75,.o e.c.mp),(76,.o e.c.sk),(77,.i e.w.line),(78,.i e.w.col),(79,.o e.w.ws),(80,.o e.w.ind),(81,.o e.w.Kc),(82,.b e.o.IL),(83,.b e.o.wide),(84,.i e.o.bi),(85,.i e.o.bw),(86,.s e.o.lb),(87,e.m.LA),(88,.b e.m.IB),(89,.b e.m.tag),(90,e.m.Jp),(91,.b e.m.IV)]
noncomputable def Iy(e:Em)(g:List Ob):St:=⟨.ins 1 [(107,.ref 1)]::.lst (bF e.w.rows)::.ins 0 (L6 e)::.lst e.k.IC::.lst e.k.events::.lst e.k.ID::g,[]⟩
noncomputable def Wr.put(w:Wr)(s:Tx):Wr:=⟨w.col,w.line,w.ws,w.ind,w.Kc,w.rows++[s]⟩
noncomputable def Em.W(e:Em)(w:Wr):Em:=⟨w,e.o,e.c,e.m,e.k⟩
noncomputable def Em.C(e:Em)(c:Ct):Em:=⟨e.w,e.o,c,e.m,e.k⟩
noncomputable def Em.M(e:Em)(m:Ms):Em:=⟨e.w,e.o,e.c,m,e.k⟩
noncomputable def Em.K(e:Em)(k:Sk):Em:=⟨e.w,e.o,e.c,e.m,k⟩
noncomputable abbrev Em.ok(e:Em)(n:Nat):Prop:=e.w.rows.length+n<=IU
section
variable{e:Em}{g:List Ob}{c:Cx}{l:List V}{st s1:St}{a b:E}{u w:Bool}
theorem xl{n:Nat}(h:e.w.rows.length+(n+1)<=IU):(bF e.w.rows).length < IU:=(lg (as:=e.w.rows) (λt=>V.b (.str t))).symm▸li (Nat.lt_add_of_pos_right (Nat.succ_pos n)) h
theorem f7{s t:Tx}(h:s.length+t.length<=IU):f2 (.bin .add) (.s s) (.s t) st=some (.s (s++t),st):=
 (kh (λo=>Option.or (Option.map (λv=>(v,st)) (Option.or none (Option.or o none))) none) (bQ (decide_eq_true h):y8 .add s t=some (.s (s++t))):_)
theorem Ae{s r:Tx}{n:Int}(h:y9 .mul s n=some (.s r)):f2 (.bin .mul) (.s s) (.i n) st=some (.s r,st):=
 (kh (λo=>Option.or (Option.map (λv=>(v,st)) (Option.or none (Option.or none o))) none) h:_)
theorem Ag{k:Nat}{o as:E}{j cl:Nat}{fs kw:List (Nat×V)}{f:Fn}{vs ws:List V}{y:V×St}(ho:IK c o l st=some (.ref j,st))(hj:st.cur[j]?=some (.ins cl fs))(hf:c.fns[k]?=some f)(hc:f.own=cl)(hn:(fs.lookup k).isNone=true)(ha:Kq c as l st=some ((vs,kw),s1))(hl:aM f (.ref j::vs) kw=some ws)(hr:c.IG k ws s1=some y):IK c (.call k o as) l st=some y:=
 Iz ho (Iz (Iz (d3 hj) (Iz hf (bQ (by rw[hc,hn,beq_self_eq_true];rfl))):ya c k (.ref j) st=some f) (Iz ha (Iz hl hr)))
theorem au(h:l[0]?=some (.ref 2)):IK c I0 l st=some (.ref 2,st):=by show(l[0]?).bind _=_;rw[h];rfl
theorem aj{d k:Nat}{as:E}{vs ws:List V}{kw:List (Nat×V)}{y:V×St}(f:Fn)(h0:l[0]?=some (.ref 2))(hf:eR[k]?=some f)(ho:f.own=0)(hn:((L6 e).lookup k).isNone=true)(ha:Kq (IH d) as l (Iy e g)=some ((vs,kw),Iy e g))(hw:aM f (.ref 2::vs) kw=some ws)(hr:(IH d).IG k ws (Iy e g)=some y):IK (IH d) (.call k I0 as) l (Iy e g)=some y:=
 Ag (au h0) rfl (by rw[cK];exact hf) ho hn ha hw hr
theorem aq{y:V×St}(h:IK c a l st=some y):Ja c (.expr a) l st=some (.next,l,y.2):=kh (Option.map _) h
theorem pK(d:Nat)(s:Tx)(h:e.ok 1):(IH (d+1)).IG 57 [.ref 0,.s s] (Iy e g)=some (.b .nul,Iy (e.W (e.w.put s)) g):=by
 have h1:Es d Fk [.ref 0,.s s] (Iy e g) [.ref 0,.s s] (Iy (e.W (e.w.put s)) g):=by
  refine go (fc (k:=1) (ys:=bF e.w.rows) (v:=.s s) (s1:=Iy e g) rfl rfl rfl rfl (xl h) rfl) ?_
  exact kh (λl=>some (Ly.next,[V.ref 0,V.b (.str s)],(⟨.ins 1 [(107,.ref 1)]::.lst l::.ins 0 (L6 e)::.lst e.k.IC::.lst e.k.events::.lst e.k.ID::g,[]⟩:St))) (by unfold bF Em.W Wr.put;rw[List.map_append];rfl)
 exact aa (f:=yo) rfl h1
theorem gB(d:Nat){x:E}{s:Tx}(h0:l[0]?=some (.ref 2))(hx:Ep (d+1) x l (Iy e g) (.s s))(h:e.ok 1):Es (d+1) (.expr (.call 57 OZ (.pos x .nil))) l (Iy e g) l (Iy (e.W (e.w.put s)) g):=
 have ho:Ep (d+1) OZ l (Iy e g) (.ref 0):=Iz (au h0) rfl
 aq (Ag (f:=yo) (as:=.pos x .nil) (kw:=[]) (s1:=Iy e g) (vs:=[.s s]) ho rfl (by rw[cK];rfl) rfl rfl (Iz hx rfl) rfl (pK d s h))
noncomputable def Wr.brk(w:Wr)(s:Tx):Wr:=⟨0,w.line+1,true,true,w.Kc,w.rows++[s]⟩
noncomputable def BF(lb:Tx):B->Tx | .str s=>s | _=>lb
theorem cw(d:Nat)(x:B)(hx:x=.nul∨∃s,x=.str s)(h:e.ok 1):(IH (d+2)).IG 48 [.ref 2,.b x] (Iy e g)=some (.b .nul,Iy (e.W (e.w.brk (BF e.o.lb x))) g):=by
 have h1:Es (d+1) CF [.ref 2,.b x] (Iy e g) [.ref 2,.s (BF e.o.lb x)] (Iy (e.W (e.w.brk (BF e.o.lb x))) g):=by
  have fin:∀s:Tx,Es (d+1) (ak 1 CF) [.ref 2,.s s] (Iy e g) [.ref 2,.s s] (Iy (e.W (e.w.brk s)) g):=λs=>
   go (l':=[.ref 2,.s s]) (II:=Iy (e.W ⟨e.w.col,e.w.line,true,e.w.ind,e.w.Kc,e.w.rows⟩) g) rfl <| go (l':=[.ref 2,.s s]) (II:=Iy (e.W ⟨e.w.col,e.w.line,true,true,e.w.Kc,e.w.rows⟩) g) rfl <|
    go (l':=[.ref 2,.s s]) (II:=Iy (e.W ⟨e.w.col,e.w.line+1,true,true,e.w.Kc,e.w.rows⟩) g) rfl <| go (l':=[.ref 2,.s s]) (II:=Iy (e.W ⟨0,e.w.line+1,true,true,e.w.Kc,e.w.rows⟩) g) rfl <|
    go (gB d (e:=e.W ⟨0,e.w.line+1,true,true,e.w.Kc,e.w.rows⟩) rfl rfl h) rfl
  rcases hx with rfl | ⟨s,rfl⟩
  ·exact go (l':=[.ref 2,.s e.o.lb]) (II:=Iy e g) rfl (fin _)
  ·exact go (l':=[.ref 2,.s s]) (II:=Iy e g) rfl (fin _)
 exact aa (f:=gc) rfl h1
end
noncomputable def Wr.sgn(w:Wr)(s:Tx)(nw:Bool)(K8:Bool)(i:Bool):Wr:=
 let t:=bif w.ws||!nw then s else 32::s
 ⟨w.col+(t.length:Int),w.line,K8,w.ind&&i,false,w.rows++[t]⟩
section
variable{e:Em}{g:List Ob}{c:Cx}{l:List V}
theorem bg{k:Nat}{a:E}{v:V}{st II:St}(h:IK c a l st=some (v,II)):Ja c (.asg [k] a) l st=some (.next,l.set k v,II):=kh (Option.map _) h
theorem bC(d:Nat)(s:Tx)(nw K8 i:Bool)(hs:s.length<=2000)(h:e.ok 1):(IH (d+2)).IG 46 [.ref 2,.s s,.o nw,.o K8,.o i] (Iy e g)=some (.b .nul,Iy (e.W (e.w.sgn s nw K8 i)) g):=by
 have tl:∀t:Tx,t=(bif e.w.ws||!nw then s else 32::s)->Es (d+1) (ak 1 Fs) [.ref 2,.s s,.o nw,.o K8,.o i,.s t] (Iy e g) [.ref 2,.s s,.o nw,.o K8,.o i,.s t] (Iy (e.W (e.w.sgn s nw K8 i)) g):=λt ht=>by
  subst ht
  generalize ht:(bif e.w.ws||!nw then s else 32::s)=t
  have e4:e.w.sgn s nw K8 i=⟨e.w.col+(t.length:Int),e.w.line,K8,e.w.ind&&i,false,e.w.rows++[t]⟩:=by rw[<- ht];rfl
  rw[e4]
  exact go (l':=[.ref 2,.s s,.o nw,.o K8,.o i,.s t]) (II:=Iy (e.W ⟨e.w.col,e.w.line,K8,e.w.ind,e.w.Kc,e.w.rows⟩) g) rfl <|
   go (l':=[.ref 2,.s s,.o nw,.o K8,.o i,.s t]) (II:=Iy (e.W ⟨e.w.col,e.w.line,K8,e.w.ind&&i,e.w.Kc,e.w.rows⟩) g) (Iz (bB rfl rfl) rfl) <|
   go (l':=[.ref 2,.s s,.o nw,.o K8,.o i,.s t]) (II:=Iy (e.W ⟨e.w.col+(t.length:Int),e.w.line,K8,e.w.ind&&i,e.w.Kc,e.w.rows⟩) g) rfl <|
   go (l':=[.ref 2,.s s,.o nw,.o K8,.o i,.s t]) (II:=Iy (e.W ⟨e.w.col+(t.length:Int),e.w.line,K8,e.w.ind&&i,false,e.w.rows⟩) g) rfl <|
   go (gB d (e:=e.W ⟨e.w.col+(t.length:Int),e.w.line,K8,e.w.ind&&i,false,e.w.rows⟩) rfl rfl h) rfl
 have hq:Ep (d+1) (.or (.u1 (.Jn 79) I0) (.u1 .not J3)) [.ref 2,.s s,.o nw,.o K8,.o i,.uu] (Iy e g) (.o (e.w.ws||!nw)):=cu rfl rfl
 refine aa (f:=eF) (l:=[.ref 2,.s s,.o nw,.o K8,.o i,.s (bif e.w.ws||!nw then s else 32::s)]) rfl (go (II:=Iy e g) ?_ (tl _ rfl))
 cases hc:e.w.ws||!nw with
 | true=>exact ae hq (kh some hc) (go rfl rfl)
 | false=>exact ac hq (kh some hc) (go (bg (v:=.s (32::s)) (Iz (a:=(.s [32],Iy e g)) rfl (Iz (a:=(.s s,Iy e g)) rfl (f7 (s:=[32]) (kg (me hs 1) (by decide)))))) rfl)
noncomputable def ai:B->Int | .int i=>i | _=>0
noncomputable def aJ(n:Int):Tx:=(List.replicate n.toNat [32]).flatten
noncomputable def Wr.Mf(w:Wr)(i:Int):Bool:=!w.ind||(decide (i < w.col)||(w.col==i&&!w.ws))
noncomputable def Wr.pad(w:Wr)(i:Int):Wr:=bif decide (w.col < i) then⟨i,w.line,true,w.ind,w.Kc,w.rows++[aJ (i - w.col)]⟩ else w
noncomputable def Wr.IW(w:Wr)(i:Int)(lb:Tx):Wr:=(bif w.Mf i then w.brk lb else w).pad i
noncomputable def IM(x:B):Prop:=x=.nul∨∃i:Int,x=.int i/\i<=2000
theorem IM.le{x:B}(h:IM x):ai x<=2000:=by
 rcases h with rfl | ⟨i,rfl,h⟩
 ·exact(by decide:(0:Int)<=2000)
 ·exact h
theorem IM.or{d:Nat}(h:IM e.c.indent){x y:V}:Ep d (.or rK I8) [.ref 2,x,y] (Iy e g) (.i (ai e.c.indent)):=by
 have h1:Ep d rK [.ref 2,x,y] (Iy e g) (.b e.c.indent):=rfl
 rcases h with h | ⟨i,h,_⟩
 ·rw[h]at h1 ⊢
  exact Iz h1 rfl
 ·rw[h]at h1 ⊢
  by_cases h0:i=0
  ·rw[h0]at h1 ⊢;exact Iz h1 rfl
  ·exact Iz h1 (Iz (a:=true) (kh some (bne_iff_ne.mpr h0)) rfl)
theorem oD(d:Nat){i:Int}(hi:i<=2000)(hc:0<=e.w.col)(h:e.ok 1){P:Prop}(post:∀x,Es (d+1) (ak 2 zg) [.ref 2,.i i,.uu] (Iy e g) [.ref 2,.i i,x] (Iy (e.W (e.w.pad i)) g)->P):P:=by
 have hq:Ep (d+1) (.b2 (.cmp .lt) nY I2) [.ref 2,.i i,.uu] (Iy e g) (.o (decide (e.w.col < i))):=rfl
 cases hb:decide (e.w.col < i) with
 | false=>
  rw[hb]at hq
  exact post .uu (by unfold Wr.pad;rw[hb];exact go (ac hq rfl rfl) rfl)
 | true=>
  rw[hb]at hq
  have e1:e.w.pad i=⟨i,e.w.line,true,e.w.ind,e.w.Kc,e.w.rows++[aJ (i - e.w.col)]⟩:=by unfold Wr.pad;rw[hb];rfl
  have J5:=km hb
  have gd:y9 .mul [32] (i - e.w.col)=some (.s (aJ (i - e.w.col))):=bQ (by
   have h1:-1000000<=i - e.w.col:=by omega
   have h2:([32]:Tx).length*(i - e.w.col).toNat<=IU:=by
    have:(i - e.w.col).toNat<=2000:=by omega
    rw[show([32]:Tx).length=1 from rfl,Nat.one_mul];exact kg this oS
   rw[decide_eq_true h1,decide_eq_true h2];rfl)
  refine post (.s (aJ (i - e.w.col))) ?_
  rw[e1]
  refine go (ae hq rfl ?_) rfl
  exact go (l':=[.ref 2,.i i,.uu]) (II:=Iy (e.W ⟨e.w.col,e.w.line,true,e.w.ind,e.w.Kc,e.w.rows⟩) g) rfl <|
   go (bg (v:=.s (aJ (i - e.w.col))) (II:=Iy (e.W ⟨e.w.col,e.w.line,true,e.w.ind,e.w.Kc,e.w.rows⟩) g) (Iz (a:=(.s [32],Iy (e.W ⟨e.w.col,e.w.line,true,e.w.ind,e.w.Kc,e.w.rows⟩) g)) rfl (Iz (a:=(.i (i - e.w.col),Iy (e.W ⟨e.w.col,e.w.line,true,e.w.ind,e.w.Kc,e.w.rows⟩) g)) rfl
    (Ae gd)))) <|
   go (l':=[.ref 2,.i i,.s (aJ (i - e.w.col))]) (II:=Iy (e.W ⟨i,e.w.line,true,e.w.ind,e.w.Kc,e.w.rows⟩) g) rfl <|
   go (gB d (e:=e.W ⟨i,e.w.line,true,e.w.ind,e.w.Kc,e.w.rows⟩) rfl rfl h) rfl
theorem cT(d:Nat)(hi:IM e.c.indent)(hc:0<=e.w.col)(h:e.ok 2):(IH (d+3)).IG 47 [.ref 2] (Iy e g)=some (.b .nul,Iy (e.W (e.w.IW (ai e.c.indent) e.o.lb)) g):=by
 have hq:Ep (d+2) I86 [.ref 2,.i (ai e.c.indent),.uu] (Iy e g) (.o (e.w.Mf (ai e.c.indent))):=cu rfl (cu rfl (bB rfl rfl))
 have pre:∀{R},Ja (IH (d+2)) (ak 1 zg) [.ref 2,.i (ai e.c.indent),.uu] (Iy e g)=R->Ja (IH (d+2)) zg [.ref 2,.uu,.uu] (Iy e g)=R:=λhr=>go (l':=[.ref 2,.i (ai e.c.indent),.uu]) (bg hi.or) hr
 cases hb:e.w.Mf (ai e.c.indent) with
 | false=>
  rw[hb]at hq
  have e1:e.w.IW (ai e.c.indent) e.o.lb=e.w.pad (ai e.c.indent):=by unfold Wr.IW;rw[hb];rfl
  rw[e1]
  exact oD (d+1) hi.le hc (mq h) λx hx=>aa (f:=gf) rfl (pre (go (ac hq rfl rfl) hx))
 | true=>
  rw[hb]at hq
  have e1:e.w.IW (ai e.c.indent) e.o.lb=(e.w.brk e.o.lb).pad (ai e.c.indent):=by unfold Wr.IW;rw[hb];rfl
  rw[e1]
  have h2:(e.W (e.w.brk e.o.lb)).ok 1:=by show(e.w.rows++[_]).length+1<=IU;rw[ky];exact h
  exact oD (d+1) (e:=e.W (e.w.brk e.o.lb)) hi.le (Int.le_refl 0) h2 λx hx=>aa (f:=gf) rfl (pre (go (ae hq rfl (go (aq (aj gc (vs:=[]) (kw:=[]) (ws:=[.ref 2,.b .nul]) rfl rfl rfl rfl rfl rfl (cw d .nul (.inl rfl) (mq h)))) rfl)) hx))
end
noncomputable def KG{α:Type}(f:Nat->α->α)(a:α):Nat->α
 | 0=>a
 | i+1=>f i (KG f a i)
theorem cy{c:Cx}{t:E}{b:S}{I:Nat->List V->St->Prop}{n:Nat}(step:∀i,i<=n->∀l st,I i l st->IK c t l st=some (.tt,st)/\∀{P:Prop},(∀l' II,Ja c b l st=some (.next,l',II)->I (i+1) l' II->P)->P)(stop:∀l st,I (n+1) l st->IK c t l st=some (.ff,st))(hw:n+2<=c.wf)
  {l:List V} {st:St} (h0:I 0 l st) {P:Prop} (post:∀l' II,Ja c (.while t b) l st=some (.next,l',II)->I (n+1) l' II->P):P:=by
 have main:∀k i fuel,i+k=n+1->k < fuel->∀l st,I i l st->∀{P:Prop},(∀l' II,fU (IK c t) (Ja c b) fuel l st=some (.next,l',II)->I (n+1) l' II->P)->P:=by
  intro k
  induction k with
  | zero=>
   intro i fuel hi hf l st h P post
   obtain rfl:i=n+1:=hi
   obtain⟨f,rfl⟩:∃f,fuel=f+1:=⟨fuel - 1,(Nat.sub_add_cancel hf).symm⟩
   exact post l st (Iz (stop l st h) rfl) h
  | succ k ih=>
   intro i fuel hi hf l st h P post
   obtain⟨f,rfl⟩:∃f,fuel=f+1:=⟨fuel - 1,(Nat.sub_add_cancel (Nat.le_of_lt (lj (mj (mi k)) hf))).symm⟩
   have hl:i<=n:=by omega
   obtain⟨h1,h2⟩:=step i hl l st h
   refine h2 λl' II hb h'=>ih (i+1) f (by rw[<- hi,Nat.add_assoc,Nat.add_comm 1 k]) (Nat.lt_of_succ_lt_succ hf) l' II h' λl'' st'' hr Qf=>post l'' st'' (Iz h1 (Iz (a:=true) rfl (Iz hb hr))) Qf
 exact main (n+1) 0 c.wf (Nat.zero_add _) (Nat.lt_of_succ_le hw) l st h0 post
noncomputable def Gr(w w':Wr)(n:Nat):Prop:=(0<=w.col->0<=w'.col)/\w'.rows.length<=w.rows.length+n
theorem Gr.refl{w:Wr}{n:Nat}:Gr w w n:=⟨id,lw _ _⟩
theorem Gr.trans{w w' w'':Wr}{n m:Nat}(h:Gr w w' n)(h':Gr w' w'' m):Gr w w'' (n+m):=⟨λx=>h'.1 (h.1 x),kg h'.2 (by rw[<- Nat.add_assoc];exact Nat.add_le_add_right h.2 m)⟩
theorem Gr.le{w w':Wr}{n m:Nat}(h:Gr w w' n)(hm:n<=m):Gr w w' m:=⟨h.1,kg h.2 (me hm _)⟩
theorem Gr.ok{e:Em}{w':Wr}{n m:Nat}(h:Gr e.w w' n)(ho:e.ok (n+m)):(e.W w').ok m:=kg (Nat.add_le_add_right h.2 m) (by rw[Nat.add_assoc];exact ho)
theorem nz(w:Wr)(s:Tx):Gr w (w.put s) 1:=⟨id,lx (ky)⟩
theorem cF(w:Wr)(s:Tx):Gr w (w.brk s) 1:=⟨λJ=>Int.le_refl 0,lx (ky)⟩
theorem aS(w:Wr)(s:Tx)(a b i:Bool):Gr w (w.sgn s a b i) 1:=⟨λh=>Int.add_nonneg h (Int.natCast_nonneg _),lx (ky)⟩
theorem ur(w:Wr)(i:Int):Gr w (w.pad i) 1:=by
 unfold Wr.pad
 cases h:decide (w.col < i) with
 | true=>exact⟨λh0=>Int.le_of_lt (Int.lt_of_le_of_lt h0 (km h)),lx (ky)⟩
 | false=>exact .refl
theorem bE(w:Wr)(i:Int)(lb:Tx):Gr w (w.IW i lb) 2:=by
 unfold Wr.IW
 cases w.Mf i with
 | true=>exact(cF w lb).trans (ur _ i)
 | false=>exact(ur w i).le (mw 1)
noncomputable def Wr.raw(w:Wr)(s:Tx):Wr:=⟨w.col+(s.length:Int),w.line,w.ws,w.ind,w.Kc,w.rows++[s]⟩
theorem bq(w:Wr)(s:Tx):Gr w (w.raw s) 1:=⟨λh=>Int.add_nonneg h (Int.natCast_nonneg _),lx (ky)⟩
noncomputable def Wr.J9(lb:Tx)(w:Wr)(s:Tx):Wr:=s.foldl (λw c=>w.brk (bif c==10 then lb else [c])) w
theorem bL(lb:Tx)(s:Tx):∀w:Wr,Gr w (w.J9 lb s) s.length:=by
 induction s with
 | nil=>exact λw=>.refl
 | cons c s ih=>exact λw=>((cF w _).trans (ih _)).le (lx (Nat.add_comm 1 _))
noncomputable def af(c:Nat):Bool:=decide (c∈[10,133,8232,8233])
noncomputable def Jm(t:Tx)(a i:Nat):Tx:=ar t (some (a:Int)) (some (i:Int))
noncomputable def brB(k:Nat):S:=.cons (.IF (.b2 (.cmp .eq) (.n0 (.loc k)) O3) PV (.cons (.expr (.call 48 I0 (.pos (.n0 (.loc k)) .nil))) .nil)) .nil
section
variable{e:Em}{g:List Ob}{l:List V}
theorem aL{c:Cx}{k:Nat}{v:V}{st:St}(h:l[k]?=some v)(hv:ab v=false):IK c (.n0 (.loc k)) l st=some (v,st):=by show(l[k]?).bind _=_;rw[h];exact bQ (by rw[hv];rfl)
theorem y6(d k c:Nat)(h0:l[0]?=some (.ref 2))(hk:l[k]?=some (.s [c]))(h:e.ok 1):Es (d+2) (brB k) l (Iy e g) l (Iy (e.W (e.w.brk (bif c==10 then e.o.lb else [c]))) g):=by
 have hq:Ep (d+2) (.b2 (.cmp .eq) (.n0 (.loc k)) O3) l (Iy e g) (.o ([c]==[10])):=Iz (aL hk rfl) rfl
 have hb:([c]==([10]:Tx))=(c==10):=by rw[Bool.eq_iff_iff,beq_iff_eq,beq_iff_eq];exact⟨λh=>by injection h,λh=>h▸rfl⟩
 rw[hb]at hq
 cases hc:c==10 with
 | true=>
  rw[hc]at hq
  exact go (ae hq rfl (go (aq (aj gc (vs:=[]) (kw:=[]) (ws:=[.ref 2,.b .nul]) h0 rfl rfl rfl rfl rfl (cw d .nul (.inl rfl) h))) rfl)) rfl
 | false=>
  rw[hc]at hq
  exact go (ac hq rfl (go (aq (aj gc (vs:=[.s [c]]) (kw:=[]) (ws:=[.ref 2,.s [c]]) h0 rfl rfl rfl (Iz (aL hk rfl) rfl) rfl (cw d (.str [c]) (.inr ⟨_,rfl⟩) h))) rfl)) rfl
theorem vH(d k:Nat)(N8:0 < k)(s:Tx):∀(r:Tx)(i:Nat)(e:Em)(l:List V)(fuel:Nat),s.drop i=r->k < l.length->l[0]?=some (.ref 2)->e.ok r.length->r.length < fuel->∀{P:Prop},(∀x,cQ k (itemAt (.s s)) (Ja (IH (d+2)) (brB k)) fuel i l (Iy e g)=some (.next,l.set k x,Iy (e.W (e.w.J9 e.o.lb r)) g)->P)->P:=by
 intro r
 induction r with
 | nil=>
  intro i e l fuel hd hl h0 ho hf P post
  obtain⟨f,rfl⟩:∃f,fuel=f+1:=⟨fuel - 1,(Nat.sub_add_cancel hf).symm⟩
  have hi:s[i]?=none:=by rw[<- List.head?_drop,hd];rfl
  refine post (l[k]'hl) ?_
  rw[List.set_getElem_self]
  have hit:itemAt (.s s) (Iy e g) i=some none:=by show(some ((s[i]?).map λx=>V.b (.str [x]))).or _=_;rw[hi];rfl
  exact Iz hit rfl
 | cons c r ih=>
  intro i e l fuel hd hl h0 ho hf P post
  obtain⟨f,rfl⟩:∃f,fuel=f+1:=⟨fuel - 1,(Nat.sub_add_cancel (lj (mi _) hf)).symm⟩
  have hi:s[i]?=some c:=by rw[<- List.head?_drop,hd];rfl
  have hb:=y6 (g:=g) (e:=e) (l:=l.set k (.s [c])) d k c (by rw[List.getElem?_set_ne (Nat.ne_of_gt N8)];exact h0) (List.getElem?_set_self hl) (kg (me (mj (mi _)) _) ho)
  refine ih (i+1) (e.W (e.w.brk (bif c==10 then e.o.lb else [c]))) (l.set k (.s [c])) f (by rw[<- List.drop_drop,hd];rfl) (by rw[List.length_set];exact hl) (by rw[List.getElem?_set_ne (Nat.ne_of_gt N8)];exact h0) ((cF e.w _).ok (by rw[Nat.add_comm];exact ho)) (Nat.lt_of_succ_lt_succ hf) λx hx=>post x ?_
  rw[List.set_set]at hx
  have hit:itemAt (.s s) (Iy e g) i=some (some (.s [c])):=by show(some ((s[i]?).map λx=>V.b (.str [x]))).or _=_;rw[hi];rfl
  exact Iz hit (Iz hb hx)
theorem gz(d k a b:Nat)(N8:0 < k){t:Tx}{p i:Nat}(hk:k < l.length)(h0:l[0]?=some (.ref 2))(h1:l[1]?=some (.s t))(ha:l[a]?=some (.i p))(hb:l[b]?=some (.i i))(ho:e.ok (Jm t p i).length)(hl:(Jm t p i).length < 400){P:Prop}(post:∀x,Es (d+2) (.for k (.slice I2 (.n0 (.loc a)) (.n0 (.loc b))) (brB k)) l (Iy e g) (l.set k x) (Iy (e.W (e.w.J9 e.o.lb (Jm t p i))) g)->P):P:=
 vH d k N8 (Jm t p i) (Jm t p i) 0 e l (400+wR (.s (Jm t p i))) rfl hk h0 ho (li hl (lw _ _)) λx hx=>post x (Iz (a:=(.s (Jm t p i),Iy e g)) (Iz (aL h1 rfl) (Iz (aL ha rfl) (Iz (aL hb rfl) rfl))) (by rw[ew];exact hx))
theorem bx(d k:Nat){s:Tx}{r:S}{R:JC}(h0:l[0]?=some (.ref 2))(hk:l[k]?=some (.s s))(h:e.ok 1)(kr:Ja (IH (d+1)) r l (Iy (e.W (e.w.raw s)) g)=R):Ja (IH (d+1)) (.cons (.Ke 78 .add I0 (.u1 .len (.n0 (.loc k)))) (.cons (.expr (.call 57 OZ (.pos (.n0 (.loc k)) .nil))) r)) l (Iy e g)=R:=
 go (l':=l) (II:=Iy (e.W ⟨e.w.col+(s.length:Int),e.w.line,e.w.ws,e.w.ind,e.w.Kc,e.w.rows⟩) g) (Iz (au h0) (Iz (a:=.i e.w.col) rfl (Iz (a:=(.i s.length,Iy e g)) (Iz (aL hk rfl) rfl) rfl))) <|
  go (gB d (e:=e.W ⟨e.w.col+(s.length:Int),e.w.line,e.w.ws,e.w.ind,e.w.Kc,e.w.rows⟩) h0 (aL hk rfl) h) kr
theorem bD{c:Cx}(a b:Nat){t:Tx}{p i:Nat}{st:St}(h1:l[1]?=some (.s t))(ha:l[a]?=some (.i p))(hb:l[b]?=some (.i i)):IK c (.slice I2 (.n0 (.loc a)) (.n0 (.loc b))) l st=some (.s (Jm t p i),st):=Iz (aL h1 rfl) (Iz (aL ha rfl) (Iz (aL hb rfl) rfl))
end
noncomputable def bA(c:Nat):Bool:=decide (c∈[32,10,133,8232,8233])
noncomputable def fX(bi:Int)(c:Nat):Tx:=bif bA c then [48+bi.toNat] else []
noncomputable def fW(t:Tx)(z:Nat):Tx:=bif !af z then [45] else bif decide ((t.length:Int)=1)||((de t (-2)).any af) then [43] else []
noncomputable def aH(bi:Int)(t:Tx):Tx:=match t with | []=>[] | c::r=>fX bi c++fW t (r.getLast?.getD c)
theorem eP{t:Tx}{k:Int}{c:Nat}{st:St}(h:de t k=some c):f2 .idx (.s t) (.i k) st=some (.s [c],st):=by
 show Option.map _ (Option.or (Option.or (Option.map _ (de t k)) _) _)=_
 rw[h];rfl
theorem j7{s t:Tx}(h:s.length+t.length<=IU):bop .add (.s s) (.s t)=some (.s (s++t)):=
 (kh (λo=>Option.or none (Option.or o none)) (bQ (decide_eq_true h):y8 .add s t=some (.s (s++t))):_)
theorem un(c:Nat)(r:Tx):de (c::r) (-1)=some (r.getLast?.getD c):=by
 have e1:de (c::r) (-1)=(c::r)[r.length]?:=by
  unfold de
  rw[if_neg (by decide),if_pos (by rw[List.length_cons];omega)]
  congr 1
  rw[List.length_cons];omega
 rw[e1]
 have:(c::r)[r.length]?=(c::r).getLast?:=by rw[List.getLast?_eq_getElem?];rfl
 rw[this,List.getLast?_cons]
theorem x4{t:Tx}(h:2<=t.length):∃c,de t (-2)=some c:=by
 unfold de
 rw[if_neg (by decide),if_pos (by omega)]
 have hl:((-2:Int)+t.length).toNat < t.length:=by omega
 exact⟨_,kx hl⟩
theorem i6(bi:Int)(c:Nat):(fX bi c).length<=1:=by unfold fX;cases bA c <;> first | exact mi _ | exact mf _
theorem qU(t:Tx)(z:Nat):(fW t z).length<=1:=by
 unfold fW
 cases af z with
 | false=>exact mf 1
 | true=>cases decide ((t.length:Int)=1)||((de t (-2)).any af) <;> first | exact mi _ | exact mf _
theorem fL(bi:Int)(t:Tx):(aH bi t).length<=2:=by
 cases t with
 | nil=>exact mi _
 | cons c r=>exact kg (lx ky) (Nat.add_le_add (i6 bi c) (qU _ _))
section
variable{e:Em}{g:List Ob}{l:List V}
theorem lD(d:Nat)(t:Tx)(h0:0<=e.o.bi)(h9:e.o.bi<=9):(IH (d+1)).IG 53 [.ref 2,.s t] (Iy e g)=some (.s (aH e.o.bi t),Iy e g):=by
 cases t with
 | nil=>exact ap (f:=qZ) (l:=[.ref 2,.s [],.s []]) rfl (go (l':=[.ref 2,.s [],.s []]) (II:=Iy e g) rfl (go (l':=[.ref 2,.s [],.s []]) (II:=Iy e g) rfl rfl)) rfl
 | cons c r=>
  have k1:2<=IU:=by decide
  generalize hz:r.getLast?.getD c=z
  have hl:de (c::r) (-1)=some z:=hz▸un c r
  have eT:aH e.o.bi (c::r)=fX e.o.bi c++fW (c::r) z:=hz▸rfl
  rw[eT]
  have q1:Ep d (.b2 (.cmp .K2) (.b2 .idx I2 I8) I71) [.ref 2,.s (c::r),.s []] (Iy e g) (.o (bA c)):=Iz (a:=(.s [c],Iy e g)) (Iz (a:=(.s (c::r),Iy e g)) rfl (Iz (a:=(.i 0,Iy e g)) rfl (eP (by rfl)))) rfl
  have s1:Es d Gk [.ref 2,.s (c::r),.s []] (Iy e g) [.ref 2,.s (c::r),.s (fX e.o.bi c)] (Iy e g):=by
   unfold fX
   cases hc:bA c with
   | true=>
    rw[hc]at q1
    exact ae q1 rfl (go (Iz (a:=.s []) rfl (Iz (a:=(.s [48+e.o.bi.toNat],Iy e g)) (Iz (a:=(.i e.o.bi,Iy e g)) rfl (Iz (a:=e.o.bi) rfl (bQ (by rw[decide_eq_true h0,decide_eq_true h9];rfl)))) rfl)) rfl)
   | false=>rw[hc]at q1;exact ac q1 rfl rfl
  generalize hh1:fX e.o.bi c=h1 at s1
  have q2:Ep d FC [.ref 2,.s (c::r),.s h1] (Iy e g) (.o (!af z)):=Iz (a:=(.s [z],Iy e g)) (Iz (a:=(.s (c::r),Iy e g)) rfl (Iz (a:=(.i (-1),Iy e g)) rfl (eP hl))) rfl
  have hh:h1.length+1<=IU:=kg (Nat.add_le_add_right (hh1▸i6 _ _) 1) k1
  have s2:Es d I48 [.ref 2,.s (c::r),.s h1] (Iy e g) [.ref 2,.s (c::r),.s (h1++fW (c::r) z)] (Iy e g):=by
   unfold fW
   cases hb:af z with
   | false=>rw[hb]at q2;exact ae q2 rfl (go (Iz (a:=.s h1) rfl (Iz (a:=(.s [45],Iy e g)) rfl (kh (Option.map _) (j7 (t:=[45]) hh)))) rfl)
   | true=>
    rw[hb]at q2
    refine ac q2 rfl ?_
    have q3:Ep d Ge [.ref 2,.s (c::r),.s h1] (Iy e g) (.o (decide (((c::r).length:Int)=1)||((de (c::r) (-2)).any af))):=by
     have q4:Ep d (.b2 (.cmp .eq) KY I4) [.ref 2,.s (c::r),.s h1] (Iy e g) (.o (decide (((c::r).length:Int)=1))):=rfl
     cases hd:decide (((c::r).length:Int)=1) with
     | true=>rw[hd]at q4;exact Iz q4 (Iz (a:=true) rfl rfl)
     | false=>
      rw[hd]at q4
      have:2<=(c::r).length:=by have:=of_decide_eq_false hd;rw[List.length_cons]at *;omega
      obtain⟨y,hy⟩:=x4 this
      refine Iz q4 (Iz (a:=false) rfl ?_)
      rw[hy]
      exact Iz (a:=(.s [y],Iy e g)) (Iz (a:=(.s (c::r),Iy e g)) rfl (Iz (a:=(.i (-2),Iy e g)) rfl (eP hy))) rfl
    cases hx:decide (((c::r).length:Int)=1)||((de (c::r) (-2)).any af) with
    | true=>rw[hx]at q3;exact go (ae q3 rfl (go (Iz (a:=.s h1) rfl (Iz (a:=(.s [43],Iy e g)) rfl (kh (Option.map _) (j7 (t:=[43]) hh)))) rfl)) rfl
    | false=>rw[hx]at q3;rw[show h1++(bif !true then [45] else bif false then [43] else [])=h1 from mh h1];exact go (ac q3 rfl rfl) rfl
  exact ap (f:=qZ) (l:=[.ref 2,.s (c::r),.s (h1++fW (c::r) z)]) rfl (go (l':=[.ref 2,.s (c::r),.s []]) (II:=Iy e g) rfl (go (ae (v:=.s (c::r)) rfl rfl (go s1 (go s2 rfl))) rfl)) rfl
end
noncomputable def KQ(t:Tx)(i:Nat):V:=match t[i]? with | some c=>.b (.str [c]) | none=>.b .nul
theorem bS(t:Tx)(a i:Nat):(Jm t a i).length<=t.length:=by
 unfold Jm ar
 rw[List.length_take,List.length_drop]
 exact kg (Nat.min_le_right _ _) (Nat.sub_le _ _)
section
variable{e:Em}{g:List Ob}{l:List V}{c:Cx}{st:St}{R:JC}
theorem i5{t:Tx}{i c:Nat}(h:t[i]?=some c):de t (i:Int)=some c:=by
 unfold de
 rw[if_pos (Int.natCast_nonneg i)]
 exact h
theorem ik{t:Tx}{i:Nat}(k n:Nat){r:S}(hk:k < l.length)(NV:k≠1)(hkn:k≠n)(h1:l[1]?=some (.s t))(hn:l[n]?=some (.i i))(hi:i<=t.length)(kr:Ja c r (l.set k (KQ t i)) st=R) :
  Ja c (.cons (.asg [k] I7) (.cons (.IF (.b2 (.cmp .lt) (.n0 (.loc n)) KY) (.cons (.asg [k] (.b2 .idx I2 (.n0 (.loc n)))) .nil) .nil) r)) l st=R:=by
 refine go (l':=l.set k (.b .nul)) (II:=st) rfl ?_
 have h1':(l.set k (.b .nul))[1]?=some (.s t):=by rw[List.getElem?_set_ne NV];exact h1
 have hn':(l.set k (.b .nul))[n]?=some (.i i):=by rw[List.getElem?_set_ne hkn];exact hn
 have q:IK c (.b2 (.cmp .lt) (.n0 (.loc n)) KY) (l.set k (.b .nul)) st=some (.o (decide ((i:Int) < t.length)),st):=Iz (aL hn' rfl) (Iz (Iz (aL h1' rfl) rfl) rfl)
 unfold KQ at kr
 cases hq:t[i]? with
 | none=>
  rw[hq]at kr
  have:¬ (i:Int) < t.length:=by have:=List.getElem?_eq_none_iff.mp hq;omega
  rw[decide_eq_false this]at q
  exact go (ac q rfl rfl) kr
 | some x=>
  rw[hq]at kr
  have:(i:Int) < t.length:=by have:=(kj hq).1;omega
  rw[decide_eq_true this]at q
  refine go (ae q rfl (go (bg (v:=.s [x]) (Iz (aL h1' rfl) (Iz (aL hn' rfl) (eP (i5 hq))))) rfl)) ?_
  rw[List.set_set];exact kr
theorem bV{t:Tx}{i:Nat}(n:Nat)(h1:l[1]?=some (.s t))(hn:l[n]?=some (.i i)):IK c (.b2 (.cmp .le) (.n0 (.loc n)) KY) l st=some (.o (decide ((i:Int)<=t.length)),st):=Iz (aL hn rfl) (Iz (Iz (aL h1 rfl) rfl) rfl)
end
structure LS where
 w:Wr
 brk:Bool
 st:Nat
noncomputable def cZ(t:Tx)(ind:Int)(lb:Tx)(i:Nat)(s:LS):LS:=match t[i]? with
 | none=>bif s.brk then⟨s.w.J9 lb (Jm t s.st i),s.brk,i⟩ else⟨(s.w.put (Jm t s.st i)).brk lb,s.brk,i⟩
 | some c=>bif af c then(bif s.brk then⟨s.w,true,s.st⟩ else⟨s.w.put (Jm t s.st i),true,i⟩) else(bif s.brk then⟨(s.w.J9 lb (Jm t s.st i)).IW ind lb,false,i⟩ else⟨s.w,false,s.st⟩)
section
variable{t:Tx}{ind:Int}{lb:Tx}{i c:Nat}{s:LS}
theorem g5(h:t[i]?=none):cZ t ind lb i s=bif s.brk then⟨s.w.J9 lb (Jm t s.st i),s.brk,i⟩ else⟨(s.w.put (Jm t s.st i)).brk lb,s.brk,i⟩:=by unfold cZ;rw[h]
theorem g6(h:t[i]?=some c)(hb:af c=true):cZ t ind lb i s=bif s.brk then⟨s.w,true,s.st⟩ else⟨s.w.put (Jm t s.st i),true,i⟩:=by unfold cZ;rw[h];show(bif af c then _ else _)=_;rw[hb];rfl
theorem gZ(h:t[i]?=some c)(hb:af c=false):cZ t ind lb i s=bif s.brk then⟨(s.w.J9 lb (Jm t s.st i)).IW ind lb,false,i⟩ else⟨s.w,false,s.st⟩:=by unfold cZ;rw[h];show(bif af c then _ else _)=_;rw[hb];rfl
end
noncomputable def Qq:S->S | .cons (.while _ b) _=>b | _=>.nil
noncomputable def BE:S:=Qq (ak 6 Fm)
theorem jH(t:Tx)(ind:Int)(lb:Tx)(i:Nat)(s:LS):Gr s.w (cZ t ind lb i s).w (t.length+4):=by
 have k:∀n,n<=4->n<=t.length+4:=λn h=>kg h (mu _ _)
 have hs:=λp=>kg (Nat.add_le_add_right (bS t p i) 2) (me (by decide:2<=4) _)
 obtain⟨w,b,p⟩:=s
 cases hq:t[i]? with
 | none=>
  rw[g5 hq]
  cases b with
  | true=>exact(bL lb _ w).le (kg (bS t p i) (lw _ _))
  | false=>exact((nz w _).trans (cF _ lb)).le (k 2 (by decide))
 | some c=>
  cases hb:af c with
  | true=>
   rw[g6 hq hb]
   cases b with
   | true=>exact Gr.refl (w:=w)
   | false=>exact(nz w _).le (k 1 (by decide))
  | false=>
   rw[gZ hq hb]
   cases b with
   | true=>exact((bL lb _ w).trans (bE _ ind lb)).le (hs p)
   | false=>exact Gr.refl (w:=w)
section
variable{e:Em}{g:List Ob}
theorem t9(d:Nat){t h:Tx}{i:Nat}(s:LS)(hi:i<=t.length)(ht:t.length < 390)(hd:IM e.c.indent)(hc:0<=s.w.col)(ho:(e.W s.w).ok (t.length+4))(x y z:V){P:Prop}
  (post:∀x' y' z',Es (d+3) BE [.ref 2,.s t,.s h,.o s.brk,.i s.st,x,y,z,.i i] (Iy (e.W s.w) g) [.ref 2,.s t,.s h,.o ((cZ t (ai e.c.indent) e.o.lb i s).brk),.i ((cZ t (ai e.c.indent) e.o.lb i s).st),x',y',z',.i ((i+1:Nat):Int)] (Iy (e.W (cZ t (ai e.c.indent) e.o.lb i s).w) g)->P):P:=by
 obtain⟨w,b,p⟩:=s
 have o1:(e.W w).ok 1:=kg (me (kg (by decide:1<=4) (mu _ _)) _) ho
 have o2:(e.W w).ok (1+1):=kg (me (kg (by decide:2<=4) (mu _ _)) _) ho
 have sl:=bS t p i
 have os:(e.W w).ok ((Jm t p i).length+2):=kg (me (Nat.add_le_add sl (by decide)) _) ho
 have fr:=λ(ch:V) {Q:Prop}=>gz (e:=e.W w) (g:=g) (l:=[.ref 2,.s t,.s h,.tt,.i p,ch,y,z,.i i]) (d+1) 6 4 8 (by decide) (by decide:6 < 9) rfl rfl rfl rfl (kg (me (lw _ 2) _) os) (lj sl (Nat.lt_trans ht (by decide))) (P:=Q)
 have cr:=λ(R:JC)=>ik (c:=IH (d+3)) (st:=Iy (e.W w) g) (R:=R) (l:=[.ref 2,.s t,.s h,.o b,.i p,x,y,z,.i i]) (r:=ak 2 BE) 5 8 (by decide:5 < 9) (by decide) (by decide) rfl rfl hi
 cases hq:t[i]? with
 | none=>
  have hv:KQ t i=.b .nul:=by unfold KQ;rw[hq]
  rw[g5 hq]at post
  rw[hv]at cr
  cases b with
  | true=>
   refine fr (.b .nul) λu hu=>post (.b .nul) u z (cr _ ?_)
   exact go (ae rfl rfl (go (ae (v:=.tt) rfl rfl (go hu (go (ac (v:=.ff) rfl rfl rfl) (go rfl rfl)))) rfl)) (go (ac (v:=.ff) rfl rfl rfl) (go rfl rfl))
  | false=>
   have bk:=cw (e:=e.W (w.put (Jm t p i))) (g:=g) (d+1) .nul (.inl rfl) ((nz w (Jm t p i)).ok (e:=e.W w) o2)
   refine post (.b .nul) y (.s (Jm t p i)) (cr _ ?_)
   refine go (ac rfl rfl (go (ae (v:=.tt) rfl rfl (go (bg (bD 4 8 rfl rfl rfl)) (go (gB (d+2) rfl rfl o1) (go (ae (v:=.tt) rfl rfl (go (aq (aj gc (vs:=[]) (kw:=[]) (ws:=[.ref 2,.b .nul]) rfl rfl rfl rfl rfl rfl bk)) rfl)) (go rfl rfl))))) rfl)) (go (ac (v:=.ff) rfl rfl rfl) (go rfl rfl))
 | some c=>
  have hv:KQ t i=.s [c]:=by unfold KQ;rw[hq]
  rw[hv]at cr
  have q1:∀{b:Bool}{z:V},Ep (d+3) (.or wp (.b2 (.cmp .Ow) I9 MR)) [.ref 2,.s t,.s h,.o b,.i p,.s [c],y,z,.i i] (Iy (e.W w) g) (.o (!af c)):=rfl
  have q2:∀{b:Bool}{z:V},Ep (d+3) (.or wp zC) [.ref 2,.s t,.s h,.o b,.i p,.s [c],y,z,.i i] (Iy (e.W w) g) (.o (af c)):=rfl
  have q3:∀{v a u y z:V}{st:St},Ep (d+3) zC [v,.s t,.s h,a,u,.s [c],y,z,.i i] st (.o (af c)):=rfl
  cases hb:af c with
  | true=>
   rw[g6 hq hb]at post
   rw[hb]at q1 q2 q3
   cases b with
   | true=>
    refine post (.s [c]) y z (cr _ ?_)
    exact go (ae rfl rfl (go (ac q1 rfl rfl) rfl)) (go (ae (v:=.tt) rfl rfl (go (bg q3) rfl)) (go rfl rfl))
   | false=>
    refine post (.s [c]) y (.s (Jm t p i)) (cr _ ?_)
    refine go (ac rfl rfl (go (ae q2 rfl (go (bg (bD 4 8 rfl rfl rfl)) (go (gB (d+2) rfl rfl o1) (go (ac (v:=.ff) rfl rfl rfl) (go rfl rfl))))) rfl)) (go (ae (v:=.tt) rfl rfl (go (bg q3) rfl)) (go rfl rfl))
  | false=>
   rw[gZ hq hb]at post
   rw[hb]at q1 q2 q3
   cases b with
   | true=>
    have dr:=cT (e:=e.W (w.J9 e.o.lb (Jm t p i))) (g:=g) d hd ((bL e.o.lb (Jm t p i) w).1 hc) ((bL e.o.lb (Jm t p i) w).ok (e:=e.W w) os)
    refine fr (.s [c]) λu hu=>post (.s [c]) u z (cr _ ?_)
    exact go (ae rfl rfl (go (ae q1 rfl (go hu (go (ae (v:=.tt) rfl rfl (go (aq (aj gf (vs:=[]) (kw:=[]) (ws:=[.ref 2]) rfl rfl rfl rfl rfl rfl dr)) rfl)) (go rfl rfl)))) rfl)) (go (ae (v:=.tt) rfl rfl (go (bg q3) rfl)) (go rfl rfl))
   | false=>
    refine post (.s [c]) y z (cr _ ?_)
    exact go (ac rfl rfl (go (ac q2 rfl rfl) rfl)) (go (ae (v:=.tt) rfl rfl (go (bg q3) rfl)) (go rfl rfl))
noncomputable def jI(t:Tx)(ind:Int)(lb:Tx)(w:Wr)(i:Nat):LS:=KG (cZ t ind lb) ⟨w,true,0⟩ i
theorem dM{α:Type}{f:Nat->α->α}{p:α->Wr}{n:Nat}(h:∀i s,Gr (p s) (p (f i s)) n)(a:α):∀i,Gr (p a) (p (KG f a i)) (n*i)
 | 0=>Gr.refl
 | i+1=>(dM h a i).trans (h i _)
noncomputable def Wr.Jd(w:Wr)(h:Tx):Wr:=⟨w.col,w.line,w.ws,w.ind,bif ar h (some (-1)) none==[43] then true else w.Kc,w.rows⟩
noncomputable def Wr.lit(w:Wr)(t:Tx)(ind bi:Int)(lb:Tx):Wr:=
 let w1:=w.sgn (124::aH bi t) true false false
 (jI t ind lb ((w1.Jd (aH bi t)).brk lb) (t.length+1)).w
noncomputable def ci(t:Tx):Nat:=(t.length+4)*(t.length+2)+10
theorem eA{t:Tx}{i:Nat}(h:i<=t.length):(t.length+4)*i+(t.length+4)+8<=ci t:=by
 have:(t.length+4)*(i+1)<=(t.length+4)*(t.length+2):=Nat.mul_le_mul_left _ (Nat.le_succ_of_le (mj h))
 unfold ci
 rw[Nat.mul_add,Nat.mul_one]at this
 exact kg (Nat.add_le_add_right this 8) (me (by decide) _)
theorem oE(d:Nat){h:Tx}{l:List V}{r:S}{R:JC}(h0:l[0]?=some (.ref 2))(h2:l[2]?=some (.s h))(kr:Ja (IH d) r l (Iy (e.W (e.w.Jd h)) g)=R):Ja (IH d) (.cons I60 r) l (Iy e g)=R:=by
 have q:Ep d F9 l (Iy e g) (.o (ar h (some (-1)) none==[43])):=Iz (a:=(.s (ar h (some (-1)) none),Iy e g)) (Iz (aL h2 rfl) rfl) rfl
 unfold Wr.Jd at kr
 cases hb:ar h (some (-1)) none==[43] with
 | true=>
  rw[hb]at kr q
  exact go (ae q rfl (go (l':=l) (II:=Iy (e.W ⟨e.w.col,e.w.line,e.w.ws,e.w.ind,true,e.w.rows⟩) g) (Iz (a:=(.tt,Iy e g)) rfl (Iz (au h0) rfl)) rfl)) kr
 | false=>
  rw[hb]at kr q
  exact go (ac q rfl rfl) kr
theorem xL(d:Nat){t:Tx}(ht:t.length < 390)(hd:IM e.c.indent)(hc:0<=e.w.col)(h0:0<=e.o.bi)(h9:e.o.bi<=9)(ho:e.ok (ci t)):(IH (d+4)).IG 55 [.ref 2,.s t] (Iy e g)=some (.b .nul,Iy (e.W (e.w.lit t (ai e.c.indent) e.o.bi e.o.lb)) g):=by
 have hl:=fL e.o.bi t
 have LF:∀n,n<=10->e.ok n:=λn h=>kg (me (kg h (mu 10 _)) _) ho
 have H1:=lD (e:=e) (g:=g) (d+2) t h0 h9
 unfold Wr.lit
 generalize aH e.o.bi t=h at hl H1
 have H2:=bC (e:=e) (g:=g) (d+1) (124::h) true false false (kg (mj hl) (by decide)) (LF 1 (by decide))
 have g1:=aS e.w (124::h) true false false
 generalize e.w.sgn (124::h) true false false=w1 at H2 g1
 have g2:Gr e.w (w1.Jd h) 1:=⟨g1.1,g1.2⟩
 have H3:=cw (e:=e.W (w1.Jd h)) (g:=g) (d+1) .nul (.inl rfl) (g2.ok (LF (1+1) (by decide)))
 have g3:Gr e.w ((w1.Jd h).brk e.o.lb) 2:=g2.trans (cF _ e.o.lb)
 show _=some (V.b B.nul,Iy (e.W (jI t (ai e.c.indent) e.o.lb ((w1.Jd h).brk e.o.lb) (t.length+1)).w) g)
 have o3:∀i,i<=t.length->(e.W (jI t (ai e.c.indent) e.o.lb ((w1.Jd h).brk e.o.lb) i).w).ok (t.length+4):=λi hi=>(g3.trans (dM (p:=LS.w) (jH t (ai e.c.indent) e.o.lb) ⟨(w1.Jd h).brk e.o.lb,true,0⟩ i)).ok (kg (me (by have:=eA hi;omega) _) ho)
 have c3:∀i,0<=(jI t (ai e.c.indent) e.o.lb ((w1.Jd h).brk e.o.lb) i).w.col:=λi=>(g3.trans (dM (p:=LS.w) (jH t (ai e.c.indent) e.o.lb) ⟨(w1.Jd h).brk e.o.lb,true,0⟩ i)).1 hc
 refine cy (c:=IH (d+3)) (t:=.b2 (.cmp .le) Mp KY) (b:=BE) (n:=t.length) (I:=λi l st=>∃x y z,l=[.ref 2,.s t,.s h,.o ((jI t (ai e.c.indent) e.o.lb ((w1.Jd h).brk e.o.lb) i).brk),.i ((jI t (ai e.c.indent) e.o.lb ((w1.Jd h).brk e.o.lb) i).st),x,y,z,.i i]/\st=Iy (e.W (jI t (ai e.c.indent) e.o.lb ((w1.Jd h).brk e.o.lb) i).w) g)
  (λi hi l st=>?_) (λl st=>?_) (by rw[ew];omega) ⟨.uu,.uu,.uu,rfl,rfl⟩ λl' II hr hx=>?_
 ·rintro ⟨x,y,z,rfl,rfl⟩
  refine⟨(bV 8 rfl rfl).trans (by rw[decide_eq_true (Int.ofNat_le.mpr hi)]),λ{P} post=>?_⟩
  exact t9 (e:=e) (g:=g) d (h:=h) (jI t (ai e.c.indent) e.o.lb ((w1.Jd h).brk e.o.lb) i) hi ht hd (c3 i) (o3 i hi) x y z λx' y' z' hs=>post _ _ hs ⟨x',y',z',rfl,rfl⟩
 ·rintro ⟨x,y,z,rfl,rfl⟩
  exact(bV 8 rfl rfl).trans (by rw[decide_eq_false (by omega)])
 ·obtain⟨x,y,z,rfl,rfl⟩:=hx
  exact aa (f:=yp) rfl <| go (bg (aj qZ (vs:=[.s t]) (kw:=[]) (ws:=[.ref 2,.s t]) rfl rfl rfl rfl (Iz (a:=(.s t,Iy e g)) rfl rfl) rfl H1)) <|
   go (aq (aj eF (vs:=[.s (124::h),.tt]) (kw:=[]) (ws:=[.ref 2,.s (124::h),.tt,.ff,.ff]) rfl rfl rfl rfl (Iz (a:=(.s (124::h),Iy e g)) (Iz (a:=(.s [124],Iy e g)) rfl (Iz (a:=(.s h,Iy e g)) rfl (f7 (s:=[124]) (kg (me hl 1) (by decide))))) rfl) rfl H2)) <|
   oE (e:=e.W w1) (d+3) rfl rfl <|
   go (aq (aj gc (vs:=[]) (kw:=[]) (ws:=[.ref 2,.b .nul]) rfl rfl rfl rfl rfl rfl H3)) <|
   go (l':=[.ref 2,.s t,.s h,.tt,.uu,.uu,.uu,.uu,.uu]) (II:=Iy (e.W ((w1.Jd h).brk e.o.lb)) g) rfl <| go (l':=[.ref 2,.s t,.s h,.tt,.i 0,.uu,.uu,.uu,.i 0]) (II:=Iy (e.W ((w1.Jd h).brk e.o.lb)) g) rfl <| go hr rfl
end
noncomputable def ay(c:Nat):Bool:=[c]==([32]:Tx)
noncomputable def cY(t:Tx)(p:Nat):Bool:=(t[p]?).any λx=>[x]==([10]:Tx)
noncomputable def Wr.mid(w:Wr)(t:Tx)(ind:Int)(lb:Tx)(bw:Int)(p i:Nat):Wr:=bif ((p:Int)+1==(i:Int))&&decide (bw < w.col) then w.IW ind lb else w.raw (Jm t p i)
structure FS where
 w:Wr
 ld:Bool
 sp:Bool
 brk:Bool
 st:Nat
section
variable(t:Tx)(ind:Int)(lb:Tx)(bw:Int)(i:Nat)(s:FS)
noncomputable def lH:FS:=bif s.brk then⟨s.w.J9 lb (Jm t s.st i),false,s.sp,s.brk,i⟩ else bif s.sp then⟨s.w.mid t ind lb bw s.st i,s.ld,s.sp,s.brk,i⟩ else⟨(s.w.raw (Jm t s.st i)).brk lb,s.ld,s.sp,s.brk,i⟩
noncomputable def qX(c:Nat):FS:=
 bif s.brk then(bif af c then⟨s.w,s.ld,ay c,true,s.st⟩ else⟨((bif !s.ld&&(!ay c&&cY t s.st) then s.w.brk lb else s.w).J9 lb (Jm t s.st i)).IW ind lb,ay c,ay c,false,i⟩)
 else bif s.sp then(bif ay c then⟨s.w,s.ld,true,af c,s.st⟩ else⟨s.w.mid t ind lb bw s.st i,s.ld,false,af c,i⟩)
 else bif bA c then⟨s.w.raw (Jm t s.st i),s.ld,ay c,af c,i⟩ else⟨s.w,s.ld,ay c,af c,s.st⟩
noncomputable def cJ:FS:=match t[i]? with | none=>lH t ind lb bw i s | some c=>qX t ind lb bw i s c
end
noncomputable def yd:S:=Qq (ak 8 Fo)
section
variable{t:Tx}{ind:Int}{lb:Tx}{bw:Int}{i c:Nat}{s:FS}
theorem hY(h:t[i]?=none):cJ t ind lb bw i s=lH t ind lb bw i s:=by unfold cJ;rw[h]
theorem hU(h:t[i]?=some c):cJ t ind lb bw i s=qX t ind lb bw i s c:=by unfold cJ;rw[h]
theorem uw(w:Wr)(t:Tx)(ind:Int)(lb:Tx)(bw:Int)(p i:Nat):Gr w (w.mid t ind lb bw p i) 2:=by
 unfold Wr.mid
 cases ((p:Int)+1==(i:Int))&&decide (bw < w.col) with
 | true=>exact bE w ind lb
 | false=>exact(bq w _).le (by decide)
theorem jX(t:Tx)(ind:Int)(lb:Tx)(bw:Int)(i:Nat)(s:FS):Gr s.w (cJ t ind lb bw i s).w (t.length+4)/\(s.st<=i->(cJ t ind lb bw i s).st<=i+1):=by
 have k:∀n,n<=4->n<=t.length+4:=λn h=>kg h (mu _ _)
 have hs:=λp=>Nat.add_le_add (bS t p i) (mf 2)
 obtain⟨w,ld,sp,b,p⟩:=s
 cases hq:t[i]? with
 | none=>
  rw[hY hq]
  unfold lH
  cases b with
  | true=>exact⟨(bL lb _ w).le (kg (bS t p i) (lw _ _)),λJ=>mw i⟩
  | false=>
   cases sp with
   | true=>exact⟨(uw w t ind lb bw p i).le (k 2 (by decide)),λJ=>mw i⟩
   | false=>exact⟨((bq w _).trans (cF _ lb)).le (k 2 (by decide)),λJ=>mw i⟩
 | some c=>
  rw[hU hq]
  unfold qX
  cases b with
  | true=>
   cases af c with
   | true=>exact⟨Gr.refl (w:=w),λh=>Nat.le_succ_of_le h⟩
   | false=>
    refine⟨?_,λJ=>mw i⟩
    have g1:Gr w (bif !ld&&(!ay c&&cY t p) then w.brk lb else w) 1:=by
     cases !ld&&(!ay c&&cY t p) with
     | true=>exact cF w lb
     | false=>exact Gr.refl
    exact((g1.trans (bL lb (Jm t p i) _)).trans (bE _ ind lb)).le (by have:=bS t p i;omega)
  | false=>
   cases sp with
   | true=>cases ay c with
    | true=>exact⟨Gr.refl (w:=w),λh=>Nat.le_succ_of_le h⟩
    | false=>exact⟨(uw w t ind lb bw p i).le (k 2 (by decide)),λJ=>mw i⟩
   | false=>cases bA c with
    | true=>exact⟨(bq w _).le (k 1 (by decide)),λJ=>mw i⟩
    | false=>exact⟨Gr.refl (w:=w),λh=>Nat.le_succ_of_le h⟩
end
section
variable{e:Em}{g:List Ob}
noncomputable def bZ(t h:Tx)(ld sp b:Bool)(p:Nat)(x y z:V)(i:Nat):List V:=[.ref 2,.s t,.s h,.o ld,.o sp,.o b,.i p,x,y,z,.i i]
noncomputable def Hm:S:=.cons I69 zH
theorem uK(d:Nat){t h:Tx}{ld sp b:Bool}{p i:Nat}{x y z:V}(hd:IM e.c.indent)(hc:0<=e.w.col)(ho:e.ok 2){P:Prop}(post:∀z',Es (d+3) Hm (bZ t h ld sp b p x y z i) (Iy e g) (bZ t h ld sp b i x y z' i) (Iy (e.W (e.w.mid t (ai e.c.indent) e.o.lb e.o.bw p i)) g)->P):P:=by
 have q:Ep (d+3) FG (bZ t h ld sp b p x y z i) (Iy e g) (.o (((p:Int)+1==(i:Int))&&decide (e.o.bw < e.w.col))):=bB rfl rfl
 unfold Wr.mid at post
 cases hq:((p:Int)+1==(i:Int))&&decide (e.o.bw < e.w.col) with
 | true=>
  rw[hq]at post q
  exact post z (go (ae q rfl (go (aq (aj gf (vs:=[]) (kw:=[]) (ws:=[.ref 2]) rfl rfl rfl rfl rfl rfl (cT d hd hc ho))) rfl)) (go rfl rfl))
 | false=>
  rw[hq]at post q
  exact post (.s (Jm t p i)) (go (ac q rfl (go (bg (bD 6 10 rfl rfl rfl)) (bx (d+2) 9 rfl rfl (mq ho) rfl))) (go rfl rfl))
theorem uJ(d:Nat){t h:Tx}{i:Nat}(s:FS)(hi:i<=t.length)(ht:t.length < 390)(Kz:s.st<=i)(hd:IM e.c.indent)(hc:0<=s.w.col)(ho:(e.W s.w).ok (t.length+4))(x y z:V){P:Prop}
  (post:∀x' y' z',Es (d+3) yd (bZ t h s.ld s.sp s.brk s.st x y z i) (Iy (e.W s.w) g) (bZ t h (cJ t (ai e.c.indent) e.o.lb e.o.bw i s).ld (cJ t (ai e.c.indent) e.o.lb e.o.bw i s).sp (cJ t (ai e.c.indent) e.o.lb e.o.bw i s).brk (cJ t (ai e.c.indent) e.o.lb e.o.bw i s).st x' y' z' (i+1)) (Iy (e.W (cJ t (ai e.c.indent) e.o.lb e.o.bw i s).w) g)->P):P:=by
 obtain⟨w,ld,sp,b,p⟩:=s
 have o1:(e.W w).ok 1:=kg (me (kg (by decide:1<=4) (mu _ _)) _) ho
 have o2:(e.W w).ok (1+1):=kg (me (kg (by decide:2<=4) (mu _ _)) _) ho
 have sl:=bS t p i
 have os:(e.W w).ok (1+((Jm t p i).length+2)):=kg (me (by omega) _) ho
 have sl4:(Jm t p i).length < 400:=by omega
 have cr:=λ(R:JC)=>ik (c:=IH (d+3)) (st:=Iy (e.W w) g) (R:=R) (l:=bZ t h ld sp b p x y z i) (r:=ak 2 yd) 7 10 (by decide:7 < 11) (by decide) (by decide) rfl rfl hi
 have mr:=λ(sp b:Bool) (ch:V) {Q:Prop}=>uK (e:=e.W w) (g:=g) d (t:=t) (h:=h) (ld:=ld) (sp:=sp) (b:=b) (p:=p) (i:=i) (x:=ch) (y:=y) (z:=z) hd hc o2 (P:=Q)
 cases hq:t[i]? with
 | none=>
  have hv:KQ t i=.b .nul:=by unfold KQ;rw[hq]
  rw[hY hq]at post
  unfold lH at post
  rw[hv]at cr
  cases b with
  | true=>
   refine gz (e:=e.W w) (g:=g) (l:=bZ t h false sp true p (.b .nul) y z i) (d+1) 8 6 10 (by decide) (by decide:8 < 11) rfl rfl rfl rfl (kg (me (by omega) _) ho) sl4 λu hu=>post (.b .nul) u z (cr _ ?_)
   exact go (ae rfl rfl (go (ae (v:=.tt) rfl rfl (go (ac (v:=.ff) (by cases ld <;> rfl) rfl rfl) (go (l':=bZ t h false sp true p (.b .nul) y z i) (II:=Iy (e.W w) g) rfl (go hu (go (ac (v:=.ff) rfl rfl rfl) (go rfl rfl)))))) rfl)) (go (ac (v:=.ff) rfl rfl rfl) (go rfl rfl))
  | false=>
   cases sp with
   | true=>
    refine mr true false (.b .nul) λz' hm=>post (.b .nul) y z' (cr _ ?_)
    exact go (ac rfl rfl (go (ae rfl rfl (go (ae (v:=.tt) rfl rfl hm) rfl)) rfl)) (go (ac (v:=.ff) rfl rfl rfl) (go rfl rfl))
   | false=>
    have bk:=cw (e:=e.W (w.raw (Jm t p i))) (g:=g) (d+1) .nul (.inl rfl) ((bq w (Jm t p i)).ok (e:=e.W w) o2)
    refine post (.b .nul) y (.s (Jm t p i)) (cr _ ?_)
    exact go (ac rfl rfl (go (ac rfl rfl (go (ae (v:=.tt) rfl rfl (go (bg (bD 6 10 rfl rfl rfl)) (bx (d+2) 9 rfl rfl o1 (go (ae (v:=.tt) rfl rfl (go (aq (aj gc (vs:=[]) (kw:=[]) (ws:=[.ref 2,.b .nul]) rfl rfl rfl rfl rfl rfl bk)) rfl)) (go rfl rfl))))) rfl)) rfl)) (go (ac (v:=.ff) rfl rfl rfl) (go rfl rfl))
 | some c=>
  have hv:KQ t i=.s [c]:=by unfold KQ;rw[hq]
  have hil:i < t.length:=(kj hq).1
  obtain⟨u,hu⟩:∃u,t[p]?=some u:=⟨_,kx (lj Kz hil)⟩
  rw[hU hq]at post
  unfold qX at post
  rw[hv]at cr
  have tl:∀{w:Wr}{ld sp b:Bool}{p:Nat}{y z:V},Es (d+3) (ak 3 yd) (bZ t h ld sp b p (.s [c]) y z i) (Iy (e.W w) g) (bZ t h ld (ay c) (af c) p (.s [c]) y z (i+1)) (Iy (e.W w) g):=λ{w ld sp b p y z}=>
   go (ae (v:=.tt) rfl rfl (go (l':=bZ t h ld sp (af c) p (.s [c]) y z i) (II:=Iy (e.W w) g) rfl (go (l':=bZ t h ld (ay c) (af c) p (.s [c]) y z i) (II:=Iy (e.W w) g) rfl rfl))) (go rfl rfl)
  have qA:∀{b:Bool},Ep (d+3) (.or zD (.b2 (.cmp .Ow) KN MR)) (bZ t h ld sp b p (.s [c]) y z i) (Iy (e.W w) g) (.o (!af c)):=rfl
  have qS:∀{sp b:Bool},Ep (d+3) Q4 (bZ t h ld sp b p (.s [c]) y z i) (Iy (e.W w) g) (.o (!ay c)):=rfl
  have qI:∀{sp b:Bool},Ep (d+3) I37 (bZ t h ld sp b p (.s [c]) y z i) (Iy (e.W w) g) (.o (bA c)):=rfl
  have qB:Ep (d+3) I53 (bZ t h ld sp b p (.s [c]) y z i) (Iy (e.W w) g) (.o (!ld&&(!ay c&&cY t p))):=by
   have q0:Ep (d+3) (.b2 (.cmp .eq) (.b2 .idx I2 I6) O3) (bZ t h ld sp b p (.s [c]) y z i) (Iy (e.W w) g) (.o (cY t p)):=by
    unfold cY;rw[hu]
    exact Iz (a:=(.s [u],Iy (e.W w) g)) (Iz (a:=(.s t,Iy (e.W w) g)) rfl (Iz (a:=(.i p,Iy (e.W w) g)) rfl (eP (i5 hu)))) rfl
   exact bB (w:=true&&(!ay c&&cY t p)) rfl (bB (w:=!ay c&&cY t p) rfl (bB rfl q0))
  cases b with
  | true=>
   cases hb:af c with
   | true=>
    rw[hb]at post qA tl
    exact post (.s [c]) y z (cr _ (go (ae rfl rfl (go (ac qA rfl rfl) rfl)) tl))
   | false=>
    rw[hb]at post qA tl
    have s1:Es (d+3) (.IF I53 PV .nil) (bZ t h ld sp true p (.s [c]) y z i) (Iy (e.W w) g) (bZ t h ld sp true p (.s [c]) y z i) (Iy (e.W (bif !ld&&(!ay c&&cY t p) then w.brk e.o.lb else w)) g):=by
     cases hB:!ld&&(!ay c&&cY t p) with
     | true=>rw[hB]at qB;exact ae qB rfl (go (aq (aj gc (vs:=[]) (kw:=[]) (ws:=[.ref 2,.b .nul]) rfl rfl rfl rfl rfl rfl (cw (e:=e.W w) (g:=g) (d+1) .nul (.inl rfl) o1))) rfl)
     | false=>rw[hB]at qB;exact ac qB rfl rfl
    have g1:Gr w (bif !ld&&(!ay c&&cY t p) then w.brk e.o.lb else w) 1:=by
     cases !ld&&(!ay c&&cY t p) with
     | true=>exact cF w e.o.lb
     | false=>exact Gr.refl
    generalize (bif !ld&&(!ay c&&cY t p) then w.brk e.o.lb else w)=w1 at s1 g1 post
    have o4:=g1.ok (e:=e.W w) os
    have dr:=cT (e:=e.W (w1.J9 e.o.lb (Jm t p i))) (g:=g) d hd ((bL e.o.lb (Jm t p i) w1).1 (g1.1 hc)) ((bL e.o.lb (Jm t p i) w1).ok (e:=e.W w1) o4)
    refine gz (e:=e.W w1) (g:=g) (l:=bZ t h (ay c) sp true p (.s [c]) y z i) (d+1) 8 6 10 (by decide) (by decide:8 < 11) rfl rfl rfl rfl (kg (me (lw _ 2) _) o4) sl4 λy' hu=>post (.s [c]) y' z (cr _ ?_)
    exact go (ae rfl rfl (go (ae qA rfl (go s1 (go (l':=bZ t h (ay c) sp true p (.s [c]) y z i) (II:=Iy (e.W w1) g) rfl (go hu (go (ae (v:=.tt) rfl rfl (go (aq (aj gf (vs:=[]) (kw:=[]) (ws:=[.ref 2]) rfl rfl rfl rfl rfl rfl dr)) rfl)) (go rfl rfl)))))) rfl)) tl
  | false=>
   cases sp with
   | true=>
    cases hs:ay c with
    | true=>
     rw[hs]at post tl
     have qS:Ep (d+3) Q4 (bZ t h ld true false p (.s [c]) y z i) (Iy (e.W w) g) (.o (!ay c)):=qS
     rw[hs]at qS
     exact post (.s [c]) y z (cr _ (go (ac rfl rfl (go (ae rfl rfl (go (ac qS rfl rfl) rfl)) rfl)) tl))
    | false=>
     rw[hs]at post tl
     have qS:Ep (d+3) Q4 (bZ t h ld true false p (.s [c]) y z i) (Iy (e.W w) g) (.o (!ay c)):=qS
     rw[hs]at qS
     exact mr true false (.s [c]) λz' hm=>post (.s [c]) y z' (cr _ (go (ac rfl rfl (go (ae rfl rfl (go (ae qS rfl hm) rfl)) rfl)) tl))
   | false=>
    have qI:Ep (d+3) I37 (bZ t h ld false false p (.s [c]) y z i) (Iy (e.W w) g) (.o (bA c)):=qI
    cases hI:bA c with
    | true=>
     rw[hI]at post qI
     exact post (.s [c]) y (.s (Jm t p i)) (cr _ (go (ac rfl rfl (go (ac rfl rfl (go (ae qI rfl (go (bg (bD 6 10 rfl rfl rfl)) (bx (d+2) 9 rfl rfl o1 (go (ac (v:=.ff) rfl rfl rfl) (go rfl rfl))))) rfl)) rfl)) tl))
    | false=>
     rw[hI]at post qI
     exact post (.s [c]) y z (cr _ (go (ac rfl rfl (go (ac rfl rfl (go (ac qI rfl rfl) rfl)) rfl)) tl))
noncomputable def jY(t:Tx)(ind:Int)(lb:Tx)(bw:Int)(w:Wr)(i:Nat):FS:=KG (cJ t ind lb bw) ⟨w,true,false,true,0⟩ i
noncomputable def Wr.PD(w:Wr)(t:Tx)(ind bi bw:Int)(lb:Tx):Wr:=
 (jY t ind lb bw (((w.sgn (62::aH bi t) true false false).Jd (aH bi t)).brk lb) (t.length+1)).w
theorem pg(t:Tx)(ind:Int)(lb:Tx)(bw:Int)(w:Wr):∀i,(jY t ind lb bw w i).st<=i
 | 0=>mf 0
 | i+1=>(jX t ind lb bw i _).2 (pg t ind lb bw w i)
theorem yb(d:Nat){t:Tx}(ht:t.length < 390)(hd:IM e.c.indent)(hc:0<=e.w.col)(h0:0<=e.o.bi)(h9:e.o.bi<=9)(ho:e.ok (ci t)):(IH (d+4)).IG 54 [.ref 2,.s t] (Iy e g)=some (.b .nul,Iy (e.W (e.w.PD t (ai e.c.indent) e.o.bi e.o.bw e.o.lb)) g):=by
 have hl:=fL e.o.bi t
 have LF:∀n,n<=10->e.ok n:=λn h=>kg (me (kg h (mu 10 _)) _) ho
 have H1:=lD (e:=e) (g:=g) (d+2) t h0 h9
 unfold Wr.PD
 generalize aH e.o.bi t=h at hl H1
 have H2:=bC (e:=e) (g:=g) (d+1) (62::h) true false false (kg (mj hl) (by decide)) (LF 1 (by decide))
 have g1:=aS e.w (62::h) true false false
 generalize e.w.sgn (62::h) true false false=w1 at H2 g1
 have g2:Gr e.w (w1.Jd h) 1:=⟨g1.1,g1.2⟩
 have H3:=cw (e:=e.W (w1.Jd h)) (g:=g) (d+1) .nul (.inl rfl) (g2.ok (LF (1+1) (by decide)))
 have g3:Gr e.w ((w1.Jd h).brk e.o.lb) 2:=g2.trans (cF _ e.o.lb)
 have G:∀i,Gr e.w (jY t (ai e.c.indent) e.o.lb e.o.bw ((w1.Jd h).brk e.o.lb) i).w (2+(t.length+4)*i):=λi=>g3.trans (dM (p:=FS.w) (λi s=>(jX t (ai e.c.indent) e.o.lb e.o.bw i s).1) ⟨(w1.Jd h).brk e.o.lb,true,false,true,0⟩ i)
 have o3:∀i,i<=t.length->(e.W (jY t (ai e.c.indent) e.o.lb e.o.bw ((w1.Jd h).brk e.o.lb) i).w).ok (t.length+4):=λi hi=>(G i).ok (kg (me (by have:=eA hi;omega) _) ho)
 have st:=pg t (ai e.c.indent) e.o.lb e.o.bw ((w1.Jd h).brk e.o.lb)
 have e0:jY t (ai e.c.indent) e.o.lb e.o.bw ((w1.Jd h).brk e.o.lb) 0=⟨(w1.Jd h).brk e.o.lb,true,false,true,0⟩:=rfl
 have eS:∀i,jY t (ai e.c.indent) e.o.lb e.o.bw ((w1.Jd h).brk e.o.lb) (i+1)=cJ t (ai e.c.indent) e.o.lb e.o.bw i (jY t (ai e.c.indent) e.o.lb e.o.bw ((w1.Jd h).brk e.o.lb) i):=λJ=>rfl
 generalize jY t (ai e.c.indent) e.o.lb e.o.bw ((w1.Jd h).brk e.o.lb)=F at G o3 st e0 eS
 refine cy (c:=IH (d+3)) (t:=.b2 (.cmp .le) NJ KY) (b:=yd) (n:=t.length) (I:=λi l st=>∃x y z,l=bZ t h (F i).ld (F i).sp (F i).brk (F i).st x y z i/\st=Iy (e.W (F i).w) g)
  (λi hi l st=>?_) (λl st=>?_) (by rw[ew];omega) ⟨.uu,.uu,.uu,rfl,rfl⟩ λl' II hr hx=>?_
 ·rintro ⟨x,y,z,rfl,rfl⟩
  refine⟨(bV 10 rfl rfl).trans (by rw[decide_eq_true (Int.ofNat_le.mpr hi)]),λ{P} post=>?_⟩
  exact uJ (e:=e) (g:=g) d (h:=h) (F i) hi ht (st i) hd ((G i).1 hc) (o3 i hi) x y z λx' y' z' hs=>post _ _ hs ⟨x',y',z',by rw[eS],by rw[eS]⟩
 ·rintro ⟨x,y,z,rfl,rfl⟩
  exact(bV 10 rfl rfl).trans (by rw[decide_eq_false (by omega)])
 ·obtain⟨x,y,z,rfl,rfl⟩:=hx
  rw[e0]at hr
  exact aa (f:=yq) rfl <| go (bg (aj qZ (vs:=[.s t]) (kw:=[]) (ws:=[.ref 2,.s t]) rfl rfl rfl rfl (Iz (a:=(.s t,Iy e g)) rfl rfl) rfl H1)) <|
   go (aq (aj eF (vs:=[.s (62::h),.tt]) (kw:=[]) (ws:=[.ref 2,.s (62::h),.tt,.ff,.ff]) rfl rfl rfl rfl (Iz (a:=(.s (62::h),Iy e g)) (Iz (a:=(.s [62],Iy e g)) rfl (Iz (a:=(.s h,Iy e g)) rfl (f7 (s:=[62]) (kg (me hl 1) (by decide))))) rfl) rfl H2)) <|
   oE (e:=e.W w1) (d+3) rfl rfl <|
   go (aq (aj gc (vs:=[]) (kw:=[]) (ws:=[.ref 2,.b .nul]) rfl rfl rfl rfl rfl rfl H3)) <|
   go (l':=[.ref 2,.s t,.s h,.tt,.uu,.uu,.uu,.uu,.uu,.uu,.uu]) (II:=Iy (e.W ((w1.Jd h).brk e.o.lb)) g) rfl <| go (l':=[.ref 2,.s t,.s h,.tt,.ff,.uu,.uu,.uu,.uu,.uu,.uu]) (II:=Iy (e.W ((w1.Jd h).brk e.o.lb)) g) rfl <| go (l':=[.ref 2,.s t,.s h,.tt,.ff,.tt,.uu,.uu,.uu,.uu,.uu]) (II:=Iy (e.W ((w1.Jd h).brk e.o.lb)) g) rfl <| go (l':=bZ t h true false true 0 .uu .uu .uu 0) (II:=Iy (e.W ((w1.Jd h).brk e.o.lb)) g) rfl <| go hr rfl
end
noncomputable def Wr.off(w:Wr):Wr:=⟨w.col,w.line,false,false,w.Kc,w.rows⟩
noncomputable def Wr.Ny(w:Wr)(t:Tx)(ind:Int)(lb:Tx)(bw:Int)(split:Bool)(p i:Nat):Wr:=bif ((p:Int)+1==(i:Int))&&(decide (bw < w.col)&&split) then(w.IW ind lb).off else w.raw (Jm t p i)
structure Nm where
 w:Wr
 sp:Bool
 st:Nat
noncomputable def dF(t:Tx):Prop:=∀c∈t,af c=false
section
variable(t:Tx)(ind:Int)(lb:Tx)(bw:Int)(split:Bool)(i:Nat)(s:Nm)
noncomputable def kO:Nm:=bif s.sp then⟨s.w.Ny t ind lb bw split s.st i,s.sp,i⟩ else⟨s.w.raw (Jm t s.st i),s.sp,i⟩
noncomputable def m6(c:Nat):Nm:=bif s.sp then(bif ay c then⟨s.w,true,s.st⟩ else⟨s.w.Ny t ind lb bw split s.st i,false,i⟩) else bif ay c then⟨s.w.raw (Jm t s.st i),true,i⟩ else⟨s.w,false,s.st⟩
noncomputable def cO:Nm:=match t[i]? with | none=>kO t ind lb bw split i s | some c=>m6 t ind lb bw split i s c
end
noncomputable def xt:S:=Qq (ak 8 Fl)
section
variable{t:Tx}{ind:Int}{lb:Tx}{bw:Int}{split:Bool}{i c:Nat}{s:Nm}
theorem gO(h:t[i]?=none):cO t ind lb bw split i s=kO t ind lb bw split i s:=by unfold cO;rw[h]
theorem fA(h:t[i]?=some c):cO t ind lb bw split i s=m6 t ind lb bw split i s c:=by unfold cO;rw[h]
theorem uv(w:Wr)(t:Tx)(ind:Int)(lb:Tx)(bw:Int)(split:Bool)(p i:Nat):Gr w (w.Ny t ind lb bw split p i) 2:=by
 unfold Wr.Ny
 cases ((p:Int)+1==(i:Int))&&(decide (bw < w.col)&&split) with
 | true=>exact bE w ind lb
 | false=>exact(bq w _).le (by decide)
theorem oC(t:Tx)(ind:Int)(lb:Tx)(bw:Int)(split:Bool)(i:Nat)(s:Nm):Gr s.w (cO t ind lb bw split i s).w 2:=by
 obtain⟨w,sp,p⟩:=s
 cases hq:t[i]? with
 | none=>
  rw[gO hq]
  unfold kO
  cases sp with
  | true=>exact uv w t ind lb bw split p i
  | false=>exact(bq w _).le (by decide)
 | some c=>
  rw[fA hq]
  unfold m6
  cases sp with
  | true=>cases ay c with
   | true=>exact Gr.refl (w:=w)
   | false=>exact uv w t ind lb bw split p i
  | false=>cases ay c with
   | true=>exact(bq w _).le (by decide)
   | false=>exact Gr.refl (w:=w)
theorem ug{c:Nat}(h:af c=false):bA c=ay c:=by
 have h:=of_decide_eq_false h
 unfold bA ay
 rw[Bool.eq_iff_iff,decide_eq_true_iff,beq_iff_eq]
 exact⟨λhm=>(kq hm).elim (λe=>e▸rfl) λhm=>absurd hm h,λe=>by injection e with e;exact e▸.head _⟩
end
section
variable{e:Em}{g:List Ob}
noncomputable def eK(t:Tx)(split sp:Bool)(p:Nat)(x y z:V)(i:Nat):List V:=[.ref 2,.s t,.o split,.o sp,.ff,.i p,x,y,z,.i i]
noncomputable def G5:S:=.cons I47 PT
theorem gr(d:Nat){l:List V}{r:S}{R:JC}(h0:l[0]?=some (.ref 2))(kr:Ja (IH d) r l (Iy (e.W e.w.off) g)=R):Ja (IH d) (.cons rI (.cons rH r)) l (Iy e g)=R:=
 go (l':=l) (II:=Iy (e.W ⟨e.w.col,e.w.line,false,e.w.ind,e.w.Kc,e.w.rows⟩) g) (Iz (a:=(.ff,Iy e g)) rfl (Iz (au h0) rfl)) <|
  go (l':=l) (II:=Iy (e.W e.w.off) g) (Iz (a:=(.ff,Iy (e.W ⟨e.w.col,e.w.line,false,e.w.ind,e.w.Kc,e.w.rows⟩) g)) rfl (Iz (au h0) rfl)) kr
theorem tu(d:Nat){t:Tx}{split sp:Bool}{p i:Nat}{x y z:V}(hd:IM e.c.indent)(hc:0<=e.w.col)(ho:e.ok 2){P:Prop}(post:∀x',Es (d+3) G5 (eK t split sp p x y z i) (Iy e g) (eK t split sp i x' y z i) (Iy (e.W (e.w.Ny t (ai e.c.indent) e.o.lb e.o.bw split p i)) g)->P):P:=by
 have q:Ep (d+3) (.and CT (.and I13 J3)) (eK t split sp p x y z i) (Iy e g) (.o (((p:Int)+1==(i:Int))&&(decide (e.o.bw < e.w.col)&&split))):=bB rfl (bB rfl rfl)
 unfold Wr.Ny at post
 cases hq:((p:Int)+1==(i:Int))&&(decide (e.o.bw < e.w.col)&&split) with
 | true=>
  rw[hq]at post q
  exact post x (go (ae q rfl (go (aq (aj gf (vs:=[]) (kw:=[]) (ws:=[.ref 2]) rfl rfl rfl rfl rfl rfl (cT d hd hc ho))) (gr (e:=e.W (e.w.IW (ai e.c.indent) e.o.lb)) (d+3) rfl rfl))) (go rfl rfl))
 | false=>
  rw[hq]at post q
  exact post (.s (Jm t p i)) (go (ac q rfl (go (bg (bD 5 9 rfl rfl rfl)) (bx (d+2) 6 rfl rfl (mq ho) rfl))) (go rfl rfl))
theorem tj(d:Nat){t:Tx}{split:Bool}{i:Nat}(s:Nm)(hi:i<=t.length)(hb:dF t)(hd:IM e.c.indent)(hc:0<=s.w.col)(ho:(e.W s.w).ok 2)(x y z:V){P:Prop}
  (post:∀x' y' z',Es (d+3) xt (eK t split s.sp s.st x y z i) (Iy (e.W s.w) g) (eK t split (cO t (ai e.c.indent) e.o.lb e.o.bw split i s).sp (cO t (ai e.c.indent) e.o.lb e.o.bw split i s).st x' y' z' (i+1)) (Iy (e.W (cO t (ai e.c.indent) e.o.lb e.o.bw split i s).w) g)->P):P:=by
 obtain⟨w,sp,p⟩:=s
 have o1:(e.W w).ok 1:=mq ho
 have cr:=λ(R:JC)=>ik (c:=IH (d+3)) (st:=Iy (e.W w) g) (R:=R) (l:=eK t split sp p x y z i) (r:=ak 2 xt) 7 9 (by decide:7 < 10) (by decide) (by decide) rfl rfl hi
 have mr:=λ(sp:Bool) (ch:V) {Q:Prop}=>tu (e:=e.W w) (g:=g) d (t:=t) (split:=split) (sp:=sp) (p:=p) (i:=i) (x:=x) (y:=ch) (z:=z) hd hc ho (P:=Q)
 cases hq:t[i]? with
 | none=>
  have hv:KQ t i=.b .nul:=by unfold KQ;rw[hq]
  rw[gO hq]at post
  unfold kO at post
  rw[hv]at cr
  cases sp with
  | true=>
   refine mr true (.b .nul) λx' hm=>post x' (.b .nul) z (cr _ ?_)
   exact go (ae rfl rfl (go (ae (v:=.tt) rfl rfl hm) rfl)) (go (ac (v:=.ff) rfl rfl rfl) (go rfl rfl))
  | false=>
   refine post (.s (Jm t p i)) (.b .nul) z (cr _ ?_)
   exact go (ac rfl rfl (go (ac rfl rfl (go (ae (v:=.tt) rfl rfl (go (bg (bD 5 9 rfl rfl rfl)) (bx (d+2) 6 rfl rfl o1 (go rfl rfl)))) rfl)) rfl)) (go (ac (v:=.ff) rfl rfl rfl) (go rfl rfl))
 | some c=>
  have hv:KQ t i=.s [c]:=by unfold KQ;rw[hq]
  have hbc:af c=false:=hb c (ly hq)
  rw[fA hq]at post
  unfold m6 at post
  rw[hv]at cr
  have tl:∀{w:Wr}{sp:Bool}{p:Nat}{x z:V},Es (d+3) (ak 3 xt) (eK t split sp p x (.s [c]) z i) (Iy (e.W w) g) (eK t split (ay c) p x (.s [c]) z (i+1)) (Iy (e.W w) g):=λ{w sp p x z}=>by
   have q3:Ep (d+3) (.b2 (.cmp .K2) KN MR) (eK t split (ay c) p x (.s [c]) z i) (Iy (e.W w) g) (.o (af c)):=rfl
   rw[hbc]at q3
   exact go (ae (v:=.tt) rfl rfl (go (l':=eK t split (ay c) p x (.s [c]) z i) (II:=Iy (e.W w) g) rfl (go (bg q3) rfl))) (go rfl rfl)
  have qS:∀{sp:Bool},Ep (d+3) Q4 (eK t split sp p x (.s [c]) z i) (Iy (e.W w) g) (.o (!ay c)):=rfl
  have qI:∀{sp:Bool},Ep (d+3) I37 (eK t split sp p x (.s [c]) z i) (Iy (e.W w) g) (.o (ay c)):=by
   rw[<- ug hbc];exact rfl
  cases hs:ay c with
  | true=>
   rw[hs]at post tl qS qI
   cases sp with
   | true=>exact post x (.s [c]) z (cr _ (go (ae rfl rfl (go (ac qS rfl rfl) rfl)) tl))
   | false=>exact post (.s (Jm t p i)) (.s [c]) z (cr _ (go (ac rfl rfl (go (ac rfl rfl (go (ae qI rfl (go (bg (bD 5 9 rfl rfl rfl)) (bx (d+2) 6 rfl rfl o1 (go rfl rfl)))) rfl)) rfl)) tl))
  | false=>
   rw[hs]at post tl qS qI
   cases sp with
   | true=>exact mr true (.s [c]) λx' hm=>post x' (.s [c]) z (cr _ (go (ae rfl rfl (go (ae qS rfl hm) rfl)) tl))
   | false=>exact post x (.s [c]) z (cr _ (go (ac rfl rfl (go (ac rfl rfl (go (ac qI rfl rfl) rfl)) rfl)) tl))
noncomputable def jy(t:Tx)(ind:Int)(lb:Tx)(bw:Int)(split:Bool)(w:Wr)(i:Nat):Nm:=KG (cO t ind lb bw split) ⟨w,false,0⟩ i
noncomputable def Wr.Kv(w:Wr)(root:Bool):Wr:=⟨w.col,w.line,w.ws,w.ind,bif root then true else w.Kc,w.rows⟩
noncomputable def Wr.gap(w:Wr):Wr:=bif w.ws then w else w.raw [32]
noncomputable def Wr.Nv(w:Wr)(t:Tx)(ind bw:Int)(lb:Tx)(split root:Bool):Wr:=bif t.isEmpty then w.Kv root else(jy t ind lb bw split (w.Kv root).gap.off (t.length+1)).w
theorem xp(d:Nat){t:Tx}{split:Bool}(ht:t.length < 390)(hb:dF t)(hd:IM e.c.indent)(hc:0<=e.w.col)(ho:e.ok (ci t)):(IH (d+4)).IG 56 [.ref 2,.s t,.o split] (Iy e g)=some (.b .nul,Iy (e.W (e.w.Nv t (ai e.c.indent) e.o.bw e.o.lb split e.c.root)) g):=by
 have s0:∀{R r},Ja (IH (d+3)) r [.ref 2,.s t,.o split,.uu,.uu,.uu,.uu,.uu,.uu,.uu] (Iy (e.W (e.w.Kv e.c.root)) g)=R->Ja (IH (d+3)) (.cons FM r) [.ref 2,.s t,.o split,.uu,.uu,.uu,.uu,.uu,.uu,.uu] (Iy e g)=R:=λ{R r} hr=>by
  have q:Ep (d+3) (.u1 (.Jn 73) I0) [.ref 2,.s t,.o split,.uu,.uu,.uu,.uu,.uu,.uu,.uu] (Iy e g) (.o e.c.root):=rfl
  unfold Wr.Kv at hr
  cases hr':e.c.root with
  | true=>rw[hr']at q hr;exact go (ae q rfl (go (l':=[.ref 2,.s t,.o split,.uu,.uu,.uu,.uu,.uu,.uu,.uu]) (II:=Iy (e.W ⟨e.w.col,e.w.line,e.w.ws,e.w.ind,true,e.w.rows⟩) g) rfl rfl)) hr
  | false=>rw[hr']at q hr;exact go (ac q rfl rfl) hr
 unfold Wr.Nv
 have c1:0<=(e.w.Kv e.c.root).col:=hc
 have r1:(e.w.Kv e.c.root).rows.length=e.w.rows.length:=rfl
 generalize e.w.Kv e.c.root=w1 at s0 c1 r1
 cases t with
 | nil=>exact ap (f:=uV) rfl (s0 (J0 (ae (v:=.tt) rfl rfl (J0 rfl)))) rfl
 | cons c0 r0=>
 generalize ht0:c0::r0=t at*
 have Kg:Ep (d+3) fS [.ref 2,.s t,.o split,.uu,.uu,.uu,.uu,.uu,.uu,.uu] (Iy (e.W w1) g) .ff:=by rw[<- ht0];rfl
 have hem:t.isEmpty=false:=by rw[<- ht0];rfl
 rw[hem]
 have LF:∀n,n<=10->(e.W w1).ok n:=λn h=>kg (Nat.add_le_add (lx r1) (kg h (mu 10 _))) ho
 have g3:Gr w1 w1.gap.off 1:=by
  unfold Wr.gap
  cases w1.ws with
  | true=>exact⟨id,mw _⟩
  | false=>exact bq w1 [32]
 have s1:∀{P:Prop},(∀x,(∀{R r},Ja (IH (d+3)) r [.ref 2,.s t,.o split,.uu,.uu,.uu,x,.uu,.uu,.uu] (Iy (e.W w1.gap.off) g)=R->Ja (IH (d+3)) (.cons (.IF zI (.cons (.asg [6] L0) I78) .nil) (.cons rI (.cons rH r))) [.ref 2,.s t,.o split,.uu,.uu,.uu,.uu,.uu,.uu,.uu] (Iy (e.W w1) g)=R)->P)->P:=by
  intro P k
  have q:∀{l:List V},l[0]?=some (.ref 2)->Ep (d+3) zI l (Iy (e.W w1) g) (.o (!w1.ws)):=λh=>Iz (Iz (au h) rfl) rfl
  unfold Wr.gap at k
  cases hw:w1.ws with
  | true=>
   rw[hw]at k q
   exact k .uu λhr=>go (ac (q rfl) rfl rfl) (gr (e:=e.W w1) (d+3) rfl hr)
  | false=>
   rw[hw]at k q
   exact k (.s [32]) λhr=>go (ae (q rfl) rfl (go (l':=[.ref 2,.s t,.o split,.uu,.uu,.uu,.s [32],.uu,.uu,.uu]) (II:=Iy (e.W w1) g) rfl (bx (e:=e.W w1) (d+2) 6 rfl rfl (LF 1 (by decide)) rfl))) (gr (e:=e.W (w1.raw [32])) (d+3) rfl hr)
 have G:∀i,Gr w1 (jy t (ai e.c.indent) e.o.lb e.o.bw split w1.gap.off i).w (1+2*i):=λi=>g3.trans (dM (p:=Nm.w) (oC t (ai e.c.indent) e.o.lb e.o.bw split) ⟨w1.gap.off,false,0⟩ i)
 have o3:∀i,i<=t.length->(e.W (jy t (ai e.c.indent) e.o.lb e.o.bw split w1.gap.off i).w).ok 2:=λi hi=>(G i).ok (e:=e.W w1) (kg (Nat.add_le_add (lx r1) (by
  have h1:=eA hi
  have h2:2*i<=(t.length+4)*i:=Nat.mul_le_mul_right i (kg (by decide) (mu 4 _))
  omega)) ho)
 have e0:jy t (ai e.c.indent) e.o.lb e.o.bw split w1.gap.off 0=⟨w1.gap.off,false,0⟩:=rfl
 have eS:∀i,jy t (ai e.c.indent) e.o.lb e.o.bw split w1.gap.off (i+1)=cO t (ai e.c.indent) e.o.lb e.o.bw split i (jy t (ai e.c.indent) e.o.lb e.o.bw split w1.gap.off i):=λJ=>rfl
 generalize jy t (ai e.c.indent) e.o.lb e.o.bw split w1.gap.off=F at G o3 e0 eS
 refine s1 λx s1=>?_
 refine cy (c:=IH (d+3)) (t:=.b2 (.cmp .le) K6 KY) (b:=xt) (n:=t.length) (I:=λi l st=>∃x y z,l=eK t split (F i).sp (F i).st x y z i/\st=Iy (e.W (F i).w) g)
  (λi hi l st=>?_) (λl st=>?_) (by rw[ew];omega) ⟨x,.uu,.uu,rfl,rfl⟩ λl' II hr hx=>?_
 ·rintro ⟨x,y,z,rfl,rfl⟩
  refine⟨(bV 9 rfl rfl).trans (by rw[decide_eq_true (Int.ofNat_le.mpr hi)]),λ{P} post=>?_⟩
  exact tj (e:=e) (g:=g) d (F i) hi hb hd ((G i).1 c1) (o3 i hi) x y z λx' y' z' hs=>post _ _ hs ⟨x',y',z',by rw[eS],by rw[eS]⟩
 ·rintro ⟨x,y,z,rfl,rfl⟩
  exact(bV 9 rfl rfl).trans (by rw[decide_eq_false (by omega)])
 ·obtain⟨x',y',z',rfl,rfl⟩:=hx
  rw[e0]at hr
  exact aa (f:=uV) rfl <| s0 <| go (ac Kg rfl rfl) <| s1 <|
   go (l':=[.ref 2,.s t,.o split,.ff,.uu,.uu,x,.uu,.uu,.uu]) (II:=Iy (e.W w1.gap.off) g) rfl <| go (l':=[.ref 2,.s t,.o split,.ff,.ff,.uu,x,.uu,.uu,.uu]) (II:=Iy (e.W w1.gap.off) g) rfl <|
   go (l':=eK t split false 0 x .uu .uu 0) (II:=Iy (e.W w1.gap.off) g) rfl <| go hr rfl
end
noncomputable def isQ(c:Nat):Bool:=[c]==([39]:Tx)
noncomputable def Wr.Nx(w:Wr)(t:Tx)(ind:Int)(lb:Tx)(bw:Int)(split:Bool)(p i:Nat):Wr:=bif ((p:Int)+1==(i:Int))&&(decide (bw < w.col)&&(split&&(((p:Int) != 0)&&((i:Int) != (t.length:Int))))) then w.IW ind lb else w.raw (Jm t p i)
noncomputable def Wr.N9(w:Wr)(t:Tx)(ind:Int)(lb:Tx)(p i:Nat):Wr:=((bif cY t p then w.brk lb else w).J9 lb (Jm t p i)).IW ind lb
noncomputable def Wr.Lv(w:Wr)(t:Tx)(p i:Nat):Wr:=bif decide ((p:Int) < i) then w.raw (Jm t p i) else w
noncomputable def JZ(p i:Nat):Nat:=bif decide ((p:Int) < i) then i else p
structure SS where
 w:Wr
 sp:Bool
 brk:Bool
 st:Nat
section
variable(t:Tx)(ind:Int)(lb:Tx)(bw:Int)(split:Bool)(i:Nat)(s:SS)
noncomputable def pV:SS:=bif s.sp then⟨s.w.Nx t ind lb bw split s.st i,s.sp,s.brk,i⟩ else bif s.brk then⟨s.w.N9 t ind lb s.st i,s.sp,s.brk,i⟩ else⟨s.w.Lv t s.st i,s.sp,s.brk,JZ s.st i⟩
noncomputable def Mq(c:Nat):SS:=bif s.sp then(bif ay c then s else⟨s.w.Nx t ind lb bw split s.st i,s.sp,s.brk,i⟩) else bif s.brk then(bif af c then s else⟨s.w.N9 t ind lb s.st i,s.sp,s.brk,i⟩) else bif bA c||isQ c then⟨s.w.Lv t s.st i,s.sp,s.brk,JZ s.st i⟩ else s
noncomputable def P4(c:Nat):SS:=bif isQ c then⟨s.w.raw [39,39],ay c,af c,i+1⟩ else⟨s.w,ay c,af c,s.st⟩
noncomputable def LO:SS:=match t[i]? with | none=>pV t ind lb bw split i s | some c=>P4 i (Mq t ind lb bw split i s c) c
end
noncomputable def sqB:S:=Qq (ak 4 Fq)
section
variable{t:Tx}{ind:Int}{lb:Tx}{bw:Int}{split:Bool}{i c:Nat}{s:SS}
theorem kJ(h:t[i]?=none):LO t ind lb bw split i s=pV t ind lb bw split i s:=by unfold LO;rw[h]
theorem kI(h:t[i]?=some c):LO t ind lb bw split i s=P4 i (Mq t ind lb bw split i s c) c:=by unfold LO;rw[h]
theorem us(w:Wr)(t:Tx)(ind:Int)(lb:Tx)(bw:Int)(split:Bool)(p i:Nat):Gr w (w.Nx t ind lb bw split p i) 2:=by
 unfold Wr.Nx
 cases ((p:Int)+1==(i:Int))&&(decide (bw < w.col)&&(split&&(((p:Int) != 0)&&((i:Int) != (t.length:Int))))) with
 | true=>exact bE w ind lb
 | false=>exact(bq w _).le (by decide)
theorem Al(w:Wr)(t:Tx)(lb:Tx)(p:Nat):Gr w (bif cY t p then w.brk lb else w) 1:=by
 cases cY t p with
 | true=>exact cF w lb
 | false=>exact Gr.refl
theorem uy(w:Wr)(t:Tx)(ind:Int)(lb:Tx)(p i:Nat):Gr w (w.N9 t ind lb p i) (t.length+3):=
 (((Al w t lb p).trans (bL lb (Jm t p i) _)).trans (bE _ ind lb)).le (by have:=bS t p i;omega)
theorem hO(w:Wr)(t:Tx)(p i:Nat):Gr w (w.Lv t p i) 1:=by
 unfold Wr.Lv
 cases decide ((p:Int) < i) with
 | true=>exact bq w _
 | false=>exact Gr.refl
theorem fO{p i:Nat}(h:p<=i):JZ p i=i:=by
 unfold JZ
 cases hd:decide ((p:Int) < i) with
 | true=>rfl
 | false=>have:=of_decide_eq_false hd;show p=i;omega
noncomputable def SS.Inv(s:SS)(i:Nat):Prop:=s.st<=i/\(s.brk=true->s.st < i)
theorem sx(t:Tx)(ind:Int)(lb:Tx)(bw:Int)(split:Bool)(i:Nat)(s:SS)(c:Nat)(hs:s.st<=i):Gr s.w (Mq t ind lb bw split i s c).w (t.length+3)/\(Mq t ind lb bw split i s c).st<=i/\(af c=true->s.Inv i->(Mq t ind lb bw split i s c).st < i+1):=by
 obtain⟨w,sp,b,p⟩:=s
 unfold Mq
 have k:∀n,n<=3->n<=t.length+3:=λn h=>kg h (mu _ _)
 have l1:i < i+1:=Nat.lt_succ_self i
 have hs:p<=i:=hs
 cases sp with
 | true=>cases ay c with
  | true=>exact⟨Gr.refl (w:=w),hs,λJ J=>Nat.lt_succ_of_le hs⟩
  | false=>exact⟨(us w t ind lb bw split p i).le (k 2 (by decide)),mf i,λJ J=>l1⟩
 | false=>cases b with
  | true=>cases af c with
   | true=>exact⟨Gr.refl (w:=w),hs,λJ J=>Nat.lt_succ_of_le hs⟩
   | false=>exact⟨uy w t ind lb p i,mf i,λJ J=>l1⟩
  | false=>cases bA c||isQ c with
   | true=>exact⟨(hO w t p i).le (k 1 (by decide)),lx (fO hs),λJ J=>Nat.lt_succ_of_le (lx (fO hs))⟩
   | false=>exact⟨Gr.refl (w:=w),hs,λJ J=>Nat.lt_succ_of_le hs⟩
theorem mP(t:Tx)(ind:Int)(lb:Tx)(bw:Int)(split:Bool)(i:Nat)(s:SS)(h:s.Inv i):Gr s.w (LO t ind lb bw split i s).w (t.length+4)/\(i < t.length->(LO t ind lb bw split i s).Inv (i+1)):=by
 cases hq:t[i]? with
 | none=>
  rw[kJ hq]
  refine⟨?_,λhi=>absurd hi (Nat.not_lt.mpr (List.getElem?_eq_none_iff.mp hq))⟩
  obtain⟨w,sp,b,p⟩:=s
  unfold pV
  cases sp with
  | true=>exact(us w t ind lb bw split p i).le (kg (by decide:2<=4) (mu _ _))
  | false=>cases b with
   | true=>exact(uy w t ind lb p i).le (mw _)
   | false=>exact(hO w t p i).le (kg (by decide:1<=4) (mu _ _))
 | some c=>
  rw[kI hq]
  obtain⟨g,h1,h2⟩:=sx t ind lb bw split i s c h.1
  generalize Mq t ind lb bw split i s c=s1 at g h1 h2
  unfold P4
  have nb:isQ c=true->af c=false:=λhq=>by
   have e:c=39:=by have:=lf hq;injection this
   rw[e];rfl
  cases hQ:isQ c with
  | true=>exact⟨g.trans (bq s1.w _),λJ=>⟨mf _,λhb=>absurd ((nb hQ).symm.trans hb) Bool.false_ne_true⟩⟩
  | false=>exact⟨g.le (mw _),λJ=>⟨Nat.le_succ_of_le h1,λhb=>h2 hb h⟩⟩
end
section
variable{e:Em}{g:List Ob}
noncomputable def KD(t:Tx)(split sp b:Bool)(p:Nat)(x y z:V)(i:Nat):List V:=[.ref 2,.s t,.o split,.o sp,.o b,.i p,x,y,z,.i i]
noncomputable def GW:S:=.cons I46 PT
theorem wW(d:Nat){t:Tx}{split sp b:Bool}{p i:Nat}{x y z:V}(hd:IM e.c.indent)(hc:0<=e.w.col)(ho:e.ok 2){P:Prop}(post:∀y',Es (d+3) GW (KD t split sp b p x y z i) (Iy e g) (KD t split sp b i x y' z i) (Iy (e.W (e.w.Nx t (ai e.c.indent) e.o.lb e.o.bw split p i)) g)->P):P:=by
 have q:Ep (d+3) I99 (KD t split sp b p x y z i) (Iy e g) (.o (((p:Int)+1==(i:Int))&&(decide (e.o.bw < e.w.col)&&(split&&(((p:Int) != 0)&&((i:Int) != (t.length:Int))))))):=bB rfl (bB rfl (bB rfl (bB rfl rfl)))
 unfold Wr.Nx at post
 cases hq:((p:Int)+1==(i:Int))&&(decide (e.o.bw < e.w.col)&&(split&&(((p:Int) != 0)&&((i:Int) != (t.length:Int))))) with
 | true=>
  rw[hq]at post q
  exact post y (go (ae q rfl (go (aq (aj gf (vs:=[]) (kw:=[]) (ws:=[.ref 2]) rfl rfl rfl rfl rfl rfl (cT d hd hc ho))) rfl)) (go rfl rfl))
 | false=>
  rw[hq]at post q
  exact post (.s (Jm t p i)) (go (ac q rfl (go (bg (bD 5 9 rfl rfl rfl)) (bx (d+2) 7 rfl rfl (mq ho) rfl))) (go rfl rfl))
noncomputable def sqD:S:=.cons I88 (.cons (.for 8 nX (brB 8)) (.cons Oi PT))
theorem wY(d:Nat){t:Tx}{split sp b:Bool}{p i:Nat}{x y z:V}(ht:t.length < 390)(hp:p < t.length)(hd:IM e.c.indent)(hc:0<=e.w.col)(ho:e.ok (t.length+3)){P:Prop}(post:∀z',Es (d+3) sqD (KD t split sp b p x y z i) (Iy e g) (KD t split sp b i x y z' i) (Iy (e.W (e.w.N9 t (ai e.c.indent) e.o.lb p i)) g)->P):P:=by
 obtain⟨u,hu⟩:∃u,t[p]?=some u:=⟨_,kx hp⟩
 have sl:=bS t p i
 have q0:Ep (d+3) (.b2 (.cmp .eq) (.b2 .idx I2 I9) O3) (KD t split sp b p x y z i) (Iy e g) (.o (cY t p)):=by
  unfold cY;rw[hu]
  exact Iz (a:=(.s [u],Iy e g)) (Iz (a:=(.s t,Iy e g)) rfl (Iz (a:=(.i p,Iy e g)) rfl (eP (i5 hu)))) rfl
 have s1:Es (d+3) I88 (KD t split sp b p x y z i) (Iy e g) (KD t split sp b p x y z i) (Iy (e.W (bif cY t p then e.w.brk e.o.lb else e.w)) g):=by
  cases hB:cY t p with
  | true=>rw[hB]at q0;exact ae q0 rfl (go (aq (aj gc (vs:=[]) (kw:=[]) (ws:=[.ref 2,.b .nul]) rfl rfl rfl rfl rfl rfl (cw (e:=e) (g:=g) (d+1) .nul (.inl rfl) (kg (me (by omega) _) ho)))) rfl)
  | false=>rw[hB]at q0;exact ac q0 rfl rfl
 have g1:=Al e.w t e.o.lb p
 unfold Wr.N9 at post
 generalize (bif cY t p then e.w.brk e.o.lb else e.w)=w1 at s1 g1 post
 have o4:(e.W w1).ok ((Jm t p i).length+2):=g1.ok (kg (me (by omega) _) ho)
 have dr:=cT (e:=e.W (w1.J9 e.o.lb (Jm t p i))) (g:=g) d hd ((bL e.o.lb (Jm t p i) w1).1 (g1.1 hc)) ((bL e.o.lb (Jm t p i) w1).ok (e:=e.W w1) o4)
 refine gz (e:=e.W w1) (g:=g) (l:=KD t split sp b p x y z i) (d+1) 8 5 9 (by decide) (by decide:8 < 10) rfl rfl rfl rfl (kg (me (lw _ 2) _) o4) (by omega) λz' hz=>post z' ?_
 exact go s1 (go hz (go (aq (aj gf (vs:=[]) (kw:=[]) (ws:=[.ref 2]) rfl rfl rfl rfl rfl rfl dr)) (go rfl rfl)))
noncomputable def sqF:S:=.cons I83 .nil
theorem wX(d:Nat){t:Tx}{split sp b:Bool}{p i:Nat}{x y z:V}(ho:e.ok 1){P:Prop}(post:∀y',Es (d+3) sqF (KD t split sp b p x y z i) (Iy e g) (KD t split sp b (JZ p i) x y' z i) (Iy (e.W (e.w.Lv t p i)) g)->P):P:=by
 have q:Ep (d+3) (.b2 (.cmp .lt) I9 K6) (KD t split sp b p x y z i) (Iy e g) (.o (decide ((p:Int) < i))):=rfl
 unfold Wr.Lv JZ at post
 cases hq:decide ((p:Int) < i) with
 | true=>
  rw[hq]at post q
  exact post (.s (Jm t p i)) (go (ae q rfl (go (bg (bD 5 9 rfl rfl rfl)) (bx (d+2) 7 rfl rfl ho (go rfl rfl)))) rfl)
 | false=>
  rw[hq]at post q
  exact post y (go (ac q rfl rfl) rfl)
theorem wT(d:Nat){t:Tx}{split:Bool}{i:Nat}(s:SS)(hi:i<=t.length)(ht:t.length < 390)(Kz:s.Inv i)(hd:IM e.c.indent)(hc:0<=s.w.col)(ho:(e.W s.w).ok (t.length+4))(x y z:V){P:Prop}
  (post:∀x' y' z',Es (d+3) sqB (KD t split s.sp s.brk s.st x y z i) (Iy (e.W s.w) g) (KD t split (LO t (ai e.c.indent) e.o.lb e.o.bw split i s).sp (LO t (ai e.c.indent) e.o.lb e.o.bw split i s).brk (LO t (ai e.c.indent) e.o.lb e.o.bw split i s).st x' y' z' (i+1)) (Iy (e.W (LO t (ai e.c.indent) e.o.lb e.o.bw split i s).w) g)->P):P:=by
 have cr:=λ(R:JC)=>ik (c:=IH (d+3)) (st:=Iy (e.W s.w) g) (R:=R) (l:=KD t split s.sp s.brk s.st x y z i) (r:=ak 2 sqB) 6 9 (by decide:6 < 10) (by decide) (by decide) rfl rfl hi
 have o1:(e.W s.w).ok 1:=kg (me (kg (by decide:1<=4) (mu _ _)) _) ho
 have o2:(e.W s.w).ok 2:=kg (me (kg (by decide:2<=4) (mu _ _)) _) ho
 have o3:(e.W s.w).ok (t.length+3):=mq ho
 have hbp:s.brk=true->s.st < t.length:=λh=>li (Kz.2 h) hi
 have mr:=λ(sp b:Bool) (p:Nat) (ch:V) (h2:(e.W s.w).ok 2) {Q:Prop}=>wW (e:=e.W s.w) (g:=g) d (t:=t) (split:=split) (sp:=sp) (b:=b) (p:=p) (i:=i) (x:=ch) (y:=y) (z:=z) hd hc h2 (P:=Q)
 have dr:=λ(sp b:Bool) (p:Nat) (ch:V) (hp:p < t.length) {Q:Prop}=>wY (e:=e.W s.w) (g:=g) d (t:=t) (split:=split) (sp:=sp) (b:=b) (p:=p) (i:=i) (x:=ch) (y:=y) (z:=z) ht hp hd hc o3 (P:=Q)
 have fr:=λ(sp b:Bool) (p:Nat) (ch:V) {Q:Prop}=>wX (e:=e.W s.w) (g:=g) d (t:=t) (split:=split) (sp:=sp) (b:=b) (p:=p) (i:=i) (x:=ch) (y:=y) (z:=z) o1 (P:=Q)
 cases hq:t[i]? with
 | none=>
  have hv:KQ t i=.b .nul:=by unfold KQ;rw[hq]
  rw[kJ hq]at post
  unfold pV at post
  rw[hv]at cr
  obtain⟨w,sp,b,p⟩:=s
  have tl:∀{w:Wr}{sp b:Bool}{p:Nat}{y z:V},Es (d+3) (ak 3 sqB) (KD t split sp b p (.b .nul) y z i) (Iy (e.W w) g) (KD t split sp b p (.b .nul) y z (i+1)) (Iy (e.W w) g):=λ{w sp b p y z}=>go (ac (v:=.ff) rfl rfl rfl) (go (ac (v:=.ff) rfl rfl rfl) (go rfl rfl))
  cases sp with
  | true=>exact mr true b p (.b .nul) o2 λy' hm=>post (.b .nul) y' z (cr _ (go (ae rfl rfl (go (ae (v:=.tt) rfl rfl hm) rfl)) tl))
  | false=>cases b with
   | true=>exact dr false true p (.b .nul) (hbp rfl) λz' hm=>post (.b .nul) y z' (cr _ (go (ac rfl rfl (go (ae rfl rfl (go (ae (v:=.tt) rfl rfl hm) rfl)) rfl)) tl))
   | false=>exact fr false false p (.b .nul) λy' hm=>post (.b .nul) y' z (cr _ (go (ac rfl rfl (go (ac rfl rfl (go (ae (v:=.tt) rfl rfl hm) rfl)) rfl)) tl))
 | some c=>
  have hv:KQ t i=.s [c]:=by unfold KQ;rw[hq]
  rw[kI hq]at post
  rw[hv]at cr
  have md:∀{Q:Prop},(∀y' z',Es (d+3) (Lo (ak 2 sqB)) (KD t split s.sp s.brk s.st (.s [c]) y z i) (Iy (e.W s.w) g) (KD t split (Mq t (ai e.c.indent) e.o.lb e.o.bw split i s c).sp (Mq t (ai e.c.indent) e.o.lb e.o.bw split i s c).brk (Mq t (ai e.c.indent) e.o.lb e.o.bw split i s c).st (.s [c]) y' z' i) (Iy (e.W (Mq t (ai e.c.indent) e.o.lb e.o.bw split i s c).w) g)->Q)->Q:=by
   clear post cr
   intro Q k
   unfold Mq at k
   obtain⟨w,sp,b,p⟩:=s
   have qS:∀{sp b:Bool},Ep (d+3) (.or Q6 (.b2 (.cmp .ne) I6 L0)) (KD t split sp b p (.s [c]) y z i) (Iy (e.W w) g) (.o (!ay c)):=rfl
   have qA:∀{sp b:Bool},Ep (d+3) (.or Q6 (.b2 (.cmp .Ow) I6 MR)) (KD t split sp b p (.s [c]) y z i) (Iy (e.W w) g) (.o (!af c)):=rfl
   have qI:∀{sp b:Bool},Ep (d+3) FT (KD t split sp b p (.s [c]) y z i) (Iy (e.W w) g) (.o (bA c||isQ c)):=λ{sp b}=>Iz rfl (Iz (a:=false) rfl (cu rfl rfl))
   cases sp with
   | true=>
    cases hs:ay c with
    | true=>rw[hs]at k qS;exact k y z (ae rfl rfl (go (ac qS rfl rfl) rfl))
    | false=>rw[hs]at k qS;exact mr true b p (.s [c]) o2 λy' hm=>k y' z (ae rfl rfl (go (ae qS rfl hm) rfl))
   | false=>cases b with
    | true=>
     cases hb:af c with
     | true=>rw[hb]at k qA;exact k y z (ac rfl rfl (go (ae rfl rfl (go (ac qA rfl rfl) rfl)) rfl))
     | false=>rw[hb]at k qA;exact dr false true p (.s [c]) (hbp rfl) λz' hm=>k y z' (ac rfl rfl (go (ae rfl rfl (go (ae qA rfl hm) rfl)) rfl))
    | false=>
     cases hI:bA c||isQ c with
     | true=>rw[hI]at k qI;exact fr false false p (.s [c]) λy' hm=>k y' z (ac rfl rfl (go (ac rfl rfl (go (ae qI rfl hm) rfl)) rfl))
     | false=>rw[hI]at k qI;exact k y z (ac rfl rfl (go (ac rfl rfl (go (ac qI rfl rfl) rfl)) rfl))
  refine md λy' z' h1=>?_
  have gM:=(sx t (ai e.c.indent) e.o.lb e.o.bw split i s c Kz.1).1
  have o5:(e.W (Mq t (ai e.c.indent) e.o.lb e.o.bw split i s c).w).ok 1:=gM.ok (e:=e.W s.w) ho
  generalize Mq t (ai e.c.indent) e.o.lb e.o.bw split i s c=s1 at h1 post o5
  obtain⟨w,sp,b,p⟩:=s1
  unfold P4 at post
  have tl:∀{w:Wr}{p:Nat}{y z:V},Es (d+3) (ak 4 sqB) (KD t split sp b p (.s [c]) y z i) (Iy (e.W w) g) (KD t split (ay c) (af c) p (.s [c]) y z (i+1)) (Iy (e.W w) g):=λ{w p y z}=>
   go (ae (v:=.tt) rfl rfl (go (l':=KD t split (ay c) b p (.s [c]) y z i) (II:=Iy (e.W w) g) rfl (go (l':=KD t split (ay c) (af c) p (.s [c]) y z i) (II:=Iy (e.W w) g) rfl rfl))) (go rfl rfl)
  have qQ:Ep (d+3) (.b2 (.cmp .eq) I6 PR) (KD t split sp b p (.s [c]) y' z' i) (Iy (e.W w) g) (.o (isQ c)):=rfl
  cases hQ:isQ c with
  | true=>
   rw[hQ]at post qQ
   refine post (.s [c]) (.s [39,39]) z' (cr _ (go h1 ?_))
   exact go (ae qQ rfl (go (l':=KD t split sp b p (.s [c]) (.s [39,39]) z' i) (II:=Iy (e.W w) g) rfl (go (l':=KD t split sp b p (.s [c]) (.s [39,39]) z' i) (II:=Iy (e.W ⟨w.col+2,w.line,w.ws,w.ind,w.Kc,w.rows⟩) g) rfl (go (gB (d+2) (e:=e.W ⟨w.col+2,w.line,w.ws,w.ind,w.Kc,w.rows⟩) rfl rfl o5) (go (l':=KD t split sp b (i+1) (.s [c]) (.s [39,39]) z' i) (II:=Iy (e.W (w.raw [39,39])) g) rfl rfl))))) tl
  | false=>
   rw[hQ]at post qQ
   exact post (.s [c]) y' z' (cr _ (go h1 (go (ac qQ rfl rfl) tl)))
noncomputable def Ot(t:Tx)(ind:Int)(lb:Tx)(bw:Int)(split:Bool)(w:Wr)(i:Nat):SS:=KG (LO t ind lb bw split) ⟨w,false,false,0⟩ i
noncomputable def Wr.sq(w:Wr)(t:Tx)(ind bw:Int)(lb:Tx)(split:Bool):Wr:=(Ot t ind lb bw split (w.sgn [39] true false false) (t.length+1)).w.sgn [39] false false false
theorem mQ(t:Tx)(ind:Int)(lb:Tx)(bw:Int)(split:Bool)(w:Wr):∀i,i<=t.length->(Ot t ind lb bw split w i).Inv i/\Gr w (Ot t ind lb bw split w i).w ((t.length+4)*i)
 | 0,_=>⟨⟨mf 0,λh=>absurd h Bool.false_ne_true⟩,Gr.refl⟩
 | i+1,h=>
  have h0:=mQ t ind lb bw split w i (mq h)
  have h1:=mP t ind lb bw split i _ h0.1
  ⟨h1.2 h,h0.2.trans h1.1⟩
theorem A8(d:Nat){t:Tx}{split:Bool}(ht:t.length < 390)(hd:IM e.c.indent)(hc:0<=e.w.col)(ho:e.ok (ci t)):(IH (d+4)).IG 51 [.ref 2,.s t,.o split] (Iy e g)=some (.b .nul,Iy (e.W (e.w.sq t (ai e.c.indent) e.o.bw e.o.lb split)) g):=by
 have LF:∀n,n<=10->e.ok n:=λn h=>kg (me (kg h (mu 10 _)) _) ho
 have H2:=bC (e:=e) (g:=g) (d+1) [39] true false false (by decide) (LF 1 (by decide))
 have g1:=aS e.w [39] true false false
 unfold Wr.sq
 generalize e.w.sgn [39] true false false=w1 at H2 g1
 have G:=mQ t (ai e.c.indent) e.o.lb e.o.bw split w1
 have o3:∀i,i<=t.length->(e.W (Ot t (ai e.c.indent) e.o.lb e.o.bw split w1 i).w).ok (t.length+4):=λi hi=>(g1.trans (G i hi).2).ok (kg (me (by have:=eA hi;omega) _) ho)
 have G1:Gr w1 (Ot t (ai e.c.indent) e.o.lb e.o.bw split w1 (t.length+1)).w ((t.length+4)*t.length+(t.length+4)):=(G _ (mf _)).2.trans (mP t _ _ _ _ _ _ (G _ (mf _)).1).1
 have H5:=bC (e:=e.W (Ot t (ai e.c.indent) e.o.lb e.o.bw split w1 (t.length+1)).w) (g:=g) (d+1) [39] false false false (by decide) ((g1.trans G1).ok (kg (me (by have:=eA (mf t.length);omega) _) ho))
 have e0:Ot t (ai e.c.indent) e.o.lb e.o.bw split w1 0=⟨w1,false,false,0⟩:=rfl
 have eS:∀i,Ot t (ai e.c.indent) e.o.lb e.o.bw split w1 (i+1)=LO t (ai e.c.indent) e.o.lb e.o.bw split i (Ot t (ai e.c.indent) e.o.lb e.o.bw split w1 i):=λJ=>rfl
 generalize Ot t (ai e.c.indent) e.o.lb e.o.bw split w1=F at G o3 H5 e0 eS
 refine cy (c:=IH (d+3)) (t:=.b2 (.cmp .le) K6 KY) (b:=sqB) (n:=t.length) (I:=λi l st=>∃x y z,l=KD t split (F i).sp (F i).brk (F i).st x y z i/\st=Iy (e.W (F i).w) g)
  (λi hi l st=>?_) (λl st=>?_) (by rw[ew];omega) ⟨.uu,.uu,.uu,rfl,rfl⟩ λl' II hr hx=>?_
 ·rintro ⟨x,y,z,rfl,rfl⟩
  refine⟨(bV 9 rfl rfl).trans (by rw[decide_eq_true (Int.ofNat_le.mpr hi)]),λ{P} post=>?_⟩
  exact wT (e:=e) (g:=g) d (F i) hi ht (G i hi).1 hd ((G i hi).2.1 (g1.1 hc)) (o3 i hi) x y z λx' y' z' hs=>post _ _ hs ⟨x',y',z',by rw[eS],by rw[eS]⟩
 ·rintro ⟨x,y,z,rfl,rfl⟩
  exact(bV 9 rfl rfl).trans (by rw[decide_eq_false (by omega)])
 ·obtain⟨x,y,z,rfl,rfl⟩:=hx
  rw[e0]at hr
  exact aa (f:=yt) rfl <| go (aq (aj eF (vs:=[.s [39],.tt]) (kw:=[]) (ws:=[.ref 2,.s [39],.tt,.ff,.ff]) rfl rfl rfl rfl rfl rfl H2)) <|
   go (l':=[.ref 2,.s t,.o split,.ff,.uu,.uu,.uu,.uu,.uu,.uu]) (II:=Iy (e.W w1) g) rfl <| go (l':=[.ref 2,.s t,.o split,.ff,.ff,.uu,.uu,.uu,.uu,.uu]) (II:=Iy (e.W w1) g) rfl <|
   go (l':=KD t split false false 0 .uu .uu .uu 0) (II:=Iy (e.W w1) g) rfl <| go hr <|
   go (aq (aj eF (vs:=[.s [39],.ff]) (kw:=[]) (ws:=[.ref 2,.s [39],.ff,.ff,.ff]) rfl rfl rfl rfl rfl rfl H5)) rfl
end
section
variable{c:Cx}{a b d:E}{l:List V}{st:St}{x y z:V}{u w:Bool}{p q:B}
theorem aY{o k:Nq}(ha:IK c a l st=some (x,st))(hb:IK c b l st=some (y,st))(h:Qk o x y=some u)(hd:IK c d l st=some (z,st))(h':Qk k y z=some w):IK c (.JX o k a b d) l st=some (.o (u&&w),st):=by
 refine Iz ha (Iz hb (Iz h ?_))
 cases u with
 | true=>exact Iz hd (kh (Option.map _) h')
 | false=>rfl
theorem DA(ha:IK c a l st=some (.b p,st))(hb:IK c b l st=some (.b q,st)):IK c (.or a b) l st=some (.b (bif p.truth then p else q),st):=by
 refine Iz ha (Iz (a:=p.truth) rfl ?_)
 cases p.truth with
 | true=>rfl
 | false=>exact hb
theorem CJ(ha:IK c a l st=some (.b p,st))(hb:IK c b l st=some (.b q,st)):IK c (.and a b) l st=some (.b (bif p.truth then q else p),st):=by
 refine Iz ha (Iz (a:=p.truth) rfl ?_)
 cases p.truth with
 | true=>exact hb
 | false=>rfl
theorem C8:(bif p.truth then p else q).truth=(p.truth||q.truth):=by
 cases h:p.truth with
 | true=>exact h
 | false=>rfl
theorem AX:(bif p.truth then q else p).truth=(p.truth&&q.truth):=by
 cases h:p.truth with
 | true=>rfl
 | false=>exact h
theorem z9(h:IK c a l st=some (.b p,st)):IK c (.u1 .not a) l st=some (.o (!p.truth),st):=Iz h rfl
end
noncomputable def inR(lo hi c:Nat):Bool:=!Lm [c] [lo]&&!Lm [hi] [c]
noncomputable def aI(wide:B)(c:Nat):Bool:=decide (c∈[34,92,133,8232,8233,65279])||!(inR 32 126 c||(wide.truth&&(inR 160 55295 c||inR 57344 65533 c)))
noncomputable def Kn(c:Nat):Option Tx:=match er c with
 | some z=>some ([92]++z)
 | none=>bif !Lm [255] [c] then fN [92,120,37,48,50,88] c else bif !Lm [65535] [c] then fN [92,117,37,48,52,88] c else fN [92,85,37,48,56,88] c
noncomputable def eY(c:Nat):Tx:=(Kn c).getD []
noncomputable def ic(wide:B)(t:Tx):Prop:=∀c∈t,aI wide c=true->(Kn c).isSome=true
structure DS where
 w:Wr
 st:Nat
noncomputable def Aj(q:Option Nat):Bool:=q.any ay
section
variable(t:Tx)(ind:Int)(lb:Tx)(bw:Int)(split:Bool)(wide:B)(i:Nat)(s:DS)
noncomputable def Mv(q:Option Nat):DS:=match q with
 | none=>⟨s.w.Lv t s.st i,JZ s.st i⟩
 | some c=>bif aI wide c then⟨(s.w.Lv t s.st i).raw (eY c),i+1⟩ else s
noncomputable def PH(q:Option Nat):Bool:=(decide ((0:Int) < i)&&decide ((i:Int) < (t.length:Int) - 1))&&((Aj q||decide ((i:Int)<=s.st))&&(decide (bw < s.w.col+((i:Int) - s.st))&&split))
noncomputable def MK:Wr:=((s.w.raw (Jm t s.st i++[92])).IW ind lb).off
noncomputable def dqF:DS:=⟨bif (t[JZ s.st i]?).any ay then(MK t ind lb i s).raw [92] else MK t ind lb i s,JZ s.st i⟩
noncomputable def OT(q:Option Nat):DS:=bif PH t bw split i s q then dqF t ind lb i s else s
noncomputable def OS:DS:=OT t ind lb bw split i (Mv t wide i s t[i]?) t[i]?
end
noncomputable def QR:S:=Qq (ak 2 Fp)
theorem vj(t:Tx)(wide:B)(i:Nat)(s:DS)(q:Option Nat)(h:s.st<=i):Gr s.w (Mv t wide i s q).w 2/\(Mv t wide i s q).st<=i+1:=by
 unfold Mv
 cases q with
 | none=>exact⟨(hO _ _ _ _).le (by decide),Nat.le_succ_of_le (lx (fO h))⟩
 | some c=>
  show Gr s.w (bif aI wide c then _ else s).w 2/\(bif aI wide c then _ else s).st<=i+1
  cases aI wide c with
  | true=>exact⟨(hO _ _ _ _).trans (bq _ _),mf _⟩
  | false=>exact⟨Gr.refl,Nat.le_succ_of_le h⟩
theorem gx{p i:Nat}(h:p<=i+1):JZ p i<=i+1:=by
 unfold JZ
 cases decide ((p:Int) < i) with
 | true=>exact mw i
 | false=>exact h
theorem nB(t:Tx)(ind:Int)(lb:Tx)(i:Nat)(s:DS):Gr s.w (MK t ind lb i s) 3:=(bq s.w _).trans (bE _ ind lb)
theorem Co(t:Tx)(ind:Int)(lb:Tx)(bw:Int)(split:Bool)(i:Nat)(s:DS)(q:Option Nat)(h:s.st<=i+1):Gr s.w (OT t ind lb bw split i s q).w 4/\(OT t ind lb bw split i s q).st<=i+1:=by
 unfold OT
 cases PH t bw split i s q with
 | false=>exact⟨Gr.refl,h⟩
 | true=>
  refine⟨?_,gx h⟩
  show Gr s.w (bif (t[JZ s.st i]?).any ay then(MK t ind lb i s).raw [92] else MK t ind lb i s) 4
  cases (t[JZ s.st i]?).any ay with
  | true=>exact(nB t ind lb i s).trans (bq _ _)
  | false=>exact(nB t ind lb i s).le (by decide)
theorem Cm(t:Tx)(ind:Int)(lb:Tx)(bw:Int)(split:Bool)(wide:B)(i:Nat)(s:DS)(h:s.st<=i):Gr s.w (OS t ind lb bw split wide i s).w 6/\(OS t ind lb bw split wide i s).st<=i+1:=
 have h1:=vj t wide i s t[i]? h
 have h2:=Co t ind lb bw split i (Mv t wide i s t[i]?) t[i]? h1.2
 ⟨h1.1.trans h2.1,h2.2⟩
section
variable{e:Em}{g:List Ob}
noncomputable def KH(t:Tx)(split:Bool)(p:Nat)(x y:V)(i:Nat):List V:=[.ref 2,.s t,.o split,.i p,x,y,.i i]
noncomputable def HA:S:=.IF rM Gh .nil
theorem yU(d:Nat){t:Tx}{split:Bool}{p i:Nat}{x y:V}(ho:e.ok 1){P:Prop}(post:∀y',Es (d+3) HA (KH t split p x y i) (Iy e g) (KH t split (JZ p i) x y' i) (Iy (e.W (e.w.Lv t p i)) g)->P):P:=by
 have q:Ep (d+3) rM (KH t split p x y i) (Iy e g) (.o (decide ((p:Int) < i))):=rfl
 unfold Wr.Lv JZ at post
 cases hq:decide ((p:Int) < i) with
 | true=>
  rw[hq]at post q
  exact post (.s (Jm t p i)) (ae q rfl (go (bg (bD 3 6 rfl rfl rfl)) (bx (d+2) 5 rfl rfl ho (go rfl rfl))))
 | false=>
  rw[hq]at post q
  exact post y (ac q rfl rfl)
noncomputable def Hz:S:=.IF (.b2 .K3 JR I0) Gc I39
theorem yR(d:Nat){t:Tx}{split:Bool}{p i c:Nat}{y:V}(hc:(Kn c).isSome=true):Es (d+3) Hz (KH t split p (.s [c]) y i) (Iy e g) (KH t split p (.s [c]) (.s (eY c)) i) (Iy e g):=by
 have q:Ep (d+3) (.b2 .K3 JR I0) (KH t split p (.s [c]) y i) (Iy e g) (.o ((er c).isSome)):=rfl
 have f:∀{k:Tx}{s:Tx},fN k c=some s->Ep (d+3) (.u1 (.MJ k) (.u1 .ord JR)) (KH t split p (.s [c]) y i) (Iy e g) (.s s):=λ{k s} h=>
  Iz (a:=(.i c,Iy e g)) rfl (by show Option.map _ (Option.or none (fN k c))=_;rw[h];rfl)
 unfold eY
 unfold Kn at hc ⊢
 cases he:er c with
 | some z=>
  rw[he]at q
  have q2:Ep (d+3) (.OP I0 4) (KH t split p (.s [c]) y i) (Iy e g) (.s z):=by
   show Option.map _ (er c)=_;rw[he];rfl
  have lz:z.length<=1:=by
   unfold er at he
   cases hl:j2.lookup c with
   | none=>rw[hl]at he;exact nomatch he
   | some y=>rw[hl]at he;cases he;exact mf 1
  exact ae q rfl (go (bg (Iz (a:=(.s [92],Iy e g)) rfl (Iz q2 (f7 (s:=[92]) (kg (me lz 1) (by decide)))))) rfl)
 | none=>
  rw[he]at q hc
  have q3:Ep (d+3) (.b2 (.cmp .le) JR (.n0 (.cst (.str [255])))) (KH t split p (.s [c]) y i) (Iy e g) (.o (!Lm [255] [c])):=rfl
  have q4:Ep (d+3) (.b2 (.cmp .le) JR (.n0 (.cst (.str [65535])))) (KH t split p (.s [c]) y i) (Iy e g) (.o (!Lm [65535] [c])):=rfl
  have gs:∀{o:Option Tx},o.isSome=true->o=some (o.getD []):=λ{o} h=>by cases o with | none=>exact nomatch h | some v=>rfl
  refine ac q rfl (go ?_ rfl)
  cases h3:!Lm [255] [c] with
  | true=>
   have hc:(bif !Lm [255] [c] then fN [92,120,37,48,50,88] c else bif !Lm [65535] [c] then fN [92,117,37,48,52,88] c else fN [92,85,37,48,56,88] c).isSome=true:=hc
   rw[h3]at q3 hc
   exact ae q3 rfl (go (bg (f (gs hc))) rfl)
  | false=>
   have hc:(bif !Lm [255] [c] then fN [92,120,37,48,50,88] c else bif !Lm [65535] [c] then fN [92,117,37,48,52,88] c else fN [92,85,37,48,56,88] c).isSome=true:=hc
   rw[h3]at q3 hc
   refine ac q3 rfl (go ?_ rfl)
   cases h4:!Lm [65535] [c] with
   | true=>rw[h4]at q4 hc;exact ae q4 rfl (go (bg (f (gs hc))) rfl)
   | false=>rw[h4]at q4 hc;exact ac q4 rfl (go (bg (f (gs hc))) rfl)
theorem AB{t:Tx}{i:Nat}(h:t[i]?=none):KQ t i=.b .nul:=by unfold KQ;rw[h]
theorem AA{t:Tx}{i c:Nat}(h:t[i]?=some c):KQ t i=.s [c]:=by unfold KQ;rw[h]
theorem yV(d:Nat){t:Tx}{split:Bool}{i:Nat}(s:DS)(he:ic e.o.wide t)(ho:(e.W s.w).ok 2){y:V}{P:Prop}
  (post:∀y',Es (d+3) (Lo (ak 2 QR)) (KH t split s.st (KQ t i) y i) (Iy (e.W s.w) g) (KH t split (Mv t e.o.wide i s t[i]?).st (KQ t i) y' i) (Iy (e.W (Mv t e.o.wide i s t[i]?).w) g)->P):P:=by
 obtain⟨w,p⟩:=s
 have o1:(e.W w).ok 1:=mq ho
 have fr:=λ(ch:V) {Q:Prop}=>yU (e:=e.W w) (g:=g) d (t:=t) (split:=split) (p:=p) (i:=i) (x:=ch) (y:=y) o1 (P:=Q)
 cases hq:t[i]? with
 | none=>
  have hv:KQ t i=.b .nul:=AB hq
  rw[hq]at post
  rw[hv]at post
  exact fr (.b .nul) λy' hm=>post y' (ae (v:=.tt) rfl rfl (go hm (go (ac (v:=.ff) rfl rfl rfl) rfl)))
 | some c=>
  have hv:KQ t i=.s [c]:=AA hq
  rw[hq]at post
  rw[hv]at post
  have hX:IK (IH (d+3)) I26 (KH t split p (.s [c]) y i) (Iy (e.W w) g)=_:=
   DA (p:=.bool (inR 32 126 c)) (q:=bif e.o.wide.truth then .bool (inR 160 55295 c||inR 57344 65533 c) else e.o.wide) (aY rfl rfl rfl rfl rfl) (CJ (p:=e.o.wide) (q:=.bool (inR 160 55295 c||inR 57344 65533 c)) rfl (cu (aY rfl rfl rfl rfl rfl) (aY rfl rfl rfl rfl rfl)))
  have hN:=z9 hX
  rw[C8,AX]at hN
  have q2:Ep (d+3) Gw (KH t split p (.s [c]) y i) (Iy (e.W w) g) (.o (aI e.o.wide c)):=Iz rfl (Iz (a:=false) rfl (cu rfl hN))
  cases hm:aI e.o.wide c with
  | true=>
   have e1:Mv t e.o.wide i ⟨w,p⟩ (some c)=⟨(w.Lv t p i).raw (eY c),i+1⟩:=by show(bif aI e.o.wide c then _ else _)=_;rw[hm];rfl
   rw[e1]at post
   rw[hm]at q2
   refine fr (.s [c]) λy' hf=>post (.s (eY c)) (ae q2 rfl (go hf (go (ae (v:=.tt) rfl rfl (go (yR (e:=e.W (w.Lv t p i)) d (he c (ly hq) hm)) (bx (e:=e.W (w.Lv t p i)) (d+2) 5 rfl rfl ((hO w t p i).ok (e:=e.W w) ho) (go (l':=KH t split (i+1) (.s [c]) (.s (eY c)) i) (II:=Iy (e.W ((w.Lv t p i).raw (eY c))) g) rfl rfl)))) rfl)))
  | false=>
   have e1:Mv t e.o.wide i ⟨w,p⟩ (some c)=⟨w,p⟩:=by show(bif aI e.o.wide c then _ else _)=_;rw[hm];rfl
   rw[e1]at post
   rw[hm]at q2
   exact post y (ac q2 rfl rfl)
theorem yS(d:Nat){t:Tx}{split:Bool}{i:Nat}(s:DS)(ht:t.length < 390)(Kz:s.st<=i+1)(hd:IM e.c.indent)(hc:0<=s.w.col)(ho:(e.W s.w).ok 4){y:V}{P:Prop}
  (post:∀y',Es (d+3) (Lo (ak 3 QR)) (KH t split s.st (KQ t i) y i) (Iy (e.W s.w) g) (KH t split (OT t (ai e.c.indent) e.o.lb e.o.bw split i s t[i]?).st (KQ t i) y' i) (Iy (e.W (OT t (ai e.c.indent) e.o.lb e.o.bw split i s t[i]?).w) g)->P):P:=by
 have qS:Ep (d+3) (.b2 (.cmp .eq) JR L0) (KH t split s.st (KQ t i) y i) (Iy (e.W s.w) g) (.o (Aj t[i]?)):=by
  cases hq:t[i]? with
  | none=>rw[AB hq];rfl
  | some c=>rw[AA hq];rfl
 generalize KQ t i=x at qS post
 generalize t[i]?=q at qS post
 have qC:Ep (d+3) I62 (KH t split s.st x y i) (Iy (e.W s.w) g) (.o (PH t e.o.bw split i s q)):=bB (aY rfl rfl rfl rfl rfl) (bB (cu qS rfl) (bB rfl rfl))
 unfold OT at post
 cases hC:PH t e.o.bw split i s q with
 | false=>rw[hC]at post qC;exact post y (ac qC rfl rfl)
 | true=>
  rw[hC]at post qC
  have hi:(i:Int) < (t.length:Int) - 1:=km (ma (ma hC).1).2
  obtain⟨w,p⟩:=s
  have hp:JZ p i < t.length:=by have h1:JZ p i<=i+1:=gx Kz;omega
  obtain⟨u,hu⟩:∃u,t[JZ p i]?=some u:=⟨_,kx hp⟩
  have sl:(Jm t p i).length+1<=IU:=kg (mj (bS t p i)) (kg (Nat.le_of_lt (li (Nat.succ_lt_succ ht) (by decide:391<=2000))) oS)
  have o1:(e.W w).ok 1:=kg (me (by decide) _) ho
  have g1:=bq w (Jm t p i++[92])
  have o2:(e.W (w.raw (Jm t p i++[92]))).ok 2:=g1.ok (e:=e.W w) (kg (me (by decide) _) ho)
  have dr:=cT (e:=e.W (w.raw (Jm t p i++[92]))) (g:=g) d hd (g1.1 hc) o2
  have o5:(e.W (MK t (ai e.c.indent) e.o.lb i ⟨w,p⟩)).ok 1:=(nB t (ai e.c.indent) e.o.lb i ⟨w,p⟩).ok (e:=e.W w) ho
  have s2:Es (d+3) (.IF rM (.cons (.asg [3] I6) .nil) .nil) (KH t split p x (.s (Jm t p i++[92])) i) (Iy (e.W w) g) (KH t split (JZ p i) x (.s (Jm t p i++[92])) i) (Iy (e.W w) g):=by
   have q:Ep (d+3) rM (KH t split p x (.s (Jm t p i++[92])) i) (Iy (e.W w) g) (.o (decide ((p:Int) < i))):=rfl
   unfold JZ
   cases hq:decide ((p:Int) < i) with
   | true=>rw[hq]at q;exact ae q rfl (go rfl rfl)
   | false=>rw[hq]at q;exact ac q rfl rfl
  have q0:Ep (d+3) (.b2 (.cmp .eq) (.b2 .idx I2 J2) L0) (KH t split (JZ p i) x (.s (Jm t p i++[92])) i) (Iy (e.W (MK t (ai e.c.indent) e.o.lb i ⟨w,p⟩)) g) (.o ((t[JZ p i]?).any ay)):=by
   rw[hu]
   exact Iz (a:=(.s [u],Iy (e.W (MK t (ai e.c.indent) e.o.lb i ⟨w,p⟩)) g)) (Iz (a:=(.s t,Iy (e.W (MK t (ai e.c.indent) e.o.lb i ⟨w,p⟩)) g)) rfl (Iz (a:=(.i (JZ p i),Iy (e.W (MK t (ai e.c.indent) e.o.lb i ⟨w,p⟩)) g)) rfl (eP (i5 hu)))) rfl
  have post:∀y',Es (d+3) (Lo (ak 3 QR)) (KH t split p x y i) (Iy (e.W w) g) (KH t split (JZ p i) x y' i) (Iy (e.W (bif (t[JZ p i]?).any ay then(MK t (ai e.c.indent) e.o.lb i ⟨w,p⟩).raw [92] else MK t (ai e.c.indent) e.o.lb i ⟨w,p⟩)) g)->P:=post
  have pre:∀{R:JC},Ja (IH (d+3)) I94 (KH t split (JZ p i) x (.s (Jm t p i++[92])) i) (Iy (e.W (MK t (ai e.c.indent) e.o.lb i ⟨w,p⟩)) g)=R->Ja (IH (d+3)) (Lo (ak 3 QR)) (KH t split p x y i) (Iy (e.W w) g)=R:=λ{R} hr=>
   ae qC rfl <| go (bg (Iz (a:=(.s (Jm t p i),Iy (e.W w) g)) (bD 3 6 rfl rfl rfl) (Iz (a:=(.s [92],Iy (e.W w) g)) rfl (f7 (t:=[92]) sl)))) <| go s2 <|
    bx (e:=e.W w) (d+2) 5 rfl rfl o1 <| go (aq (aj gf (vs:=[]) (kw:=[]) (ws:=[.ref 2]) rfl rfl rfl rfl rfl rfl dr)) <| gr (e:=e.W ((w.raw (Jm t p i++[92])).IW (ai e.c.indent) e.o.lb)) (d+3) rfl hr
  cases hS:(t[JZ p i]?).any ay with
  | true=>
   rw[hS]at post q0
   exact post (.s [92]) (pre (go (ae q0 rfl (go (bg (v:=.s [92]) rfl) (bx (e:=e.W (MK t (ai e.c.indent) e.o.lb i ⟨w,p⟩)) (d+2) 5 rfl rfl o5 rfl))) rfl))
  | false=>
   rw[hS]at post q0
   exact post (.s (Jm t p i++[92])) (pre (go (ac q0 rfl rfl) rfl))
theorem yQ(d:Nat){t:Tx}{split:Bool}{i:Nat}(s:DS)(hi:i<=t.length)(ht:t.length < 390)(Kz:s.st<=i)(he:ic e.o.wide t)(hd:IM e.c.indent)(hc:0<=s.w.col)(ho:(e.W s.w).ok 6)(x y:V){P:Prop}
  (post:∀x' y',Es (d+3) QR (KH t split s.st x y i) (Iy (e.W s.w) g) (KH t split (OS t (ai e.c.indent) e.o.lb e.o.bw split e.o.wide i s).st x' y' (i+1)) (Iy (e.W (OS t (ai e.c.indent) e.o.lb e.o.bw split e.o.wide i s).w) g)->P):P:=by
 have g1:=vj t e.o.wide i s t[i]? Kz
 refine yV (e:=e) (g:=g) d (split:=split) (i:=i) s he (kg (me (by decide) _) ho) (y:=y) λy1 h1=>?_
 refine yS (e:=e) (g:=g) d (split:=split) (i:=i) (Mv t e.o.wide i s t[i]?) ht g1.2 hd (g1.1.1 hc) (g1.1.ok (e:=e.W s.w) ho) (y:=y1) λy2 h2=>post (KQ t i) y2 ?_
 exact ik (l:=KH t split s.st x y i) (r:=ak 2 QR) 4 6 (by decide:4 < 7) (by decide) (by decide) rfl rfl hi (go h1 (go h2 (go rfl rfl)))
noncomputable def Pe(t:Tx)(ind:Int)(lb:Tx)(bw:Int)(split:Bool)(wide:B)(w:Wr)(i:Nat):DS:=KG (OS t ind lb bw split wide) ⟨w,0⟩ i
noncomputable def Wr.dq(w:Wr)(t:Tx)(ind bw:Int)(lb:Tx)(split:Bool)(wide:B):Wr:=(Pe t ind lb bw split wide (w.sgn [34] true false false) (t.length+1)).w.sgn [34] false false false
theorem nH(t:Tx)(ind:Int)(lb:Tx)(bw:Int)(split:Bool)(wide:B)(w:Wr):∀i,(Pe t ind lb bw split wide w i).st<=i/\Gr w (Pe t ind lb bw split wide w i).w (6*i)
 | 0=>⟨mf 0,Gr.refl⟩
 | i+1=>
  have h0:=nH t ind lb bw split wide w i
  have h1:=Cm t ind lb bw split wide i _ h0.1
  ⟨h1.2,h0.2.trans h1.1⟩
theorem s7(t:Tx):6*(t.length+1)+10<=ci t:=by
 unfold ci
 rw[Nat.add_mul,Nat.mul_add t.length]
 have:0<=t.length*t.length:=mi _
 omega
theorem Ck(d:Nat){t:Tx}{split:Bool}(ht:t.length < 390)(he:ic e.o.wide t)(hd:IM e.c.indent)(hc:0<=e.w.col)(ho:e.ok (ci t)):(IH (d+4)).IG 52 [.ref 2,.s t,.o split] (Iy e g)=some (.b .nul,Iy (e.W (e.w.dq t (ai e.c.indent) e.o.bw e.o.lb split e.o.wide)) g):=by
 have r6:=s7 t
 have LF:∀n,n<=10->e.ok n:=λn h=>kg (me (kg h (mu 10 _)) _) ho
 have H2:=bC (e:=e) (g:=g) (d+1) [34] true false false (by decide) (LF 1 (by decide))
 have g1:=aS e.w [34] true false false
 unfold Wr.dq
 generalize e.w.sgn [34] true false false=w1 at H2 g1
 have G:=nH t (ai e.c.indent) e.o.lb e.o.bw split e.o.wide w1
 have o3:∀i,i<=t.length->(e.W (Pe t (ai e.c.indent) e.o.lb e.o.bw split e.o.wide w1 i).w).ok 6:=λi hi=>(g1.trans (G i).2).ok (kg (me (by omega) _) ho)
 have H5:=bC (e:=e.W (Pe t (ai e.c.indent) e.o.lb e.o.bw split e.o.wide w1 (t.length+1)).w) (g:=g) (d+1) [34] false false false (by decide) ((g1.trans (G (t.length+1)).2).ok (kg (me (by omega) _) ho))
 have e0:Pe t (ai e.c.indent) e.o.lb e.o.bw split e.o.wide w1 0=⟨w1,0⟩:=rfl
 have eS:∀i,Pe t (ai e.c.indent) e.o.lb e.o.bw split e.o.wide w1 (i+1)=OS t (ai e.c.indent) e.o.lb e.o.bw split e.o.wide i (Pe t (ai e.c.indent) e.o.lb e.o.bw split e.o.wide w1 i):=λJ=>rfl
 generalize Pe t (ai e.c.indent) e.o.lb e.o.bw split e.o.wide w1=F at G o3 H5 e0 eS
 refine cy (c:=IH (d+3)) (t:=.b2 (.cmp .le) I6 KY) (b:=QR) (n:=t.length) (I:=λi l st=>∃x y,l=KH t split (F i).st x y i/\st=Iy (e.W (F i).w) g)
  (λi hi l st=>?_) (λl st=>?_) (by rw[ew];omega) ⟨.uu,.uu,rfl,rfl⟩ λl' II hr hx=>?_
 ·rintro ⟨x,y,rfl,rfl⟩
  refine⟨(bV 6 rfl rfl).trans (by rw[decide_eq_true (Int.ofNat_le.mpr hi)]),λ{P} post=>?_⟩
  exact yQ (e:=e) (g:=g) d (F i) hi ht (G i).1 he hd ((G i).2.1 (g1.1 hc)) (o3 i hi) x y λx' y' hs=>post _ _ hs ⟨x',y',by rw[eS],by rw[eS]⟩
 ·rintro ⟨x,y,rfl,rfl⟩
  exact(bV 6 rfl rfl).trans (by rw[decide_eq_false (by omega)])
 ·obtain⟨x,y,rfl,rfl⟩:=hx
  rw[e0]at hr
  exact aa (f:=yr) rfl <| go (aq (aj eF (vs:=[.s [34],.tt]) (kw:=[]) (ws:=[.ref 2,.s [34],.tt,.ff,.ff]) rfl rfl rfl rfl rfl rfl H2)) <|
   go (l':=KH t split 0 .uu .uu 0) (II:=Iy (e.W w1) g) rfl <| go hr <|
   go (aq (aj eF (vs:=[.s [34],.ff]) (kw:=[]) (ws:=[.ref 2,.s [34],.ff,.ff,.ff]) rfl rfl rfl rfl rfl rfl H5)) rfl
end
structure AS where
 bi:Bool
 fi:Bool
 lb:Bool
 sc:Bool
 ls:Bool
 lk:Bool
 ts:Bool
 tb:Bool
 bs:Bool
 sb:Bool
 pw:Bool
 fw:Bool
 ps:Bool
 pb:Bool
noncomputable def JJ(t:Tx)(s:AS)(i:Nat)(x y:V):List V:=[.ref 2,.s t,.o s.bi,.o s.fi,.o s.lb,.o s.sc,.o s.ls,.o s.lk,.o s.ts,.o s.tb,.o s.bs,.o s.sb,.o s.pw,.o s.fw,.o s.ps,.o s.pb,.i i,.uu,.uu,.uu,.uu,.uu,x,y]
noncomputable def ue(c:Nat):Bool:=decide (c∈[0,32,9,13,10,133,8232,8233])
noncomputable def Mt(l:List Nat)(c:Nat):Bool:=decide (c∈l)
noncomputable def ND(c d:Nat):Bool:=[c]==([d]:Tx)
noncomputable def an1(c:Nat)(s:AS):AS:=
 ⟨(ND c 45&&s.fw)||((Mt [63,58] c&&s.fw)||(Mt [35,44,91,93,123,125,38,42,33,124,62,39,34,37,64,96] c||s.bi)),(ND c 45&&s.fw)||(Mt [63,58] c||(Mt [35,44,91,93,123,125,38,42,33,124,62,39,34,37,64,96] c||s.fi)),s.lb,s.sc,s.ls,s.lk,s.ts,s.tb,s.bs,s.sb,s.pw,s.fw,s.ps,s.pb⟩
noncomputable def an2(c:Nat)(s:AS):AS:=
 ⟨(ND c 35&&s.pw)||((ND c 58&&s.fw)||s.bi),(ND c 35&&s.pw)||(ND c 58||(Mt [44,63,91,93,123,125] c||s.fi)),s.lb,s.sc,s.ls,s.lk,s.ts,s.tb,s.bs,s.sb,s.pw,s.fw,s.ps,s.pb⟩
noncomputable def an3(c:Nat)(s:AS):AS:=⟨s.bi,s.fi,af c||s.lb,s.sc,s.ls,s.lk,s.ts,s.tb,s.bs,s.sb,s.pw,s.fw,s.ps,s.pb⟩
noncomputable def spN(c:Nat):Bool:=!(ND c 10||inR 32 126 c)
noncomputable def spO(c:Nat):Bool:=(ND c 133||(inR 160 55295 c||(inR 57344 65533 c||(!Lm [c] [65536]&&Lm [c] [1114111]))))&&!ND c 65279
noncomputable def QW(wide:B)(c:Nat)(s:AS):AS:=⟨s.bi,s.fi,s.lb,(spN c&&bif spO c then !wide.truth else true)||s.sc,s.ls,s.lk,s.ts,s.tb,s.bs,s.sb,s.pw,s.fw,s.ps,s.pb⟩
noncomputable def an5(z la:Bool)(c:Nat)(s:AS):AS:=
 bif ay c then⟨s.bi,s.fi,s.lb,s.sc,z||s.ls,s.lk,la||s.ts,s.tb,s.pb||s.bs,s.sb,s.pw,s.fw,true,false⟩
 else bif af c then⟨s.bi,s.fi,s.lb,s.sc,s.ls,z||s.lk,s.ts,la||s.tb,s.bs,s.ps||s.sb,s.pw,s.fw,false,true⟩
 else⟨s.bi,s.fi,s.lb,s.sc,s.ls,s.lk,s.ts,s.tb,s.bs,s.sb,s.pw,s.fw,false,false⟩
noncomputable def fwA(t:Tx)(j:Nat):Bool:=decide ((t.length:Int)<=((j+1:Nat):Int))||(t[j+1]?).any ue
noncomputable def an6(t:Tx)(i:Nat)(c:Nat)(s:AS):AS:=⟨s.bi,s.fi,s.lb,s.sc,s.ls,s.lk,s.ts,s.tb,s.bs,s.sb,ue c,fwA t (i+1),s.ps,s.pb⟩
noncomputable def Qm(z:Bool)(c:Nat)(s:AS):AS:=bif z then an1 c s else an2 c s
noncomputable def anC(t:Tx)(wide:B)(i:Nat)(c:Nat)(s:AS):AS:=an6 t i c (an5 ((i:Int)==0) ((i:Int)==(t.length:Int) - 1) c (QW wide c (an3 c (Qm ((i:Int)==0) c s))))
noncomputable def QV(t:Tx)(wide:B)(i:Nat)(s:AS):AS:=match t[i]? with | some c=>anC t wide i c s | none=>s
noncomputable def anB:S:=Qq (ak 17 CG)
section
variable{e:Em}{g:List Ob}{c:Cx}{l:List V}{st:St}
theorem cj{t:E}{p q:S}{v:V}{L:Bool->List V}{u:Bool}(h:IK c t l st=some (v,st))(hu:truth st v=some u)(kt:Ja c p l st=some (.next,L true,st))(kf:Ja c q l st=some (.next,L false,st)):Ja c (.IF t p q) l st=some (.next,L u,st):=by
 cases u with
 | true=>exact ae h hu kt
 | false=>exact ac h hu kf
theorem zt(d:Nat){t:Tx}{i ch:Nat}(s:AS)(y:V):Es d I22 (JJ t s i (.s [ch]) y) (Iy e g) (JJ t (an1 ch s) i (.s [ch]) y) (Iy e g):=by
 obtain⟨bi,fi,lb,sc,ls,lk,ts,tb,bs,sb,pw,fw,ps,pb⟩:=s
 exact go (cj (u:=Mt [35,44,91,93,123,125,38,42,33,124,62,39,34,37,64,96] ch) (L:=λu=>JJ t ⟨u||bi,u||fi,lb,sc,ls,lk,ts,tb,bs,sb,pw,fw,ps,pb⟩ i (.s [ch]) y) rfl rfl (go rfl (go rfl rfl)) rfl) <|
  go (cj (u:=Mt [63,58] ch) (L:=λu=>JJ t ⟨(u&&fw)||(Mt [35,44,91,93,123,125,38,42,33,124,62,39,34,37,64,96] ch||bi),u||(Mt [35,44,91,93,123,125,38,42,33,124,62,39,34,37,64,96] ch||fi),lb,sc,ls,lk,ts,tb,bs,sb,pw,fw,ps,pb⟩ i (.s [ch]) y) rfl rfl (go (l':=JJ t ⟨Mt [35,44,91,93,123,125,38,42,33,124,62,39,34,37,64,96] ch||bi,true,lb,sc,ls,lk,ts,tb,bs,sb,pw,fw,ps,pb⟩ i (.s [ch]) y) (II:=Iy e g) rfl (go (cj (u:=fw) (L:=λw=>JJ t ⟨w||(Mt [35,44,91,93,123,125,38,42,33,124,62,39,34,37,64,96] ch||bi),true,lb,sc,ls,lk,ts,tb,bs,sb,pw,fw,ps,pb⟩ i (.s [ch]) y) rfl rfl (go rfl rfl) rfl) rfl)) rfl) <|
  go (cj (u:=ND ch 45&&fw) (L:=λu=>JJ t ⟨u||((Mt [63,58] ch&&fw)||(Mt [35,44,91,93,123,125,38,42,33,124,62,39,34,37,64,96] ch||bi)),u||(Mt [63,58] ch||(Mt [35,44,91,93,123,125,38,42,33,124,62,39,34,37,64,96] ch||fi)),lb,sc,ls,lk,ts,tb,bs,sb,pw,fw,ps,pb⟩ i (.s [ch]) y) (bB rfl rfl) rfl (go rfl (go rfl rfl)) rfl) rfl
theorem zr(d:Nat){t:Tx}{i ch:Nat}(s:AS)(y:V):Es d I27 (JJ t s i (.s [ch]) y) (Iy e g) (JJ t (an2 ch s) i (.s [ch]) y) (Iy e g):=by
 obtain⟨bi,fi,lb,sc,ls,lk,ts,tb,bs,sb,pw,fw,ps,pb⟩:=s
 exact go (cj (u:=Mt [44,63,91,93,123,125] ch) (L:=λu=>JJ t ⟨bi,u||fi,lb,sc,ls,lk,ts,tb,bs,sb,pw,fw,ps,pb⟩ i (.s [ch]) y) rfl rfl (go rfl rfl) rfl) <|
  go (cj (u:=ND ch 58) (L:=λu=>JJ t ⟨(u&&fw)||bi,u||(Mt [44,63,91,93,123,125] ch||fi),lb,sc,ls,lk,ts,tb,bs,sb,pw,fw,ps,pb⟩ i (.s [ch]) y) rfl rfl (go (l':=JJ t ⟨bi,true,lb,sc,ls,lk,ts,tb,bs,sb,pw,fw,ps,pb⟩ i (.s [ch]) y) (II:=Iy e g) rfl (go (cj (u:=fw) (L:=λw=>JJ t ⟨w||bi,true,lb,sc,ls,lk,ts,tb,bs,sb,pw,fw,ps,pb⟩ i (.s [ch]) y) rfl rfl (go rfl rfl) rfl) rfl)) rfl) <|
  go (cj (u:=ND ch 35&&pw) (L:=λu=>JJ t ⟨u||((ND ch 58&&fw)||bi),u||(ND ch 58||(Mt [44,63,91,93,123,125] ch||fi)),lb,sc,ls,lk,ts,tb,bs,sb,pw,fw,ps,pb⟩ i (.s [ch]) y) (bB rfl rfl) rfl (go rfl (go rfl rfl)) rfl) rfl
theorem zq(d:Nat){t:Tx}{i ch:Nat}(s:AS)(y:V){P:Prop}(post:∀y',Es d (Lo (ak 3 anB)) (JJ t s i (.s [ch]) y) (Iy e g) (JJ t (QW e.o.wide ch s) i (.s [ch]) y') (Iy e g)->P):P:=by
 obtain⟨bi,fi,lb,sc,ls,lk,ts,tb,bs,sb,pw,fw,ps,pb⟩:=s
 have q1:Ep d Gj (JJ t ⟨bi,fi,lb,sc,ls,lk,ts,tb,bs,sb,pw,fw,ps,pb⟩ i (.s [ch]) y) (Iy e g) (.o (spN ch)):=DM (cu rfl (aY rfl rfl rfl rfl rfl))
 have q2:Ep d I32 (JJ t ⟨bi,fi,lb,sc,ls,lk,ts,tb,bs,sb,pw,fw,ps,pb⟩ i (.s [ch]) y) (Iy e g) (.o (spO ch)):=bB (cu rfl (cu (aY rfl rfl rfl rfl rfl) (cu (aY rfl rfl rfl rfl rfl) (aY rfl rfl rfl rfl rfl)))) rfl
 unfold QW at post
 cases h1:spN ch with
 | false=>rw[h1]at post q1;exact post y (ac q1 rfl rfl)
 | true=>
  rw[h1]at post q1
  cases h2:spO ch with
  | false=>rw[h2]at post q2;exact post y (ae q1 rfl (go (ac q2 rfl (go rfl rfl)) rfl))
  | true=>
   rw[h2]at post q2
   refine post .tt (ae q1 rfl (go (ae q2 rfl (go (l':=JJ t ⟨bi,fi,lb,sc,ls,lk,ts,tb,bs,sb,pw,fw,ps,pb⟩ i (.s [ch]) .tt) (II:=Iy e g) rfl (go (cj (u:=!e.o.wide.truth) (L:=λw=>JJ t ⟨bi,fi,lb,w||sc,ls,lk,ts,tb,bs,sb,pw,fw,ps,pb⟩ i (.s [ch]) .tt) (z9 (p:=e.o.wide) rfl) rfl (go rfl rfl) rfl) rfl))) rfl))
theorem zp(d:Nat){t:Tx}{i ch:Nat}(s:AS)(y:V):Es d (Lo (ak 4 anB)) (JJ t s i (.s [ch]) y) (Iy e g) (JJ t (an5 ((i:Int)==0) ((i:Int)==(t.length:Int) - 1) ch s) i (.s [ch]) y) (Iy e g):=by
 obtain⟨bi,fi,lb,sc,ls,lk,ts,tb,bs,sb,pw,fw,ps,pb⟩:=s
 have q1:Ep d (.b2 (.cmp .eq) Mo L0) (JJ t ⟨bi,fi,lb,sc,ls,lk,ts,tb,bs,sb,pw,fw,ps,pb⟩ i (.s [ch]) y) (Iy e g) (.o (ay ch)):=rfl
 have q2:Ep d (.b2 (.cmp .K2) Mo MR) (JJ t ⟨bi,fi,lb,sc,ls,lk,ts,tb,bs,sb,pw,fw,ps,pb⟩ i (.s [ch]) y) (Iy e g) (.o (af ch)):=rfl
 unfold an5
 generalize hz:((i:Int)==0)=z
 generalize hla:((i:Int)==(t.length:Int) - 1)=la
 have qz:∀{s:AS},Ep d zB (JJ t s i (.s [ch]) y) (Iy e g) (.o z):=hz▸rfl
 have ql:∀{s:AS},Ep d CW (JJ t s i (.s [ch]) y) (Iy e g) (.o la):=hla▸rfl
 cases h1:ay ch with
 | true=>
  rw[h1]at q1
  exact ae q1 rfl <| go (cj (u:=z) (L:=λu=>JJ t ⟨bi,fi,lb,sc,u||ls,lk,ts,tb,bs,sb,pw,fw,ps,pb⟩ i (.s [ch]) y) qz rfl (go rfl rfl) rfl) <| go (cj (u:=la) (L:=λu=>JJ t ⟨bi,fi,lb,sc,z||ls,lk,u||ts,tb,bs,sb,pw,fw,ps,pb⟩ i (.s [ch]) y) ql rfl (go rfl rfl) rfl) <|
   go (cj (u:=pb) (L:=λu=>JJ t ⟨bi,fi,lb,sc,z||ls,lk,la||ts,tb,u||bs,sb,pw,fw,ps,pb⟩ i (.s [ch]) y) rfl rfl (go rfl rfl) rfl) <| go (l':=JJ t ⟨bi,fi,lb,sc,z||ls,lk,la||ts,tb,pb||bs,sb,pw,fw,true,pb⟩ i (.s [ch]) y) (II:=Iy e g) rfl <| go rfl rfl
 | false=>
  rw[h1]at q1
  refine ac q1 rfl (go ?_ rfl)
  cases h2:af ch with
  | true=>
   rw[h2]at q2
   exact ae q2 rfl <| go (cj (u:=z) (L:=λu=>JJ t ⟨bi,fi,lb,sc,ls,u||lk,ts,tb,bs,sb,pw,fw,ps,pb⟩ i (.s [ch]) y) qz rfl (go rfl rfl) rfl) <| go (cj (u:=la) (L:=λu=>JJ t ⟨bi,fi,lb,sc,ls,z||lk,ts,u||tb,bs,sb,pw,fw,ps,pb⟩ i (.s [ch]) y) ql rfl (go rfl rfl) rfl) <|
    go (cj (u:=ps) (L:=λu=>JJ t ⟨bi,fi,lb,sc,ls,z||lk,ts,la||tb,bs,u||sb,pw,fw,ps,pb⟩ i (.s [ch]) y) rfl rfl (go rfl rfl) rfl) <| go (l':=JJ t ⟨bi,fi,lb,sc,ls,z||lk,ts,la||tb,bs,ps||sb,pw,fw,false,pb⟩ i (.s [ch]) y) (II:=Iy e g) rfl <| go rfl rfl
  | false=>
   rw[h2]at q2
   exact ac q2 rfl <| go (l':=JJ t ⟨bi,fi,lb,sc,ls,lk,ts,tb,bs,sb,pw,fw,false,pb⟩ i (.s [ch]) y) (II:=Iy e g) rfl <| go rfl rfl
theorem cR(d:Nat):(IH d).Jx=Jx:=by cases d <;> rfl
theorem uH(d:Nat){t:Tx}{j:Nat}{l:List V}{b:Bool}{k:E}(h1:l[1]?=some (.s t))(hk:Ep d k l (Iy e g) (.i ((j+1:Nat):Int))){q:E}(hq:Ep d q l (Iy e g) (.o b))(hb:b=false->j+1 < t.length):Ep d (.or q (.b2 (.cmp .K2) (.b2 .idx I2 k) I75)) l (Iy e g) (.o (b||(t[j+1]?).any ue)):=by
 cases b with
 | true=>exact Iz hq (Iz (a:=true) rfl rfl)
 | false=>
  obtain⟨u,hu⟩:∃u,t[j+1]?=some u:=⟨_,kx (hb rfl)⟩
  rw[hu]
  exact Iz hq (Iz (a:=false) rfl (Iz (a:=(.s [u],Iy e g)) (Iz (aL h1 rfl) (Iz hk (eP (i5 hu)))) rfl))
theorem zo(d:Nat){t:Tx}{i:Nat}(s:AS)(hi:i < t.length)(x y:V){P:Prop}(post:∀x' y',Es d anB (JJ t s i x y) (Iy e g) (JJ t (QV t e.o.wide i s) (i+1) x' y') (Iy e g)->P):P:=by
 obtain⟨c,hc⟩:∃c,t[i]?=some c:=⟨_,kx hi⟩
 have e1:QV t e.o.wide i s=anC t e.o.wide i c s:=by unfold QV;rw[hc]
 rw[e1]at post
 unfold anC at post
 have s1:Es d (Lo (ak 1 anB)) (JJ t s i (.s [c]) y) (Iy e g) (JJ t (Qm ((i:Int)==0) c s) i (.s [c]) y) (Iy e g):=
  cj (u:=(i:Int)==0) (L:=λu=>JJ t (Qm u c s) i (.s [c]) y) rfl rfl (zt d s y) (zr d s y)
 generalize Qm ((i:Int)==0) c s=s1' at s1 post
 have s2:Es d (Lo (ak 2 anB)) (JJ t s1' i (.s [c]) y) (Iy e g) (JJ t (an3 c s1') i (.s [c]) y) (Iy e g):=by
  obtain⟨bi,fi,lb,sc,ls,lk,ts,tb,bs,sb,pw,fw,ps,pb⟩:=s1'
  exact cj (u:=af c) (L:=λu=>JJ t ⟨bi,fi,u||lb,sc,ls,lk,ts,tb,bs,sb,pw,fw,ps,pb⟩ i (.s [c]) y) rfl rfl (go rfl rfl) rfl
 generalize an3 c s1'=s2' at s2 post
 refine zq (e:=e) (g:=g) d (t:=t) (i:=i) (ch:=c) s2' y λy' s3=>?_
 generalize QW e.o.wide c s2'=s3' at s3 post
 have s4:=zp (e:=e) (g:=g) d (t:=t) (i:=i) (ch:=c) s3' y'
 generalize an5 ((i:Int)==0) ((i:Int)==(t.length:Int) - 1) c s3'=s4' at s4 post
 obtain⟨bi,fi,lb,sc,ls,lk,ts,tb,bs,sb,pw,fw,ps,pb⟩:=s4'
 refine post (.s [c]) y' (go (l':=JJ t s i (.s [c]) y) (II:=Iy e g) (bg (v:=.s [c]) (Iz (a:=(.s t,Iy e g)) rfl (Iz (a:=(.i i,Iy e g)) rfl (eP (i5 hc))))) (go s1 (go s2 (go s3 (go s4 ?_)))))
 refine go (l':=JJ t ⟨bi,fi,lb,sc,ls,lk,ts,tb,bs,sb,pw,fw,ps,pb⟩ (i+1) (.s [c]) y') (II:=Iy e g) rfl (go (l':=JJ t ⟨bi,fi,lb,sc,ls,lk,ts,tb,bs,sb,ue c,fw,ps,pb⟩ (i+1) (.s [c]) y') (II:=Iy e g) rfl (go (bg (uH (e:=e) (g:=g) d (j:=i+1) (b:=decide ((t.length:Int)<=((i+1+1:Nat):Int))) rfl rfl rfl λh=>?_)) rfl))
 have:=of_decide_eq_false h
 omega
noncomputable def fw0(t:Tx):Bool:=((t.length:Int)==1)||(t[0+1]?).any ue
noncomputable def gh(t:Tx):Bool:=[45,45,45].isPrefixOf t||[46,46,46].isPrefixOf t
noncomputable def zu(t:Tx):AS:=⟨gh t||false,gh t||false,false,false,false,false,false,false,false,false,true,fw0 t,false,false⟩
noncomputable def Pf(t:Tx)(wide:B):Nat->AS:=KG (QV t wide) (zu t)
noncomputable def MZ(t:Tx)(wide:B):AS:=Pf t wide t.length
noncomputable def AS.edge(s:AS):Bool:=s.ls||(s.lk||(s.ts||s.tb))
noncomputable def AS.fp(s:AS):Bool:=!s.fi&&(!s.lb&&(!(s.sb||s.sc)&&(!s.bs&&(!s.edge&&true))))
noncomputable def AS.bp(s:AS):Bool:=!s.bi&&(!s.lb&&(!(s.sb||s.sc)&&(!s.bs&&(!s.edge&&true))))
noncomputable def AS.sq(s:AS):Bool:=!(s.sb||s.sc)&&(!s.bs&&true)
noncomputable def AS.bk(s:AS):Bool:=!(s.sb||s.sc)&&(!s.ts&&true)
noncomputable def anV(t:Tx)(em lb fp bp sq bk:Bool):V:=.rc 14 [(100,.str t),(101,.bool em),(102,.bool lb),(103,.bool fp),(104,.bool bp),(106,.bool sq),(110,.bool true),(105,.bool bk)]
noncomputable def Jp(t:Tx)(wide:B):V:=bif t.isEmpty then anV [] true false false true true false else anV t false (MZ t wide).lb (MZ t wide).fp (MZ t wide).bp (MZ t wide).sq (MZ t wide).bk
noncomputable def PM(t:Tx)(s:AS)(i:Nat)(a b c f h:Bool)(x y:V):List V:=[.ref 2,.s t,.o s.bi,.o s.fi,.o s.lb,.o s.sc,.o s.ls,.o s.lk,.o s.ts,.o s.tb,.o s.bs,.o s.sb,.o s.pw,.o s.fw,.o s.ps,.o s.pb,.i i,.o a,.o b,.o c,.o f,.o h,x,y]
theorem oK(d:Nat){l:List V}{st:St}{a1 a2 a3 a4 a5 a6 a7 a8:E}{b1 b2 b3 b4 b5 b6 b7 b8:B}(h1:Ep d a1 l st (.b b1))(h2:Ep d a2 l st (.b b2))(h3:Ep d a3 l st (.b b3))(h4:Ep d a4 l st (.b b4))(h5:Ep d a5 l st (.b b5))(h6:Ep d a6 l st (.b b6))(h7:Ep d a7 l st (.b b7))(h8:Ep d a8 l st (.b b8)):Ep d (.new 14 (.kw 1 a1 (.kw 2 a2 (.kw 3 a3 (.kw 4 a4 (.kw 5 a5 (.kw 6 a6 (.kw 7 a7 (.kw 8 a8 .nil))))))))) l st (.rc 14 [(100,b1),(101,b2),(102,b3),(103,b4),(104,b5),(106,b6),(110,b7),(105,b8)]):=
 Iz (a:=(([],[(1,.b b1),(2,.b b2),(3,.b b3),(4,.b b4),(5,.b b5),(6,.b b6),(7,.b b7),(8,.b b8)]),st)) (Iz h1 (Iz (a:=(([],[(2,.b b2),(3,.b b3),(4,.b b4),(5,.b b5),(6,.b b6),(7,.b b7),(8,.b b8)]),st)) (Iz h2 (Iz (a:=(([],[(3,.b b3),(4,.b b4),(5,.b b5),(6,.b b6),(7,.b b7),(8,.b b8)]),st)) (Iz h3 (Iz (a:=(([],[(4,.b b4),(5,.b b5),(6,.b b6),(7,.b b7),(8,.b b8)]),st)) (Iz h4 (Iz (a:=(([],[(5,.b b5),(6,.b b6),(7,.b b7),(8,.b b8)]),st)) (Iz h5 (Iz (a:=(([],[(6,.b b6),(7,.b b7),(8,.b b8)]),st)) (Iz h6 (Iz (a:=(([],[(7,.b b7),(8,.b b8)]),st)) (Iz h7 (Iz (a:=(([],[(8,.b b8)]),st)) (Iz h8 (Iz (a:=(([],[]),st)) ((rfl:Kq (IH d) .nil l st=some (([],[]),st))) rfl)) rfl)) rfl)) rfl)) rfl)) rfl)) rfl)) rfl)) (Iz (a:=(⟨"__init__",["self", "scalar", "empty", "multiline", "allow_flow_plain", "allow_block_plain", "allow_single_quoted", "allow_double_quoted", "allow_block"],9,[],2,.nil,false⟩,[100,101,102,103,104,106,110,105])) (by rw[cR];rfl) (Iz (a:=[.uu,.b b1,.b b2,.b b3,.b b4,.b b5,.b b6,.b b7,.b b8]) rfl (kh (Option.map _) (rfl:Fu [.b b1,.b b2,.b b3,.b b4,.b b5,.b b6,.b b7,.b b8]=some [b1,b2,b3,b4,b5,b6,b7,b8]))))
theorem CL(d:Nat){t:Tx}{i:Nat}(s:AS)(x y:V):∃l',Ja (IH d) (ak 18 CG) (JJ t s i x y) (Iy e g)=some (.ret (anV t false s.lb s.fp s.bp s.sq s.bk),l',Iy e g):=by
 obtain⟨bi,fi,lb,sc,ls,lk,ts,tb,bs,sb,pw,fw,ps,pb⟩:=s
 refine⟨PM t ⟨bi,fi,lb,sc,ls,lk,ts,tb,bs,sb,pw,fw,ps,pb⟩ i (!fi&&(!lb&&(!(sb||sc)&&(!bs&&(!(ls||(lk||(ts||tb)))&&true))))) (!bi&&(!lb&&(!(sb||sc)&&(!bs&&(!(ls||(lk||(ts||tb)))&&true))))) (!(sb||sc)&&(!bs&&true)) true (!(sb||sc)&&(!ts&&true)) x y,?_⟩
 refine go (l':=(JJ t ⟨bi,fi,lb,sc,ls,lk,ts,tb,bs,sb,pw,fw,ps,pb⟩ i x y).set 17 .tt) (II:=Iy e g) rfl <| go (l':=((JJ t ⟨bi,fi,lb,sc,ls,lk,ts,tb,bs,sb,pw,fw,ps,pb⟩ i x y).set 17 .tt).set 18 .tt) (II:=Iy e g) rfl <| go (l':=(((JJ t ⟨bi,fi,lb,sc,ls,lk,ts,tb,bs,sb,pw,fw,ps,pb⟩ i x y).set 17 .tt).set 18 .tt).set 19 .tt) (II:=Iy e g) rfl <|
  go (l':=((((JJ t ⟨bi,fi,lb,sc,ls,lk,ts,tb,bs,sb,pw,fw,ps,pb⟩ i x y).set 17 .tt).set 18 .tt).set 19 .tt).set 20 .tt) (II:=Iy e g) rfl <| go (l':=PM t ⟨bi,fi,lb,sc,ls,lk,ts,tb,bs,sb,pw,fw,ps,pb⟩ i true true true true true x y) (II:=Iy e g) rfl <| ?_
 exact go (cj (u:=ls||(lk||(ts||tb))) (L:=λu=>PM t ⟨bi,fi,lb,sc,ls,lk,ts,tb,bs,sb,pw,fw,ps,pb⟩ i (!u&&true) (!u&&true) true true true x y) (cu rfl (cu rfl (cu rfl rfl))) rfl (go rfl rfl) rfl) <|
  go (cj (u:=ts) (L:=λu=>PM t ⟨bi,fi,lb,sc,ls,lk,ts,tb,bs,sb,pw,fw,ps,pb⟩ i (!(ls||(lk||(ts||tb)))&&true) (!(ls||(lk||(ts||tb)))&&true) true true (!u&&true) x y) rfl rfl (go rfl rfl) rfl) <|
  go (cj (u:=bs) (L:=λu=>PM t ⟨bi,fi,lb,sc,ls,lk,ts,tb,bs,sb,pw,fw,ps,pb⟩ i (!u&&(!(ls||(lk||(ts||tb)))&&true)) (!u&&(!(ls||(lk||(ts||tb)))&&true)) (!u&&true) true (!ts&&true) x y) rfl rfl (go rfl rfl) rfl) <|
  go (cj (u:=sb||sc) (L:=λu=>PM t ⟨bi,fi,lb,sc,ls,lk,ts,tb,bs,sb,pw,fw,ps,pb⟩ i (!u&&(!bs&&(!(ls||(lk||(ts||tb)))&&true))) (!u&&(!bs&&(!(ls||(lk||(ts||tb)))&&true))) (!u&&(!bs&&true)) true (!u&&(!ts&&true)) x y) (cu rfl rfl) rfl (go rfl rfl) rfl) <|
  go (cj (u:=lb) (L:=λu=>PM t ⟨bi,fi,lb,sc,ls,lk,ts,tb,bs,sb,pw,fw,ps,pb⟩ i (!u&&(!(sb||sc)&&(!bs&&(!(ls||(lk||(ts||tb)))&&true)))) (!u&&(!(sb||sc)&&(!bs&&(!(ls||(lk||(ts||tb)))&&true)))) (!(sb||sc)&&(!bs&&true)) true (!(sb||sc)&&(!ts&&true)) x y) rfl rfl (go rfl rfl) rfl) <|
  go (cj (u:=fi) (L:=λu=>PM t ⟨bi,fi,lb,sc,ls,lk,ts,tb,bs,sb,pw,fw,ps,pb⟩ i (!u&&(!lb&&(!(sb||sc)&&(!bs&&(!(ls||(lk||(ts||tb)))&&true))))) (!lb&&(!(sb||sc)&&(!bs&&(!(ls||(lk||(ts||tb)))&&true)))) (!(sb||sc)&&(!bs&&true)) true (!(sb||sc)&&(!ts&&true)) x y) rfl rfl (go rfl rfl) rfl) <|
  go (cj (u:=bi) (L:=λu=>PM t ⟨bi,fi,lb,sc,ls,lk,ts,tb,bs,sb,pw,fw,ps,pb⟩ i (!fi&&(!lb&&(!(sb||sc)&&(!bs&&(!(ls||(lk||(ts||tb)))&&true))))) (!u&&(!lb&&(!(sb||sc)&&(!bs&&(!(ls||(lk||(ts||tb)))&&true))))) (!(sb||sc)&&(!bs&&true)) true (!(sb||sc)&&(!ts&&true)) x y) rfl rfl (go rfl rfl) rfl) <|
  J0 (kh (Option.map _) (oK d rfl rfl rfl rfl rfl rfl rfl rfl))
theorem CK(d:Nat){t:Tx}(ht:t.length < 390):(IH (d+1)).IG 42 [.ref 2,.s t] (Iy e g)=some (Jp t e.o.wide,Iy e g):=by
 cases t with
 | nil=>exact ap (f:=uW) (l:=[.ref 2,.s [],.uu,.uu,.uu,.uu,.uu,.uu,.uu,.uu,.uu,.uu,.uu,.uu,.uu,.uu,.uu,.uu,.uu,.uu,.uu,.uu,.uu,.uu]) rfl (J0 (ae (v:=.tt) rfl rfl (J0 (kh (Option.map _) (oK d rfl rfl rfl rfl rfl rfl rfl rfl))))) rfl
 | cons c0 r0=>
 have hem:(c0::r0).isEmpty=false:=rfl
 have Kg:Ep d fS [.ref 2,.s (c0::r0),.uu,.uu,.uu,.uu,.uu,.uu,.uu,.uu,.uu,.uu,.uu,.uu,.uu,.uu,.uu,.uu,.uu,.uu,.uu,.uu,.uu,.uu] (Iy e g) .ff:=rfl
 have hlen:(c0::r0).length=r0.length+1:=rfl
 have hsz:((c0::r0).length:Int)≠1->0+1 < (c0::r0).length:=λh=>by rw[hlen]at h ⊢;omega
 unfold Jp
 rw[hem]
 generalize c0::r0=t at*
 have e0:Pf t e.o.wide 0=zu t:=rfl
 have eS:∀i,Pf t e.o.wide (i+1)=QV t e.o.wide i (Pf t e.o.wide i):=λJ=>rfl
 have eE:MZ t e.o.wide=Pf t e.o.wide (r0.length+1):=by unfold MZ;rw[hlen]
 rw[eE]
 generalize Pf t e.o.wide=F at e0 eS
 have q0:∀{l:List V},l[1]?=some (.s t)->Ep d I68 l (Iy e g) (.o (gh t)):=λh=>cu (Iz (aL h rfl) rfl) (Iz (aL h rfl) rfl)
 have s0:∀{R:JC}{r:S},Ja (IH d) r (JJ t (zu t) 0 .uu .uu) (Iy e g)=R->Ja (IH d) (.cons FH (.cons (.asg [12] I1) (.cons Gf (.cons (.asg [14] I3) (.cons (.asg [15] I3) (.cons (.asg [16] I8) r)))))) [.ref 2,.s t,.ff,.ff,.ff,.ff,.ff,.ff,.ff,.ff,.ff,.ff,.uu,.uu,.uu,.uu,.uu,.uu,.uu,.uu,.uu,.uu,.uu,.uu] (Iy e g)=R:=λ{R r} hr=>
  go (cj (u:=gh t) (L:=λu=>[.ref 2,.s t,.o (u||false),.o (u||false),.ff,.ff,.ff,.ff,.ff,.ff,.ff,.ff,.uu,.uu,.uu,.uu,.uu,.uu,.uu,.uu,.uu,.uu,.uu,.uu]) (q0 rfl) rfl (go rfl (go rfl rfl)) rfl) <|
  go (l':=[.ref 2,.s t,.o (gh t||false),.o (gh t||false),.ff,.ff,.ff,.ff,.ff,.ff,.ff,.ff,.tt,.uu,.uu,.uu,.uu,.uu,.uu,.uu,.uu,.uu,.uu,.uu]) (II:=Iy e g) rfl <|
  go (l':=[.ref 2,.s t,.o (gh t||false),.o (gh t||false),.ff,.ff,.ff,.ff,.ff,.ff,.ff,.ff,.tt,.o (fw0 t),.uu,.uu,.uu,.uu,.uu,.uu,.uu,.uu,.uu,.uu]) (II:=Iy e g) (bg (uH (e:=e) (g:=g) d (j:=0) (b:=(t.length:Int)==1) rfl rfl rfl λh=>hsz (beq_eq_false_iff_ne.mp h))) <|
  go (l':=[.ref 2,.s t,.o (gh t||false),.o (gh t||false),.ff,.ff,.ff,.ff,.ff,.ff,.ff,.ff,.tt,.o (fw0 t),.ff,.uu,.uu,.uu,.uu,.uu,.uu,.uu,.uu,.uu]) (II:=Iy e g) rfl <|
  go (l':=[.ref 2,.s t,.o (gh t||false),.o (gh t||false),.ff,.ff,.ff,.ff,.ff,.ff,.ff,.ff,.tt,.o (fw0 t),.ff,.ff,.uu,.uu,.uu,.uu,.uu,.uu,.uu,.uu]) (II:=Iy e g) rfl <|
  go (l':=JJ t (zu t) 0 .uu .uu) (II:=Iy e g) rfl hr
 refine cy (c:=IH d) (t:=.b2 (.cmp .lt) Og KY) (b:=anB) (n:=r0.length) (I:=λi l st=>∃x y,l=JJ t (F i) i x y/\st=Iy e g)
  (λi hi l st=>?_) (λl st=>?_) (by rw[ew];omega) ⟨.uu,.uu,rfl,rfl⟩ λl' II hr hx=>?_
 ·rintro ⟨x,y,rfl,rfl⟩
  refine⟨(show Ep d (.b2 (.cmp .lt) Og KY) (JJ t (F i) i x y) (Iy e g) (.o (decide ((i:Int) < t.length))) from rfl).trans (by rw[decide_eq_true (by omega)]),λ{P} post=>?_⟩
  exact zo (e:=e) (g:=g) d (F i) (by omega) x y λx' y' hs=>post _ _ hs ⟨x',y',by rw[eS],rfl⟩
 ·rintro ⟨x,y,rfl,rfl⟩
  exact(show Ep d (.b2 (.cmp .lt) Og KY) (JJ t (F (r0.length+1)) (r0.length+1) x y) (Iy e g) (.o (decide (((r0.length+1:Nat):Int) < t.length))) from rfl).trans (by rw[decide_eq_false (by omega)])
 ·obtain⟨x,y,rfl,rfl⟩:=hx
  obtain⟨lz,hz⟩:=CL (e:=e) (g:=g) d (t:=t) (i:=r0.length+1) (F (r0.length+1)) x y
  rw[e0]at hr
  exact ap (f:=uW) (l:=lz) rfl (go (ac Kg rfl rfl) (go (l':=[.ref 2,.s t,.ff,.uu,.uu,.uu,.uu,.uu,.uu,.uu,.uu,.uu,.uu,.uu,.uu,.uu,.uu,.uu,.uu,.uu,.uu,.uu,.uu,.uu]) (II:=Iy e g) rfl <|
   go (l':=[.ref 2,.s t,.ff,.ff,.uu,.uu,.uu,.uu,.uu,.uu,.uu,.uu,.uu,.uu,.uu,.uu,.uu,.uu,.uu,.uu,.uu,.uu,.uu,.uu]) (II:=Iy e g) rfl <|
   go (l':=[.ref 2,.s t,.ff,.ff,.ff,.uu,.uu,.uu,.uu,.uu,.uu,.uu,.uu,.uu,.uu,.uu,.uu,.uu,.uu,.uu,.uu,.uu,.uu,.uu]) (II:=Iy e g) rfl <|
   go (l':=[.ref 2,.s t,.ff,.ff,.ff,.ff,.uu,.uu,.uu,.uu,.uu,.uu,.uu,.uu,.uu,.uu,.uu,.uu,.uu,.uu,.uu,.uu,.uu,.uu]) (II:=Iy e g) rfl <|
   go (l':=[.ref 2,.s t,.ff,.ff,.ff,.ff,.ff,.uu,.uu,.uu,.uu,.uu,.uu,.uu,.uu,.uu,.uu,.uu,.uu,.uu,.uu,.uu,.uu,.uu]) (II:=Iy e g) rfl <|
   go (l':=[.ref 2,.s t,.ff,.ff,.ff,.ff,.ff,.ff,.uu,.uu,.uu,.uu,.uu,.uu,.uu,.uu,.uu,.uu,.uu,.uu,.uu,.uu,.uu,.uu]) (II:=Iy e g) rfl <|
   go (l':=[.ref 2,.s t,.ff,.ff,.ff,.ff,.ff,.ff,.ff,.uu,.uu,.uu,.uu,.uu,.uu,.uu,.uu,.uu,.uu,.uu,.uu,.uu,.uu,.uu]) (II:=Iy e g) rfl <|
   go (l':=[.ref 2,.s t,.ff,.ff,.ff,.ff,.ff,.ff,.ff,.ff,.uu,.uu,.uu,.uu,.uu,.uu,.uu,.uu,.uu,.uu,.uu,.uu,.uu,.uu]) (II:=Iy e g) rfl <|
   go (l':=[.ref 2,.s t,.ff,.ff,.ff,.ff,.ff,.ff,.ff,.ff,.ff,.uu,.uu,.uu,.uu,.uu,.uu,.uu,.uu,.uu,.uu,.uu,.uu,.uu]) (II:=Iy e g) rfl <|
   go (l':=[.ref 2,.s t,.ff,.ff,.ff,.ff,.ff,.ff,.ff,.ff,.ff,.ff,.uu,.uu,.uu,.uu,.uu,.uu,.uu,.uu,.uu,.uu,.uu,.uu]) (II:=Iy e g) rfl <|
   s0 (go hr hz))) rfl
end
noncomputable def Tr(c:Cx)(t:E)(l:List V)(st:St)(b:Bool):Prop:=∃v,IK c t l st=some (v,st)/\truth st v=some b/\ab v=false
section
variable{c:Cx}{t a:E}{l:List V}{st:St}{u w:Bool}{x:B}
theorem Tr.of(h:IK c t l st=some (.b x,st)):Tr c t l st x.truth:=⟨_,h,rfl,rfl⟩
theorem Tr.bl(h:IK c t l st=some (.o u,st)):Tr c t l st u:=⟨_,h,rfl,rfl⟩
theorem Tr.or(h:Tr c t l st u)(h':Tr c a l st w):Tr c (.or t a) l st (u||w):=by
 obtain⟨v,h1,h2⟩:=h
 cases u with
 | true=>exact⟨v,Iz h1 (Iz h2.1 rfl),h2⟩
 | false=>obtain⟨v',h3,h4⟩:=h';exact⟨v',Iz h1 (Iz h2.1 h3),h4⟩
theorem Tr.and(h:Tr c t l st u)(h':u=true->Tr c a l st w):Tr c (.and t a) l st (u&&w):=by
 obtain⟨v,h1,h2⟩:=h
 cases u with
 | false=>exact⟨v,Iz h1 (Iz h2.1 rfl),h2⟩
 | true=>obtain⟨v',h3,h4⟩:=h' rfl;exact⟨v',Iz h1 (Iz h2.1 h3),h4⟩
theorem Tr.not(h:Tr c t l st u):IK c (.u1 .not t) l st=some (.o (!u),st):=by
 obtain⟨v,h1,h2⟩:=h
 exact Iz h1 (kh (Option.map _) h2.1)
theorem Tr.yes{p q:S}{R:JC}(h:Tr c t l st true)(k:Ja c p l st=R):Ja c (.IF t p q) l st=R:=by
 obtain⟨v,h1,h2⟩:=h
 exact ae h1 h2.1 k
theorem Tr.no{p q:S}{R:JC}(h:Tr c t l st false)(k:Ja c q l st=R):Ja c (.IF t p q) l st=R:=by
 obtain⟨v,h1,h2⟩:=h
 exact ac h1 h2.1 k
end
theorem zN(d:Nat):(IH d).sup=gF:=by cases d <;> rfl
noncomputable def Ji(cs:List Nat)(k:Nat):Bool:=cs.any λj=>(gF[k]?).any λl=>l.contains j
noncomputable def LV(IB tag:B)(i0 i1:Bool)(val:Tx)(IV:B):V:=.rc 9 [(96,IB),(97,tag),(98,.bb i0 i1),(99,.str val),(108,.nul),(109,.nul),(91,IV)]
noncomputable def Lp(c:Nat)(IB tag:B)(imp:Bool)(fl:B):V:=.rc c [(96,IB),(97,tag),(98,.bool imp),(108,.nul),(109,.nul),(95,fl)]
noncomputable def PN(IB:B):V:=.rc 8 [(96,IB),(108,.nul),(109,.nul)]
noncomputable def JB(c:Nat):V:=.rc c [(108,.nul),(109,.nul)]
section
variable{e:Em}{g:List Ob}{l:List V}{k:Nat}{f:List (Nat×B)}
theorem u8{c:Cx}(h0:l[0]?=some (.ref 2))(h:e.k.event=.rc k f):IK c I5 l (Iy e g)=some (.rc k f,Iy e g):=
 Iz (au h0) (j8 (j:=(2,0,L6 e)) rfl (kh some h))
theorem nN{c:Cx}{n:Nat}{x:B}{st:St}(hx:f.lookup n=some x):f1 c (.Jn n) (.rc k f) st=some (.b x,st):=by
 have h:ia n (.rc k f) st=some (.b x):=by
  unfold ia
  show Option.or (Option.map V.b (f.lookup n)) _=_
  rw[hx];rfl
 exact kh (Option.map λx=>(x,st)) h
theorem ao(d:Nat){y:Bool}{cs:List Nat}(h0:l[0]?=some (.ref 2))(h:e.k.event=.rc k f):Ep d (.u1 (.Kp y cs) I5) l (Iy e g) (.o (Ji cs k)):=
 Iz (u8 h0 h) (by show some (V.b (.bool (cs.any λj=>((IH d).sup[k]?).any λl=>l.contains j)),Iy e g)=_;rw[zN];rfl)
theorem Jh{c:Cx}{n:Nat}{x:B}(h0:l[0]?=some (.ref 2))(h:e.k.event=.rc k f)(hx:f.lookup n=some x):IK c (.u1 (.Jn n) I5) l (Iy e g)=some (.b x,Iy e g):=
 Iz (u8 h0 h) (nN hx)
noncomputable def ax(c:Nat)(l:List V):Bool:=match l with | .rc k _::_=>Ji [c] k | _=>false
noncomputable def LZ(l:List V):Prop:=∀v∈l,∃k f,v=.rc k f
noncomputable def Cj(a b:Nat):E:=.and (.u1 (.Kp false [a]) I5) (.and L8 (.u1 (.Kp false [b]) mF))
theorem ig(d a b:Nat)(h:e.k.event=.rc k f)(hr:LZ e.k.events):Tr (IH d) (Cj a b) [.ref 2] (Iy e g) (Ji [a] k&&ax b e.k.events):=by
 refine(Tr.bl (ao (e:=e) (g:=g) (l:=[.ref 2]) d (y:=false) (cs:=[a]) rfl h)).and λJ=>?_
 have h1:Ep d L8 [.ref 2] (Iy e g) (.ref 4):=rfl
 have h2:truth (Iy e g) (.ref 4)=some (!e.k.events.isEmpty):=dW (p:=(4,e.k.events)) rfl
 have t1:Tr (IH d) L8 [.ref 2] (Iy e g) (!e.k.events.isEmpty):=⟨_,h1,h2,rfl⟩
 cases he:e.k.events with
 | nil=>
  rw[he]at t1
  exact t1.and (w:=false) λh=>nomatch h
 | cons v r=>
  obtain⟨k',f',rfl⟩:=hr v (he▸.head _)
  rw[he]at t1
  have h3:Ep d mF [.ref 2] (Iy e g) (.rc k' f'):=
   Iz h1 (Iz (a:=(.i 0,Iy e g)) rfl (jR (j:=(4,e.k.events)) rfl (Int.le_refl 0) (by rw[he];rfl)))
  have h4:Ep d (.u1 (.Kp false [b]) mF) [.ref 2] (Iy e g) (.o (Ji [b] k')):=
   Iz h3 (by show some (V.b (.bool ([b].any λj=>((IH d).sup[k']?).any λl=>l.contains j)),Iy e g)=_;rw[zN];rfl)
  exact t1.and λJ=>Tr.bl h4
theorem pv(d:Nat)(h0:l[0]?=some (.ref 2))(h:e.k.event=.rc k f)(hr:LZ e.k.events):Tr (IH (d+1)) (.call 29 I0 .nil) l (Iy e g) (Ji [10] k&&ax 11 e.k.events):=by
 obtain⟨v,h1,h2,h3⟩:=ig (e:=e) (g:=g) d 10 11 h hr
 exact⟨v,aj yB (vs:=[]) (kw:=[]) (ws:=[.ref 2]) h0 rfl rfl rfl rfl rfl (ap (f:=yB) (l:=[.ref 2]) rfl (J0 (kh (Option.map _) h1)) h3),h2,h3⟩
theorem pt(d:Nat)(h0:l[0]?=some (.ref 2))(h:e.k.event=.rc k f)(hr:LZ e.k.events):Tr (IH (d+1)) (.call 30 I0 .nil) l (Iy e g) (Ji [12] k&&ax 13 e.k.events):=by
 obtain⟨v,h1,h2,h3⟩:=ig (e:=e) (g:=g) d 12 13 h hr
 exact⟨v,aj yA (vs:=[]) (kw:=[]) (ws:=[.ref 2]) h0 rfl rfl rfl rfl rfl (ap (f:=yA) (l:=[.ref 2]) rfl (J0 (kh (Option.map _) h1)) h3),h2,h3⟩
noncomputable def cD(x:B)(bi:Int)(flow less:Bool):B:=match x with | .int i=>bif less then .int i else .int (i+bi) | _=>bif flow then .int bi else .int 0
noncomputable def Ct.ind(c:Ct)(x:B):Ct:=⟨x,c.lvl,c.root,c.sq,c.mp,c.sk⟩
noncomputable def Sk.MF(k:Sk)(x:V):Sk:=⟨k.state,k.event,k.IC,k.events,k.ID++[x]⟩
theorem eO(d:Nat)(fl le:Bool)(hi:IM e.c.indent)(hl:e.k.ID.length < IU):(IH (d+1)).IG 3 [.ref 2,.o fl,.o le] (Iy e g)=some (.b .nul,Iy ((e.C (e.c.ind (cD e.c.indent e.o.bi fl le))).K (e.k.MF (.b e.c.indent))) g):=by
 have s0:Es d (Lo b_3) [.ref 2,.o fl,.o le] (Iy e g) [.ref 2,.o fl,.o le] (Iy (e.K (e.k.MF (.b e.c.indent))) g):=fc (k:=5) (xs:=e.k.ID) (ys:=e.k.ID) (v:=.b e.c.indent) (s1:=Iy e g) rfl rfl rfl rfl hl rfl
 have q:Ep d (.u1 (.isNone true) rK) [.ref 2,.o fl,.o le] (Iy (e.K (e.k.MF (.b e.c.indent))) g) (.o (bif aU (.b e.c.indent) then true else !true)):=rfl
 generalize hk:e.k.MF (.b e.c.indent)=K at s0 q ⊢
 rcases hi with h | ⟨i,h,_⟩
 ·rw[h]at q ⊢
  cases fl with
  | true=>exact aa (f:=ON) (l:=[.ref 2,.tt,.o le]) rfl (go s0 (go (ae q rfl (go (ae (v:=.tt) rfl rfl (go rfl rfl)) rfl)) rfl))
  | false=>exact aa (f:=ON) (l:=[.ref 2,.ff,.o le]) rfl (go s0 (go (ae q rfl (go (ac (v:=.ff) rfl rfl (go rfl rfl)) rfl)) rfl))
 ·rw[h]at q ⊢
  cases le with
  | true=>
   have e2:e.c.ind (.int i)=e.c:=by unfold Ct.ind;rw[<- h]
   have e1:Iy ((e.C (e.c.ind (cD (.int i) e.o.bi fl true))).K K) g=Iy (e.K K) g:=by show Iy ((e.C (e.c.ind (.int i))).K K) g=_;rw[e2];rfl
   rw[e1]
   exact aa (f:=ON) (l:=[.ref 2,.o fl,.tt]) rfl (go s0 (go (ac q rfl (go (ac (v:=.ff) rfl rfl rfl) rfl)) rfl))
  | false=>
   have s3:Es d (.Ke 71 .add I0 mI) [.ref 2,.o fl,.ff] (Iy (e.K K) g) [.ref 2,.o fl,.ff] (Iy ((e.C (e.c.ind (.int (i+e.o.bi)))).K K) g):=
    Iz (a:=(.ref 2,Iy (e.K K) g)) rfl (Iz (a:=.b e.c.indent) rfl (Iz (a:=(.i e.o.bi,Iy (e.K K) g)) rfl (by rw[h];rfl)))
   exact aa (f:=ON) (l:=[.ref 2,.o fl,.ff]) rfl (go s0 (go (ac q rfl (go (ae (v:=.tt) rfl rfl (go s3 rfl)) rfl)) rfl))
end
noncomputable def gU(c:Nat):Bool:=inR 48 57 c||(inR 65 90 c||(inR 97 122 c||decide (c∈[45,95])))
noncomputable def fe(a:Tx):Prop:=a≠[]/\∀c∈a,gU c=true
noncomputable def v3:S:=match ak 1 Ft with | .cons (.for _ _ b) _=>b | _=>.nil
section
variable{e:Em}{g:List Ob}
theorem vZ(d:Nat){a:Tx}{c:Nat}(h:gU c=true){st:St}:Es d v3 [.ref 2,.s a,.s [c]] st [.ref 2,.s a,.s [c]] st:=by
 have q:Ep d I45 [.ref 2,.s a,.s [c]] st (.o (!gU c)):=DM (cu (aY rfl rfl rfl rfl rfl) (cu (aY rfl rfl rfl rfl rfl) (cu (aY rfl rfl rfl rfl rfl) rfl)))
 rw[h]at q
 exact go (ac q rfl rfl) rfl
theorem vY(d:Nat)(a:Tx){st:St}:∀(r:Tx)(i fuel:Nat)(x:V),a.drop i=r->(∀c∈r,gU c=true)->r.length < fuel->∃y,cQ 2 (itemAt (.s a)) (Ja (IH d) v3) fuel i [.ref 2,.s a,x] st=some (.next,[.ref 2,.s a,y],st):=by
 intro r
 induction r with
 | nil=>
  intro i fuel x hd _ hf
  obtain⟨f,rfl⟩:∃f,fuel=f+1:=⟨fuel - 1,(Nat.sub_add_cancel hf).symm⟩
  have hi:a[i]?=none:=by rw[<- List.head?_drop,hd];rfl
  have hit:itemAt (.s a) st i=some none:=by show(some ((a[i]?).map λx=>V.b (.str [x]))).or _=_;rw[hi];rfl
  exact⟨x,Iz hit rfl⟩
 | cons c r ih=>
  intro i fuel x hd ho hf
  obtain⟨f,rfl⟩:∃f,fuel=f+1:=⟨fuel - 1,(Nat.sub_add_cancel (lj (mi _) hf)).symm⟩
  have hi:a[i]?=some c:=by rw[<- List.head?_drop,hd];rfl
  have hit:itemAt (.s a) st i=some (some (.s [c])):=by show(some ((a[i]?).map λx=>V.b (.str [x]))).or _=_;rw[hi];rfl
  obtain⟨y,hy⟩:=ih (i+1) f (.s [c]) (by rw[<- List.drop_drop,hd];rfl) (λc hc=>ho c (.tail _ hc)) (Nat.lt_of_succ_lt_succ hf)
  exact⟨y,Iz hit (Iz (vZ d (ho c (.head _))) hy)⟩
theorem zn(d:Nat){a:Tx}(h:fe a)(hl:a.length < 390){st:St}:(IH (d+1)).IG 41 [.ref 2,.s a] st=some (.s a,st):=by
 obtain⟨y,hy⟩:=vY d a (st:=st) a 0 (400+wR (.s a)) .uu rfl h.2 (li hl (kg (by decide) (lw 400 _)))
 have hn:Ep d fS [.ref 2,.s a,.uu] st .ff:=by
  cases a with
  | nil=>exact absurd rfl h.1
  | cons c r=>rfl
 have hf:Es d (.for 2 I2 v3) [.ref 2,.s a,.uu] st [.ref 2,.s a,y] st:=Iz (a:=(.s a,st)) rfl (by rw[ew];exact hy)
 exact ap (f:=yx) (l:=[.ref 2,.s a,y]) rfl (go (ac hn rfl rfl) (go hf (J0 rfl))) rfl
noncomputable def oF(c:Nat):Bool:=inR 48 57 c||(inR 65 90 c||inR 97 122 c)
noncomputable def iN(t:Tx):Prop:=t=[33]∨∃c,t=[33,c]/\oF c=true
noncomputable def aZ(e:Em)(g:List Ob):Prop:=∃j,e.m.LA=.ref (j+6)/\g[j]?=some (.LH aO)
noncomputable def bJ:List V:=[.s [33],.s yT]
theorem xU:bF (iO (aO.map (·.1)))=bJ:=by kernel_rfl
theorem BB{t:List V->St->Option (V×St)}{b:List V->St->JC}{l l1:List V}{st:St}{f:Nat}(h1:t l st=some (.tt,st))(hb:b l st=some (.next,l1,st))(h2:t l1 st=some (.ff,st)):fU t b (f+2) l st=some (.next,l1,st):=Iz h1 (Iz (a:=true) rfl (Iz hb (Iz h2 (Iz (a:=false) rfl rfl))))
theorem sS{α:Type}(l:List α)(a b:α):(l++[a]).set l.length b=l++[b]:=by
 induction l with
 | nil=>rfl
 | cons x l ih=>exact kh (x::·) ih
noncomputable def B4:S->S | .cons (.for _ _ b) _=>b | _=>.nil
theorem wK(d:Nat){t:Tx}(h:iN t)(hp:aZ e g){P:Prop}(post:∀x,(IH (d+1)).IG 40 [.ref 2,.s t] (Iy e g)=some (.s t,Iy e (g++x))->P):P:=by
 rcases h with rfl | ⟨c,rfl,hc⟩
 ·refine post [] ?_
  rw[mh]
  exact ap (f:=uX) (l:=[.ref 2,.s [33],.uu,.uu,.uu,.uu,.uu,.uu,.uu,.uu,.uu,.uu]) rfl (go (ac (v:=.ff) rfl rfl rfl) (J0 (ae (v:=.tt) rfl rfl (J0 rfl)))) rfl
 obtain⟨j,hj,hg⟩:=hp
 have q0:Ep d (.b2 (.cmp .eq) I2 rN) [.ref 2,.s [33,c],.uu,.uu,.uu,.uu,.uu,.uu,.uu,.uu,.uu,.uu] (Iy e g) .ff:=rfl
 have LH:∀{g':List Ob},fZ (Iy e (g++g')) (.ref (j+6))=some (j+6,aO):=λ{g'}=>Iz (f:=λo=>(mA o).map λl=>(j+6,l)) ((List.getElem?_append_left (kj hg).1).trans hg:(Iy e (g++g')).cur[j+6]?=_) rfl
 have dct0:fZ (Iy e g) (.ref (j+6))=some (j+6,aO):=Iz (f:=λo=>(mA o).map λl=>(j+6,l)) (hg:(Iy e g).cur[j+6]?=_) rfl
 have Jn:∀{g':List Ob}{l:List V},l[0]?=some (.ref 2)->Ep d (.u1 (.Jn 87) I0) l (Iy e g') (.ref (j+6)):=λ{g' l} h0=>Iz (au h0) (j8 (j:=(2,0,L6 e)) rfl (kh some hj))
 have hk:Ev d (.u1 .keys (.u1 (.Jn 87) I0)) [.ref 2,.s [33,c],.b .nul,.s [33,c],.uu,.uu,.uu,.uu,.uu,.uu,.uu,.uu] (Iy e g) (.ref (g.length+6)) (Iy e (g++[Ob.lst bJ])):=by
  refine Iz (Jn rfl) ?_
  show Option.map _ (Option.or none (Option.map _ (fZ (Iy e g) (.ref (j+6)))))=_
  rw[dct0,<- xU];rfl
 have hl:aP (Iy e (g++[Ob.lst bJ])) (.ref (g.length+6))=some (g.length+6,bJ):=av (by
  show(g++[Ob.lst bJ])[g.length]?=_
  rw[List.getElem?_append_right (mf _),Nat.sub_self];rfl)
 have it:∀i,itemAt (.ref (g.length+6)) (Iy e (g++[Ob.lst bJ])) i=some (bJ[i]?):=λi=>by
  show(Option.or none ((aP (Iy e (g++[Ob.lst bJ])) (.ref (g.length+6))).map _))=_
  rw[hl];rfl
 have b0:Es d (B4 (ak 5 vT)) [.ref 2,.s [33,c],.b .nul,.s [33,c],.ref (g.length+6),.s [33],.uu,.uu,.uu,.uu,.uu,.uu] (Iy e (g++[Ob.lst bJ])) [.ref 2,.s [33,c],.s [33],.s [c],.ref (g.length+6),.s [33],.uu,.uu,.uu,.uu,.uu,.uu] (Iy e (g++[Ob.lst bJ])):=by
  refine go (ae (v:=.tt) rfl rfl (go (bg (v:=.s [33]) (Iz (Jn rfl) (Iz (a:=(.s [33],Iy e (g++[Ob.lst bJ]))) rfl ?_))) (go rfl rfl))) rfl
  show Option.map _ (Option.or none (Option.bind (Option.or none (Option.map _ (fZ (Iy e (g++[Ob.lst bJ])) (.ref (j+6))))) _))=_
  rw[LH];rfl
 have b1:Es d (B4 (ak 5 vT)) [.ref 2,.s [33,c],.s [33],.s [c],.ref (g.length+6),.s yT,.uu,.uu,.uu,.uu,.uu,.uu] (Iy e (g++[Ob.lst bJ])) [.ref 2,.s [33,c],.s [33],.s [c],.ref (g.length+6),.s yT,.uu,.uu,.uu,.uu,.uu,.uu] (Iy e (g++[Ob.lst bJ])):=
  go (ac (v:=.ff) rfl rfl rfl) rfl
 have lp:Es d (.for 5 JR (B4 (ak 5 vT))) [.ref 2,.s [33,c],.b .nul,.s [33,c],.ref (g.length+6),.uu,.uu,.uu,.uu,.uu,.uu,.uu] (Iy e (g++[Ob.lst bJ])) [.ref 2,.s [33,c],.s [33],.s [c],.ref (g.length+6),.s yT,.uu,.uu,.uu,.uu,.uu,.uu] (Iy e (g++[Ob.lst bJ])):=
  Iz (a:=(.ref (g.length+6),Iy e (g++[Ob.lst bJ]))) rfl (by
   show cQ 5 _ _ (IH d).wf 0 _ _=_
   rw[ew]
   exact Iz (it 0) (Iz b0 (Iz (it 1) (Iz b1 (Iz (it 2) rfl)))))
 generalize hG:g++[Ob.lst bJ]=G at*
 have hl2:∀{xs:List V},aP (Iy e (G++[Ob.lst xs])) (.ref (G.length+6))=some (G.length+6,xs):=λ{xs}=>av (by
  show(G++[Ob.lst xs])[G.length]?=_
  rw[List.getElem?_append_right (mf _),Nat.sub_self];rfl)
 have qc:Ep d I29 [.ref 2,.s [33,c],.s [33],.s [c],.ref (g.length+6),.s yT,.ref (G.length+6),.i 0,.uu,.s [c],.uu,.i 0] (Iy e (G++[Ob.lst []])) (.o (inR 48 57 c||(inR 65 90 c||(inR 97 122 c||(decide (c∈[45,59,47,63,58,64,38,61,43,36,44,95,46,126,42,39,40,41,91,93])||(([c]==([33]:Tx))&&false)))))):=
  cu (aY rfl rfl rfl rfl rfl) (cu (aY rfl rfl rfl rfl rfl) (cu (aY rfl rfl rfl rfl rfl) (cu rfl (bB rfl rfl))))
 have PB:(inR 48 57 c||(inR 65 90 c||(inR 97 122 c||(decide (c∈[45,59,47,63,58,64,38,61,43,36,44,95,46,126,42,39,40,41,91,93])||(([c]==([33]:Tx))&&false)))))=true:=by
  unfold oF at hc
  revert hc
  cases inR 48 57 c <;> cases inR 65 90 c <;> cases inR 97 122 c <;> intro hc <;> first | rfl | exact nomatch hc
 rw[PB]at qc
 have w1:Es d (Lo (ak 8 vT)) [.ref 2,.s [33,c],.s [33],.s [c],.ref (g.length+6),.s yT,.ref (G.length+6),.i 0,.uu,.uu,.uu,.i 0] (Iy e (G++[Ob.lst []])) [.ref 2,.s [33,c],.s [33],.s [c],.ref (g.length+6),.s yT,.ref (G.length+6),.i 0,.uu,.s [c],.uu,.i 1] (Iy e (G++[Ob.lst []])):=by
  show fU _ _ (IH d).wf _ _=_
  rw[ew]
  exact BB (f:=398) rfl (go (bg (v:=.s [c]) rfl) (go (ae qc rfl (go rfl rfl)) rfl)) rfl
 have a1:Es d (.app I6 (.slice J2 KN Of)) [.ref 2,.s [33,c],.s [33],.s [c],.ref (g.length+6),.s yT,.ref (G.length+6),.i 0,.uu,.s [c],.uu,.i 1] (Iy e (G++[Ob.lst []])) [.ref 2,.s [33,c],.s [33],.s [c],.ref (g.length+6),.s yT,.ref (G.length+6),.i 0,.uu,.s [c],.uu,.i 1] (Iy e (G++[Ob.lst [.s [c]]])):=by
  have hx:(Iy e (G++[Ob.lst []])).cur[G.length+6]?=some (.lst []):=by
   show(G++[Ob.lst []])[G.length]?=_
   rw[List.getElem?_append_right (mf _),Nat.sub_self];rfl
  refine(fc (k:=G.length+6) (xs:=[]) (ys:=[]) (v:=.s [c]) (s1:=Iy e (G++[Ob.lst []])) rfl hx rfl hx (by decide) rfl).trans ?_
  have:dK (Iy e (G++[Ob.lst []])) (G.length+6) (.lst [.s [c]])=Iy e (G++[Ob.lst [.s [c]]]):=by
   show St.mk (_::_::_::_::_::_::(G++[Ob.lst []]).set G.length _) []=_
   rw[sS];rfl
  exact kh (λs=>some (Ly.next,_,s)) this
 have hj:Ep d (.u1 .join I6) [.ref 2,.s [33,c],.s [33],.s [c],.ref (g.length+6),.s yT,.ref (G.length+6),.i 0,.uu,.s [c],.uu,.i 1] (Iy e (G++[Ob.lst [.s [c]]])) (.s [c]):=
  Iz (a:=(.ref (G.length+6),Iy e (G++[Ob.lst [.s [c]]]))) rfl (Iz hl2 (Iz (a:=[[c]]) rfl (bQ (decide_eq_true (show [[c]].flatten.length<=IU from kg (by decide:1<=2000) oS)))))
 refine post ([Ob.lst bJ]++[Ob.lst [.s [c]]]) ?_
 rw[<- lu,hG]
 exact ap (f:=uX) (l:=[.ref 2,.s [33,c],.s [33],.s [c],.ref (g.length+6),.s yT,.ref (G.length+6),.i 0,.s [c],.s [c],.uu,.i 1]) rfl
  (go (ac (v:=.ff) rfl rfl rfl) (go (ac q0 rfl rfl) (go (l':=[.ref 2,.s [33,c],.b .nul,.uu,.uu,.uu,.uu,.uu,.uu,.uu,.uu,.uu]) (II:=Iy e g) rfl (go (l':=[.ref 2,.s [33,c],.b .nul,.s [33,c],.uu,.uu,.uu,.uu,.uu,.uu,.uu,.uu]) (II:=Iy e g) rfl (go (bg hk) (go lp
   (go (l':=[.ref 2,.s [33,c],.s [33],.s [c],.ref (g.length+6),.s yT,.ref (G.length+6),.uu,.uu,.uu,.uu,.uu]) (II:=Iy e (G++[Ob.lst []])) rfl
   (go (l':=[.ref 2,.s [33,c],.s [33],.s [c],.ref (g.length+6),.s yT,.ref (G.length+6),.i 0,.uu,.uu,.uu,.i 0]) (II:=Iy e (G++[Ob.lst []])) rfl
   (go w1 (go (ae (v:=.tt) rfl rfl (go a1 rfl)) (go (bg hj) (J0 (ae (v:=.s [33]) rfl rfl (J0 rfl)))))))))))))) rfl
end
noncomputable def NH(t:Tx):Bool:=t.isEmpty
noncomputable def NG(t:Tx)(w:B):Bool:=bif t.isEmpty then false else(MZ t w).lb
noncomputable def Oa(t:Tx)(w:B):Bool:=bif t.isEmpty then false else(MZ t w).fp
noncomputable def Oc(t:Tx)(w:B):Bool:=bif t.isEmpty then true else(MZ t w).bp
noncomputable def OW(t:Tx)(w:B):Bool:=bif t.isEmpty then true else(MZ t w).sq
noncomputable def OX(t:Tx)(w:B):Bool:=bif t.isEmpty then false else(MZ t w).bk
theorem iw(t:Tx)(w:B):Jp t w=anV t (NH t) (NG t w) (Oa t w) (Oc t w) (OW t w) (OX t w):=by cases t <;> rfl
noncomputable def Ms.IZ(m:Ms)(x:V):Ms:=⟨m.LA,m.IB,m.tag,x,m.IV⟩
noncomputable def Ms.Jb(m:Ms)(x:B):Ms:=⟨m.LA,x,m.tag,m.Jp,m.IV⟩
noncomputable def Ms.setTag(m:Ms)(x:B):Ms:=⟨m.LA,m.IB,x,m.Jp,m.IV⟩
noncomputable def Ms.Jt(m:Ms)(x:B):Ms:=⟨m.LA,m.IB,m.tag,m.Jp,x⟩
noncomputable def isStr(x:B)(t:Tx):Bool:=match x with | .str s=>s==t | _=>false
noncomputable def nv(x:B):Bool:=match x with | .str [c]=>decide (c∈[124,62]) | _=>false
noncomputable def dH(x:B):Prop:=x=.nul∨x=.str []∨∃c,x=.str [c]
noncomputable def dy(IV:B)(i0 IL fl sk em lb fp bp sq bk:Bool):B:=
 bif isStr IV [34]||IL then .str [34] else bif (!IV.truth&&i0)&&(!(sk&&(em||lb))&&((fl&&fp)||(!fl&&bp))) then .str []
 else bif (IV.truth&&nv IV)&&(!fl&&(!sk&&bk)) then IV else bif (!IV.truth||isStr IV [39])&&(sq&&!(sk&&lb)) then .str [39] else .str [34]
section
variable{c:Cx}{l:List V}{st:St}{u w:Bool}{C C' x:E}{v v':V}{r:S}
theorem Bh(h:Tr c C l st u)(hx:u=true->IK c x l st=some (v,st))(k:u=false->Ja c r l st=some (.ret v',l,st)):Ja c (.cons (.IF C (.cons (.ret x) .nil) .nil) r) l st=some (.ret (bif u then v else v'),l,st):=by
 cases u with
 | true=>exact J0 (h.yes (J0 (kh (Option.map _) (hx rfl))))
 | false=>exact go (h.no rfl) (k rfl)
theorem jx(h:Tr c C l st u)(h':u=true->Tr c C' l st w)(hx:u=true->IK c x l st=some (v,st))(k:Ja c r l st=some (.ret v',l,st)):Ja c (.cons (.IF C (.cons (.IF C' (.cons (.ret x) .nil) .nil) .nil) .nil) r) l st=some (.ret (bif u&&w then v else v'),l,st):=by
 cases u with
 | false=>exact go (h.no rfl) k
 | true=>
  cases w with
  | true=>exact J0 (h.yes (J0 ((h' rfl).yes (J0 (kh (Option.map _) (hx rfl))))))
  | false=>exact go (h.yes (go ((h' rfl).no rfl) rfl)) k
end
section
variable{e:Em}{g:List Ob}{l:List V}{k:Nat}{f:List (Nat×B)}{val:Tx}
noncomputable def It:S:=.IF (.u1 (.isNone true) Mx) F4 .nil
theorem iu(t:Tx)(w:B):aU (Jp t w)=false/\ab (Jp t w)=false:=by rw[iw];exact⟨rfl,rfl⟩
theorem mC(d:Nat)(h0:l[0]?=some (.ref 2))(h:e.k.event=.rc k f)(hv:f.lookup 99=some (.str val))(hl:val.length < 390)(ha:e.m.Jp=.b .nul∨e.m.Jp=Jp val e.o.wide):Es (d+1) It l (Iy e g) l (Iy (e.M (e.m.IZ (Jp val e.o.wide))) g):=by
 have q0:Ep (d+1) Mx l (Iy e g) e.m.Jp:=Iz (au h0) rfl
 have r:=Jh (e:=e) (g:=g) (c:=IH (d+1)) h0 h hv
 rcases ha with h1 | h1
 ·rw[h1]at q0
  refine ae (v:=.tt) (Iz q0 rfl) rfl (go ?_ rfl)
  refine Iz (a:=(Jp val e.o.wide,Iy e g)) (aj uW (vs:=[.s val]) (kw:=[]) (ws:=[.ref 2,.s val]) h0 rfl rfl rfl (Iz r rfl) rfl (CK d hl)) (Iz (au h0) ?_)
  have hu:=(iu val e.o.wide).2
  show Option.map _ ((ag (decide ((L6 e).length < 100)&&decide (90 < 128)&&!ab (Jp val e.o.wide)) _))=_
  rw[hu];rfl
 ·rw[h1]at q0
  have e1:e.M (e.m.IZ (Jp val e.o.wide))=e:=by unfold Em.M Ms.IZ;rw[<- h1]
  rw[e1]
  refine ac (v:=.ff) (Iz q0 ?_) rfl rfl
  show(ag (!ab (Jp val e.o.wide)) (V.b (.bool (bif aU (Jp val e.o.wide) then true else !true)),Iy e g))=_
  rw[(iu val e.o.wide).2,(iu val e.o.wide).1];rfl
theorem cx{c:Cx}{n:Nat}{x:B}{j:Nat}{fa:List (Nat×B)}(h0:l[0]?=some (.ref 2))(ha:e.m.Jp=.rc j fa)(hx:fa.lookup n=some x):IK c (.u1 (.Jn n) Mx) l (Iy e g)=some (.b x,Iy e g):=
 Iz (Iz (a:=(.ref 2,Iy e g)) (au h0) (j8 (j:=(2,0,L6 e)) rfl (kh some ha))) (nN hx)
theorem fK{c:Cx}{a:E}{x:B}{t:Tx}{st:St}(h:IK c a l st=some (.b x,st))(hx:dH x):IK c (.b2 (.cmp .eq) a (.n0 (.cst (.str t)))) l st=some (.o (isStr x t),st):=by
 rcases hx with rfl | rfl | ⟨c,rfl⟩ <;> exact Iz h (Iz (a:=(.s t,st)) rfl rfl)
theorem um{c:Cx}{a:E}{x:B}{st:St}(h:IK c a l st=some (.b x,st))(hx:dH x)(ht:x.truth=true):IK c (.b2 (.cmp .K2) a (.n0 (.cst (.str [124,62])))) l st=some (.o (nv x),st):=by
 rcases hx with rfl | rfl | ⟨c,rfl⟩
 ·exact nomatch ht
 ·exact nomatch ht
 ·exact Iz h (Iz (a:=(.s [124,62],st)) rfl rfl)
theorem ny{c:Cx}{i0 i1:Bool}(h0:l[0]?=some (.ref 2))(h:e.k.event=.rc k f)(hi:f.lookup 98=some (.bb i0 i1)):IK c ww l (Iy e g)=some (.o i0,Iy e g):=Iz (Jh h0 h hi) (Iz (a:=(.i 0,Iy e g)) rfl rfl)
theorem BO{c:Cx}{i0 i1:Bool}(h0:l[0]?=some (.ref 2))(h:e.k.event=.rc k f)(hi:f.lookup 98=some (.bb i0 i1)):IK c (.b2 .idx wg I4) l (Iy e g)=some (.o i1,Iy e g):=Iz (Jh h0 h hi) (Iz (a:=(.i 1,Iy e g)) rfl rfl)
noncomputable def bc(e:Em)(val:Tx)(IV:B)(i0:Bool):B:=dy IV i0 e.o.IL.truth (e.c.lvl != 0) e.c.sk (NH val) (NG val e.o.wide) (Oa val e.o.wide) (Oc val e.o.wide) (OW val e.o.wide) (OX val e.o.wide)
theorem wM(d:Nat){IV:B}{i0 i1:Bool}(h:e.k.event=.rc k f)(hv:f.lookup 99=some (.str val))(hs:f.lookup 91=some IV)(hi:f.lookup 98=some (.bb i0 i1))(hS:dH IV)(hl:val.length < 390)(ha:e.m.Jp=.b .nul∨e.m.Jp=Jp val e.o.wide) :
  (IH (d+2)).IG 35 [.ref 2] (Iy e g)=some (.b (bc e val IV i0),Iy (e.M (e.m.IZ (Jp val e.o.wide))) g):=by
 have s0:=mC (e:=e) (g:=g) (l:=[.ref 2]) d rfl h hv hl ha
 have hE:(e.M (e.m.IZ (Jp val e.o.wide))).k.event=.rc k f:=h
 have hA:(e.M (e.m.IZ (Jp val e.o.wide))).m.Jp=anV val (NH val) (NG val e.o.wide) (Oa val e.o.wide) (Oc val e.o.wide) (OW val e.o.wide) (OX val e.o.wide):=iw val e.o.wide
 unfold bc
 have eo:(e.M (e.m.IZ (Jp val e.o.wide))).o=e.o:=rfl
 have ec:(e.M (e.m.IZ (Jp val e.o.wide))).c=e.c:=rfl
 generalize e.M (e.m.IZ (Jp val e.o.wide))=E at s0 hE hA eo ec
 rw[<- eo,<- ec]
 rw[<- eo]at hA
 generalize NH val=em at hA
 generalize NG val E.o.wide=lb at hA
 generalize Oa val E.o.wide=fp at hA
 generalize Oc val E.o.wide=bp at hA
 generalize OW val E.o.wide=sq at hA
 generalize OX val E.o.wide=bk at hA
 have qs:Ep (d+1) mG [.ref 2] (Iy E g) (.b IV):=Jh rfl hE hs
 have ts:=Tr.of qs
 have tfl:Tr (IH (d+1)) Ph [.ref 2] (Iy E g) (E.c.lvl != 0):=Tr.of (x:=.int E.c.lvl) rfl
 have tsk:Tr (IH (d+1)) wb [.ref 2] (Iy E g) E.c.sk:=Tr.bl rfl
 have tem:Tr (IH (d+1)) (.u1 (.Jn 101) Mx) [.ref 2] (Iy E g) em:=Tr.bl (cx rfl hA rfl)
 have tlb:Tr (IH (d+1)) zx [.ref 2] (Iy E g) lb:=Tr.bl (cx rfl hA rfl)
 have tfp:Tr (IH (d+1)) (.u1 (.Jn 103) Mx) [.ref 2] (Iy E g) fp:=Tr.bl (cx rfl hA rfl)
 have tbp:Tr (IH (d+1)) (.u1 (.Jn 104) Mx) [.ref 2] (Iy E g) bp:=Tr.bl (cx rfl hA rfl)
 have tsq:Tr (IH (d+1)) (.u1 (.Jn 106) Mx) [.ref 2] (Iy E g) sq:=Tr.bl (cx rfl hA rfl)
 have tbk:Tr (IH (d+1)) (.u1 (.Jn 105) Mx) [.ref 2] (Iy E g) bk:=Tr.bl (cx rfl hA rfl)
 have LU:Tr (IH (d+1)) MQ [.ref 2] (Iy E g) E.o.IL.truth:=Tr.of (x:=E.o.IL) rfl
 have key:∀{y:B},Ja (IH (d+1)) (ak 1 rq) [.ref 2] (Iy E g)=some (.ret (.b (dy IV i0 E.o.IL.truth (E.c.lvl != 0) E.c.sk em lb fp bp sq bk)),[.ref 2],Iy E g):=λ{y}=>by
  have main:=Bh (x:=.n0 (.cst (.str [34]))) (r:=ak 2 rq) (v:=.s [34]) ((Tr.bl (fK (t:=[34]) qs hS)).or LU) (λJ=>rfl) λJ=>
   jx (x:=.n0 (.cst (.str []))) (r:=ak 3 rq) (v:=.s []) ((Tr.bl ts.not).and λJ=>Tr.bl (ny rfl hE hi)) (λJ=>(Tr.bl (tsk.and λJ=>tem.or tlb).not).and λJ=>(tfl.and λJ=>tfp).or ((Tr.bl tfl.not).and λJ=>tbp)) (λJ=>rfl) <|
   jx (r:=ak 4 rq) (v:=.b IV) (ts.and λh=>Tr.bl (um qs hS h)) (λJ=>(Tr.bl tfl.not).and λJ=>(Tr.bl tsk.not).and λJ=>tbk) (λJ=>qs) <|
   jx (x:=.n0 (.cst (.str [39]))) (r:=ak 5 rq) (v:=.s [39]) (v':=.s [34]) ((Tr.bl ts.not).or (Tr.bl (fK (t:=[39]) qs hS))) (λJ=>tsq.and λJ=>Tr.bl (tsk.and λJ=>tlb).not) (λJ=>rfl) (J0 rfl)
  refine main.trans ?_
  unfold dy
  cases isStr IV [34]||E.o.IL.truth with
  | true=>rfl
  | false=>
   cases (!IV.truth&&i0)&&(!(E.c.sk&&(em||lb))&&(((E.c.lvl != 0)&&fp)||(!(E.c.lvl != 0)&&bp))) with
   | true=>rfl
   | false=>
    cases (IV.truth&&nv IV)&&(!(E.c.lvl != 0)&&(!E.c.sk&&bk)) with
    | true=>rfl
    | false=>cases (!IV.truth||isStr IV [39])&&(sq&&!(E.c.sk&&lb)) <;> rfl
 exact ap (f:=yz) (l:=[.ref 2]) rfl (go s0 (key (y:=.nul))) rfl
end
noncomputable def dm(x:B):Prop:=x=.nul∨∃a,x=.str a/\fe a/\a.length < 128
noncomputable def Wr.Ll(w:Wr)(ind:Tx)(x:B):Wr:=match x with | .str a=>w.sgn (ind++a) true false false | _=>w
section
variable{e:Em}{g:List Ob}{l:List V}{k:Nat}{f:List (Nat×B)}{val:Tx}
theorem fz{m:Ms}(h:m=e.m):e.M m=e:=by subst h;rfl
theorem z3(d:Nat){n:Nat}{a:Tx}(h0:l[0]?=some (.ref 2))(h:e.k.event=.rc k f)(hf:f.lookup 96=some (.str a))(ho:fe a)(hl:a.length < 390)(hm:e.m.IB=.nul∨e.m.IB=.str a):Es (d+1) I54 l (Iy e g) l (Iy (e.M (e.m.Jb (.str a))) g):=by
 have q0:Ep (d+1) wh l (Iy e g) (.b e.m.IB):=Iz (au h0) rfl
 rcases hm with h1 | h1
 ·rw[h1]at q0
  exact ae (v:=.tt) (Iz q0 rfl) rfl (go (Iz (a:=(.s a,Iy e g)) (aj yx (vs:=[.s a]) (kw:=[]) (ws:=[.ref 2,.s a]) h0 rfl rfl rfl (Iz (Jh h0 h hf) rfl) rfl (zn d ho hl)) (Iz (au h0) rfl)) rfl)
 ·rw[h1]at q0
  rw[fz (by unfold Ms.Jb;rw[<- h1])]
  exact ac (v:=.ff) (Iz q0 rfl) rfl rfl
theorem gq(d:Nat){ind:Tx}{x:B}(hi:ind.length<=1)(h:e.k.event=.rc k f)(hf:f.lookup 96=some x)(hx:dm x)(hm:e.m.IB=.nul∨e.m.IB=x)(ho:e.ok 1):(IH (d+3)).IG 33 [.ref 2,.s ind] (Iy e g)=some (.b .nul,Iy ((e.W (e.w.Ll ind x)).M (e.m.Jb .nul)) g):=by
 have q0:Ep (d+2) wn [.ref 2,.s ind] (Iy e g) (.b x):=Jh rfl h hf
 rcases hx with rfl | ⟨a,rfl,ha,hl⟩
 ·exact ap (f:=lK) (l:=[.ref 2,.s ind]) rfl (J0 (ae (v:=.tt) (Iz q0 rfl) rfl (go (l':=[.ref 2,.s ind]) (II:=Iy (e.M (e.m.Jb .nul)) g) rfl (J0 rfl)))) rfl
 ·have s1:=z3 (e:=e) (g:=g) (l:=[.ref 2,.s ind]) (d+1) (n:=0) rfl h hf ha (Nat.lt_trans hl (by decide)) hm
  have la:ind.length+a.length<=2000:=kg (Nat.add_le_add hi (Nat.le_of_lt hl)) (by decide)
  have s2:=bC (e:=e.M (e.m.Jb (.str a))) (g:=g) d (ind++a) true false false (by rw[ky];exact la) ho
  have ne:(B.str a).truth=true:=by
   cases a with
   | nil=>exact absurd rfl ha.1
   | cons c r=>rfl
  refine aa (f:=lK) (l:=[.ref 2,.s ind]) rfl (go (ac (v:=.ff) (Iz q0 rfl) rfl rfl) (go s1 (go (ae (v:=.s a) rfl (kh some ne) (go (aq (aj eF (vs:=[.s (ind++a),.tt]) (kw:=[]) (ws:=[.ref 2,.s (ind++a),.tt,.ff,.ff]) rfl rfl rfl rfl (Iz (a:=(.s (ind++a),Iy (e.M (e.m.Jb (.str a))) g)) (Iz (a:=(.s ind,Iy (e.M (e.m.Jb (.str a))) g)) rfl (Iz (a:=(.s a,Iy (e.M (e.m.Jb (.str a))) g)) rfl (f7 (kg la oS)))) rfl) rfl s2)) rfl)) (go rfl rfl))))
theorem m7{m:Ms}(hm:m.LA=e.m.LA){w:Wr}(h:aZ e g):aZ ((e.W w).M m) g:=by
 obtain⟨j,h1,h2⟩:=h
 exact⟨j,hm.trans h1,h2⟩
theorem tw{x:List Ob}(h:aZ e g):aZ e (g++x):=by
 obtain⟨j,h1,h2⟩:=h
 exact⟨j,h1,(List.getElem?_append_left (kj h2).1).trans h2⟩
theorem z0(d:Nat){a:E}{t:Tx}(h0:l[0]?=some (.ref 2))(ha:Ep (d+1) a l (Iy e g) (.s t))(ho:iN t)(hp:aZ e g)(hm:e.m.tag=.nul∨e.m.tag=.str t){P:Prop}(post:∀x,Es (d+1) (.IF (.u1 (.isNone true) nZ) (.cons (.IP 89 I0 (.call 40 I0 (.pos a .nil))) .nil) .nil) l (Iy e g) l (Iy (e.M (e.m.setTag (.str t))) (g++x))->P):P:=by
 have q0:Ep (d+1) nZ l (Iy e g) (.b e.m.tag):=Iz (au h0) rfl
 rcases hm with h1 | h1
 ·rw[h1]at q0
  exact wK (e:=e) (g:=g) d ho hp λx hx=>post x (ae (v:=.tt) (Iz q0 rfl) rfl (go (Iz (a:=(.s t,Iy e (g++x))) (aj uX (vs:=[.s t]) (kw:=[]) (ws:=[.ref 2,.s t]) h0 rfl rfl rfl (Iz ha rfl) rfl hx) (Iz (au h0) rfl)) rfl))
 ·rw[h1]at q0
  refine post [] ?_
  rw[mh,fz (by unfold Ms.setTag;rw[<- h1])]
  exact ac (v:=.ff) (Iz q0 rfl) rfl rfl
theorem n7{t:Tx}(h:iN t):t.length<=2/\(B.str t).truth=true:=by
 rcases h with rfl | ⟨c,rfl,_⟩
 ·exact⟨by decide,rfl⟩
 ·exact⟨mf 2,rfl⟩
theorem ti(d:Nat){t:Tx}(ho:iN t)(hp:aZ e g)(hm:e.m.tag=.nul∨e.m.tag=.str t)(hr:e.ok 1){P:Prop}(post:∀x,Es (d+2) (ak 2 zi) [.ref 2,.s t] (Iy e g) [.ref 2,.s t] (Iy ((e.W (e.w.sgn t true false false)).M (e.m.setTag .nul)) (g++x))->P):P:=by
 have ln:=n7 ho
 refine z0 (e:=e) (g:=g) (l:=[.ref 2,.s t]) (a:=.n0 (.loc 1)) (d+1) rfl rfl ho hp hm λx s1=>post x ?_
 have s2:=bC (e:=e.M (e.m.setTag (.str t))) (g:=g++x) d t true false false (kg ln.1 (by decide)) hr
 exact go (ac (v:=.ff) rfl rfl rfl) (go s1 (go (ae (v:=.s t) rfl (kh some ln.2) (go (aq (aj eF (vs:=[.s t,.tt]) (kw:=[]) (ws:=[.ref 2,.s t,.tt,.ff,.ff]) rfl rfl rfl rfl (Iz (a:=(.s t,Iy (e.M (e.m.setTag (.str t))) (g++x))) rfl rfl) rfl s2)) rfl)) (go rfl rfl)))
noncomputable def JK(x:B):Prop:=x=.nul∨∃t,x=.str t/\iN t
noncomputable def isNul(x:B):Bool:=match x with | .nul=>true | _=>false
noncomputable def NQ(IL tag:B)(imp:Bool):Bool:=(!IL.truth||isNul tag)&&imp
noncomputable def Wr.tg(w:Wr)(q:Bool)(tag:B):Wr:=bif q then w else match tag with | .str t=>w.sgn t true false false | _=>w
theorem jB{c:Cx}{a:E}{x:B}{st:St}(h:IK c a l st=some (.b x,st))(hx:x=.nul∨∃t,x=.str t):IK c (.u1 (.isNone true) a) l st=some (.o (isNul x),st):=by
 rcases hx with rfl | ⟨t,rfl⟩ <;> exact Iz h rfl
theorem JK.s{x:B}(h:JK x):x=.nul∨∃t,x=.str t:=h.imp id λ⟨t,h,_⟩=>⟨t,h⟩
theorem oB(d:Nat){tag:B}{imp:Bool}(h:e.k.event=.rc k f)(hk:Ji [9] k=false)(ht:f.lookup 97=some tag)(hi:f.lookup 98=some (.bool imp))(hT:JK tag)(hq:NQ e.o.IL tag imp=false->tag≠.nul)(hp:aZ e g)(hm:e.m.tag=.nul∨e.m.tag=tag)(hr:e.ok 1){P:Prop}
  (post:∀x,(IH (d+3)).IG 34 [.ref 2] (Iy e g)=some (.b .nul,Iy ((e.W (e.w.tg (NQ e.o.IL tag imp) tag)).M (e.m.setTag .nul)) (g++x))->P):P:=by
 have s0:Es (d+2) (Lo zi) [.ref 2,.uu] (Iy e g) [.ref 2,.b tag] (Iy e g):=bg (Jh rfl h ht)
 have q9:=ao (e:=e) (g:=g) (l:=[.ref 2,.b tag]) (d+2) (y:=false) (cs:=[9]) rfl h
 rw[hk]at q9
 have LU:Tr (IH (d+2)) MQ [.ref 2,.b tag] (Iy e g) e.o.IL.truth:=Tr.of (x:=e.o.IL) rfl
 have tq:Tr (IH (d+2)) (.and (.or rE n3) wg) [.ref 2,.b tag] (Iy e g) (NQ e.o.IL tag imp):=
  ((Tr.bl LU.not).or (Tr.bl (jB rfl hT.s))).and λJ=>Tr.bl (Jh rfl h hi)
 cases hQ:NQ e.o.IL tag imp with
 | true=>
  rw[hQ]at post tq
  refine post [] ?_
  rw[mh]
  exact ap (f:=iD) (l:=[.ref 2,.b tag]) rfl (go s0 (J0 (ac q9 rfl (J0 (tq.yes (go (l':=[.ref 2,.b tag]) (II:=Iy (e.M (e.m.setTag .nul)) g) rfl (J0 rfl))))))) rfl
 | false=>
  rw[hQ]at post tq
  rcases hT with rfl | ⟨t,rfl,hT⟩
  ·exact absurd rfl (hq hQ)
  ·exact ti (e:=e) (g:=g) d hT hp hm hr λx s2=>post x (aa (f:=iD) (l:=[.ref 2,.s t]) rfl (go s0 (go (ac q9 rfl (go (tq.no rfl) rfl)) s2)))
end
noncomputable def M9(IL tag IV:B)(i0 i1:Bool):Bool:=(!IL.truth||isNul tag)&&((isStr IV []&&i0)||(!isStr IV []&&i1))
noncomputable def Nu(tag:B)(i0:Bool):B:=bif i0&&isNul tag then .str [33] else tag
theorem sj(IV:B)(i0 IL fl sk em lb fp bp sq bk:Bool)(hS:dH IV):dH (dy IV i0 IL fl sk em lb fp bp sq bk)/\∃s,dy IV i0 IL fl sk em lb fp bp sq bk=.str s:=by
 unfold dy
 cases isStr IV [34]||IL with
 | true=>exact⟨.inr (.inr ⟨_,rfl⟩),_,rfl⟩
 | false=>
  cases (!IV.truth&&i0)&&(!(sk&&(em||lb))&&((fl&&fp)||(!fl&&bp))) with
  | true=>exact⟨.inr (.inl rfl),_,rfl⟩
  | false=>
   cases hb:(IV.truth&&nv IV)&&(!fl&&(!sk&&bk)) with
   | true=>
    refine⟨hS,?_⟩
    rcases hS with rfl | rfl | ⟨c,rfl⟩
    ·exact nomatch hb
    ·exact⟨_,rfl⟩
    ·exact⟨_,rfl⟩
   | false=>cases (!IV.truth||isStr IV [39])&&(sq&&!(sk&&lb)) <;> exact⟨.inr (.inr ⟨_,rfl⟩),_,rfl⟩
section
variable{e:Em}{g:List Ob}{l:List V}{k:Nat}{f:List (Nat×B)}{val:Tx}
noncomputable def GF:S:=.IF (.u1 (.isNone true) NI) CX .nil
theorem si(d:Nat){IV:B}{i0 i1:Bool}(h0:l[0]?=some (.ref 2))(h:e.k.event=.rc k f)(hv:f.lookup 99=some (.str val))(hs:f.lookup 91=some IV)(hi:f.lookup 98=some (.bb i0 i1))(hS:dH IV)(hl:val.length < 390)(ha:e.m.Jp=.b .nul∨e.m.Jp=Jp val e.o.wide)(hn:e.m.IV=.nul) :
  Es (d+2) GF l (Iy e g) l (Iy (e.M ((e.m.IZ (Jp val e.o.wide)).Jt (bc e val IV i0))) g):=by
 have q0:Ep (d+2) NI l (Iy e g) (.b e.m.IV):=Iz (au h0) rfl
 rw[hn]at q0
 exact ae (v:=.tt) (Iz q0 rfl) rfl (go (Iz (a:=(.b (bc e val IV i0),Iy (e.M (e.m.IZ (Jp val e.o.wide))) g)) (aj yz (vs:=[]) (kw:=[]) (ws:=[.ref 2]) h0 rfl rfl rfl rfl rfl (wM d h hv hs hi hS hl ha)) (Iz (au h0) rfl)) rfl)
theorem xm(d:Nat){tag IV:B}{i0 i1:Bool}(h:e.k.event=.rc k f)(hk:Ji [9] k=true)(hv:f.lookup 99=some (.str val))(hs:f.lookup 91=some IV)(ht:f.lookup 97=some tag)(hi:f.lookup 98=some (.bb i0 i1))(hS:dH IV)(hl:val.length < 390)(ha:e.m.Jp=.b .nul∨e.m.Jp=Jp val e.o.wide)(hn:e.m.IV=.nul)
  (hT:JK tag) (hq:M9 e.o.IL tag (bc e val IV i0) i0 i1=false->Nu tag i0≠.nul) (hp:aZ e g) (hm:e.m.tag=.nul∨e.m.tag=tag) (hr:e.ok 1) {P:Prop}
  (post:∀x,(IH (d+4)).IG 34 [.ref 2] (Iy e g)=some (.b .nul,Iy ((e.W (e.w.tg (M9 e.o.IL tag (bc e val IV i0) i0 i1) (Nu tag i0))).M (((e.m.IZ (Jp val e.o.wide)).Jt (bc e val IV i0)).setTag .nul)) (g++x))->P):P:=by
 have s0:Es (d+3) (Lo zi) [.ref 2,.uu] (Iy e g) [.ref 2,.b tag] (Iy e g):=bg (Jh rfl h ht)
 have q9:=ao (e:=e) (g:=g) (l:=[.ref 2,.b tag]) (d+3) (y:=false) (cs:=[9]) rfl h
 rw[hk]at q9
 have s1:=si (e:=e) (g:=g) (l:=[.ref 2,.b tag]) (d+1) rfl h hv hs hi hS hl ha hn
 have hz:=sj IV i0 e.o.IL.truth (e.c.lvl != 0) e.c.sk (NH val) (NG val e.o.wide) (Oa val e.o.wide) (Oc val e.o.wide) (OW val e.o.wide) (OX val e.o.wide) hS
 have hz:dH (bc e val IV i0)/\∃s,bc e val IV i0=.str s:=hz
 generalize bc e val IV i0=z at s1 hz hq post
 generalize Jp val e.o.wide=A at s1 post
 have hE:(e.M ((e.m.IZ A).Jt z)).k.event=.rc k f:=h
 have LU:Tr (IH (d+3)) MQ [.ref 2,.b tag] (Iy (e.M ((e.m.IZ A).Jt z)) g) e.o.IL.truth:=Tr.of (x:=e.o.IL) rfl
 have qz:Ep (d+3) NI [.ref 2,.b tag] (Iy (e.M ((e.m.IZ A).Jt z)) g) (.b z):=rfl
 have qn:Ep (d+3) (.b2 (.cmp .ne) NI M4) [.ref 2,.b tag] (Iy (e.M ((e.m.IZ A).Jt z)) g) (.o (!isStr z [])):=by
  obtain⟨s,hs⟩:=hz.2
  rw[hs]at qz ⊢
  exact Iz qz (Iz (a:=(.s [],Iy (e.M ((e.m.IZ A).Jt (.str s))) g)) rfl rfl)
 have tq:Tr (IH (d+3)) I73 [.ref 2,.b tag] (Iy (e.M ((e.m.IZ A).Jt z)) g) (M9 e.o.IL tag z i0 i1):=
  ((Tr.bl LU.not).or (Tr.bl (jB rfl hT.s))).and λJ=>((Tr.bl (fK qz hz.1)).and λJ=>Tr.bl (ny rfl hE hi)).or ((Tr.bl qn).and λJ=>Tr.bl (BO rfl hE hi))
 have t3:Tr (IH (d+3)) (.and ww n3) [.ref 2,.b tag] (Iy (e.M ((e.m.IZ A).Jt z)) g) (i0&&isNul tag):=(Tr.bl (ny rfl hE hi)).and λJ=>Tr.bl (jB rfl hT.s)
 cases hQ:M9 e.o.IL tag z i0 i1 with
 | true=>
  rw[hQ]at post tq
  refine post [] ?_
  rw[mh]
  exact ap (f:=iD) (l:=[.ref 2,.b tag]) rfl (go s0 (J0 (ae q9 rfl (go s1 (J0 (tq.yes (go (l':=[.ref 2,.b tag]) (II:=Iy (e.M (((e.m.IZ A).Jt z).setTag .nul)) g) rfl (J0 rfl)))))))) rfl
 | false=>
  rw[hQ]at post tq
  have hq:=hq hQ
  unfold Nu at hq post
  cases h3:i0&&isNul tag with
  | true=>
   rw[h3]at post t3
   refine ti (e:=e.M (((e.m.IZ A).Jt z).setTag .nul)) (g:=g) (d+1) (t:=[33]) (.inl rfl) (m7 (w:=e.w) rfl hp) (.inl rfl) hr λx s2=>post x (aa (f:=iD) (l:=[.ref 2,.s [33]]) rfl (go s0 (go (ae q9 rfl (go s1 (go (tq.no rfl) (go (t3.yes (go (l':=[.ref 2,.s [33]]) (II:=Iy (e.M ((e.m.IZ A).Jt z)) g) rfl (go rfl rfl))) rfl)))) s2)))
  | false=>
   rw[h3]at post t3 hq
   rcases hT with rfl | ⟨t,rfl,hT⟩
   ·exact absurd rfl hq
   ·exact ti (e:=e.M ((e.m.IZ A).Jt z)) (g:=g) (d+1) hT (m7 (w:=e.w) rfl hp) hm hr λx s2=>post x (aa (f:=iD) (l:=[.ref 2,.s t]) rfl (go s0 (go (ae q9 rfl (go s1 (go (tq.no rfl) (go (t3.no rfl) rfl)))) s2)))
noncomputable def Wr.Kb(w:Wr)(val s:Tx)(ind bi bw:Int)(lb:Tx)(sk root:Bool)(wide:B):Wr:=
 bif s==[34] then w.dq val ind bw lb (!sk) wide else bif s==[39] then w.sq val ind bw lb (!sk) else bif s==[62] then w.PD val ind bi bw lb else bif s==[124] then w.lit val ind bi lb else w.Nv val ind bw lb (!sk) root
theorem xn(d:Nat){s:Tx}(hv:val.length < 390)(ha:e.m.Jp=Jp val e.o.wide)(hs:e.m.IV=.str s)(hd:IM e.c.indent)(hc:0<=e.w.col)(h0:0<=e.o.bi)(h9:e.o.bi<=9)(ho:e.ok (ci val))(hE:(s==[34])=true->ic e.o.wide val)(hB:(s==[34]||(s==[39]||(s==[62]||s==[124])))=false->dF val) :
  (IH (d+5)).IG 36 [.ref 2] (Iy e g)=some (.b .nul,Iy ((e.W (e.w.Kb val s (ai e.c.indent) e.o.bi e.o.bw e.o.lb e.c.sk e.c.root e.o.wide)).M ((e.m.IZ (.b .nul)).Jt .nul)) g):=by
 have qa:∀{l:List V},l[0]?=some (.ref 2)->Ep (d+4) Mx l (Iy e g) (Jp val e.o.wide):=λh=>Iz (au h) (by rw[<- ha];rfl)
 have s1:Es (d+4) (Lo zh) [.ref 2,.uu] (Iy e g) [.ref 2,.uu] (Iy e g):=ac (v:=.ff) (Iz (qa rfl) (by
  show(ag (!ab (Jp val e.o.wide)) (V.b (.bool (bif aU (Jp val e.o.wide) then true else !true)),Iy e g))=_
  rw[(iu val e.o.wide).2,(iu val e.o.wide).1];rfl)) rfl rfl
 have qs:∀{l:List V},l[0]?=some (.ref 2)->Ep (d+4) NI l (Iy e g) (.s s):=λh=>Iz (au h) (by show _=some (V.b (B.str s),_);rw[<- hs];rfl)
 have s2:Es (d+4) (Lo (ak 1 zh)) [.ref 2,.uu] (Iy e g) [.ref 2,.uu] (Iy e g):=ac (v:=.ff) (Iz (qs rfl) rfl) rfl rfl
 have q:∀t:Tx,Ep (d+4) (.b2 (.cmp .eq) NI (.n0 (.cst (.str t)))) [.ref 2,.o (!e.c.sk)] (Iy e g) (.o (s==t)):=λt=>Iz (qs rfl) (Iz (a:=(.s t,Iy e g)) rfl rfl)
 have qv:Ep (d+4) Pg [.ref 2,.o (!e.c.sk)] (Iy e g) (.s val):=Iz (qa rfl) (by rw[iw];exact nN rfl)
 have a2:Kq (IH (d+4)) (.pos Pg PQ) [.ref 2,.o (!e.c.sk)] (Iy e g)=some (([.s val,.o (!e.c.sk)],[]),Iy e g):=Iz qv rfl
 have a1:Kq (IH (d+4)) (.pos Pg .nil) [.ref 2,.o (!e.c.sk)] (Iy e g)=some (([.s val],[]),Iy e g):=Iz qv rfl
 have fin:∀{w:Wr},Es (d+4) (Lo (ak 3 zh)) [.ref 2,.o (!e.c.sk)] (Iy e g) [.ref 2,.o (!e.c.sk)] (Iy (e.W w) g)->(IH (d+5)).IG 36 [.ref 2] (Iy e g)=some (.b .nul,Iy ((e.W w).M ((e.m.IZ (.b .nul)).Jt .nul)) g):=λ{w} h3=>
  aa (f:=yy) (l:=[.ref 2,.o (!e.c.sk)]) rfl (go s1 (go s2 (go (l':=[.ref 2,.o (!e.c.sk)]) (II:=Iy e g) rfl (go h3 (go (l':=[.ref 2,.o (!e.c.sk)]) (II:=Iy ((e.W w).M (e.m.IZ (.b .nul))) g) rfl (go rfl rfl))))))
 unfold Wr.Kb
 have p1:=q [34]
 cases h1:s==[34] with
 | true=>
  rw[h1]at p1
  exact fin (ae p1 rfl (go (aq (aj yr (vs:=[.s val,.o (!e.c.sk)]) (kw:=[]) (ws:=[.ref 2,.s val,.o (!e.c.sk)]) rfl rfl rfl rfl a2 rfl (Ck d hv (hE h1) hd hc ho))) rfl))
 | false=>
  rw[h1]at p1 hB
  have p2:=q [39]
  cases h2:s==[39] with
  | true=>
   rw[h2]at p2
   exact fin (ac p1 rfl (go (ae p2 rfl (go (aq (aj yt (vs:=[.s val,.o (!e.c.sk)]) (kw:=[]) (ws:=[.ref 2,.s val,.o (!e.c.sk)]) rfl rfl rfl rfl a2 rfl (A8 d hv hd hc ho))) rfl)) rfl))
  | false=>
   rw[h2]at p2 hB
   have p3:=q [62]
   cases h3:s==[62] with
   | true=>
    rw[h3]at p3
    exact fin (ac p1 rfl (go (ac p2 rfl (go (ae p3 rfl (go (aq (aj yq (vs:=[.s val]) (kw:=[]) (ws:=[.ref 2,.s val]) rfl rfl rfl rfl a1 rfl (yb d hv hd hc h0 h9 ho))) rfl)) rfl)) rfl))
   | false=>
    rw[h3]at p3 hB
    have p4:=q [124]
    cases h4:s==[124] with
    | true=>
     rw[h4]at p4
     exact fin (ac p1 rfl (go (ac p2 rfl (go (ac p3 rfl (go (ae p4 rfl (go (aq (aj yp (vs:=[.s val]) (kw:=[]) (ws:=[.ref 2,.s val]) rfl rfl rfl rfl a1 rfl (xL d hv hd hc h0 h9 ho))) rfl)) rfl)) rfl)) rfl))
    | false=>
     rw[h4]at p4 hB
     exact fin (ac p1 rfl (go (ac p2 rfl (go (ac p3 rfl (go (ac p4 rfl (go (aq (aj uV (vs:=[.s val,.o (!e.c.sk)]) (kw:=[]) (ws:=[.ref 2,.s val,.o (!e.c.sk)]) rfl rfl rfl rfl a2 rfl (xp d hv (hB rfl) hd hc ho))) rfl)) rfl)) rfl)) rfl))
end
noncomputable def Mi(x:B)(n:Int):Int:=match x with | .str s=>n+(s.length:Int) | _=>n
noncomputable def bh(x y:B):B:=match x with | .nul=>y | _=>x
structure Nd where
 k:Nat
 f:List (Nat×B)
 IB:B
 tag:B
 sc:Bool
 val:Tx
structure Nd.Ok(n:Nd):Prop where
 node:Ji [1] n.k=true
 la:n.f.lookup 96=some n.IB
 ha:dm n.IB
 lt:Ji [9,2] n.k=true->n.f.lookup 97=some n.tag
 nt:Ji [9,2] n.k=false->n.tag=.nul
 ht:JK n.tag
 s9:Ji [9] n.k=n.sc
 lv:n.sc=true->n.f.lookup 99=some (.str n.val)
 hl:n.val.length < 390
noncomputable def Nd.V(n:Nd):V:=.rc n.k n.f
noncomputable def Nd.len(n:Nd):Int:=bif n.sc then Mi n.tag (Mi n.IB 0)+(n.val.length:Int) else Mi n.tag (Mi n.IB 0)
noncomputable def Nd.key(n:Nd)(wide:B)(evs:List Internal.V):Bool:=decide (n.len < 128)&&(Ji [8] n.k||((n.sc&&(!NH n.val&&!NG n.val wide))||((Ji [10] n.k&&ax 11 evs)||(Ji [12] n.k&&ax 13 evs))))
noncomputable def Nd.ms(n:Nd)(wide:B)(m:Ms):Ms:=⟨m.LA,bh n.IB m.IB,bh n.tag m.tag,bif n.sc then Jp n.val wide else m.Jp,m.IV⟩
section
variable{e:Em}{g:List Ob}{n:Nd}
theorem oV(d:Nat)(h:e.k.event=n.V)(ok:n.Ok)(hr:LZ e.k.events)(hp:aZ e g)(h1:e.m.IB=.nul∨e.m.IB=n.IB)(h2:e.m.tag=.nul∨e.m.tag=n.tag)(h3:e.m.Jp=.b .nul∨e.m.Jp=Jp n.val e.o.wide){P:Prop}
  (post:∀x v,(IH (d+2)).IG 32 [.ref 2] (Iy e g)=some (v,Iy (e.M (n.ms e.o.wide e.m)) (g++x))->truth (Iy (e.M (n.ms e.o.wide e.m)) (g++x)) v=some (n.key e.o.wide e.k.events)->P):P:=by
 obtain⟨k,f,IB,tag,sc,val⟩:=n
 have h:e.k.event=.rc k f:=h
 have la:f.lookup 96=some IB:=ok.la
 have ha:dm IB:=ok.ha
 have s9:Ji [9] k=sc:=ok.s9
 have sA:Es (d+1) (Lo (ak 1 zj)) [.ref 2,.i 0] (Iy e g) [.ref 2,.i (Mi IB 0)] (Iy (e.M (e.m.Jb (bh IB e.m.IB))) g):=by
  have t0:Tr (IH (d+1)) FL [.ref 2,.i 0] (Iy e g) (Ji [1] k&&!isNul IB):=(Tr.bl (ao (d+1) rfl h)).and λJ=>Tr.bl (by
   rcases ha with rfl | ⟨a,rfl,_⟩ <;> exact Iz (Jh rfl h la) rfl)
  rw[show Ji [1] k=true from ok.node]at t0
  rcases ha with rfl | ⟨a,rfl,hA,hL⟩
  ·rw[fz (m:=e.m.Jb (bh .nul e.m.IB)) rfl]
   exact t0.no rfl
  ·have s1:=z3 (e:=e) (g:=g) (l:=[.ref 2,.i 0]) d (n:=0) rfl h la hA (Nat.lt_trans hL (by decide)) h1
   exact t0.yes (go s1 (go rfl rfl))
 have hE:(e.M (e.m.Jb (bh IB e.m.IB))).k.event=.rc k f:=h
 have Pd:aZ (e.M (e.m.Jb (bh IB e.m.IB))) g:=m7 (w:=e.w) rfl hp
 have tE:∀{Q:Prop},(∀x,Es (d+1) (Lo (ak 2 zj)) [.ref 2,.i (Mi IB 0)] (Iy (e.M (e.m.Jb (bh IB e.m.IB))) g) [.ref 2,.i (Mi tag (Mi IB 0))] (Iy (e.M ((e.m.Jb (bh IB e.m.IB)).setTag (bh tag e.m.tag))) (g++x))->Q)->Q:=by
  intro Q q
  have e1:(e.m.Jb (bh IB e.m.IB)).tag=e.m.tag:=rfl
  generalize Mi IB 0=n0 at q ⊢
  generalize e.m.Jb (bh IB e.m.IB)=m1 at q hE Pd e1
  have same:m1.setTag (bh .nul e.m.tag)=m1:=by show m1.setTag e.m.tag=m1;unfold Ms.setTag;rw[<- e1]
  have t0:Tr (IH (d+1)) (.and (.u1 (.Kp true [9,2]) I5) (.u1 (.isNone false) (.u1 (.Jn 97) I5))) [.ref 2,.i n0] (Iy (e.M m1) g) (Ji [9,2] k&&!isNul tag):=(Tr.bl (ao (d+1) rfl hE)).and λhk=>Tr.bl (by
   have hT:=ok.ht
   have lt:f.lookup 97=some tag:=ok.lt hk
   rcases (show JK tag from hT) with rfl | ⟨a,rfl,_⟩ <;> exact Iz (Jh rfl hE lt) rfl)
  cases hk:Ji [9,2] k with
  | false=>
   have hn:tag=.nul:=ok.nt hk
   rw[hk]at t0
   rw[hn]at q
   rw[same]at q
   exact q [] (by rw[mh];exact t0.no rfl)
  | true=>
   have lt:f.lookup 97=some tag:=ok.lt hk
   rw[hk]at t0
   rcases (show JK tag from ok.ht) with rfl | ⟨a,rfl,hA⟩
   ·rw[same]at q
    exact q [] (by rw[mh];exact t0.no rfl)
   ·refine z0 (e:=e.M m1) (g:=g) (l:=[.ref 2,.i n0]) d rfl (Jh rfl hE lt) hA Pd (h2.imp (λx=>e1.trans x) λx=>e1.trans x) λx s1=>q x ?_
    exact t0.yes (go s1 (go rfl rfl))
 refine tE λx sT=>?_
 have hE2:(e.M ((e.m.Jb (bh IB e.m.IB)).setTag (bh tag e.m.tag))).k.event=.rc k f:=h
 have sV:Es (d+1) (Lo (ak 3 zj)) [.ref 2,.i (Mi tag (Mi IB 0))] (Iy (e.M ((e.m.Jb (bh IB e.m.IB)).setTag (bh tag e.m.tag))) (g++x)) [.ref 2,.i (Nd.len ⟨k,f,IB,tag,sc,val⟩)] (Iy (e.M (Nd.ms ⟨k,f,IB,tag,sc,val⟩ e.o.wide e.m)) (g++x)):=by
  have q9:=ao (e:=e.M ((e.m.Jb (bh IB e.m.IB)).setTag (bh tag e.m.tag))) (g:=g++x) (l:=[.ref 2,.i (Mi tag (Mi IB 0))]) (d+1) (y:=false) (cs:=[9]) rfl hE2
  rw[s9]at q9
  cases sc with
  | false=>exact ac q9 rfl rfl
  | true=>
   have s1:=mC (e:=e.M ((e.m.Jb (bh IB e.m.IB)).setTag (bh tag e.m.tag))) (g:=g++x) (l:=[.ref 2,.i (Mi tag (Mi IB 0))]) d rfl hE2 (ok.lv rfl) ok.hl h3
   have q2:Ep (d+1) (.u1 .len Pg) [.ref 2,.i (Mi tag (Mi IB 0))] (Iy (e.M (((e.m.Jb (bh IB e.m.IB)).setTag (bh tag e.m.tag)).IZ (Jp val e.o.wide))) (g++x)) (.i val.length):=
    Iz (cx rfl (iw val e.o.wide) rfl) rfl
   exact ae q9 rfl (go s1 (go (Iz (a:=.i (Mi tag (Mi IB 0))) rfl (Iz q2 rfl)) rfl))
 have hE3:(e.M (Nd.ms ⟨k,f,IB,tag,sc,val⟩ e.o.wide e.m)).k.event=.rc k f:=h
 have tr:Tr (IH (d+1)) I57 [.ref 2,.i (Nd.len ⟨k,f,IB,tag,sc,val⟩)] (Iy (e.M (Nd.ms ⟨k,f,IB,tag,sc,val⟩ e.o.wide e.m)) (g++x)) (Nd.key ⟨k,f,IB,tag,sc,val⟩ e.o.wide e.k.events):=by
  refine(Tr.bl rfl).and λJ=>(Tr.bl (ao (d+1) rfl hE3)).or (Tr.or (u:=sc&&(!NH val&&!NG val e.o.wide)) ?_ ((pv d rfl hE3 hr).or (pt d rfl hE3 hr)))
  have i9:=ao (e:=e.M (Nd.ms ⟨k,f,IB,tag,sc,val⟩ e.o.wide e.m)) (g:=g++x) (l:=[.ref 2,.i (Nd.len ⟨k,f,IB,tag,sc,val⟩)]) (d+1) (y:=false) (cs:=[9]) rfl hE3
  rw[s9]at i9
  refine(Tr.bl i9).and λhs=>?_
  subst hs
  have hA:(e.M (Nd.ms ⟨k,f,IB,tag,true,val⟩ e.o.wide e.m)).m.Jp=anV val (NH val) (NG val e.o.wide) (Oa val e.o.wide) (Oc val e.o.wide) (OW val e.o.wide) (OX val e.o.wide):=iw val e.o.wide
  exact(Tr.bl (Tr.bl (cx rfl hA rfl)).not).and λJ=>Tr.bl (Tr.bl (cx rfl hA rfl)).not
 obtain⟨v,hv,hb,hu⟩:=tr
 exact post x v (ap (f:=uY) (l:=[.ref 2,.i (Nd.len ⟨k,f,IB,tag,sc,val⟩)]) rfl (go (l':=[.ref 2,.i 0]) (II:=Iy e g) rfl (go sA (go sT (go sV (J0 (kh (Option.map _) hv)))))) hu) hb
end
noncomputable def Sk.st(k:Sk)(x:V):Sk:=⟨x,k.event,k.IC,k.events,k.ID⟩
noncomputable def Sk.O5(k:Sk)(x:List V):Sk:=⟨k.state,k.event,x,k.events,k.ID⟩
noncomputable def Sk.KP(k:Sk)(x:List V):Sk:=⟨k.state,k.event,k.IC,k.events,x⟩
noncomputable def Ct.lv(c:Ct)(x:Int):Ct:=⟨c.indent,x,c.root,c.sq,c.mp,c.sk⟩
section
variable{e:Em}{g:List Ob}{l:List V}
theorem bW{c:Cx}{S:List V}{s:V}(h0:l[0]?=some (.ref 2))(h:e.k.IC=S++[s])(hs:ab s=false):Ja c (.IP 67 I0 (.u1 (.pop false) Nn)) l (Iy e g)=some (.next,l,Iy (e.K ((e.k.st s).O5 S)) g):=by
 have q:IK c (.u1 (.pop false) Nn) l (Iy e g)=some (s,Iy (e.K (e.k.O5 S)) g):=by
  refine Iz (a:=(.ref 3,Iy e g)) (Iz (au h0) rfl) (Iz (a:=(3,e.k.IC)) rfl ?_)
  show Option.map (λx=>(x,dK (Iy e g) 3 (.lst e.k.IC.dropLast))) e.k.IC.getLast?=_
  rw[h,List.getLast?_append,List.dropLast_concat];rfl
 refine Iz q (Iz (au h0) ?_)
 show Option.map _ (ag (decide ((L6 e).length < 100)&&decide (67 < 128)&&!ab s) _)=_
 rw[hs];rfl
theorem cA{c:Cx}{I:List V}{x:B}(h0:l[0]?=some (.ref 2))(h:e.k.ID=I++[.b x]):Ja c Qo l (Iy e g)=some (.next,l,Iy ((e.C (e.c.ind x)).K (e.k.KP I)) g):=by
 have q:IK c (.u1 (.pop false) (.u1 (.Jn 70) I0)) l (Iy e g)=some (.b x,Iy (e.K (e.k.KP I)) g):=by
  refine Iz (a:=(.ref 5,Iy e g)) (Iz (au h0) rfl) (Iz (a:=(5,e.k.ID)) rfl ?_)
  show Option.map (λx=>(x,dK (Iy e g) 5 (.lst e.k.ID.dropLast))) e.k.ID.getLast?=_
  rw[h,List.getLast?_append,List.dropLast_concat];rfl
 exact Iz q (Iz (au h0) rfl)
theorem tS{c:Cx}{j:Nat}(h0:l[0]?=some (.ref 2))(hj:((L6 e).lookup j).isNone=true):IK c (.u1 (.Lh j) I0) l (Iy e g)=some (.IA j 2,Iy e g):=
 Iz (au h0) (by show ag ((0:Nat)==0&&((L6 e).lookup j).isNone) (V.IA j 2,Iy e g)=_;rw[hj];rfl)
theorem aW{c:Cx}{j:Nat}(h0:l[0]?=some (.ref 2))(hj:((L6 e).lookup j).isNone=true)(hl:e.k.IC.length < IU):Ja c (.app Nn (.u1 (.Lh j) I0)) l (Iy e g)=some (.next,l,Iy (e.K (e.k.O5 (e.k.IC++[.IA j 2]))) g):=
 fc (k:=3) (xs:=e.k.IC) (ys:=e.k.IC) (v:=.IA j 2) (s1:=Iy e g) (Iz (au h0) rfl) rfl (tS h0 hj) rfl hl rfl
theorem bH{c:Cx}{j:Nat}(h0:l[0]?=some (.ref 2))(hj:((L6 e).lookup j).isNone=true):Ja c (.IP 67 I0 (.u1 (.Lh j) I0)) l (Iy e g)=some (.next,l,Iy (e.K (e.k.st (.IA j 2))) g):=
 Iz (tS h0 hj) (Iz (au h0) rfl)
theorem xi(d:Nat){val s:Tx}{S:List V}{t:V}(hv:val.length < 390)(ha:e.m.Jp=Jp val e.o.wide)(hs:e.m.IV=.str s)(hd:IM e.c.indent)(hd':IM (cD e.c.indent e.o.bi true false))(hc:0<=e.w.col)(h0:0<=e.o.bi)(h9:e.o.bi<=9)(ho:e.ok (ci val))(hE:(s==[34])=true->ic e.o.wide val)(hB:(s==[34]||(s==[39]||(s==[62]||s==[124])))=false->dF val)
  (hI:e.k.ID.length < IU) (hS:e.k.IC=S++[t]) (ht:ab t=false):(IH (d+6)).IG 12 [.ref 2] (Iy e g)=some (.b .nul,Iy (((e.W (e.w.Kb val s (ai (cD e.c.indent e.o.bi true false)) e.o.bi e.o.bw e.o.lb e.c.sk e.c.root e.o.wide)).M ((e.m.IZ (.b .nul)).Jt .nul)).K ((e.k.st t).O5 S)) g):=by
 have s1:=eO (e:=e) (g:=g) (d+4) true false hd hI
 have s2:=xn (e:=(e.C (e.c.ind (cD e.c.indent e.o.bi true false))).K (e.k.MF (.b e.c.indent))) (g:=g) d hv ha hs hd' hc h0 h9 ho hE hB
 refine aa (f:=yK) (l:=[.ref 2]) rfl (go (aq (aj ON (vs:=[]) (kw:=[(1,.tt)]) (ws:=[.ref 2,.tt,.ff]) rfl rfl rfl rfl rfl rfl s1)) (go (aq (aj yy (vs:=[]) (kw:=[]) (ws:=[.ref 2]) rfl rfl rfl rfl rfl rfl s2)) (go (cA (I:=e.k.ID) (x:=e.c.indent) rfl rfl) ?_)))
 exact go (bW (S:=S) (s:=t) rfl hS ht) rfl
noncomputable def Em.LD(e:Em)(c:Nat)(st:Nat):Em:=((e.W (e.w.sgn [c] true true false)).C ((e.c.lv (e.c.lvl+1)).ind (cD e.c.indent e.o.bi true false))).K ((e.k.KP (e.k.ID++[.b e.c.indent])).st (.IA st 2))
theorem DE(d:Nat)(hd:IM e.c.indent)(ho:e.ok 1)(hI:e.k.ID.length < IU):(IH (d+3)).IG 13 [.ref 2] (Iy e g)=some (.b .nul,Iy (e.LD 91 14) g):=by
 have s1:=bC (e:=e) (g:=g) d [91] true true false (by decide) ho
 have s2:=eO (e:=(e.W (e.w.sgn [91] true true false)).C (e.c.lv (e.c.lvl+1))) (g:=g) (d+1) true false hd hI
 exact aa (f:=yJ) (l:=[.ref 2]) rfl (go (aq (aj eF (vs:=[.s [91],.tt]) (kw:=[(3,.tt)]) (ws:=[.ref 2,.s [91],.tt,.tt,.ff]) rfl rfl rfl rfl rfl rfl s1)) (go (l':=[.ref 2]) (II:=Iy ((e.W (e.w.sgn [91] true true false)).C (e.c.lv (e.c.lvl+1))) g) rfl (go (aq (aj ON (vs:=[]) (kw:=[(1,.tt)]) (ws:=[.ref 2,.tt,.ff]) rfl rfl rfl rfl rfl rfl s2)) (go (bH rfl rfl) rfl))))
theorem DD(d:Nat)(hd:IM e.c.indent)(ho:e.ok 1)(hI:e.k.ID.length < IU):(IH (d+3)).IG 16 [.ref 2] (Iy e g)=some (.b .nul,Iy (e.LD 123 17) g):=by
 have s1:=bC (e:=e) (g:=g) d [123] true true false (by decide) ho
 have s2:=eO (e:=(e.W (e.w.sgn [123] true true false)).C (e.c.lv (e.c.lvl+1))) (g:=g) (d+1) true false hd hI
 exact aa (f:=yG) (l:=[.ref 2]) rfl (go (aq (aj eF (vs:=[.s [123],.tt]) (kw:=[(3,.tt)]) (ws:=[.ref 2,.s [123],.tt,.tt,.ff]) rfl rfl rfl rfl rfl rfl s1)) (go (l':=[.ref 2]) (II:=Iy ((e.W (e.w.sgn [123] true true false)).C (e.c.lv (e.c.lvl+1))) g) rfl (go (aq (aj ON (vs:=[]) (kw:=[(1,.tt)]) (ws:=[.ref 2,.tt,.ff]) rfl rfl rfl rfl rfl rfl s2)) (go (bH rfl rfl) rfl))))
noncomputable def Em.Lg(e:Em)(less:Bool)(st:Nat):Em:=(e.C (e.c.ind (cD e.c.indent e.o.bi false less))).K ((e.k.KP (e.k.ID++[.b e.c.indent])).st (.IA st 2))
theorem DC(d:Nat)(hd:IM e.c.indent)(hI:e.k.ID.length < IU):(IH (d+2)).IG 21 [.ref 2] (Iy e g)=some (.b .nul,Iy (e.Lg (e.c.mp&&!e.w.ind) 22) g):=by
 have s2:=eO (e:=e) (g:=g) d false (e.c.mp&&!e.w.ind) hd hI
 exact aa (f:=yD) (l:=[.ref 2,.o (e.c.mp&&!e.w.ind)]) rfl (go (bg (bB rfl rfl)) (go (aq (aj ON (vs:=[]) (kw:=[(1,.ff),(2,.o (e.c.mp&&!e.w.ind))]) (ws:=[.ref 2,.ff,.o (e.c.mp&&!e.w.ind)]) rfl rfl rfl rfl rfl rfl s2)) (go (bH rfl rfl) rfl)))
theorem DB(d:Nat)(hd:IM e.c.indent)(hI:e.k.ID.length < IU):(IH (d+2)).IG 24 [.ref 2] (Iy e g)=some (.b .nul,Iy (e.Lg false 25) g):=by
 have s2:=eO (e:=e) (g:=g) d false false hd hI
 exact aa (f:=yC) (l:=[.ref 2]) rfl (go (aq (aj ON (vs:=[]) (kw:=[(1,.ff)]) (ws:=[.ref 2,.ff,.ff]) rfl rfl rfl rfl rfl rfl s2)) (go (bH rfl rfl) rfl))
end
structure NK(e:Em)(n:Nat):Prop where
 ok:e.ok n
 col:0<=e.w.col
 ind:e.c.indent=.nul∨∃i:Int,e.c.indent=.int i/\i<=1900
 b0:0<=e.o.bi
 b9:e.o.bi<=9
 KP:e.k.ID.length < IU
theorem NK.L4{e:Em}{n:Nat}(h:NK e n):IM e.c.indent:=h.ind.imp id λ⟨i,h1,h2⟩=>⟨i,h1,Int.le_trans h2 (by decide)⟩
theorem NK.inc{e:Em}{n:Nat}(h:NK e n)(a b:Bool):IM (cD e.c.indent e.o.bi a b):=by
 have b9:=h.b9
 rcases h.ind with h1 | ⟨i,h1,h2⟩
 ·rw[h1]
  cases a with
  | true=>exact .inr ⟨_,rfl,by omega⟩
  | false=>exact .inr ⟨_,rfl,by decide⟩
 ·rw[h1]
  cases b with
  | true=>exact .inr ⟨_,rfl,by omega⟩
  | false=>exact .inr ⟨_,rfl,by omega⟩
noncomputable def strOf:B->Tx | .str s=>s | _=>[]
noncomputable def Em.ctx(e:Em)(r s m k:Bool):Em:=e.C ⟨e.c.indent,e.c.lvl,r,s,m,k⟩
noncomputable def Em.JM(e:Em)(IB:B):Em:=(e.W (e.w.Ll [38] IB)).M (e.m.Jb .nul)
noncomputable def Em.Pj(e:Em)(tag:B)(i0 i1:Bool)(val:Tx)(IV:B):Em:=(e.W (e.w.tg (M9 e.o.IL tag (bc e val IV i0) i0 i1) (Nu tag i0))).M (((e.m.IZ (Jp val e.o.wide)).Jt (bc e val IV i0)).setTag .nul)
noncomputable def Em.Jr(e:Em)(tag:B)(imp:Bool):Em:=(e.W (e.w.tg (NQ e.o.IL tag imp) tag)).M (e.m.setTag .nul)
noncomputable def Em.Kb(e:Em)(val s:Tx):Em:=(e.W (e.w.Kb val s (ai (cD e.c.indent e.o.bi true false)) e.o.bi e.o.bw e.o.lb e.c.sk e.c.root e.o.wide)).M ((e.m.IZ (.b .nul)).Jt .nul)
noncomputable def Em.pop(e:Em)(S:List V)(s:V):Em:=e.K ((e.k.st s).O5 S)
theorem eC(w:Wr)(ind:Tx)(x:B):Gr w (w.Ll ind x) 1:=by
 unfold Wr.Ll
 cases x with
 | str a=>exact aS w _ _ _ _
 | _=>exact Gr.refl
theorem lE(w:Wr)(q:Bool)(x:B):Gr w (w.tg q x) 1:=by
 unfold Wr.tg
 cases q with
 | true=>exact Gr.refl
 | false=>cases x with
  | str a=>exact aS w _ _ _ _
  | _=>exact Gr.refl
section
variable{e:Em}{g:List Ob}{l:List V}
theorem gy(d:Nat)(r s m k:Bool){q:S}{R:JC}(kr:Ja (IH d) q (cL r s m k) (Iy (e.ctx r s m k) g)=R):Ja (IH d) (.cons (.IP 73 I0 I2) (.cons (.IP 74 I0 J3) (.cons (.IP 75 I0 J2) (.cons (.IP 76 I0 JR) q)))) (cL r s m k) (Iy e g)=R:=
 go (l':=(cL r s m k)) (II:=Iy (e.C ⟨e.c.indent,e.c.lvl,r,e.c.sq,e.c.mp,e.c.sk⟩) g) rfl <| go (l':=(cL r s m k)) (II:=Iy (e.C ⟨e.c.indent,e.c.lvl,r,s,e.c.mp,e.c.sk⟩) g) rfl <|
 go (l':=(cL r s m k)) (II:=Iy (e.C ⟨e.c.indent,e.c.lvl,r,s,m,e.c.sk⟩) g) rfl <| go (l':=(cL r s m k)) (II:=Iy (e.ctx r s m k) g) rfl kr
theorem xC(d:Nat)(r s m k:Bool){a:Tx}{S:List V}{t:V}(h:e.k.event=PN (.str a))(ha:fe a)(hl:a.length < 128)(hm:e.m.IB=.nul∨e.m.IB=.str a)(ho:e.ok 1)(hS:e.k.IC=S++[t])(ht:ab t=false) :
  (IH (d+5)).IG 10 (cL r s m k) (Iy e g)=some (.b .nul,Iy ((((e.ctx r s m k).W (e.w.Ll [42] (.str a))).M (e.m.Jb .nul)).pop S t) g):=by
 have q8:=ao (e:=e.ctx r s m k) (g:=g) (l:=cL r s m k) (d+4) (y:=false) (cs:=[8]) rfl h
 have s1:=gq (e:=e.ctx r s m k) (g:=g) d (ind:=[42]) (x:=.str a) (mf 1) h rfl (.inr ⟨a,rfl,ha,hl⟩) hm ho
 have s2:(IH (d+4)).IG 11 [.ref 2] (Iy (e.ctx r s m k) g)=some (.b .nul,Iy ((((e.ctx r s m k).W (e.w.Ll [42] (.str a))).M (e.m.Jb .nul)).pop S t) g):=
  aa (f:=yL) (l:=[.ref 2]) rfl (go (ac (v:=.ff) (Iz (Jh (e:=e.ctx r s m k) rfl h (rfl:List.lookup 96 [(96,B.str a),(108,.nul),(109,.nul)]=some (.str a))) rfl) rfl rfl) (go (aq (aj lK (vs:=[.s [42]]) (kw:=[]) (ws:=[.ref 2,.s [42]]) rfl rfl rfl rfl rfl rfl s1)) (go (bW (e:=((e.ctx r s m k).W (e.w.Ll [42] (.str a))).M (e.m.Jb .nul)) rfl hS ht) rfl)))
 exact aa (f:=iF) (l:=cL r s m k) rfl (gy (e:=e) (g:=g) (d+4) r s m k (go (ae q8 rfl (go (aq (aj yL (vs:=[]) (kw:=[]) (ws:=[.ref 2]) rfl rfl rfl rfl rfl rfl s2)) rfl)) rfl))
theorem xA(d:Nat)(r s m k:Bool){IB tag IV:B}{i0 i1:Bool}{val:Tx}{S:List V}{t:V}(h:e.k.event=LV IB tag i0 i1 val IV)(ha:dm IB)(hA:e.m.IB=.nul∨e.m.IB=IB)(hT:JK tag)(hm:e.m.tag=.nul∨e.m.tag=tag)(hn:e.m.IV=.nul)(hna:e.m.Jp=.b .nul∨e.m.Jp=Jp val e.o.wide)(hS:dH IV)(hl:val.length < 390)
  (hq:M9 e.o.IL tag (bc (e.ctx r s m k) val IV i0) i0 i1=false->Nu tag i0≠.nul) (hp:aZ e g) (ft:NK e (ci val+2)) (hE:isStr (bc (e.ctx r s m k) val IV i0) [34]=true->ic e.o.wide val) (hB:(strOf (bc (e.ctx r s m k) val IV i0)==[34]||(strOf (bc (e.ctx r s m k) val IV i0)==[39]||(strOf (bc (e.ctx r s m k) val IV i0)==[62]||strOf (bc (e.ctx r s m k) val IV i0)==[124])))=false->dF val) (Kz:e.k.IC=S++[t]) (ht:ab t=false) {P:Prop}
  (post:∀x,(IH (d+7)).IG 10 (cL r s m k) (Iy e g)=some (.b .nul,Iy (((((e.ctx r s m k).JM IB).Pj tag i0 i1 val IV).Kb val (strOf (bc (e.ctx r s m k) val IV i0))).pop S t) (g++x))->P):P:=by
 have o1:e.ok (1+(ci val+1)):=by rw[Nat.add_comm 1];exact ft.ok
 have q8:=ao (e:=e.ctx r s m k) (g:=g) (l:=cL r s m k) (d+6) (y:=false) (cs:=[8]) rfl h
 have q92:=ao (e:=e.ctx r s m k) (g:=g) (l:=cL r s m k) (d+6) (y:=true) (cs:=[9,2]) rfl h
 have s1:=gq (e:=e.ctx r s m k) (g:=g) (d+3) (ind:=[38]) (x:=IB) (mf 1) h rfl ha hA (kg (me (lw 1 _) _) o1)
 have g1:=eC e.w [38] IB
 have P5:((e.ctx r s m k).JM IB).ok (1+ci val):=(Nat.add_comm 1 (ci val))▸g1.ok (e:=e) o1
 have g2:=lE ((e.ctx r s m k).JM IB).w (M9 e.o.IL tag (bc (e.ctx r s m k) val IV i0) i0 i1) (Nu tag i0)
 have hz:=(sj IV i0 e.o.IL.truth (e.c.lvl != 0) k (NH val) (NG val e.o.wide) (Oa val e.o.wide) (Oc val e.o.wide) (OW val e.o.wide) (OX val e.o.wide) hS).2
 have hz:∃z,bc (e.ctx r s m k) val IV i0=.str z:=hz
 refine xm (e:=(e.ctx r s m k).JM IB) (g:=g) (d+2) (IV:=IV) (tag:=tag) (val:=val) h rfl rfl rfl rfl rfl hS hl hna hn hT hq (m7 (e:=e.ctx r s m k) (w:=e.w.Ll [38] IB) rfl hp) hm (kg (me (lw 1 _) _) P5) λx s2=>post x ?_
 obtain⟨z,hz⟩:=hz
 have ez:strOf (bc (e.ctx r s m k) val IV i0)=z:=by rw[hz];rfl
 rw[ez]at hB ⊢
 have s3:=xi (e:=((e.ctx r s m k).JM IB).Pj tag i0 i1 val IV) (g:=g++x) d (val:=val) (s:=z) (S:=S) (t:=t) hl rfl hz ft.L4 (ft.inc true false) (g2.1 (g1.1 ft.col)) ft.b0 ft.b9 (g2.ok (e:=(e.ctx r s m k).JM IB) P5) (λhh=>hE (by rw[hz];exact hh)) hB ft.KP Kz ht
 have q9:=ao (e:=((e.ctx r s m k).JM IB).Pj tag i0 i1 val IV) (g:=g++x) (l:=cL r s m k) (d+6) (y:=false) (cs:=[9]) rfl h
 exact aa (f:=iF) (l:=cL r s m k) rfl (gy (e:=e) (g:=g) (d+6) r s m k (go (ac q8 rfl (go (ae q92 rfl (go (aq (aj lK (vs:=[.s [38]]) (kw:=[]) (ws:=[.ref 2,.s [38]]) rfl rfl rfl rfl rfl rfl s1)) (go (aq (aj iD (vs:=[]) (kw:=[]) (ws:=[.ref 2]) rfl rfl rfl rfl rfl rfl s2)) (go (ae q9 rfl (go (aq (aj yK (vs:=[]) (kw:=[]) (ws:=[.ref 2]) rfl rfl rfl rfl rfl rfl s3)) rfl)) rfl)))) rfl)) rfl))
end
noncomputable def Em.Qh(e:Em)(fl:B)(c:Nat):Bool:=(e.c.lvl != 0)||(e.o.IL.truth||(fl.truth||ax c e.k.events))
section
variable{e:Em}{g:List Ob}{l:List V}
theorem xz(d:Nat)(r s m k:Bool){IB tag fl:B}{imp:Bool}(h:e.k.event=Lp 10 IB tag imp fl)(ha:dm IB)(hA:e.m.IB=.nul∨e.m.IB=IB)(hT:JK tag)(hm:e.m.tag=.nul∨e.m.tag=tag)(hq:NQ e.o.IL tag imp=false->tag≠.nul)(hp:aZ e g)(hr:LZ e.k.events)(ft:NK e 3){P:Prop}
  (post:∀x,(IH (d+4)).IG 10 (cL r s m k) (Iy e g)=some (.b .nul,Iy (bif e.Qh fl 11 then(((e.ctx r s m k).JM IB).Jr tag imp).LD 91 14 else(((e.ctx r s m k).JM IB).Jr tag imp).Lg (m&&!(((e.ctx r s m k).JM IB).Jr tag imp).w.ind) 22) (g++x))->P):P:=by
 have q8:=ao (e:=e.ctx r s m k) (g:=g) (l:=cL r s m k) (d+3) (y:=false) (cs:=[8]) rfl h
 have q92:=ao (e:=e.ctx r s m k) (g:=g) (l:=cL r s m k) (d+3) (y:=true) (cs:=[9,2]) rfl h
 have s1:=gq (e:=e.ctx r s m k) (g:=g) d (ind:=[38]) (x:=IB) (mf 1) h rfl ha hA (kg (me (by decide) _) ft.ok)
 have g1:=eC e.w [38] IB
 have P5:((e.ctx r s m k).JM IB).ok (1+1):=g1.ok (e:=e) ft.ok
 have g2:=lE ((e.ctx r s m k).JM IB).w (NQ e.o.IL tag imp) tag
 refine oB (e:=(e.ctx r s m k).JM IB) (g:=g) d (tag:=tag) (imp:=imp) h rfl rfl rfl hT hq (m7 (e:=e.ctx r s m k) (w:=e.w.Ll [38] IB) rfl hp) hm (mq P5) λx s2=>post x ?_
 have ok2:(((e.ctx r s m k).JM IB).Jr tag imp).ok 1:=g2.ok (e:=(e.ctx r s m k).JM IB) P5
 have q9:=ao (e:=((e.ctx r s m k).JM IB).Jr tag imp) (g:=g++x) (l:=cL r s m k) (d+3) (y:=false) (cs:=[9]) rfl h
 have q10:=ao (e:=((e.ctx r s m k).JM IB).Jr tag imp) (g:=g++x) (l:=cL r s m k) (d+3) (y:=false) (cs:=[10]) rfl h
 have q12:=ao (e:=((e.ctx r s m k).JM IB).Jr tag imp) (g:=g++x) (l:=cL r s m k) (d+3) (y:=false) (cs:=[12]) rfl h
 have t72:Tr (IH (d+3)) Ph (cL r s m k) (Iy (((e.ctx r s m k).JM IB).Jr tag imp) (g++x)) (e.c.lvl != 0):=Tr.of (x:=.int e.c.lvl) rfl
 have t82:Tr (IH (d+3)) MQ (cL r s m k) (Iy (((e.ctx r s m k).JM IB).Jr tag imp) (g++x)) e.o.IL.truth:=Tr.of (x:=e.o.IL) rfl
 have t95:Tr (IH (d+3)) rJ (cL r s m k) (Iy (((e.ctx r s m k).JM IB).Jr tag imp) (g++x)) fl.truth:=Tr.of (x:=fl) (Jh (e:=((e.ctx r s m k).JM IB).Jr tag imp) rfl h rfl)
 have tE:Tr (IH (d+3)) (.or Ph (.or MQ (.or rJ (.call 29 I0 .nil)))) (cL r s m k) (Iy (((e.ctx r s m k).JM IB).Jr tag imp) (g++x)) (e.Qh fl 11):=t72.or (t82.or (t95.or (pv (e:=((e.ctx r s m k).JM IB).Jr tag imp) (g:=g++x) (d+2) rfl h hr)))
 have fin:∀{E:Em},Es (d+3) I89 (cL r s m k) (Iy (((e.ctx r s m k).JM IB).Jr tag imp) (g++x)) (cL r s m k) (Iy E (g++x))->(IH (d+4)).IG 10 (cL r s m k) (Iy e g)=some (.b .nul,Iy E (g++x)):=λ{E} h3=>
  aa (f:=iF) (l:=cL r s m k) rfl (gy (e:=e) (g:=g) (d+3) r s m k (go (ac q8 rfl (go (ae q92 rfl (go (aq (aj lK (vs:=[.s [38]]) (kw:=[]) (ws:=[.ref 2,.s [38]]) rfl rfl rfl rfl rfl rfl s1)) (go (aq (aj iD (vs:=[]) (kw:=[]) (ws:=[.ref 2]) rfl rfl rfl rfl rfl rfl s2)) (go (ac q9 rfl (go (ae q10 rfl (go h3 rfl)) rfl)) rfl)))) rfl)) rfl))
 cases hF:e.Qh fl 11 with
 | true=>
  rw[hF]at tE
  exact fin (tE.yes (go (aq (aj yJ (vs:=[]) (kw:=[]) (ws:=[.ref 2]) rfl rfl rfl rfl rfl rfl (DE (e:=((e.ctx r s m k).JM IB).Jr tag imp) (g:=g++x) d ft.L4 ok2 ft.KP))) rfl))
 | false=>
  rw[hF]at tE
  exact fin (tE.no (go (aq (aj yD (vs:=[]) (kw:=[]) (ws:=[.ref 2]) rfl rfl rfl rfl rfl rfl (DC (e:=((e.ctx r s m k).JM IB).Jr tag imp) (g:=g++x) (d+1) ft.L4 ft.KP))) rfl))
theorem xB(d:Nat)(r s m k:Bool){IB tag fl:B}{imp:Bool}(h:e.k.event=Lp 12 IB tag imp fl)(ha:dm IB)(hA:e.m.IB=.nul∨e.m.IB=IB)(hT:JK tag)(hm:e.m.tag=.nul∨e.m.tag=tag)(hq:NQ e.o.IL tag imp=false->tag≠.nul)(hp:aZ e g)(hr:LZ e.k.events)(ft:NK e 3){P:Prop}
  (post:∀x,(IH (d+4)).IG 10 (cL r s m k) (Iy e g)=some (.b .nul,Iy (bif e.Qh fl 13 then(((e.ctx r s m k).JM IB).Jr tag imp).LD 123 17 else(((e.ctx r s m k).JM IB).Jr tag imp).Lg false 25) (g++x))->P):P:=by
 have q8:=ao (e:=e.ctx r s m k) (g:=g) (l:=cL r s m k) (d+3) (y:=false) (cs:=[8]) rfl h
 have q92:=ao (e:=e.ctx r s m k) (g:=g) (l:=cL r s m k) (d+3) (y:=true) (cs:=[9,2]) rfl h
 have s1:=gq (e:=e.ctx r s m k) (g:=g) d (ind:=[38]) (x:=IB) (mf 1) h rfl ha hA (kg (me (by decide) _) ft.ok)
 have g1:=eC e.w [38] IB
 have P5:((e.ctx r s m k).JM IB).ok (1+1):=g1.ok (e:=e) ft.ok
 have g2:=lE ((e.ctx r s m k).JM IB).w (NQ e.o.IL tag imp) tag
 refine oB (e:=(e.ctx r s m k).JM IB) (g:=g) d (tag:=tag) (imp:=imp) h rfl rfl rfl hT hq (m7 (e:=e.ctx r s m k) (w:=e.w.Ll [38] IB) rfl hp) hm (mq P5) λx s2=>post x ?_
 have ok2:(((e.ctx r s m k).JM IB).Jr tag imp).ok 1:=g2.ok (e:=(e.ctx r s m k).JM IB) P5
 have q9:=ao (e:=((e.ctx r s m k).JM IB).Jr tag imp) (g:=g++x) (l:=cL r s m k) (d+3) (y:=false) (cs:=[9]) rfl h
 have q10:=ao (e:=((e.ctx r s m k).JM IB).Jr tag imp) (g:=g++x) (l:=cL r s m k) (d+3) (y:=false) (cs:=[10]) rfl h
 have q12:=ao (e:=((e.ctx r s m k).JM IB).Jr tag imp) (g:=g++x) (l:=cL r s m k) (d+3) (y:=false) (cs:=[12]) rfl h
 have t72:Tr (IH (d+3)) Ph (cL r s m k) (Iy (((e.ctx r s m k).JM IB).Jr tag imp) (g++x)) (e.c.lvl != 0):=Tr.of (x:=.int e.c.lvl) rfl
 have t82:Tr (IH (d+3)) MQ (cL r s m k) (Iy (((e.ctx r s m k).JM IB).Jr tag imp) (g++x)) e.o.IL.truth:=Tr.of (x:=e.o.IL) rfl
 have t95:Tr (IH (d+3)) rJ (cL r s m k) (Iy (((e.ctx r s m k).JM IB).Jr tag imp) (g++x)) fl.truth:=Tr.of (x:=fl) (Jh (e:=((e.ctx r s m k).JM IB).Jr tag imp) rfl h rfl)
 have tE:Tr (IH (d+3)) (.or Ph (.or MQ (.or rJ (.call 30 I0 .nil)))) (cL r s m k) (Iy (((e.ctx r s m k).JM IB).Jr tag imp) (g++x)) (e.Qh fl 13):=t72.or (t82.or (t95.or (pt (e:=((e.ctx r s m k).JM IB).Jr tag imp) (g:=g++x) (d+2) rfl h hr)))
 have fin:∀{E:Em},Es (d+3) I90 (cL r s m k) (Iy (((e.ctx r s m k).JM IB).Jr tag imp) (g++x)) (cL r s m k) (Iy E (g++x))->(IH (d+4)).IG 10 (cL r s m k) (Iy e g)=some (.b .nul,Iy E (g++x)):=λ{E} h3=>
  aa (f:=iF) (l:=cL r s m k) rfl (gy (e:=e) (g:=g) (d+3) r s m k (go (ac q8 rfl (go (ae q92 rfl (go (aq (aj lK (vs:=[.s [38]]) (kw:=[]) (ws:=[.ref 2,.s [38]]) rfl rfl rfl rfl rfl rfl s1)) (go (aq (aj iD (vs:=[]) (kw:=[]) (ws:=[.ref 2]) rfl rfl rfl rfl rfl rfl s2)) (go (ac q9 rfl (go (ac q10 rfl (go (ae q12 rfl (go h3 rfl)) rfl)) rfl)) rfl)))) rfl)) rfl))
 cases hF:e.Qh fl 13 with
 | true=>
  rw[hF]at tE
  exact fin (tE.yes (go (aq (aj yG (vs:=[]) (kw:=[]) (ws:=[.ref 2]) rfl rfl rfl rfl rfl rfl (DD (e:=((e.ctx r s m k).JM IB).Jr tag imp) (g:=g++x) d ft.L4 ok2 ft.KP))) rfl))
 | false=>
  rw[hF]at tE
  exact fin (tE.no (go (aq (aj yC (vs:=[]) (kw:=[]) (ws:=[.ref 2]) rfl rfl rfl rfl rfl rfl (DB (e:=((e.ctx r s m k).JM IB).Jr tag imp) (g:=g++x) (d+1) ft.L4 ft.KP))) rfl))
end
noncomputable def aV(d k:Nat)(vs:List V)(e:Em)(g:List Ob)(E:Em):Prop:=∃x,(IH d).IG k vs (Iy e g)=some (.b .nul,Iy E (g++x))
noncomputable def bY(r s m k:Bool):List V:=(cL r s m k)
noncomputable def Em.push(e:Em)(j:Nat):Em:=e.K (e.k.O5 (e.k.IC++[.IA j 2]))
noncomputable def Em.IW(e:Em):Em:=e.W (e.w.IW (ai e.c.indent) e.o.lb)
noncomputable def Em.sgn(e:Em)(s:Tx)(a b c:Bool):Em:=e.W (e.w.sgn s a b c)
section
variable{e E:Em}{g:List Ob}{l:List V}
theorem iG{d:Nat}(h0:l[0]?=some (.ref 2))(hi:IM e.c.indent)(hc:0<=e.w.col)(ho:e.ok 2):Es (d+3) Oi l (Iy e g) l (Iy e.IW g):=
 aq (aj gf (vs:=[]) (kw:=[]) (ws:=[.ref 2]) h0 rfl rfl rfl rfl rfl (cT d hi hc ho))
theorem fy{d:Nat}{s:Tx}{a:Bool}(h0:l[0]?=some (.ref 2))(hs:s.length<=2000)(ho:e.ok 1):Es (d+2) (.expr (.call 46 I0 (.pos (.n0 (.cst (.str s))) (.pos (.n0 (.cst (.bool a))) .nil)))) l (Iy e g) l (Iy (e.sgn s a false false) g):=
 aq (aj eF (vs:=[.s s,.o a]) (kw:=[]) (ws:=[.ref 2,.s s,.o a,.ff,.ff]) h0 rfl rfl rfl rfl rfl (bC d s a false false hs ho))
theorem sQ{d:Nat}{s:Tx}{a:Bool}(h0:l[0]?=some (.ref 2))(hs:s.length<=2000)(ho:e.ok 1):Es (d+2) (.expr (.call 46 I0 (.pos (.n0 (.cst (.str s))) (.pos (.n0 (.cst (.bool a))) (.kw 4 I1 .nil))))) l (Iy e g) l (Iy (e.sgn s a false true) g):=
 aq (aj eF (vs:=[.s s,.o a]) (kw:=[(4,.tt)]) (ws:=[.ref 2,.s s,.o a,.ff,.tt]) h0 rfl rfl rfl rfl rfl (bC d s a false true hs ho))
theorem qw{d:Nat}{x:List Ob}(h0:l[0]?=some (.ref 2))(h:(IH d).IG 10 (bY false false true false) (Iy e g)=some (.b .nul,Iy E (g++x))):Es d (.expr (.call 10 I0 rG)) l (Iy e g) l (Iy E (g++x)):=
 aq (aj iF (vs:=[]) (kw:=[(3,.tt)]) (ws:=bY false false true false) h0 rfl rfl rfl rfl rfl h)
theorem Ac{d:Nat}{x:List Ob}(h0:l[0]?=some (.ref 2))(h:(IH d).IG 10 (bY false false true true) (Iy e g)=some (.b .nul,Iy E (g++x))):Es d CY l (Iy e g) l (Iy E (g++x)):=
 aq (aj iF (vs:=[]) (kw:=[(3,.tt),(4,.tt)]) (ws:=bY false false true true) h0 rfl rfl rfl rfl rfl h)
theorem tM{d:Nat}{x:List Ob}(h0:l[0]?=some (.ref 2))(h:(IH d).IG 10 (bY false true false false) (Iy e g)=some (.b .nul,Iy E (g++x))):Es d C2 l (Iy e g) l (Iy E (g++x)):=
 aq (aj iF (vs:=[]) (kw:=[(2,.tt)]) (ws:=bY false true false false) h0 rfl rfl rfl rfl rfl h)
theorem GR{d:Nat}(ho:e.ok 1)(hS:e.k.IC.length < IU)(h:aV (d+2) 10 (bY false false true false) ((e.sgn [58] false false false).push 18) g E):aV (d+3) 19 [.ref 2] e g E:=
 h.imp λx h=>aa (f:=Cd) (l:=[.ref 2]) rfl (go (fy rfl (by decide) ho) (go (aW rfl rfl hS) (go (qw rfl h) rfl)))
theorem GM{d:Nat}(ho:e.ok 1)(hS:e.k.IC.length < IU)(h:aV (d+2) 10 (bY false false true false) ((e.sgn [58] false false false).push 26) g E):aV (d+3) 27 [.ref 2] e g E:=
 h.imp λx h=>aa (f:=B9) (l:=[.ref 2]) rfl (go (fy rfl (by decide) ho) (go (aW rfl rfl hS) (go (qw rfl h) rfl)))
theorem okD{n:Nat}(h:e.ok (2+n)):e.IW.ok n:=(bE e.w _ _).ok h
theorem GK{d:Nat}(hi:IM e.c.indent)(hc:0<=e.w.col)(ho:e.ok 3)(hS:e.k.IC.length < IU)(h:aV (d+3) 10 (bY false false true false) ((e.IW.sgn [58] true false true).push 26) g E):aV (d+4) 28 [.ref 2] e g E:=
 h.imp λx h=>aa (f:=B8) (l:=[.ref 2]) rfl (go (iG rfl hi hc (mq ho)) (go (sQ rfl (by decide) (okD ho)) (go (aW rfl rfl hS) (go (qw rfl h) rfl))))
noncomputable def Em.clo(e:Em)(x:B)(I S:List V)(t:V):Em:=((e.C (e.c.ind x)).K (e.k.KP I)).pop S t
variable{k:Nat}{f:List (Nat×B)}
theorem Di{d:Nat}(first:Bool)(hv:e.k.event=.rc k f)(hk:(!first&&Ji [11] k)=false)(hi:IM e.c.indent)(hc:0<=e.w.col)(ho:e.ok 3)(hS:e.k.IC.length < IU)(h:aV (d+3) 10 (bY false true false false) ((e.IW.sgn [45] true false true).push 23) g E):aV (d+4) 23 [.ref 2,.o first] e g E:=by
 have q:Tr (IH (d+3)) (.and fS wv) [.ref 2,.o first] (Iy e g) (!first&&Ji [11] k):=(Tr.bl rfl).and λJ=>Tr.bl (ao (d+3) rfl hv)
 rw[hk]at q
 exact h.imp λx h=>aa (f:=uZ) (l:=[.ref 2,.o first]) rfl (go (q.no (go (iG rfl hi hc (mq ho)) (go (sQ rfl (by decide) (okD ho)) (go (aW rfl rfl hS) (go (tM rfl h) rfl))))) rfl)
theorem ES{d:Nat}(hv:e.k.event=.rc k f)(hk:Ji [11] k=true){x:B}{I S:List V}{t:V}(hI:e.k.ID=I++[.b x])(hS:e.k.IC=S++[t])(ht:ab t=false):aV (d+1) 23 [.ref 2,.ff] e g (e.clo x I S t):=by
 have q:Tr (IH d) (.and fS wv) [.ref 2,.ff] (Iy e g) (!false&&Ji [11] k):=(Tr.bl rfl).and λJ=>Tr.bl (ao d rfl hv)
 rw[hk]at q
 refine⟨[],?_⟩
 rw[mh]
 exact aa (f:=uZ) (l:=[.ref 2,.ff]) rfl (go (q.yes (go (cA rfl hI) (go (bW (e:=(e.C (e.c.ind x)).K (e.k.KP I)) rfl hS ht) rfl))) rfl)
theorem GP{d:Nat}(h:aV d 23 [.ref 2,.tt] e g E):aV (d+1) 22 [.ref 2] e g E:=
 h.imp λx h=>ap (f:=Cb) (l:=[.ref 2]) rfl (aR (aj uZ (vs:=[]) (kw:=[(1,.tt)]) (ws:=[.ref 2,.tt]) rfl rfl rfl rfl rfl rfl h) .nil) rfl
theorem GO{d:Nat}(h:aV d 26 [.ref 2,.tt] e g E):aV (d+1) 25 [.ref 2] e g E:=
 h.imp λx h=>ap (f:=Ca) (l:=[.ref 2]) rfl (aR (aj rd (vs:=[]) (kw:=[(1,.tt)]) (ws:=[.ref 2,.tt]) rfl rfl rfl rfl rfl rfl h) .nil) rfl
theorem ER{d:Nat}(hv:e.k.event=.rc k f)(hk:Ji [13] k=true){x:B}{I S:List V}{t:V}(hI:e.k.ID=I++[.b x])(hS:e.k.IC=S++[t])(ht:ab t=false):aV (d+1) 26 [.ref 2,.ff] e g (e.clo x I S t):=by
 have q:Tr (IH d) (.and fS wu) [.ref 2,.ff] (Iy e g) (!false&&Ji [13] k):=(Tr.bl rfl).and λJ=>Tr.bl (ao d rfl hv)
 rw[hk]at q
 refine⟨[],?_⟩
 rw[mh]
 exact aa (f:=rd) (l:=[.ref 2,.ff]) rfl (go (q.yes (go (cA rfl hI) (go (bW (e:=(e.C (e.c.ind x)).K (e.k.KP I)) rfl hS ht) rfl))) rfl)
theorem GN{d:Nat}(first:Bool){n:Nd}(hv:e.k.event=n.V)(hk:(!first&&Ji [13] n.k)=false)(hi:IM e.c.indent)(hc:0<=e.w.col)(ho:e.ok 3)(hS:e.k.IC.length < IU)(ok:n.Ok)(hr:LZ e.k.events)(hp:aZ e g)(h1:e.m.IB=.nul∨e.m.IB=n.IB)(h2:e.m.tag=.nul∨e.m.tag=n.tag)(h3:e.m.Jp=.b .nul∨e.m.Jp=Jp n.val e.o.wide)
  (ht:n.key e.o.wide e.k.events=true->∀x,aV (d+3) 10 (bY false false true true) ((e.IW.M (n.ms e.o.wide e.m)).push 27) (g++x) E)
  (hf:n.key e.o.wide e.k.events=false->∀x,aV (d+3) 10 (bY false false true false) (((e.IW.M (n.ms e.o.wide e.m)).sgn [63] true false true).push 28) (g++x) E):aV (d+4) 26 [.ref 2,.o first] e g E:=by
 have q:Tr (IH (d+3)) (.and fS wu) [.ref 2,.o first] (Iy e g) (!first&&Ji [13] n.k):=(Tr.bl rfl).and λJ=>Tr.bl (ao (d+3) rfl hv)
 rw[hk]at q
 refine oV (e:=e.IW) (g:=g) (d+1) (n:=n) hv ok hr (m7 (w:=e.IW.w) rfl hp) h1 h2 h3 λx v PB hb=>?_
 have hq:Ev (d+3) (.call 32 I0 .nil) [.ref 2,.o first] (Iy e.IW g) v (Iy (e.IW.M (n.ms e.o.wide e.m)) (g++x)):=aj uY (vs:=[]) (kw:=[]) (ws:=[.ref 2]) rfl rfl rfl rfl rfl rfl PB
 have hb:truth (Iy (e.IW.M (n.ms e.o.wide e.m)) (g++x)) v=some (n.key e.o.wide e.k.events):=hb
 cases hK:n.key e.o.wide e.k.events with
 | true=>
  rw[hK]at hb
  obtain⟨y,hy⟩:=ht hK x
  refine⟨x++y,?_⟩
  rw[<- lu]
  exact aa (f:=rd) (l:=[.ref 2,.o first]) rfl (go (q.no (go (iG rfl hi hc (mq ho)) (go (ae hq hb (go (aW rfl rfl hS) (go (Ac rfl hy) rfl))) rfl))) rfl)
 | false=>
  rw[hK]at hb
  obtain⟨y,hy⟩:=hf hK x
  refine⟨x++y,?_⟩
  rw[<- lu]
  exact aa (f:=rd) (l:=[.ref 2,.o first]) rfl (go (q.no (go (iG rfl hi hc (mq ho)) (go (ac hq hb (go (sQ rfl (by decide) (okD ho)) (go (aW rfl rfl hS) (go (qw rfl hy) rfl)))) rfl))) rfl)
end
noncomputable def Em.Jk(e:Em):Em:=bif e.o.IL.truth||decide (e.o.bw < e.w.col) then e.IW else e
noncomputable def Em.JH(e:Em)(x:B)(I:List V):Em:=(e.C ((e.c.ind x).lv (e.c.lvl - 1))).K (e.k.KP I)
noncomputable def Em.cm(e:Em):Em:=bif e.o.IL.truth then(e.sgn [44] false false false).IW else e
section
variable{e E:Em}{g:List Ob}{l:List V}{k:Nat}{f:List (Nat×B)}
theorem BU(e:Em):Gr e.w e.Jk.w 2:=by
 unfold Em.Jk
 cases e.o.IL.truth||decide (e.o.bw < e.w.col) with
 | true=>exact bE e.w _ _
 | false=>exact Gr.refl
theorem cb(e:Em):e.Jk.o=e.o/\e.Jk.c=e.c/\e.Jk.m=e.m/\e.Jk.k=e.k:=by
 unfold Em.Jk
 cases e.o.IL.truth||decide (e.o.bw < e.w.col) <;> exact⟨rfl,rfl,rfl,rfl⟩
theorem LU{c:Cx}(h0:l[0]?=some (.ref 2)):Tr c MQ l (Iy e g) e.o.IL.truth:=Tr.of (x:=e.o.IL) (Iz (au h0) rfl)
theorem uP{d:Nat}(h0:l[0]?=some (.ref 2))(hi:IM e.c.indent)(hc:0<=e.w.col)(ho:e.ok 2):Es (d+3) I96 l (Iy e g) l (Iy e.Jk g):=by
 have q2:Ep (d+3) I13 l (Iy e g) (.o (decide (e.o.bw < e.w.col))):=Iz (a:=(.i e.w.col,Iy e g)) (Iz (au h0) rfl) (Iz (a:=(.i e.o.bw,Iy e g)) (Iz (au h0) rfl) rfl)
 have t:=(LU (e:=e) (g:=g) (c:=IH (d+3)) h0).or (Tr.bl q2)
 unfold Em.Jk
 cases hb:e.o.IL.truth||decide (e.o.bw < e.w.col) with
 | true=>rw[hb]at t;exact t.yes (go (iG h0 hi hc ho) rfl)
 | false=>rw[hb]at t;exact t.no rfl
theorem cmS{d:Nat}(h0:l[0]?=some (.ref 2))(hi:IM e.c.indent)(hc:0<=e.w.col)(ho:e.ok 3):Es (d+3) CQ l (Iy e g) l (Iy e.cm g):=by
 have t:=LU (e:=e) (g:=g) (c:=IH (d+3)) h0
 unfold Em.cm
 cases hb:e.o.IL.truth with
 | true=>
  rw[hb]at t
  exact t.yes (go (fy (e:=e) (s:=[44]) (a:=false) h0 (by decide) (kg (me (by decide) _) ho)) (go (iG (e:=e.sgn [44] false false false) h0 hi ((aS e.w [44] false false false).1 hc) ((aS e.w [44] false false false).ok (e:=e) ho)) rfl))
 | false=>rw[hb]at t;exact t.no rfl
theorem gu{d:Nat}(h0:l[0]?=some (.ref 2)):Es d wm l (Iy e g) l (Iy (e.C (e.c.lv (e.c.lvl - 1))) g):=Iz (au h0) (Iz (a:=.i e.c.lvl) rfl (Iz (a:=(.i 1,Iy e g)) rfl rfl))
theorem EW{d:Nat}(hv:e.k.event=.rc k f)(hk:Ji [11] k=true)(ho:e.ok 1){x:B}{I S:List V}{t:V}(hI:e.k.ID=I++[.b x])(hS:e.k.IC=S++[t])(ht:ab t=false):aV (d+3) 14 [.ref 2] e g (((e.JH x I).sgn [93] false false false).pop S t):=by
 have q:=ao (e:=e) (g:=g) (l:=[.ref 2]) (d+2) (y:=false) (cs:=[11]) rfl hv
 rw[hk]at q
 refine⟨[],?_⟩
 rw[mh]
 exact aa (f:=yI) (l:=[.ref 2]) rfl (go (ae q rfl (go (cA rfl hI) (go (gu rfl) (go (fy (e:=e.JH x I) rfl (by decide) ho) (go (bW (e:=(e.JH x I).sgn [93] false false false) rfl hS ht) rfl))))) rfl)
theorem EU{d:Nat}(hv:e.k.event=.rc k f)(hk:Ji [13] k=true)(ho:e.ok 1){x:B}{I S:List V}{t:V}(hI:e.k.ID=I++[.b x])(hS:e.k.IC=S++[t])(ht:ab t=false):aV (d+3) 17 [.ref 2] e g (((e.JH x I).sgn [125] false false false).pop S t):=by
 have q:=ao (e:=e) (g:=g) (l:=[.ref 2]) (d+2) (y:=false) (cs:=[13]) rfl hv
 rw[hk]at q
 refine⟨[],?_⟩
 rw[mh]
 exact aa (f:=yF) (l:=[.ref 2]) rfl (go (ae q rfl (go (cA rfl hI) (go (gu rfl) (go (fy (e:=e.JH x I) rfl (by decide) ho) (go (bW (e:=(e.JH x I).sgn [125] false false false) rfl hS ht) rfl))))) rfl)
theorem pC(e:Em):e.cm.o=e.o/\e.cm.c=e.c/\e.cm.m=e.m/\e.cm.k=e.k:=by
 unfold Em.cm
 cases e.o.IL.truth <;> exact⟨rfl,rfl,rfl,rfl⟩
theorem Ak(e:Em):Gr e.w e.cm.w 3:=by
 unfold Em.cm
 cases e.o.IL.truth with
 | true=>exact(aS e.w [44] false false false).trans (bE _ _ _)
 | false=>exact Gr.refl
theorem EV{d:Nat}(hv:e.k.event=.rc k f)(hk:Ji [11] k=true){x:B}(hi:IM x)(hc:0<=e.w.col)(ho:e.ok 4){I S:List V}{t:V}(hI:e.k.ID=I++[.b x])(hS:e.k.IC=S++[t])(ht:ab t=false):aV (d+4) 15 [.ref 2] e g ((((e.JH x I).cm).sgn [93] false false false).pop S t):=by
 have q:=ao (e:=e) (g:=g) (l:=[.ref 2]) (d+3) (y:=false) (cs:=[11]) rfl hv
 rw[hk]at q
 refine⟨[],?_⟩
 rw[mh]
 have hs:=pC (e.JH x I)
 have g3:=Ak (e.JH x I)
 have Ni:(e.JH x I).cm.k.IC=S++[t]:=by rw[hs.2.2.2];exact hS
 have s1:=cmS (e:=e.JH x I) (g:=g) (l:=[.ref 2]) (d:=d) rfl hi hc (mq ho)
 have o1:((e.JH x I).cm).ok 1:=kg (Nat.add_le_add_right g3.2 1) (by rw[Nat.add_assoc];exact ho)
 generalize (e.JH x I).cm=E1 at s1 o1 Ni
 exact aa (f:=yH) (l:=[.ref 2]) rfl (go (ae q rfl (go (cA rfl hI) (go (gu rfl) (go s1 (go (fy (e:=E1) rfl (by decide) o1) (go (bW (e:=E1.sgn [93] false false false) rfl Ni ht) rfl)))))) rfl)
theorem ET{d:Nat}(hv:e.k.event=.rc k f)(hk:Ji [13] k=true){x:B}(hi:IM x)(hc:0<=e.w.col)(ho:e.ok 4){I S:List V}{t:V}(hI:e.k.ID=I++[.b x])(hS:e.k.IC=S++[t])(ht:ab t=false):aV (d+4) 18 [.ref 2] e g ((((e.JH x I).cm).sgn [125] false false false).pop S t):=by
 have q:=ao (e:=e) (g:=g) (l:=[.ref 2]) (d+3) (y:=false) (cs:=[13]) rfl hv
 rw[hk]at q
 refine⟨[],?_⟩
 rw[mh]
 have hs:=pC (e.JH x I)
 have g3:=Ak (e.JH x I)
 have Ni:(e.JH x I).cm.k.IC=S++[t]:=by rw[hs.2.2.2];exact hS
 have s1:=cmS (e:=e.JH x I) (g:=g) (l:=[.ref 2]) (d:=d) rfl hi hc (mq ho)
 have o1:((e.JH x I).cm).ok 1:=kg (Nat.add_le_add_right g3.2 1) (by rw[Nat.add_assoc];exact ho)
 generalize (e.JH x I).cm=E1 at s1 o1 Ni
 exact aa (f:=yE) (l:=[.ref 2]) rfl (go (ae q rfl (go (cA rfl hI) (go (gu rfl) (go s1 (go (fy (e:=E1) rfl (by decide) o1) (go (bW (e:=E1.sgn [125] false false false) rfl Ni ht) rfl)))))) rfl)
theorem nF{n:Nat}(h:e.ok (2+n)):e.Jk.ok n:=kg (Nat.add_le_add_right (BU e).2 n) (by rw[Nat.add_assoc];exact h)
theorem GV{d:Nat}(hv:e.k.event=.rc k f)(hk:Ji [11] k=false)(hi:IM e.c.indent)(hc:0<=e.w.col)(ho:e.ok 2)(hS:e.k.IC.length < IU)(h:aV (d+3) 10 (bY false true false false) (e.Jk.push 15) g E):aV (d+4) 14 [.ref 2] e g E:=by
 have q:=ao (e:=e) (g:=g) (l:=[.ref 2]) (d+3) (y:=false) (cs:=[11]) rfl hv
 rw[hk]at q
 have Ni:e.Jk.k.IC.length < IU:=by rw[(cb e).2.2.2];exact hS
 exact h.imp λx h=>aa (f:=yI) (l:=[.ref 2]) rfl (go (ac q rfl (go (uP rfl hi hc ho) (go (aW rfl rfl Ni) (go (tM rfl h) rfl)))) rfl)
theorem GU{d:Nat}(hv:e.k.event=.rc k f)(hk:Ji [11] k=false)(hi:IM e.c.indent)(hc:0<=e.w.col)(ho:e.ok 3)(hS:e.k.IC.length < IU)(h:aV (d+3) 10 (bY false true false false) ((e.sgn [44] false false false).Jk.push 15) g E):aV (d+4) 15 [.ref 2] e g E:=by
 have q:=ao (e:=e) (g:=g) (l:=[.ref 2]) (d+3) (y:=false) (cs:=[11]) rfl hv
 rw[hk]at q
 have g1:=aS e.w [44] false false false
 have Ni:(e.sgn [44] false false false).Jk.k.IC.length < IU:=by rw[(cb _).2.2.2];exact hS
 exact h.imp λx h=>aa (f:=yH) (l:=[.ref 2]) rfl (go (ac q rfl (go (fy (e:=e) (s:=[44]) (a:=false) rfl (by decide) (kg (me (by decide) _) ho)) (go (uP (e:=e.sgn [44] false false false) rfl hi (g1.1 hc) (g1.ok (e:=e) ho)) (go (aW rfl rfl Ni) (go (tM rfl h) rfl))))) rfl)
theorem GQ{d:Nat}(hi:IM e.c.indent)(hc:0<=e.w.col)(ho:e.ok 3)(hS:e.k.IC.length < IU)(h:aV (d+3) 10 (bY false false true false) ((e.Jk.sgn [58] true false false).push 18) g E):aV (d+4) 20 [.ref 2] e g E:=by
 have Ni:(e.Jk.sgn [58] true false false).k.IC.length < IU:=by show e.Jk.k.IC.length < IU;rw[(cb e).2.2.2];exact hS
 exact h.imp λx h=>aa (f:=Cc) (l:=[.ref 2]) rfl (go (uP rfl hi hc (mq ho)) (go (fy (e:=e.Jk) (s:=[58]) (a:=true) rfl (by decide) (nF ho)) (go (aW rfl rfl Ni) (go (qw rfl h) rfl))))
end
noncomputable def D8:S:=.cons I18 .nil
noncomputable def Em.MV(e:Em)(n:Nd):Em:=bif e.o.IL.truth then e else e.M (n.ms e.o.wide e.m)
noncomputable def Em.kb(e:Em)(n:Nd):Bool:=!e.o.IL.truth&&n.key e.o.wide e.k.events
section
variable{e E:Em}{g:List Ob}{l:List V}{n:Nd}
theorem k7{d:Nat}(hv:e.k.event=n.V)(ho:e.ok 1)(hS:e.k.IC.length < IU)(ok:n.Ok)(hr:LZ e.k.events)(hp:aZ e g)(h1:e.m.IB=.nul∨e.m.IB=n.IB)(h2:e.m.tag=.nul∨e.m.tag=n.tag)(h3:e.m.Jp=.b .nul∨e.m.Jp=Jp n.val e.o.wide)
  (ht:e.kb n=true->∀x,aV (d+3) 10 (bY false false true true) ((e.MV n).push 19) (g++x) E)
  (hf:e.kb n=false->∀x,aV (d+3) 10 (bY false false true false) (((e.MV n).sgn [63] true false false).push 20) (g++x) E):∃x,Es (d+3) D8 [.ref 2] (Iy e g) [.ref 2] (Iy E (g++x)):=by
 have t:=LU (e:=e) (g:=g) (l:=[.ref 2]) (c:=IH (d+3)) rfl
 have tn:=t.not
 have fin:∀{v:V}{x:List Ob}{E1:Em},Ev (d+3) (.and rE (.call 32 I0 .nil)) [.ref 2] (Iy e g) v (Iy E1 (g++x))->truth (Iy E1 (g++x)) v=some (e.kb n)->e.MV n=E1->E1.ok 1->E1.k.IC.length < IU->∃x,Es (d+3) D8 [.ref 2] (Iy e g) [.ref 2] (Iy E (g++x)):=λ{v x E1} hq hb hE o1 s1=>by
  rw[hE]at ht hf
  cases hK:e.kb n with
  | true=>
   rw[hK]at hb
   obtain⟨y,hy⟩:=ht hK x
   refine⟨x++y,?_⟩
   rw[<- lu]
   exact go (ae hq hb (go (aW rfl rfl s1) (go (Ac rfl hy) rfl))) rfl
  | false=>
   rw[hK]at hb
   obtain⟨y,hy⟩:=hf hK x
   refine⟨x++y,?_⟩
   rw[<- lu]
   exact go (ac hq hb (go (fy (e:=E1) (s:=[63]) (a:=true) rfl (by decide) o1) (go (aW rfl rfl s1) (go (qw rfl hy) rfl)))) rfl
 cases hc:e.o.IL.truth with
 | true=>
  rw[hc]at tn
  exact fin (x:=[]) (E1:=e) (by rw[mh];exact Iz tn (Iz (a:=false) rfl rfl)) (by unfold Em.kb;rw[hc];rfl) (by unfold Em.MV;rw[hc];rfl) ho hS
 | false=>
  rw[hc]at tn
  refine oV (e:=e) (g:=g) (d+1) (n:=n) hv ok hr hp h1 h2 h3 λx v PB hb=>?_
  exact fin (x:=x) (E1:=e.M (n.ms e.o.wide e.m)) (Iz tn (Iz (a:=true) rfl (aj uY (vs:=[]) (kw:=[]) (ws:=[.ref 2]) rfl rfl rfl rfl rfl rfl PB))) (by unfold Em.kb;rw[hc];exact hb) (by unfold Em.MV;rw[hc];rfl) ho hS
theorem eV(hp:aZ e g):aZ e.Jk g:=by
 obtain⟨j,h1,h2⟩:=hp
 exact⟨j,by rw[(cb e).2.2.1];exact h1,h2⟩
theorem GT{d:Nat}(hv:e.k.event=n.V)(hk:Ji [13] n.k=false)(hi:IM e.c.indent)(hc:0<=e.w.col)(ho:e.ok 3)(hS:e.k.IC.length < IU)(ok:n.Ok)(hr:LZ e.k.events)(hp:aZ e g)(h1:e.m.IB=.nul∨e.m.IB=n.IB)(h2:e.m.tag=.nul∨e.m.tag=n.tag)(h3:e.m.Jp=.b .nul∨e.m.Jp=Jp n.val e.o.wide)
  (ht:e.kb n=true->∀x,aV (d+3) 10 (bY false false true true) ((e.Jk.MV n).push 19) (g++x) E)
  (hf:e.kb n=false->∀x,aV (d+3) 10 (bY false false true false) (((e.Jk.MV n).sgn [63] true false false).push 20) (g++x) E):aV (d+4) 17 [.ref 2] e g E:=by
 have q:=ao (e:=e) (g:=g) (l:=[.ref 2]) (d+3) (y:=false) (cs:=[13]) rfl hv
 rw[hk]at q
 have s1:=uP (e:=e) (g:=g) (l:=[.ref 2]) (d:=d) rfl hi hc (mq ho)
 have hs:=cb e
 have o1:e.Jk.ok 1:=nF ho
 have p1:=eV hp
 have kb:e.Jk.kb n=e.kb n:=by unfold Em.kb;rw[hs.1,hs.2.2.2]
 rw[<- kb]at ht hf
 have OC:e.Jk.k.event=n.V:=by rw[hs.2.2.2];exact hv
 have Ni:e.Jk.k.IC.length < IU:=by rw[hs.2.2.2];exact hS
 have hr':LZ e.Jk.k.events:=by rw[hs.2.2.2];exact hr
 have h1':e.Jk.m.IB=.nul∨e.Jk.m.IB=n.IB:=by rw[hs.2.2.1];exact h1
 have h2':e.Jk.m.tag=.nul∨e.Jk.m.tag=n.tag:=by rw[hs.2.2.1];exact h2
 have h3':e.Jk.m.Jp=.b .nul∨e.Jk.m.Jp=Jp n.val e.Jk.o.wide:=by rw[hs.2.2.1,hs.1];exact h3
 obtain⟨x,hx⟩:=k7 (e:=e.Jk) (g:=g) (d:=d) (E:=E) OC o1 Ni ok hr' p1 h1' h2' h3' ht hf
 exact⟨x,aa (f:=yF) (l:=[.ref 2]) rfl (go (ac q rfl (go s1 hx)) rfl)⟩
theorem GS{d:Nat}(hv:e.k.event=n.V)(hk:Ji [13] n.k=false)(hi:IM e.c.indent)(hc:0<=e.w.col)(ho:e.ok 4)(hS:e.k.IC.length < IU)(ok:n.Ok)(hr:LZ e.k.events)(hp:aZ e g)(h1:e.m.IB=.nul∨e.m.IB=n.IB)(h2:e.m.tag=.nul∨e.m.tag=n.tag)(h3:e.m.Jp=.b .nul∨e.m.Jp=Jp n.val e.o.wide)
  (ht:e.kb n=true->∀x,aV (d+3) 10 (bY false false true true) (((e.sgn [44] false false false).Jk.MV n).push 19) (g++x) E)
  (hf:e.kb n=false->∀x,aV (d+3) 10 (bY false false true false) ((((e.sgn [44] false false false).Jk.MV n).sgn [63] true false false).push 20) (g++x) E):aV (d+4) 18 [.ref 2] e g E:=by
 have q:=ao (e:=e) (g:=g) (l:=[.ref 2]) (d+3) (y:=false) (cs:=[13]) rfl hv
 rw[hk]at q
 have s0:=fy (e:=e) (g:=g) (l:=[.ref 2]) (d:=d+1) (s:=[44]) (a:=false) rfl (by decide) (kg (me (by decide) _) ho)
 have g1:=aS e.w [44] false false false
 have oA:(e.sgn [44] false false false).ok 3:=g1.ok (e:=e) ho
 have s1:=uP (e:=e.sgn [44] false false false) (g:=g) (l:=[.ref 2]) (d:=d) rfl hi (g1.1 hc) (mq oA)
 have hs:=cb (e.sgn [44] false false false)
 have o1:(e.sgn [44] false false false).Jk.ok 1:=nF oA
 have p1:aZ (e.sgn [44] false false false).Jk g:=eV (e:=e.sgn [44] false false false) hp
 have kb:(e.sgn [44] false false false).Jk.kb n=e.kb n:=by unfold Em.kb;rw[hs.1,hs.2.2.2];rfl
 rw[<- kb]at ht hf
 have OC:(e.sgn [44] false false false).Jk.k.event=n.V:=by rw[hs.2.2.2];exact hv
 have Ni:(e.sgn [44] false false false).Jk.k.IC.length < IU:=by rw[hs.2.2.2];exact hS
 have hr':LZ (e.sgn [44] false false false).Jk.k.events:=by rw[hs.2.2.2];exact hr
 have h1':(e.sgn [44] false false false).Jk.m.IB=.nul∨(e.sgn [44] false false false).Jk.m.IB=n.IB:=by rw[hs.2.2.1];exact h1
 have h2':(e.sgn [44] false false false).Jk.m.tag=.nul∨(e.sgn [44] false false false).Jk.m.tag=n.tag:=by rw[hs.2.2.1];exact h2
 have h3':(e.sgn [44] false false false).Jk.m.Jp=.b .nul∨(e.sgn [44] false false false).Jk.m.Jp=Jp n.val (e.sgn [44] false false false).Jk.o.wide:=by rw[hs.2.2.1,hs.1];exact h3
 obtain⟨x,hx⟩:=k7 (e:=(e.sgn [44] false false false).Jk) (g:=g) (d:=d) (E:=E) OC o1 Ni ok hr' p1 h1' h2' h3' ht hf
 exact⟨x,aa (f:=yE) (l:=[.ref 2]) rfl (go (ac q rfl (go s0 (go s1 hx))) rfl)⟩
end
noncomputable def MB:V:=.rc 4 [(108,.nul),(109,.nul),(65,.nul)]
noncomputable def MD:V:=.rc 5 [(108,.nul),(109,.nul)]
noncomputable def Ld:V:=.rc 6 [(108,.nul),(109,.nul),(94,.bool true),(92,.nul),(93,.nul)]
noncomputable def deV:V:=.rc 7 [(108,.nul),(109,.nul),(94,.bool true)]
noncomputable def Em.JV(e:Em)(j:Nat):Em:=e.K (e.k.st (.IA j 2))
noncomputable def Ms.Ki(m:Ms)(x:V):Ms:=⟨x,m.IB,m.tag,m.Jp,m.IV⟩
section
variable{e E:Em}{g:List Ob}{l:List V}
theorem MU{d:Nat}(hv:e.k.event=MB):aV (d+2) 4 [.ref 2] e g (e.JV 6):=by
 have q:=ao (e:=e) (g:=g) (l:=[.ref 2]) (d+1) (y:=false) (cs:=[4]) rfl hv
 refine⟨[],?_⟩
 rw[mh]
 exact aa (f:=f_4) (l:=[.ref 2]) rfl (go (ae q rfl (go (aq (aj yw (vs:=[]) (kw:=[]) (ws:=[.ref 2]) rfl rfl rfl rfl rfl rfl (aa (f:=yw) (l:=[.ref 2]) rfl (go (l':=[.ref 2]) (II:=Iy e g) rfl rfl)))) (go (bH rfl rfl) rfl))) rfl)
theorem st9{d:Nat}(hS:e.k.IC.length < IU)(h:aV d 10 (bY true false false false) (e.push 8) g E):aV (d+1) 9 [.ref 2] e g E:=
 h.imp λx h=>aa (f:=f_9) (l:=[.ref 2]) rfl (go (aW rfl rfl hS) (go (aq (aj iF (vs:=[]) (kw:=[(1,.tt)]) (ws:=bY true false false false) rfl rfl rfl rfl rfl rfl h)) rfl))
theorem st8{d:Nat}(hv:e.k.event=deV)(hi:IM e.c.indent)(hc:0<=e.w.col)(ho:e.ok 5):aV (d+4) 8 [.ref 2] e g (((e.IW.sgn [46,46,46] true false false).IW).JV 7):=by
 have q:=ao (e:=e) (g:=g) (l:=[.ref 2]) (d+3) (y:=false) (cs:=[7]) rfl hv
 have q2:Ep (d+3) wj [.ref 2] (Iy e.IW g) .tt:=Jh (e:=e.IW) rfl hv rfl
 have g1:=bE e.w (ai e.c.indent) e.o.lb
 have o1:e.IW.ok 3:=okD ho
 have g2:=aS e.IW.w [46,46,46] true false false
 have o2:(e.IW.sgn [46,46,46] true false false).ok 2:=g2.ok (e:=e.IW) o1
 refine⟨[],?_⟩
 rw[mh]
 exact aa (f:=f_8) (l:=[.ref 2]) rfl (go (ae q rfl (go (iG rfl hi hc (kg (me (by decide) _) ho)) (go (ae q2 rfl (go (fy (e:=e.IW) (s:=[46,46,46]) (a:=true) rfl (by decide) (kg (me (by decide) _) o1)) (go (iG (e:=e.IW.sgn [46,46,46] true false false) rfl hi (g2.1 (g1.1 hc)) o2) rfl))) (go (aq (aj q7 (vs:=[]) (kw:=[]) (ws:=[.ref 2]) rfl rfl rfl rfl rfl rfl (aa (f:=q7) (l:=[.ref 2]) rfl (go (l':=[.ref 2]) (II:=Iy ((e.IW.sgn [46,46,46] true false false).IW) g) rfl rfl)))) (go (bH (e:=(e.IW.sgn [46,46,46] true false false).IW) rfl rfl) rfl))))) rfl)
noncomputable def l7(x y:V):List V:=[.ref 2,x,y,.uu,.uu,.uu,.uu,.uu,.uu]
theorem GJ{d:Nat}{b:Bool}(hv:e.k.event=MD)(ho:e.w.Kc=false):aV (d+3) 7 [.ref 2,.o b] e g (e.JV 5):=by
 have q6:=ao (e:=e) (g:=g) (l:=l7 (.o b) .uu) (d+2) (y:=false) (cs:=[6]) rfl hv
 have q5:=ao (e:=e) (g:=g) (l:=l7 (.o b) .uu) (d+2) (y:=false) (cs:=[5]) rfl hv
 have qo:Ep (d+2) (.u1 (.Jn 81) I0) (l7 (.o b) .uu) (Iy e g) .ff:=by show _=some (V.b (B.bool false),_);rw[<- ho];rfl
 refine⟨[],?_⟩
 rw[mh]
 have s45:(IH (d+2)).IG 45 [.ref 2] (Iy e g)=some (.b .nul,Iy e g):=aa (f:=yu) (l:=[.ref 2]) rfl (go (aq (aj q7 (vs:=[]) (kw:=[]) (ws:=[.ref 2]) rfl rfl rfl rfl rfl rfl (aa (f:=q7) (l:=[.ref 2]) rfl (go (l':=[.ref 2]) (II:=Iy e g) rfl rfl)))) rfl)
 exact aa (f:=f_7) (l:=l7 (.o b) .uu) rfl (go (ac q6 rfl (go (ae q5 rfl (go (ac qo rfl rfl) (go (aq (aj yu (vs:=[]) (kw:=[]) (ws:=[.ref 2]) rfl rfl rfl rfl rfl rfl s45)) (go (bH rfl rfl) rfl)))) rfl)) rfl)
noncomputable def Em.doc(e:Em)(j:Nat):Em:=
 let e1:=((e.M (e.m.Ki (.ref j))).IW).sgn [45,45,45] true false false
 (bif e.o.IL.truth then e1.IW else e1).JV 9
theorem GI{d:Nat}{b:Bool}(hv:e.k.event=Ld)(hi:IM e.c.indent)(hc:0<=e.w.col)(ho:e.ok 5):(IH (d+4)).IG 7 [.ref 2,.o b] (Iy e g)=some (.b .nul,Iy (e.doc (g.length+6)) (g++[.LH aO])):=by
 have q6:=ao (e:=e) (g:=g) (l:=l7 (.o b) .uu) (d+3) (y:=false) (cs:=[6]) rfl hv
 have f92:∀{e':Em}{g':List Ob}{x:V},e'.k.event=Ld->Ep (d+3) (.u1 (.Jn 92) I5) (l7 (.o b) x) (Iy e' g') (.b .nul):=λh=>Jh rfl h rfl
 have f93:∀{e':Em}{g':List Ob}{x:V},e'.k.event=Ld->Ep (d+3) (.u1 (.Jn 93) I5) (l7 (.o b) x) (Iy e' g') (.b .nul):=λh=>Jh rfl h rfl
 have t0:Tr (IH (d+3)) FZ (l7 (.o b) .uu) (Iy e g) false:=((Tr.of (f92 hv)).or (Tr.of (f93 hv))).and (w:=false) λh=>nomatch h
 have s2:Es (d+3) (.IP 87 I0 (.u1 .LJ I0)) (l7 (.o b) .uu) (Iy e g) (l7 (.o b) .uu) (Iy (e.M (e.m.Ki (.ref (g.length+6)))) (g++[.LH aO])):=rfl
 have hE:(e.M (e.m.Ki (.ref (g.length+6)))).k.event=Ld:=hv
 unfold Em.doc
 have eo:(e.M (e.m.Ki (.ref (g.length+6)))).o=e.o:=rfl
 have PA:IM (e.M (e.m.Ki (.ref (g.length+6)))).c.indent:=hi
 have PB:0<=(e.M (e.m.Ki (.ref (g.length+6)))).w.col:=hc
 have OH:(e.M (e.m.Ki (.ref (g.length+6)))).ok 5:=ho
 generalize e.M (e.m.Ki (.ref (g.length+6)))=E0 at s2 hE eo PA PB OH ⊢
 generalize g++[Ob.LH aO]=G at s2 ⊢
 rw[<- eo]
 have f94:Ep (d+3) wj (l7 (.o b) .uu) (Iy E0 G) .tt:=Jh rfl hE rfl
 have s3:Es (d+3) I74 (l7 (.o b) .uu) (Iy E0 G) (l7 (.o b) .ff) (Iy E0 G):=by
  refine bg (v:=.ff) ?_
  cases b with
  | false=>rfl
  | true=>exact Iz (a:=(.tt,Iy E0 G)) rfl (Iz (a:=true) rfl (Iz (Iz f94 rfl:Ep (d+3) (.u1 .not wj) (l7 .tt .uu) (Iy E0 G) .ff) (Iz (a:=false) rfl rfl)))
 have g1:=bE E0.w (ai E0.c.indent) E0.o.lb
 have o1:E0.IW.ok 3:=okD OH
 have g2:=aS E0.IW.w [45,45,45] true false false
 have o2:(E0.IW.sgn [45,45,45] true false false).ok 2:=g2.ok (e:=E0.IW) o1
 have tc:Tr (IH (d+3)) MQ (l7 (.o b) .ff) (Iy (E0.IW.sgn [45,45,45] true false false) G) E0.o.IL.truth:=LU (e:=E0.IW.sgn [45,45,45] true false false) (g:=G) (l:=l7 (.o b) .ff) (c:=IH (d+3)) rfl
 have s5:Es (d+3) (.IF MQ PU .nil) (l7 (.o b) .ff) (Iy (E0.IW.sgn [45,45,45] true false false) G) (l7 (.o b) .ff) (Iy (bif E0.o.IL.truth then(E0.IW.sgn [45,45,45] true false false).IW else E0.IW.sgn [45,45,45] true false false) G):=by
  cases hcn:E0.o.IL.truth with
  | true=>rw[hcn]at tc;exact Tr.yes tc (go (iG (e:=E0.IW.sgn [45,45,45] true false false) rfl PA (g2.1 (g1.1 PB)) o2) rfl)
  | false=>rw[hcn]at tc;exact Tr.no tc rfl
 show _=some (V.b .nul,Iy ((bif E0.o.IL.truth then(E0.IW.sgn [45,45,45] true false false).IW else E0.IW.sgn [45,45,45] true false false).JV 9) G)
 generalize (bif E0.o.IL.truth then(E0.IW.sgn [45,45,45] true false false).IW else E0.IW.sgn [45,45,45] true false false)=E5 at s5 ⊢
 exact aa (f:=f_7) (l:=l7 (.o b) .ff) rfl (go (ae q6 rfl (go (t0.no rfl) (go ((Tr.of (f92 hv)).no rfl) (go s2 (go ((Tr.of (f93 hE)).no rfl) (go s3 (go (ae (v:=.tt) rfl rfl (go (iG rfl PA PB (kg (me (by decide) _) OH)) (go (fy (e:=E0.IW) (s:=[45,45,45]) (a:=true) rfl (by decide) (kg (me (by decide) _) o1)) (go s5 rfl)))) (go (bH rfl rfl) rfl)))))))) rfl)
end
noncomputable def Em.ev0(e:Em):Em:=e.K ⟨e.k.state,.b .nul,e.k.IC,e.k.events,e.k.ID⟩
noncomputable def Em.take(e:Em)(v:V)(r:List V):Em:=e.K ⟨e.k.state,v,e.k.IC,r,e.k.ID⟩
noncomputable def Em.more(e:Em)(v:V):Em:=e.K ⟨e.k.state,e.k.event,e.k.IC,e.k.events++[v],e.k.ID⟩
noncomputable def emT:E:=.u1 .not (.call 1 I0 .nil)
noncomputable def emB:S:=Qq (ak 1 b_0)
section
variable{e E:Em}{g:List Ob}{l:List V}
theorem emq(e:Em)(g:List Ob):O4 (Iy e g) 2 4 e.k.events:=⟨⟨L6 e,rfl,rfl,rfl⟩,rfl⟩
theorem n6(d:Nat)(h0:l[0]?=some (.ref 2))(hv:∀v∈e.k.events,JY v)(hl:e.k.events.length<=300){P:Prop}(post:∀x,Ev (d+2) emT l (Iy e g) (.o (!bN (bn e.k.events))) (Iy e (g++x))->P):P:=by
 refine qy d (emq e g) hv hl λII h1 h2=>?_
 have fin:∀x,II=Iy e (g++x)->P:=λx hx=>post x (by
  rw[hx]at h1
  exact Iz (aj f_1 (vs:=[]) (kw:=[]) (ws:=[.ref 2]) h0 rfl rfl rfl rfl rfl h1) rfl)
 rcases h2 with h2 | h2
 ·exact fin [] (by rw[mh];exact h2)
 ·exact fin [.lst e.k.events.tail] (by rw[h2];rfl)
theorem yO(d:Nat){v:V}{r vs:List V}{j:Nat}{f:Fn}{G:List Ob}(h0:l[0]?=some (.ref 2))(he:e.k.events=v::r)(hu:ab v=false)(hs:e.k.state=.IA j 2)(hf:eR[j]?=some f)(hw:aM f [.ref 2] []=some vs)(hr:(IH d).IG j vs (Iy (e.take v r) g)=some (.b .nul,Iy E G)) :
  Es d emB l (Iy e g) l (Iy E.ev0 G):=by
 have q:Ev d (.u1 (.pop true) L8) l (Iy e g) v (Iy (e.K ⟨e.k.state,e.k.event,e.k.IC,r,e.k.ID⟩) g):=by
  refine Iz (a:=(.ref 4,Iy e g)) (Iz (au h0) rfl) (Iz (a:=(4,e.k.events)) rfl ?_)
  show Option.map (λx=>(x,dK (Iy e g) 4 (.lst e.k.events.tail))) e.k.events.head?=_
  rw[he];rfl
 have s1:Es d (.IP 69 I0 (.u1 (.pop true) L8)) l (Iy e g) l (Iy (e.take v r) g):=by
  refine Iz q (Iz (au h0) ?_)
  show Option.map _ (ag (decide ((L6 e).length < 100)&&decide (69 < 128)&&!ab v) _)=_
  rw[hu];rfl
 have s2:Es d (.expr (.KI 67 I0)) l (Iy (e.take v r) g) l (Iy E G):=by
  have:Ev d (.KI 67 I0) l (Iy (e.take v r) g) (.b .nul) (Iy E G):=
   Iz (au h0) (Iz (a:=(2,0,L6 (e.take v r))) rfl (Iz (a:=.IA j 2) (show some (e.take v r).k.state=_ from kh some (show(e.take v r).k.state=.IA j 2 from hs)) (Iz (a:=(j,2)) rfl (Iz (by rw[cK];exact hf) (Iz hw hr)))))
  exact aq this
 exact go s1 (go s2 (go (Iz (a:=(.b .nul,Iy E G)) rfl (Iz (au h0) rfl)) rfl))
noncomputable def Qp(d n:Nat)(l:List V)(e:Em)(g:List Ob)(Q:Em->List Ob->Prop):Prop:=∃E G,fU (IK (IH d) emT) (Ja (IH d) emB) n l (Iy e g)=some (.next,l,Iy E G)/\Q E G
theorem e6{d n:Nat}{Q:Em->List Ob->Prop}(h0:l[0]?=some (.ref 2))(hv:∀v∈e.k.events,JY v)(hl:e.k.events.length<=300)(hn:bN (bn e.k.events)=true)(hQ:∀x,Q e (g++x)):Qp (d+2) (n+1) l e g Q:=
 n6 (e:=e) (g:=g) d h0 hv hl λx h=>by rw[hn]at h;exact⟨e,g++x,Iz h (Iz (a:=false) rfl rfl),hQ x⟩
theorem ii{d n:Nat}{Q:Em->List Ob->Prop}{v:V}{r vs:List V}{j:Nat}{f:Fn}(h0:l[0]?=some (.ref 2))(hv:∀v∈e.k.events,JY v)(hl:e.k.events.length<=300)(hn:bN (bn e.k.events)=false)(he:e.k.events=v::r)(hs:e.k.state=.IA j 2)(hf:eR[j]?=some f)(hw:aM f [.ref 2] []=some vs)
  (hr:∀x,∃E G,(IH (d+2)).IG j vs (Iy (e.take v r) (g++x))=some (.b .nul,Iy E G)/\Qp (d+2) n l E.ev0 G Q):Qp (d+2) (n+1) l e g Q:=
 n6 (e:=e) (g:=g) d h0 hv hl λx h=>by
  rw[hn]at h
  obtain⟨E,G,h1,E',G',h2,h3⟩:=hr x
  have hu:ab v=false:=by obtain⟨k,f,rfl,_⟩:=hv v (he▸.head _);rfl
  exact⟨E',G',Iz h (Iz (a:=true) rfl (Iz (yO (d+2) h0 he hu hs hf hw h1) h2)),h3⟩
theorem eZ{d:Nat}{v:V}{Q:Em->List Ob->Prop}(hu:ab v=false)(hl:e.k.events.length < IU)(h:Qp d 400 [.ref 2,v] (e.more v) g Q):∃E G,(IH (d+1)).IG 0 [.ref 2,v] (Iy e g)=some (.b .nul,Iy E G)/\Q E G:=by
 obtain⟨E,G,h1,h2⟩:=h
 have s1:Es d (.app L8 I2) [.ref 2,v] (Iy e g) [.ref 2,v] (Iy (e.more v) g):=
  fc (k:=4) (xs:=e.k.events) (ys:=e.k.events) (v:=v) (s1:=Iy e g) rfl rfl (aL rfl hu) rfl hl hu
 have s2:Es d (.while emT emB) [.ref 2,v] (Iy (e.more v) g) [.ref 2,v] (Iy E G):=by
  show fU _ _ (IH d).wf _ _=_
  rw[ew];exact h1
 exact⟨E,G,aa (f:=QO) (l:=[.ref 2,v]) rfl (go s1 (go s2 rfl)),h2⟩
end
noncomputable def Ej:St:=⟨[.ins 1 [(107,.ref 1)],.lst [],.ins 0 []],[]⟩
noncomputable def iB(IL wide:B):List (Nat×V):=[(64,.ref 0),(65,.b .nul),(66,.ref 3),(67,.IA 4 2),(68,.ref 4),(69,.b .nul),(70,.ref 5),(71,.b .nul),(72,.i 0),(73,.ff),(74,.ff),(75,.ff),(76,.ff),(77,.i 0),(78,.i 0),(79,.tt),(80,.tt),(81,.ff),(82,.b IL),(83,.b wide)]
noncomputable def da(fs:List (Nat×V))(more:List Ob):St:=⟨[.ins 1 [(107,.ref 1)],.lst [],.ins 0 fs,.lst [],.lst [],.lst []]++more,[]⟩
noncomputable def dN(IL wide:B)(x y l:B):List V:=[.ref 2,.ref 0,.b IL,.b x,.b y,.b wide,.b l]
noncomputable def lsS:Nat->S->List S
 | n+1,.cons a r=>a::lsS n r
 | _,_=>[]
theorem HJ{c:Cx}{t:S}(ls:List S):∀{l l':List V}{st II:St}{R:JC},Ja c (ls.foldr .cons .nil) l st=some (.next,l',II)->Ja c t l' II=R->Ja c (ls.foldr .cons t) l st=R:=by
 induction ls with
 | nil=>intro l l' st II R h k;exact(kh (λq:List V×St=>Ja c t q.1 q.2) (Prod.mk.inj (ke h)).2).trans k
 | cons a r ih=>
  intro l l' st II R h k
  refine IJ h λq ha h=>?_
  obtain⟨ct,l1,s1⟩:=q
  cases ct with
  | ret v=>exact JA (kh (λo:JC=>o.elim false λq=>match q.1 with | .next=>true | .ret _=>false) h)
  | next=>exact Iz ha (ih h k)
theorem blk{c:Cx}(n:Nat){s:S}{l l':List V}{st II:St}{R:JC}(h:Ja c (tk n s) l st=some (.next,l',II))(k:Ja c (ak n s) l' II=R)(e:(lsS n s).foldr .cons .nil=tk n s)(e2:(lsS n s).foldr .cons (ak n s)=s):Ja c s l st=R:=
 e2▸HJ (lsS n s) (e▸h) k
theorem Dy(d:Nat)(IL wide:B)(x y l:B):Es d (tk 21 vR) (dN IL wide x y l) Ej (dN IL wide x y l) (da (iB IL wide++[(84,.i 2)]) []):=by kernel_rfl
noncomputable def eu:B->Int | .int i=>bif (i != 0)&&(decide (1 < i)&&decide (i < 10)) then i else 2 | _=>2
noncomputable def jf(s:Int):B->Int | .int j=>bif (j != 0)&&decide (s*2 < j) then j else 80 | _=>80
noncomputable def xX:B->Bool | .nul=>true | .int _=>true | _=>false
theorem pI{c:Cx}{l:List V}{st:St}{i:Int}{n:Nat}{b:E}{u:Bool}(h:l[n]?=some (.i i))(hb:IK c b l st=some (.o u,st)){P:Prop}(post:∀v,IK c (.and (.n0 (.loc n)) b) l st=some (v,st)->truth st v=some ((i != 0)&&u)->P):P:=by
 have e0:IK c (.n0 (.loc n)) l st=some (.i i,st):=by show(l[n]?).bind _=_;rw[h];rfl
 have e1:IK c (.and (.n0 (.loc n)) b) l st=bif (i != 0) then IK c b l st else some (.i i,st):=Iz e0 (Iz (a:=(i != 0)) rfl rfl)
 rw[hb]at e1
 cases hi:i != 0 with
 | true=>rw[hi]at e1 post;exact post _ e1 rfl
 | false=>rw[hi]at e1 post;exact post _ e1 (kh some hi)
theorem Dx(d:Nat)(IL wide:B)(x y l:B)(hx:xX x=true):Es d (tk 1 (ak 21 vR)) (dN IL wide x y l) (da (iB IL wide++[(84,.i 2)]) []) (dN IL wide x y l) (da (iB IL wide++[(84,.i (eu x))]) []):=by
 cases x with
 | nul=>kernel_rfl
 | int i=>
  have t:Ep d (.JX .lt .lt I4 J2 wo) (dN IL wide (.int i) y l) (da (iB IL wide++[(84,.i 2)]) []) (.o (decide (1 < i)&&decide (i < 10))):=by
   refine Iz (a:=(.i 1,da (iB IL wide++[(84,.i 2)]) [])) rfl (Iz (a:=(.i i,da (iB IL wide++[(84,.i 2)]) [])) rfl (Iz (a:=decide (1 < i)) rfl ?_))
   cases decide (1 < i) <;> rfl
  refine pI (c:=IH d) (n:=3) rfl t λv e ht=>?_
  refine go (l':=dN IL wide (.int i) y l) (II:=da (iB IL wide++[(84,.i (eu (.int i)))]) []) (Iz e (Iz ht ?_)) rfl
  show(bif (i != 0)&&(decide (1 < i)&&decide (i < 10)) then _ else _)=some (Ly.next,_,da (iB IL wide++[(84,.i (bif (i != 0)&&(decide (1 < i)&&decide (i < 10)) then i else 2))]) [])
  cases (i != 0)&&(decide (1 < i)&&decide (i < 10)) <;> kernel_rfl
 | _=>exact nomatch hx
noncomputable def g8(IL wide:B)(s w:Int):List (Nat×V):=iB IL wide++[(84,.i s),(85,.i w)]
theorem Dw(d:Nat)(IL wide:B)(x y l:B)(s:Int)(hy:xX y=true):Es d (tk 2 (ak 22 vR)) (dN IL wide x y l) (da (iB IL wide++[(84,.i s)]) []) (dN IL wide x y l) (da (g8 IL wide s (jf s y)) []):=by
 refine go (l':=dN IL wide x y l) (II:=da (g8 IL wide s 80) []) (by kernel_rfl) ?_
 cases y with
 | nul=>kernel_rfl
 | int j=>
  have ta:Ep d mI (dN IL wide x (.int j) l) (da (g8 IL wide s 80) []) (.i s):=by kernel_rfl
  have tm:Ep d (.b2 (.bin .mul) mI LL) (dN IL wide x (.int j) l) (da (g8 IL wide s 80) []) (.i (s*2)):=by
   refine Iz ta (Iz (a:=(.i 2,da (g8 IL wide s 80) [])) rfl ?_)
   show(((ag (s==2||(s==6||true)) (V.b (.int (s*2)))).or _).map _).or _=_
   rw[Bool.or_true,Bool.or_true];rfl
  have t:Ep d (.b2 (.cmp .gt) JR (.b2 (.bin .mul) mI LL)) (dN IL wide x (.int j) l) (da (g8 IL wide s 80) []) (.o (decide (s*2 < j))):=
   Iz (a:=(.i j,da (g8 IL wide s 80) [])) rfl (Iz tm rfl)
  refine pI (c:=IH d) (n:=4) rfl t λv e ht=>?_
  refine go (l':=dN IL wide x (.int j) l) (II:=da (g8 IL wide s (jf s (.int j))) []) (Iz e (Iz ht ?_)) rfl
  show(bif (j != 0)&&decide (s*2 < j) then _ else _)=some (Ly.next,_,da (g8 IL wide s (bif (j != 0)&&decide (s*2 < j) then j else 80)) [])
  cases (j != 0)&&decide (s*2 < j) <;> kernel_rfl
 | _=>exact nomatch hy
noncomputable def Ah:B->Tx | .str [13]=>[13] | .str [13,10]=>[13,10] | _=>[10]
noncomputable def Ei(IL wide:B)(s w:Int)(lb:Tx):List (Nat×V):=g8 IL wide s w++[(86,.s lb),(87,.b .nul),(88,.b .nul),(89,.b .nul),(90,.b .nul),(91,.b .nul)]
noncomputable def jG:Ob:=.lst [.s [13],.s [10],.s [13,10]]
noncomputable def DG(l:B):Prop:=l=.nul∨l=.str [13]∨l=.str [13,10]∨l=.str [10]∨l=.str [120]
theorem Dv(d:Nat)(IL wide:B)(x y l:B)(s w:Int)(hl:DG l):Es d (ak 24 vR) (dN IL wide x y l) (da (g8 IL wide s w) []) (dN IL wide x y l) (da (Ei IL wide s w (Ah l)) [jG]):=by
 rcases hl with rfl | rfl | rfl | rfl | rfl <;> kernel_rfl
theorem qO(d:Nat)(IL wide:B)(x y l:B)(hx:xX x=true)(hy:xX y=true)(hl:DG l):(IH (d+1)).IG 60 (dN IL wide x y l) Ej=some (.b .nul,da (Ei IL wide (eu x) (jf (eu x) y) (Ah l)) [jG]):=by
 have h:=blk 21 (Dy d IL wide x y l) (blk 1 (Dx d IL wide x y l hx) (blk 2 (Dw d IL wide x y l (eu x) hy) (Dv d IL wide x y l (eu x) (jf (eu x) y) hl) (by kernel_rfl) (by kernel_rfl)) (by kernel_rfl) (by kernel_rfl)) (by kernel_rfl) (by kernel_rfl)
 exact Iz (a:=ym) (by cases d <;> rfl) (Iz h rfl)
noncomputable def aB(c:Nat):Bool:=decide (c∈[10,8232,8233])
noncomputable def J4(k:Int):Bool->Tx->Tx
 | _,[]=>[]
 | f,c::r=>(bif f&&!aB c then aJ k else [])++c::J4 k (aB c) r
noncomputable def Qg(f:Bool):Tx->Bool
 | []=>f
 | c::r=>Qg (aB c) r
theorem pd(f:Bool)(a b:Tx):Qg f (a++b)=Qg (Qg f a) b:=by
 induction a generalizing f with
 | nil=>rfl
 | cons c a ih=>exact ih (aB c)
theorem jD(k:Int)(f:Bool)(a b:Tx):J4 k f (a++b)=J4 k f a++J4 k (Qg f a) b:=by
 induction a generalizing f with
 | nil=>rfl
 | cons c a ih=>
  show(bif f&&!aB c then aJ k else [])++c::J4 k (aB c) (a++b)=((bif f&&!aB c then aJ k else [])++c::J4 k (aB c) a)++J4 k (Qg (aB c) a) b
  rw[ih,lu];rfl
noncomputable def bm(t:Tx):Prop:=∀c∈t,aB c=false
theorem B3{t:Tx}(h:bm t)(hn:t≠[])(f:Bool):Qg f t=false:=by
 induction t generalizing f with
 | nil=>exact absurd rfl hn
 | cons c t ih=>
  cases t with
  | nil=>exact h c (.head _)
  | cons d t=>exact ih (λx hx=>h x (.tail _ hx)) (λh=>nomatch h) (aB c)
theorem tQ{t:Tx}(k:Int)(h:bm t):J4 k false t=t:=by
 induction t with
 | nil=>rfl
 | cons c t ih=>
  show []++c::J4 k (aB c) t=_
  rw[h c (.head _),ih λx hx=>h x (.tail _ hx)];rfl
theorem xG{t:Tx}(k:Int)(h:bm t)(hn:t≠[]):J4 k true t=aJ k++t:=by
 cases t with
 | nil=>exact absurd rfl hn
 | cons c t=>
  show(bif true&&!aB c then aJ k else [])++c::J4 k (aB c) t=_
  rw[h c (.head _),tQ k λx hx=>h x (.tail _ hx)];rfl
theorem tR{c:Nat}(k:Int)(f:Bool)(h:aB c=true):J4 k f [c]=[c]:=by
 show(bif f&&!aB c then aJ k else [])++[c]=_
 rw[h];cases f <;> rfl
structure Bs where
 k:Int
 a0:Tx
 a1:Tx
 fx:Tx
 op:Op
noncomputable def TX(b:Bs)(fr bl:Bool)(x0 x1:Tx):Prop:=∃y z,x0=b.a0++y/\x1=b.a1++z/\b.fx++z=J4 b.k true y++(bif bl then aJ b.k else [])/\Qg true y=fr
theorem eH(n:Nat):aJ n=List.replicate n 32:=by
 show(List.replicate (n:Int).toNat [32]).flatten=_
 rw[Int.toNat_natCast]
 induction n with
 | zero=>rfl
 | succ n ih=>exact kh (32::·) ih
theorem kK{i k:Int}(hi:0<=i)(hk:0<=k):aJ (i+k)=aJ k++aJ i:=by
 obtain⟨n,rfl⟩:=Int.eq_ofNat_of_zero_le hi
 obtain⟨m,rfl⟩:=Int.eq_ofNat_of_zero_le hk
 show aJ ((n:Int)+(m:Int))=aJ (m:Int)++aJ (n:Int)
 rw[<- Int.natCast_add,eH,eH,eH,List.replicate_append_replicate,Nat.add_comm]
theorem ol(i:Int):bm (aJ i):=λc hc=>by
 obtain⟨l,h1,h2⟩:=List.mem_flatten.mp hc
 rw[(List.mem_replicate.mp h1).2]at h2
 rw[ku h2];decide
theorem om{i:Int}(h:0 < i):aJ i≠[]:=λe=>by
 have:(aJ i).length=i.toNat:=by
  obtain⟨n,rfl⟩:=Int.eq_ofNat_of_zero_le (Int.le_of_lt h)
  show(aJ (n:Int)).length=(n:Int).toNat
  rw[eH,List.length_replicate,Int.toNat_natCast]
 rw[e]at this
 have h2:(0:Nat) < i.toNat:=by omega
 exact absurd this (Nat.ne_of_lt h2)
theorem JG{P:Prop}:false=true->P:=λh=>(nomatch h)
section
variable{b:Bs}{fr bl fl:Bool}{x0 x1 s:Tx}{c:Nat}
theorem TX.app(h:TX b fr fr x0 x1)(hs:bm s)(hn:s≠[]):TX b false false (x0++s) (x1++s):=by
 obtain⟨y,z,rfl,rfl,h3,h4⟩:=h
 refine⟨y++s,z++s,lu ..,lu ..,?_,(pd true y s).trans (B3 hs hn _)⟩
 rw[<- lu,h3,jD,h4,lu,lu]
 show J4 b.k true y++((bif fr then aJ b.k else [])++s)=J4 b.k true y++(J4 b.k fr s++[])
 rw[mh]
 refine kh _ ?_
 cases fr with
 | true=>exact(xG b.k hs hn).symm
 | false=>exact(tQ b.k hs).symm
theorem TX.le(h:TX b fr false x0 x1)(hc:aB c=true):TX b true false (x0++[c]) (x1++[c]):=by
 obtain⟨y,z,rfl,rfl,h3,h4⟩:=h
 refine⟨y++[c],z++[c],lu ..,lu ..,?_,(pd true y [c]).trans hc⟩
 rw[<- lu,h3,jD,tR _ _ hc]
 show(J4 b.k true y++[])++[c]=(J4 b.k true y++[c])++[]
 rw[mh,mh]
theorem TX.pad(h:TX b true false x0 x1):TX b true true x0 (x1++aJ b.k):=by
 obtain⟨y,z,rfl,rfl,h3,h4⟩:=h
 refine⟨y,z++aJ b.k,rfl,lu ..,?_,h4⟩
 rw[<- lu,h3]
 show(J4 b.k true y++[])++aJ b.k=J4 b.k true y++aJ b.k
 rw[mh]
end
structure RW(b:Bs)(fr bl fl:Bool)(w0 w1:Wr):Prop where
 ws:w1.ws=w0.ws
 ind:w1.ind=w0.ind
 col:w1.col=w0.col+(bif fr&&!bl then 0 else b.k)
 c0:0<=w0.col
 z:(fr=true->w0.col=0)/\(fr=false->0 < w0.col)
 fg:fl=true->w0.ws=true/\w0.ind=true
 tx:TX b fr bl w0.rows.flatten w1.rows.flatten
noncomputable abbrev RN(b:Bs):Wr->Wr->Prop:=RW b false false false
section
variable{b:Bs}{fr bl fl:Bool}{w0 w1:Wr}{s:Tx}{c:Nat}{i:Int}
theorem MY(l:List Tx)(s:Tx):(l++[s]).flatten=l.flatten++s:=by rw[List.flatten_append];exact kh _ (mh s)
theorem TX.add{l0 l1:List Tx}(h:TX b fr fr l0.flatten l1.flatten)(hs:bm s)(hn:s≠[]):TX b false false (l0++[s]).flatten (l1++[s]).flatten:=by rw[MY,MY];exact h.app hs hn
theorem TX.add0{l0 l1:List Tx}(h:TX b fr bl l0.flatten l1.flatten):TX b fr bl (l0++[[]]).flatten (l1++[[]]).flatten:=by rw[MY,MY,mh,mh];exact h
theorem xD(h:bm s):bm (32::s):=λc hc=>by
 cases hc with
 | head=>decide
 | tail _ hc=>exact h c hc
theorem lS(h:RW b fr fr fl w0 w1):w1.col=w0.col+b.k:=by
 have:=h.col
 cases fr <;> exact this
theorem Fy{a c k n:Int}(h:a=c+k):a+n=(c+n)+k:=by rw[h,Int.add_assoc,Int.add_assoc,Int.add_comm k n]
theorem z4{c:Int}{s:Tx}(h:0<=c)(hn:s≠[]):0 < c+(s.length:Int):=by
 have:0 < s.length:=List.length_pos_iff.mpr hn
 omega
theorem RW.sgn(h:RW b fr fr fl w0 w1)(hs:bm s)(hn:s≠[])(nw K8 i:Bool):RN b (w0.sgn s nw K8 i) (w1.sgn s nw K8 i):=by
 have e:w1.sgn s nw K8 i=⟨w1.col+((bif w0.ws||!nw then s else 32::s).length:Int),w1.line,K8,w0.ind&&i,false,w1.rows++[bif w0.ws||!nw then s else 32::s]⟩:=by
  unfold Wr.sgn;rw[h.ws,h.ind]
 rw[e]
 have hN:bm (bif w0.ws||!nw then s else 32::s)/\(bif w0.ws||!nw then s else 32::s)≠[]:=by
  cases w0.ws||!nw with
  | true=>exact⟨hs,hn⟩
  | false=>exact⟨xD hs,λh=>nomatch h⟩
 exact⟨rfl,rfl,Fy (lS h),Int.add_nonneg h.c0 (Int.natCast_nonneg _),⟨JG,λJ=>z4 h.c0 hN.2⟩,JG,h.tx.add hN.1 hN.2⟩
theorem RW.raw1(h:RW b fr fr fl w0 w1)(hs:bm s)(hn:s≠[]):RN b (w0.raw s) (w1.raw s):=⟨h.ws,h.ind,Fy (lS h),Int.add_nonneg h.c0 (Int.natCast_nonneg _),⟨JG,λJ=>z4 h.c0 hn⟩,JG,h.tx.add hs hn⟩
theorem RW.M8(h:RW b fr bl fl w0 w1):RW b fr bl fl (w0.raw []) (w1.raw []):=⟨h.ws,h.ind,(by have:=h.col;show w1.col+0=w0.col+0+_;rw[Int.add_zero,Int.add_zero,this]),(by show 0<=w0.col+0;rw[Int.add_zero];exact h.c0),(by show(fr=true->w0.col+0=0)/\(fr=false->0 < w0.col+0);rw[Int.add_zero];exact h.z),h.fg,h.tx.add0⟩
theorem RW.raw(h:RN b w0 w1)(hs:bm s):RN b (w0.raw s) (w1.raw s):=by
 cases s with
 | nil=>exact h.M8
 | cons c s=>exact h.raw1 hs λh=>nomatch h
theorem RW.rawQ(h:RW b fr fr fl w0 w1)(hs:bm s):∃JW,RW b JW JW false (w0.raw s) (w1.raw s)/\(fr=false->JW=false):=by
 cases s with
 | nil=>exact⟨fr,⟨h.M8.ws,h.M8.ind,h.M8.col,h.M8.c0,h.M8.z,JG,h.M8.tx⟩,id⟩
 | cons c s=>exact⟨false,h.raw1 hs (λh=>nomatch h),λJ=>rfl⟩
theorem RW.put(h:RN b w0 w1)(hs:bm s):RN b (w0.put s) (w1.put s):=by
 refine⟨h.ws,h.ind,h.col,h.c0,h.z,h.fg,?_⟩
 cases s with
 | nil=>exact h.tx.add0
 | cons c s=>exact h.tx.add hs λh=>nomatch h
theorem RW.brk(h:RW b fr false fl w0 w1)(hc:aB c=true):RW b true false true (w0.brk [c]) (w1.brk [c]):=
 ⟨rfl,rfl,rfl,Int.le_refl 0,⟨λJ=>rfl,λh=>JG h.symm⟩,λJ=>⟨rfl,rfl⟩,by
  show TX b true false (w0.rows++[[c]]).flatten (w1.rows++[[c]]).flatten
  rw[MY,MY];exact h.tx.le hc⟩
theorem RW.wk(h:RW b fr bl fl w0 w1):RW b fr bl false w0 w1:=⟨h.ws,h.ind,h.col,h.c0,h.z,JG,h.tx⟩
theorem RW.off(h:RW b fr bl fl w0 w1):RW b fr bl false w0.off w1.off:=⟨rfl,rfl,h.col,h.c0,h.z,JG,h.tx⟩
theorem RW.Kv(h:RW b fr bl fl w0 w1)(o q:Bool):RW b fr bl fl (w0.Kv o) (w1.Kv q):=⟨h.ws,h.ind,h.col,h.c0,h.z,h.fg,h.tx⟩
theorem RW.Jd(h:RW b fr bl fl w0 w1)(t:Tx):RW b fr bl fl (w0.Jd t) (w1.Jd t):=⟨h.ws,h.ind,h.col,h.c0,h.z,h.fg,h.tx⟩
theorem RW.gap(h:RW b fr fr fr w0 w1):RW b fr fr fr w0.gap w1.gap:=by
 unfold Wr.gap;rw[h.ws]
 cases fr with
 | true=>rw[(h.fg rfl).1];exact h
 | false=>
  cases w0.ws with
  | true=>exact h
  | false=>exact h.raw (s:=[32]) λc hc=>by rw[ku hc];decide
theorem gP{w:Wr}{i:Int}(h:w.col < i):w.pad i=⟨i,w.line,true,w.ind,w.Kc,w.rows++[aJ (i - w.col)]⟩:=by unfold Wr.pad;rw[decide_eq_true h];rfl
theorem gQ{w:Wr}{i:Int}(h:¬ w.col < i):w.pad i=w:=by unfold Wr.pad;rw[decide_eq_false h];rfl
theorem GB{a c k i:Int}(h:a=c+k):i+k - a=i - c:=by omega
theorem RW.padN(h:RN b w0 w1):RN b (w0.pad i) (w1.pad (i+b.k)):=by
 have hk:=lS h
 by_cases hi:w0.col < i
 ·rw[gP hi,gP (by rw[hk];exact Int.add_lt_add_right hi _),GB hk]
  exact⟨rfl,h.ind,rfl,Int.le_of_lt (Int.lt_of_le_of_lt h.c0 hi),⟨JG,λJ=>Int.lt_of_le_of_lt h.c0 hi⟩,JG,h.tx.add (ol _) (om (by omega))⟩
 ·rw[gQ hi,gQ (λh=>hi (by rw[hk]at h;exact Int.lt_of_add_lt_add_right h))];exact h
theorem RW.padF(h:RW b true bl true w0 w1)(hk:0<=b.k)(hi:0<=i):∃fr,RW b fr fr fr (w0.pad i) (w1.pad (i+b.k))/\(0 < i->fr=false):=by
 have z:=h.z.1 rfl
 have g:=h.fg rfl
 have P:RW b true true true w0 ⟨b.k,w1.line,true,w1.ind,w1.Kc,bif bl then w1.rows else w1.rows++[aJ b.k]⟩:=by
  refine⟨g.1.symm,h.ind,by rw[z];exact(Int.zero_add _).symm,h.c0,h.z,h.fg,?_⟩
  have:=h.tx
  cases bl with
  | true=>exact this
  | false=>show TX b true true _ (w1.rows++[aJ b.k]).flatten;rw[MY];exact this.pad
 have hc:w1.col=bif bl then b.k else 0:=by have:=h.col;rw[z,Int.zero_add]at this;cases bl <;> exact this
 by_cases h0:0 < i
 ·refine⟨false,?_,λJ=>rfl⟩
  have J5:w1.col < i+b.k:=by
   rw[hc]
   cases bl with
   | true=>show b.k < i+b.k;omega
   | false=>show 0 < i+b.k;omega
  have Q:RN b (w0.pad i) ⟨i+b.k,w1.line,true,w1.ind,w1.Kc,(bif bl then w1.rows else w1.rows++[aJ b.k])++[aJ i]⟩:=by
   rw[gP (by rw[z];exact h0),z,Int.sub_zero]
   exact⟨rfl,h.ind,rfl,hi,⟨JG,λJ=>h0⟩,JG,P.tx.add (ol _) (om h0)⟩
  refine⟨?_,?_,?_,Q.c0,Q.z,Q.fg,?_⟩ <;> rw[gP J5]
  ·exact Q.ws
  ·exact Q.ind
  ·exact Q.col
  ·have:=Q.tx
   rw[hc]
   cases bl with
   | true=>rw[show i+b.k - (bif true then b.k else 0)=i from Int.add_sub_cancel ..];exact this
   | false=>
    rw[show i+b.k - (bif false then b.k else 0)=i+b.k from Int.sub_zero _,kK hi hk]
    have e1:(w1.rows++[aJ b.k]++[aJ i]).flatten=(w1.rows++[aJ b.k++aJ i]).flatten:=by rw[MY,MY,MY,lu]
    exact e1▸this
 ·obtain rfl:i=0:=Int.le_antisymm (Int.not_lt.mp h0) hi
  refine⟨true,?_,λh=>absurd h h0⟩
  rw[gQ (by rw[z];exact h0),Int.zero_add]
  by_cases J5:w1.col < b.k
  ·rw[gP J5]
   have hb:bl=false:=by rw[hc]at J5;cases bl with | true=>exact absurd J5 (Int.lt_irrefl _) | false=>rfl
   subst hb
   rw[hc,show b.k - (bif false then b.k else 0)=b.k from Int.sub_zero _]
   exact P
  ·rw[gQ J5]
   refine⟨h.ws,h.ind,?_,h.c0,h.z,h.fg,?_⟩
   ·show w1.col=w0.col+b.k
    rw[hc,z,Int.zero_add]
    rw[hc]at J5
    cases bl with
    | true=>rfl
    | false=>exact Int.le_antisymm hk (Int.not_lt.mp J5)
   ·have:=h.tx
    cases bl with
    | true=>exact this
    | false=>
     rw[hc]at J5
     have e0:b.k=0:=Int.le_antisymm (Int.not_lt.mp J5) hk
     have:=this.pad
     rw[e0,show aJ 0=[] from rfl,mh]at this
     exact this
theorem RW.Mf(h:RW b fr bl fl w0 w1)(hm:fr=true->fl=true)(hk:0<=b.k)(hi:0<=i):w1.Mf (i+b.k)=w0.Mf i/\(fr=true->w0.Mf i=false):=by
 unfold Wr.Mf
 rw[h.ws,h.ind]
 cases fr with
 | true=>
  have g:=h.fg (hm rfl)
  have z:=h.z.1 rfl
  rw[g.1,g.2,z]
  have hc:¬ i+b.k < w1.col:=by
   rw[h.col,z,Int.zero_add]
   cases bl with
   | true=>show ¬ i+b.k < b.k;omega
   | false=>show ¬ i+b.k < 0;omega
  rw[decide_eq_false hc,decide_eq_false (Int.not_lt.mpr hi)]
  show((w1.col==i+b.k)&&false)=((0==i)&&false)/\(_->((0==i)&&false)=false)
  rw[Bool.and_false,Bool.and_false]
  exact⟨rfl,λJ=>rfl⟩
 | false=>
  have hc:w1.col=w0.col+b.k:=h.col
  rw[hc]
  have e1:decide (i+b.k < w0.col+b.k)=decide (i < w0.col):=decide_eq_decide.mpr (Int.add_lt_add_iff_right _)
  have e2:(w0.col+b.k==i+b.k)=(w0.col==i):=by rw[Bool.eq_iff_iff,beq_iff_eq,beq_iff_eq];exact Int.add_left_inj _
  rw[e1,e2]
  exact⟨rfl,JG⟩
theorem RW.IW(h:RW b fr bl fl w0 w1)(hm:fr=true->fl=true)(hb:fr=false->bl=false)(hk:0<=b.k)(hi:0<=i):∃JW,RW b JW JW JW (w0.IW i [10]) (w1.IW (i+b.k) [10])/\(0 < i->JW=false):=by
 obtain⟨h1,h2⟩:=h.Mf hm hk hi
 unfold Wr.IW
 rw[h1]
 cases fr with
 | true=>
  rw[h2 rfl]
  obtain rfl:=hm rfl
  exact h.padF hk hi
 | false=>
  obtain rfl:=hb rfl
  cases w0.Mf i with
  | true=>exact RW.padF (h.brk (c:=10) (by decide)) hk hi
  | false=>exact⟨false,(h.wk.padN:RN b _ _),λJ=>rfl⟩
theorem RW.NZ(h:RW b fr false fr w0 w1)(hk:0<=b.k)(hi:0 < i):RN b (w0.IW i [10]) (w1.IW (i+b.k) [10]):=by
 obtain⟨JW,h1,h2⟩:=h.IW id (λJ=>rfl) hk (Int.le_of_lt hi)
 obtain rfl:=h2 hi
 exact h1
theorem RW.over(h:RW b fr fr fl w0 w1)(bw:Int):decide (bw+b.k < w1.col)=decide (bw < w0.col):=by
 rw[lS h];exact decide_eq_decide.mpr (Int.add_lt_add_iff_right _)
end
noncomputable def Pc(P:Nat->Prop)(t:Tx)(a i:Nat):Prop:=∀j c,a<=j->j < i->t[j]?=some c->P c
section
variable{P:Nat->Prop}{t:Tx}{a i c:Nat}
theorem vz(n a:Nat):Je n (a:Int)=min a n:=if_neg (Int.not_lt.mpr (Int.natCast_nonneg a))
theorem oy(t:Tx)(a i:Nat):Jm t a i=(t.drop (min a t.length)).take (min i t.length - min a t.length):=by
 unfold Jm ar
 rw[show Pa t.length (some (a:Int))=min a t.length from vz _ _,show QL t.length (some (i:Int))=min i t.length from vz _ _]
theorem ju(h:c∈Jm t a i):∃j,a<=j/\j < i/\t[j]?=some c:=by
 obtain⟨m,hm,h⟩:=List.mem_iff_getElem.mp h
 have h1:(Jm t a i)[m]?=some c:=by rw[kx hm,h]
 rw[oy]at h1 hm
 rw[List.length_take,List.length_drop]at hm
 have Nh:=li hm (Nat.min_le_left _ _)
 have hm2:=li hm (Nat.min_le_right _ _)
 have ha:a<=t.length:=Nat.le_of_not_lt λh=>by rw[Nat.min_eq_right (Nat.le_of_lt h),Nat.sub_self]at hm2;exact Nat.not_lt_zero _ hm2
 rw[List.getElem?_take_of_lt Nh,List.getElem?_drop,Nat.min_eq_left ha]at h1
 rw[Nat.min_eq_left ha]at Nh
 exact⟨a+m,lw _ _,li (Nat.add_lt_of_lt_sub' Nh) (Nat.min_le_left _ _),h1⟩
theorem Pc.all(h:Pc P t a i):∀c∈Jm t a i,P c:=λc hc=>by
 obtain⟨j,h1,h2,h3⟩:=ju hc
 exact h j c h1 h2 h3
theorem Pc.nil:Pc P t i i:=λj c h1 h2 J=>absurd (lj h1 h2) (Nat.lt_irrefl _)
theorem Pc.snoc(h:Pc P t a i)(ht:t[i]?=some c)(hc:P c):Pc P t a (i+1):=λj d h1 h2 h3=>by
 rcases Nat.lt_or_eq_of_le (Nat.le_of_lt_succ h2) with h4 | rfl
 ·exact h j d h1 h4 h3
 ·rw[ht]at h3;injection h3 with h3;exact h3▸hc
theorem Pc.mono{b:Nat}(h:Pc P t a i)(hb:a<=b):Pc P t b i:=λj d h1 h2 h3=>h j d (kg hb h1) h2 h3
theorem Pc.cut(h:Pc P t a (i+1)):Pc P t a i:=λj d h1 h2 h3=>h j d h1 (Nat.lt_succ_of_lt h2) h3
theorem Pc.imp{Q:Nat->Prop}(h:Pc P t a i)(k:∀c,P c->Q c):Pc Q t a i:=λj d h1 h2 h3=>k d (h j d h1 h2 h3)
theorem fJ{α:Type}{R:Nat->α->α->Prop}{f0 f1:Nat->α->α}{a0 a1:α}(step:∀i c s0 s1,t[i]?=some c->R i s0 s1->R (i+1) (f0 i s0) (f1 i s1))(h0:R 0 a0 a1):∀i,i<=t.length->R i (KG f0 a0 i) (KG f1 a1 i)
 | 0,_=>h0
 | i+1,h=>step i (t[i]'h) _ _ (kx h) (fJ step h0 i (Nat.le_of_lt h))
end
noncomputable def KO(t:Tx):Prop:=∀c∈t,af c=true->aB c=true
theorem ub{c:Nat}(h:af c=false):aB c=false:=by
 refine decide_eq_false λh1=>?_
 have:c∈[10,133,8232,8233]:=by
  rcases kq h1 with rfl | h1
  ·exact .head _
  ·exact .tail _ (.tail _ h1)
 unfold af at h
 rw[decide_eq_true this]at h
 exact nomatch h
theorem bT{t:Tx}(h:∀c∈t,af c=false):bm t:=λc hc=>ub (h c hc)
noncomputable def RB(b:Bs)(k:Bool)(w0 w1:Wr):Prop:=∃fr,RW b fr false fr w0 w1/\(k=false->fr=false)
section
variable{b:Bs}{w0 w1:Wr}{s t:Tx}{i:Int}{c:Nat}{k:Bool}
theorem RB.n(h:RB b false w0 w1):RN b w0 w1:=by obtain⟨fr,h1,h2⟩:=h;obtain rfl:=h2 rfl;exact h1
theorem RB.of(h:RN b w0 w1):RB b k w0 w1:=⟨false,h,λJ=>rfl⟩
theorem RB.brk(h:RB b k w0 w1)(hc:aB c=true):RB b true (w0.brk [c]) (w1.brk [c]):=by obtain⟨fr,h1,h2⟩:=h;exact⟨true,h1.brk hc,JG ∘ Eq.symm⟩
theorem RB.IW(h:RB b k w0 w1)(hk:0<=b.k)(hi:0 < i):RN b (w0.IW i [10]) (w1.IW (i+b.k) [10]):=by obtain⟨fr,h1,h2⟩:=h;exact h1.NZ hk hi
theorem Hf(hc:af c=true->aB c=true)(h:af c=true):∃d,(bif c==10 then [10] else [c]:Tx)=[d]/\aB d=true:=by
 cases h1:c==10 with
 | true=>exact⟨10,rfl,by decide⟩
 | false=>exact⟨c,rfl,hc h⟩
theorem RB.J9(hs:∀c∈s,af c=true)(hn:∀c∈s,af c=true->aB c=true):∀{w0 w1:Wr},RB b true w0 w1->RB b true (w0.J9 [10] s) (w1.J9 [10] s):=by
 induction s with
 | nil=>exact λh=>h
 | cons c s ih=>
  intro w0 w1 h
  obtain⟨d,h1,h2⟩:=Hf (hn c (.head _)) (hs c (.head _))
  refine ih (λc hc=>hs c (.tail _ hc)) (λc hc=>hn c (.tail _ hc)) (w0:=w0.brk (bif c==10 then [10] else [c])) (w1:=w1.brk (bif c==10 then [10] else [c])) ?_
  rw[h1];exact h.brk h2
theorem KO.Jm(h:KO t){a j:Nat}:∀c∈Jm t a j,af c=true->aB c=true:=λc hc=>by
 obtain⟨m,_,_,h3⟩:=ju hc
 exact h c (ly h3)
theorem RB.bks{a j:Nat}(h:RB b true w0 w1)(h5:KO t)(hp:Pc (λc=>af c=true) t a j):RB b true (w0.J9 [10] (Jm t a j)) (w1.J9 [10] (Jm t a j)):=RB.J9 hp.all h5.Jm h
end
structure LI(b:Bs)(t:Tx)(i:Nat)(s0 s1:LS):Prop where
 k:s1.brk=s0.brk
 s:s1.st=s0.st
 w:RB b s0.brk s0.w s1.w
 p:Pc (λc=>af c=s0.brk) t s0.st i
section
variable{b:Bs}{w0 w1:Wr}{t:Tx}{ind bi:Int}
theorem xM(hk:0<=b.k)(hi:0 < ind)(h5:KO t)(i c:Nat)(s0 s1:LS)(hc:t[i]?=some c)(h:LI b t i s0 s1):LI b t (i+1) (cZ t ind [10] i s0) (cZ t (ind+b.k) [10] i s1):=by
 obtain⟨v0,k0,p0⟩:=s0
 obtain⟨v1,k1,p1⟩:=s1
 obtain⟨h1,h2,h3,h4⟩:=h
 have h1:k1=k0:=h1
 have h2:p1=p0:=h2
 subst h1 h2
 cases hb:af c with
 | true=>
  rw[g6 hc hb,g6 hc hb]
  cases k1 with
  | true=>exact⟨rfl,rfl,h3,h4.snoc hc hb⟩
  | false=>exact⟨rfl,rfl,.of (RW.put h3.n (bT h4.all)),Pc.nil.snoc hc hb⟩
 | false=>
  rw[gZ hc hb,gZ hc hb]
  cases k1 with
  | true=>exact⟨rfl,rfl,.of ((h3.bks h5 h4).IW hk hi),Pc.nil.snoc hc hb⟩
  | false=>exact⟨rfl,rfl,h3,h4.snoc hc hb⟩
theorem x5(h0:0<=bi)(h9:bi<=9)(t:Tx):bm (aH bi t):=by
 intro c hc
 cases t with
 | nil=>exact nomatch hc
 | cons d r=>
  rcases mx hc with hc | hc
  ·unfold fX at hc
   generalize bA d=x at hc
   cases x with
   | false=>exact absurd hc mn
   | true=>
    obtain rfl:=ku hc
    exact decide_eq_false λh=>by
     have h1:bi.toNat<=9:=by omega
     have h2:∀n,n<=9->48+n ∉ ([10,8232,8233]:List Nat):=by decide
     exact h2 _ h1 h
  ·unfold fW at hc
   generalize af (r.getLast?.getD d)=x at hc
   generalize (decide (((d::r).length:Int)=1)||((de (d::r) (-2)).any af))=y at hc
   cases x with
   | false=>obtain rfl:=ku hc;decide
   | true=>
    cases y with
    | true=>obtain rfl:=ku hc;decide
    | false=>exact absurd hc mn
theorem oJ{c:Nat}{s:Tx}(hc:aB c=false)(h:bm s):bm (c::s):=λd hd=>by
 cases hd with
 | head=>exact hc
 | tail _ hd=>exact h d hd
theorem RW.hdr(h:RN b w0 w1){c:Nat}(hc:aB c=false)(h0:0<=bi)(h9:bi<=9):RB b true (((w0.sgn (c::aH bi t) true false false).Jd (aH bi t)).brk [10]) (((w1.sgn (c::aH bi t) true false false).Jd (aH bi t)).brk [10]):=
 ⟨true,((h.sgn (oJ hc (x5 h0 h9 t)) (λh=>nomatch h) true false false).Jd (aH bi t)).brk (by decide),JG ∘ Eq.symm⟩
theorem RW.lit(h:RN b w0 w1)(hk:0<=b.k)(hi:0 < ind)(h0:0<=bi)(h9:bi<=9)(h5:KO t):RB b true (w0.lit t ind bi [10]) (w1.lit t (ind+b.k) bi [10]):=by
 have hN:=fJ (R:=LI b t) (a0:=⟨((w0.sgn (124::aH bi t) true false false).Jd (aH bi t)).brk [10],true,0⟩) (a1:=⟨((w1.sgn (124::aH bi t) true false false).Jd (aH bi t)).brk [10],true,0⟩) (xM hk hi h5) ⟨rfl,rfl,h.hdr (c:=124) (by decide) h0 h9,Pc.nil⟩ t.length (mf _)
 have hn:t[t.length]?=none:=List.getElem?_eq_none (mf _)
 unfold Wr.lit jI
 show RB b true (cZ t ind [10] t.length (KG (cZ t ind [10]) _ t.length)).w (cZ t (ind+b.k) [10] t.length (KG (cZ t (ind+b.k) [10]) _ t.length)).w
 rw[g5 hn,g5 hn]
 generalize KG (cZ t ind [10]) _ t.length=s0 at hN ⊢
 generalize KG (cZ t (ind+b.k) [10]) _ t.length=s1 at hN ⊢
 obtain⟨v0,k0,p0⟩:=s0
 obtain⟨v1,k1,p1⟩:=s1
 obtain⟨h1,h2,h3,h4⟩:=hN
 have h1:k1=k0:=h1
 have h2:p1=p0:=h2
 subst h1 h2
 cases k1 with
 | true=>exact h3.bks h5 h4
 | false=>exact(RB.of (k:=true) (RW.put h3.n (bT h4.all))).brk (by decide)
end
section
variable{b:Bs}{w0 w1:Wr}{t:Tx}{ind bi bw:Int}{p i:Nat}{fr:Bool}
theorem RW.mid(h:RN b w0 w1)(hk:0<=b.k)(hi:0 < ind)(hp:bm (Jm t p i)):RN b (w0.mid t ind [10] bw p i) (w1.mid t (ind+b.k) [10] (bw+b.k) p i):=by
 unfold Wr.mid
 rw[h.over]
 cases (((p:Int)+1==(i:Int))&&decide (bw < w0.col)) with
 | true=>exact RW.NZ (fr:=false) h hk hi
 | false=>exact h.raw hp
end
structure FoI(b:Bs)(t:Tx)(i:Nat)(s0 s1:FS):Prop where
 l:s1.ld=s0.ld
 e:s1.sp=s0.sp
 k:s1.brk=s0.brk
 s:s1.st=s0.st
 w:RB b s0.brk s0.w s1.w
 p:Pc (λc=>af c=s0.brk) t s0.st i
section
variable{b:Bs}{w0 w1:Wr}{t:Tx}{ind bi bw:Int}
theorem gG{c:Nat}(h:ay c=true):af c=false:=by
 have:c=32:=by unfold ay at h;rw[beq_iff_eq]at h;injection h
 subst this;decide
theorem jo{c:Nat}(h:bA c=false):af c=false:=decide_eq_false λh1=>by
 unfold bA at h
 rw[decide_eq_true (List.mem_cons_of_mem _ h1)]at h
 exact nomatch h
theorem RB.nl(h:RB b true w0 w1)(x:Bool):RB b true (bif x then w0.brk [10] else w0) (bif x then w1.brk [10] else w1):=by
 cases x with
 | true=>exact h.brk (by decide)
 | false=>exact h
theorem yc(hk:0<=b.k)(hi:0 < ind)(h5:KO t)(i c:Nat)(s0 s1:FS)(hc:t[i]?=some c)(h:FoI b t i s0 s1):FoI b t (i+1) (cJ t ind [10] bw i s0) (cJ t (ind+b.k) [10] (bw+b.k) i s1):=by
 obtain⟨v0,l0,e0,k0,p0⟩:=s0
 obtain⟨v1,l1,e1,k1,p1⟩:=s1
 obtain⟨g1,g2,g3,g4,h3,h4⟩:=h
 have g1:l1=l0:=g1
 have g2:e1=e0:=g2
 have g3:k1=k0:=g3
 have g4:p1=p0:=g4
 subst g1 g2 g3 g4
 rw[hU hc,hU hc]
 unfold qX
 cases k1 with
 | true=>
  cases hb:af c with
  | true=>exact⟨rfl,rfl,rfl,rfl,h3,h4.snoc hc hb⟩
  | false=>exact⟨rfl,rfl,rfl,rfl,.of (((h3.nl _).bks h5 h4).IW hk hi),Pc.nil.snoc hc hb⟩
 | false=>
  cases e1 with
  | true=>
   cases hs:ay c with
   | true=>exact⟨rfl,rfl,rfl,rfl,(gG hs).symm▸h3,(h4.snoc hc (gG hs)).imp λc h=>h.trans (gG hs).symm⟩
   | false=>exact⟨rfl,rfl,rfl,rfl,.of (RW.mid h3.n hk hi (bT h4.all)),Pc.nil.snoc hc rfl⟩
  | false=>
   cases hs:bA c with
   | true=>exact⟨rfl,rfl,rfl,rfl,.of (RW.raw h3.n (bT h4.all)),Pc.nil.snoc hc rfl⟩
   | false=>exact⟨rfl,rfl,rfl,rfl,(jo hs).symm▸h3,(h4.snoc hc (jo hs)).imp λc h=>h.trans (jo hs).symm⟩
theorem RW.PD(h:RN b w0 w1)(hk:0<=b.k)(hi:0 < ind)(h0:0<=bi)(h9:bi<=9)(h5:KO t):RB b true (w0.PD t ind bi bw [10]) (w1.PD t (ind+b.k) bi (bw+b.k) [10]):=by
 have hN:=fJ (R:=FoI b t) (a0:=⟨((w0.sgn (62::aH bi t) true false false).Jd (aH bi t)).brk [10],true,false,true,0⟩) (a1:=⟨((w1.sgn (62::aH bi t) true false false).Jd (aH bi t)).brk [10],true,false,true,0⟩) (yc (bw:=bw) hk hi h5) ⟨rfl,rfl,rfl,rfl,h.hdr (c:=62) (by decide) h0 h9,Pc.nil⟩ t.length (mf _)
 have hn:t[t.length]?=none:=List.getElem?_eq_none (mf _)
 unfold Wr.PD jY
 show RB b true (cJ t ind [10] bw t.length (KG (cJ t ind [10] bw) _ t.length)).w (cJ t (ind+b.k) [10] (bw+b.k) t.length (KG (cJ t (ind+b.k) [10] (bw+b.k)) _ t.length)).w
 rw[hY hn,hY hn]
 generalize KG (cJ t ind [10] bw) _ t.length=s0 at hN ⊢
 generalize KG (cJ t (ind+b.k) [10] (bw+b.k)) _ t.length=s1 at hN ⊢
 obtain⟨v0,l0,e0,k0,p0⟩:=s0
 obtain⟨v1,l1,e1,k1,p1⟩:=s1
 obtain⟨g1,g2,g3,g4,h3,h4⟩:=hN
 have g1:l1=l0:=g1
 have g2:e1=e0:=g2
 have g3:k1=k0:=g3
 have g4:p1=p0:=g4
 subst g1 g2 g3 g4
 cases k1 with
 | true=>exact h3.bks h5 h4
 | false=>
  cases e1 with
  | true=>exact .of (RW.mid h3.n hk hi (bT h4.all))
  | false=>exact(RB.of (k:=true) (RW.raw h3.n (bT h4.all))).brk (by decide)
end
noncomputable def RQ(b:Bs)(k:Bool)(w0 w1:Wr):Prop:=∃fr,RW b fr fr false w0 w1/\(k=false->fr=false)
structure PI(b:Bs)(k:Bool)(s0 s1:Nm):Prop where
 e:s1.sp=s0.sp
 s:s1.st=s0.st
 w:RQ b k s0.w s1.w
section
variable{b:Bs}{w0 w1:Wr}{t:Tx}{ind bi bw:Int}{split k:Bool}{p i:Nat}
theorem RQ.of(h:RN b w0 w1):RQ b k w0 w1:=⟨false,h,λJ=>rfl⟩
theorem RQ.raw{s:Tx}(h:RQ b k w0 w1)(hs:bm s):RQ b k (w0.raw s) (w1.raw s):=by
 obtain⟨fr,h1,h2⟩:=h
 obtain⟨JW,h3,h4⟩:=h1.rawQ hs
 exact⟨JW,h3,λe=>h4 (h2 e)⟩
theorem mZ(h:dF t)(a i:Nat):bm (Jm t a i):=λc hc=>by
 obtain⟨m,_,_,h3⟩:=ju hc
 exact ub (h c (ly h3))
theorem RQ.Ny(h:RQ b k w0 w1)(hk:0<=b.k)(hi:0 < ind)(hw:0<=bw)(hb:dF t):RQ b k (w0.Ny t ind [10] bw split p i) (w1.Ny t (ind+b.k) [10] (bw+b.k) split p i):=by
 obtain⟨fr,h1,h2⟩:=h
 unfold Wr.Ny
 rw[h1.over]
 cases hx:(((p:Int)+1==(i:Int))&&(decide (bw < w0.col)&&split)) with
 | true=>
  have ho:bw < w0.col:=km (ma (ma hx).2).1
  cases fr with
  | true=>rw[h1.z.1 rfl]at ho;exact absurd ho (Int.not_lt.mpr hw)
  | false=>exact .of (RW.off (RW.NZ (fr:=false) h1 hk hi))
 | false=>exact RQ.raw ⟨fr,h1,h2⟩ (mZ hb p i)
theorem xq(hk:0<=b.k)(hi:0 < ind)(hw:0<=bw)(hb:dF t)(i c:Nat)(s0 s1:Nm)(hc:t[i]?=some c)(h:PI b k s0 s1):PI b k (cO t ind [10] bw split i s0) (cO t (ind+b.k) [10] (bw+b.k) split i s1):=by
 obtain⟨v0,e0,p0⟩:=s0
 obtain⟨v1,e1,p1⟩:=s1
 obtain⟨g1,g2,h3⟩:=h
 have g1:e1=e0:=g1
 have g2:p1=p0:=g2
 subst g1 g2
 rw[fA hc,fA hc]
 unfold m6
 cases e1 with
 | true=>
  cases ay c with
  | true=>exact⟨rfl,rfl,h3⟩
  | false=>exact⟨rfl,rfl,RQ.Ny h3 hk hi hw hb⟩
 | false=>
  cases ay c with
  | true=>exact⟨rfl,rfl,RQ.raw h3 (mZ hb _ _)⟩
  | false=>exact⟨rfl,rfl,h3⟩
theorem RW.Nv{r0 r1:Bool}{fr:Bool}(h:RW b fr fr fr w0 w1)(hk:0<=b.k)(hi:0 < ind)(hw:0<=bw)(hb:dF t):RQ b fr (w0.Nv t ind bw [10] split r0) (w1.Nv t (ind+b.k) (bw+b.k) [10] split r1):=by
 unfold Wr.Nv
 cases ht:t.isEmpty with
 | true=>exact⟨fr,(h.Kv r0 r1).wk,id⟩
 | false=>
  have hN:=fJ (R:=λJ=>PI b fr) (a0:=⟨(w0.Kv r0).gap.off,false,0⟩) (a1:=⟨(w1.Kv r1).gap.off,false,0⟩) (xq (bw:=bw) (split:=split) hk hi hw hb) ⟨rfl,rfl,fr,(h.Kv r0 r1).gap.off,id⟩ t.length (mf _)
  have hn:t[t.length]?=none:=List.getElem?_eq_none (mf _)
  unfold jy
  show RQ b fr (cO t ind [10] bw split t.length (KG (cO t ind [10] bw split) _ t.length)).w (cO t (ind+b.k) [10] (bw+b.k) split t.length (KG (cO t (ind+b.k) [10] (bw+b.k) split) _ t.length)).w
  rw[gO hn,gO hn]
  generalize KG (cO t ind [10] bw split) _ t.length=s0 at hN ⊢
  generalize KG (cO t (ind+b.k) [10] (bw+b.k) split) _ t.length=s1 at hN ⊢
  obtain⟨v0,e0,p0⟩:=s0
  obtain⟨v1,e1,p1⟩:=s1
  obtain⟨g1,g2,h3⟩:=hN
  have g1:e1=e0:=g1
  have g2:p1=p0:=g2
  subst g1 g2
  cases e1 with
  | true=>exact RQ.Ny h3 hk hi hw hb
  | false=>exact RQ.raw h3 (mZ hb _ _)
end
structure SI(b:Bs)(t:Tx)(i:Nat)(s0 s1:SS):Prop where
 e:s1.sp=s0.sp
 k:s1.brk=s0.brk
 s:s1.st=s0.st
 le:s0.st<=i
 x:s0.sp=true->s0.brk=false
 w:RN b s0.w s1.w
 p:Pc (λc=>af c=s0.brk) t s0.st i
section
variable{b:Bs}{w0 w1:Wr}{t:Tx}{ind bi bw:Int}{split:Bool}{p i:Nat}
theorem RW.Nx(h:RN b w0 w1)(hk:0<=b.k)(hi:0 < ind)(hp:bm (Jm t p i)):RN b (w0.Nx t ind [10] bw split p i) (w1.Nx t (ind+b.k) [10] (bw+b.k) split p i):=by
 unfold Wr.Nx
 rw[h.over]
 cases (((p:Int)+1==(i:Int))&&(decide (bw < w0.col)&&(split&&(((p:Int) != 0)&&((i:Int) != (t.length:Int)))))) with
 | true=>exact RW.NZ (fr:=false) h hk hi
 | false=>exact h.raw hp
theorem RW.N9(h:RN b w0 w1)(hk:0<=b.k)(hi:0 < ind)(h5:KO t)(hp:Pc (λc=>af c=true) t p i):RN b (w0.N9 t ind [10] p i) (w1.N9 t (ind+b.k) [10] p i):=by
 unfold Wr.N9
 exact(((RB.of h).nl _).bks h5 hp).IW hk hi
theorem RW.Lv(h:RN b w0 w1)(hp:bm (Jm t p i)):RN b (w0.Lv t p i) (w1.Lv t p i):=by
 unfold Wr.Lv
 cases decide ((p:Int) < i) with
 | true=>exact h.raw hp
 | false=>exact h
theorem Ap(h:p<=i):JZ p i=i:=fO h
theorem Ds:bm [39,39]:=λc hc=>by
 have:c=39:=by rcases kq hc with rfl | hc;rfl;exact ku hc
 subst this;decide
theorem pU{c:Nat}{s0 s1:SS}(hc:t[i]?=some c)(he:s1.st=s0.st)(hle:s0.st<=i)(h:RN b s0.w s1.w)(hp:Pc (λd=>af d=af c) t s0.st i):SI b t (i+1) (P4 i s0 c) (P4 i s1 c):=by
 unfold P4
 cases hq:isQ c with
 | true=>
  have hb:af c=false:=by unfold isQ at hq;rw[beq_iff_eq]at hq;injection hq with hq;subst hq;decide
  exact⟨rfl,rfl,rfl,mf _,λJ=>hb,h.raw Ds,Pc.nil⟩
 | false=>exact⟨rfl,rfl,he,Nat.le_succ_of_le hle,gG,h,hp.snoc hc rfl⟩
theorem A9(hk:0<=b.k)(hi:0 < ind)(h5:KO t)(i c:Nat)(s0 s1:SS)(hc:t[i]?=some c)(h:SI b t i s0 s1):SI b t (i+1) (LO t ind [10] bw split i s0) (LO t (ind+b.k) [10] (bw+b.k) split i s1):=by
 obtain⟨v0,e0,k0,p0⟩:=s0
 obtain⟨v1,e1,k1,p1⟩:=s1
 obtain⟨g2,g3,g4,hle,hx,h3,h4⟩:=h
 have g2:e1=e0:=g2
 have g3:k1=k0:=g3
 have g4:p1=p0:=g4
 subst g2 g3 g4
 rw[kI hc,kI hc]
 unfold Mq
 cases e1 with
 | true=>
  obtain rfl:k1=false:=hx rfl
  cases hs:ay c with
  | true=>exact pU hc rfl hle h3 (h4.imp λd h=>h.trans (gG hs).symm)
  | false=>exact pU hc rfl (mf i) (RW.Nx h3 hk hi (bT h4.all)) Pc.nil
 | false=>
  cases k1 with
  | true=>
   cases hs:af c with
   | true=>exact pU hc rfl hle h3 (hs.symm▸h4)
   | false=>exact pU hc rfl (mf i) (RW.N9 h3 hk hi h5 h4) Pc.nil
  | false=>
   cases hs:bA c||isQ c with
   | true=>
    refine pU hc rfl ?_ (RW.Lv h3 (bT h4.all)) ?_
    ·exact lx (Ap hle)
    ·show Pc _ t (JZ p1 i) i;rw[Ap hle];exact Pc.nil
   | false=>exact pU hc rfl hle h3 (h4.imp λd h=>h.trans (jo (Bool.or_eq_false_iff.mp hs).1).symm)
theorem RW.sq{fr fl:Bool}(h:RW b fr fr fl w0 w1)(hk:0<=b.k)(hi:0 < ind)(h5:KO t):RN b (w0.sq t ind bw [10] split) (w1.sq t (ind+b.k) (bw+b.k) [10] split):=by
 have hq:bm [39]:=λc hc=>by obtain rfl:=ku hc;decide
 have hN:=fJ (R:=SI b t) (a0:=⟨w0.sgn [39] true false false,false,false,0⟩) (a1:=⟨w1.sgn [39] true false false,false,false,0⟩) (A9 (bw:=bw) (split:=split) hk hi h5) ⟨rfl,rfl,rfl,mf _,JG,h.sgn hq (λh=>nomatch h) _ _ _,Pc.nil⟩ t.length (mf _)
 have hn:t[t.length]?=none:=List.getElem?_eq_none (mf _)
 unfold Wr.sq Ot
 refine RW.sgn (fr:=false) (fl:=false) ?_ hq (λh=>nomatch h) _ _ _
 show RN b (LO t ind [10] bw split t.length (KG (LO t ind [10] bw split) _ t.length)).w (LO t (ind+b.k) [10] (bw+b.k) split t.length (KG (LO t (ind+b.k) [10] (bw+b.k) split) _ t.length)).w
 rw[kJ hn,kJ hn]
 generalize KG (LO t ind [10] bw split) _ t.length=s0 at hN ⊢
 generalize KG (LO t (ind+b.k) [10] (bw+b.k) split) _ t.length=s1 at hN ⊢
 obtain⟨v0,e0,k0,p0⟩:=s0
 obtain⟨v1,e1,k1,p1⟩:=s1
 obtain⟨g2,g3,g4,hle,hx,h3,h4⟩:=hN
 have g2:e1=e0:=g2
 have g3:k1=k0:=g3
 have g4:p1=p0:=g4
 subst g2 g3 g4
 unfold pV
 cases e1 with
 | true=>
  obtain rfl:k1=false:=hx rfl
  exact RW.Nx h3 hk hi (bT h4.all)
 | false=>
  cases k1 with
  | true=>exact RW.N9 h3 hk hi h5 h4
  | false=>exact RW.Lv h3 (bT h4.all)
end
noncomputable def pp(wide:B)(t:Tx):Prop:=∀c∈t,aI wide c=true->bm (eY c)
theorem Cg{wide:B}{c:Nat}(h:aI wide c=false):aB c=false:=by
 cases hl:aB c with
 | false=>rfl
 | true=>
  have:c=10∨c=8232∨c=8233:=by
   have:=km hl
   rcases kq this with h | h
   ·exact .inl h
   ·rcases kq h with h | h
    ·exact .inr (.inl h)
    ·exact .inr (.inr (ku h))
  have k:aI wide c=true:=by
   unfold aI
   rcases this with rfl | rfl | rfl <;> cases wide.truth <;> decide
  rw[k]at h
  exact nomatch h
structure DI(b:Bs)(t:Tx)(i:Nat)(s0 s1:DS):Prop where
 s:s1.st=s0.st
 w:RN b s0.w s1.w
 p:Pc (λc=>aB c=false) t s0.st i
section
variable{b:Bs}{w0 w1:Wr}{t:Tx}{ind bi bw:Int}{split:Bool}{wide:B}{p i:Nat}
theorem Dz{a c k n w:Int}(h:a=c+k):decide (w+k < a+n)=decide (w < c+n):=decide_eq_decide.mpr (by rw[h];omega)
theorem DO:bm [92]:=λc hc=>by obtain rfl:=ku hc;decide
theorem Bx{s t:Tx}(h:bm s)(h':bm t):bm (s++t):=λc hc=>(mx hc).elim (h c) (h' c)
theorem pA{q:Option Nat}(he:∀c,q=some c->aI wide c=true->bm (eY c))(hq:t[i]?=q){s0 s1:DS}(h:DI b t i s0 s1):DI b t (i+1) (Mv t wide i s0 q) (Mv t wide i s1 q):=by
 obtain⟨v0,p0⟩:=s0
 obtain⟨v1,p1⟩:=s1
 obtain⟨g,h3,h4⟩:=h
 have g:p1=p0:=g
 subst g
 cases q with
 | none=>
  refine⟨rfl,RW.Lv h3 h4.all,?_⟩
  intro j c h1 h2 h3
  show aB c=false
  have hj:j < i+1:=h2
  rcases Nat.lt_or_eq_of_le (Nat.le_of_lt_succ hj) with h5 | rfl
  ·refine h4 j c ?_ h5 h3
   have:JZ p1 i<=j:=h1
   unfold JZ at this
   cases hx:decide ((p1:Int) < i) with
   | true=>rw[hx]at this;exact absurd (lj this h5) (Nat.lt_irrefl _)
   | false=>rw[hx]at this;exact this
  ·rw[hq]at h3;exact nomatch h3
 | some c=>
  unfold Mv
  show DI b t (i+1) (bif aI wide c then _ else _) (bif aI wide c then _ else _)
  cases hm:aI wide c with
  | true=>exact⟨rfl,(RW.Lv h3 h4.all).raw (he c rfl hm),Pc.nil⟩
  | false=>exact⟨rfl,h3,h4.snoc hq (Cg hm)⟩
theorem pz{q:Option Nat}(hk:0<=b.k)(hi:0 < ind){s0 s1:DS}(h:DI b t (i+1) s0 s1):DI b t (i+1) (OT t ind [10] bw split i s0 q) (OT t (ind+b.k) [10] (bw+b.k) split i s1 q):=by
 obtain⟨v0,p0⟩:=s0
 obtain⟨v1,p1⟩:=s1
 obtain⟨g,h3,h4⟩:=h
 have g:p1=p0:=g
 subst g
 have hd:PH t (bw+b.k) split i ⟨v1,p1⟩ q=PH t bw split i ⟨v0,p1⟩ q:=by
  unfold PH
  rw[show decide (bw+b.k < v1.col+((i:Int) - p1))=decide (bw < v0.col+((i:Int) - p1)) from Dz (lS h3)]
 unfold OT
 rw[hd]
 cases PH t bw split i ⟨v0,p1⟩ q with
 | false=>exact⟨rfl,h3,h4⟩
 | true=>
  have hW:RN b (MK t ind [10] i ⟨v0,p1⟩) (MK t (ind+b.k) [10] i ⟨v1,p1⟩):=
   RW.off (RW.NZ (fr:=false) (RW.raw h3 (Bx h4.cut.all DO)) hk hi)
  refine⟨rfl,?_,h4.mono ?_⟩
  ·show RN b (bif (t[JZ p1 i]?).any ay then _ else _) (bif (t[JZ p1 i]?).any ay then _ else _)
   cases (t[JZ p1 i]?).any ay with
   | true=>exact hW.raw DO
   | false=>exact hW
  ·show p1<=JZ p1 i
   unfold JZ
   cases hx:decide ((p1:Int) < i) with
   | true=>exact Int.ofNat_le.mp (Int.le_of_lt (km hx))
   | false=>exact mf _
theorem Cl(hk:0<=b.k)(hi:0 < ind)(he:pp wide t)(i c:Nat)(s0 s1:DS)(hc:t[i]?=some c)(h:DI b t i s0 s1):DI b t (i+1) (OS t ind [10] bw split wide i s0) (OS t (ind+b.k) [10] (bw+b.k) split wide i s1):=
 pz hk hi (pA (λd hd hm=>he d (ly hd) hm) rfl h)
theorem RW.dq{fr fl:Bool}(h:RW b fr fr fl w0 w1)(hk:0<=b.k)(hi:0 < ind)(he:pp wide t):RN b (w0.dq t ind bw [10] split wide) (w1.dq t (ind+b.k) (bw+b.k) [10] split wide):=by
 have hq:bm [34]:=λc hc=>by obtain rfl:=ku hc;decide
 have hN:=fJ (R:=DI b t) (a0:=⟨w0.sgn [34] true false false,0⟩) (a1:=⟨w1.sgn [34] true false false,0⟩) (Cl (bw:=bw) (split:=split) hk hi he) ⟨rfl,h.sgn hq (λh=>nomatch h) _ _ _,Pc.nil⟩ t.length (mf _)
 have hn:t[t.length]?=none:=List.getElem?_eq_none (mf _)
 unfold Wr.dq Pe
 refine RW.sgn (fr:=false) (fl:=false) ?_ hq (λh=>nomatch h) _ _ _
 exact(pz (bw:=bw) (split:=split) (q:=t[t.length]?) hk hi (pA (wide:=wide) (q:=t[t.length]?) (λd hd hm=>by rw[hn]at hd;exact nomatch hd) rfl hN)).w
end
noncomputable def KC(b:Bs)(fr sk fl:Bool)(w0 w1:Wr):Prop:=∃JW,RW b JW (JW&&sk) (JW&&!sk) w0 w1/\(fr=false->(sk||fl)=true->JW=false)
section
variable{b:Bs}{w0 w1:Wr}{fr sk fl:Bool}{val s:Tx}{ind bi bw:Int}{r0 r1:Bool}{wide:B}
theorem KC.n(h:RN b w0 w1):KC b fr sk fl w0 w1:=⟨false,h,λJ J=>rfl⟩
theorem KC.blk(h:RB b true w0 w1):KC b fr false false w0 w1:=by
 obtain⟨JW,h1,_⟩:=h
 refine⟨JW,?_,λJ=>JG⟩
 cases JW with
 | true=>exact h1
 | false=>exact h1
theorem KC.pq(h:RQ b fr w0 w1)(hs:sk=true):KC b fr sk fl w0 w1:=by
 subst hs
 obtain⟨JW,h1,h2⟩:=h
 refine⟨JW,?_,λh J=>h2 h⟩
 cases JW with
 | true=>exact h1
 | false=>exact h1
theorem RW.Kb(h:RW b fr fr fr w0 w1)(hs:sk=false->fr=false)(hk:0<=b.k)(hi:0 < ind)(h0:0<=bi)(h9:bi<=9)(hw:0<=bw)(h5:KO val)(he:pp wide val)(hB:(s==[34]||(s==[39]||(s==[62]||s==[124])))=false->dF val)(hbk:(s==[62])=true∨(s==[124])=true->sk=false/\fl=false) :
  KC b fr sk fl (w0.Kb val s ind bi bw [10] sk r0 wide) (w1.Kb val s (ind+b.k) bi (bw+b.k) [10] sk r1 wide):=by
 unfold Wr.Kb
 cases g1:s==[34] with
 | true=>exact .n (h.dq hk hi he)
 | false=>
  cases g2:s==[39] with
  | true=>exact .n (h.sq hk hi h5)
  | false=>
   cases g3:s==[62] with
   | true=>
    obtain⟨rfl,rfl⟩:=hbk (.inl g3)
    obtain rfl:=hs rfl
    exact .blk (RW.PD h hk hi h0 h9 h5)
   | false=>
    cases g4:s==[124] with
    | true=>
     obtain⟨rfl,rfl⟩:=hbk (.inr g4)
     obtain rfl:=hs rfl
     exact .blk (RW.lit h hk hi h0 h9 h5)
    | false=>
     have hp:=RW.Nv (split:=!sk) (r0:=r0) (r1:=r1) h hk hi hw (hB (by rw[g1,g2,g3,g4];rfl))
     cases hsk:sk with
     | true=>exact .pq (by rw[hsk]at hp;exact hp) rfl
     | false=>
      obtain rfl:=hs hsk
      obtain⟨JW,h1,h2⟩:=hp
      obtain rfl:=h2 rfl
      rw[hsk]at h1
      exact .n h1
end
section
variable{w:Wr}{t:Tx}{ind bi bw:Int}{lb:Tx}{split:Bool}{wide:B}
theorem sZ(t:Tx):2+(t.length+4)*(t.length+1)<=ci t:=by
 have:=eA (mf t.length)
 rw[Nat.mul_add] ;omega
theorem ux(w:Wr)(h x:Tx)(lb:Tx):Gr w (((w.sgn h true false false).Jd x).brk lb) 2:=Gr.trans (n:=1) (m:=1) (aS w h true false false) (cF (((w.sgn h true false false).Jd x)) lb)
theorem BR:Gr w (w.lit t ind bi lb) (ci t):=((ux w (124::aH bi t) (aH bi t) lb).trans (dM (p:=LS.w) (jH t ind lb) ⟨((w.sgn (124::aH bi t) true false false).Jd (aH bi t)).brk lb,true,0⟩ (t.length+1))).le (sZ t)
theorem BS:Gr w (w.PD t ind bi bw lb) (ci t):=((ux w (62::aH bi t) (aH bi t) lb).trans (dM (p:=FS.w) (λi s=>(jX t ind lb bw i s).1) ⟨((w.sgn (62::aH bi t) true false false).Jd (aH bi t)).brk lb,true,false,true,0⟩ (t.length+1))).le (sZ t)
theorem jT(w:Wr):Gr w w.gap 1:=by
 unfold Wr.gap
 cases w.ws with
 | true=>exact .refl
 | false=>exact bq w [32]
theorem BQ{r:Bool}:Gr w (w.Nv t ind bw lb split r) (ci t):=by
 unfold Wr.Nv
 cases t.isEmpty with
 | true=>exact(⟨id,lw _ _⟩:Gr w (w.Kv r) (ci t))
 | false=>
  have h:Gr w (w.Kv r).gap.off 1:=⟨(jT (w.Kv r)).1,(jT (w.Kv r)).2⟩
  refine(h.trans (dM (p:=Nm.w) (oC t ind lb bw split) ⟨(w.Kv r).gap.off,false,0⟩ (t.length+1))).le ?_
  have:=s7 t
  omega
theorem En:Gr w (w.sq t ind bw lb split) (ci t):=by
 have G:=mQ t ind lb bw split (w.sgn [39] true false false) t.length (mf _)
 have h:=(((aS w [39] true false false).trans G.2).trans (mP t ind lb bw split t.length _ G.1).1).trans (aS _ [39] false false false)
 refine h.le ?_
 have:=eA (mf t.length)
 omega
theorem Eo:Gr w (w.dq t ind bw lb split wide) (ci t):=by
 refine(((aS w [34] true false false).trans (nH t ind lb bw split wide _ (t.length+1)).2).trans (aS _ [34] false false false)).le ?_
 have:=s7 t
 omega
theorem x7{s:Tx}{sk r:Bool}:Gr w (w.Kb t s ind bi bw lb sk r wide) (ci t):=by
 unfold Wr.Kb
 cases s==[34] with
 | true=>exact Eo
 | false=>
  cases s==[39] with
  | true=>exact En
  | false=>
   cases s==[62] with
   | true=>exact BS
   | false=>
    cases s==[124] with
    | true=>exact BR
    | false=>exact BQ
end
theorem CM(t:Tx)(wide:B)(i c:Nat)(s:AS):(anC t wide i c s).lb=(af c||s.lb):=by
 have h0:(QW wide c (an3 c (Qm ((i:Int)==0) c s))).lb=(af c||s.lb):=by
  show(af c||(Qm ((i:Int)==0) c s).lb)=_
  cases ((i:Int)==0) <;> rfl
 unfold anC
 show(an5 ((i:Int)==0) ((i:Int)==(t.length:Int) - 1) c (QW wide c (an3 c (Qm ((i:Int)==0) c s)))).lb=_
 generalize QW wide c (an3 c (Qm ((i:Int)==0) c s))=x at h0
 unfold an5
 cases ay c with
 | true=>exact h0
 | false=>
  cases hb:af c with
  | true=>rw[hb]at h0;exact h0
  | false=>rw[hb]at h0;exact h0
theorem v5(t:Tx)(wide:B):∀i,i<=t.length->(Pf t wide i).lb=false->Pc (λc=>af c=false) t 0 i
 | 0,_,_=>Pc.nil
 | i+1,hi,h=>by
  have hc:t[i]?=some (t[i]'hi):=kx hi
  have e:Pf t wide (i+1)=anC t wide i (t[i]'hi) (Pf t wide i):=by
   show QV t wide i (Pf t wide i)=_
   unfold QV;rw[hc]
  rw[e,CM,Bool.or_eq_false_iff]at h
  exact(v5 t wide i (Nat.le_of_lt hi) h.2).snoc hc h.1
theorem v4{t:Tx}{wide:B}(h:(MZ t wide).lb=false):dF t:=λc hc=>by
 obtain⟨i,hi,rfl⟩:=List.mem_iff_getElem.mp hc
 exact v5 t wide t.length (mf _) h i _ (mi _) hi (kx hi)
theorem kP{t:Tx}{wide:B}(h:(Oa t wide||Oc t wide)=true):dF t:=by
 cases t with
 | nil=>exact λc hc=>nomatch hc
 | cons c t=>
  refine v4 (wide:=wide) ?_
  have h:((MZ (c::t) wide).fp||(MZ (c::t) wide).bp)=true:=h
  unfold AS.fp AS.bp at h
  cases hl:(MZ (c::t) wide).lb with
  | false=>rfl
  | true=>rw[hl,show(!true)=false from rfl,Bool.false_and,Bool.and_false,Bool.and_false]at h;exact nomatch h
section
variable{IV:B}{i0 IL fl sk em lb fp bp sq bk:Bool}
theorem jl{P:B->Prop}(h1:P (.str [34]))(h2:i0=true->(fp||bp)=true->P (.str []))(h3:nv IV=true->fl=false->sk=false->P IV)(h4:P (.str [39])):P (dy IV i0 IL fl sk em lb fp bp sq bk):=by
 unfold dy
 cases isStr IV [34]||IL with
 | true=>exact h1
 | false=>
  cases g2:(!IV.truth&&i0)&&(!(sk&&(em||lb))&&((fl&&fp)||(!fl&&bp))) with
  | true=>
   have a:=ma g2
   have a1:=ma a.1
   have a2:=ma a.2
   refine h2 a1.2 ?_
   cases fl with
   | true=>exact Bool.or_eq_true_iff.mpr (.inl ((Bool.or_false _).symm.trans a2.2))
   | false=>exact Bool.or_eq_true_iff.mpr (.inr a2.2)
  | false=>
   cases g3:(IV.truth&&nv IV)&&(!fl&&(!sk&&bk)) with
   | true=>
    have a:=ma g3
    have a2:=ma a.2
    refine h3 (ma a.1).2 ?_ ?_
    ·cases fl with
     | true=>exact a2.1.symm
     | false=>rfl
    ·cases sk with
     | true=>exact a2.2.symm
     | false=>rfl
   | false=>
    cases (!IV.truth||isStr IV [39])&&(sq&&!(sk&&lb)) with
    | true=>exact h4
    | false=>exact h1
theorem OB(h:nv IV=true):IV=.str [124]∨IV=.str [62]:=by
 cases IV with
 | str s=>
  cases s with
  | nil=>exact JG h
  | cons c r=>
   cases r with
   | nil=>
    rcases kq (km h) with rfl | h
    ·exact .inl rfl
    ·exact .inr (by rw[ku h])
   | cons=>exact JG h
 | _=>exact JG h
theorem zO{Q:Prop}(h:(fp||bp)=true->Q):(strOf (dy IV i0 IL fl sk em lb fp bp sq bk)==[34]||(strOf (dy IV i0 IL fl sk em lb fp bp sq bk)==[39]||(strOf (dy IV i0 IL fl sk em lb fp bp sq bk)==[62]||strOf (dy IV i0 IL fl sk em lb fp bp sq bk)==[124])))=false->Q:=
 jl (P:=λx=>(strOf x==[34]||(strOf x==[39]||(strOf x==[62]||strOf x==[124])))=false->Q) (λh=>nomatch h) (λJ hp J=>h hp) (λhb J J=>by rcases OB hb with rfl | rfl <;> exact λh=>nomatch h) (λh=>nomatch h)
theorem Dd:(strOf (dy IV i0 IL fl sk em lb fp bp sq bk)==[62])=true∨(strOf (dy IV i0 IL fl sk em lb fp bp sq bk)==[124])=true->sk=false/\fl=false:=
 jl (P:=λx=>(strOf x==[62])=true∨(strOf x==[124])=true->sk=false/\fl=false) (λh=>h.elim (λh=>nomatch h) (λh=>nomatch h)) (λJ J h=>h.elim (λh=>nomatch h) (λh=>nomatch h)) (λJ h1 h2 J=>⟨h2,h1⟩) (λh=>h.elim (λh=>nomatch h) (λh=>nomatch h))
theorem De(h:i0=false):isStr (dy IV i0 IL fl sk em lb fp bp sq bk) []=false:=
 jl (P:=λx=>isStr x []=false) rfl (λh1 J=>by rw[h]at h1;exact nomatch h1) (λhb J J=>by rcases OB hb with rfl | rfl <;> rfl) rfl
end
noncomputable def M6(w:Wr):Nat:=w.rows.flatten.length
noncomputable def GL(w w':Wr)(n:Nat):Prop:=0<=w.col->0<=w'.col/\M6 w'<=M6 w+n
section
variable{w w' w'':Wr}{n m:Nat}{i:Int}{s t:Tx}{p j:Nat}
theorem GL.refl:GL w w n:=λh=>⟨h,lw _ _⟩
theorem GL.trans(h:GL w w' n)(h':GL w' w'' m):GL w w'' (n+m):=λc=>⟨(h' (h c).1).1,kg (h' (h c).1).2 (by have:=(h c).2;omega)⟩
theorem GL.le(h:GL w w' n)(hm:n<=m):GL w w' m:=λc=>⟨(h c).1,kg (h c).2 (me hm _)⟩
theorem gD(l:List Tx)(s:Tx):(l++[s]).flatten.length=l.flatten.length+s.length:=by rw[MY,ky]
theorem uz(w:Wr)(s:Tx):GL w (w.put s) s.length:=λh=>⟨h,lx (gD _ _)⟩
theorem fM(w:Wr)(s:Tx):GL w (w.brk s) s.length:=λJ=>⟨Int.le_refl 0,lx (gD _ _)⟩
theorem eD(w:Wr)(s:Tx):GL w (w.raw s) s.length:=λh=>⟨Int.add_nonneg h (Int.natCast_nonneg _),lx (gD _ _)⟩
theorem bR(w:Wr)(s:Tx)(a b c:Bool):GL w (w.sgn s a b c) (s.length+1):=λh=>⟨Int.add_nonneg h (Int.natCast_nonneg _),by
 have e:M6 (w.sgn s a b c)=M6 w+(bif w.ws||!a then s else 32::s).length:=gD _ _
 rw[e]
 cases w.ws||!a with
 | true=>exact me (mw _) _
 | false=>exact mf _⟩
theorem sy(i:Int):(aJ i).length=i.toNat:=by
 show(List.replicate i.toNat [32]).flatten.length=_
 induction i.toNat with
 | zero=>rfl
 | succ n ih=>rw[List.replicate_succ,List.flatten_cons,ky,ih];exact Nat.add_comm 1 n
theorem uA(w:Wr)(i:Int):GL w (w.pad i) i.toNat:=λh=>by
 by_cases hi:w.col < i
 ·rw[gP hi]
  refine⟨Int.le_of_lt (Int.lt_of_le_of_lt h hi),?_⟩
  show(w.rows++[_]).flatten.length<=w.rows.flatten.length+_
  rw[gD,sy];omega
 ·rw[gQ hi];exact⟨h,lw _ _⟩
theorem uE(w:Wr)(i:Int):GL w (w.IW i [10]) (i.toNat+1):=by
 unfold Wr.IW
 cases w.Mf i with
 | true=>exact((fM w [10]).trans (uA _ i)).le (lx (Nat.add_comm 1 _))
 | false=>exact(uA w i).le (mw _)
theorem x9(s:Tx):∀w:Wr,GL w (w.J9 [10] s) s.length:=by
 induction s with
 | nil=>exact λw=>.refl
 | cons c s ih=>
  refine λw=>((fM w (bif c==10 then [10] else [c])).trans (ih _)).le ?_
  have:(bif c==10 then [10] else [c]:Tx).length=1:=by cases c==10 <;> rfl
  rw[this];exact lx (Nat.add_comm 1 _)
theorem eJ(t:Tx)(a i:Nat):(Jm t a i).length<=i - a:=by
 rw[oy,List.length_take]
 refine kg (Nat.min_le_left _ _) ((Nat.le_total a t.length).elim (λh=>?_) λh=>?_)
 ·rw[Nat.min_eq_left h];exact Nat.sub_le_sub_right (Nat.min_le_left _ _) _
 ·rw[Nat.min_eq_right h,Nat.sub_eq_zero_of_le (Nat.min_le_right _ _)];exact mi _
theorem fY(w:Wr)(t:Tx)(p j:Nat):GL w (w.raw (Jm t p j)) (j - p):=(eD w _).le (eJ t p j)
theorem lF(w:Wr)(t:Tx)(p j:Nat):GL w (w.J9 [10] (Jm t p j)) (j - p):=(x9 _ w).le (eJ t p j)
noncomputable def SH(K i:Nat)(w:Wr)(st:Nat)(w':Wr)(II:Nat):Prop:=II<=i+1/\∃m,GL w w' m/\m+(i+1 - II)<=(i - st)+K
variable{K st:Nat}
theorem SH.kp{i:Nat}(h:st<=i)(hK:1<=K):SH K i w st w st:=⟨Nat.le_succ_of_le h,0,.refl,by omega⟩
theorem SH.wr{i n:Nat}(g:GL w w' ((i - st)+n))(hK:n+1<=K):SH K i w st w' i:=⟨mw i,_,g,by omega⟩
theorem zW{α:Type}{f:Nat->α->α}{pw:α->Wr}{ps:α->Nat}(step:∀i s,ps s<=i->SH K i (pw s) (ps s) (pw (f i s)) (ps (f i s)))(a:α)(h0:ps a=0):∀i,ps (KG f a i)<=i/\∃m,GL (pw a) (pw (KG f a i)) m/\m+(i - ps (KG f a i))<=K*i
 | 0=>⟨lx h0,0,.refl,by show 0+(0 - ps a)<=K*0;omega⟩
 | i+1=>by
  obtain⟨h1,m,g,hm⟩:=zW step a h0 i
  obtain⟨h2,m',g',hm'⟩:=step i (KG f a i) h1
  refine⟨h2,m+m',g.trans g',?_⟩
  rw[Nat.mul_succ]
  show m+m'+(i+1 - ps (f i (KG f a i)))<=_
  omega
theorem gI{α:Type}{f:Nat->α->α}{pw:α->Wr}{ps:α->Nat}(step:∀i s,ps s<=i->SH K i (pw s) (ps s) (pw (f i s)) (ps (f i s))){a:α}(h0:ps a=0)(i:Nat):GL (pw a) (pw (KG f a i)) (K*i):=by
 obtain⟨_,m,g,hm⟩:=zW step a h0 i
 exact g.le (kg (lw _ _) hm)
end
section
variable{t:Tx}{ind bi bw:Int}{split:Bool}{wide:B}{w:Wr}{I:Nat}
theorem iC{i:Int}(h:i.toNat<=I)(w:Wr):GL w (w.IW i [10]) (I+1):=(uE w i).le (mj h)
theorem BD(hI:ind.toNat<=I)(i:Nat)(s:LS)(h:s.st<=i):SH (I+20) i s.w s.st (cZ t ind [10] i s).w (cZ t ind [10] i s).st:=by
 obtain⟨w,b,p⟩:=s
 cases hq:t[i]? with
 | none=>
  rw[g5 hq]
  cases b with
  | true=>exact .wr (n:=0) (lF w t p i) (by omega)
  | false=>exact .wr (n:=1) (((uz w _).le (eJ t p i)).trans (fM _ [10])) (by omega)
 | some c=>
  cases hb:af c with
  | true=>
   rw[g6 hq hb]
   cases b with
   | true=>exact .kp h (by omega)
   | false=>exact .wr (n:=0) ((uz w _).le (eJ t p i)) (by omega)
  | false=>
   rw[gZ hq hb]
   cases b with
   | true=>exact .wr (n:=I+1) ((lF w t p i).trans (iC hI _)) (by omega)
   | false=>exact .kp h (by omega)
theorem uB(hI:ind.toNat<=I)(w:Wr)(p i:Nat):GL w (w.mid t ind [10] bw p i) ((i - p)+(I+1)):=by
 unfold Wr.mid
 cases (((p:Int)+1==(i:Int))&&decide (bw < w.col)) with
 | true=>exact(iC hI w).le (mu _ _)
 | false=>exact(fY w t p i).le (lw _ _)
theorem An(x:Bool)(w:Wr):GL w (bif x then w.brk [10] else w) 1:=by
 cases x with
 | true=>exact fM w [10]
 | false=>exact .refl
theorem B5(hI:ind.toNat<=I)(i:Nat)(s:FS)(h:s.st<=i):SH (I+20) i s.w s.st (cJ t ind [10] bw i s).w (cJ t ind [10] bw i s).st:=by
 obtain⟨w,ld,sp,b,p⟩:=s
 cases hq:t[i]? with
 | none=>
  rw[hY hq]
  unfold lH
  cases b with
  | true=>exact .wr (n:=0) (lF w t p i) (by omega)
  | false=>
   cases sp with
   | true=>exact .wr (n:=I+1) (uB hI w p i) (by omega)
   | false=>exact .wr (n:=1) ((fY w t p i).trans (fM _ [10])) (by omega)
 | some c=>
  rw[hU hq]
  unfold qX
  cases b with
  | true=>
   cases af c with
   | true=>exact .kp h (by omega)
   | false=>exact .wr (n:=I+2) ((((An _ w).trans (lF _ t p i)).trans (iC hI _)).le (by show 1+(i - p)+(I+1)<=(i - p)+(I+2);omega)) (by omega)
  | false=>
   cases sp with
   | true=>
    cases ay c with
    | true=>exact .kp h (by omega)
    | false=>exact .wr (n:=I+1) (uB hI w p i) (by omega)
   | false=>
    cases bA c with
    | true=>exact .wr (n:=0) (fY w t p i) (by omega)
    | false=>exact .kp h (by omega)
theorem Bj(hI:ind.toNat<=I)(i:Nat)(s:Nm)(h:s.st<=i):SH (I+20) i s.w s.st (cO t ind [10] bw split i s).w (cO t ind [10] bw split i s).st:=by
 obtain⟨w,sp,p⟩:=s
 have hm:GL w (w.Ny t ind [10] bw split p i) ((i - p)+(I+1)):=by
  unfold Wr.Ny
  cases (((p:Int)+1==(i:Int))&&(decide (bw < w.col)&&split)) with
  | true=>exact(iC hI w).le (mu _ _)
  | false=>exact(fY w t p i).le (lw _ _)
 cases hq:t[i]? with
 | none=>
  rw[gO hq]
  unfold kO
  cases sp with
  | true=>exact .wr (n:=I+1) hm (by omega)
  | false=>exact .wr (n:=0) (fY w t p i) (by omega)
 | some c=>
  rw[fA hq]
  unfold m6
  cases sp with
  | true=>
   cases ay c with
   | true=>exact .kp h (by omega)
   | false=>exact .wr (n:=I+1) hm (by omega)
  | false=>
   cases ay c with
   | true=>exact .wr (n:=0) (fY w t p i) (by omega)
   | false=>exact .kp h (by omega)
theorem nC(w:Wr)(p i:Nat):GL w (w.Lv t p i) (i - p):=by
 unfold Wr.Lv
 cases decide ((p:Int) < i) with
 | true=>exact fY w t p i
 | false=>exact .refl
theorem Dj(hI:ind.toNat<=I)(i:Nat)(s:SS)(h:s.st<=i):SH (I+20) i s.w s.st (LO t ind [10] bw split i s).w (LO t ind [10] bw split i s).st:=by
 obtain⟨w,sp,b,p⟩:=s
 have hm:GL w (w.Nx t ind [10] bw split p i) ((i - p)+(I+1)):=by
  unfold Wr.Nx
  cases (((p:Int)+1==(i:Int))&&(decide (bw < w.col)&&(split&&(((p:Int) != 0)&&((i:Int) != (t.length:Int)))))) with
  | true=>exact(iC hI w).le (mu _ _)
  | false=>exact(fY w t p i).le (lw _ _)
 have hb:GL w (w.N9 t ind [10] p i) ((i - p)+(I+2)):=(((An _ w).trans (lF _ t p i)).trans (iC hI _)).le (by omega)
 have hf:SH (I+10) i w p (w.Lv t p i) (JZ p i):=by
  have:JZ p i=i:=fO h
  rw[this]
  exact .wr (n:=0) (nC w p i) (by omega)
 cases hq:t[i]? with
 | none=>
  rw[kJ hq]
  unfold pV
  cases sp with
  | true=>exact .wr (n:=I+1) hm (by omega)
  | false=>
   cases b with
   | true=>exact .wr (n:=I+2) hb (by omega)
   | false=>obtain⟨h1,m,g,h2⟩:=hf;exact⟨h1,m,g,kg h2 (me (me (by decide) _) _)⟩
 | some c=>
  rw[kI hq]
  have h0:SH (I+10) i w p (Mq t ind [10] bw split i ⟨w,sp,b,p⟩ c).w (Mq t ind [10] bw split i ⟨w,sp,b,p⟩ c).st:=by
   unfold Mq
   cases sp with
   | true=>
    cases ay c with
    | true=>exact .kp h (by omega)
    | false=>exact .wr (n:=I+1) hm (by omega)
   | false=>
    cases b with
    | true=>
     cases af c with
     | true=>exact .kp h (by omega)
     | false=>exact .wr (n:=I+2) hb (by omega)
    | false=>
     cases bA c||isQ c with
     | true=>exact hf
     | false=>exact .kp h (by omega)
  obtain⟨h1,m,g,h2⟩:=h0
  unfold P4
  cases isQ c with
  | true=>exact⟨mf _,m+2,g.trans (eD _ [39,39]),by show m+2+(i+1 - (i+1))<=i - p+_;omega⟩
  | false=>exact⟨h1,m,g,kg h2 (me (me (by decide) _) _)⟩
noncomputable def vg(wide:B)(t:Tx):Prop:=∀c∈t,aI wide c=true->(eY c).length<=10
theorem EX(hI:ind.toNat<=I)(he:vg wide t)(i:Nat)(s:DS)(h:s.st<=i):SH (I+20) i s.w s.st (OS t ind [10] bw split wide i s).w (OS t ind [10] bw split wide i s).st:=by
 obtain⟨w,p⟩:=s
 have h:p<=i:=h
 have h0:(Mv t wide i ⟨w,p⟩ t[i]?).st<=i+1/\∃m,GL w (Mv t wide i ⟨w,p⟩ t[i]?).w m/\m+(i - (Mv t wide i ⟨w,p⟩ t[i]?).st)<=(i - p)+10:=by
  cases hq:t[i]? with
  | none=>
   refine⟨gx (Nat.le_succ_of_le h),i - p,nC w p i,?_⟩
   show i - p+(i - JZ p i)<=_
   rw[fO h];omega
  | some c=>
   unfold Mv
   show(bif aI wide c then(⟨_,_⟩:DS) else _).st<=_/\∃m,GL w (bif aI wide c then(⟨_,_⟩:DS) else _).w m/\m+(i - (bif aI wide c then(⟨_,_⟩:DS) else _).st)<=_
   cases hm:aI wide c with
   | true=>exact⟨mf _,_,(nC w p i).trans ((eD _ _).le (he c (ly hq) hm)),by show i - p+10+(i - (i+1))<=_;omega⟩
   | false=>exact⟨Nat.le_succ_of_le h,0,.refl,by show 0+(i - p)<=_;omega⟩
 obtain⟨h1,m,g,h2⟩:=h0
 unfold OS
 generalize Mv t wide i ⟨w,p⟩ t[i]?=s1 at h1 g h2
 obtain⟨w1,p1⟩:=s1
 have h1:p1<=i+1:=h1
 have h2:m+(i - p1)<=i - p+10:=h2
 unfold OT
 cases PH t bw split i ⟨w1,p1⟩ t[i]? with
 | false=>exact⟨h1,m,g,by show m+(i+1 - p1)<=(i - p)+_;omega⟩
 | true=>
  have hW:GL w1 (MK t ind [10] i ⟨w1,p1⟩) ((i - p1)+1+(I+1)):=(((eD w1 (Jm t p1 i++[92])).le (by rw[ky];exact mj (eJ t p1 i))).trans (iC hI _))
  have hF:GL w1 (dqF t ind [10] i ⟨w1,p1⟩).w ((i - p1)+1+(I+1)+1):=by
   show GL w1 (bif (t[JZ p1 i]?).any ay then _ else _) _
   cases (t[JZ p1 i]?).any ay with
   | true=>exact hW.trans (eD _ [92])
   | false=>exact hW.le (mw _)
  have hp:JZ p1 i<=i+1/\i+1 - JZ p1 i<=1:=by
   refine⟨gx h1,?_⟩
   unfold JZ
   cases hx:decide ((p1:Int) < i) with
   | true=>show i+1 - i<=1;omega
   | false=>show i+1 - p1<=1;have:=of_decide_eq_false hx;omega
  exact⟨hp.1,_,g.trans hF,by show m+_+(i+1 - JZ p1 i)<=_;show m+((i - p1)+1+(I+1)+1)+(i+1 - JZ p1 i)<=(i - p)+(I+20);have:=hp.2;omega⟩
theorem uC(w:Wr)(h x:Tx):GL w (((w.sgn h true false false).Jd x).brk [10]) (h.length+2):=GL.trans (n:=h.length+1) (m:=1) (bR w h true false false) (fM (((w.sgn h true false false).Jd x)) [10])
theorem uD(w:Wr):GL w w.gap 1:=by
 unfold Wr.gap
 cases w.ws with
 | true=>exact .refl
 | false=>exact eD w [32]
theorem x8(hI:ind.toNat<=I)(he:vg wide t){s:Tx}{sk r:Bool}:GL w (w.Kb t s ind bi bw [10] sk r wide) ((I+20)*(t.length+1)+10):=by
 have hh:=fL bi t
 unfold Wr.Kb
 cases s==[34] with
 | true=>exact(((bR w [34] true false false).trans (gI (pw:=DS.w) (ps:=DS.st) (EX hI he) (a:=⟨w.sgn [34] true false false,0⟩) rfl (t.length+1))).trans (bR _ [34] false false false)).le (by show 2+(I+20)*(t.length+1)+2<=_;omega)
 | false=>
  cases s==[39] with
  | true=>exact(((bR w [39] true false false).trans (gI (pw:=SS.w) (ps:=SS.st) (Dj hI) (a:=⟨w.sgn [39] true false false,false,false,0⟩) rfl (t.length+1))).trans (bR _ [39] false false false)).le (by show 2+(I+20)*(t.length+1)+2<=_;omega)
  | false=>
   cases s==[62] with
   | true=>exact((uC w (62::aH bi t) (aH bi t)).trans (gI (pw:=FS.w) (ps:=FS.st) (B5 hI) (a:=⟨((w.sgn (62::aH bi t) true false false).Jd (aH bi t)).brk [10],true,false,true,0⟩) rfl (t.length+1))).le (by show(aH bi t).length+1+2+(I+20)*(t.length+1)<=_;omega)
   | false=>
    cases s==[124] with
    | true=>exact((uC w (124::aH bi t) (aH bi t)).trans (gI (pw:=LS.w) (ps:=LS.st) (BD hI) (a:=⟨((w.sgn (124::aH bi t) true false false).Jd (aH bi t)).brk [10],true,0⟩) rfl (t.length+1))).le (by show(aH bi t).length+1+2+(I+20)*(t.length+1)<=_;omega)
    | false=>
     show GL w (w.Nv t ind bw [10] (!sk) r) _
     unfold Wr.Nv
     cases t.isEmpty with
     | true=>exact λh=>⟨h,lw _ _⟩
     | false=>exact(GL.trans (n:=1) (w':=(w.Kv r).gap.off) (uD (w.Kv r)) (gI (pw:=Nm.w) (ps:=Nm.st) (Bj hI) (a:=⟨(w.Kv r).gap.off,false,0⟩) rfl (t.length+1))).le (by omega)
end
noncomputable def Gq(w w':Wr):Prop:=w'.rows.length<=w.rows.length+1000/\M6 w'<=M6 w+60000
section
variable{w w':Wr}{i:Int}{s:Tx}{x y z:Bool}
theorem Gq.refl:Gq w w:=⟨lw _ _,lw _ _⟩
theorem Gq.of{n m:Nat}(g:Gr w w' n)(l:GL w w' m)(h:0<=w.col)(hn:n<=1000)(hm:m<=60000):Gq w w':=⟨kg g.2 (me hn _),kg (l h).2 (me hm _)⟩
theorem rX(h:i<=1820):i.toNat<=1820:=by omega
theorem Gq.sg(h:0<=w.col)(hs:s.length<=500):Gq w (w.sgn s x y z):=.of (aS w s x y z) (bR w s x y z) h (by decide) (kg (mj hs) (by decide))
theorem Gq.dt(h:0<=w.col)(hi:i<=1820):Gq w (w.IW i [10]):=.of (bE w i [10]) (iC (rX hi) w) h (by decide) (by decide)
theorem Gq.ds(h:0<=w.col)(hi:i<=1820)(hs:s.length<=500):Gq w ((w.IW i [10]).sgn s x y z):=.of ((bE w i [10]).trans (aS _ s x y z)) ((iC (rX hi) w).trans (bR _ s x y z)) h (by decide) (by omega)
end
noncomputable def Lk(v:V)(rr nx:List V):Prop:=(Ji [10] (J8 v)=true->ax 11 rr=ax 11 nx)/\(Ji [12] (J8 v)=true->ax 13 rr=ax 13 nx)
noncomputable def NR(v:V)(nx:List V)(r s m k:Bool)(e E:Em):Prop:=E.m.LA=e.m.LA/\∀d g rr,LZ rr->Lk v rr nx->aZ e g->aV (d+7) 10 (bY r s m k) (e.take v rr) g (E.take v rr)
noncomputable def Qn(e:Em)(g:List Ob):Prop:=(e.k.state=.IA 4 2∨e.k.state=.IA 6 2)∨aZ e g
noncomputable def Ko(e:Em)(v:V)(nx:List V)(E:Em):Prop:=∀d g rr,LZ rr->Lk v rr nx->Qn e g->∃j f vs x,e.k.state=.IA j 2/\eR[j]?=some f/\aM f [.ref 2] []=some vs/\(IH (d+11)).IG j vs (Iy (e.take v rr) g)=some (.b .nul,Iy (E.take v rr) (g++x))/\Qn E (g++x)
noncomputable def LM:List V->List V->Em->Em->Prop
 | [],_,e,E=>E=e
 | v::vs,rr,e,E=>∃e1,Ko e v (vs++rr) e1/\LM vs rr e1 E
theorem LM.app{ws rr:List V}{E:Em}:∀{vs:List V}{e e1:Em},LM vs (ws++rr) e e1->LM ws rr e1 E->LM (vs++ws) rr e E
 | [],e,e1,h,h'=>by obtain rfl:e1=e:=h;exact h'
 | v::vs,e,e1,h,h'=>by
  obtain⟨e2,h1,h2⟩:=h
  exact⟨e2,by show Ko e v ((vs++ws)++rr) e2;rw[lu];exact h1,LM.app h2 h'⟩
structure Vd(e:Em)(n:Nat):Prop where
 rows:e.w.rows.length+1000*n<=IU
 tl:M6 e.w+60000*n<=IU
 col:0<=e.w.col
 ind:∃i:Int,e.c.indent=.int i/\0<=i/\i+9*n<=1800
 IL:e.o.IL=.nul
 lb:e.o.lb=[10]
 b2:2<=e.o.bi
 b9:e.o.bi<=9
 bw:0<=e.o.bw
 wd:∃u,e.o.wide=.bool u
 O5:e.k.IC.length+n<=1000
 ids:e.k.ID.length+n<=1000
noncomputable def MC(e:Em):Prop:=e.m.IB=.nul/\e.m.tag=.nul/\e.m.Jp=.b .nul/\e.m.IV=.nul
noncomputable def MP(e:Em)(IB tag:B)(sc:Bool)(val:Tx):Prop:=(e.m.IB=.nul∨e.m.IB=IB)/\(e.m.tag=.nul∨e.m.tag=tag)/\(e.m.Jp=.b .nul∨(sc=true/\e.m.Jp=Jp val e.o.wide))/\e.m.IV=.nul
theorem MC.mp{e:Em}(h:MC e){IB tag:B}{sc:Bool}{val:Tx}:MP e IB tag sc val:=⟨.inl h.1,.inl h.2.1,.inl h.2.2.1,h.2.2.2⟩
theorem MP.o{e E:Em}{IB tag:B}{sc:Bool}{val:Tx}(h:MP e IB tag sc val)(hm:E.m=e.m)(ho:E.o=e.o):MP E IB tag sc val:=by unfold MP;rw[hm,ho];exact h
noncomputable def vh(t:Tx):Prop:=∀u:Bool,ic (.bool u) t/\(pp (.bool u) t/\vg (.bool u) t)
structure iH(IB tag:B)(i0 i1:Bool)(val:Tx)(IV:B):Prop where
 a:dm IB
 t:JK tag
 s:dH IV
 l:val.length<=24
 n:KO val
 e:vh val
 q:tag=.nul->(i0||i1)=true
structure gj(IB tag:B)(imp:Bool):Prop where
 a:dm IB
 t:JK tag
 q:tag=.nul->imp=true
section
variable{e E:Em}{n:Nat}{v:V}{nx S:List V}{t:V}{r s m k:Bool}{IB tag IV fl:B}{i0 i1 imp:Bool}{val:Tx}
theorem Vd.fit(h:Vd e (n+1)){q:Nat}(hq:q<=1000):NK e q:=
 ⟨kg (me (kg hq (by omega)) _) h.rows,h.col,.inr (by obtain⟨i,h1,h2,h3⟩:=h.ind;exact⟨i,h1,by omega⟩),Int.le_trans (by decide) h.b2,h.b9,lj (kg (lw _ _) h.ids) (by decide)⟩
theorem Vd.ok(h:Vd e (n+1)){q:Nat}(hq:q<=1000):e.ok q:=(h.fit hq).ok
theorem Vd.Pn(h:Vd e (n+1)):IM e.c.indent:=(h.fit (mi 1000)).L4
theorem Vd.Kk(h:Vd e (n+1)):e.k.IC.length < IU:=lj (kg (lw _ _) h.O5) (by decide)
theorem jm{s:Tx}:B.str s≠.nul:=λh=>JG (kh isNul h:false=true)
theorem NK.take{q:Nat}{r:List V}(h:NK e q):NK (e.take v r) q:=⟨h.ok,h.col,h.ind,h.b0,h.b9,h.KP⟩
theorem Dq(h:iH IB tag i0 i1 val IV){IL x:B}(hx:i0=false->isStr x []=false)(hc:IL=.nul):M9 IL tag x i0 i1=false->Nu tag i0≠.nul:=by
 intro hq
 unfold Nu
 rcases h.t with ht | ⟨t,ht,_⟩
 ·have:=h.q ht
  subst ht hc
  cases i0 with
  | true=>exact jm
  | false=>
   have h1:i1=true:=this
   unfold M9 at hq
   rw[hx rfl,h1]at hq
   exact JG hq.symm
 ·subst ht
  cases i0 <;> exact jm
theorem s8(h:val.length<=24):ci val+2<=1000:=by
 unfold ci
 have:=Nat.mul_le_mul (Nat.add_le_add_right h 4) (Nat.add_le_add_right h 2)
 omega
noncomputable def L1(e:Em)(r s m k:Bool)(IB tag:B)(i0 i1:Bool)(val:Tx)(IV:B)(S:List V)(t:V):Em:=((((e.ctx r s m k).JM IB).Pj tag i0 i1 val IV).Kb val (strOf (bc (e.ctx r s m k) val IV i0))).pop S t
theorem oH(hv:Vd e (n+1))(ok:iH IB tag i0 i1 val IV)(hm:MP e IB tag true val)(hS:e.k.IC=S++[t])(ht:ab t=false):NR (LV IB tag i0 i1 val IV) nx r s m k e (L1 e r s m k IB tag i0 i1 val IV S t):=by
 refine⟨rfl,λd g rr hr hl hp=>?_⟩
 refine xA (e:=e.take (LV IB tag i0 i1 val IV) rr) (g:=g) d r s m k rfl ok.a hm.1 ok.t hm.2.1 hm.2.2.2 (hm.2.2.1.imp id λh=>h.2) ok.s (lj ok.l (by decide)) (Dq ok De hv.IL) hp (hv.fit (s8 ok.l)).take (λJ=>?_) (zO kP) hS ht λx h=>⟨x,h⟩
 obtain⟨u,hu⟩:=hv.wd
 rw[show(e.take (LV IB tag i0 i1 val IV) rr).o.wide=.bool u from hu]
 exact(ok.e u).1
theorem z6{a:Tx}(hv:Vd e (n+1))(ha:fe a)(hl:a.length < 128)(hm:e.m.IB=.nul∨e.m.IB=.str a)(hS:e.k.IC=S++[t])(ht:ab t=false):NR (PN (.str a)) nx r s m k e ((((e.ctx r s m k).W (e.w.Ll [42] (.str a))).M (e.m.Jb .nul)).pop S t):=
 ⟨rfl,λd g rr J J J=>⟨[],by rw[mh];exact xC (e:=e.take (PN (.str a)) rr) (g:=g) (d+2) r s m k rfl ha hl hm (hv.ok (by decide)) hS ht⟩⟩
noncomputable def dQ(e:Em)(fl:B)(x:Bool):Bool:=(e.c.lvl != 0)||(e.o.IL.truth||(fl.truth||x))
theorem zY(h:gj IB tag imp){IL:B}:NQ IL tag imp=false->tag≠.nul:=by
 intro hq ht
 have:=h.q ht
 subst ht this
 unfold NQ at hq
 cases hc:IL.truth <;> rw[hc]at hq <;> exact JG hq.symm
noncomputable def nsq(e:Em)(r s m k:Bool)(IB tag:B)(imp:Bool)(q:Bool):Em:=bif q then(((e.ctx r s m k).JM IB).Jr tag imp).LD 91 14 else(((e.ctx r s m k).JM IB).Jr tag imp).Lg (m&&!(((e.ctx r s m k).JM IB).Jr tag imp).w.ind) 22
noncomputable def nmp(e:Em)(r s m k:Bool)(IB tag:B)(imp:Bool)(q:Bool):Em:=bif q then(((e.ctx r s m k).JM IB).Jr tag imp).LD 123 17 else(((e.ctx r s m k).JM IB).Jr tag imp).Lg false 25
theorem tJ(hv:NK e 3)(ok:gj IB tag imp)(hm:MP e IB tag false val):NR (Lp 10 IB tag imp fl) nx r s m k e (nsq e r s m k IB tag imp (dQ e fl (ax 11 nx))):=by
 refine⟨by unfold nsq;cases dQ e fl (ax 11 nx) <;> rfl,λd g rr hr hl hp=>?_⟩
 have hh:ax 11 rr=ax 11 nx:=hl.1 (by show Ji [10] 10=true;decide +kernel)
 refine xz (e:=e.take (Lp 10 IB tag imp fl) rr) (g:=g) (d+3) r s m k rfl ok.a hm.1 ok.t hm.2.1 (zY ok) hp hr hv.take λx h=>⟨x,h.trans ?_⟩
 have hf:(e.take (Lp 10 IB tag imp fl) rr).Qh fl 11=dQ e fl (ax 11 nx):=by rw[<- hh];rfl
 rw[hf]
 unfold nsq
 cases dQ e fl (ax 11 nx) <;> rfl
theorem tK(hv:NK e 3)(ok:gj IB tag imp)(hm:MP e IB tag false val):NR (Lp 12 IB tag imp fl) nx r s m k e (nmp e r s m k IB tag imp (dQ e fl (ax 13 nx))):=by
 refine⟨by unfold nmp;cases dQ e fl (ax 13 nx) <;> rfl,λd g rr hr hl hp=>?_⟩
 have hh:ax 13 rr=ax 13 nx:=hl.2 (by show Ji [12] 12=true;decide +kernel)
 refine xB (e:=e.take (Lp 12 IB tag imp fl) rr) (g:=g) (d+3) r s m k rfl ok.a hm.1 ok.t hm.2.1 (zY ok) hp hr hv.take λx h=>⟨x,h.trans ?_⟩
 have hf:(e.take (Lp 12 IB tag imp fl) rr).Qh fl 13=dQ e fl (ax 13 nx):=by rw[<- hh];rfl
 rw[hf]
 unfold nmp
 cases dQ e fl (ax 13 nx) <;> rfl
end
noncomputable def A7:V->Nat | .IA j _=>j | _=>0
structure Hd(n:Nd):Prop where
 ok:n.Ok
 k:n.k=8∨n.k=9∨n.k=10∨n.k=12
theorem Hd.no{n:Nd}(h:Hd n):Ji [11] n.k=false/\Ji [13] n.k=false:=by
 rcases h.k with h | h | h | h <;> rw[h] <;> exact⟨by decide +kernel,by decide +kernel⟩
section
variable{e E:Em}{v:V}{nx:List V}{n:Nd}{m:Nat}{j:Nat}{f:Fn}{vs:List V}{b:Bool}
theorem Ko.of(hs:e.k.state=.IA j 2)(hj:j≠4/\j≠6)(hf:eR[j]?=some f)(hw:aM f [.ref 2] []=some vs)(hp:E.m.LA=e.m.LA)(h:∀d g rr,LZ rr->Lk v rr nx->aZ e g->aV (d+11) j vs (e.take v rr) g (E.take v rr)):Ko e v nx E:=λd g rr hr hl hP=>by
 have hP:aZ e g:=by
  rcases hP with(h | h) | h
  ·rw[hs]at h;exact absurd (kh A7 h) hj.1
  ·rw[hs]at h;exact absurd (kh A7 h) hj.2
  ·exact h
 obtain⟨x,hx⟩:=h d g rr hr hl hP
 refine⟨j,f,vs,x,hs,hf,hw,hx,.inr ?_⟩
 exact tw (by obtain⟨i,h1,h2⟩:=hP;exact⟨i,hp.trans h1,h2⟩)
theorem oh(hs:e.k.state=.IA 22 2)(hn:Hd n)(hv:Vd e (m+1))(h:NR n.V nx false true false false ((e.IW.sgn [45] true false true).push 23) E):Ko e n.V nx E:=
 .of hs ⟨by decide,by decide⟩ rfl rfl h.1 λd g rr hr hl hp=>GP (e:=e.take n.V rr) (d:=d+10) (Di (e:=e.take n.V rr) (d:=d+6) true rfl rfl hv.Pn hv.col (hv.ok (by decide)) hv.Kk (h.2 (d+2) g rr hr hl hp))
theorem og(hs:e.k.state=.IA 23 2)(hn:Hd n)(hv:Vd e (m+1))(h:NR n.V nx false true false false ((e.IW.sgn [45] true false true).push 23) E):Ko e n.V nx E:=
 .of hs ⟨by decide,by decide⟩ rfl rfl h.1 λd g rr hr hl hp=>Di (e:=e.take n.V rr) (d:=d+7) false rfl hn.no.1 hv.Pn hv.col (hv.ok (by decide)) hv.Kk (h.2 (d+3) g rr hr hl hp)
theorem mO(hs:e.k.state=.IA 23 2){x:B}{I S:List V}{t:V}(hI:e.k.ID=I++[.b x])(hS:e.k.IC=S++[t])(ht:ab t=false):Ko e (JB 11) nx (e.clo x I S t):=
 .of hs ⟨by decide,by decide⟩ rfl rfl rfl λd g rr hr hl hp=>ES (e:=e.take (JB 11) rr) (d:=d+10) rfl (by decide +kernel) hI hS ht
theorem mN(hs:e.k.state=.IA 26 2){x:B}{I S:List V}{t:V}(hI:e.k.ID=I++[.b x])(hS:e.k.IC=S++[t])(ht:ab t=false):Ko e (JB 13) nx (e.clo x I S t):=
 .of hs ⟨by decide,by decide⟩ rfl rfl rfl λd g rr hr hl hp=>ER (e:=e.take (JB 13) rr) (d:=d+10) rfl (by decide +kernel) hI hS ht
theorem nn{w:B}{rr:List V}(h:Lk n.V rr nx):n.key w rr=n.key w nx:=by
 have h1:(Ji [10] n.k&&ax 11 rr)=(Ji [10] n.k&&ax 11 nx):=by cases hk:Ji [10] n.k with | true=>exact h.1 hk | false=>rfl
 have h2:(Ji [12] n.k&&ax 13 rr)=(Ji [12] n.k&&ax 13 nx):=by cases hk:Ji [12] n.k with | true=>exact h.2 hk | false=>rfl
 unfold Nd.key
 rw[h1,h2]
noncomputable def Mr(e:Em)(n:Nd)(b:Bool):Em:=bif b then(e.IW.M (n.ms e.o.wide e.m)).push 27 else((e.IW.M (n.ms e.o.wide e.m)).sgn [63] true false true).push 28
theorem oX{d:Nat}(first:Bool){g:List Ob}{rr:List V}(hn:Hd n)(hv:Vd e (m+1))(hm:MC e)(hb:n.key e.o.wide nx=b)(h:NR n.V nx false false true b (Mr e n b) E)(hr:LZ rr)(hl:Lk n.V rr nx)(hp:aZ e g):aV (d+10) 26 [.ref 2,.o first] (e.take n.V rr) g (E.take n.V rr):=by
 refine GN (e:=e.take n.V rr) (d:=d+6) first (n:=n) rfl (by rw[hn.no.2];exact Bool.and_false _) hv.Pn hv.col (hv.ok (by decide)) hv.Kk hn.ok hr hp (.inl hm.1) (.inl hm.2.1) (.inl hm.2.2.1) ?_ ?_
 ·intro hk x
  have hk:n.key e.o.wide rr=true:=hk
  rw[nn hl,hb]at hk
  subst hk
  exact h.2 (d+2) (g++x) rr hr hl (tw hp)
 ·intro hk x
  have hk:n.key e.o.wide rr=false:=hk
  rw[nn hl,hb]at hk
  subst hk
  exact h.2 (d+2) (g++x) rr hr hl (tw hp)
theorem oY:(Mr e n b).m.LA=e.m.LA:=by cases b <;> rfl
theorem kH(hs:e.k.state=.IA 25 2)(hn:Hd n)(hv:Vd e (m+1))(hm:MC e)(hb:n.key e.o.wide nx=b)(h:NR n.V nx false false true b (Mr e n b) E):Ko e n.V nx E:=
 .of hs ⟨by decide,by decide⟩ rfl rfl (h.1.trans oY) λd g rr hr hl hp=>GO (e:=e.take n.V rr) (d:=d+10) (oX true hn hv hm hb h hr hl hp)
theorem kG(hs:e.k.state=.IA 26 2)(hn:Hd n)(hv:Vd e (m+1))(hm:MC e)(hb:n.key e.o.wide nx=b)(h:NR n.V nx false false true b (Mr e n b) E):Ko e n.V nx E:=
 .of hs ⟨by decide,by decide⟩ rfl rfl (h.1.trans oY) λd g rr hr hl hp=>oX (d:=d+1) false hn hv hm hb h hr hl hp
theorem oe(hs:e.k.state=.IA 27 2)(hv:Vd e (m+1))(h:NR v nx false false true false ((e.sgn [58] false false false).push 26) E):Ko e v nx E:=
 .of hs ⟨by decide,by decide⟩ rfl rfl h.1 λd g rr hr hl hp=>GM (e:=e.take v rr) (d:=d+8) (hv.ok (by decide)) hv.Kk (h.2 (d+3) g rr hr hl hp)
theorem oa(hs:e.k.state=.IA 28 2)(hv:Vd e (m+1))(h:NR v nx false false true false ((e.IW.sgn [58] true false true).push 26) E):Ko e v nx E:=
 .of hs ⟨by decide,by decide⟩ rfl rfl h.1 λd g rr hr hl hp=>GK (e:=e.take v rr) (d:=d+7) hv.Pn hv.col (hv.ok (by decide)) hv.Kk (h.2 (d+3) g rr hr hl hp)
theorem eU{rr:List V}:(e.take v rr).Jk=e.Jk.take v rr:=by unfold Em.Jk;show(bif e.o.IL.truth||decide (e.o.bw < e.w.col) then(e.take v rr).IW else e.take v rr)=_;cases e.o.IL.truth||decide (e.o.bw < e.w.col) <;> rfl
theorem hZ:e.Jk.m=e.m:=(cb e).2.2.1
theorem zV(hs:e.k.state=.IA 14 2)(hn:Hd n)(hv:Vd e (m+1))(h:NR n.V nx false true false false (e.Jk.push 15) E):Ko e n.V nx E:=
 .of hs ⟨by decide,by decide⟩ rfl rfl (h.1.trans (kh Ms.LA hZ)) λd g rr hr hl hp=>GV (e:=e.take n.V rr) (d:=d+7) rfl hn.no.1 hv.Pn hv.col (hv.ok (by decide)) hv.Kk (by rw[eU];exact h.2 (d+3) g rr hr hl (eV hp))
theorem zU(hs:e.k.state=.IA 15 2)(hn:Hd n)(hv:Vd e (m+1))(h:NR n.V nx false true false false ((e.sgn [44] false false false).Jk.push 15) E):Ko e n.V nx E:=
 .of hs ⟨by decide,by decide⟩ rfl rfl (h.1.trans (kh Ms.LA (hZ (e:=e.sgn [44] false false false)))) λd g rr hr hl hp=>GU (e:=e.take n.V rr) (d:=d+7) rfl hn.no.1 hv.Pn hv.col (hv.ok (by decide)) hv.Kk (by rw[show(e.take n.V rr).sgn [44] false false false=(e.sgn [44] false false false).take n.V rr from rfl,eU];exact h.2 (d+3) g rr hr hl (eV (e:=e.sgn [44] false false false) hp))
theorem zR(hs:e.k.state=.IA 19 2)(hv:Vd e (m+1))(h:NR v nx false false true false ((e.sgn [58] false false false).push 18) E):Ko e v nx E:=
 .of hs ⟨by decide,by decide⟩ rfl rfl h.1 λd g rr hr hl hp=>GR (e:=e.take v rr) (d:=d+8) (hv.ok (by decide)) hv.Kk (h.2 (d+3) g rr hr hl hp)
theorem zQ(hs:e.k.state=.IA 20 2)(hv:Vd e (m+1))(h:NR v nx false false true false ((e.Jk.sgn [58] true false false).push 18) E):Ko e v nx E:=
 .of hs ⟨by decide,by decide⟩ rfl rfl (h.1.trans (kh Ms.LA hZ)) λd g rr hr hl hp=>GQ (e:=e.take v rr) (d:=d+7) hv.Pn hv.col (hv.ok (by decide)) hv.Kk (by rw[eU];exact h.2 (d+3) g rr hr hl (eV hp))
theorem sw(hs:e.k.state=.IA 14 2)(hv:Vd e (m+1)){x:B}{I S:List V}{t:V}(hI:e.k.ID=I++[.b x])(hS:e.k.IC=S++[t])(ht:ab t=false):Ko e (JB 11) nx (((e.JH x I).sgn [93] false false false).pop S t):=
 .of hs ⟨by decide,by decide⟩ rfl rfl rfl λd g rr hr hl hp=>EW (e:=e.take (JB 11) rr) (d:=d+8) rfl (by decide +kernel) (hv.ok (by decide)) hI hS ht
theorem sr(hs:e.k.state=.IA 17 2)(hv:Vd e (m+1)){x:B}{I S:List V}{t:V}(hI:e.k.ID=I++[.b x])(hS:e.k.IC=S++[t])(ht:ab t=false):Ko e (JB 13) nx (((e.JH x I).sgn [125] false false false).pop S t):=
 .of hs ⟨by decide,by decide⟩ rfl rfl rfl λd g rr hr hl hp=>EU (e:=e.take (JB 13) rr) (d:=d+8) rfl (by decide +kernel) (hv.ok (by decide)) hI hS ht
theorem vu(h:e.o.IL=.nul):e.cm=e:=by unfold Em.cm;rw[h];rfl
theorem su(hs:e.k.state=.IA 15 2)(hv:Vd e (m+1)){x:B}{I S:List V}{t:V}(hx:IM x)(hI:e.k.ID=I++[.b x])(hS:e.k.IC=S++[t])(ht:ab t=false):Ko e (JB 11) nx (((e.JH x I).sgn [93] false false false).pop S t):=
 .of hs ⟨by decide,by decide⟩ rfl rfl rfl λd g rr hr hl hp=>by
  have h:=EV (e:=e.take (JB 11) rr) (g:=g) (d:=d+7) rfl (by decide +kernel) hx hv.col (hv.ok (by decide)) hI hS ht
  rw[vu (e:=(e.take (JB 11) rr).JH x I) hv.IL]at h
  exact h
theorem sn(hs:e.k.state=.IA 18 2)(hv:Vd e (m+1)){x:B}{I S:List V}{t:V}(hx:IM x)(hI:e.k.ID=I++[.b x])(hS:e.k.IC=S++[t])(ht:ab t=false):Ko e (JB 13) nx (((e.JH x I).sgn [125] false false false).pop S t):=
 .of hs ⟨by decide,by decide⟩ rfl rfl rfl λd g rr hr hl hp=>by
  have h:=ET (e:=e.take (JB 13) rr) (g:=g) (d:=d+7) rfl (by decide +kernel) hx hv.col (hv.ok (by decide)) hI hS ht
  rw[vu (e:=(e.take (JB 13) rr).JH x I) hv.IL]at h
  exact h
noncomputable def OA(e:Em)(n:Nd)(b:Bool):Em:=bif b then(e.Jk.M (n.ms e.o.wide e.m)).push 19 else((e.Jk.M (n.ms e.o.wide e.m)).sgn [63] true false false).push 20
theorem jK:(OA e n b).m.LA=e.m.LA:=by cases b <;> rfl
theorem BK(h:e.o.IL=.nul):e.Jk.MV n=e.Jk.M (n.ms e.o.wide e.m):=by
 obtain⟨h1,h2,h3,h4⟩:=cb e
 unfold Em.MV
 rw[h1,h3,h];rfl
theorem D9{rr:List V}(h:e.o.IL=.nul)(hl:Lk n.V rr nx)(hb:n.key e.o.wide nx=b):(e.take n.V rr).kb n=b:=by
 unfold Em.kb
 rw[show(e.take n.V rr).o.IL=.nul from h]
 exact(nn hl).trans hb
theorem oZ{d:Nat}{g:List Ob}{rr:List V}(hv:Vd e (m+1))(hb:n.key e.o.wide nx=b)(h:NR n.V nx false false true b (OA e n b) E)(hr:LZ rr)(hl:Lk n.V rr nx)(hp:aZ e g) :
  ((e.take n.V rr).kb n=true->∀x,aV (d+7) 10 (bY false false true true) (((e.take n.V rr).Jk.MV n).push 19) (g++x) (E.take n.V rr))/\((e.take n.V rr).kb n=false->∀x,aV (d+7) 10 (bY false false true false) ((((e.take n.V rr).Jk.MV n).sgn [63] true false false).push 20) (g++x) (E.take n.V rr)):=by
 have hq:∀x,aZ (OA e n b) (g++x):=λx=>by
  obtain⟨i,h1,h2⟩:=tw (x:=x) hp
  exact⟨i,jK.trans h1,h2⟩
 rw[D9 hv.IL hl hb,eU,show(e.Jk.take n.V rr).MV n=(e.Jk.MV n).take n.V rr by unfold Em.MV;show(bif e.Jk.o.IL.truth then _ else _)=_;cases e.Jk.o.IL.truth <;> rfl,BK hv.IL]
 refine⟨λhk x=>?_,λhk x=>?_⟩
 ·subst hk;exact h.2 d (g++x) rr hr hl (hq x)
 ·subst hk;exact h.2 d (g++x) rr hr hl (hq x)
theorem zT(hs:e.k.state=.IA 17 2)(hn:Hd n)(hv:Vd e (m+1))(hm:MC e)(hb:n.key e.o.wide nx=b)(h:NR n.V nx false false true b (OA e n b) E):Ko e n.V nx E:=
 .of hs ⟨by decide,by decide⟩ rfl rfl (h.1.trans jK) λd g rr hr hl hp=>
  have hk:=oZ (d:=d+3) hv hb h hr hl hp
  GT (e:=e.take n.V rr) (d:=d+7) (n:=n) rfl hn.no.2 hv.Pn hv.col (hv.ok (by decide)) hv.Kk hn.ok hr hp (.inl hm.1) (.inl hm.2.1) (.inl hm.2.2.1) hk.1 hk.2
theorem zS(hs:e.k.state=.IA 18 2)(hn:Hd n)(hv:Vd e (m+1))(OC:Vd (e.sgn [44] false false false) (m+1))(hm:MC e)(hb:n.key e.o.wide nx=b)(h:NR n.V nx false false true b (OA (e.sgn [44] false false false) n b) E):Ko e n.V nx E:=
 .of hs ⟨by decide,by decide⟩ rfl rfl (h.1.trans (jK (e:=e.sgn [44] false false false))) λd g rr hr hl hp=>
  have hk:=oZ (e:=e.sgn [44] false false false) (d:=d+3) OC hb h hr hl hp
  GS (e:=e.take n.V rr) (d:=d+7) (n:=n) rfl hn.no.2 hv.Pn hv.col (hv.ok (by decide)) hv.Kk hn.ok hr hp (.inl hm.1) (.inl hm.2.1) (.inl hm.2.2.1) hk.1 hk.2
end
structure RE(b:Bs)(n:Nat)(i:Int)(e0 e1:Em):Prop where
 v0:Vd e0 n
 v1:Vd e1 n
 q:e0.o=b.op
 o:e1.o=⟨e0.o.enc,e0.o.IL,e0.o.wide,e0.o.bi,e0.o.bw+b.k,e0.o.lb⟩
 lv:e1.c.lvl=e0.c.lvl
 l0:0<=e0.c.lvl
 i0:e0.c.indent=.int i
 i1:e1.c.indent=.int (i+b.k)
 ip:0<=i
 k0:0<=b.k
structure Pr(b:Bs)(n:Nat)(i:Int)(I0 I1 S0 S1:List V)(lv:Int)(W:Wr->Wr->Prop)(e0 e1:Em):Prop where
 re:RE b n i e0 e1
 s0:e0.k.IC=S0
 s1:e1.k.IC=S1
 d0:e0.k.ID=I0
 d1:e1.k.ID=I1
 lv:e0.c.lvl=lv
 w:W e0.w e1.w
structure Jz(b:Bs)(n:Nat)(i:Int)(t0 t1:V)(I0 I1 S0 S1:List V)(lv:Int)(W:Wr->Wr->Prop)(e0 e1:Em):Prop where
 p:Pr b n i I0 I1 S0 S1 lv W e0 e1
 m0:MC e0
 m1:MC e1
 t0:e0.k.state=t0
 t1:e1.k.state=t1
theorem nr{i j:Int}(h:B.int i=.int j):i=j:=kh ai h
section
variable{b:Bs}{n:Nat}{i:Int}{e0 e1 E0 E1 e E:Em}{I0 I1 S0 S1:List V}{lv:Int}{W:Wr->Wr->Prop}{fr k fl:Bool}{w0 w1:Wr}
theorem Vd.to{j:Int}(h:Vd e (n+1))(ho:E.o=e.o)(hc:0<=E.w.col)(hi:e.c.indent=.int i)(hj:E.c.indent=.int j)(hj0:0<=j)(hj9:j<=i+9)(hg:Gq e.w E.w)(hs:E.k.IC.length<=e.k.IC.length+1)(hd:E.k.ID.length<=e.k.ID.length+1):Vd E n:=by
 obtain⟨i',h1,h2,h3⟩:=h.ind
 obtain rfl:i'=i:=nr (h1.symm.trans hi)
 have a1:=h.rows
 have a0:=h.tl
 obtain⟨hg,ht⟩:=hg
 have a2:=h.O5
 have a3:=h.ids
 exact⟨by omega,by omega,hc,⟨j,hj,hj0,by omega⟩,ho▸h.IL,ho▸h.lb,ho▸h.b2,ho▸h.b9,ho▸h.bw,ho▸h.wd,by omega,by omega⟩
theorem RE.to{j:Int}(h:RE b (n+1) i e0 e1)(o0:E0.o=e0.o)(o1:E1.o=e1.o)(c0:0<=E0.w.col)(c1:0<=E1.w.col)(g0:Gq e0.w E0.w)(g1:Gq e1.w E1.w)(lv:E1.c.lvl=E0.c.lvl)(l0:0<=E0.c.lvl)(i0:E0.c.indent=.int j)(i1:E1.c.indent=.int (j+b.k))(hj0:0<=j)(hj9:j<=i+9)
  (s0:E0.k.IC.length<=e0.k.IC.length+1) (s1:E1.k.IC.length<=e1.k.IC.length+1) (d0:E0.k.ID.length<=e0.k.ID.length+1) (d1:E1.k.ID.length<=e1.k.ID.length+1):RE b n j E0 E1:=
 ⟨h.v0.to o0 c0 h.i0 i0 hj0 hj9 g0 s0 d0,h.v1.to o1 c1 h.i1 i1 (Int.add_nonneg hj0 h.k0) (by have:=h.k0;omega) g1 s1 d1,o0.trans h.q,by rw[o1,o0,h.o],lv,l0,i0,i1,hj0,h.k0⟩
theorem RE.up{m:Nat}(h:RE b (n+m) i e0 e1):RE b n i e0 e1:=
 have f:∀{e:Em},Vd e (n+m)->Vd e n:=λv=>⟨by have:=v.rows;omega,by have:=v.tl;omega,v.col,(by obtain⟨j,h1,h2,h3⟩:=v.ind;exact⟨j,h1,h2,by omega⟩),v.IL,v.lb,v.b2,v.b9,v.bw,v.wd,by have:=v.O5;omega,by have:=v.ids;omega⟩
 ⟨f h.v0,f h.v1,h.q,h.o,h.lv,h.l0,h.i0,h.i1,h.ip,h.k0⟩
theorem Vd.le{e:Em}{i:Int}(h:Vd e n)(hi:e.c.indent=.int i):i<=1800:=by
 obtain⟨j,h1,_,h3⟩:=h.ind
 obtain rfl:=nr (h1.symm.trans hi)
 omega
theorem RE.b0(h:RE b n i e0 e1):i<=1800:=h.v0.le h.i0
theorem RE.b1(h:RE b n i e0 e1):i+b.k<=1800:=h.v1.le h.i1
theorem RW.c1{fr bl fl:Bool}(h:RW b fr bl fl w0 w1)(hk:0<=b.k):0<=w1.col:=by
 rw[h.col]
 have:=h.c0
 cases fr&&!bl with
 | true=>show 0<=w0.col+0;omega
 | false=>show 0<=w0.col+b.k;omega
theorem KC.c(h:KC b fr k fl w0 w1)(hk:0<=b.k):0<=w0.col/\0<=w1.col:=by obtain⟨JW,h1,_⟩:=h;exact⟨h1.c0,h1.c1 hk⟩
noncomputable def RM(b:Bs)(fr:Bool)(w0 w1:Wr):Prop:=∃JW,RW b JW JW JW w0 w1/\(fr=false->JW=false)
theorem nQ{a:Tx}(h:fe a):bm a:=λc hc=>by
 have h1:=h.2 c hc
 cases hl:aB c with
 | false=>rfl
 | true=>
  have h2:c=10∨c=8232∨c=8233:=by
   rcases kq (km hl) with h | h
   ·exact .inl h
   ·rcases kq h with h | h
    ·exact .inr (.inl h)
    ·exact .inr (.inr (ku h))
  exact absurd h1 (by rcases h2 with rfl | rfl | rfl <;> decide)
theorem RM.Ll(h:RW b fr fr fr w0 w1){x:B}(ha:dm x){c:Nat}(hc:aB c=false):RM b fr (w0.Ll [c] x) (w1.Ll [c] x):=by
 rcases ha with rfl | ⟨a,rfl,h1,_⟩
 ·exact⟨fr,h,id⟩
 ·exact⟨false,h.sgn (oJ hc (nQ h1)) (λh=>nomatch h) _ _ _,λJ=>rfl⟩
theorem r7{t:Tx}(h:iN t):bm t/\t≠[]:=by
 rcases h with rfl | ⟨c,rfl,hc⟩
 ·exact⟨λc hc=>by obtain rfl:=ku hc;decide,λh=>nomatch h⟩
 ·refine⟨oJ (by decide) ?_,λh=>nomatch h⟩
  refine nQ ⟨λh=>(nomatch h),λd hd=>?_⟩
  obtain rfl:=ku hd
  unfold oF at hc
  unfold gU
  rcases my hc with h | h
  ·rw[h];rfl
  ·rcases my h with h | h <;> rw[h]
   ·exact Bool.or_true _
   ·rw[Bool.true_or,Bool.or_true,Bool.or_true]
theorem RM.tg(h:RM b fr w0 w1){x:B}(ht:JK x)(q:Bool):RM b fr (w0.tg q x) (w1.tg q x):=by
 unfold Wr.tg
 cases q with
 | true=>exact h
 | false=>
  rcases ht with rfl | ⟨t,rfl,h1⟩
  ·exact h
  ·obtain⟨JW,h2,_⟩:=h
   exact⟨false,h2.sgn (r7 h1).1 (r7 h1).2 _ _ _,λJ=>rfl⟩
theorem rY{tag:B}{i0:Bool}(h:JK tag):JK (Nu tag i0):=by
 unfold Nu
 cases i0&&isNul tag with
 | true=>exact .inr ⟨[33],rfl,.inl rfl⟩
 | false=>exact h
end
section
variable{b:Bs}{n:Nat}{i:Int}{e0 e1:Em}{I0 I1 S0 S1:List V}{t0 t1:V}{lv:Int}{fr r s m k i0 i1:Bool}{IB tag IV:B}{val:Tx}
theorem A5(h:RE b n i e0 e1):bc (e1.ctx r s m k) val IV i0=bc (e0.ctx r s m k) val IV i0:=by
 unfold bc
 show dy IV i0 e1.o.IL.truth (e1.c.lvl != 0) k (NH val) (NG val e1.o.wide) (Oa val e1.o.wide) (Oc val e1.o.wide) (OW val e1.o.wide) (OX val e1.o.wide)=_
 rw[h.o,h.lv];rfl
theorem iT(e:Em):(L1 e r s m k IB tag i0 i1 val IV S0 t0).w=((e.w.Ll [38] IB).tg (M9 e.o.IL tag (bc (e.ctx r s m k) val IV i0) i0 i1) (Nu tag i0)).Kb val (strOf (bc (e.ctx r s m k) val IV i0)) (ai (cD e.c.indent e.o.bi true false)) e.o.bi e.o.bw e.o.lb k r e.o.wide:=rfl
theorem Bu(e:Em)(h:val.length<=24):(L1 e r s m k IB tag i0 i1 val IV S0 t0).w.rows.length<=e.w.rows.length+1000:=by
 rw[iT]
 have h1:=((eC e.w [38] IB).trans (lE (e.w.Ll [38] IB) (M9 e.o.IL tag (bc (e.ctx r s m k) val IV i0) i0 i1) (Nu tag i0))).trans (x7 (w:=(e.w.Ll [38] IB).tg (M9 e.o.IL tag (bc (e.ctx r s m k) val IV i0) i0 i1) (Nu tag i0)) (t:=val) (s:=strOf (bc (e.ctx r s m k) val IV i0)) (ind:=ai (cD e.c.indent e.o.bi true false)) (bi:=e.o.bi) (bw:=e.o.bw) (lb:=e.o.lb) (sk:=k) (r:=r) (wide:=e.o.wide))
 have h2:=s8 h
 exact kg h1.2 (by omega)
theorem jV(w:Wr)(ind:Tx){x:B}(hx:dm x):GL w (w.Ll ind x) (ind.length+129):=by
 rcases hx with rfl | ⟨a,rfl,_,hl⟩
 ·exact .refl
 ·exact(bR w (ind++a) true false false).le (by rw[ky];omega)
theorem Am(w:Wr)(q:Bool){x:B}(hx:JK x):GL w (w.tg q x) 3:=by
 unfold Wr.tg
 cases q with
 | true=>exact .refl
 | false=>
  rcases hx with rfl | ⟨t,rfl,ht⟩
  ·exact .refl
  ·exact(bR w t true false false).le (mj (n7 ht).1)
theorem tI{e:Em}{n:Nat}{i:Int}(hv:Vd e (n+1))(hi:e.c.indent=.int i)(ok:iH IB tag i0 i1 val IV):Gq e.w (L1 e r s m k IB tag i0 i1 val IV S0 t0).w:=by
 refine⟨Bu e ok.l,?_⟩
 have h1:=hv.le hi
 have h9:=hv.b9
 obtain⟨u,hu⟩:=hv.wd
 have hI:(ai (cD e.c.indent e.o.bi true false)).toNat<=1809:=by rw[hi];show(i+e.o.bi).toNat<=1809;omega
 have g:=((jV e.w [38] ok.a).trans (Am _ (M9 e.o.IL tag (bc (e.ctx r s m k) val IV i0) i0 i1) (rY (i0:=i0) ok.t))).trans (x8 (w:=(e.w.Ll [38] IB).tg (M9 e.o.IL tag (bc (e.ctx r s m k) val IV i0) i0 i1) (Nu tag i0)) (t:=val) (s:=strOf (bc (e.ctx r s m k) val IV i0)) (bi:=e.o.bi) (bw:=e.o.bw) (sk:=k) (r:=r) (wide:=e.o.wide) hI (by rw[hu];exact(ok.e u).2.2))
 rw[iT,hv.lb]
 have hl:=ok.l
 have:(1809+20)*(val.length+1)<=(1809+20)*25:=Nat.mul_le_mul_left _ (mj hl)
 refine kg (g hv.col).2 ?_
 show _<=M6 e.w+60000
 show M6 e.w+(1+129+3+((1809+20)*(val.length+1)+10))<=_
 omega
theorem AV(h:Pr b (n+1) i I0 I1 (S0++[t0]) (S1++[t1]) lv (RW b fr fr fr) e0 e1)(hk:k=false->fr=false)(ok:iH IB tag i0 i1 val IV)(OJ:MP e0 IB tag true val)(Nh:MP e1 IB tag true val)(u0:ab t0=false)(u1:ab t1=false){nx0 nx1:List V} :
  NR (LV IB tag i0 i1 val IV) nx0 r s m k e0 (L1 e0 r s m k IB tag i0 i1 val IV S0 t0)/\NR (LV IB tag i0 i1 val IV) nx1 r s m k e1 (L1 e1 r s m k IB tag i0 i1 val IV S1 t1)/\Jz b n i t0 t1 I0 I1 S0 S1 lv (KC b fr k (lv != 0)) (L1 e0 r s m k IB tag i0 i1 val IV S0 t0) (L1 e1 r s m k IB tag i0 i1 val IV S1 t1):=by
 refine⟨oH h.re.v0 ok OJ h.s0 u0,oH h.re.v1 ok Nh h.s1 u1,?_⟩
 have hA:KC b fr k (lv != 0) (L1 e0 r s m k IB tag i0 i1 val IV S0 t0).w (L1 e1 r s m k IB tag i0 i1 val IV S1 t1).w:=by
  rw[iT,iT,A5 h.re,h.re.o,h.re.i0,h.re.i1,h.re.v0.lb]
  show KC b fr k (lv != 0) _ (Wr.Kb _ val _ (i+b.k+e0.o.bi) e0.o.bi (e0.o.bw+b.k) [10] k r e0.o.wide)
  show KC b fr k (lv != 0) (Wr.Kb _ val _ (i+e0.o.bi) e0.o.bi e0.o.bw [10] k r e0.o.wide) _
  rw[show i+b.k+e0.o.bi=(i+e0.o.bi)+b.k by omega]
  obtain⟨JW,h1,h2⟩:=(RM.Ll (c:=38) h.w ok.a (by decide)).tg (rY (i0:=i0) ok.t) (M9 e0.o.IL tag (bc (e0.ctx r s m k) val IV i0) i0 i1)
  have PC:=h.re.v0.b2
  have Pz:=h.re.ip
  obtain⟨u,hu⟩:=h.re.v0.wd
  have:=h1.Kb (sk:=k) (fl:=(lv != 0)) (val:=val) (s:=strOf (bc (e0.ctx r s m k) val IV i0)) (ind:=i+e0.o.bi) (bi:=e0.o.bi) (bw:=e0.o.bw) (r0:=r) (r1:=r) (wide:=e0.o.wide) (λQc=>h2 (hk Qc)) h.re.k0 (by omega) (Int.le_trans (by decide) PC) h.re.v0.b9 h.re.v0.bw ok.n (by rw[hu];exact(ok.e u).2.1) (zO kP) (λhx=>by
   have:=Dd hx
   exact⟨this.1,by rw[<- h.lv];exact this.2⟩)
  obtain⟨fr2,h3,h4⟩:=this
  exact⟨fr2,h3,λhf=>h4 (h2 hf)⟩
 have hc:=hA.c h.re.k0
 refine⟨⟨h.re.to rfl rfl hc.1 hc.2 (tI h.re.v0 h.re.i0 ok) (tI h.re.v1 h.re.i1 ok) h.re.lv h.re.l0 h.re.i0 h.re.i1 h.re.ip (by omega) ?_ ?_ (mw _) (mw _),rfl,rfl,h.d0,h.d1,h.lv,hA⟩,⟨rfl,rfl,rfl,rfl⟩,⟨rfl,rfl,rfl,rfl⟩,rfl,rfl⟩
 ·show S0.length<=e0.k.IC.length+1
  rw[h.s0,ky];omega
 ·show S1.length<=e1.k.IC.length+1
  rw[h.s1,ky];omega
theorem AW{a:Tx}(h:Pr b (n+1) i I0 I1 (S0++[t0]) (S1++[t1]) lv (RW b fr fr fr) e0 e1)(ha:fe a)(hl:a.length < 128)(OJ:MP e0 (.str a) .nul false val)(Nh:MP e1 (.str a) .nul false val)(u0:ab t0=false)(u1:ab t1=false){nx0 nx1:List V} :
  ∃E0 E1,NR (PN (.str a)) nx0 r s m k e0 E0/\NR (PN (.str a)) nx1 r s m k e1 E1/\Jz b n i t0 t1 I0 I1 S0 S1 lv (KC b fr k (lv != 0)) E0 E1:=by
 have hN:RN b (e0.w.Ll [42] (.str a)) (e1.w.Ll [42] (.str a)):=h.w.sgn (oJ (by decide) (nQ ha)) (λh=>nomatch h) _ _ _
 have tn:∀{e:Em},MP e (.str a) .nul false val->MC (((e.ctx r s m k).W (e.w.Ll [42] (.str a))).M (e.m.Jb .nul)):=λhm=>⟨rfl,hm.2.1.elim id id,hm.2.2.1.elim id λh=>JG h.1,hm.2.2.2⟩
 refine⟨_,_,z6 h.re.v0 ha hl OJ.1 h.s0 u0,z6 h.re.v1 ha hl Nh.1 h.s1 u1,⟨h.re.to rfl rfl hN.c0 (hN.c1 h.re.k0) ?_ ?_ h.re.lv h.re.l0 h.re.i0 h.re.i1 h.re.ip (by omega) ?_ ?_ (mw _) (mw _),rfl,rfl,h.d0,h.d1,h.lv,.n hN⟩,tn OJ,tn Nh,rfl,rfl⟩
 ·exact .of (eC e0.w [42] (.str a)) (jV e0.w [42] (.inr ⟨a,rfl,ha,hl⟩)) h.re.v0.col (by decide) (by decide)
 ·exact .of (eC e1.w [42] (.str a)) (jV e1.w [42] (.inr ⟨a,rfl,ha,hl⟩)) h.re.v1.col (by decide) (by decide)
 ·show S0.length<=e0.k.IC.length+1
  rw[h.s0,ky];omega
 ·show S1.length<=e1.k.IC.length+1
  rw[h.s1,ky];omega
end
noncomputable def Tw(vs:List V)(e0 e1:Em)(Q:Em->Em->Prop):Prop:=∀x0 x1,∃E0 E1,LM vs x0 e0 E0/\LM vs x1 e1 E1/\Q E0 E1
theorem Tw.app{vs ws:List V}{e0 e1:Em}{R Q:Em->Em->Prop}(h:Tw vs e0 e1 R)(k:∀E0 E1,R E0 E1->Tw ws E0 E1 Q):Tw (vs++ws) e0 e1 Q:=λx0 x1=>by
 obtain⟨E0,E1,h0,h1,h2⟩:=h (ws++x0) (ws++x1)
 obtain⟨F0,F1,k0,k1,k2⟩:=k E0 E1 h2 x0 x1
 exact⟨F0,F1,h0.app k0,h1.app k1,k2⟩
theorem Tw.items{ls:List (List V)}{R:Nat->Em->Em->Prop}(step:∀l∈ls,∀N e0 e1,R (N+2*l.length) e0 e1->Tw l e0 e1 (R N)):∀{N:Nat}{e0 e1:Em},R (N+2*ls.flatten.length) e0 e1->Tw ls.flatten e0 e1 (R N):=by
 induction ls with
 | nil=>exact λh J J=>⟨_,_,rfl,rfl,h⟩
 | cons l ls ih=>
  intro N e0 e1 h
  refine Tw.app (R:=R (N+2*ls.flatten.length)) (step l (.head _) _ _ _ ?_) λE0 E1 h=>ih (λl hl=>step l (.tail _ hl)) h
  rw[Nat.add_assoc,<- Nat.mul_add,Nat.add_comm ls.flatten.length]
  exact(ky (as:=l) (bs:=ls.flatten))▸h
noncomputable def NP(l:List V):Prop:=∃n tl,l=n.V::tl/\Hd n/\(∀w x y,n.key w (tl++x)=n.key w (tl++y))/\(∀w x,n.key w (tl++x)=true->tl.length<=1)/\
 ∀(b:Bs)(N:Nat)(i:Int)(I0 I1 S0 S1:List V)(lv:Int)(fr:Bool)(st:Nat)(r s m k:Bool)(e0 e1:Em),Pr b (N+2*tl.length+1) i I0 I1 (S0++[.IA st 2]) (S1++[.IA st 2]) lv (RW b fr fr fr) e0 e1->MP e0 n.IB n.tag n.sc n.val->MP e1 n.IB n.tag n.sc n.val->(k=false->fr=false)->(k=true->tl.length<=1)->
  ∀x0 x1,∃M0 M1,NR n.V (tl++x0) r s m k e0 M0/\NR n.V (tl++x1) r s m k e1 M1/\∃E0 E1,LM tl x0 M0 E0/\LM tl x1 M1 E1/\Jz b N i (.IA st 2) (.IA st 2) I0 I1 S0 S1 lv (KC b fr k (lv != 0)) E0 E1
noncomputable def DT(b:Bs)(i:Int)(w0 w1:Wr):Prop:=∃fr,RW b fr fr fr (w0.IW i [10]) (w1.IW (i+b.k) [10])
noncomputable def BT(b:Bs)(w0 w1:Wr):Prop:=∃fr,RW b fr false fr w0 w1
noncomputable def SK(b:Bs)(w0 w1:Wr):Prop:=∃fr,RW b fr fr false w0 w1
section
variable{b:Bs}{n N:Nat}{i:Int}{e0 e1 E0 E1 e:Em}{I0 I1 S0 S1:List V}{t0 t1:V}{lv:Int}{W W':Wr->Wr->Prop}{fr k fl:Bool}{w0 w1:Wr}
theorem BT.dt(h:BT b w0 w1)(hk:0<=b.k)(hi:0<=i):DT b i w0 w1:=by
 obtain⟨fr,h⟩:=h
 obtain⟨JW,h1,_⟩:=h.IW id (λJ=>rfl) hk hi
 exact⟨JW,h1⟩
theorem RM.dt(h:RM b fr w0 w1)(hk:0<=b.k)(hi:0<=i):DT b i w0 w1:=by
 obtain⟨JW,h,_⟩:=h
 obtain⟨fr2,h1,_⟩:=h.IW id id hk hi
 exact⟨fr2,h1⟩
theorem KC.bt(h:KC b fr false fl w0 w1):BT b w0 w1:=by
 obtain⟨JW,h,_⟩:=h
 refine⟨JW,?_⟩
 cases JW <;> exact h
theorem KC.sk(h:KC b fr true fl w0 w1):SK b w0 w1:=by
 obtain⟨JW,h,_⟩:=h
 refine⟨JW,?_⟩
 cases JW <;> exact h
theorem KC.fn(h:KC b false k true w0 w1):RN b w0 w1:=by
 obtain⟨JW,h,h2⟩:=h
 obtain rfl:=h2 rfl (Bool.or_true k)
 exact h
theorem Jz.imp(h:Jz b n i t0 t1 I0 I1 S0 S1 lv W e0 e1)(k:∀w0 w1,W w0 w1->W' w0 w1):Jz b n i t0 t1 I0 I1 S0 S1 lv W' e0 e1:=⟨⟨h.p.re,h.p.s0,h.p.s1,h.p.d0,h.p.d1,h.p.lv,k _ _ h.p.w⟩,h.m0,h.m1,h.t0,h.t1⟩
theorem Pr.O8(h:Pr b (n+1) i I0 I1 S0 S1 lv W e0 e1){u0 u1:Wr}(m0 m1:Ms)(hw:RW b fr fr fr u0 u1)(g0:Gq e0.w u0)(g1:Gq e1.w u1)(j:Nat):Pr b n i I0 I1 (S0++[.IA j 2]) (S1++[.IA j 2]) lv (RW b fr fr fr) (((e0.W u0).M m0).push j) (((e1.W u1).M m1).push j):=
 ⟨h.re.to rfl rfl hw.c0 (hw.c1 h.re.k0) g0 g1 h.re.lv h.re.l0 h.re.i0 h.re.i1 h.re.ip (Int.le_add_of_nonneg_right (by decide)) (lx ky) (lx ky) (mw _) (mw _),kh (·++_) h.s0,kh (·++_) h.s1,h.d0,h.d1,h.lv,hw⟩
theorem cS(h:e.c.indent=.int i)(hl:e.o.lb=[10]):e.IW=e.W (e.w.IW i [10]):=by unfold Em.IW;rw[h,hl];rfl
theorem no1{c:Nat}(h:aB c=false):bm [c]:=λd hd=>by obtain rfl:=ku hd;exact h
theorem RW.O7{fl:Bool}(h:RW b fr fr fl w0 w1){c:Nat}(hc:aB c=false)(x y z:Bool):RN b (w0.sgn [c] x y z) (w1.sgn [c] x y z):=h.sgn (no1 hc) (λh=>nomatch h) x y z
noncomputable def Le(first:Bool)(a b:Nat):V:=bif first then .IA a 2 else .IA b 2
theorem Ec(first:Bool){l:List V}(np:NP l)(h:Jz b (N+2*l.length) i (Le first 22 23) (Le first 22 23) I0 I1 S0 S1 lv (DT b i) e0 e1):Tw l e0 e1 (Jz b N i (.IA 23 2) (.IA 23 2) I0 I1 S0 S1 lv (BT b)):=by
 obtain⟨n,tl,rfl,hd,_,_,f⟩:=np
 intro x0 x1
 have h:Jz b (N+2*tl.length+1+1) i (Le first 22 23) (Le first 22 23) I0 I1 S0 S1 lv (DT b i) e0 e1:=h
 obtain⟨fr,hw⟩:=h.p.w
 have hp:=h.p.O8 e0.m e1.m (hw.O7 (c:=45) (by decide) true false true) (.ds h.p.re.v0.col (Int.le_trans h.p.re.b0 (by decide)) (mj (mi _))) (.ds h.p.re.v1.col (Int.le_trans h.p.re.b1 (by decide)) (mj (mi _))) 23
 obtain⟨M0,M1,n0,n1,E0,E1,c0,c1,hE⟩:=f b N i I0 I1 S0 S1 lv false 23 false true false false _ _ hp (MP.o h.m0.mp rfl rfl) (MP.o h.m1.mp rfl rfl) (λJ=>rfl) JG x0 x1
 have q0:NR n.V (tl++x0) false true false false ((e0.IW.sgn [45] true false true).push 23) M0:=by rw[cS h.p.re.i0 h.p.re.v0.lb];exact n0
 have q1:NR n.V (tl++x1) false true false false ((e1.IW.sgn [45] true false true).push 23) M1:=by rw[cS h.p.re.i1 h.p.re.v1.lb];exact n1
 have a0:=h.t0
 have a1:=h.t1
 refine⟨E0,E1,⟨M0,?_,c0⟩,⟨M1,?_,c1⟩,hE.imp λJ J h=>KC.bt h⟩
 ·cases first with
  | true=>exact oh a0 hd h.p.re.v0 q0
  | false=>exact og a0 hd h.p.re.v0 q0
 ·cases first with
  | true=>exact oh a1 hd h.p.re.v1 q1
  | false=>exact og a1 hd h.p.re.v1 q1
theorem ud{x:B}(h:x=.nul∨∃t,x=.str t):bh x .nul=x:=by rcases h with rfl | ⟨t,rfl⟩ <;> rfl
theorem MC.ms(h:MC e){n:Nd}(hd:Hd n){E:Em}(hm:E.m=n.ms e.o.wide e.m)(ho:E.o=e.o):MP E n.IB n.tag n.sc n.val:=by
 unfold MP
 rw[hm,ho]
 refine⟨.inr ?_,.inr ?_,?_,h.2.2.2⟩
 ·show bh n.IB e.m.IB=n.IB
  rw[h.1];exact ud (hd.ok.ha.imp id λ⟨a,h,_⟩=>⟨a,h⟩)
 ·show bh n.tag e.m.tag=n.tag
  rw[h.2.1];exact ud (hd.ok.ht.imp id λ⟨a,h,_⟩=>⟨a,h⟩)
 ·show(bif n.sc then Jp n.val e.o.wide else e.m.Jp)=_∨_/\(bif n.sc then Jp n.val e.o.wide else e.m.Jp)=_
  cases n.sc with
  | true=>exact .inr ⟨rfl,rfl⟩
  | false=>exact .inl h.2.2.1
theorem Hh{l:List V}(np:NP l)(h:Jz b (N+2*l.length) i (.IA 27 2) (.IA 27 2) I0 I1 S0 S1 lv (SK b) e0 e1):Tw l e0 e1 (Jz b N i (.IA 26 2) (.IA 26 2) I0 I1 S0 S1 lv (BT b)):=by
 obtain⟨n,tl,rfl,hd,_,_,f⟩:=np
 intro x0 x1
 have h:Jz b (N+2*tl.length+1+1) i (.IA 27 2) (.IA 27 2) I0 I1 S0 S1 lv (SK b) e0 e1:=h
 obtain⟨fr,hw⟩:=h.p.w
 have hp:=h.p.O8 e0.m e1.m (hw.O7 (c:=58) (by decide) false false false) (.sg h.p.re.v0.col (mj (mi _))) (.sg h.p.re.v1.col (mj (mi _))) 26
 obtain⟨M0,M1,n0,n1,E0,E1,c0,c1,hE⟩:=f b N i I0 I1 S0 S1 lv false 26 false false true false _ _ hp (MP.o h.m0.mp rfl rfl) (MP.o h.m1.mp rfl rfl) (λJ=>rfl) JG x0 x1
 exact⟨E0,E1,⟨M0,oe h.t0 h.p.re.v0 n0,c0⟩,⟨M1,oe h.t1 h.p.re.v1 n1,c1⟩,hE.imp λJ J h=>KC.bt h⟩
theorem Hg{l:List V}(np:NP l)(h:Jz b (N+2*l.length) i (.IA 28 2) (.IA 28 2) I0 I1 S0 S1 lv (BT b) e0 e1):Tw l e0 e1 (Jz b N i (.IA 26 2) (.IA 26 2) I0 I1 S0 S1 lv (BT b)):=by
 obtain⟨n,tl,rfl,hd,_,_,f⟩:=np
 intro x0 x1
 have h:Jz b (N+2*tl.length+1+1) i (.IA 28 2) (.IA 28 2) I0 I1 S0 S1 lv (BT b) e0 e1:=h
 obtain⟨fr,hw⟩:=BT.dt (i:=i) h.p.w h.p.re.k0 h.p.re.ip
 have hp:=h.p.O8 e0.m e1.m (hw.O7 (c:=58) (by decide) true false true) (.ds h.p.re.v0.col (Int.le_trans h.p.re.b0 (by decide)) (mj (mi _))) (.ds h.p.re.v1.col (Int.le_trans h.p.re.b1 (by decide)) (mj (mi _))) 26
 obtain⟨M0,M1,n0,n1,E0,E1,c0,c1,hE⟩:=f b N i I0 I1 S0 S1 lv false 26 false false true false _ _ hp (MP.o h.m0.mp rfl rfl) (MP.o h.m1.mp rfl rfl) (λJ=>rfl) JG x0 x1
 have q0:NR n.V (tl++x0) false false true false ((e0.IW.sgn [58] true false true).push 26) M0:=by rw[cS h.p.re.i0 h.p.re.v0.lb];exact n0
 have q1:NR n.V (tl++x1) false false true false ((e1.IW.sgn [58] true false true).push 26) M1:=by rw[cS h.p.re.i1 h.p.re.v1.lb];exact n1
 exact⟨E0,E1,⟨M0,oa h.t0 h.p.re.v0 q0,c0⟩,⟨M1,oa h.t1 h.p.re.v1 q1,c1⟩,hE.imp λJ J h=>KC.bt h⟩
theorem n4(h:RE b n i e0 e1):e1.o.wide=e0.o.wide:=by rw[h.o]
theorem Eb(first:Bool){l l':List V}(np:NP l)(np':NP l')(h:Jz b (N+2*(l++l').length) i (Le first 25 26) (Le first 25 26) I0 I1 S0 S1 lv (DT b i) e0 e1):Tw (l++l') e0 e1 (Jz b N i (.IA 26 2) (.IA 26 2) I0 I1 S0 S1 lv (BT b)):=by
 obtain⟨n,tl,rfl,hd,NV,Py,f⟩:=np
 have h:Jz b (N+2*l'.length+2*tl.length+1+1) i (Le first 25 26) (Le first 25 26) I0 I1 S0 S1 lv (DT b i) e0 e1:=by
  have e2:N+2*(n.V::tl++l').length=N+2*l'.length+2*tl.length+1+1:=by rw[ky,List.length_cons];omega
  exact e2▸h
 obtain⟨fr,hw⟩:=h.p.w
 have Oz:∀x,n.key e0.o.wide (tl++x)=n.key e0.o.wide (tl++[]):=λx=>NV _ _ _
 have Oy:∀x,n.key e1.o.wide (tl++x)=n.key e0.o.wide (tl++[]):=λx=>(n4 h.p.re).symm▸NV _ _ _
 have a0:=h.t0
 have a1:=h.t1
 have d0:=cS h.p.re.i0 h.p.re.v0.lb
 have d1:=cS h.p.re.i1 h.p.re.v1.lb
 have fin:∀{M0 M1:Em}{kb:Bool}(x0 x1:List V),n.key e0.o.wide (tl++[])=kb->NR n.V (tl++x0) false false true kb (Mr e0 n kb) M0->NR n.V (tl++x1) false false true kb (Mr e1 n kb) M1->Ko e0 n.V (tl++x0) M0/\Ko e1 n.V (tl++x1) M1:=λx0 x1 MI q0 q1=>by
  cases first with
  | true=>exact⟨kH a0 hd h.p.re.v0 h.m0 ((Oz x0).trans MI) q0,kH a1 hd h.p.re.v1 h.m1 ((Oy x1).trans MI) q1⟩
  | false=>exact⟨kG a0 hd h.p.re.v0 h.m0 ((Oz x0).trans MI) q0,kG a1 hd h.p.re.v1 h.m1 ((Oy x1).trans MI) q1⟩
 cases MI:n.key e0.o.wide (tl++[]) with
 | true=>
  refine Tw.app (R:=Jz b (N+2*l'.length) i (.IA 27 2) (.IA 27 2) I0 I1 S0 S1 lv (SK b)) ?_ λE0 E1 h=>Hh np' h
  intro x0 x1
  have hp:=h.p.O8 (n.ms e0.o.wide e0.m) (n.ms e1.o.wide e1.m) hw (.dt h.p.re.v0.col (Int.le_trans h.p.re.b0 (by decide))) (.dt h.p.re.v1.col (Int.le_trans h.p.re.b1 (by decide))) 27
  obtain⟨M0,M1,n0,n1,E0,E1,c0,c1,hE⟩:=f b _ i I0 I1 S0 S1 lv fr 27 false false true true _ _ hp (h.m0.ms hd rfl rfl) (h.m1.ms hd rfl rfl) (λh=>JG h.symm) (λJ=>Py _ _ MI) x0 x1
  have st:=fin x0 x1 MI (by unfold Mr;rw[d0];exact n0) (by unfold Mr;rw[d1];exact n1)
  exact⟨E0,E1,⟨M0,st.1,c0⟩,⟨M1,st.2,c1⟩,hE.imp λJ J h=>KC.sk h⟩
 | false=>
  refine Tw.app (R:=Jz b (N+2*l'.length) i (.IA 28 2) (.IA 28 2) I0 I1 S0 S1 lv (BT b)) ?_ λE0 E1 h=>Hg np' h
  intro x0 x1
  have hp:=h.p.O8 (n.ms e0.o.wide e0.m) (n.ms e1.o.wide e1.m) (hw.O7 (c:=63) (by decide) true false true) (.ds h.p.re.v0.col (Int.le_trans h.p.re.b0 (by decide)) (mj (mi _))) (.ds h.p.re.v1.col (Int.le_trans h.p.re.b1 (by decide)) (mj (mi _))) 28
  obtain⟨M0,M1,n0,n1,E0,E1,c0,c1,hE⟩:=f b _ i I0 I1 S0 S1 lv false 28 false false true false _ _ hp (h.m0.ms hd rfl rfl) (h.m1.ms hd rfl rfl) (λJ=>rfl) JG x0 x1
  have st:=fin x0 x1 MI (by unfold Mr;rw[d0];exact n0) (by unfold Mr;rw[d1];exact n1)
  exact⟨E0,E1,⟨M0,st.1,c0⟩,⟨M1,st.2,c1⟩,hE.imp λJ J h=>KC.bt h⟩
end
noncomputable def Wr.Jk(w:Wr)(bw i:Int):Wr:=bif decide (bw < w.col) then w.IW i [10] else w
section
variable{b:Bs}{n N:Nat}{i:Int}{e0 e1 E0 E1 e:Em}{I0 I1 S0 S1:List V}{t0 t1:V}{lv:Int}{W W':Wr->Wr->Prop}{fr k fl:Bool}{w0 w1:Wr}
theorem i7(h:e.c.indent=.int i)(hc:e.o.IL=.nul)(hl:e.o.lb=[10]):e.Jk=e.W (e.w.Jk e.o.bw i):=by
 unfold Em.Jk Wr.Jk
 rw[hc,show(B.nul.truth||decide (e.o.bw < e.w.col))=decide (e.o.bw < e.w.col) from rfl]
 cases decide (e.o.bw < e.w.col) with
 | true=>exact cS h hl
 | false=>rfl
theorem RW.Jk(h:RN b w0 w1)(hk:0<=b.k)(hi:0 < i)(bw:Int):RN b (w0.Jk bw i) (w1.Jk (bw+b.k) (i+b.k)):=by
 unfold Wr.Jk
 rw[h.over]
 cases decide (bw < w0.col) with
 | true=>exact RW.NZ (fr:=false) h hk hi
 | false=>exact h
theorem nA(w:Wr)(bw i:Int):Gr w (w.Jk bw i) 2:=by
 unfold Wr.Jk
 cases decide (bw < w.col) with
 | true=>exact bE w i [10]
 | false=>exact .refl
theorem vG(h:RE b n i e0 e1):e1.o.bw=e0.o.bw+b.k:=by rw[h.o]
theorem RE.f0(h:RE b n i e0 e1):e0.Jk=e0.W (e0.w.Jk e0.o.bw i):=i7 h.i0 h.v0.IL h.v0.lb
theorem RE.f1(h:RE b n i e0 e1):e1.Jk=e1.W (e1.w.Jk (e0.o.bw+b.k) (i+b.k)):=vG h▸i7 h.i1 h.v1.IL h.v1.lb
theorem Jz.wr(h:Jz b (n+1) i t0 t1 I0 I1 S0 S1 lv W e0 e1){u0 u1:Wr}(hw:RN b u0 u1)(g0:Gq e0.w u0)(g1:Gq e1.w u1):Jz b n i t0 t1 I0 I1 S0 S1 lv (RN b) (e0.W u0) (e1.W u1):=
 ⟨⟨h.p.re.to rfl rfl hw.c0 (hw.c1 h.p.re.k0) g0 g1 h.p.re.lv h.p.re.l0 h.p.re.i0 h.p.re.i1 h.p.re.ip (Int.le_add_of_nonneg_right (by decide)) (mw _) (mw _) (mw _) (mw _),h.p.s0,h.p.s1,h.p.d0,h.p.d1,h.p.lv,hw⟩,h.m0,h.m1,h.t0,h.t1⟩
noncomputable def e8(first:Bool)(w:Wr):Wr:=bif first then w else w.sgn [44] false false false
theorem RW.com(h:RN b w0 w1)(first:Bool):RN b (e8 first w0) (e8 first w1):=by
 cases first with
 | true=>exact h
 | false=>exact h.O7 (by decide) false false false
theorem jU(first:Bool)(w:Wr):Gr w (e8 first w) 1:=by
 cases first with
 | true=>exact .refl
 | false=>exact aS w [44] false false false
theorem nD(w:Wr){bw i:Int}(hi:i<=1820):GL w (w.Jk bw i) 1821:=by
 unfold Wr.Jk
 cases decide (bw < w.col) with
 | true=>exact iC (rX hi) w
 | false=>exact .refl
theorem jW(first:Bool)(w:Wr):GL w (e8 first w) 2:=by
 cases first with
 | true=>exact .refl
 | false=>exact bR w [44] false false false
theorem Gq.cf{w:Wr}{first:Bool}{bw i:Int}(h:0<=w.col)(hi:i<=1800):Gq w ((e8 first w).Jk bw i):=.of ((jU first w).trans (nA _ _ _)) ((jW first w).trans (nD _ (Int.le_trans hi (by decide)))) h (by decide) (by decide)
theorem Gq.cfs{w:Wr}{first:Bool}{bw i:Int}{c:Nat}{x y z:Bool}(h:0<=w.col)(hi:i<=1800):Gq w (((e8 first w).Jk bw i).sgn [c] x y z):=.of (((jU first w).trans (nA _ _ _)).trans (aS _ _ _ _ _)) (((jW first w).trans (nD _ (Int.le_trans hi (by decide)))).trans (bR _ [c] x y z)) h (by decide) (by show 2+1821+2<=60000;decide)
theorem Gq.fs{w:Wr}{bw i:Int}{c:Nat}{x y z:Bool}(h:0<=w.col)(hi:i<=1800):Gq w ((w.Jk bw i).sgn [c] x y z):=.of ((nA _ _ _).trans (aS _ _ _ _ _)) ((nD w (Int.le_trans hi (by decide))).trans (bR _ [c] x y z)) h (by decide) (by show 1821+2<=60000;decide)
theorem Ee(first:Bool){l:List V}(np:NP l)(hi:0 < i)(hl:(lv != 0)=true)(h:Jz b (N+2*l.length) i (Le first 14 15) (Le first 14 15) I0 I1 S0 S1 lv (RN b) e0 e1):Tw l e0 e1 (Jz b N i (.IA 15 2) (.IA 15 2) I0 I1 S0 S1 lv (RN b)):=by
 obtain⟨n,tl,rfl,hd,_,_,f⟩:=np
 intro x0 x1
 have h:Jz b (N+2*tl.length+1+1) i (Le first 14 15) (Le first 14 15) I0 I1 S0 S1 lv (RN b) e0 e1:=h
 have hw:=RW.Jk (RW.com h.p.w first) h.p.re.k0 hi e0.o.bw
 have hp:=h.p.O8 e0.m e1.m hw (.cf h.p.re.v0.col h.p.re.b0) (.cf h.p.re.v1.col h.p.re.b1) 15
 obtain⟨M0,M1,n0,n1,E0,E1,c0,c1,hE⟩:=f b N i I0 I1 S0 S1 lv false 15 false true false false _ _ hp (MP.o h.m0.mp rfl rfl) (MP.o h.m1.mp rfl rfl) (λJ=>rfl) JG x0 x1
 have a0:=h.t0
 have a1:=h.t1
 refine⟨E0,E1,⟨M0,?_,c0⟩,⟨M1,?_,c1⟩,hE.imp λJ J h=>KC.fn (by rw[hl]at h;exact h)⟩
 ·cases first with
  | true=>exact zV a0 hd h.p.re.v0 (by rw[h.p.re.f0];exact n0)
  | false=>exact zU a0 hd h.p.re.v0 (by rw[i7 (e:=e0.sgn [44] false false false) h.p.re.i0 h.p.re.v0.IL h.p.re.v0.lb];exact n0)
 ·have hbw:=vG h.p.re
  cases first with
  | true=>exact zV a1 hd h.p.re.v1 (by rw[h.p.re.f1];exact n1)
  | false=>exact zU a1 hd h.p.re.v1 (by rw[i7 (e:=e1.sgn [44] false false false) h.p.re.i1 h.p.re.v1.IL h.p.re.v1.lb,show(e1.sgn [44] false false false).o.bw=e0.o.bw+b.k from hbw];exact n1)
theorem Hj{l:List V}(np:NP l)(hl:(lv != 0)=true)(h:Jz b (N+2*l.length) i (.IA 19 2) (.IA 19 2) I0 I1 S0 S1 lv (RN b) e0 e1):Tw l e0 e1 (Jz b N i (.IA 18 2) (.IA 18 2) I0 I1 S0 S1 lv (RN b)):=by
 obtain⟨n,tl,rfl,hd,_,_,f⟩:=np
 intro x0 x1
 have h:Jz b (N+2*tl.length+1+1) i (.IA 19 2) (.IA 19 2) I0 I1 S0 S1 lv (RN b) e0 e1:=h
 have hw:RN b e0.w e1.w:=h.p.w
 have hp:=h.p.O8 e0.m e1.m (hw.O7 (c:=58) (by decide) false false false) (.sg h.p.re.v0.col (mj (mi _))) (.sg h.p.re.v1.col (mj (mi _))) 18
 obtain⟨M0,M1,n0,n1,E0,E1,c0,c1,hE⟩:=f b N i I0 I1 S0 S1 lv false 18 false false true false _ _ hp (MP.o h.m0.mp rfl rfl) (MP.o h.m1.mp rfl rfl) (λJ=>rfl) JG x0 x1
 exact⟨E0,E1,⟨M0,zR h.t0 h.p.re.v0 n0,c0⟩,⟨M1,zR h.t1 h.p.re.v1 n1,c1⟩,hE.imp λJ J h=>KC.fn (by rw[hl]at h;exact h)⟩
theorem Hi{l:List V}(np:NP l)(hi:0 < i)(hl:(lv != 0)=true)(h:Jz b (N+2*l.length) i (.IA 20 2) (.IA 20 2) I0 I1 S0 S1 lv (RN b) e0 e1):Tw l e0 e1 (Jz b N i (.IA 18 2) (.IA 18 2) I0 I1 S0 S1 lv (RN b)):=by
 obtain⟨n,tl,rfl,hd,_,_,f⟩:=np
 intro x0 x1
 have h:Jz b (N+2*tl.length+1+1) i (.IA 20 2) (.IA 20 2) I0 I1 S0 S1 lv (RN b) e0 e1:=h
 have hw:=RW.Jk h.p.w h.p.re.k0 hi e0.o.bw
 have hp:=h.p.O8 e0.m e1.m (hw.O7 (c:=58) (by decide) true false false) (.fs h.p.re.v0.col h.p.re.b0) (.fs h.p.re.v1.col h.p.re.b1) 18
 obtain⟨M0,M1,n0,n1,E0,E1,c0,c1,hE⟩:=f b N i I0 I1 S0 S1 lv false 18 false false true false _ _ hp (MP.o h.m0.mp rfl rfl) (MP.o h.m1.mp rfl rfl) (λJ=>rfl) JG x0 x1
 exact⟨E0,E1,⟨M0,zQ h.t0 h.p.re.v0 (by rw[h.p.re.f0];exact n0),c0⟩,⟨M1,zQ h.t1 h.p.re.v1 (by rw[h.p.re.f1];exact n1),c1⟩,hE.imp λJ J h=>KC.fn (by rw[hl]at h;exact h)⟩
theorem Ed(first:Bool){l l':List V}(np:NP l)(np':NP l')(hi:0 < i)(hl:(lv != 0)=true)(h:Jz b (N+2*(l++l').length) i (Le first 17 18) (Le first 17 18) I0 I1 S0 S1 lv (RN b) e0 e1):Tw (l++l') e0 e1 (Jz b N i (.IA 18 2) (.IA 18 2) I0 I1 S0 S1 lv (RN b)):=by
 obtain⟨n,tl,rfl,hd,NV,Py,f⟩:=np
 have h:Jz b (N+2*l'.length+2*tl.length+1+1) i (Le first 17 18) (Le first 17 18) I0 I1 S0 S1 lv (RN b) e0 e1:=by
  have e2:N+2*(n.V::tl++l').length=N+2*l'.length+2*tl.length+1+1:=by rw[ky,List.length_cons];omega
  exact e2▸h
 have Oz:∀x,n.key e0.o.wide (tl++x)=n.key e0.o.wide (tl++[]):=λx=>NV _ _ _
 have Oy:∀x,n.key e1.o.wide (tl++x)=n.key e0.o.wide (tl++[]):=λx=>(n4 h.p.re).symm▸NV _ _ _
 have a0:=h.t0
 have a1:=h.t1
 have hw:=RW.Jk (RW.com h.p.w first) h.p.re.k0 hi e0.o.bw
 have d0:(e0.W (e8 first e0.w)).Jk=e0.W ((e8 first e0.w).Jk e0.o.bw i):=i7 (e:=e0.W (e8 first e0.w)) h.p.re.i0 h.p.re.v0.IL h.p.re.v0.lb
 have d1:(e1.W (e8 first e1.w)).Jk=e1.W ((e8 first e1.w).Jk (e0.o.bw+b.k) (i+b.k)):=(vG h.p.re)▸i7 (e:=e1.W (e8 first e1.w)) h.p.re.i1 h.p.re.v1.IL h.p.re.v1.lb
 have fin:∀{M0 M1:Em}{kb:Bool}(x0 x1:List V),n.key e0.o.wide (tl++[])=kb->NR n.V (tl++x0) false false true kb (OA (e0.W (e8 first e0.w)) n kb) M0->NR n.V (tl++x1) false false true kb (OA (e1.W (e8 first e1.w)) n kb) M1->Ko e0 n.V (tl++x0) M0/\Ko e1 n.V (tl++x1) M1:=λx0 x1 MI q0 q1=>by
  have hc:=RW.com (b:=b) h.p.w false
  have hv:=h.wr hc (.of (jU false e0.w) (jW false e0.w) h.p.re.v0.col (by decide) (by decide)) (.of (jU false e1.w) (jW false e1.w) h.p.re.v1.col (by decide) (by decide))
  cases first with
  | true=>exact⟨zT a0 hd h.p.re.v0 h.m0 ((Oz x0).trans MI) q0,zT a1 hd h.p.re.v1 h.m1 ((Oy x1).trans MI) q1⟩
  | false=>exact⟨zS a0 hd h.p.re.up.v0 hv.p.re.v0 h.m0 ((Oz x0).trans MI) q0,zS a1 hd h.p.re.up.v1 hv.p.re.v1 h.m1 ((Oy x1).trans MI) q1⟩
 cases MI:n.key e0.o.wide (tl++[]) with
 | true=>
  refine Tw.app (R:=Jz b (N+2*l'.length) i (.IA 19 2) (.IA 19 2) I0 I1 S0 S1 lv (RN b)) ?_ λE0 E1 h=>Hj np' hl h
  intro x0 x1
  have hp:=h.p.O8 (n.ms e0.o.wide e0.m) (n.ms e1.o.wide e1.m) hw (.cf h.p.re.v0.col h.p.re.b0) (.cf h.p.re.v1.col h.p.re.b1) 19
  obtain⟨M0,M1,n0,n1,E0,E1,c0,c1,hE⟩:=f b _ i I0 I1 S0 S1 lv false 19 false false true true _ _ hp (h.m0.ms hd rfl rfl) (h.m1.ms hd rfl rfl) (λh=>JG h.symm) (λJ=>Py _ _ MI) x0 x1
  have st:=fin x0 x1 MI (by unfold OA;rw[d0];exact n0) (by unfold OA;rw[d1];exact n1)
  exact⟨E0,E1,⟨M0,st.1,c0⟩,⟨M1,st.2,c1⟩,hE.imp λJ J h=>KC.fn (by rw[hl]at h;exact h)⟩
 | false=>
  refine Tw.app (R:=Jz b (N+2*l'.length) i (.IA 20 2) (.IA 20 2) I0 I1 S0 S1 lv (RN b)) ?_ λE0 E1 h=>Hi np' hi hl h
  intro x0 x1
  have hp:=h.p.O8 (n.ms e0.o.wide e0.m) (n.ms e1.o.wide e1.m) (hw.O7 (c:=63) (by decide) true false false) (.cfs h.p.re.v0.col h.p.re.b0) (.cfs h.p.re.v1.col h.p.re.b1) 20
  obtain⟨M0,M1,n0,n1,E0,E1,c0,c1,hE⟩:=f b _ i I0 I1 S0 S1 lv false 20 false false true false _ _ hp (h.m0.ms hd rfl rfl) (h.m1.ms hd rfl rfl) (λJ=>rfl) JG x0 x1
  have st:=fin x0 x1 MI (by unfold OA;rw[d0];exact n0) (by unfold OA;rw[d1];exact n1)
  exact⟨E0,E1,⟨M0,st.1,c0⟩,⟨M1,st.2,c1⟩,hE.imp λJ J h=>KC.fn (by rw[hl]at h;exact h)⟩
noncomputable def PW(b:Bs)(n:Nat)(i:Int)(x0 x1:B)(I0 I1 S0 S1:List V)(t0 t1:V)(lv:Int)(W:Wr->Wr->Prop)(E0 E1:Em):Prop:=∃e0 e1 s,Jz b n i s s (I0++[.b x0]) (I1++[.b x1]) (S0++[t0]) (S1++[t1]) lv W e0 e1/\E0=e0.clo x0 I0 S0 t0/\E1=e1.clo x1 I1 S1 t1
noncomputable def MT(b:Bs)(n:Nat)(i:Int)(c:Nat)(x0 x1:B)(I0 I1 S0 S1:List V)(t0 t1:V)(lv:Int)(E0 E1:Em):Prop:=∃e0 e1 s,Jz b n i s s (I0++[.b x0]) (I1++[.b x1]) (S0++[t0]) (S1++[t1]) lv (RN b) e0 e1/\E0=((e0.JH x0 I0).sgn [c] false false false).pop S0 t0/\E1=((e1.JH x1 I1).sgn [c] false false false).pop S1 t1
variable{x0 x1:B}(u0:ab t0=false)(u1:ab t1=false)
include u0 u1
theorem HG(h:Jz b n i (.IA 23 2) (.IA 23 2) (I0++[.b x0]) (I1++[.b x1]) (S0++[t0]) (S1++[t1]) lv W e0 e1):Tw [JB 11] e0 e1 (PW b n i x0 x1 I0 I1 S0 S1 t0 t1 lv W):=λJ J=>
 ⟨_,_,⟨_,mO h.t0 h.p.d0 h.p.s0 u0,rfl⟩,⟨_,mO h.t1 h.p.d1 h.p.s1 u1,rfl⟩,e0,e1,_,h,rfl,rfl⟩
theorem HF(h:Jz b n i (.IA 26 2) (.IA 26 2) (I0++[.b x0]) (I1++[.b x1]) (S0++[t0]) (S1++[t1]) lv W e0 e1):Tw [JB 13] e0 e1 (PW b n i x0 x1 I0 I1 S0 S1 t0 t1 lv W):=λJ J=>
 ⟨_,_,⟨_,mN h.t0 h.p.d0 h.p.s0 u0,rfl⟩,⟨_,mN h.t1 h.p.d1 h.p.s1 u1,rfl⟩,e0,e1,_,h,rfl,rfl⟩
theorem Fd(first:Bool)(h0:IM x0)(h1:IM x1)(h:Jz b (n+1) i (Le first 14 15) (Le first 14 15) (I0++[.b x0]) (I1++[.b x1]) (S0++[t0]) (S1++[t1]) lv (RN b) e0 e1):Tw [JB 11] e0 e1 (MT b (n+1) i 93 x0 x1 I0 I1 S0 S1 t0 t1 lv):=λJ J=>by
 have a0:=h.t0
 have a1:=h.t1
 refine⟨_,_,⟨_,?_,rfl⟩,⟨_,?_,rfl⟩,e0,e1,_,h,rfl,rfl⟩
 ·cases first with
  | true=>exact sw a0 h.p.re.v0 h.p.d0 h.p.s0 u0
  | false=>exact su a0 h.p.re.v0 h0 h.p.d0 h.p.s0 u0
 ·cases first with
  | true=>exact sw a1 h.p.re.v1 h.p.d1 h.p.s1 u1
  | false=>exact su a1 h.p.re.v1 h1 h.p.d1 h.p.s1 u1
theorem Fc(first:Bool)(h0:IM x0)(h1:IM x1)(h:Jz b (n+1) i (Le first 17 18) (Le first 17 18) (I0++[.b x0]) (I1++[.b x1]) (S0++[t0]) (S1++[t1]) lv (RN b) e0 e1):Tw [JB 13] e0 e1 (MT b (n+1) i 125 x0 x1 I0 I1 S0 S1 t0 t1 lv):=λJ J=>by
 have a0:=h.t0
 have a1:=h.t1
 refine⟨_,_,⟨_,?_,rfl⟩,⟨_,?_,rfl⟩,e0,e1,_,h,rfl,rfl⟩
 ·cases first with
  | true=>exact sr a0 h.p.re.v0 h.p.d0 h.p.s0 u0
  | false=>exact sn a0 h.p.re.v0 h0 h.p.d0 h.p.s0 u0
 ·cases first with
  | true=>exact sr a1 h.p.re.v1 h.p.d1 h.p.s1 u1
  | false=>exact sn a1 h.p.re.v1 h1 h.p.d1 h.p.s1 u1
end
section
variable{b:Bs}{n N:Nat}{i j:Int}{e0 e1 E0 E1 e:Em}{I0 I1 S0 S1:List V}{t0 t1:V}{lv:Int}{W W':Wr->Wr->Prop}{fr r s m k fl imp:Bool}{w0 w1:Wr}{IB tag:B}{val:Tx}
theorem Jz.dn{q:Nat}(h:Jz b (n+q) i t0 t1 I0 I1 S0 S1 lv W e0 e1):Jz b n i t0 t1 I0 I1 S0 S1 lv W e0 e1:=⟨⟨h.p.re.up,h.p.s0,h.p.s1,h.p.d0,h.p.d1,h.p.lv,h.p.w⟩,h.m0,h.m1,h.t0,h.t1⟩
noncomputable def LB(e:Em)(r s m k:Bool)(IB tag:B)(imp:Bool):Em:=((e.ctx r s m k).JM IB).Jr tag imp
theorem vN(h:Pr b n i I0 I1 S0 S1 lv (RW b fr fr fr) e0 e1)(ok:gj IB tag imp):RM b fr (LB e0 r s m k IB tag imp).w (LB e1 r s m k IB tag imp).w:=by
 have:RM b fr ((e0.w.Ll [38] IB).tg (NQ e0.o.IL tag imp) tag) ((e1.w.Ll [38] IB).tg (NQ e1.o.IL tag imp) tag):=by
  rw[h.re.o]
  exact(RM.Ll (c:=38) h.w ok.a (by decide)).tg ok.t _
 exact this
theorem vO(e:Em):Gr e.w (LB e r s m k IB tag imp).w 2:=(eC e.w [38] IB).trans (lE _ _ _)
theorem vP(e:Em)(ok:gj IB tag imp):GL e.w (LB e r s m k IB tag imp).w 133:=(jV e.w [38] ok.a).trans (Am _ _ ok.t)
theorem iq{val:Tx}(h:MP e IB tag false val):MC (LB e r s m k IB tag imp):=⟨rfl,rfl,h.2.2.1.elim id λh=>JG h.1,h.2.2.2⟩
theorem opF(h:Pr b (n+1) i I0 I1 S0 S1 lv (RW b fr fr fr) e0 e1)(ok:gj IB tag imp)(OJ:MP e0 IB tag false val)(Nh:MP e1 IB tag false val){c:Nat}(hc:aB c=false)(st:Nat) :
  Jz b n (i+e0.o.bi) (.IA st 2) (.IA st 2) (I0++[.i i]) (I1++[.i (i+b.k)]) S0 S1 (lv+1) (RN b) ((LB e0 r s m k IB tag imp).LD c st) ((LB e1 r s m k IB tag imp).LD c st):=by
 obtain⟨JW,hw,_⟩:=vN (r:=r) (s:=s) (m:=m) (k:=k) h ok
 have hN:RN b ((LB e0 r s m k IB tag imp).LD c st).w ((LB e1 r s m k IB tag imp).LD c st).w:=hw.O7 hc true true false
 have PC:=h.re.v0.b2
 have hb9:=h.re.v0.b9
 have Pz:=h.re.ip
 have G:∀e:Em,0<=e.w.col->Gq e.w ((LB e r s m k IB tag imp).LD c st).w:=λe he=>.of ((vO e).trans (aS _ [c] true true false)) ((vP e ok).trans (bR _ [c] true true false)) he (by decide) (by show 133+2<=60000;decide)
 have N7:e1.c.lvl+1=e0.c.lvl+1:=kh (·+1) h.re.lv
 refine⟨⟨h.re.to rfl rfl hN.c0 (hN.c1 h.re.k0) (G e0 h.re.v0.col) (G e1 h.re.v1.col) N7 (Int.le_trans h.re.l0 (Int.le_add_of_nonneg_right (by decide))) ?_ ?_ (by omega) (by omega) (mw _) (mw _) (lx ky) (lx ky),h.s0,h.s1,?_,?_,kh (·+1) h.lv,hN⟩,iq (r:=r) (s:=s) (m:=m) (k:=k) (imp:=imp) OJ,iq (r:=r) (s:=s) (m:=m) (k:=k) (imp:=imp) Nh,rfl,rfl⟩
 ·show cD e0.c.indent e0.o.bi true false=_;rw[h.re.i0];rfl
 ·show cD e1.c.indent e1.o.bi true false=_;rw[h.re.i1,h.re.o];show B.int (i+b.k+e0.o.bi)=_;rw[show i+b.k+e0.o.bi=i+e0.o.bi+b.k by omega]
 ·show e0.k.ID++[.b e0.c.indent]=_;rw[h.d0,h.re.i0]
 ·show e1.k.ID++[.b e1.c.indent]=_;rw[h.d1,h.re.i1]
theorem opB(h:Pr b (n+1) i I0 I1 S0 S1 lv (RW b fr fr fr) e0 e1)(ok:gj IB tag imp)(OJ:MP e0 IB tag false val)(Nh:MP e1 IB tag false val)(less:Bool)(st:Nat){P:Prop}
  (post:∀j,i<=j->Jz b n j (.IA st 2) (.IA st 2) (I0++[.i i]) (I1++[.i (i+b.k)]) S0 S1 lv (RM b fr) ((LB e0 r s m k IB tag imp).Lg less st) ((LB e1 r s m k IB tag imp).Lg less st)->P):P:=by
 have hR:=vN (r:=r) (s:=s) (m:=m) (k:=k) h ok
 have hR':=hR
 obtain⟨JW,hw,_⟩:=hR'
 have PC:=h.re.v0.b2
 have hb9:=h.re.v0.b9
 have Pz:=h.re.ip
 have G:∀e:Em,0<=e.w.col->Gq e.w ((LB e r s m k IB tag imp).Lg less st).w:=λe he=>.of (vO e) (vP e ok) he (by decide) (by decide)
 refine post (bif less then i else i+e0.o.bi) (by cases less with | true=>exact Int.le_refl i | false=>show i<=i+e0.o.bi;omega) ⟨⟨h.re.to rfl rfl hw.c0 (hw.c1 h.re.k0) (G e0 h.re.v0.col) (G e1 h.re.v1.col) h.re.lv h.re.l0 ?_ ?_ ?_ ?_ (mw _) (mw _) (lx ky) (lx ky),h.s0,h.s1,?_,?_,h.lv,hR⟩,iq (r:=r) (s:=s) (m:=m) (k:=k) (imp:=imp) OJ,iq (r:=r) (s:=s) (m:=m) (k:=k) (imp:=imp) Nh,rfl,rfl⟩
 ·show cD e0.c.indent e0.o.bi false less=_;rw[h.re.i0];cases less <;> rfl
 ·show cD e1.c.indent e1.o.bi false less=_
  rw[h.re.i1,h.re.o]
  cases less with
  | true=>rfl
  | false=>show B.int (i+b.k+e0.o.bi)=.int (i+e0.o.bi+b.k);rw[show i+b.k+e0.o.bi=i+e0.o.bi+b.k by omega]
 ·cases less with
  | true=>exact Pz
  | false=>show 0<=i+e0.o.bi;omega
 ·cases less with
  | true=>show i<=i+9;omega
  | false=>show i+e0.o.bi<=i+9;omega
 ·show e0.k.ID++[.b e0.c.indent]=_;rw[h.d0,h.re.i0]
 ·show e1.k.ID++[.b e1.c.indent]=_;rw[h.d1,h.re.i1]
theorem uN(h:RE b n i e0 e1){fb:B}{x:Bool}:dQ e1 fb x=dQ e0 fb x:=by unfold dQ;rw[h.o,h.lv]
theorem cU(l:List V)(x:V):l.length<=(l++[x]).length+1:=by rw[ky];omega
theorem MT.at{c:Nat}(h:MT b (n+1) j c (.int i) (.int (i+b.k)) I0 I1 S0 S1 t0 t1 (lv+1) E0 E1)(hij:i<=j)(hi:0<=i)(hlv:0<=lv)(hc:aB c=false):Jz b n i t0 t1 I0 I1 S0 S1 lv (KC b fr k fl) E0 E1:=by
 obtain⟨e0,e1,s,h,rfl,rfl⟩:=h
 have hw:RN b e0.w e1.w:=h.p.w
 have hN:=hw.O7 hc false false false
 have hl:=h.p.lv
 have KU:e0.c.lvl - 1=lv:=by omega
 have hl2:e1.c.lvl - 1=e0.c.lvl - 1:=kh (· - 1) h.p.re.lv
 have G:∀e:Em,0<=e.w.col->Gq e.w (e.w.sgn [c] false false false):=λe he=>.sg he (mj (mi _))
 refine⟨⟨h.p.re.to rfl rfl hN.c0 (hN.c1 h.p.re.k0) (G e0 h.p.re.v0.col) (G e1 h.p.re.v1.col) hl2 (by show 0<=e0.c.lvl - 1;rw[KU];exact hlv) rfl rfl hi (Int.le_trans hij (Int.le_add_of_nonneg_right (by decide))) ?_ ?_ ?_ ?_,rfl,rfl,rfl,rfl,KU,.n hN⟩,h.m0,h.m1,rfl,rfl⟩
 ·show S0.length<=e0.k.IC.length+1;rw[h.p.s0];exact cU S0 t0
 ·show S1.length<=e1.k.IC.length+1;rw[h.p.s1];exact cU S1 t1
 ·show I0.length<=e0.k.ID.length+1;rw[h.p.d0];exact cU I0 _
 ·show I1.length<=e1.k.ID.length+1;rw[h.p.d1];exact cU I1 _
theorem PW.at(h:PW b (n+1) j (.int i) (.int (i+b.k)) I0 I1 S0 S1 t0 t1 lv (BT b) E0 E1)(hij:i<=j)(hi:0<=i)(hlv:(lv != 0)=false):Jz b n i t0 t1 I0 I1 S0 S1 lv (KC b fr false (lv != 0)) E0 E1:=by
 obtain⟨e0,e1,s,h,rfl,rfl⟩:=h
 obtain⟨JW,hw⟩:=h.p.w
 refine⟨⟨h.p.re.to rfl rfl hw.c0 (hw.c1 h.p.re.k0) .refl .refl h.p.re.lv h.p.re.l0 rfl rfl hi (Int.le_trans hij (Int.le_add_of_nonneg_right (by decide))) ?_ ?_ ?_ ?_,rfl,rfl,rfl,rfl,h.p.lv,⟨JW,?_,λJ hx=>by rw[hlv]at hx;exact JG hx⟩⟩,h.m0,h.m1,rfl,rfl⟩
 ·show S0.length<=e0.k.IC.length+1;rw[h.p.s0];exact cU S0 t0
 ·show S1.length<=e1.k.IC.length+1;rw[h.p.s1];exact cU S1 t1
 ·show I0.length<=e0.k.ID.length+1;rw[h.p.d0];exact cU I0 _
 ·show I1.length<=e1.k.ID.length+1;rw[h.p.d1];exact cU I1 _
 ·cases JW <;> exact hw
theorem oj{ls:List (List V)}(np:∀l∈ls,NP l)(Kg:ls.isEmpty=false)(u0:ab t0=false)(u1:ab t1=false){x0 x1:B}(h:Jz b (N+2*ls.flatten.length) i (.IA 22 2) (.IA 22 2) (I0++[V.b x0]) (I1++[V.b x1]) (S0++[t0]) (S1++[t1]) lv (DT b i) e0 e1):Tw (ls.flatten++[JB 11]) e0 e1 (PW b N i x0 x1 I0 I1 S0 S1 t0 t1 lv (BT b)):=by
 cases ls with
 | nil=>exact JG Kg.symm
 | cons l ls=>
  refine Tw.app (R:=Jz b N i (.IA 23 2) (.IA 23 2) (I0++[V.b x0]) (I1++[V.b x1]) (S0++[t0]) (S1++[t1]) lv (BT b)) ?_ λE0 E1 h=>HG u0 u1 h
  refine Tw.app (R:=Jz b (N+2*ls.flatten.length) i (.IA 23 2) (.IA 23 2) (I0++[V.b x0]) (I1++[V.b x1]) (S0++[t0]) (S1++[t1]) lv (BT b)) (Ec true (np l (.head _)) ?_) λE0 E1 h=>Tw.items (R:=λN=>Jz b N i (.IA 23 2) (.IA 23 2) (I0++[V.b x0]) (I1++[V.b x1]) (S0++[t0]) (S1++[t1]) lv (BT b)) (λl hl N e0 e1 h=>Ec (I0:=I0++[V.b x0]) (I1:=I1++[V.b x1]) false (np l (.tail _ hl)) (h.imp λJ J hw=>hw.dt h.p.re.k0 h.p.re.ip)) h
  have e2:N+2*(l::ls).flatten.length=N+2*ls.flatten.length+2*l.length:=by rw[List.flatten_cons,ky];omega
  exact e2▸h
theorem wU{ls:List (List V)}(np:∀l∈ls,NP l)(u0:ab t0=false)(u1:ab t1=false){x0 x1:B}(k0:IM x0)(k1:IM x1)(hi:0 < i)(hl:(lv != 0)=true)(h:Jz b (N+1+2*ls.flatten.length) i (.IA 14 2) (.IA 14 2) (I0++[V.b x0]) (I1++[V.b x1]) (S0++[t0]) (S1++[t1]) lv (RN b) e0 e1):Tw (ls.flatten++[JB 11]) e0 e1 (MT b (N+1) i 93 x0 x1 I0 I1 S0 S1 t0 t1 lv):=by
 cases ls with
 | nil=>exact Fd u0 u1 true k0 k1 h
 | cons l ls=>
  refine Tw.app (R:=Jz b (N+1) i (.IA 15 2) (.IA 15 2) (I0++[V.b x0]) (I1++[V.b x1]) (S0++[t0]) (S1++[t1]) lv (RN b)) ?_ λE0 E1 h=>Fd (x0:=x0) (x1:=x1) u0 u1 false k0 k1 h
  refine Tw.app (R:=Jz b (N+1+2*ls.flatten.length) i (.IA 15 2) (.IA 15 2) (I0++[V.b x0]) (I1++[V.b x1]) (S0++[t0]) (S1++[t1]) lv (RN b)) (Ee true (np l (.head _)) hi hl ?_) λE0 E1 h=>Tw.items (R:=λN=>Jz b N i (.IA 15 2) (.IA 15 2) (I0++[V.b x0]) (I1++[V.b x1]) (S0++[t0]) (S1++[t1]) lv (RN b)) (λl KU N e0 e1 h=>Ee (I0:=I0++[V.b x0]) (I1:=I1++[V.b x1]) false (np l (.tail _ KU)) hi hl h) h
  have e2:N+1+2*(l::ls).flatten.length=N+1+2*ls.flatten.length+2*l.length:=by rw[List.flatten_cons,ky];omega
  exact e2▸h
noncomputable def NP2(l:List V):Prop:=∃a c,l=a++c/\NP a/\NP c
theorem oO{ls:List (List V)}(np:∀l∈ls,NP2 l)(Kg:ls.isEmpty=false)(u0:ab t0=false)(u1:ab t1=false){x0 x1:B}(h:Jz b (N+2*ls.flatten.length) i (.IA 25 2) (.IA 25 2) (I0++[V.b x0]) (I1++[V.b x1]) (S0++[t0]) (S1++[t1]) lv (DT b i) e0 e1):Tw (ls.flatten++[JB 13]) e0 e1 (PW b N i x0 x1 I0 I1 S0 S1 t0 t1 lv (BT b)):=by
 cases ls with
 | nil=>exact JG Kg.symm
 | cons l ls=>
  refine Tw.app (R:=Jz b N i (.IA 26 2) (.IA 26 2) (I0++[V.b x0]) (I1++[V.b x1]) (S0++[t0]) (S1++[t1]) lv (BT b)) ?_ λE0 E1 h=>HF u0 u1 h
  refine Tw.app (R:=Jz b (N+2*ls.flatten.length) i (.IA 26 2) (.IA 26 2) (I0++[V.b x0]) (I1++[V.b x1]) (S0++[t0]) (S1++[t1]) lv (BT b)) ?_ λE0 E1 h=>Tw.items (R:=λN=>Jz b N i (.IA 26 2) (.IA 26 2) (I0++[V.b x0]) (I1++[V.b x1]) (S0++[t0]) (S1++[t1]) lv (BT b)) (λl hl N e0 e1 h=>by
   obtain⟨a,c,rfl,na,nc⟩:=np l (.tail _ hl)
   exact Eb (I0:=I0++[V.b x0]) (I1:=I1++[V.b x1]) false na nc (h.imp λJ J hw=>hw.dt h.p.re.k0 h.p.re.ip)) h
  have e2:N+2*(l::ls).flatten.length=N+2*ls.flatten.length+2*l.length:=by rw[List.flatten_cons,ky];omega
  rw[e2]at h
  obtain⟨a,c,rfl,na,nc⟩:=np l (.head _)
  exact Eb true na nc h
theorem xJ{ls:List (List V)}(np:∀l∈ls,NP2 l)(u0:ab t0=false)(u1:ab t1=false){x0 x1:B}(k0:IM x0)(k1:IM x1)(hi:0 < i)(hl:(lv != 0)=true)(h:Jz b (N+1+2*ls.flatten.length) i (.IA 17 2) (.IA 17 2) (I0++[V.b x0]) (I1++[V.b x1]) (S0++[t0]) (S1++[t1]) lv (RN b) e0 e1):Tw (ls.flatten++[JB 13]) e0 e1 (MT b (N+1) i 125 x0 x1 I0 I1 S0 S1 t0 t1 lv):=by
 cases ls with
 | nil=>exact Fc u0 u1 true k0 k1 h
 | cons l ls=>
  refine Tw.app (R:=Jz b (N+1) i (.IA 18 2) (.IA 18 2) (I0++[V.b x0]) (I1++[V.b x1]) (S0++[t0]) (S1++[t1]) lv (RN b)) ?_ λE0 E1 h=>Fc (x0:=x0) (x1:=x1) u0 u1 false k0 k1 h
  refine Tw.app (R:=Jz b (N+1+2*ls.flatten.length) i (.IA 18 2) (.IA 18 2) (I0++[V.b x0]) (I1++[V.b x1]) (S0++[t0]) (S1++[t1]) lv (RN b)) ?_ λE0 E1 h=>Tw.items (R:=λN=>Jz b N i (.IA 18 2) (.IA 18 2) (I0++[V.b x0]) (I1++[V.b x1]) (S0++[t0]) (S1++[t1]) lv (RN b)) (λl KU N e0 e1 h=>by
   obtain⟨a,c,rfl,na,nc⟩:=np l (.tail _ KU)
   exact Ed (I0:=I0++[V.b x0]) (I1:=I1++[V.b x1]) false na nc hi hl h) h
  have e2:N+1+2*(l::ls).flatten.length=N+1+2*ls.flatten.length+2*l.length:=by rw[List.flatten_cons,ky];omega
  rw[e2]at h
  obtain⟨a,c,rfl,na,nc⟩:=np l (.head _)
  exact Ed true na nc hi hl h
end
section
variable{IB tag IV fl:B}{i0 i1 imp:Bool}{val:Tx}{b:Bs}{n N:Nat}{i j:Int}{e0 e1:Em}{I0 I1 S0 S1:List V}{lv:Int}{fr r s m k:Bool}
noncomputable def Mg(IB tag:B)(i0 i1:Bool)(val:Tx)(IV:B):Nd:=⟨9,[(96,IB),(97,tag),(98,.bb i0 i1),(99,.str val),(108,.nul),(109,.nul),(91,IV)],IB,tag,true,val⟩
noncomputable def ndA(a:Tx):Nd:=⟨8,[(96,.str a),(108,.nul),(109,.nul)],.str a,.nul,false,[]⟩
noncomputable def Mh(c:Nat)(IB tag:B)(imp:Bool)(fl:B):Nd:=⟨c,[(96,IB),(97,tag),(98,.bool imp),(108,.nul),(109,.nul),(95,fl)],IB,tag,false,[]⟩
theorem jS(ok:iH IB tag i0 i1 val IV):Hd (Mg IB tag i0 i1 val IV):=
 ⟨⟨by show Ji [1] 9=true;decide +kernel,rfl,ok.a,λJ=>rfl,λh=>JG (((by decide +kernel:Ji [9,2] 9=true).symm.trans h).symm),ok.t,by show Ji [9] 9=true;decide +kernel,λJ=>rfl,lj ok.l (by decide)⟩,.inr (.inl rfl)⟩
theorem Hl{a:Tx}(ha:fe a)(hl:a.length < 128):Hd (ndA a):=
 ⟨⟨by show Ji [1] 8=true;decide +kernel,rfl,.inr ⟨a,rfl,ha,hl⟩,λh=>JG ((by decide +kernel:Ji [9,2] 8=false).symm.trans h),λJ=>rfl,.inl rfl,by show Ji [9] 8=false;decide +kernel,JG,by show 0 < 390;decide⟩,.inl rfl⟩
theorem BP{c:Nat}(hc:c=10∨c=12)(ok:gj IB tag imp):Hd (Mh c IB tag imp fl):=by
 have k1:Ji [1] c=true:=by rcases hc with rfl | rfl <;> decide +kernel
 have k2:Ji [9,2] c=true:=by rcases hc with rfl | rfl <;> decide +kernel
 have k3:Ji [9] c=false:=by rcases hc with rfl | rfl <;> decide +kernel
 exact⟨⟨k1,rfl,ok.a,λJ=>rfl,λh=>JG ((k2.symm.trans h).symm),ok.t,k3,JG,by show 0 < 390;decide⟩,.inr (.inr (hc.imp id id))⟩
theorem jJ{n:Nd}(h1:Ji [10] n.k=false)(h2:Ji [12] n.k=false)(w:B)(x y:List V):n.key w x=n.key w y:=by unfold Nd.key;rw[h1,h2];rfl
theorem DK(ok:iH IB tag i0 i1 val IV):NP [LV IB tag i0 i1 val IV]:=
 ⟨Mg IB tag i0 i1 val IV,[],rfl,jS ok,λw x y=>jJ (by show Ji [10] 9=false;decide +kernel) (by show Ji [12] 9=false;decide +kernel) w _ _,λJ J J=>mi 1,λb N i I0 I1 S0 S1 lv fr st r s m k e0 e1 h h0 h1 hk J x0 x1=>by
  obtain⟨a0,a1,a2⟩:=AV (r:=r) (s:=s) (m:=m) (nx0:=x0) (nx1:=x1) (n:=N) h hk ok h0 h1 rfl rfl
  exact⟨_,_,a0,a1,_,_,rfl,rfl,a2⟩⟩
theorem DL{a:Tx}(ha:fe a)(hl:a.length < 128):NP [PN (.str a)]:=
 ⟨ndA a,[],rfl,Hl ha hl,λw x y=>jJ (by show Ji [10] 8=false;decide +kernel) (by show Ji [12] 8=false;decide +kernel) w _ _,λJ J J=>mi 1,λb N i I0 I1 S0 S1 lv fr st r s m k e0 e1 h h0 h1 hk J x0 x1=>by
  obtain⟨M0,M1,a0,a1,a2⟩:=AW (r:=r) (s:=s) (m:=m) (k:=k) (nx0:=x0) (nx1:=x1) (n:=N) h ha hl h0 h1 rfl rfl
  exact⟨M0,M1,a0,a1,_,_,rfl,rfl,a2⟩⟩
theorem gw{c:Nat}(hc:Ji [c] c=true){ls:List (List V)}(hh:∀l∈ls,∃n tl,l=Nd.V n::tl/\Ji [c] n.k=false)(x:List V):ax c ((ls.flatten++[JB c])++x)=ls.isEmpty:=by
 cases ls with
 | nil=>exact hc
 | cons l ls=>
  obtain⟨n,tl,rfl,h⟩:=hh l (.head _)
  exact h
theorem lJ{ls:List (List V)}{v:V}(h:ls.isEmpty=true):(ls.flatten++[v]).length<=1:=by
 cases ls with
 | nil=>exact mf 1
 | cons=>exact JG h
theorem oW{c d:Nat}{x:List V}{q:Bool}(h8:Ji [8] c=false)(hx:((Ji [10] c&&ax 11 x)||(Ji [12] c&&ax 13 x))=q)(w:B):(Mh c IB tag imp fl).key w x=(decide ((Mh c IB tag imp fl).len < 128)&&q):=by
 unfold Nd.key
 show(decide ((Mh c IB tag imp fl).len < 128)&&(Ji [8] c||((false&&(!NH []&&!NG [] w))||((Ji [10] c&&ax 11 x)||(Ji [12] c&&ax 13 x)))))=_
 rw[h8,hx];rfl
theorem o9(h:Vd e0 n)(hi:e0.c.indent=.int i):IM (.int i):=by
 obtain⟨j,h1,h2,h3⟩:=h.ind
 obtain rfl:=nr (h1.symm.trans hi)
 exact .inr ⟨j,rfl,by omega⟩
theorem z7(ok:gj IB tag imp){ls:List (List V)}(np:∀l∈ls,NP l):NP (Lp 10 IB tag imp fl::(ls.flatten++[JB 11])):=by
 have hh:∀x,ax 11 ((ls.flatten++[JB 11])++x)=ls.isEmpty:=gw (by decide +kernel) λl hl=>by
  obtain⟨n,tl,e,hd,_⟩:=np l hl
  exact⟨n,tl,e,hd.no.1⟩
 have hq:∀w x,(Mh 10 IB tag imp fl).key w ((ls.flatten++[JB 11])++x)=(decide ((Mh 10 IB tag imp fl).len < 128)&&ls.isEmpty):=λw x=>oW (d:=0) (by decide +kernel) (by rw[hh,show Ji [10] 10=true by decide +kernel,show Ji [12] 10=false by decide +kernel];exact Bool.or_false _) w
 refine⟨Mh 10 IB tag imp fl,ls.flatten++[JB 11],rfl,BP (.inl rfl) ok,λw x y=>(hq w x).trans (hq w y).symm,λw x h=>lJ (by rw[hq]at h;exact(ma h).2),?_⟩
 intro b N i I0 I1 S0 S1 lv fr st r s m k e0 e1 h h0 h1 hk NV x0 x1
 have n0:=tJ (fl:=fl) (nx:=(ls.flatten++[JB 11])++x0) (r:=r) (s:=s) (m:=m) (k:=k) (h.re.v0.fit (by decide)) ok h0
 have n1:=tJ (fl:=fl) (nx:=(ls.flatten++[JB 11])++x1) (r:=r) (s:=s) (m:=m) (k:=k) (h.re.v1.fit (by decide)) ok h1
 rw[hh]at n0 n1
 rw[uN h.re]at n1
 refine⟨_,_,n0,n1,?_⟩
 have e2:N+2*(ls.flatten++[JB 11]).length=N+1+1+2*ls.flatten.length:=by rw[ky];show N+2*(_+1)=_;omega
 rw[e2]at h
 have hl0:0<=lv:=h.lv▸h.re.l0
 have Pz:=h.re.ip
 have PC:=h.re.v0.b2
 have ii0:=o9 h.re.v0 h.re.i0
 have ii1:=o9 h.re.v1 h.re.i1
 unfold nsq
 cases hf:dQ e0 fl ls.isEmpty with
 | true=>
  have hA:=opF (r:=r) (s:=s) (m:=m) (k:=k) h ok h0 h1 (c:=91) (by decide) 14
  obtain⟨E0,E1,c0,c1,hE⟩:=wU np rfl rfl ii0 ii1 (by omega) (show(lv+1 != 0)=true from bne_iff_ne.mpr (by omega)) hA x0 x1
  exact⟨E0,E1,c0,c1,(MT.at hE (by omega) Pz hl0 (by decide)).dn⟩
 | false=>
  have Kg:ls.isEmpty=false:=by
   unfold dQ at hf
   have:=(Bool.or_eq_false_iff.mp (Bool.or_eq_false_iff.mp (Bool.or_eq_false_iff.mp hf).2).2).2
   exact this
  have N8:k=false:=by
   cases k with
   | false=>rfl
   | true=>
    have:=NV rfl
    cases ls with
    | nil=>exact JG Kg.symm
    | cons l ls=>
     obtain⟨n,tl,rfl,_⟩:=np l (.head _)
     rw[List.flatten_cons,ky,ky,List.length_cons]at this
     exact absurd this (by show ¬ _+1<=1;omega)
  subst N8
  obtain⟨JW,hw,_⟩:=vN (r:=r) (s:=s) (m:=m) (k:=false) (IB:=IB) (tag:=tag) (imp:=imp) h ok
  show ∃E0 E1,LM _ x0 ((LB e0 r s m false IB tag imp).Lg (m&&!(LB e0 r s m false IB tag imp).w.ind) 22) E0/\LM _ x1 ((LB e1 r s m false IB tag imp).Lg (m&&!(LB e1 r s m false IB tag imp).w.ind) 22) E1/\_
  rw[hw.ind]
  refine opB (r:=r) (s:=s) (m:=m) (k:=false) h ok h0 h1 (m&&!(LB e0 r s m false IB tag imp).w.ind) 22 λj hj hA=>?_
  obtain⟨E0,E1,c0,c1,hE⟩:=oj np Kg rfl rfl (hA.imp λJ J hw=>RM.dt hw h.re.k0 hA.p.re.ip) x0 x1
  refine⟨E0,E1,c0,c1,(PW.at hE hj Pz ?_).dn⟩
  rw[<- h.lv]
  exact(Bool.or_eq_false_iff.mp hf).1
theorem z8(ok:gj IB tag imp){ls:List (List V)}(np:∀l∈ls,NP2 l):NP (Lp 12 IB tag imp fl::(ls.flatten++[JB 13])):=by
 have hh:∀x,ax 13 ((ls.flatten++[JB 13])++x)=ls.isEmpty:=gw (by decide +kernel) λl hl=>by
  obtain⟨a,c,rfl,⟨n,tl,rfl,hd,_⟩,_⟩:=np l hl
  exact⟨n,tl++c,rfl,hd.no.2⟩
 have hq:∀w x,(Mh 12 IB tag imp fl).key w ((ls.flatten++[JB 13])++x)=(decide ((Mh 12 IB tag imp fl).len < 128)&&ls.isEmpty):=λw x=>oW (d:=0) (by decide +kernel) (by rw[hh,show Ji [10] 12=false by decide +kernel,show Ji [12] 12=true by decide +kernel];rfl) w
 refine⟨Mh 12 IB tag imp fl,ls.flatten++[JB 13],rfl,BP (.inr rfl) ok,λw x y=>(hq w x).trans (hq w y).symm,λw x h=>lJ (by rw[hq]at h;exact(ma h).2),?_⟩
 intro b N i I0 I1 S0 S1 lv fr st r s m k e0 e1 h h0 h1 hk NV x0 x1
 have n0:=tK (fl:=fl) (nx:=(ls.flatten++[JB 13])++x0) (r:=r) (s:=s) (m:=m) (k:=k) (h.re.v0.fit (by decide)) ok h0
 have n1:=tK (fl:=fl) (nx:=(ls.flatten++[JB 13])++x1) (r:=r) (s:=s) (m:=m) (k:=k) (h.re.v1.fit (by decide)) ok h1
 rw[hh]at n0 n1
 rw[uN h.re]at n1
 refine⟨_,_,n0,n1,?_⟩
 have e2:N+2*(ls.flatten++[JB 13]).length=N+1+1+2*ls.flatten.length:=by rw[ky];show N+2*(_+1)=_;omega
 rw[e2]at h
 have hl0:0<=lv:=h.lv▸h.re.l0
 have Pz:=h.re.ip
 have PC:=h.re.v0.b2
 have ii0:=o9 h.re.v0 h.re.i0
 have ii1:=o9 h.re.v1 h.re.i1
 unfold nmp
 cases hf:dQ e0 fl ls.isEmpty with
 | true=>
  have hA:=opF (r:=r) (s:=s) (m:=m) (k:=k) h ok h0 h1 (c:=123) (by decide) 17
  obtain⟨E0,E1,c0,c1,hE⟩:=xJ np rfl rfl ii0 ii1 (by omega) (show(lv+1 != 0)=true from bne_iff_ne.mpr (by omega)) hA x0 x1
  exact⟨E0,E1,c0,c1,(MT.at hE (by omega) Pz hl0 (by decide)).dn⟩
 | false=>
  have Kg:ls.isEmpty=false:=by
   unfold dQ at hf
   have:=(Bool.or_eq_false_iff.mp (Bool.or_eq_false_iff.mp (Bool.or_eq_false_iff.mp hf).2).2).2
   exact this
  have N8:k=false:=by
   cases k with
   | false=>rfl
   | true=>
    have:=NV rfl
    cases ls with
    | nil=>exact JG Kg.symm
    | cons l ls=>
     obtain⟨a,c,rfl,⟨n,tl,rfl,_⟩,_⟩:=np l (.head _)
     rw[List.flatten_cons,ky,ky,ky,List.length_cons]at this
     exact absurd this (by show ¬ _+1<=1;omega)
  subst N8
  refine opB (r:=r) (s:=s) (m:=m) (k:=false) h ok h0 h1 false 25 λj hj hA=>?_
  obtain⟨E0,E1,c0,c1,hE⟩:=oO np Kg rfl rfl (hA.imp λJ J hw=>RM.dt hw h.re.k0 hA.p.re.ip) x0 x1
  refine⟨E0,E1,c0,c1,(PW.at hE hj Pz ?_).dn⟩
  rw[<- h.lv]
  exact(Bool.or_eq_false_iff.mp hf).1
end
structure Wt(w:Wr)(T:Tx)(c:Int)(a i:Bool):Prop where
 tx:w.rows.flatten=T
 col:w.col=c
 ws:w.ws=a
 ind:w.ind=i
section
variable{w:Wr}{T:Tx}{c j:Int}{a i:Bool}
theorem Wt.sgn(h:Wt w T c a i)(s:Tx)(nw K8 q:Bool):Wt (w.sgn s nw K8 q) (T++(bif a||!nw then s else 32::s)) (c+((bif a||!nw then s else 32::s).length:Int)) K8 (i&&q):=by
 unfold Wr.sgn
 rw[h.ws,h.ind,h.col]
 exact⟨by rw[MY,h.tx],rfl,rfl,rfl⟩
theorem Wt.brk(h:Wt w T c a i):Wt (w.brk [10]) (T++[10]) 0 true true:=⟨(MY _ _).trans (kh (·++_) h.tx),rfl,rfl,rfl⟩
theorem Wt.pad(h:Wt w T c a i)(hj:c < j):Wt (w.pad j) (T++aJ (j - c)) j true i:=by
 rw[gP (by rw[h.col];exact hj),h.col]
 exact⟨(MY _ _).trans (kh (·++_) h.tx),rfl,rfl,h.ind⟩
theorem Wt.Mf(h:Wt w T c a i):w.Mf j=(!i||(decide (j < c)||(c==j&&!a))):=by unfold Wr.Mf;rw[h.ws,h.ind,h.col]
theorem Wt.dntB(h:Wt w T c a i)(hb:(!i||(decide (j < c)||(c==j&&!a)))=true)(hj:0<=j):Wt (w.IW j [10]) (T++10::aJ j) j true true:=by
 unfold Wr.IW
 rw[h.Mf,hb]
 show Wt ((w.brk [10]).pad j) _ _ _ _
 by_cases h0:0 < j
 ·have:=h.brk.pad h0
  rw[Int.sub_zero,lu]at this
  exact this
 ·obtain rfl:j=0:=Int.le_antisymm (Int.not_lt.mp h0) hj
  rw[gQ (by show ¬ (0:Int) < 0;decide)]
  exact h.brk
theorem Wt.dntP(h:Wt w T c a true)(hj:c < j):Wt (w.IW j [10]) (T++aJ (j - c)) j true true:=by
 unfold Wr.IW
 have:(!true||(decide (j < c)||(c==j&&!a)))=false:=by
  rw[decide_eq_false (Int.lt_asymm hj),show(c==j)=false from beq_eq_false_iff_ne.mpr (Int.ne_of_lt hj)];rfl
 rw[h.Mf,this]
 exact h.pad hj
noncomputable def D0(T:Tx)(w:Wr):Prop:=Wt (w.IW 0 [10]) T 0 true true
theorem Wt.d0(h:Wt w T c a i)(hb:(!i||(decide (0 < c)||(c==0&&!a)))=true):D0 (T++[10]) w:=h.dntB hb (Int.le_refl 0)
theorem BW(h:Wt w T c a i):Wt w.gap (T++(bif a then [] else [32])) (c+(bif a then 0 else 1)) a i:=by
 unfold Wr.gap
 rw[h.ws]
 cases a with
 | true=>exact⟨(mh T).symm▸h.tx,(Int.add_zero c).symm▸h.col,h.ws,h.ind⟩
 | false=>exact⟨(MY _ _).trans (kh (·++_) h.tx),kh (·+1) h.col,h.ws,h.ind⟩
noncomputable def Wr.Om(w:Wr)(x:Nat):Wr:=(w.Kv false).gap.off.raw [x]
theorem Wt.Om(h:Wt w T c a i)(x:Nat):Wt (w.Om x) (T++(bif a then [x] else [32,x])) (c+(bif a then 0 else 1)+1) false false:=by
 have g:=BW (w:=w.Kv false) (⟨h.tx,h.col,h.ws,h.ind⟩:Wt (w.Kv false) T c a i)
 refine⟨(MY _ _).trans ((kh (·++_) g.tx).trans ?_),kh (·+1) g.col,rfl,rfl⟩
 rw[lu]
 cases a <;> rfl
theorem BV(w:Wr)(x:Nat):GL w (w.Om x) 2:=GL.trans (n:=1) (w':=(w.Kv false).gap.off) (uD (w.Kv false)) (eD _ [x])
theorem uq(w:Wr)(x:Nat):Gr w (w.Om x) 2:=by
 have h:Gr w (w.Kv false).gap.off 1:=⟨(jT (w.Kv false)).1,(jT (w.Kv false)).2⟩
 exact h.trans (bq _ [x])
end
noncomputable def v6:List Nat:=[97,98,32,99,10,100,101,102,103,120,58,121,45,122,105,116,39,115,104,106,107,108,109,110,111,112,9,113,35,233,8232,128512,7,118,114]
theorem zw:(v6.all λc=>(!af c||aB c)&&[true,false].all λu=>!aI (.bool u) c||((Kn c).isSome&&((eY c).all λd=>!aB d)&&decide ((eY c).length<=10)))=true:=by decide +kernel
theorem kB{c:Nat}(h:c∈v6):(af c=true->aB c=true)/\∀u,aI (.bool u) c=true->(Kn c).isSome=true/\(bm (eY c)/\(eY c).length<=10):=by
 have h1:=mc zw c h
 have h2:=ma h1
 refine⟨λhb=>by have:=h2.1;rw[hb]at this;exact this,λu hu=>?_⟩
 have h3:=mc h2.2 u (by cases u;exact .tail _ (.head _);exact .head _)
 rw[hu]at h3
 have h4:=ma h3
 have h5:=ma h4.1
 refine⟨h5.1,λd hd=>?_,km h4.2⟩
 have:=mc h5.2 d hd
 cases hx:aB d with
 | false=>rfl
 | true=>rw[hx]at this;exact JG this
noncomputable def AL(t:Tx):Prop:=∀c∈t,c∈v6
theorem AL.KO{t:Tx}(h:AL t):KO t:=λc hc=>(kB (h c hc)).1
theorem AL.OP{t:Tx}(h:AL t):vh t:=λu=>⟨λc hc hm=>((kB (h c hc)).2 u hm).1,λc hc hm=>((kB (h c hc)).2 u hm).2.1,λc hc hm=>((kB (h c hc)).2 u hm).2.2⟩
theorem AL.ok{t:Tx}(h:AL t)(hl:t.length<=24){IB tag IV:B}{i0 i1:Bool}(a:dm IB)(g:JK tag)(s:dH IV)(q:tag=.nul->(i0||i1)=true):iH IB tag i0 i1 t IV:=⟨a,g,s,hl,h.KO,h.OP,q⟩
noncomputable def dv:List Nat:=[112,113,107,118]
noncomputable def wV(c:Nat):V:=LV .nul .nul true false [c] .nul
theorem AF{c:Nat}(h:c∈dv):AL [c]:=λd hd=>by
 obtain rfl:=ku hd
 exact(by decide +kernel:∀c∈dv,c∈v6) _ h
theorem fm{c:Nat}(h:c∈dv):iH .nul .nul true false [c] .nul:=(AF h).ok (by show 1<=24;decide) (.inl rfl) (.inl rfl) (.inl rfl) λJ=>rfl
theorem j4:iH .nul .nul true false [] .nul:=AL.ok (λc hc=>absurd hc mn) (mi _) (.inl rfl) (.inl rfl) (.inl rfl) λJ=>rfl
structure Jq(o:Op):Prop where
 IL:o.IL=.nul
 lb:o.lb=[10]
 b2:2<=o.bi
 b9:o.bi<=9
 bw:0<=o.bw
 wd:∃u,o.wide=.bool u
section
variable{e:Em}{o:Op}{r s m k:Bool}{S:List V}{t:V}{c:Nat}{u:Bool}
noncomputable def GE(c:Nat)(k u:Bool):B:=dy .nul true false false k (NH [c]) (NG [c] (.bool u)) (Oa [c] (.bool u)) (Oc [c] (.bool u)) (OW [c] (.bool u)) (OX [c] (.bool u))
theorem sf:(dv.all λc=>[true,false].all λk=>[true,false].all λu=>isStr (GE c k u) [])=true:=by decide +kernel
theorem uf{x:B}{s:Tx}(h:isStr x s=true):x=.str s:=by
 cases x with
 | str=>exact kh B.str (lf h)
 | _=>exact JG h
theorem tT(u:Bool):u∈[true,false]:=by cases u;exact .tail _ (.head _);exact .head _
theorem wy(hc:c∈dv)(h1:e.o.IL=.nul)(h2:e.c.lvl=0)(h3:e.o.wide=.bool u):bc (e.ctx r s m k) [c] .nul true=.str []:=by
 unfold bc
 show dy .nul true e.o.IL.truth (e.c.lvl != 0) k (NH [c]) (NG [c] e.o.wide) (Oa [c] e.o.wide) (Oc [c] e.o.wide) (OW [c] e.o.wide) (OX [c] e.o.wide)=_
 rw[h1,h2,h3]
 exact uf (mc (mc (mc sf c hc) k (tT k)) u (tT u))
theorem yM(h1:e.o.IL=.nul)(h2:e.c.lvl=0):bc (e.ctx r s m false) [] .nul true=.str []:=by
 unfold bc
 show dy .nul true e.o.IL.truth (e.c.lvl != 0) false (NH []) (NG [] e.o.wide) (Oa [] e.o.wide) (Oc [] e.o.wide) (OW [] e.o.wide) (OX [] e.o.wide)=_
 rw[h1,h2];rfl
theorem xo{w:Wr}{ind bw:Int}{lb:Tx}{split:Bool}(hc:c∈dv):w.Nv [c] ind bw lb split false=w.Om c:=by
 have hs:ay c=false:=(by decide +kernel:∀c∈dv,ay c=false) c hc
 unfold Wr.Nv jy
 show(cO [c] ind lb bw split 1 (cO [c] ind lb bw split 0 ⟨(w.Kv false).gap.off,false,0⟩)).w=_
 rw[fA (t:=[c]) (i:=0) (c:=c) rfl]
 unfold m6
 rw[hs]
 rfl
theorem AZ(w:Wr)(q:Bool):w.tg q .nul=w:=by cases q <;> rfl
theorem xx(hc:c∈dv)(h1:e.o.IL=.nul)(h2:e.c.lvl=0)(h3:e.o.wide=.bool u):(L1 e false s m k .nul .nul true false [c] .nul S t).w=e.w.Om c:=by
 rw[iT,wy hc h1 h2 h3,h1]
 show(e.w.Kb [c] [] _ _ _ _ _ false _)=_
 exact xo hc
theorem xy(h1:e.o.IL=.nul)(h2:e.c.lvl=0):(L1 e false s m false .nul .nul true false [] .nul S t).w=e.w.Kv false:=by
 rw[iT,yM h1 h2,h1];rfl
theorem wz(hc:c∈dv){nx:List V}:(Mg .nul .nul true false [c] .nul).key (.bool u) nx=true:=by
 rw[jJ (by show Ji [10] 9=false;decide +kernel) (by show Ji [12] 9=false;decide +kernel) _ nx []]
 exact mc (mc (by decide +kernel:(dv.all λc=>[true,false].all λu=>(Mg .nul .nul true false [c] .nul).key (.bool u) [])=true) c hc) u (tT u)
theorem yN{x:B}{nx:List V}:(Mg .nul .nul true false [] .nul).key x nx=false:=by
 rw[jJ (by show Ji [10] 9=false;decide +kernel) (by show Ji [12] 9=false;decide +kernel) _ nx []]
 show(decide _&&(Ji [8] 9||(false||((Ji [10] 9&&_)||(Ji [12] 9&&_)))))=false
 rw[show Ji [8] 9=false by decide +kernel,show Ji [10] 9=false by decide +kernel,show Ji [12] 9=false by decide +kernel]
 exact Bool.and_false _
end
structure P1(o:Op)(n:Nat)(ix:B)(I S:List V)(W:Wr->Prop)(e:Em):Prop where
 o:e.o=o
 ix:e.c.indent=ix
 lv:e.c.lvl=0
 i:e.k.ID=I
 s:e.k.IC=S
 w:W e.w
 c0:0<=e.w.col
 r:e.w.rows.length+1000*n<=IU
 q:M6 e.w+60000*n<=IU
 nb:n<=190
 ib:I.length<=5
 sb:S.length<=5
structure A1(o:Op)(n:Nat)(ix:B)(t:V)(I S:List V)(W:Wr->Prop)(e:Em):Prop where
 p:P1 o n ix I S W e
 m:MC e
 t:e.k.state=t
noncomputable def On(vs:List V)(e:Em)(Q:Em->Prop):Prop:=∀x,∃E,LM vs x e E/\Q E
theorem On.app{vs ws:List V}{e:Em}{R Q:Em->Prop}(h:On vs e R)(k:∀E,R E->On ws E Q):On (vs++ws) e Q:=λx=>by
 obtain⟨E,h0,h2⟩:=h (ws++x)
 obtain⟨F,k0,k2⟩:=k E h2 x
 exact⟨F,h0.app k0,k2⟩
theorem On.one{v:V}{e:Em}{Q:Em->Prop}(h:∀nx,∃E,Ko e v nx E/\Q E):On [v] e Q:=λx=>by
 obtain⟨E,h1,h2⟩:=h x
 exact⟨E,⟨E,h1,rfl⟩,h2⟩
section
variable{o:Op}{e E:Em}{n:Nat}{ix:B}{I S:List V}{W:Wr->Prop}{T:Tx}{t:V}{c:Nat}{r s m k:Bool}{j q:Int}{nx:List V}
theorem P1.vd(h:P1 o n (.int j) I S W e)(oo:Jq o)(h0:0<=j)(h9:j<=20):Vd e n:=
 ⟨h.r,h.q,h.c0,⟨j,h.ix,h0,by have:=h.nb;omega⟩,h.o▸oo.IL,h.o▸oo.lb,h.o▸oo.b2,h.o▸oo.b9,h.o▸oo.bw,h.o▸oo.wd,by rw[h.s];have:=h.nb;have:=h.sb;omega,by rw[h.i];have:=h.nb;have:=h.ib;omega⟩
theorem P1.My(h:P1 o n (.int 0) I S W e)(oo:Jq o):Vd e n:=h.vd oo (Int.le_refl 0) (by decide)
noncomputable def Em.own(e:Em)(u:Wr)(mm:Ms)(x:Nat):Em:=((e.W u).M mm).push x
theorem P1.own(h:P1 o (n+1) ix I S W e)(oo:Jq o){W':Wr->Prop}{u:Wr}{mm:Ms}{x:Nat}(hw:W' u)(c0:0<=u.col)(g:Gq e.w u)(sb:S.length<=4):P1 o n ix I (S++[.IA x 2]) W' (e.own u mm x):=
 ⟨h.o,h.ix,h.lv,h.i,kh (·++_) h.s,hw,c0,by have:=g.1;have:=h.r;show u.rows.length+_<=_;omega,by have:=g.2;have:=h.q;show M6 u+_<=_;omega,by have:=h.nb;omega,h.ib,by rw[ky];exact mj sb⟩
theorem P1.wide(h:P1 o n ix I S W e)(oo:Jq o):∃u,e.o.wide=.bool u:=h.o▸oo.wd
theorem P1.cn(h:P1 o n ix I S W e)(oo:Jq o):e.o.IL=.nul:=h.o▸oo.IL
theorem P1.lb(h:P1 o n ix I S W e)(oo:Jq o):e.o.lb=[10]:=h.o▸oo.lb
theorem jk(h:P1 o (n+1) (.int 0) I (S++[t]) W e)(oo:Jq o)(hc:c∈dv)(hm:MP e .nul .nul true [c])(ut:ab t=false){W':Wr->Prop}(hw:W' (e.w.Om c)):NR (wV c) nx false s m k e (L1 e false s m k .nul .nul true false [c] .nul S t)/\A1 o n (.int 0) t I S W' (L1 e false s m k .nul .nul true false [c] .nul S t):=by
 obtain⟨u,hu⟩:=h.wide oo
 have e1:=xx (s:=s) (m:=m) (k:=k) (S:=S) (t:=t) hc (h.cn oo) h.lv hu
 refine⟨oH (h.My oo) (fm hc) hm h.s ut,⟨⟨h.o,h.ix,h.lv,h.i,rfl,e1▸hw,by rw[e1];exact(uq _ _).1 h.c0,?_,?_,by have:=h.nb;omega,h.ib,?_⟩,⟨rfl,rfl,rfl,rfl⟩,rfl⟩⟩
 ·rw[e1];have:=(uq e.w c).2;have:=h.r;omega
 ·rw[e1];have:=(BV e.w c h.c0).2;have:=h.q;omega
 ·have:=h.sb;rw[ky]at this;omega
theorem AG(h:P1 o (n+1) (.int 0) I (S++[t]) W e)(oo:Jq o)(hm:MP e .nul .nul true [])(ut:ab t=false){W':Wr->Prop}(hw:W' (e.w.Kv false)):NR (LV .nul .nul true false [] .nul) nx false s m false e (L1 e false s m false .nul .nul true false [] .nul S t)/\A1 o n (.int 0) t I S W' (L1 e false s m false .nul .nul true false [] .nul S t):=by
 have e1:=xy (s:=s) (m:=m) (S:=S) (t:=t) (h.cn oo) h.lv
 refine⟨oH (h.My oo) j4 hm h.s ut,⟨⟨h.o,h.ix,h.lv,h.i,rfl,e1▸hw,by rw[e1];exact h.c0,?_,?_,by have:=h.nb;omega,h.ib,?_⟩,⟨rfl,rfl,rfl,rfl⟩,rfl⟩⟩
 ·rw[e1];have:=h.r;show e.w.rows.length+_<=_;omega
 ·rw[e1];have:=h.q;show M6 e.w+_<=_;omega
 ·have:=h.sb;rw[ky]at this;omega
theorem D0.sgn{w:Wr}(h:D0 T w)(x:Nat)(b y z:Bool):Wt ((w.IW 0 [10]).sgn [x] b y z) (T++[x]) 1 y (true&&z):=Wt.sgn h [x] b y z
theorem gr5(h:P1 o n ix I S W e){c:Nat}{a b d:Bool}:Gq e.w ((e.w.IW 0 [10]).sgn [c] a b d):=.ds h.c0 (by decide) (mj (mi _))
theorem As(first:Bool)(oo:Jq o)(hc:c∈dv)(sb:S.length<=4)(h:A1 o (n+2) (.int 0) (Le first 22 23) I S (D0 T) e):On [wV c] e (A1 o n (.int 0) (.IA 23 2) I S (D0 (T++[45,32,c,10]))):=On.one λnx=>by
 have g:=D0.sgn h.p.w 45 true false true
 have hp:=h.p.own (mm:=e.m) (x:=23) (W':=λJ=>True) oo trivial (by rw[g.col];decide) (gr5 h.p) sb
 have hw:=g.Om c
 obtain⟨h1,h2⟩:=jk (nx:=nx) (s:=true) (m:=false) (k:=false) hp oo hc (MP.o h.m.mp rfl rfl) rfl (hw.d0 rfl)
 have q0:NR (wV c) nx false true false false ((e.IW.sgn [45] true false true).push 23) (L1 (e.own ((e.w.IW 0 [10]).sgn [45] true false true) e.m 23) false true false false .nul .nul true false [c] .nul S (.IA 23 2)):=by rw[cS h.p.ix (h.p.lb oo)];exact h1
 refine⟨_,?_,by rw[lu,lu]at h2;exact h2⟩
 have ht:=h.t
 cases first with
 | true=>exact oh (n:=Mg .nul .nul true false [c] .nul) ht (jS (fm hc)) (h.p.My oo) q0
 | false=>exact og (n:=Mg .nul .nul true false [c] .nul) ht (jS (fm hc)) (h.p.My oo) q0
theorem uR(first:Bool)(oo:Jq o)(hc:c∈dv)(sb:S.length<=4)(h:A1 o (n+2) (.int 0) (Le first 25 26) I S (D0 T) e):On [wV c] e (A1 o n (.int 0) (.IA 27 2) I S (λw=>Wt w (T++[c]) 1 false false)):=On.one λnx=>by
 obtain⟨u,hu⟩:=h.p.wide oo
 have g:Wt (e.w.IW 0 [10]) T 0 true true:=h.p.w
 have hp:=h.p.own (mm:=(Mg .nul .nul true false [c] .nul).ms e.o.wide e.m) (x:=27) (W':=λJ=>True) oo trivial (by rw[g.col];decide) (.dt h.p.c0 (by decide)) sb
 obtain⟨h1,h2⟩:=jk (W':=λw=>Wt w (T++[c]) 1 false false) (nx:=nx) (s:=false) (m:=true) (k:=true) hp oo hc (h.m.ms (jS (fm hc)) rfl rfl) rfl (g.Om c)
 have hk:(Mg .nul .nul true false [c] .nul).key e.o.wide nx=true:=by rw[hu];exact wz hc
 have q0:NR (wV c) nx false false true true (Mr e (Mg .nul .nul true false [c] .nul) true) (L1 (e.own (e.w.IW 0 [10]) ((Mg .nul .nul true false [c] .nul).ms e.o.wide e.m) 27) false false true true .nul .nul true false [c] .nul S (.IA 27 2)):=by unfold Mr;rw[cS h.p.ix (h.p.lb oo)];exact h1
 refine⟨_,?_,h2⟩
 have ht:=h.t
 cases first with
 | true=>exact kH (n:=Mg .nul .nul true false [c] .nul) ht (jS (fm hc)) (h.p.My oo) h.m hk q0
 | false=>exact kG (n:=Mg .nul .nul true false [c] .nul) ht (jS (fm hc)) (h.p.My oo) h.m hk q0
theorem Ar(oo:Jq o)(hc:c∈dv)(sb:S.length<=4)(h:A1 o (n+2) (.int 0) (.IA 27 2) I S (λw=>Wt w T q false false) e):On [wV c] e (A1 o n (.int 0) (.IA 26 2) I S (D0 (T++[58,32,c,10]))):=On.one λnx=>by
 have g:=Wt.sgn h.p.w [58] false false false
 have hq:(0:Int)<=q:=(show e.w.col=q from(h.p.w:Wt e.w T q false false).col)▸h.p.c0
 have hp:=h.p.own (mm:=e.m) (x:=26) (W':=λJ=>True) oo trivial (by rw[g.col];exact Int.add_nonneg hq (by decide)) (.sg (s:=[58]) h.p.c0 (by decide)) sb
 have hw:=g.Om c
 obtain⟨h1,h2⟩:=jk (nx:=nx) (s:=false) (m:=true) (k:=false) hp oo hc (MP.o h.m.mp rfl rfl) rfl (hw.d0 rfl)
 exact⟨_,oe h.t (h.p.My oo) h1,by rw[lu,lu]at h2;exact h2⟩
theorem yg(oo:Jq o)(hc:c∈dv)(sb:S.length<=4)(h:A1 o (n+2) (.int 0) (.IA 28 2) I S (D0 T) e):On [wV c] e (A1 o n (.int 0) (.IA 26 2) I S (D0 (T++[58,32,c,10]))):=On.one λnx=>by
 have g:=D0.sgn h.p.w 58 true false true
 have hp:=h.p.own (mm:=e.m) (x:=26) (W':=λJ=>True) oo trivial (by rw[g.col];decide) (gr5 h.p) sb
 have hw:=g.Om c
 obtain⟨h1,h2⟩:=jk (nx:=nx) (s:=false) (m:=true) (k:=false) hp oo hc (MP.o h.m.mp rfl rfl) rfl (hw.d0 rfl)
 have q0:NR (wV c) nx false false true false ((e.IW.sgn [58] true false true).push 26) (L1 (e.own ((e.w.IW 0 [10]).sgn [58] true false true) e.m 26) false false true false .nul .nul true false [c] .nul S (.IA 26 2)):=by rw[cS h.p.ix (h.p.lb oo)];exact h1
 exact⟨_,oa h.t (h.p.My oo) q0,by rw[lu,lu]at h2;exact h2⟩
theorem EH(first:Bool)(oo:Jq o)(sb:S.length<=4)(h:A1 o (n+2) (.int 0) (Le first 25 26) I S (D0 T) e):On [LV .nul .nul true false [] .nul] e (A1 o n (.int 0) (.IA 28 2) I S (D0 (T++[63,10]))):=On.one λnx=>by
 have g:=D0.sgn h.p.w 63 true false true
 have hp:=h.p.own (mm:=(Mg .nul .nul true false [] .nul).ms e.o.wide e.m) (x:=28) (W':=λJ=>True) oo trivial (by rw[g.col];decide) (gr5 h.p) sb
 have hw:=(⟨g.tx,g.col,g.ws,g.ind⟩:Wt (((e.w.IW 0 [10]).sgn [63] true false true).Kv false) (T++[63]) 1 false (true&&true)).d0 (by decide)
 obtain⟨h1,h2⟩:=AG (nx:=nx) (s:=false) (m:=true) hp oo (h.m.ms (jS j4) rfl rfl) rfl hw
 have hk:(Mg .nul .nul true false [] .nul).key e.o.wide nx=false:=yN
 have q0:NR (LV .nul .nul true false [] .nul) nx false false true false (Mr e (Mg .nul .nul true false [] .nul) false) (L1 (e.own ((e.w.IW 0 [10]).sgn [63] true false true) ((Mg .nul .nul true false [] .nul).ms e.o.wide e.m) 28) false false true false .nul .nul true false [] .nul S (.IA 28 2)):=by unfold Mr;rw[cS h.p.ix (h.p.lb oo)];exact h1
 refine⟨_,?_,by rw[lu]at h2;exact h2⟩
 have ht:=h.t
 cases first with
 | true=>exact kH (n:=Mg .nul .nul true false [] .nul) ht (jS j4) (h.p.My oo) h.m hk q0
 | false=>exact kG (n:=Mg .nul .nul true false [] .nul) ht (jS j4) (h.p.My oo) h.m hk q0
theorem pi(h:A1 o n (.int 0) (.IA 23 2) [.b .nul] [.IA 8 2] W e):On [JB 11] e (A1 o n .nul (.IA 8 2) [] [] W):=On.one λnx=>
 ⟨_,mO (x:=.nul) (I:=[]) (S:=[]) h.t h.p.i h.p.s rfl,⟨⟨h.p.o,rfl,h.p.lv,rfl,rfl,h.p.w,h.p.c0,h.p.r,h.p.q,h.p.nb,mi _,mi _⟩,h.m,rfl⟩⟩
theorem ph(h:A1 o n (.int 0) (.IA 26 2) [.b .nul] [.IA 8 2] W e):On [JB 13] e (A1 o n .nul (.IA 8 2) [] [] W):=On.one λnx=>
 ⟨_,mN (x:=.nul) (I:=[]) (S:=[]) h.t h.p.i h.p.s rfl,⟨⟨h.p.o,rfl,h.p.lv,rfl,rfl,h.p.w,h.p.c0,h.p.r,h.p.q,h.p.nb,mi _,mi _⟩,h.m,rfl⟩⟩
end
noncomputable def Kh(cm:Bool):V:=bif cm then Lp 12 .nul .nul true (.bool false) else Lp 10 .nul .nul true (.bool false)
noncomputable def LG(cm:Bool):V:=bif cm then JB 13 else JB 11
noncomputable def N3(cm:Bool):V:=.IA (bif cm then 25 else 22) 2
noncomputable def eL(cm:Bool)(nx:List V):Prop:=ax (bif cm then 13 else 11) nx=false
theorem vt:gj .nul .nul true:=⟨.inl rfl,.inl rfl,λJ=>rfl⟩
section
variable{o:Op}{e E:Em}{n:Nat}{ix:B}{I S:List V}{W:Wr->Prop}{T:Tx}{t:V}{r s m k cm:Bool}{j q:Int}{nx:List V}
theorem fQ(e:Em):(LB e r s m k .nul .nul true).w=e.w:=AZ e.w _
theorem opT(h:P1 o (n+1) ix I S W e)(oo:Jq o)(hm:MC e)(hi:e.c.indent=.nul∨∃i:Int,e.c.indent=.int i/\i<=1900)(hx:eL cm nx)(ib:I.length<=4) :
  ∃E,NR (Kh cm) nx r s m k e E/\A1 o n (cD ix o.bi false (!cm&&(m&&!e.w.ind))) (N3 cm) (I++[.b ix]) S W E:=by
 have ft:NK e 3:=⟨by have:=h.r;show e.w.rows.length+3<=IU;omega,h.c0,hi,h.o▸Int.le_trans (by decide) oo.b2,h.o▸oo.b9,by rw[h.i];exact lj ib (by decide)⟩
 have hf:dQ e (.bool false) false=false:=by unfold dQ;rw[h.lv,h.cn oo];rfl
 have fin:∀(less:Bool)(st:Nat),A1 o n (cD ix o.bi false less) (.IA st 2) (I++[.b ix]) S W ((LB e r s m k .nul .nul true).Lg less st):=λless st=>
  ⟨⟨h.o,by show cD e.c.indent e.o.bi false less=_;rw[h.ix,h.o],h.lv,by show e.k.ID++[.b e.c.indent]=_;rw[h.i,h.ix],h.s,(fQ (r:=r) (s:=s) (m:=m) (k:=k) e).symm▸h.w,(fQ (r:=r) (s:=s) (m:=m) (k:=k) e).symm▸h.c0,by show(LB e r s m k .nul .nul true).w.rows.length+_<=_;rw[fQ];have:=h.r;omega,by show M6 (LB e r s m k .nul .nul true).w+_<=_;rw[fQ];have:=h.q;omega,by have:=h.nb;omega,by rw[ky];exact mj ib,h.sb⟩,iq (r:=r) (s:=s) (m:=m) (k:=k) (imp:=true) (IB:=.nul) (tag:=.nul) (val:=[]) hm.mp,rfl⟩
 cases cm with
 | true=>
  have hx:ax 13 nx=false:=hx
  have h1:=tK (fl:=.bool false) (nx:=nx) (r:=r) (s:=s) (m:=m) (k:=k) (val:=[]) ft vt hm.mp
  rw[hx,hf]at h1
  exact⟨_,h1,fin false 25⟩
 | false=>
  have hx:ax 11 nx=false:=hx
  have h1:=tJ (fl:=.bool false) (nx:=nx) (r:=r) (s:=s) (m:=m) (k:=k) (val:=[]) ft vt hm.mp
  rw[hx,hf]at h1
  have h2:=fin (m&&!(LB e r s m k .nul .nul true).w.ind) 22
  refine⟨_,h1,?_⟩
  rw[fQ]at h2
  have e1:nsq e r s m k .nul .nul true false=(LB e r s m k .nul .nul true).Lg (m&&!e.w.ind) 22:=by rw[<- fQ (r:=r) (s:=s) (m:=m) (k:=k) e];rfl
  rw[e1]
  exact h2
theorem GG{v:V}(hs:e.k.state=.IA 9 2)(hS:e.k.IC.length < IU)(h:NR v nx true false false false (e.push 8) E):Ko e v nx E:=
 .of hs ⟨by decide,by decide⟩ rfl rfl h.1 λd g rr hr hl hp=>st9 (e:=e.take v rr) (d:=d+10) hS (h.2 (d+3) g rr hr hl hp)
theorem uQ(h:A1 o (n+2) .nul (.IA 9 2) [] [] W e)(oo:Jq o)(hx:eL cm nx):∃E,Ko e (Kh cm) nx E/\A1 o n (.int 0) (N3 cm) [.b .nul] [.IA 8 2] W E:=by
 have hp:=h.p.own (mm:=e.m) (x:=8) oo h.p.w h.p.c0 Gq.refl (by show 0<=4;decide)
 obtain⟨E,h1,h2⟩:=opT (r:=true) (s:=false) (m:=false) (k:=false) hp oo h.m (.inl h.p.ix) hx (by show 0<=4;decide)
 rw[Bool.false_and,Bool.and_false]at h2
 exact⟨E,GG h.t (by rw[h.p.s];decide) h1,h2⟩
theorem x6:Hd (Mh (bif cm then 12 else 10) .nul .nul true (.bool false)):=BP (by cases cm;exact .inl rfl;exact .inr rfl) vt
theorem Az:(Mh (bif cm then 12 else 10) .nul .nul true (.bool false)).V=Kh cm:=by cases cm <;> rfl
theorem zM(hx:eL cm nx)(w:B):(Mh (bif cm then 12 else 10) .nul .nul true (.bool false)).key w nx=false:=by
 cases cm with
 | true=>
  have hx:ax 13 nx=false:=hx
  exact(oW (d:=0) (c:=12) (q:=false) (by decide +kernel) (by rw[hx,show Ji [10] 12=false by decide +kernel];exact(Bool.false_or _).trans (Bool.and_false _)) w).trans (Bool.and_false _)
 | false=>
  have hx:ax 11 nx=false:=hx
  exact(oW (d:=0) (c:=10) (q:=false) (by decide +kernel) (by rw[hx,show Ji [12] 10=false by decide +kernel];rfl) w).trans (Bool.and_false _)
theorem pa(h:P1 o n (.int 0) I S W e):e.c.indent=.nul∨∃i:Int,e.c.indent=.int i/\i<=1900:=.inr ⟨0,h.ix,by decide⟩
theorem Dc(first:Bool)(oo:Jq o)(sb:S.length<=4)(ib:I.length<=4)(hx:eL cm nx)(h:A1 o (n+2) (.int 0) (Le first 22 23) I S (D0 T) e):∃E,Ko e (Kh cm) nx E/\A1 o n (.int o.bi) (N3 cm) (I++[.i 0]) (S++[.IA 23 2]) (λw=>Wt w (T++[45]) 1 false true) E:=by
 have g:=D0.sgn h.p.w 45 true false true
 have hp:=h.p.own (mm:=e.m) (x:=23) (W':=λw=>Wt w (T++[45]) 1 false true) oo g (by rw[g.col];decide) (gr5 h.p) sb
 obtain⟨E,h1,h2⟩:=opT (r:=false) (s:=true) (m:=false) (k:=false) hp oo h.m (pa hp) hx ib
 rw[Bool.false_and,Bool.and_false,show cD (.int 0) o.bi false false=.int o.bi from kh B.int (Int.zero_add _)]at h2
 rw[<- Az]at h1 ⊢
 have q0:NR (Mh (bif cm then 12 else 10) .nul .nul true (.bool false)).V nx false true false false ((e.IW.sgn [45] true false true).push 23) E:=by rw[cS h.p.ix (h.p.lb oo)];exact h1
 refine⟨E,?_,h2⟩
 have ht:=h.t
 cases first with
 | true=>exact oh ht x6 (h.p.My oo) q0
 | false=>exact og ht x6 (h.p.My oo) q0
theorem A0(first:Bool)(oo:Jq o)(sb:S.length<=4)(ib:I.length<=4)(hx:eL cm nx)(h:A1 o (n+2) (.int 0) (Le first 25 26) I S (D0 T) e):∃E,Ko e (Kh cm) nx E/\A1 o n (.int o.bi) (N3 cm) (I++[.i 0]) (S++[.IA 28 2]) (λw=>Wt w (T++[63]) 1 false true) E:=by
 have g:=D0.sgn h.p.w 63 true false true
 have hp:=h.p.own (mm:=(Mh (bif cm then 12 else 10) .nul .nul true (.bool false)).ms e.o.wide e.m) (x:=28) (W':=λw=>Wt w (T++[63]) 1 false true) oo g (by rw[g.col];decide) (gr5 h.p) sb
 have hmc:MC (e.own ((e.w.IW 0 [10]).sgn [63] true false true) ((Mh (bif cm then 12 else 10) .nul .nul true (.bool false)).ms e.o.wide e.m) 28):=⟨h.m.1,h.m.2.1,h.m.2.2.1,h.m.2.2.2⟩
 obtain⟨E,h1,h2⟩:=opT (r:=false) (s:=false) (m:=true) (k:=false) hp oo hmc (pa hp) hx ib
 have hi:(e.own ((e.w.IW 0 [10]).sgn [63] true false true) ((Mh (bif cm then 12 else 10) .nul .nul true (.bool false)).ms e.o.wide e.m) 28).w.ind=true:=g.ind
 rw[hi,show(!cm&&(true&&!true))=false from Bool.and_false _,show cD (.int 0) o.bi false false=.int o.bi from kh B.int (Int.zero_add _)]at h2
 rw[<- Az]at h1 ⊢
 have q0:NR (Mh (bif cm then 12 else 10) .nul .nul true (.bool false)).V nx false false true false (Mr e (Mh (bif cm then 12 else 10) .nul .nul true (.bool false)) false) E:=by unfold Mr;rw[cS h.p.ix (h.p.lb oo)];exact h1
 refine⟨E,?_,h2⟩
 have ht:=h.t
 cases first with
 | true=>exact kH ht x6 (h.p.My oo) h.m (zM hx _) q0
 | false=>exact kG ht x6 (h.p.My oo) h.m (zM hx _) q0
theorem Da(oo:Jq o)(sb:S.length<=4)(ib:I.length<=4)(hx:eL cm nx)(h:A1 o (n+2) (.int 0) (.IA 27 2) I S (λw=>Wt w T q false false) e):∃E,Ko e (Kh cm) nx E/\A1 o n (.int (bif cm then o.bi else 0)) (N3 cm) (I++[.i 0]) (S++[.IA 26 2]) (λw=>Wt w (T++[58]) (q+1) false false) E:=by
 have g:Wt (e.w.sgn [58] false false false) (T++[58]) (q+1) false false:=Wt.sgn h.p.w [58] false false false
 have hq:(0:Int)<=q:=(show e.w.col=q from(h.p.w:Wt e.w T q false false).col)▸h.p.c0
 have hp:=h.p.own (mm:=e.m) (x:=26) (W':=λw=>Wt w (T++[58]) (q+1) false false) oo g (by rw[g.col];exact Int.add_nonneg hq (by decide)) (.sg (s:=[58]) h.p.c0 (by decide)) sb
 obtain⟨E,h1,h2⟩:=opT (r:=false) (s:=false) (m:=true) (k:=false) hp oo h.m (pa hp) hx ib
 have hi:(e.own (e.w.sgn [58] false false false) e.m 26).w.ind=false:=g.ind
 have e1:cD (.int 0) o.bi false (!cm&&(true&&!false))=.int (bif cm then o.bi else 0):=by
  cases cm with
  | true=>exact kh B.int (Int.zero_add _)
  | false=>rfl
 rw[hi,e1]at h2
 exact⟨E,oe h.t (h.p.My oo) h1,h2⟩
theorem Db(oo:Jq o)(sb:S.length<=4)(ib:I.length<=4)(hx:eL cm nx)(h:A1 o (n+2) (.int 0) (.IA 28 2) I S (D0 T) e):∃E,Ko e (Kh cm) nx E/\A1 o n (.int o.bi) (N3 cm) (I++[.i 0]) (S++[.IA 26 2]) (λw=>Wt w (T++[58]) 1 false true) E:=by
 have g:=D0.sgn h.p.w 58 true false true
 have hp:=h.p.own (mm:=e.m) (x:=26) (W':=λw=>Wt w (T++[58]) 1 false true) oo g (by rw[g.col];decide) (gr5 h.p) sb
 obtain⟨E,h1,h2⟩:=opT (r:=false) (s:=false) (m:=true) (k:=false) hp oo h.m (pa hp) hx ib
 have hi:(e.own ((e.w.IW 0 [10]).sgn [58] true false true) e.m 26).w.ind=true:=g.ind
 rw[hi,show(!cm&&(true&&!true))=false from Bool.and_false _,show cD (.int 0) o.bi false false=.int o.bi from kh B.int (Int.zero_add _)]at h2
 have q0:NR (Kh cm) nx false false true false ((e.IW.sgn [58] true false true).push 26) E:=by rw[cS h.p.ix (h.p.lb oo)];exact h1
 exact⟨E,oa h.t (h.p.My oo) q0,h2⟩
theorem GH(hs:e.k.state=.IA 8 2)(hi:IM e.c.indent)(hc:0<=e.w.col)(ho:e.ok 5):Ko e deV nx (((e.IW.sgn [46,46,46] true false false).IW).JV 7):=
 .of hs ⟨by decide,by decide⟩ rfl rfl rfl λd g rr hr hl hp=>st8 (e:=e.take deV rr) (d:=d+7) rfl hi hc ho
theorem Dg(hs:e.k.state=.IA 7 2)(ho:e.w.Kc=false):Ko e MD nx (e.JV 5):=
 .of hs ⟨by decide,by decide⟩ rfl rfl rfl λd g rr hr hl hp=>GJ (e:=e.take MD rr) (d:=d+8) rfl ho
theorem yX(w:Wr)(i:Int)(lb:Tx):(w.IW i lb).Kc=w.Kc:=by
 have hp:∀w:Wr,(w.pad i).Kc=w.Kc:=λw=>by unfold Wr.pad;cases decide (w.col < i) <;> rfl
 unfold Wr.IW
 cases w.Mf i with
 | true=>exact hp _
 | false=>exact hp w
theorem Au(oo:Jq o)(h:A1 o (n+1) .nul (.IA 8 2) I S (D0 T) e):On [deV,MD] e (λE=>E.w.rows.flatten=T++[46,46,46,10]/\(T++[46,46,46,10]).length<=IU):=λx=>by
 have g:=Wt.sgn h.p.w [46,46,46] true false false
 have d:=g.d0 (by rfl)
 have hl:=h.p.lb oo
 have e1:e.IW=e.W (e.w.IW 0 [10]):=by unfold Em.IW;rw[h.p.ix,hl];rfl
 have ho:e.ok 5:=by have:=h.p.r;show e.w.rows.length+5<=IU;omega
 have s1:=GH (nx:=MD::x) h.t (.inl h.p.ix) h.p.c0 ho
 have e2:((e.IW.sgn [46,46,46] true false false).IW).JV 7=(e.W (((e.w.IW 0 [10]).sgn [46,46,46] true false false).IW 0 [10])).JV 7:=by
  rw[e1]
  show((e.W ((e.w.IW 0 [10]).sgn [46,46,46] true false false)).IW).JV 7=_
  unfold Em.IW
  show(e.W (Wr.IW _ (ai e.c.indent) e.o.lb)).JV 7=_
  rw[h.p.ix,hl];rfl
 rw[e2]at s1
 refine⟨_,⟨_,s1,_,Dg rfl ?_,rfl⟩,?_⟩
 ·show(Wr.IW _ 0 [10]).Kc=false
  rw[yX];rfl
 ·have:=d.tx
  rw[lu]at this
  refine⟨this,?_⟩
  have h1:T.length<=M6 e.w+1:=by
   have h2:=(uE e.w 0 h.p.c0).2
   have h3:M6 (e.w.IW 0 [10])=T.length:=kh List.length (show(e.w.IW 0 [10]).rows.flatten=T from Wt.tx h.p.w)
   rw[h3]at h2;exact h2
  have h4:=h.p.q
  rw[ky]
  show T.length+4<=IU
  omega
end
noncomputable def Oe:Bool->List V->Prop | true,l=>NP2 l | false,l=>NP l
section
variable{o o1:Op}{e E e0 e1:Em}{n N:Nat}{ix:B}{I S:List V}{W:Wr->Prop}{T:Tx}{t t1:V}{cm cf:Bool}{b:Bs}{w0 w1:Wr}{ls:List (List V)}{i q:Int}
theorem Wt.dnt0{w:Wr}(h:Wt w T 0 true true):D0 T w:=by
 unfold D0 Wr.IW
 rw[h.Mf]
 show Wt (w.pad 0) _ _ _ _
 rw[gQ (by rw[h.col];decide)]
 exact h
theorem BT.fin(h:BT b w0 w1)(hk:0<=b.k){P:Prop}(post:∀Y Z,D0 (b.a0++Y) w0->D0 (b.a1++Z) w1->b.fx++Z=J4 b.k true Y->P):P:=by
 obtain⟨fr,h⟩:=h
 obtain⟨y,z,h1,h2,h3,h4⟩:=h.tx
 rw[show(bif false then aJ b.k else([]:Tx))=[] from rfl,mh]at h3
 cases fr with
 | true=>
  have g:=h.fg rfl
  have c:=h.z.1 rfl
  exact post y z (Wt.dnt0 ⟨h1,c,g.1,g.2⟩) (Wt.dnt0 ⟨h2,(by rw[h.col,c];rfl),h.ws.trans g.1,h.ind.trans g.2⟩) h3
 | false=>
  have c:=h.z.2 rfl
  have c1:0 < w1.col:=by have:=h.col;rw[show(bif false&&!false then(0:Int) else b.k)=b.k from rfl]at this;omega
  have f:∀{w:Wr}{x:Tx},w.rows.flatten=x->0 < w.col->D0 (x++[10]) w:=λ{w x} hx hc=>(⟨hx,rfl,rfl,rfl⟩:Wt w x w.col w.ws w.ind).d0 (by rw[decide_eq_true hc];cases w.ind <;> rfl)
  refine post (y++[10]) (z++[10]) ?_ ?_ ?_
  ·rw[<- lu];exact f h1 c
  ·rw[<- lu];exact f h2 c1
  ·rw[<- lu,h3,jD,tR _ _ (by decide)]
theorem A1.dn{m:Nat}(h:A1 o (n+m) ix t I S W e):A1 o n ix t I S W e:=⟨⟨h.p.o,h.p.ix,h.p.lv,h.p.i,h.p.s,h.p.w,h.p.c0,by have:=h.p.r;omega,by have:=h.p.q;omega,by have:=h.p.nb;omega,h.p.ib,h.p.sb⟩,h.m,h.t⟩
theorem A1.le{m:Nat}(h:A1 o m ix t I S W e)(hn:n<=m):A1 o n ix t I S W e:=by
 obtain⟨k,rfl⟩:=Nat.exists_eq_add_of_le hn
 exact h.dn
theorem C7(np:∀l∈ls,Oe cm l)(Kg:ls.isEmpty=false)(oo:Jq b.op)(K9:Jq o1)(ho:o1=⟨b.op.enc,b.op.IL,b.op.wide,b.op.bi,b.op.bw+b.k,b.op.lb⟩)(k0:0<=b.k)(k9:b.k<=20){W0 W1:Wr->Prop}(hN:N+2*ls.flatten.length<=190)
  (h0:A1 b.op (N+2*ls.flatten.length+2) .nul (.IA 9 2) [] [] W0 e0)
  (h1:∀nx,eL cm nx->∃M1,Ko e1 (Kh cm) nx M1/\A1 o1 (N+2*ls.flatten.length) (.int b.k) (N3 cm) [.b .nul,.i 0] [.IA 8 2,t1] W1 M1)
  (hD:∀w0 w1,W0 w0->W1 w1->DT b 0 w0 w1) (u1:ab t1=false) :
  Tw (Kh cm::(ls.flatten++[LG cm])) e0 e1 (λE0 E1=>∃Y Z,A1 b.op N .nul (.IA 8 2) [] [] (D0 (b.a0++Y)) E0/\A1 o1 N (.int 0) t1 [.b .nul] [.IA 8 2] (D0 (b.a1++Z)) E1/\b.fx++Z=J4 b.k true Y):=by
 intro x0 x1
 have hx:∀x,eL cm ((ls.flatten++[LG cm])++x):=λx=>by
  cases cm with
  | true=>
   refine(gw (c:=13) (by decide +kernel) (λl hl=>?_) x).trans Kg
   obtain⟨a,c,rfl,⟨n,tl,rfl,hd,_⟩,_⟩:=np l hl
   exact⟨n,tl++c,rfl,hd.no.2⟩
  | false=>
   refine(gw (c:=11) (by decide +kernel) (λl hl=>?_) x).trans Kg
   obtain⟨n,tl,rfl,hd,_⟩:=np l hl
   exact⟨n,tl,rfl,hd.no.1⟩
 obtain⟨M0,s0,a0⟩:=uQ h0 oo (hx x0)
 obtain⟨M1,s1,a1⟩:=h1 _ (hx x1)
 have hA:Jz b (N+2*ls.flatten.length) 0 (N3 cm) (N3 cm) [.b .nul] [.b .nul,.i 0] [.IA 8 2] [.IA 8 2,t1] 0 (DT b 0) M0 M1:=by
  refine⟨⟨⟨a0.p.My oo,a1.p.vd K9 k0 k9,a0.p.o,?_,a1.p.lv.trans a0.p.lv.symm,?_,a0.p.ix,?_,Int.le_refl 0,k0⟩,a0.p.s,a1.p.s,a0.p.i,a1.p.i,a0.p.lv,hD _ _ a0.p.w a1.p.w⟩,a0.m,a1.m,a0.t,a1.t⟩
  ·rw[a1.p.o,a0.p.o,ho]
  ·rw[a0.p.lv];exact Int.le_refl 0
  ·rw[a1.p.ix,Int.zero_add]
 have fin:∃E0 E1,LM (ls.flatten++[LG cm]) x0 M0 E0/\LM (ls.flatten++[LG cm]) x1 M1 E1/\PW b N 0 .nul (.int 0) [] [.b .nul] [] [.IA 8 2] (.IA 8 2) t1 0 (BT b) E0 E1:=by
  cases cm with
  | true=>exact oO (I0:=[]) (I1:=[.b .nul]) (S0:=[]) (S1:=[.IA 8 2]) np Kg rfl u1 hA x0 x1
  | false=>exact oj (I0:=[]) (I1:=[.b .nul]) (S0:=[]) (S1:=[.IA 8 2]) np Kg rfl u1 hA x0 x1
 obtain⟨E0,E1,c0,c1,f0,f1,s,hE,rfl,rfl⟩:=fin
 refine⟨_,_,⟨M0,s0,c0⟩,⟨M1,s1,c1⟩,?_⟩
 refine hE.p.w.fin k0 λY Z d0 d1 hz=>⟨Y,Z,?_,?_,hz⟩
 ·exact⟨⟨hE.p.re.q,rfl,hE.p.lv,rfl,rfl,d0,hE.p.re.v0.col,hE.p.re.v0.rows,hE.p.re.v0.tl,by omega,mi _,mi _⟩,hE.m0,rfl⟩
 ·exact⟨⟨by have:=hE.p.re.o;rw[hE.p.re.q]at this;exact this.trans ho.symm,rfl,hE.p.re.lv.trans hE.p.lv,rfl,rfl,d1,hE.p.re.v1.col,hE.p.re.v1.rows,hE.p.re.v1.tl,by omega,by show 1<=5;decide,by show 1<=5;decide⟩,hE.m1,rfl⟩
noncomputable def T3:Tx:=[45,45,45]
noncomputable def W3(w:Wr):Prop:=Wt w T3 3 false false
theorem W3.d(h:W3 w0):D0 (T3++[10]) w0:=Wt.d0 h rfl
theorem j5(hk:2<=b.k)(ha:b.a0=T3++[10])(hf:b.fx=[32])(h0:W3 w0)(h1:Wt w1 b.a1 1 false true):DT b 0 w0 w1:=by
 have d0:=h0.d
 have d1:=h1.dntP (j:=b.k) (by omega)
 refine⟨true,?_⟩
 rw[Int.zero_add]
 have e1:aJ b.k=[32]++aJ (b.k - 1):=by
  have:=kK (i:=b.k - 1) (k:=1) (by omega) (by decide)
  rw[Int.sub_add_cancel]at this
  exact this
 exact⟨d1.ws.trans d0.ws.symm,d1.ind.trans d0.ind.symm,by rw[d1.col,d0.col];exact(Int.zero_add _).symm,by rw[d0.col];exact Int.le_refl 0,⟨λJ=>d0.col,λh=>JG h.symm⟩,λJ=>⟨d0.ws,d0.ind⟩,[],aJ (b.k - 1),by rw[d0.tx,ha,mh],d1.tx,by rw[hf,<- e1];rfl,rfl⟩
theorem vi{T:Tx}{q:Int}(hk:0<=b.k)(ha:b.a0=T3++[10])(ha1:b.a1=T++[10])(hf:b.fx=[])(h0:W3 w0)(h1:Wt w1 T q false false):DT b 0 w0 w1:=by
 have d0:=h0.d
 have d1:=h1.dntB (j:=b.k) rfl hk
 refine⟨true,?_⟩
 rw[Int.zero_add]
 exact⟨d1.ws.trans d0.ws.symm,d1.ind.trans d0.ind.symm,by rw[d1.col,d0.col];exact(Int.zero_add _).symm,by rw[d0.col];exact Int.le_refl 0,⟨λJ=>d0.col,λh=>JG h.symm⟩,λJ=>⟨d0.ws,d0.ind⟩,[],aJ b.k,by rw[d0.tx,ha,mh],by rw[d1.tx,ha1,lu];rfl,by rw[hf];rfl,rfl⟩
noncomputable def Jc:List V:=[deV,MD]
noncomputable def cv:Tx:=[46,46,46,10]
noncomputable def Txt(b:Bs)(Q:Tx)(vs0 vs1:List V)(e0 e1:Em):Prop:=∃E0 E1 Y Z,LM vs0 [] e0 E0/\LM vs1 [] e1 E1/\b.fx++Z=J4 b.k true Y/\E0.w.rows.flatten=(b.a0++Y)++cv/\E1.w.rows.flatten=((b.a1++Z)++Q)++cv/\((b.a0++Y)++cv).length<=IU/\(((b.a1++Z)++Q)++cv).length<=IU
theorem frame(np:∀l∈ls,Oe cm l)(Kg:ls.isEmpty=false)(oo:Jq b.op)(K9:Jq o1)(ho:o1=⟨b.op.enc,b.op.IL,b.op.wide,b.op.bi,b.op.bw+b.k,b.op.lb⟩)(k0:0<=b.k)(k9:b.k<=20){W1:Wr->Prop}(hN:10+2*ls.flatten.length<=178){pre post:List V}{Q:Tx}
  (h0:A1 b.op 190 .nul (.IA 9 2) [] [] W3 e0) (h1:A1 o1 190 .nul (.IA 9 2) [] [] W3 e1)
  (hh:∀x,eL cf (pre++(Kh cm::x)))
  (hp:∀E,A1 o1 (10+2*ls.flatten.length+10) (.int 0) (N3 cf) [.b .nul] [.IA 8 2] (D0 (T3++[10])) E->On pre E (λE=>∀nx,eL cm nx->∃M1,Ko E (Kh cm) nx M1/\A1 o1 (10+2*ls.flatten.length) (.int b.k) (N3 cm) [.b .nul,.i 0] [.IA 8 2,t1] W1 M1))
  (hD:∀w0 w1,W3 w0->W1 w1->DT b 0 w0 w1) (u1:ab t1=false)
  (hq:∀E Z,A1 o1 10 (.int 0) t1 [.b .nul] [.IA 8 2] (D0 (b.a1++Z)) E->On post E (A1 o1 1 .nul (.IA 8 2) [] [] (D0 ((b.a1++Z)++Q)))) :
  Txt b Q ((Kh cm::(ls.flatten++[LG cm]))++Jc) (Kh cf::(pre++((Kh cm::(ls.flatten++[LG cm]))++(post++Jc)))) e0 e1:=by
 obtain⟨F,sF,aF⟩:=uQ (nx:=pre++((Kh cm::(ls.flatten++[LG cm]))++(post++Jc))++[]) (h1.le (n:=(10+2*ls.flatten.length+10)+2) (by omega)) K9 (by rw[mh];exact hh _)
 have aF:A1 o1 (10+2*ls.flatten.length+10) (.int 0) (N3 cf) [.b .nul] [.IA 8 2] (D0 (T3++[10])) F:=⟨⟨aF.p.o,aF.p.ix,aF.p.lv,aF.p.i,aF.p.s,W3.d aF.p.w,aF.p.c0,aF.p.r,aF.p.q,aF.p.nb,aF.p.ib,aF.p.sb⟩,aF.m,aF.t⟩
 obtain⟨G,cG,hG⟩:=hp F aF (((Kh cm::(ls.flatten++[LG cm]))++(post++Jc))++[])
 obtain⟨E0,E1,c0,c1,Y,Z,g0,g1,hz⟩:=C7 (N:=10) np Kg oo K9 ho k0 k9 (by omega) (h0.le (by omega)) hG hD u1 (Jc++[]) ((post++Jc)++[])
 obtain⟨D0',d0,t0⟩:=Au (n:=9) oo g0 []
 obtain⟨H,cH,hH⟩:=hq E1 Z g1 (Jc++[])
 obtain⟨D1',d1,tt1⟩:=Au (n:=0) K9 hH []
 refine⟨D0',D1',Y,Z,c0.app d0,⟨F,sF,?_⟩,hz,t0.1,tt1.1,t0.2,tt1.2⟩
 exact cG.app (c1.app (cH.app d1))
end
noncomputable def JT(x:Bool)(l:List V):List V:=bif x then l else []
noncomputable def JP(x:Bool)(l:Tx):Tx:=bif x then l else []
section
variable{o o1:Op}{e E e0 e1:Em}{n N:Nat}{I S:List V}{T:Tx}{cm ah be:Bool}{op:Op}{ls:List (List V)}
theorem lC{c:Nat}(h:dv.contains c=true):c∈dv:=by simpa using h
theorem CN(oo:Jq o)(sb:S.length<=4)(h:A1 o (n+2) (.int 0) (.IA 22 2) I S (D0 T) e):On (JT ah [wV 112]) e (λE=>∃first,A1 o n (.int 0) (Le first 22 23) I S (D0 (T++JP ah [45,32,112,10])) E):=by
 cases ah with
 | true=>exact λx=>(As true oo (lC (by decide +kernel)) sb h x).elim λE hE=>⟨E,hE.1,false,hE.2⟩
 | false=>exact λx=>⟨e,rfl,true,by show A1 o n _ _ I S (D0 (T++[])) e;rw[mh];exact h.dn⟩
theorem nR(oo:Jq o)(sb:S.length<=4)(h:A1 o (n+4) (.int 0) (.IA 25 2) I S (D0 T) e):On (JT ah [wV 112,wV 112]) e (λE=>∃first,A1 o n (.int 0) (Le first 25 26) I S (D0 (T++JP ah [112,58,32,112,10])) E):=by
 cases ah with
 | true=>
  refine On.app (vs:=[wV 112]) (uR (n:=n+2) true oo (lC (by decide +kernel)) sb h) λE h=>λx=>(Ar (n:=n) oo (lC (by decide +kernel):112∈dv) sb h x).elim λE hE=>⟨E,hE.1,false,?_⟩
  have:=hE.2
  rw[lu]at this
  exact this
 | false=>exact λx=>⟨e,rfl,true,by show A1 o n _ _ I S (D0 (T++[])) e;rw[mh];exact h.dn⟩
theorem Cz(oo:Jq o)(h:A1 o (n+2) (.int 0) (.IA 23 2) [.b .nul] [.IA 8 2] (D0 T) e):On (JT be [wV 113]++[JB 11]) e (A1 o n .nul (.IA 8 2) [] [] (D0 (T++JP be [45,32,113,10]))):=by
 cases be with
 | true=>exact On.app (As (n:=n) false oo (lC (by decide +kernel)) (by show 1<=4;decide) h) λE h=>pi h
 | false=>show On ([]++[JB 11]) e (A1 o n .nul (.IA 8 2) [] [] (D0 (T++[])));rw[mh];exact pi h.dn
theorem nL(oo:Jq o)(h:A1 o (n+4) (.int 0) (.IA 26 2) [.b .nul] [.IA 8 2] (D0 T) e):On (JT be [wV 113,wV 113]++[JB 13]) e (A1 o n .nul (.IA 8 2) [] [] (D0 (T++JP be [113,58,32,113,10]))):=by
 cases be with
 | true=>
  refine On.app (vs:=[wV 113]) (uR (n:=n+2) false oo (lC (by decide +kernel)) (by show 1<=4;decide) h) λE h=>On.app (vs:=[wV 113]) (Ar (n:=n) oo (lC (by decide +kernel)) (by show 1<=4;decide) h) λE h=>ph (by rw[lu]at h;exact h)
 | false=>show On ([]++[JB 13]) e (A1 o n .nul (.IA 8 2) [] [] (D0 (T++[])));rw[mh];exact ph h.dn
noncomputable def Op.LN(o:Op)(k:Int):Op:=⟨o.enc,o.IL,o.wide,o.bi,o.bw+k,o.lb⟩
theorem Jq.LN{k:Int}(h:Jq o)(hk:0<=k):Jq (o.LN k):=⟨h.IL,h.lb,h.b2,h.b9,Int.add_nonneg h.bw hk,h.wd⟩
theorem DN(x:List V):eL cf (Kh cm::x):=by
 have:(Ji [13] 12=false/\Ji [13] 10=false)/\(Ji [11] 12=false/\Ji [11] 10=false):=by decide +kernel
 cases cf <;> cases cm
 ·exact this.2.2
 ·exact this.2.1
 ·exact this.1.2
 ·exact this.1.1
theorem kS(IB tag:B)(i0 i1:Bool)(v:Tx)(s:B)(x:List V):eL cf (LV IB tag i0 i1 v s::x):=by
 have:Ji [13] 9=false/\Ji [11] 9=false:=by decide +kernel
 cases cf
 ·exact this.2
 ·exact this.1
theorem Ab{l:List V}{c:Nat}(x:List V):eL cf (JT ah (wV c::l)++(Kh cm::x)):=by
 cases ah
 ·exact DN x
 ·exact kS _ _ _ _ _ _ _
noncomputable def Ky(cm:Bool)(ls:List (List V)):List V:=Kh cm::(ls.flatten++[LG cm])
noncomputable def tp(ah:Bool)(l:Tx):Tx:=(T3++[10])++JP ah l
theorem B2(np:∀l∈ls,Oe cm l)(Kg:ls.isEmpty=false)(oo:Jq op)(hN:10+2*ls.flatten.length<=178)(h0:A1 op 190 .nul (.IA 9 2) [] [] W3 e0)(h1:A1 (op.LN op.bi) 190 .nul (.IA 9 2) [] [] W3 e1) :
  Txt ⟨op.bi,T3++[10],tp ah [45,32,112,10]++[45],[32],op⟩ (JP be [45,32,113,10]) (Ky cm ls++Jc) (Kh false::(JT ah [wV 112]++(Ky cm ls++((JT be [wV 113]++[JB 11])++Jc)))) e0 e1:=by
 have k2:=oo.b2
 have k9:=oo.b9
 have K9:Jq (op.LN op.bi):=oo.LN (by omega)
 refine frame (b:=⟨op.bi,T3++[10],tp ah [45,32,112,10]++[45],[32],op⟩) (W1:=λw=>Wt w (tp ah [45,32,112,10]++[45]) 1 false true) (t1:=.IA 23 2) np Kg oo K9 rfl (by show 0<=op.bi;omega) (by show op.bi<=20;omega) hN h0 h1 (λx=>Ab x) (λE hE=>?_) (λw0 w1 a0 a1=>j5 k2 rfl rfl a0 a1) rfl (λE Z hE=>Cz K9 (hE.le (by decide)))
 exact λx=>(CN K9 (by show 1<=4;decide) (hE.le (by omega)) x).elim λF hF=>⟨F,hF.1,λnx hx=>hF.2.elim λfirst hF2=>Dc first K9 (by show 1<=4;decide) (by show 1<=4;decide) hx (hF2.le (mf (10+2*ls.flatten.length+2)))⟩
theorem BZ(np:∀l∈ls,Oe cm l)(Kg:ls.isEmpty=false)(oo:Jq op)(hN:10+2*ls.flatten.length<=178)(h0:A1 op 190 .nul (.IA 9 2) [] [] W3 e0)(h1:A1 (op.LN op.bi) 190 .nul (.IA 9 2) [] [] W3 e1) :
  Txt ⟨op.bi,T3++[10],tp ah [112,58,32,112,10]++[63],[32],op⟩ ([58,32,118,10]++JP be [113,58,32,113,10]) (Ky cm ls++Jc) (Kh true::(JT ah [wV 112,wV 112]++(Ky cm ls++((wV 118::(JT be [wV 113,wV 113]++[JB 13]))++Jc)))) e0 e1:=by
 have k2:=oo.b2
 have k9:=oo.b9
 have K9:Jq (op.LN op.bi):=oo.LN (by omega)
 refine frame (b:=⟨op.bi,T3++[10],tp ah [112,58,32,112,10]++[63],[32],op⟩) (W1:=λw=>Wt w (tp ah [112,58,32,112,10]++[63]) 1 false true) (t1:=.IA 28 2) np Kg oo K9 rfl (by show 0<=op.bi;omega) (by show op.bi<=20;omega) hN h0 h1 (λx=>Ab x) (λE hE=>?_) (λw0 w1 a0 a1=>j5 k2 rfl rfl a0 a1) rfl (λE Z hE=>?_)
 ·exact λx=>(nR K9 (by show 1<=4;decide) (hE.le (by omega)) x).elim λF hF=>⟨F,hF.1,λnx hx=>hF.2.elim λfirst hF2=>A0 first K9 (by show 1<=4;decide) (by show 1<=4;decide) hx (hF2.le (mf (10+2*ls.flatten.length+2)))⟩
 ·rw[<- lu]
  exact On.app (vs:=[wV 118]) (yg (n:=8) K9 (lC (by decide +kernel)) (by show 1<=4;decide) hE) λE h=>nL K9 (h.le (by decide))
theorem BY(np:∀l∈ls,Oe cm l)(Kg:ls.isEmpty=false)(oo:Jq op)(hN:10+2*ls.flatten.length<=178)(h0:A1 op 190 .nul (.IA 9 2) [] [] W3 e0)(h1:A1 (op.LN op.bi) 190 .nul (.IA 9 2) [] [] W3 e1) :
  Txt ⟨op.bi,T3++[10],(tp ah [112,58,32,112,10]++[63,10])++[58],[32],op⟩ (JP be [113,58,32,113,10]) (Ky cm ls++Jc) (Kh true::((JT ah [wV 112,wV 112]++[LV .nul .nul true false [] .nul])++(Ky cm ls++((JT be [wV 113,wV 113]++[JB 13])++Jc)))) e0 e1:=by
 have k2:=oo.b2
 have k9:=oo.b9
 have K9:Jq (op.LN op.bi):=oo.LN (by omega)
 refine frame (b:=⟨op.bi,T3++[10],(tp ah [112,58,32,112,10]++[63,10])++[58],[32],op⟩) (W1:=λw=>Wt w ((tp ah [112,58,32,112,10]++[63,10])++[58]) 1 false true) (t1:=.IA 26 2) np Kg oo K9 rfl (by show 0<=op.bi;omega) (by show op.bi<=20;omega) hN h0 h1 (λx=>?_) (λE hE=>?_) (λw0 w1 a0 a1=>j5 k2 rfl rfl a0 a1) rfl (λE Z hE=>nL K9 (hE.le (by decide)))
 ·cases ah
  ·exact kS _ _ _ _ _ _ _
  ·exact kS _ _ _ _ _ _ _
 ·refine On.app (nR (n:=10+2*ls.flatten.length+4) K9 (by show 1<=4;decide) (hE.le (by omega))) λF hF=>?_
  obtain⟨first,hF⟩:=hF
  exact λx=>(EH first K9 (by show 1<=4;decide) (hF.le (mf (10+2*ls.flatten.length+2+2))) x).elim λG hG=>⟨G,hG.1,λnx hx=>Db K9 (by show 1<=4;decide) (by show 1<=4;decide) hx hG.2⟩
theorem B1(np:∀l∈ls,Oe cm l)(Kg:ls.isEmpty=false)(oo:Jq op)(hN:10+2*ls.flatten.length<=178)(h0:A1 op 190 .nul (.IA 9 2) [] [] W3 e0)(h1:A1 (op.LN (bif cm then op.bi else 0)) 190 .nul (.IA 9 2) [] [] W3 e1) :
  Txt ⟨bif cm then op.bi else 0,T3++[10],(tp ah [112,58,32,112,10]++[107,58])++[10],[],op⟩ (JP be [113,58,32,113,10]) (Ky cm ls++Jc) (Kh true::((JT ah [wV 112,wV 112]++[wV 107])++(Ky cm ls++((JT be [wV 113,wV 113]++[JB 13])++Jc)))) e0 e1:=by
 have k2:=oo.b2
 have k9:=oo.b9
 have kk:0<=(bif cm then op.bi else 0)/\(bif cm then op.bi else 0)<=20:=by
  cases cm
  ·show(0:Int)<=0/\(0:Int)<=20;decide
  ·show 0<=op.bi/\op.bi<=20;omega
 have K9:Jq (op.LN (bif cm then op.bi else 0)):=oo.LN kk.1
 refine frame (b:=⟨bif cm then op.bi else 0,T3++[10],(tp ah [112,58,32,112,10]++[107,58])++[10],[],op⟩) (W1:=λw=>Wt w (tp ah [112,58,32,112,10]++[107,58]) 2 false false) (t1:=.IA 26 2) np Kg oo K9 rfl kk.1 kk.2 hN h0 h1 (λx=>?_) (λE hE=>?_) (λw0 w1 a0 a1=>vi kk.1 rfl rfl rfl a0 a1) rfl (λE Z hE=>nL K9 (hE.le (by decide)))
 ·cases ah
  ·exact kS _ _ _ _ _ _ _
  ·exact kS _ _ _ _ _ _ _
 ·refine On.app (nR (n:=10+2*ls.flatten.length+4) K9 (by show 1<=4;decide) (hE.le (by omega))) λF hF=>?_
  obtain⟨first,hF⟩:=hF
  refine λx=>(uR first K9 (lC (by decide +kernel):107∈dv) (by show 1<=4;decide) (hF.le (mf (10+2*ls.flatten.length+2+2))) x).elim λG hG=>⟨G,hG.1,λnx hx=>?_⟩
  have:=Da (n:=10+2*ls.flatten.length) K9 (by show 1<=4;decide) (by show 1<=4;decide) hx hG.2
  rw[lu]at this
  exact this
end
noncomputable def Kl:V:=.b .nul
theorem Qn.more{e:Em}{g:List Ob}(h:Qn e g)(x:List Ob):Qn e (g++x):=h.imp id λh=>tw h
theorem LZ.of{l:List V}(h:∀v∈l,JY v):LZ l:=λv hv=>by obtain⟨k,f,e,_⟩:=h v hv;exact⟨k,f,e⟩
theorem oN{n k:Nat}(hn:2<=n):bO n [k]=true:=by
 show(!false&&decide (1 < n+1))=true
 rw[decide_eq_true (by omega)];rfl
theorem DV{v:V}{r t:List V}(hn:bN (bn (v::r))=false):Lk v r (r++t):=by
 cases r with
 | cons x r=>exact⟨λJ=>by cases x <;> rfl,λJ=>by cases x <;> rfl⟩
 | nil=>
  have k10:J8 v≠10:=λh=>by
   have e:bN (bn [v])=true:=by show bN [J8 v]=true;rw[h];exact oN (n:=2) (k:=10) (by decide)
   rw[e]at hn;exact JG hn.symm
  have k12:J8 v≠12:=λh=>by
   have e:bN (bn [v])=true:=by show bN [J8 v]=true;rw[h];exact oN (n:=3) (k:=12) (by decide)
   rw[e]at hn;exact JG hn.symm
  have kk:∀{k c:Nat},k≠c->(c=10∨c=12)->Ji [c] k=true->False:=λ{k c} hk hc hx=>by
   unfold Ji at hx
   by_cases h14:k < 15
   ·exact hk ((by decide +kernel:∀c∈[10,12],∀k < 15,([c].any λj=>(gF[k]?).any λl=>l.contains j)=true->k=c) c (by rcases hc with rfl | rfl <;> simp) k h14 hx)
   ·rw[show gF[k]?=none from List.getElem?_eq_none (by have:gF.length=15:=rfl;omega)]at hx
    exact JG hx
  exact⟨λh=>(kk k10 (.inl rfl) h).elim,λh=>(kk k12 (.inr rfl) h).elim⟩
noncomputable def LastOk(l:List V):Prop:=l=[]∨∃a,l=a++[MD]
theorem LastOk.tail{v:V}{l:List V}(h:LastOk (v::l)):LastOk l:=by
 rcases h with h | ⟨a,h⟩
 ·exact nomatch h
 ·cases a with
  | nil=>injection h with _ h;exact .inl h
  | cons x a=>injection h with _ h;exact .inr ⟨a,h⟩
theorem Fb:∀(ks:List Nat)(lv:Int),5∈ks->db lv ks=true
 | k::ks,lv,h=>by
  show(decide (N5 lv k < 0)||db (N5 lv k) ks)=true
  rcases kq h with h | h
  ·subst h;rfl
  ·rw[Fb ks _ h,Bool.or_true]
theorem By{l:List V}(h:LastOk l)(hn:bN (bn l)=true):l=[]:=by
 rcases h with h | ⟨a,rfl⟩
 ·exact h
 ·cases a with
  | nil=>exact JG hn
  | cons v a=>
   have h5:5∈bn (a++[MD]):=List.mem_map.mpr ⟨MD,lh (.inr (.head _)),rfl⟩
   have e:∀n,bO n (bn (v::(a++[MD])))=false:=λn=>by
    show(!db 0 (bn (a++[MD]))&&_)=false
    rw[Fb _ 0 h5];rfl
   have hk:bN (bn (v::(a++[MD])))=bif J8 v==6 then bO 1 (bn (v::(a++[MD]))) else bif J8 v==10 then bO 2 (bn (v::(a++[MD]))) else bif J8 v==12 then bO 3 (bn (v::(a++[MD]))) else false:=rfl
   rw[show v::a++[MD]=v::(a++[MD]) from rfl,hk,e,e,e]at hn
   revert hn
   cases J8 v==6 <;> cases J8 v==10 <;> cases J8 v==12 <;> exact λh=>JG h
noncomputable def Gz(todo:List V)(m:Nat)(E:Em)(e':Em)(g':List Ob):Prop:=∃e q,e'=e.take Kl q/\bN (bn q)=true/\LM (q++todo) [] e E/\Qn e g'/\LastOk (q++todo)/\(∀v∈q,JY v)/\q.length<=m
theorem Ax{l:List V}{E:Em}{todo:List V}{m:Nat}(h0:l[0]?=some (.ref 2))(hm:m<=300):∀(q:List V)(n:Nat)(e:Em)(g:List Ob),q.length < n->LM (q++todo) [] e E->Qn e g->(∀v∈q,JY v)->q.length<=m->LastOk (q++todo)->Qp 89 n l (e.take Kl q) g (Gz todo m E):=by
 intro q
 induction q with
 | nil=>
  intro n e g hn hc hp hv hl hL
  obtain⟨n,rfl⟩:∃m,n=m+1:=⟨n - 1,(Nat.sub_add_cancel hn).symm⟩
  exact e6 (d:=87) (e:=e.take Kl []) h0 hv (kg hl hm) rfl λx=>⟨e,[],rfl,rfl,hc,hp.more x,hL,hv,hl⟩
 | cons v r ih=>
  intro n e g hn hc hp hv hl hL
  obtain⟨n,rfl⟩:∃m,n=m+1:=⟨n - 1,(Nat.sub_add_cancel (lj (mi _) hn)).symm⟩
  cases hN:bN (bn (v::r)) with
  | true=>exact e6 (d:=87) (e:=e.take Kl (v::r)) h0 hv (kg hl hm) hN λx=>⟨e,v::r,rfl,hN,hc,hp.more x,hL,hv,hl⟩
  | false=>
   obtain⟨e1,hs,hc1⟩:=hc
   have hr:LZ r:=LZ.of λx hx=>hv x (.tail _ hx)
   have hk:Lk v r ((r++todo)++[]):=by rw[lu];exact DV hN
   obtain⟨j,f,vs,x0,a1,a2,a3,_⟩:=hs 78 g r hr hk hp
   refine ii (d:=87) (e:=e.take Kl (v::r)) (v:=v) (r:=r) (j:=j) (f:=f) (vs:=vs) h0 hv (kg hl hm) hN rfl a1 a2 a3 λx=>?_
   obtain⟨j',f',vs',x1,b1,b2,b3,b4,b5⟩:=hs 78 (g++x) r hr hk (hp.more x)
   have ej:j'=j:=kh A7 (b1.symm.trans a1)
   subst ej
   have ef:f'=f:=ke (b2.symm.trans a2)
   subst ef
   have ev:vs'=vs:=ke (b3.symm.trans a3)
   subst ev
   exact⟨e1.take v r,_,b4,ih n e1 _ (Nat.lt_of_succ_lt_succ hn) hc1 b5 (λx hx=>hv x (.tail _ hx)) (mq hl) hL.tail⟩
noncomputable def MS:List V->List Ob->List Ob->Prop
 | [],R,R'=>R'=R
 | v::l,R,R'=>(∃fs,R[2]?=some (.ins 0 fs)/\(fs.lookup 0).isNone=true)/\∃R1,(IH 90).IG 0 [.ref 2,v] ⟨R,[]⟩=some (.b .nul,⟨R1,[]⟩)/\MS l R1 R'
theorem MS.fn:∀{l:List V}{R R' R'':List Ob},MS l R R'->MS l R R''->R'=R''
 | [],R,R',R'',h,h'=>(show R'=R from h).trans (show R''=R from h').symm
 | v::l,R,R',R'',⟨_,R1,h1,h2⟩,⟨_,R2,k1,k2⟩=>by
  have e:R1=R2:=kh (λp:V×St=>p.2.cur) (ke (h1.symm.trans k1))
  subst e
  exact MS.fn h2 k2
theorem Hw{E:Em}:∀(todo q:List V)(e:Em)(g:List Ob),LM (q++todo) [] e E->Qn e g->(∀v∈q++todo,JY v)->(q++todo).length<=300->LastOk (q++todo)->bN (bn q)=true->∃g',MS todo (Iy (e.take Kl q) g).cur (Iy (E.take Kl []) g').cur:=by
 intro todo
 induction todo with
 | nil=>
  intro q e g hc hp hv hl hL hn
  rw[mh]at hc hL
  obtain rfl:=By hL hn
  obtain rfl:E=e:=hc
  exact⟨g,rfl⟩
 | cons v todo ih=>
  intro q e g hc hp hv hl hL hn
  have ea:q++v::todo=(q++[v])++todo:=by rw[lu];rfl
  rw[ea]at hc hL hl hv
  have hle:(q++[v]).length<=300:=kg (by rw[ky (bs:=todo)];exact lw _ _) hl
  have hu:ab v=false:=by obtain⟨k,f,rfl,_⟩:=hv v (lh (.inl (lh (.inr (.head _)))));rfl
  have hd:=Ax (l:=[.ref 2,v]) (m:=(q++[v]).length) rfl hle (q++[v]) 400 e g (lj hle (by decide)) hc hp (λx hx=>hv x (lh (.inl hx))) (mf _) hL
  obtain⟨E',G',h1,e',q',rfl,h3,h4,h5,h6,h7,h8⟩:=eZ (e:=e.take Kl q) (g:=g) (d:=89) hu (lj (kg (by rw[ky];exact lw _ _) hle) (by decide)) hd
  have hl2:(q'++todo).length<=300:=by
   rw[ky]at hl ⊢
   exact kg (Nat.add_le_add_right h8 _) hl
  obtain⟨g',hF⟩:=ih q' e' G' h4 h5 (λx hx=>(mx hx).elim (h7 x) λh=>hv x (lh (.inr h))) hl2 h6 h3
  exact⟨g',⟨L6 (e.take Kl q),rfl,rfl⟩,_,h1,hF⟩
section
variable{e E:Em}{g:List Ob}{l:List V}{v:V}{todo:List V}
theorem st6{d:Nat}(hv:e.k.event=Ld)(hi:IM e.c.indent)(hc:0<=e.w.col)(ho:e.ok 5):(IH (d+5)).IG 6 [.ref 2] (Iy e g)=some (.b .nul,Iy (e.doc (g.length+6)) (g++[.LH aO])):=
 ap (f:=f_6) (l:=[.ref 2]) rfl (aR (aj f_7 (vs:=[]) (kw:=[(1,.tt)]) (ws:=[.ref 2,.tt]) rfl rfl rfl rfl rfl rfl (GI (d:=d) hv hi hc ho)) .nil) rfl
theorem yW(e:Em)(j:Nat):(e.doc j).m.LA=.ref j:=by
 unfold Em.doc
 show(bif e.o.IL.truth then _ else _:Em).m.LA=_
 cases e.o.IL.truth <;> rfl
theorem vk(e:Em)(j:Nat)(u:V)(r:List V):((e.take u r).doc j).ev0=(e.doc j).take Kl r:=by
 unfold Em.doc
 show(Em.JV (bif e.o.IL.truth then _ else _) 9).ev0=_
 cases e.o.IL.truth <;> rfl
theorem MS.one{R R1 R':List Ob}{fs:List (Nat×V)}(h2:R[2]?=some (.ins 0 fs))(h0:(fs.lookup 0).isNone=true)(h:(IH 90).IG 0 [.ref 2,v] ⟨R,[]⟩=some (.b .nul,⟨R1,[]⟩))(k:MS todo R1 R'):MS (v::todo) R R':=⟨⟨fs,h2,h0⟩,R1,h,k⟩
theorem A6{P:Em->Prop}(hs:e.k.state=.IA 4 2)(hi:e.c.indent=.nul)(hc:0<=e.w.col)(ho:e.ok 5)(hk:J8 v=10∨J8 v=12)(hv:∀x∈v::todo,JY x)(hl:(v::todo).length<=300)(hL:LastOk (v::todo))(h:∀j,∃E,LM (v::todo) [] ((e.JV 6).doc j) E/\P E) :
  ∃E g',MS (MB::Ld::v::todo) (Iy (e.take Kl []) g).cur (Iy (E.take Kl []) g').cur/\P E:=by
 have iE:∀k f,PE k=true->JY (.rc k f):=λk f hk=>⟨k,f,rfl,hk⟩
 have vS:∀x∈[MB],JY x:=λx hx=>by obtain rfl:=ku hx;exact iE _ _ (by decide)
 have vD:∀x∈[Ld],JY x:=λx hx=>by obtain rfl:=ku hx;exact iE _ _ (by decide)
 have D1:Qp 89 400 [.ref 2,MB] (e.take Kl [MB]) g (λe' g'=>e'=(e.JV 6).take Kl []):=by
  refine ii (d:=87) (e:=e.take Kl [MB]) (v:=MB) (r:=[]) (j:=4) (f:=f_4) (vs:=[.ref 2]) rfl vS (by show 1<=300;decide) rfl rfl hs rfl rfl λx=>?_
  obtain⟨y,hy⟩:=MU (e:=e.take MB []) (g:=g++x) (d:=87) rfl
  exact⟨_,_,hy,e6 (d:=87) (e:=(e.JV 6).take Kl []) rfl (λx hx=>absurd hx mn) (by show 0<=300;decide) rfl λz=>rfl⟩
 obtain⟨E1,G1,h1,q1⟩:=eZ (e:=e.take Kl []) (g:=g) (d:=89) (v:=MB) rfl (by show 0 < IU;decide) D1
 subst q1
 have D2:Qp 89 400 [.ref 2,Ld] ((e.JV 6).take Kl [Ld]) G1 (λe' g'=>e'=(e.JV 6).take Kl [Ld]):=
  e6 (d:=87) (e:=(e.JV 6).take Kl [Ld]) rfl vD (by show 1<=300;decide) rfl λz=>rfl
 obtain⟨E2,G2,h2,q2⟩:=eZ (e:=(e.JV 6).take Kl []) (g:=G1) (d:=89) (v:=Ld) rfl (by show 0 < IU;decide) D2
 subst q2
 have v2:∀x∈[Ld,v],JY x:=λx hx=>by
  rcases kq hx with rfl | hx
  ·exact vD _ (.head _)
  ·obtain rfl:=ku hx;exact hv _ (.head _)
 have n2:bN (bn [Ld,v])=false:=by
  show bN [6,J8 v]=false
  rcases hk with h | h <;> rw[h] <;> decide +kernel
 have D3:Qp 89 400 [.ref 2,v] ((e.JV 6).take Kl [Ld,v]) G2 (λe' g'=>∃E,P E/\Gz todo 1 E e' g'):=by
  refine ii (d:=87) (e:=(e.JV 6).take Kl [Ld,v]) (v:=Ld) (r:=[v]) (j:=6) (f:=f_6) (vs:=[.ref 2]) rfl v2 (by show 2<=300;decide) n2 rfl rfl rfl rfl λx=>?_
  obtain⟨E,hE,hP⟩:=h ((G2++x).length+6)
  have hd:=Ax (l:=[.ref 2,v]) (m:=1) (E:=E) (todo:=todo) rfl (by decide) [v] 399 ((e.JV 6).doc ((G2++x).length+6)) ((G2++x)++[.LH aO]) (by show 1 < 399;decide) hE (.inr ⟨(G2++x).length,yW _ _,by rw[List.getElem?_append_right (mf _),Nat.sub_self];rfl⟩) (λy hy=>v2 y (.tail _ hy)) (mf _) hL
  obtain⟨E',G',a1,a2⟩:=hd
  refine⟨_,_,st6 (e:=(e.JV 6).take Ld [v]) (g:=G2++x) (d:=84) rfl (.inl hi) hc ho,E',G',?_,E,hP,a2⟩
  rw[vk];exact a1
 obtain⟨E3,G3,h3,E,hP,e',q',rfl,b3,b4,b5,b6,b7,b8⟩:=eZ (e:=(e.JV 6).take Kl [Ld]) (g:=G2) (d:=89) (v:=v) (by obtain⟨k,f,rfl,_⟩:=hv v (.head _);rfl) (by show 1 < IU;decide) D3
 have hl3:(q'++todo).length<=300:=by
  rw[ky];exact kg (Nat.add_le_add_right b8 _) (by rw[Nat.add_comm];exact hl)
 obtain⟨g',hF⟩:=Hw todo q' e' G3 b4 b5 (λx hx=>(mx hx).elim (b7 x) λh=>hv x (.tail _ h)) hl3 b6 b3
 exact⟨E,g',.one (fs:=L6 (e.take Kl [])) rfl rfl h1 (.one (fs:=L6 ((e.JV 6).take Kl [])) rfl rfl h2 (.one (fs:=L6 ((e.JV 6).take Kl [Ld])) rfl rfl h3 hF)),hP⟩
end
noncomputable def Ln(o:Op):Em:=⟨⟨0,0,true,true,false,[]⟩,o,⟨.nul,0,false,false,false,false⟩,⟨.b .nul,.nul,.nul,.b .nul,.nul⟩,⟨.IA 4 2,Kl,[],[],[]⟩⟩
theorem fV{o:Op}(oo:Jq o)(j:Nat):A1 o 190 .nul (.IA 9 2) [] [] W3 (((Ln o).JV 6).doc j):=by
 have hw:(((Ln o).JV 6).doc j).w=⟨3,0,false,false,false,[T3]⟩:=by
  unfold Em.doc
  show(bif o.IL.truth then _ else _:Em).w=_
  rw[oo.IL];rfl
 have hr:∀(P:Em->Prop),P ((((((Ln o).JV 6).M (((Ln o).JV 6).m.Ki (.ref j))).IW).sgn [45,45,45] true false false).JV 9)->P (((Ln o).JV 6).doc j):=λP h=>by
  unfold Em.doc
  show P ((bif o.IL.truth then _ else _:Em).JV 9)
  rw[oo.IL];exact h
 refine⟨⟨hr (λe=>e.o=o) rfl,hr (λe=>e.c.indent=.nul) rfl,hr (λe=>e.c.lvl=0) rfl,hr (λe=>e.k.ID=[]) rfl,hr (λe=>e.k.IC=[]) rfl,?_,?_,?_,?_,mf _,mi _,mi _⟩,hr (λe=>MC e) ⟨rfl,rfl,rfl,rfl⟩,hr (λe=>e.k.state=.IA 9 2) rfl⟩
 ·rw[hw];exact⟨rfl,rfl,rfl,rfl⟩
 ·rw[hw];decide
 ·rw[hw];decide
 ·rw[hw];decide
theorem zk{st:St}{v w:V}{j:Nat×Nat×List (Nat×V)}(h:cC st v=some j)(hw:j.2.2.lookup n=some w):ia n v st=some w:=by
 cases v with
 | ref i=>
  show Option.or none (((cC st (.ref i)).bind λp=>p.2.2.lookup n).or _)=_
  rw[h]
  show Option.or none ((j.2.2.lookup n).or _)=_
  rw[hw];rfl
 | _=>exact nomatch h
theorem KL{c:Cx}{ns:List Nat}{e:E}{l:List V}{st II:St}{v:V}(h:IK c e l st=some (v,II)):Ja c (.asg ns e) l st=some (.next,gK l v ns,II):=kh (Option.map _) h
theorem jd{c:Cx}{k:Nat}{a as:E}{l:List V}{st s1 s2:St}{q i:Nat}{R:List Ob}{f:Fn}{vs ws:List V}{v:V}{R':List Ob}{cl:Nat}{fs:List (Nat×V)}(ha:IK c a l st=some (.em q i,s1))(hR1:s1.Jf[q]?=some R)(hi:R[i]?=some (.ins cl fs))(hf:c.fns[k]?=some f)(hown:f.own=cl)(NB:(fs.lookup k).isNone=true)
  (has:Kq c as l s1=some ((vs,[]),s2)) (hl:aM f (.ref i::vs) []=some ws) (LP:vs.all N4=true) (hR:s2.Jf[q]?=some R) (hc:c.IG k ws ⟨R,[]⟩=some (v,⟨R',[]⟩)) (hy:N4 v=true) :
  IK c (.Kr k a as) l st=some (v,{ s2 with Jf:=s2.Jf.set q R'}):=by
 have hE:Ls s1 (.em q i)=some ((q,i),cl,fs):=Iz (a:=(q,i)) rfl (Iz hR1 (Iz hi rfl))
 have hm:uF c k (.em q i) s1=some (f,q,i):=Iz hE (Iz hf (bQ (by show(f.own==cl&&(fs.lookup k).isNone)=true;rw[hown,NB,beq_self_eq_true];rfl)))
 refine Iz ha (Iz hm (Iz has (Iz hl (Iz (a:=()) (bQ ?_) (Iz hR (Iz hc (bQ ?_)))))))
 ·show(vs.all N4&&true)=true
  rw[LP];rfl
 ·show(N4 v&&true)=true
  rw[hy];rfl
noncomputable def Fg:S:=.cons (.expr (.Kr 0 JR (.pos I9 .nil))) .nil
theorem gv{st:St}{j i:Nat}{vs:List V}(h:st.cur[j]?=some (.lst vs)):itemAt (.ref j) st i=some (vs[i]?):=by
 show(Option.or none (Option.map _ (aP st (.ref j))))=_
 rw[av h];rfl
theorem sR{α:Type}{l:List α}{q:Nat}{a:α}(h:l[q]?=some a):l.set q a=l:=by
 obtain⟨hi,rfl⟩:=kj h
 exact List.set_getElem_self hi
theorem yf{j q:Nat}{a b c e:V}(rest:List V):∀{R R':List Ob}{pre:List V}{st:St}{x:V}{n:Nat},MS rest R R'->(∀v∈rest,JY v)->st.cur[j]?=some (.lst (pre++rest))->st.Jf[q]?=some R->rest.length < n->
  ∀{P:Prop},(∀x',cQ 5 (itemAt (.ref j)) (Ja (IH 90) Fg) n pre.length [a,b,c,e,.em q 2,x] st=some (.next,[a,b,c,e,.em q 2,x'],{ st with Jf:=st.Jf.set q R'})->P)->P:=by
 induction rest with
 | nil=>
  intro R R' pre st x n hF _ hj hR hn P post
  obtain rfl:R'=R:=hF
  obtain⟨n,rfl⟩:=fo hn
  exact post x (Iz (gv hj) (by rw[List.getElem?_eq_none (by rw[mh];exact mf _),sR hR]))
 | cons v rest ih=>
  intro R R' pre st x n hF hv hj hR hn P post
  cases n with
  | zero=>exact absurd hn (Nat.not_lt_zero _)
  | succ n=>
   obtain⟨⟨fs,h2,h0⟩,R1,hc,hF⟩:=hF
   obtain⟨k,f,rfl,_⟩:=hv v (.head _)
   refine ih (pre:=pre++[.rc k f]) (st:={ st with Jf:=st.Jf.set q R1}) (x:=.rc k f) (n:=n) hF (λv h=>hv v (.tail _ h)) (by show st.cur[j]?=_;rw[hj,lu];rfl) (List.getElem?_set_self (kj hR).1) (Nat.lt_of_succ_lt_succ hn) λx' e1=>post x' (Iz (gv hj) ?_)
   rw[List.getElem?_append_right (mf _),Nat.sub_self]
   refine Iz (go (kh (Option.map _) (jd (f:=QO) (q:=q) (i:=2) (s1:=st) (s2:=st) (vs:=[.rc k f]) rfl hR h2 (by rw[cK];rfl) rfl h0 rfl rfl rfl hR hc rfl)) rfl) (ky (as:=pre) (bs:=[V.rc k f])▸e1.trans ?_)
   exact kh (λl=>some (Ly.next,[a,b,c,e,.em q 2,x'],(⟨st.cur,l⟩:St))) (List.set_set ..)
structure Rd(R:List Ob)(t:Tx)(fs gs:List (Nat×V))(k:Nat)(ts:List Tx):Prop where
 em:R[2]?=some (.ins 0 fs)
 str:fs.lookup 64=some (.ref 0)
 rw:R[0]?=some (.ins 1 gs)
 no:(gs.lookup 58).isNone=true
 rows:gs.lookup 107=some (.ref k)
 lst:R[k]?=some (.lst (bF ts))
 tx:ts.flatten=t
 ln:t.length<=IU
theorem zX{e:Em}{g:List Ob}{t:Tx}(h:e.w.rows.flatten=t)(hl:t.length<=IU):Rd (Iy e g).cur t (L6 e) [(107,.ref 1)] 1 e.w.rows:=⟨rfl,rfl,rfl,rfl,rfl,rfl,h,hl⟩
theorem qk{R:List Ob}{t:Tx}{fs gs:List (Nat×V)}{k:Nat}{ts:List Tx}(h:Rd R t fs gs k ts):(IH 90).IG 58 [.ref 0] ⟨R,[]⟩=some (.s t,⟨R,[]⟩):=by
 have e1:Ep 89 (.u1 (.Jn 107) I0) [.ref 0] ⟨R,[]⟩ (.ref k):=by
  refine Iz (a:=(.ref 0,⟨R,[]⟩)) rfl ?_
  show(ia 107 (.ref 0) ⟨R,[]⟩).map _=_
  rw[zk (j:=(0,1,gs)) (d3 h.rw) h.rows];rfl
 have hm:∀ts:List Tx,(bF ts).mapM aQ=some ts:=λts=>by
  induction ts with
  | nil=>rfl
  | cons t ts ih=>
   unfold bF at ih ⊢
   rw[List.map_cons,List.mapM_cons]
   show((List.mapM aQ (ts.map λt=>V.b (.str t))).bind λk=>some (t::k))=_
   rw[ih];rfl
 have e2:Ep 89 (.u1 .join (.u1 (.Jn 107) I0)) [.ref 0] ⟨R,[]⟩ (.s t):=by
  refine Iz e1 (Iz (av h.lst) (Iz (hm ts) ?_))
  have hl:=h.ln
  rw[<- h.tx]at hl ⊢
  exact bQ (decide_eq_true hl)
 exact ap (d:=89) (f:=yn) rfl (aR e2 _) rfl
noncomputable def kwT:E:=match CB with | .cons (.asg _ (.Lj _ _ as)) _=>as | _=>.nil
noncomputable def stm:List V:=[MB,Ld]
theorem mD{st:St}{i j:Nat}{xs ys:List V}(h:st.cur[i]?=some (.lst xs))(k:st.cur[j]?=some (.lst ys))(hl:xs.length+ys.length<=IU):f2 (.bin .add) (.ref i) (.ref j) st=some (alloc st (.lst (xs++ys))):=by
 show(Option.or none ((aP st (.ref i)).bind λp=>(aP st (.ref j)).bind λq=>_))=_
 rw[av h,av k]
 show Option.or none (ag (decide (xs.length+ys.length<=IU)) _)=_
 rw[decide_eq_true hl];rfl
theorem aN(st:St)(o:Ob):(alloc st o).2.cur[st.cur.length]?=some o:=by
 show(st.cur++[o])[st.cur.length]?=_
 rw[List.getElem?_append_right (mf _),Nat.sub_self];rfl
theorem cM{st:St}{o:Ob}{k:Nat}(h:k < st.cur.length):(alloc st o).2.cur[k]?=st.cur[k]?:=List.getElem?_append_left h
theorem gY{st:St}{t:Nat}{o:Ob}(h:st.cur[t]?=some o):t < st.cur.length:=(kj h).1
theorem aG{st:St}{o p:Ob}{k:Nat}(h:st.cur[k]?=some p):(alloc st o).2.cur[k]?=some p:=(cM (gY h)).trans h
theorem bj(st:St)(o:Ob):(alloc st o).2.cur.length=st.cur.length+1:=by show(st.cur++[o]).length=_;rw[ky];rfl
noncomputable def nu(u:Bool)(s w:Int):List Ob:=(Iy ((Ln ⟨.b .nul,.nul,.bool u,eu (.int s),jf (eu (.int s)) (.int w),[10]⟩).take Kl []) [jG]).cur
structure Old(st II:St):Prop where
 ln:st.cur.length<=II.cur.length
 at':∀k,k < st.cur.length->II.cur[k]?=st.cur[k]?
theorem iM{st:St}{j:Nat}{s w:Int}{u:Bool}{row:List V}{R':List Ob}{t:Tx}{fs gs:List (Nat×V)}{k:Nat}{ts:List Tx}(hj:st.cur[j]?=some (.lst row))(hv:∀v∈row,JY v)(hn:row.length<=290)
  (hF:MS (MB::Ld::(row++Jc)) (nu u s w) R') (hR:Rd R' t fs gs k ts) {P:Prop} (post:∀s',(IH 91).IG 66 [.ref j,.i s,.i w,.o u] st=some (.s t,s')->Old st s'->P):P:=by
 let L (a b:V):List V:=[.ref j,.i s,.i w,.o u,a,b]
 let s1:St:={ st with Jf:=st.Jf++[nu u s w]}
 let q:=st.Jf.length
 have e1:Ev 90 (.Lj 59 60 kwT) (L .uu .uu) st (.em q 2) s1:=by
  refine Iz (a:=B7) rfl (Iz (a:=[.ref 0]) rfl (Iz (a:=(.b .nul,⟨[.ins 1 [(107,.ref 1)],.lst []],[]⟩)) (by kernel_rfl) (Iz (a:=()) rfl (Iz (a:=(([],[(3,.i s),(4,.i w),(5,.o u)]),st)) (by kernel_rfl) ?_))))
  refine Iz (a:=ym) rfl (Iz (a:=dN .nul (.bool u) (.int s) (.int w) .nul) (by kernel_rfl) (Iz (a:=()) (by kernel_rfl) ?_))
  refine Iz (qO 89 .nul (.bool u) (.int s) (.int w) .nul rfl rfl (.inl rfl)) ?_
  exact bQ rfl
 let s2:=(alloc s1 (.lst stm)).2
 let s3:=(alloc s2 (.lst (stm++row))).2
 let s4:=(alloc s3 (.lst Jc)).2
 let s5:=(alloc s4 (.lst ((stm++row)++Jc))).2
 have lim:∀n,n<=300->n<=IU:=λn h=>kg h (by decide)
 have l2:s2.cur.length=st.cur.length+1:=bj s1 _
 have l3:s3.cur.length=st.cur.length+1+1:=(bj s2 _).trans (kh (·+1) l2)
 have l4:s4.cur.length=st.cur.length+1+1+1:=(bj s3 _).trans (kh (·+1) l3)
 have l5:s5.cur.length=st.cur.length+1+1+1+1:=(bj s4 _).trans (kh (·+1) l4)
 have a2:Ev 90 C5 (L (.em q 2) .uu) s1 (.ref st.cur.length) s2:=Iz (a:=((stm,[]),s1)) (by kernel_rfl) (bQ (by show(true&&decide (2<=IU))=true;decide +kernel))
 have a3:Ev 90 (.b2 (.bin .add) C5 I0) (L (.em q 2) .uu) s1 (.ref s2.cur.length) s3:=
  Iz a2 (Iz (a:=(.ref j,s2)) rfl (mD (aN s1 _) (aG (st:=s1) hj) (lim _ (by show 2+row.length<=300;omega))))
 have a4:Ev 90 C4 (L (.em q 2) .uu) s3 (.ref s3.cur.length) s4:=Iz (a:=((Jc,[]),s3)) (by kernel_rfl) (bQ (by show(true&&decide (2<=IU))=true;decide +kernel))
 have a5:=Iz (f:=λr=>(IK (IH 90) C4 (L (.em q 2) .uu) r.2).bind λp=>f2 (.bin .add) r.1 p.1 p.2) a3 (Iz a4 (mD (aG (aN s2 _)) (aN s3 _) (lim _ (by rw[ky];show 2+row.length+2<=300;omega))))
 have hR1:s5.Jf[q]?=some (nu u s w):=by
  show(st.Jf++[nu u s w])[st.Jf.length]?=_
  rw[List.getElem?_append_right (mf _),Nat.sub_self];rfl
 have OC:∀v∈MB::Ld::(row++Jc),JY v:=λv h=>by
  rcases kq h with rfl | h
  ·exact⟨_,_,rfl,by decide⟩
  ·rcases kq h with rfl | h
   ·exact⟨_,_,rfl,by decide⟩
   ·rcases mx h with h | h
    ·exact hv v h
    ·rcases kq h with rfl | h
     ·exact⟨_,_,rfl,by decide⟩
     ·obtain rfl:=ku h;exact⟨_,_,rfl,by decide⟩
 refine yf (j:=s4.cur.length) (q:=q) (a:=.ref j) (b:=.i s) (c:=.i w) (e:=.o u) (pre:=[]) (st:=s5) (x:=.uu) (n:=400) _ hF OC (aN s4 _) hR1 (by rw[List.length_cons,List.length_cons,ky];show row.length+2+1+1 < 400;omega) λx' e2=>?_
 let s6:St:={ s5 with Jf:=s5.Jf.set q R'}
 have e3:Es 90 (Lo (ak 1 CB)) (L (.em q 2) .uu) s1 (L (.em q 2) x') s6:=Iz a5 (by rw[ew];exact e2)
 have hR2:s6.Jf[q]?=some R':=List.getElem?_set_self (kj hR1).1
 have e4:Ep 90 (.u1 (.Jn 64) JR) (L (.em q 2) x') s6 (.em q 0):=by
  refine Iz (a:=(.em q 2,s6)) rfl ?_
  show(ia 64 (.em q 2) s6).map _=_
  have hE:Ls s6 (.em q 2)=some ((q,2),0,fs):=Iz (a:=(q,2)) rfl (Iz hR2 (Iz hR.em rfl))
  rw[show ia 64 (.em q 2) s6=some (.em q 0) from by
   show Option.or none (Option.or none ((Ls s6 (.em q 2)).bind _))=_
   rw[hE]
   show Option.or none (Option.or none ((fs.lookup 64).bind _))=_
   rw[hR.str];rfl];rfl
 have e5:=jd (c:=IH 90) (k:=58) (as:=.nil) (f:=yn) (q:=q) (i:=0) (s2:=s6) (vs:=[]) e4 hR2 hR.rw (by rw[cK];rfl) rfl hR.no rfl rfl rfl hR2 (qk hR) rfl
 refine post _ (ap (d:=90) (f:=uS) rfl (go (KL e1) (go e3 (aR e5 _))) rfl) ⟨?_,?_⟩
 ·show st.cur.length<=s5.cur.length
  rw[l5];omega
 ·intro k hk
  show s5.cur[k]?=st.cur[k]?
  have b1:k < s2.cur.length:=by rw[l2];omega
  have b2:k < s3.cur.length:=by rw[l3];omega
  have b3:k < s4.cur.length:=by rw[l4];omega
  exact(cM b3).trans ((cM b2).trans ((cM b1).trans (cM (st:=s1) hk)))
theorem tf{st:St}{t:Nat}{o:Ob}(h:t < st.cur.length):(dK st t o).cur[t]?=some o:=List.getElem?_set_self h
theorem te{st:St}{t k:Nat}{o:Ob}(h:t≠k):(dK st t o).cur[k]?=st.cur[k]?:=List.getElem?_set_ne h
structure Kx(X:List Nat)(st II:St):Prop where
 Jf:II.Jf=st.Jf
 ln:st.cur.length<=II.cur.length
 at':∀k,k < st.cur.length->k ∉ X->II.cur[k]?=st.cur[k]?
theorem Kx.rfl{X:List Nat}{st:St}:Kx X st st:=⟨Eq.refl _,mf _,λJ J J=>Eq.refl _⟩
theorem Kx.trans{X:List Nat}{st s1 s2:St}(a:Kx X st s1)(b:Kx X s1 s2):Kx X st s2:=⟨b.Jf.trans a.Jf,kg a.ln b.ln,λk h h'=>(b.at' k (li h a.ln) h').trans (a.at' k h h')⟩
theorem Kx.alloc(X:List Nat)(st:St)(o:Ob):Kx X st (alloc st o).2:=⟨Eq.refl _,by rw[bj];exact mw _,λk h J=>cM h⟩
theorem Kx.put{X:List Nat}{t:Nat}(h:t∈X)(st:St)(o:Ob):Kx X st (dK st t o):=⟨Eq.refl _,lx List.length_set.symm,λk hk hx=>te λe=>hx (e▸h)⟩
theorem Kx.sub{X Y:List Nat}{st s1:St}(a:Kx X st s1)(h:X ⊆ Y):Kx Y st s1:=⟨a.Jf,a.ln,λk hk hx=>a.at' k hk λh'=>hx (h h')⟩
theorem Kx.keep{X:List Nat}{st s1:St}(a:Kx X st s1){k:Nat}{o:Ob}(h:st.cur[k]?=some o)(hx:k ∉ X):s1.cur[k]?=some o:=(a.at' k (gY h) hx).trans h
theorem Kx.drop{X:List Nat}{c:Nat}{st s1 s2:St}(a:Kx X st s1)(b:Kx (c::X) s1 s2)(h:st.cur.length<=c):Kx X st s2:=⟨b.Jf.trans a.Jf,kg a.ln b.ln,λk hk hx=>(b.at' k (li hk a.ln) λh'=>(kq h').elim (λe=>absurd hk (Nat.not_lt_of_le (e▸h))) hx).trans (a.at' k hk hx)⟩
theorem jQ{st:St}{j:Nat}{vs:List V}{k:Int}{v:V}(h:st.cur[j]?=some (.lst vs))(h0:0<=k)(hv:vs[k.toNat]?=some v):f2 .idx (.ref j) (.i k) st=some (v,st):=jR (av h) h0 hv
noncomputable def JS(l:List Int):List V:=l.map λn=>.i n
theorem fC(d:Nat){st:St}{t:Nat}{l:List Int}(h:st.cur[t]?=some (.lst (JS l))){P:Prop}(post:∀s1,(IH (d+1)).IG 62 [.ref t] st=some (.i (l.headD 0),s1)->s1.cur[t]?=some (.lst (JS l.tail))->Kx [t] st s1->P):P:=by
 have ht:truth st (.ref t)=some (!(JS l).isEmpty):=dW (av h)
 have e:=bK (c:=IH d) (t:=.n0 (.loc 0)) (a:=.u1 (.pop true) I0) (b:=.n0 (.cst (.int 0))) (l:=[.ref t]) (st:=st) (s1:=st) (v:=.ref t) rfl ht
 cases l with
 | nil=>exact post st (ap rfl (aR (e.trans rfl) _) rfl) h .rfl
 | cons x l=>
  refine post (dK st t (.lst (JS l))) (ap rfl (aR (e.trans ?_) _) rfl) (tf (gY h)) (.put (.head _) st _)
  show(Option.bind (aP st (.ref t)) _)=_
  rw[av h];rfl
theorem dg(k:Int){m:Int}(h:0 < m):0<=k.fmod m/\k.fmod m < m:=⟨Int.fmod_nonneg_of_pos k h,Int.fmod_lt_of_pos k h⟩
noncomputable def pcB:E:=.u1 .O9 I92
theorem qq:(dz.all λt=>decide (t.length<=8)&&t.all λc=>v6.contains c)=true:=by decide +kernel
theorem tv(n:Int):∃t,dz[(n.fmod 19).toNat]?=some t/\t.length<=8/\AL t:=by
 obtain⟨h0,h1⟩:=dg n (m:=19) (by decide)
 have hl:(n.fmod 19).toNat < dz.length:=by show _ < 19;omega
 refine⟨_,kx hl,?_⟩
 have:=mc qq _ (List.getElem_mem hl)
 have h2:=ma this
 exact⟨km h2.1,λc hc=>List.contains_iff_mem.mp (mc h2.2 c hc)⟩
theorem Bm{c:Cx}{st:St}{k:Int}{p:Tx}(h:0<=k)(hp:dz[k.toNat]?=some p):f1 c .O9 (.i k) st=some (.s p,st):=by
 show(ag (decide (0<=k)) ()).bind (λJ=>(dz[k.toNat]?).map λt=>(V.b (.str t),st))=_
 rw[decide_eq_true h,hp];rfl
theorem Bn(d:Nat){st:St}{t:Nat}{l:List Int}(x:V)(h:st.cur[t]?=some (.lst (JS l))){P:Prop}(post:∀s1 p,IK ((IH (d+1)).cell (.ref t)) pcB [x] st=some (.s p,s1)->p.length<=8->AL p->s1.cur[t]?=some (.lst (JS l.tail))->Kx [t] st s1->P):P:=
 fC d h λs1 h1 h2 h3=>by
  obtain⟨p,e1,e2,e3⟩:=tv (l.headD 0)
  have e4:IK ((IH (d+1)).cell (.ref t)) (.Jj 62 (.pos (.n0 .NF) .nil)) [x] st=some (.i (l.headD 0),s1):=aX (c:=(IH (d+1)).cell (.ref t)) (f:=uU) (vs:=[.ref t]) (ws:=[.ref t]) rfl rfl rfl rfl h1
  have e5:IK ((IH (d+1)).cell (.ref t)) I92 [x] st=some (.i ((l.headD 0).fmod 19),s1):=Iz e4 rfl
  exact post s1 p (Iz e5 (Bm (dg _ (m:=19) (by decide)).1 e1)) e2 e3 h2 h3
theorem xu(d:Nat)(t:Nat)(N:Int):∀(q i fuel:Nat)(acc:List V)(st:St)(l:List Int),N=((i+q:Nat):Int)->q < fuel->acc.length+q<=IU->st.cur[t]?=some (.lst (JS l))->∀{P:Prop},(∀(ts:List Tx) s1 l',eg (dY N) (λx st=>IK ((IH (d+1)).cell (.ref t)) pcB [x] st) fuel i st acc=some (acc++bF ts,s1)->ts.length=q->(∀p∈ts,p.length<=8/\AL p)->s1.cur[t]?=some (.lst (JS l'))->l'.length<=l.length->Kx [t] st s1->P)->P:=by
 intro q
 induction q with
 | zero=>
  intro i fuel acc st l hN hf hl h P post
  obtain⟨f,rfl⟩:=fo hf
  refine post [] st l (Iz (a:=none) (kh some (if_neg (by rw[hN];omega))) ?_) rfl (λp hp=>absurd hp mn) h (mf _) .rfl
  show ag (decide (acc.length<=IU)) _=_
  rw[decide_eq_true (show acc.length<=IU from hl)]
  exact kh (λa=>some (a,st)) (mh acc).symm
 | succ q ih=>
  intro i fuel acc st l hN hf hl h P post
  obtain⟨f,rfl⟩:∃f,fuel=f+1:=⟨fuel - 1,(Nat.sub_add_cancel (lj (mi _) hf)).symm⟩
  refine Bn d (.i i) h λs1 p h1 h2 h3 h4 h5=>?_
  refine ih (i+1) f (acc++[.s p]) s1 l.tail (by rw[hN];omega) (Nat.lt_of_succ_lt_succ hf) (by rw[ky];show acc.length+1+q<=IU;omega) h4 λts s2 l' k1 k2 k3 k4 k5 k6=>?_
  refine post (p::ts) s2 l' (Iz (a:=some (.i i)) (kh some (if_pos (by rw[hN];omega))) (Iz h1 (Iz (a:=()) rfl (k1.trans ?_)))) (kh (·+1) k2) (λx hx=>?_) k4 (kg k5 (by rw[List.length_tail];exact Nat.sub_le _ _)) (h5.trans k6)
  ·rw[lu];rfl
  ·rcases kq hx with rfl | hx
   ·exact⟨h2,h3⟩
   ·exact k3 x hx
theorem mL:∀ts:List Tx,(bF ts).mapM aQ=some ts:=λts=>by
 induction ts with
 | nil=>rfl
 | cons t ts ih=>
  unfold bF at ih ⊢
  rw[List.map_cons,List.mapM_cons]
  show((List.mapM aQ (ts.map λt=>V.b (.str t))).bind λk=>some (t::k))=_
  rw[ih];rfl
theorem ye{ts:List Tx}(h:∀p∈ts,p.length<=8/\AL p):ts.flatten.length<=8*ts.length/\AL ts.flatten:=by
 induction ts with
 | nil=>exact⟨mf _,λc hc=>absurd hc mn⟩
 | cons t ts ih=>
  obtain⟨h1,h2⟩:=ih λp hp=>h p (.tail _ hp)
  obtain⟨h3,h4⟩:=h t (.head _)
  refine⟨?_,λc hc=>?_⟩
  ·rw[List.flatten_cons,ky,List.length_cons];omega
  ·rw[List.flatten_cons]at hc
   exact(mx hc).elim (h4 c) (h2 c)
noncomputable def Cv:E:=match CE with | .cons (.asg _ (.u1 _ (.comp s _))) _=>s | _=>.nil
theorem wA(d:Nat){st:St}{t:Nat}{l:List Int}{n:Int}(y1 y2 y3:V)(h:st.cur[t]?=some (.lst (JS l))){P:Prop}(post:∀s1 v l',IK ((IH (d+1)).cell (.ref t)) (.u1 .join (.comp Cv pcB)) [.i n,y1,y2,y3] st=some (.s v,s1)->v.length<=24->AL v->s1.cur[t]?=some (.lst (JS l'))->l'.length<=l.length->Kx [t] st s1->P):P:=by
 obtain⟨h0,h1⟩:=dg (n.fdiv 24) (m:=3) (by decide)
 have e1:IK ((IH (d+1)).cell (.ref t)) Cv [.i n,y1,y2,y3] st=some (.i (1+(n.fdiv 24).fmod 3),st):=rfl
 obtain⟨q,hq⟩:=Int.eq_ofNat_of_zero_le (show 0<=1+(n.fdiv 24).fmod 3 by omega)
 have Pq:q<=3:=by omega
 refine xu d t (1+(n.fdiv 24).fmod 3) q 0 400 [] st l (by rw[hq];exact kh Int.ofNat (Nat.zero_add q).symm) (by omega) (by show 0+q<=IU;exact kg (by omega:0+q<=3) (by decide)) h λts s1 l' k1 k2 k3 k4 k5 k6=>?_
 obtain⟨f1,f2⟩:=ye k3
 have hl:ts.flatten.length<=24:=by rw[k2]at f1;omega
 have e2:IK ((IH (d+1)).cell (.ref t)) (.comp Cv pcB) [.i n,y1,y2,y3] st=some (alloc s1 (.lst (bF ts))):=by
  refine Iz e1 (Iz (a:=1+(n.fdiv 24).fmod 3) rfl (Iz (a:=()) (bQ ?_) ?_))
  ·rw[decide_eq_true (show(-1000000:Int)<=1+(n.fdiv 24).fmod 3 by omega),decide_eq_true (show 1+(n.fdiv 24).fmod 3<=(1000000:Int) by omega)];rfl
  ·show(eg _ _ 400 0 st []).map _=_
   rw[k1];rfl
 refine post (alloc s1 (.lst (bF ts))).2 ts.flatten l' (Iz e2 (Iz (av (aN s1 _)) (Iz (mL ts) (bQ (decide_eq_true (kg hl (by decide))))))) hl f2 (aG k4) k5 (k6.trans (.alloc _ _ _))
noncomputable def pR:List B:=[.nul,.str [39],.str [34],.str [124],.str [62],.str []]
noncomputable def fT(n:Int):B:=(pR[(n.fmod 6).toNat]?).getD .nul
theorem se(n:Int):pR[(n.fmod 6).toNat]?=some (fT n)/\dH (fT n):=by
 obtain⟨h0,h1⟩:=dg n (m:=6) (by decide)
 unfold fT
 have:(n.fmod 6).toNat=0∨(n.fmod 6).toNat=1∨(n.fmod 6).toNat=2∨(n.fmod 6).toNat=3∨(n.fmod 6).toNat=4∨(n.fmod 6).toNat=5:=by omega
 rcases this with h | h | h | h | h | h <;> rw[h]
 ·exact⟨rfl,.inl rfl⟩
 ·exact⟨rfl,.inr (.inr ⟨_,rfl⟩)⟩
 ·exact⟨rfl,.inr (.inr ⟨_,rfl⟩)⟩
 ·exact⟨rfl,.inr (.inr ⟨_,rfl⟩)⟩
 ·exact⟨rfl,.inr (.inr ⟨_,rfl⟩)⟩
 ·exact⟨rfl,.inr (.inl rfl)⟩
noncomputable def cq(n:Int):Int:=(n.fdiv 6).fmod 4
noncomputable def rD(n:Int):B:=bif cq n==2 then .str [97,49] else .nul
noncomputable def M7(n:Int):B:=bif cq n==3 then .str [33,116] else .nul
noncomputable def Qa(n:Int):Bool:=cq n==0||cq n==1
noncomputable def P9(n:Int):Bool:=cq n==0||cq n==2
theorem M5(n:Int):cq n=0∨cq n=1∨cq n=2∨cq n=3:=by
 obtain⟨h0,h1⟩:=dg (n.fdiv 6) (m:=4) (by decide)
 unfold cq;omega
theorem Fz:dm (.str [97,49]):=.inr ⟨_,rfl,⟨λh=>(nomatch h),by decide +kernel⟩,by decide⟩
theorem r8{c:Nat}(h:oF c=true):JK (.str [33,c]):=.inr ⟨_,rfl,.inr ⟨c,rfl,h⟩⟩
theorem Bg{n:Int}{v:Tx}(hl:v.length<=24)(ha:AL v):iH (rD n) (M7 n) (Qa n) (P9 n) v (fT n):=by
 refine ha.ok hl ?_ ?_ (se n).2 ?_
 ·unfold rD;cases cq n==2;exact .inl rfl;exact Fz
 ·unfold M7;cases cq n==3;exact .inl rfl;exact r8 (by decide)
 ·intro h
  rcases M5 n with k | k | k | k <;> unfold M7 at h <;> unfold Qa P9 <;> rw[k]at h ⊢
  ·rfl
  ·rfl
  ·rfl
  ·exact absurd h jm
noncomputable def GD:E:=match Fj with | .cons (.ret e) _=>e | _=>.nil
theorem wN(c:Cx)(l:St):IK c GD [] l=some (.ref l.cur.length,(alloc l (.lst (pR.map V.b))).2):=Iz (a:=((pR.map V.b,[]),l)) rfl (bQ (by show(true&&decide (6<=IU))=true;decide +kernel))
theorem ri{d k:Nat}{f:Fn}{vs:List V}{st II:St}{v:V}{l:List V}(hf:eR[k]?=some f)(hc:f.cl=true)(h:Ja ((IH d).cell (vs.headD .uu)) f.body (vs.tail++List.replicate (f.slots.length - f.Jg) .uu) st=some (.ret v,l,II))(hv:ab v=false):(IH (d+1)).IG k vs st=some (v,II):=
 Iz (by rw[cK];exact hf) (Iz (by rw[hc];exact h) (by show(ag (!ab v) v).map _=_;rw[hv];rfl))
theorem aD{c:Cx}{e r:E}{l:List V}{st s1 s2:St}{v:V}{vs:List V}{ks:List (Nat×V)}(h:IK c e l st=some (v,s1))(h':Kq c r l s1=some ((vs,ks),s2)):Kq c (.pos e r) l st=some ((v::vs,ks),s2):=Iz h (by rw[h'];rfl)
theorem BJ{c:Cx}{k:Nat}{e r:E}{l:List V}{st s1 s2:St}{v:V}{ks:List (Nat×V)}(h:IK c e l st=some (v,s1))(h':Kq c r l s1=some (([],ks),s2)):Kq c (.kw k e r) l st=some (([],(k,v)::ks),s2):=Iz h (Iz h' rfl)
noncomputable def jj(d k:Nat)(as:List V)(t:Nat)(l:List Int)(st:St)(B:Nat):Prop:=∀{P:Prop},(∀r vs s1 l',(IH d).IG k as st=some (.ref r,s1)->s1.cur[r]?=some (.lst vs)->st.cur.length<=r->NP vs->(∀v∈vs,JY v)->vs.length<=B->s1.cur[t]?=some (.lst (JS l'))->l'.length<=l.length->Kx [t] st s1->P)->P
theorem qj(d:Nat){st:St}{t:Nat}{l:List Int}{n:Int}(h:st.cur[t]?=some (.lst (JS l))):jj (d+2) 63 [.ref t,.i n] t l st 1:=by
 intro P post
 refine wA d (n:=n) .uu .uu .uu h λs1 v l' h1 h2 h3 h4 h5 h6=>?_
 let c:=(IH (d+1)).cell (.ref t)
 let L (a b e:V):List V:=[.i n,a,b,e]
 have t1:IK c (.b2 (.bin .mod) (.b2 (.bin .fdiv) I0 I76) Oh) (L (.s v) .uu .uu) s1=some (.i (cq n),s1):=rfl
 let prs:List V:=[.b (.bb true true),.b (.bb true false),.b (.bb false true),.b (.bb false false)]
 let s2:=(alloc s1 (.lst prs)).2
 have t2:IK c Gy (L (.s v) (.i (cq n)) .uu) s1=some (.b (.bb (Qa n) (P9 n)),s2):=by
  refine Iz (a:=(.ref s1.cur.length,s2)) (Iz (a:=((prs,[]),s1)) rfl (bQ (by show(true&&decide (4<=IU))=true;decide +kernel))) (Iz (a:=(.i (cq n),s2)) rfl (jQ (aN s1 _) ?_ ?_))
  ·rcases M5 n with k | k | k | k <;> rw[k] <;> decide
  ·unfold Qa P9
   rcases M5 n with k | k | k | k <;> rw[k] <;> rfl
 let s3:=(alloc s2 (.lst (pR.map V.b))).2
 have t3:∀l:St,(IH (d+1)).IG 61 [] l=some (.ref l.cur.length,(alloc l (.lst (pR.map V.b))).2):=λl=>ap (d:=d) (f:=yl) (l:=[]) rfl (aR (wN _ l) _) rfl
 have t4:IK c C1 (L (.s v) (.i (cq n)) (.b (.bb (Qa n) (P9 n)))) s2=some (.b (fT n),s3):=by
  refine Iz (aX (c:=c) (f:=yl) (vs:=[]) (ws:=[]) rfl rfl rfl rfl (t3 s2)) (Iz (a:=(.i (n.fmod 6),s3)) rfl (jQ (aN s2 _) (dg n (m:=6) (by decide)).1 ?_))
  rw[List.getElem?_map,(se n).1];rfl
 let ev:=LV (rD n) (M7 n) (Qa n) (P9 n) v (fT n)
 let l3:=L (.s v) (.i (cq n)) (.b (.bb (Qa n) (P9 n)))
 have q1:IK c FO l3 s2=some (.b (rD n),s2):=by
  refine(bK (v:=.o (cq n==2)) (u:=cq n==2) rfl rfl).trans ?_
  unfold rD;cases cq n==2 <;> rfl
 have q2:IK c FP l3 s2=some (.b (M7 n),s2):=by
  refine(bK (v:=.o (cq n==3)) (u:=cq n==3) rfl rfl).trans ?_
  unfold M7;cases cq n==3 <;> rfl
 have t5:IK c I21 l3 s2=some (ev,s3):=by
  have a0:Kq c (.kw 7 C1 .nil) l3 s2=some (([],[(7,.b (fT n))]),s3):=Iz t4 rfl
  refine Iz (a:=(([V.b (rD n),V.b (M7 n),V.b (.bb (Qa n) (P9 n)),V.b (.str v)],[(7,V.b (fT n))]),s3)) (aD q1 (aD q2 (aD (s1:=s2) rfl (aD (s1:=s2) rfl a0)))) rfl
 let s4:=(alloc s3 (.lst [ev])).2
 have t6:IK c (.lst (.pos I21 .nil)) l3 s2=some (.ref s3.cur.length,s4):=
  Iz (a:=(([ev],[]),s3)) (Iz t5 rfl) (bQ (by show(true&&decide (1<=IU))=true;decide +kernel))
 have body:Ja c CE (L .uu .uu .uu) st=some (.ret (.ref s3.cur.length),l3,s4):=
  go (KL h1) (go (KL t1) (go (KL t2) (aR t6 _)))
 have call:(IH (d+1+1)).IG 63 [.ref t,.i n] st=some (.ref s3.cur.length,s4):=ri (f:=yk) rfl rfl body rfl
 refine post _ [ev] s4 l' call (aN s3 _) ?_ (DK (Bg h2 h3)) (λx hx=>by obtain rfl:=ku hx;exact⟨_,_,rfl,by decide⟩) (mf _) ?_ h5 (h6.trans (((Kx.alloc _ s1 _).trans (.alloc _ s2 _)).trans (.alloc _ s3 _)))
 ·rw[bj,bj];exact kg h6.ln (by omega)
 ·exact aG (aG (aG h4))
theorem bU{c:Cx}{as:E}{l:List V}{st s1:St}{vs:List V}(h:Kq c as l st=some ((vs,[]),s1))(hl:vs.length<=10):IK c (.lst as) l st=some (.ref s1.cur.length,(alloc s1 (.lst vs)).2):=Iz h (bQ (by show(true&&decide (vs.length<=IU))=true;rw[decide_eq_true (kg hl (by decide))];rfl))
theorem Fw{a b:Nat}(h:gU a=true)(h':gU b=true):dm (.str [a,b]):=.inr ⟨_,rfl,⟨λh=>(nomatch h),λc hc=>by
 rcases kq hc with rfl | hc
 ·exact h
 ·obtain rfl:=ku hc;exact h'⟩,by show 2 < 128;decide⟩
noncomputable def Mu(n:Int):Bool:=n.fmod 2==1
noncomputable def dj(n:Int):B:=bif (n.fdiv 2).fmod 3==1 then .str [97,51] else .nul
noncomputable def bu(n:Int):B:=bif (n.fdiv 2).fmod 3==2 then .str [33,115] else .nul
theorem vq(n:Int):gj (dj n) (bu n) (isNul (bu n)):=by
 refine⟨?_,?_,λh=>by rw[h];rfl⟩
 ·unfold dj;cases (n.fdiv 2).fmod 3==1;exact .inl rfl;exact Fw (by decide) (by decide)
 ·unfold bu;cases (n.fdiv 2).fmod 3==2;exact .inl rfl;exact r8 (by decide)
noncomputable def trV(pairs:Bool)(n:Int)(ls:List (List V)):List V:=Lp (bif pairs then 12 else 10) (dj n) (bu n) (isNul (bu n)) (.bool (Mu n))::(ls.flatten++[LG pairs])
theorem AY{pairs:Bool}{n:Int}{ls:List (List V)}(h:∀l∈ls,Oe pairs l):NP (trV pairs n ls):=by
 cases pairs with
 | true=>exact z8 (vq n) h
 | false=>exact z7 (vq n) h
noncomputable def v8(d:Nat)(kd n:Int)(pairs:Bool)(t:Nat)(l:List Int)(st:St)(B:Nat):Prop:=∀{P:Prop},(∀r ls s1 l',(IH d).IG 65 [.ref t,.i kd,.i n,.o pairs] st=some (.ref r,s1)->s1.cur[r]?=some (.lst (trV pairs n ls))->st.cur.length<=r->(∀l∈ls,Oe pairs l)->ls.isEmpty=false->(∀v∈ls.flatten,JY v)->ls.flatten.length<=B->s1.cur[t]?=some (.lst (JS l'))->l'.length<=l.length->Kx [t] st s1->P)->P
theorem jO{c:Nat}{IB tag:B}{i:Bool}{f:B}(h:PE c=true):JY (Lp c IB tag i f):=⟨_,_,rfl,h⟩
theorem jN{c:Nat}(h:PE c=true):JY (JB c):=⟨_,_,rfl,h⟩
theorem zL{a b:V}(ha:JY a)(hb:JY b):∀v∈[a,b],JY v:=λv hv=>by
 rcases kq hv with rfl | hv
 ·exact ha
 ·obtain rfl:=ku hv;exact hb
noncomputable def kdI(kd n:Int):Int:=bif decide (0 < kd) then n.fmod 5 else n.fmod 3
theorem iU(d:Nat){st:St}{t:Nat}{l:List Int}{kd:Int}{B:Nat}(h:st.cur[t]?=some (.lst (JS l)))(hB:2<=B)(hT:0 < kd->∀(s1:St)(l1:List Int)(n:Int)(pairs:Bool),s1.cur[t]?=some (.lst (JS l1))->v8 (d+2) kd n pairs t l1 s1 (B - 2)):jj (d+3) 64 [.ref t,.i kd] t l st B:=by
 intro P post
 refine fC (d+1) h λs1 h1 h2 h3=>?_
 let n0:=l.headD 0
 let c:=IH (d+2)
 have J5:l.tail.length<=l.length:=by rw[List.length_tail];exact Nat.sub_le _ _
 let L (a b e:V):List V:=[.ref t,.i kd,a,b,e]
 have e1:IK c (.Jj 62 (.pos I0 .nil)) (L .uu .uu .uu) st=some (.i n0,s1):=aX (c:=c) (f:=uU) (vs:=[.ref t]) (ws:=[.ref t]) rfl rfl rfl rfl h1
 have e2:IK c Gn (L (.i n0) .uu .uu) s1=some (.i (kdI kd n0),s1):=by
  refine(bK (v:=.o (decide (0 < kd))) (u:=decide (0 < kd)) rfl rfl).trans ?_
  unfold kdI
  cases decide (0 < kd) <;> rfl
 let n:=n0.fdiv 5
 let k:=kdI kd n0
 have e3:IK c (.b2 (.bin .fdiv) J3 (.n0 (.cst (.int 5)))) (L (.i n0) (.i k) .uu) s1=some (.i n,s1):=rfl
 have q0:IK c (.b2 (.cmp .eq) J2 LL) (L (.i n) (.i k) .uu) s1=some (.o (k==2),s1):=rfl
 have q1:IK c (.b2 (.cmp .lt) J2 LL) (L (.i n) (.i k) .uu) s1=some (.o (decide (k < 2)),s1):=rfl
 have fin:∀{R:Nat×St}{l9:List V},Ja c (ak 3 CD) (L (.i n) (.i k) .uu) s1=some (.ret (.ref R.1),l9,R.2)->(IH (d+3)).IG 64 [.ref t,.i kd] st=some (.ref R.1,R.2):=λ{R l9} hr=>
  ap (d:=d+2) (f:=yj) rfl (go (KL e1) (go (KL e2) (go (KL e3) hr))) rfl
 cases Py:(k==2) with
 | true=>
  rw[Py]at q0
  let m:=n.fmod 3
  have m1:Ja c (.asg [4] (.b2 (.bin .mod) J3 OY)) (L (.i n) (.i k) .uu) s1=some (.next,L (.i n) (.i k) (.i m),s1):=rfl
  have q2:IK c (.b2 (.cmp .eq) JR I8) (L (.i n) (.i k) (.i m)) s1=some (.o (m==0),s1):=rfl
  have q3:IK c (.b2 (.cmp .eq) JR I4) (L (.i n) (.i k) (.i m)) s1=some (.o (m==1),s1):=rfl
  have done:∀{vs:List V},NP vs->(∀v∈vs,JY v)->vs.length<=2->(∃l9,Ja c (ak 3 CD) (L (.i n) (.i k) .uu) s1=some (.ret (.ref s1.cur.length),l9,(alloc s1 (.lst vs)).2))->P:=λ{vs} a1 a2 a3 a4=>by
   obtain⟨l9,a4⟩:=a4
   exact post _ vs _ l.tail (fin (R:=(s1.cur.length,(alloc s1 (.lst vs)).2)) a4) (aN s1 _) h3.ln a1 a2 (kg a3 hB) (aG h2) J5 (h3.trans (.alloc _ _ _))
  cases OJ:(m==0) with
  | true=>
   rw[OJ]at q2
   refine done (vs:=[PN (.str [110,49])]) (DL ⟨λh=>(nomatch h),by decide +kernel⟩ (by decide)) (λv hv=>by obtain rfl:=ku hv;exact⟨_,_,rfl,by decide⟩) (by show 1<=2;decide) ⟨_,J0 (ae q0 rfl (go m1 (J0 (ae q2 rfl (aR (bU (vs:=[PN (.str [110,49])]) (aD (st:=s1) (s1:=s1) (v:=PN (.str [110,49])) (by kernel_rfl) rfl) (by decide)) _)))))⟩
  | false=>
   rw[OJ]at q2
   cases Nh:(m==1) with
   | true=>
    rw[Nh]at q3
    refine done (vs:=[Lp 10 (.str [97,50]) .nul true (.bool false),JB 11]) (z7 (ls:=[]) ⟨Fw (by decide) (by decide),.inl rfl,λJ=>rfl⟩ λl hl=>absurd hl mn) (zL (jO (by decide)) (jN (by decide))) (by show 2<=2;decide) ⟨_,J0 (ae q0 rfl (go m1 (go (ac q2 rfl rfl) (J0 (ae q3 rfl (aR (bU (vs:=[Lp 10 (.str [97,50]) .nul true (.bool false),JB 11]) (aD (st:=s1) (s1:=s1) (v:=Lp 10 (.str [97,50]) .nul true (.bool false)) (by kernel_rfl) (aD (st:=s1) (s1:=s1) (v:=JB 11) (by kernel_rfl) rfl)) (by decide)) _))))))⟩
   | false=>
    rw[Nh]at q3
    refine done (vs:=[Lp 12 .nul (.str [33,109]) false (.bool false),JB 13]) (z8 (ls:=[]) ⟨.inl rfl,r8 (by decide),λh=>absurd h jm⟩ λl hl=>absurd hl mn) (zL (jO (by decide)) (jN (by decide))) (by show 2<=2;decide) ⟨_,J0 (ae q0 rfl (go m1 (go (ac q2 rfl rfl) (go (ac q3 rfl rfl) (aR (bU (vs:=[Lp 12 .nul (.str [33,109]) false (.bool false),JB 13]) (aD (st:=s1) (s1:=s1) (v:=Lp 12 .nul (.str [33,109]) false (.bool false)) (by kernel_rfl) (aD (st:=s1) (s1:=s1) (v:=JB 13) (by kernel_rfl) rfl)) (by decide)) _)))))⟩
 | false=>
  rw[Py]at q0
  cases hk:decide (k < 2) with
  | true=>
   rw[hk]at q1
   refine qj d (n:=n) h2 λr vs s2 l' a1 a2 a3 a4 a5 a6 a7 a8 a9=>?_
   have c1:IK c (.Jj 63 (.pos I0 (.pos J3 .nil))) (L (.i n) (.i k) .uu) s1=some (.ref r,s2):=aX (c:=c) (f:=yk) (vs:=[.ref t,.i n]) (ws:=[.ref t,.i n]) rfl rfl rfl rfl a1
   exact post r vs s2 l' (fin (R:=(r,s2)) (go (ac q0 rfl rfl) (J0 (ae q1 rfl (aR c1 _))))) a2 (kg h3.ln a3) a4 a5 (kg a6 (kg (by decide) hB)) a7 (kg a8 J5) (h3.trans a9)
  | false=>
   rw[hk]at q1
   have hkd:0 < kd:=by
    have h1:=of_decide_eq_false hk
    have h2:=beq_eq_false_iff_ne.mp Py
    have:k=bif decide (0 < kd) then n0.fmod 5 else n0.fmod 3:=rfl
    cases hd:decide (0 < kd) with
    | true=>exact km hd
    | false=>
     rw[hd]at this
     have h3:k=n0.fmod 3:=this
     have:=(dg n0 (m:=3) (by decide)).2
     omega
   refine hT hkd s1 l.tail n (k==4) h2 λr ls s2 l' a1 a2 a3 a4 a5 a6 a7 a8 a9 a10=>?_
   have c1:IK c Gd (L (.i n) (.i k) .uu) s1=some (.ref r,s2):=aX (c:=c) (f:=uT) (vs:=[.ref t,.i kd,.i n,.o (k==4)]) (ws:=[.ref t,.i kd,.i n,.o (k==4)]) rfl rfl rfl rfl a1
   refine post r (trV (k==4) n ls) s2 l' (fin (R:=(r,s2)) (go (ac q0 rfl rfl) (go (ac q1 rfl rfl) (aR c1 _)))) a2 (kg h3.ln a3) (AY a4) (λv hv=>?_) ?_ a8 (kg a9 J5) (h3.trans a10)
   ·rcases kq hv with rfl | hv
    ·cases (k==4) <;> exact jO (by decide)
    ·rcases mx hv with hv | hv
     ·exact a6 v hv
     ·obtain rfl:=ku hv
      cases (k==4) <;> exact jN (by decide)
   ·show(ls.flatten++[_]).length+1<=B
    rw[ky]
    show ls.flatten.length+1+1<=B
    omega
noncomputable def ndE:E:=.Jj 64 CV
noncomputable def rwS:S:=.MM 7 ndE
noncomputable def Mz(t:Nat)(kd n:Int)(pairs fl:Bool)(IB tag:B)(r0:Nat)(x:V):List V:=[.ref t,.i kd,.i n,.o pairs,.o fl,.b IB,.b tag,.ref r0,x]
section
variable{d:Nat}{t r0:Nat}{kd n:Int}{pairs fl:Bool}{IB tag:B}{K:Nat}(hn:∀(st:St)(l:List Int),st.cur[t]?=some (.lst (JS l))->jj d 64 [.ref t,.i (kd - 1)] t l st K)(hr:r0≠t)
include hn hr
theorem sY{x:V}{st:St}{l:List Int}{row:List V}(h:st.cur[t]?=some (.lst (JS l)))(h0:st.cur[r0]?=some (.lst row))(hl:row.length+K<=1000){P:Prop}(post:∀vs s1 l',Es d rwS (Mz t kd n pairs fl IB tag r0 x) st (Mz t kd n pairs fl IB tag r0 x) s1->NP vs->(∀v∈vs,JY v)->vs.length<=K->s1.cur[t]?=some (.lst (JS l'))->l'.length<=l.length->s1.cur[r0]?=some (.lst (row++vs))->Kx [r0,t] st s1->P):P:=by
 refine hn st l h λr vs s1 l' a1 a2 a3 a4 a5 a6 a7 a8 a9=>?_
 have e1:Ev d ndE (Mz t kd n pairs fl IB tag r0 x) st (.ref r) s1:=aX (c:=IH d) (f:=yj) (vs:=[.ref t,.i (kd - 1)]) (ws:=[.ref t,.i (kd - 1)]) rfl (by rw[cK];rfl) rfl rfl a1
 have b0:s1.cur[r0]?=some (.lst row):=a9.keep h0 (λhx=>hr (ku hx))
 have Kg:r0≠r:=λe=>Nat.lt_irrefl _ (li (gY h0) (e▸a3))
 refine post vs (dK s1 r0 (.lst (row++vs))) l' (Iz (a:=.ref r0) rfl (Iz (av h0) (Iz e1 (Iz (av b0) (Iz (av a2) (bQ ?_)))))) a4 a5 a6 ((te hr).trans a7) a8 (tf (gY b0)) ((a9.sub λy hy=>.tail _ hy).trans (.put (.head _) _ _))
 show(decide (row.length+vs.length<=IU)&&!(r0==r))=true
 rw[decide_eq_true (kg (show row.length+vs.length<=1000 by omega) (by decide)),beq_eq_false_iff_ne.mpr Kg];rfl
noncomputable def enS:S:=.cons rwS (.cons (.IF J2 (.cons rwS .nil) .nil) .nil)
theorem Ci{x:V}{st:St}{l:List Int}{row:List V}(h:st.cur[t]?=some (.lst (JS l)))(h0:st.cur[r0]?=some (.lst row))(hl:row.length+2*K<=1000){P:Prop}(post:∀vs s1 l',Es d enS (Mz t kd n pairs fl IB tag r0 x) st (Mz t kd n pairs fl IB tag r0 x) s1->Oe pairs vs->(∀v∈vs,JY v)->vs.length<=2*K->s1.cur[t]?=some (.lst (JS l'))->l'.length<=l.length->s1.cur[r0]?=some (.lst (row++vs))->Kx [r0,t] st s1->P):P:=by
 refine sY (x:=x) (pairs:=pairs) (n:=n) (fl:=fl) (IB:=IB) (tag:=tag) hn hr h h0 (by omega) λvs s1 l1 a1 a2 a3 a4 a5 a6 a7 a8=>?_
 have q:Ep d J2 (Mz t kd n pairs fl IB tag r0 x) s1 (.o pairs):=rfl
 cases hp:pairs with
 | false=>
  rw[hp]at a1 q post
  exact post vs s1 l1 (go a1 (go (ac q rfl rfl) rfl)) a2 a3 (by omega) a5 a6 a7 a8
 | true=>
  rw[hp]at a1 q post
  refine sY (x:=x) (pairs:=true) (n:=n) (fl:=fl) (IB:=IB) (tag:=tag) hn hr a5 a7 (by rw[ky];omega) λws s2 l2 b1 b2 b3 b4 b5 b6 b7 b8=>?_
  refine post (vs++ws) s2 l2 (go a1 (go (ae q rfl (go b1 rfl)) rfl)) ⟨vs,ws,rfl,a2,b2⟩ (λv hv=>(mx hv).elim (a3 v) (b3 v)) (by rw[ky];omega) b5 (kg b6 a6) (by rw[<- lu];exact b7) (a8.trans b8)
noncomputable def trB:S:=match ak 4 CC with | .cons (.forR _ _ b) _=>b | _=>.nil
theorem rU(i:Nat){st:St}{l:List Int}{row:List V}(h:st.cur[t]?=some (.lst (JS l)))(h0:st.cur[r0]?=some (.lst row))(hl:row.length+2*K<=1000){P:Prop}(post:∀(ls:List (List V)) s1 l',Es d trB (Mz t kd n pairs fl IB tag r0 (.i i)) st (Mz t kd n pairs fl IB tag r0 (.i i)) s1->(∀x∈ls,Oe pairs x)->(i=0->ls.isEmpty=false)->(∀v∈ls.flatten,JY v)->ls.flatten.length<=2*K->s1.cur[t]?=some (.lst (JS l'))->l'.length<=l.length->s1.cur[r0]?=some (.lst (row++ls.flatten))->Kx [r0,t] st s1->P):P:=by
 have q:∃v u,Ep d (.or (.b2 (.cmp .eq) Mp I8) I0) (Mz t kd n pairs fl IB tag r0 (.i i)) st v/\truth st v=some u/\(i=0->u=true):=by
  have q0:Ep d (.b2 (.cmp .eq) Mp I8) (Mz t kd n pairs fl IB tag r0 (.i i)) st (.o ((i:Int)==0)):=rfl
  cases hi:((i:Int)==0) with
  | true=>rw[hi]at q0;exact⟨_,true,Iz q0 (Iz (a:=true) rfl rfl),rfl,λJ=>rfl⟩
  | false=>rw[hi]at q0;exact⟨.ref t,_,Iz q0 (Iz (a:=false) rfl rfl),dW (av h),λe=>by subst e;exact JG hi.symm⟩
 obtain⟨v,u,q1,q2,q3⟩:=q
 cases u with
 | false=>exact post [] st l (go (ac q1 q2 rfl) rfl) (λx hx=>absurd hx mn) (λe=>JG (q3 e)) (λv hv=>absurd hv mn) (mi _) h (mf _) (by rw[List.flatten_nil,mh];exact h0) .rfl
 | true=>
  refine Ci (x:=.i i) (pairs:=pairs) (n:=n) (fl:=fl) (IB:=IB) (tag:=tag) hn hr h h0 hl λvs s1 l1 a1 a2 a3 a4 a5 a6 a7 a8=>?_
  have e1:[vs].flatten=vs:=by rw[List.flatten_cons];exact mh vs
  exact post [vs] s1 l1 (go (ae q1 q2 a1) rfl) (λx hx=>by obtain rfl:=ku hx;exact a2) (λJ=>rfl) (by rw[e1];exact a3) (by rw[e1];exact a4) a5 a6 (by rw[e1];exact a7) a8
theorem pP(N:Int):∀(q i fuel:Nat)(x:V)(st:St)(l:List Int)(row:List V),N=((i+q:Nat):Int)->q < fuel->st.cur[t]?=some (.lst (JS l))->st.cur[r0]?=some (.lst row)->row.length+q*(2*K)<=1000->∀{P:Prop},(∀(ls:List (List V)) s1 l' x',cQ 8 (dY N) (Ja (IH d) trB) fuel i (Mz t kd n pairs fl IB tag r0 x) st=some (.next,Mz t kd n pairs fl IB tag r0 x',s1)->(∀x∈ls,Oe pairs x)->(i=0->0 < q->ls.isEmpty=false)->(∀v∈ls.flatten,JY v)->ls.flatten.length<=q*(2*K)->s1.cur[t]?=some (.lst (JS l'))->l'.length<=l.length->s1.cur[r0]?=some (.lst (row++ls.flatten))->Kx [r0,t] st s1->P)->P:=by
 intro q
 induction q with
 | zero=>
  intro i fuel x st l row hN hf h h0 hl P post
  obtain⟨f,rfl⟩:=fo hf
  exact post [] st l x (Iz (a:=none) (kh some (if_neg (by rw[hN];omega))) rfl) (λx hx=>absurd hx mn) (λJ h=>absurd h (Nat.lt_irrefl 0)) (λv hv=>absurd hv mn) (mi _) h (mf _) (by rw[List.flatten_nil,mh];exact h0) .rfl
 | succ q ih=>
  intro i fuel x st l row hN hf h h0 hl P post
  obtain⟨f,rfl⟩:∃f,fuel=f+1:=⟨fuel - 1,(Nat.sub_add_cancel (lj (mi _) hf)).symm⟩
  rw[Nat.succ_mul]at hl
  refine rU (pairs:=pairs) (n:=n) (fl:=fl) (IB:=IB) (tag:=tag) hn hr i h h0 (by omega) λls s1 l1 a1 a2 a3 a4 a5 a6 a7 a8 a9=>?_
  refine ih (i+1) f (.i i) s1 l1 (row++ls.flatten) (by rw[hN];omega) (Nat.lt_of_succ_lt_succ hf) a6 a8 (by rw[ky];omega) λls2 s2 l2 x2 b1 b2 b3 b4 b5 b6 b7 b8 b9=>?_
  have ef:(ls++ls2).flatten=ls.flatten++ls2.flatten:=List.flatten_append
  refine post (ls++ls2) s2 l2 x2 (Iz (a:=some (V.b (.int (i:Int)))) (kh some (if_pos (by rw[hN];omega))) (Iz (a:=(Ly.next,Mz t kd n pairs fl IB tag r0 (V.b (.int (i:Int))),s1)) a1 b1)) (λy hy=>(mx hy).elim (a2 y) (b2 y)) (λe J=>?_) (λv hv=>?_) ?_ b6 (kg b7 a7) ?_ (a9.trans b9)
  ·have:=a3 e
   cases ls with
   | nil=>exact JG this.symm
   | cons=>rfl
  ·rw[ef]at hv;exact(mx hv).elim (a4 v) (b4 v)
  ·rw[ef,ky,Nat.succ_mul];omega
  ·rw[ef,<- lu];exact b8
end
theorem iK{d t:Nat}{kd n:Int}{pairs:Bool}{K:Nat}{st:St}{l:List Int}(hn:∀(st:St)(l:List Int),st.cur[t]?=some (.lst (JS l))->jj d 64 [.ref t,.i (kd - 1)] t l st K)(h:st.cur[t]?=some (.lst (JS l)))(hK:6*K<=300):v8 (d+1) kd n pairs t l st (6*K):=by
 intro P post
 let c:=IH d
 let r0:=st.cur.length
 let s1:=(alloc st (.lst [])).2
 let L (a b e g x:V):List V:=[.ref t,.i kd,.i n,.o pairs,a,b,e,g,x]
 have hr:r0≠t:=λe=>Nat.lt_irrefl _ (e▸gY h)
 have e1:IK c (.b2 (.cmp .eq) (.b2 (.bin .mod) J3 LL) I4) (L .uu .uu .uu .uu .uu) st=some (.o (Mu n),st):=rfl
 have m3:∀{l x},l[2]?=some (V.b (.int n))->IK c (.b2 (.cmp .eq) I77 (.n0 (.cst (.int x)))) l st=some (.o ((n.fdiv 2).fmod 3==x),st):=λ{l x} hl=>Iz (Iz (Iz (aL hl rfl) rfl) rfl) rfl
 have e2:IK c FN (L (.o (Mu n)) .uu .uu .uu .uu) st=some (.b (dj n),st):=by
  refine(bK (u:=(n.fdiv 2).fmod 3==1) (m3 rfl) rfl).trans ?_
  unfold dj;cases (n.fdiv 2).fmod 3==1 <;> rfl
 have e3:IK c FQ (L (.o (Mu n)) (.b (dj n)) .uu .uu .uu) st=some (.b (bu n),st):=by
  refine(bK (u:=(n.fdiv 2).fmod 3==2) (m3 rfl) rfl).trans ?_
  unfold bu;cases (n.fdiv 2).fmod 3==2 <;> rfl
 have e4:IK c gi (L (.o (Mu n)) (.b (dj n)) (.b (bu n)) .uu .uu) st=some (.ref r0,s1):=bU rfl (mi _)
 have hN:IK c I95 (Mz t kd n pairs (Mu n) (dj n) (bu n) r0 .uu) s1=some (.i (1+(n.fdiv 6).fmod 3),s1):=rfl
 obtain⟨g0,g1⟩:=dg (n.fdiv 6) (m:=3) (by decide)
 obtain⟨q,hq⟩:=Int.eq_ofNat_of_zero_le (show 0<=1+(n.fdiv 6).fmod 3 by omega)
 have Pq:q<=3/\0 < q:=by omega
 have hqK:q*(2*K)<=6*K:=by
  have:=Nat.mul_le_mul_right (2*K) Pq.1
  omega
 refine pP (d:=d) (t:=t) (r0:=r0) (kd:=kd) (n:=n) (pairs:=pairs) (fl:=Mu n) (IB:=dj n) (tag:=bu n) hn hr (1+(n.fdiv 6).fmod 3) q 0 400 .uu s1 l [] (by rw[hq];exact kh Int.ofNat (Nat.zero_add q).symm) (by omega) (aG h) (aN st _) (by show 0+_<=1000;omega) λls s2 l' x' a1 a2 a3 a4 a5 a6 a7 a8 a9=>?_
 let s3:=(alloc s2 (.lst [Lp (bif pairs then 12 else 10) (dj n) (bu n) (isNul (bu n)) (.bool (Mu n))])).2
 let s4:=(alloc s3 (.lst ([Lp (bif pairs then 12 else 10) (dj n) (bu n) (isNul (bu n)) (.bool (Mu n))]++ls.flatten))).2
 let s5:=(alloc s4 (.lst [LG pairs])).2
 let s6:=(alloc s5 (.lst (([Lp (bif pairs then 12 else 10) (dj n) (bu n) (isNul (bu n)) (.bool (Mu n))]++ls.flatten)++[LG pairs]))).2
 have e5:Ja c (.forR 8 I95 trB) (Mz t kd n pairs (Mu n) (dj n) (bu n) r0 .uu) s1=some (.next,Mz t kd n pairs (Mu n) (dj n) (bu n) r0 x',s2):=by
  refine Iz hN (Iz (a:=1+(n.fdiv 6).fmod 3) rfl (Iz (a:=()) (bQ ?_) (by rw[ew];exact a1)))
  rw[decide_eq_true (show(-1000000:Int)<=1+(n.fdiv 6).fmod 3 by omega),decide_eq_true (show 1+(n.fdiv 6).fmod 3<=(1000000:Int) by omega)];rfl
 let T:=Mz t kd n pairs (Mu n) (dj n) (bu n) r0 x'
 have hfl:ls.flatten.length<=300:=kg a5 (kg hqK hK)
 have lim:∀n,n<=400->n<=IU:=λn h=>kg h (by decide)
 have tn:aU (.b (bu n))=isNul (bu n):=by unfold bu;cases (n.fdiv 2).fmod 3==2 <;> rfl
 have isn:IK c Q6 T s2=some (.o (isNul (bu n)),s2):=by
  refine Iz (a:=(.b (bu n),s2)) rfl ?_
  show ag (!false) _=_
  rw[tn]
  cases isNul (bu n) <;> rfl
 have nE:∀(k:Nat)(hk:k=10∨k=12),IK c (.new k Q7) T s2=some (Lp k (dj n) (bu n) (isNul (bu n)) (.bool (Mu n)),s2):=λk hk=>by
  have a:Kq c Q7 T s2=some (([V.b (dj n),V.b (bu n),V.b (.bool (isNul (bu n)))],[(6,V.b (.bool (Mu n)))]),s2):=aD (s1:=s2) rfl (aD (s1:=s2) rfl (aD isn (BJ (s1:=s2) rfl rfl)))
  rcases hk with rfl | rfl
  ·refine Iz a (Iz (by rw[cR];rfl) rfl)
  ·refine Iz a (Iz (by rw[cR];rfl) rfl)
 have fin:∀(k k':Nat)(hk:(k=10/\k'=11)∨(k=12/\k'=13))(hc:Lp k (dj n) (bu n) (isNul (bu n)) (.bool (Mu n))=Lp (bif pairs then 12 else 10) (dj n) (bu n) (isNul (bu n)) (.bool (Mu n)))(he:JB k'=LG pairs),IK c (.b2 (.bin .add) (.b2 (.bin .add) (.lst (.pos (.new k Q7) .nil)) KN) (.lst (.pos (.new k' .nil) .nil))) T s2=some (.ref s5.cur.length,s6):=λk k' hk hc he=>by
  have x1:IK c (.lst (.pos (.new k Q7) .nil)) T s2=some (.ref s2.cur.length,s3):=bU (aD ((nE k (hk.imp (·.1) (·.1))).trans (by rw[hc])) rfl) (by show 1<=10;decide)
  have x2:IK c (.b2 (.bin .add) (.lst (.pos (.new k Q7) .nil)) KN) T s2=some (.ref s3.cur.length,s4):=Iz x1 (Iz (a:=(.ref r0,s3)) rfl (mD (aN s2 _) (aG a8) (lim _ (by show 1+ls.flatten.length<=400;omega))))
  have x3:IK c (.lst (.pos (.new k' .nil) .nil)) T s4=some (.ref s4.cur.length,s5):=by
   refine bU (aD (s1:=s4) (v:=LG pairs) ?_ rfl) (by show 1<=10;decide)
   rw[<- he]
   rcases hk with⟨_,rfl⟩ | ⟨_,rfl⟩
   ·exact Iz (a:=(([],[]),s4)) rfl (Iz (by rw[cR];rfl) rfl)
   ·exact Iz (a:=(([],[]),s4)) rfl (Iz (by rw[cR];rfl) rfl)
  exact Iz x2 (Iz x3 (mD (aG (aN s3 _)) (aN s4 _) (lim _ (by rw[ky];show 1+ls.flatten.length+1<=400;omega))))
 have call:(IH (d+1)).IG 65 [.ref t,.i kd,.i n,.o pairs] st=some (.ref s5.cur.length,s6):=by
  have q3:IK c J2 T s2=some (.o pairs,s2):=rfl
  have tl:∃l9,Ja c (ak 5 CC) T s2=some (.ret (.ref s5.cur.length),l9,s6):=by
   cases hp:pairs with
   | true=>
    have hf:=fin 12 13 (.inr ⟨rfl,rfl⟩) (by rw[hp];rfl) (by rw[hp];rfl)
    rw[hp]at q3
    exact⟨T,J0 (ae q3 rfl (aR hf _))⟩
   | false=>
    have hf:=fin 10 11 (.inl ⟨rfl,rfl⟩) (by rw[hp];rfl) (by rw[hp];rfl)
    rw[hp]at q3
    exact⟨T,go (ac q3 rfl rfl) (aR hf _)⟩
  obtain⟨l9,tl⟩:=tl
  exact ap (d:=d) (f:=uT) rfl (go (KL e1) (go (KL e2) (go (KL e3) (go (KL e4) (go e5 tl))))) rfl
 have Mr:Kx [r0,t] s2 s6:=(((Kx.alloc _ s2 _).trans (.alloc _ s3 _)).trans (.alloc _ s4 _)).trans (.alloc _ s5 _)
 refine post s5.cur.length ls s6 l' call (aN s5 _) ?_ a2 (a3 rfl Pq.2) a4 (kg a5 hqK) (aG (aG (aG (aG a6)))) a7 (Kx.drop (c:=r0) (.alloc [t] st _) (a9.trans Mr) (mf _))
 have:=a9.ln
 rw[bj,bj,bj]
 have h1:s1.cur.length=st.cur.length+1:=bj st _
 omega
noncomputable def Li(u:Bool)(s w:Int):Op:=⟨.b .nul,.nul,.bool u,s,w,[10]⟩
theorem o8{u:Bool}{s w:Int}(hs:s=2∨s=4∨s=3∨s=9)(hw:s*2 < w):nu u s w=(Iy ((Ln (Li u s w)).take Kl []) [jG]).cur:=by
 have h1:eu (.int s)=s:=by rcases hs with rfl | rfl | rfl | rfl <;> rfl
 have h2:jf s (.int w)=w:=by
  show(bif (w != 0)&&decide (s*2 < w) then w else 80)=w
  have hw0:(w != 0)=true:=bne_iff_ne.mpr (by rcases hs with rfl | rfl | rfl | rfl <;> omega)
  rw[hw0,decide_eq_true hw];rfl
 unfold nu Li
 rw[h1,h2]
theorem Bq{u:Bool}{s w:Int}(hs:s=2∨s=4∨s=3∨s=9)(hw:s*2 < w):Jq (Li u s w):=by
 have h:2<=s/\s<=9/\0<=w:=by rcases hs with rfl | rfl | rfl | rfl <;> omega
 exact⟨rfl,rfl,h.1,h.2.1,h.2.2,u,rfl⟩
noncomputable def Tof(u:Bool)(s w:Int)(row:List V)(t:Tx):Prop:=∃R' fs gs k ts,MS (MB::Ld::(row++Jc)) (nu u s w) R'/\Rd R' t fs gs k ts
structure Ku(row:List V):Prop where
 hd:∃v r,row=v::r/\(J8 v=10∨J8 v=12)
 ev:∀v∈row,JY v
 ln:row.length<=290
theorem Ku.str{row:List V}(h:Ku row){o:Op}{P:Em->Prop}{g:List Ob}(hc:∀j,∃E,LM (row++Jc) [] (((Ln o).JV 6).doc j) E/\P E):∃E g',MS (MB::Ld::(row++Jc)) (Iy ((Ln o).take Kl []) g).cur (Iy (E.take Kl []) g').cur/\P E:=by
 obtain⟨v,r,rfl,hk⟩:=h.hd
 refine A6 (e:=Ln o) (g:=g) (v:=v) (todo:=r++Jc) rfl rfl (by show(0:Int)<=0;decide) (by show 0+5<=IU;decide) hk (λx hx=>?_) ?_ ?_ hc
 ·rcases mx (show x∈(v::r)++Jc from hx) with hx | hx
  ·exact h.ev x hx
  ·rcases kq hx with rfl | hx
   ·exact⟨_,_,rfl,by decide⟩
   ·obtain rfl:=ku hx;exact⟨_,_,rfl,by decide⟩
 ·have:=h.ln
  show((v::r)++Jc).length<=300
  rw[ky]
  show(v::r).length+2<=300
  omega
 ·exact .inr ⟨(v::r)++[deV],by rw[lu];rfl⟩
theorem C9{b:Bs}{Q:Tx}{Lr Kj:List V}{o1:Op}(h0:Ku Lr)(h1:Ku Kj)(H:∀j0 j1,Txt b Q (Lr++Jc) (Kj++Jc) (((Ln b.op).JV 6).doc j0) (((Ln o1).JV 6).doc j1)){P:Prop}
  (post:∀Y Z E0 g0 E1 g1,MS (MB::Ld::(Lr++Jc)) (Iy ((Ln b.op).take Kl []) [jG]).cur (Iy (E0:Em) g0).cur->MS (MB::Ld::(Kj++Jc)) (Iy ((Ln o1).take Kl []) [jG]).cur (Iy (E1:Em) g1).cur->E0.w.rows.flatten=(b.a0++Y)++cv->E1.w.rows.flatten=((b.a1++Z)++Q)++cv->((b.a0++Y)++cv).length<=IU->(((b.a1++Z)++Q)++cv).length<=IU->b.fx++Z=J4 b.k true Y->P):P:=by
 have s0:∀j1,∃(E:Em)(g':List Ob),MS (MB::Ld::(Lr++Jc)) (Iy ((Ln b.op).take Kl []) [jG]).cur (Iy (E.take Kl []) g').cur/\∃E1 Y Z,LM (Kj++Jc) [] (((Ln o1).JV 6).doc j1) E1/\b.fx++Z=J4 b.k true Y/\E.w.rows.flatten=(b.a0++Y)++cv/\E1.w.rows.flatten=((b.a1++Z)++Q)++cv/\((b.a0++Y)++cv).length<=IU/\(((b.a1++Z)++Q)++cv).length<=IU:=λj1=>
  h0.str (g:=[jG]) λj0=>by
   obtain⟨E0,E1,Y,Z,c0,c1,r⟩:=H j0 j1
   exact⟨E0,c0,E1,Y,Z,c1,r⟩
 obtain⟨E0,g0,f0,_⟩:=s0 0
 obtain⟨E1,g1,f1,Y,Z,r1,r2,r3,r4,r5⟩:=h1.str (o:=o1) (g:=[jG]) (P:=λE1=>∃Y Z,b.fx++Z=J4 b.k true Y/\E0.w.rows.flatten=(b.a0++Y)++cv/\E1.w.rows.flatten=((b.a1++Z)++Q)++cv/\((b.a0++Y)++cv).length<=IU/\(((b.a1++Z)++Q)++cv).length<=IU) λj1=>by
  obtain⟨E0',g0',f0',E1,Y,Z,c1,r1,r2,r3,r4,r5⟩:=s0 j1
  have e:(Iy (E0'.take Kl []) g0').cur=(Iy (E0.take Kl []) g0).cur:=f0'.fn f0
  have e2:E0'.w.rows=E0.w.rows:=by
   have h2:(Ob.lst (bF E0'.w.rows))=.lst (bF E0.w.rows):=ke (kh (λl:List Ob=>l[1]?) e)
   have h3:bF E0'.w.rows=bF E0.w.rows:=ke (kh l8 h2)
   have h4:(bF E0'.w.rows).mapM aQ=(bF E0.w.rows).mapM aQ:=kh (λl:List V=>l.mapM aQ) h3
   rw[mL,mL]at h4
   exact ke h4
  exact⟨E1,c1,Y,Z,r1,by rw[<- e2];exact r2,r3,r4,r5⟩
 exact post Y Z _ g0 _ g1 f0 f1 r2 r3 r4 r5 r1
noncomputable def mvB:S:=match ak 2 Fi with | .cons (.for _ _ b) _=>b | _=>.nil
theorem wI(d:Nat){T acc:Tx}{k:Int}{f:Bool}{c:Nat}{x:V}{st:St}(hk:0<=k)(h9:k<=9)(hl:(acc++((bif f&&!aB c then aJ k else [])++[c])).length<=IU):Es d mvB [.s T,.i k,.s acc,.o f,.s [c],x] st [.s T,.i k,.s (acc++((bif f&&!aB c then aJ k else [])++[c])),.o (aB c),.s [c],.o (aB c)] st:=by
 have e1:Es d FV [.s T,.i k,.s acc,.o f,.s [c],x] st [.s T,.i k,.s acc,.o f,.s [c],.o (aB c)] st:=rfl
 let L:List V:=[.s T,.i k,.s acc,.o f,.s [c],.o (aB c)]
 have q:Ep d (.and J2 (.u1 .not I9)) L st (.o (f&&!aB c)):=bB rfl rfl
 have kl:k.toNat<=9:=by omega
 have m:Ep d (.b2 (.bin .mul) L0 I2) L st (.s (aJ k)):=
  Iz (a:=(.s [32],st)) rfl (Iz (a:=(.i k,st)) rfl (Ae (bQ (by
   show(true&&decide (-1000000<=k)&&decide (1*k.toNat<=IU))=true
   rw[decide_eq_true (show(-1000000:Int)<=k by omega),decide_eq_true (show 1*k.toNat<=IU by rw[Nat.one_mul];exact kg kl (by decide))];rfl))))
 have e2:Ep d C3 L st (.s (bif f&&!aB c then aJ k else [])):=by
  refine(bK q rfl).trans ?_
  cases f&&!aB c with
  | true=>exact m
  | false=>rfl
 rw[ky]at hl
 have e3:=Iz (f:=λr=>(IK (IH d) JR L r.2).bind λq=>f2 (.bin .add) r.1 q.1 q.2) e2 (Iz (a:=(V.b (.str [c]),st)) rfl (f7 (s:=bif f&&!aB c then aJ k else []) (t:=[c]) (by rw[ky]at hl;omega)))
 have e4:Es d (.J1 2 .add (.b2 (.bin .add) C3 JR)) L st [.s T,.i k,.s (acc++((bif f&&!aB c then aJ k else [])++[c])),.o f,.s [c],.o (aB c)] st:=
  Iz (a:=.s acc) rfl (Iz e3 (kh (Option.map _) (j7 hl)))
 exact go e1 (go e4 (go rfl rfl))
theorem xK(d:Nat){T:Tx}{k:Int}(hk:0<=k)(h9:k<=9){st:St}:∀(r acc:Tx)(i fuel:Nat)(f:Bool)(x y:V),T.drop i=r->(acc++J4 k f r).length<=IU->r.length < fuel->∃l',cQ 4 (itemAt (.s T)) (Ja (IH d) mvB) fuel i [.s T,.i k,.s acc,.o f,x,y] st=some (.next,l',st)/\l'[2]?=some (.s (acc++J4 k f r)):=by
 intro r
 induction r with
 | nil=>
  intro acc i fuel f x y hd hl hf
  obtain⟨n,rfl⟩:=fo hf
  have hi:T[i]?=none:=by rw[<- List.head?_drop,hd];rfl
  have hit:itemAt (.s T) st i=some none:=by show(some ((T[i]?).map λx=>V.b (.str [x]))).or _=_;rw[hi];rfl
  exact⟨_,Iz hit rfl,kh (λt=>some (V.b (.str t))) (mh acc).symm⟩
 | cons c r ih=>
  intro acc i fuel f x y hd hl hf
  obtain⟨n,rfl⟩:∃f,fuel=f+1:=⟨fuel - 1,(Nat.sub_add_cancel (lj (mi _) hf)).symm⟩
  have hi:T[i]?=some c:=by rw[<- List.head?_drop,hd];rfl
  have hit:itemAt (.s T) st i=some (some (.s [c])):=by show(some ((T[i]?).map λx=>V.b (.str [x]))).or _=_;rw[hi];rfl
  have em:acc++J4 k f (c::r)=(acc++((bif f&&!aB c then aJ k else [])++[c]))++J4 k (aB c) r:=by
   show acc++((bif f&&!aB c then aJ k else [])++c::J4 k (aB c) r)=_
   rw[lu,lu];rfl
  rw[em]at hl ⊢
  have t:=wI d (T:=T) (acc:=acc) (k:=k) (f:=f) (c:=c) (x:=y) (st:=st) hk h9 (kg (by rw[ky (bs:=J4 k (aB c) r)];exact lw _ _) hl)
  obtain⟨l',h1,h2⟩:=ih (acc++((bif f&&!aB c then aJ k else [])++[c])) (i+1) n (aB c) (.s [c]) (.o (aB c)) (by rw[<- List.drop_drop,hd];rfl) hl (Nat.lt_of_succ_lt_succ hf)
  exact⟨l',Iz hit (Iz (a:=(Ly.next,[V.b (.str T),V.b (.int k),V.b (.str (acc++((bif f&&!aB c then aJ k else [])++[c]))),V.b (.bool (aB c)),V.b (.str [c]),V.b (.bool (aB c))],st)) t h1),h2⟩
theorem ni(d:Nat){T:Tx}{k:Int}(hk:0<=k)(h9:k<=9)(hl:(J4 k true T).length<=IU){st:St}:(IH (d+1)).IG 67 [.s T,.i k] st=some (.s (J4 k true T),st):=by
 obtain⟨l',h1,h2⟩:=xK d hk h9 (st:=st) T [] 0 (400+wR (.s T)) true .uu .uu rfl hl (by show T.length < 400+T.length;omega)
 have hf:Es d (.for 4 I0 mvB) [.s T,.i k,.s [],.tt,.uu,.uu] st l' st:=Iz (a:=(.s T,st)) rfl (by rw[ew];exact h1)
 exact ap (d:=d) (f:=yi) rfl (go (l':=[.s T,.i k,.s [],.uu,.uu,.uu]) (II:=st) rfl (go (l':=[.s T,.i k,.s [],.tt,.uu,.uu]) (II:=st) rfl (go hf (aR (aL h2 rfl) _)))) rfl
theorem mJ(d:Nat)(w:Tx)(st:St):(IH (d+1)).IG 68 [.s w] st=some (.ref st.cur.length,(alloc st (.lst [LV .nul .nul true false w .nul])).2):=by
 have e:Ep d FY [.s w] st (LV .nul .nul true false w .nul):=
  Iz (a:=(([V.b .nul,V.b .nul,V.b (.bb true false),V.b (.str w)],[]),st)) rfl (Iz (by rw[cR];rfl) rfl)
 exact ap (d:=d) (f:=yh) rfl (aR (bU (aD e rfl) (by show 1<=10;decide)) _) rfl
theorem qm{t:Nat}{n:Int}{pairs:Bool}{st:St}{l:List Int}(h:st.cur[t]?=some (.lst (JS l))):v8 91 2 n pairs t l st 84:=by
 have n0:∀(st:St)(l:List Int),st.cur[t]?=some (.lst (JS l))->jj 88 64 [.ref t,.i (1 - 1)] t l st 2:=λst l h=>λ{P} post=>iU 85 (kd:=0) h (mf 2) (λh=>absurd h (by decide)) post
 have n1:∀(st:St)(l:List Int),st.cur[t]?=some (.lst (JS l))->jj 90 64 [.ref t,.i (2 - 1)] t l st 14:=λst l h=>λ{P} post=>iU 87 (kd:=1) h (by decide) (λJ s1 l1 n pairs h1=>λ{P} post=>iK (d:=88) (kd:=1) (K:=2) n0 h1 (by decide) post) post
 intro P post
 exact iK (d:=90) (kd:=2) (K:=14) n1 h (by decide) post
noncomputable def ME(s:List Int):V:=.Ka .uu (mK (JS s))
noncomputable def und(n:Nat):List V:=List.replicate n .uu
theorem n5:∀l:List V,gC (mK l)=some l
 | []=>rfl
 | a::l=>by show(gC (mK l)).map _=_;rw[n5 l];rfl
noncomputable def Qs(s:List Int):List Int:=(ar s none (some 10)).map (·.fmod 5040)
theorem qi{α β:Type}(f:α->β)(l:List α)(a b:Option Int):ar (l.map f) a b=(ar l a b).map f:=by
 unfold ar
 rw[lg,List.map_take,List.map_drop]
theorem Hb(c:Cx){st:St}{j:Nat}{xs:List Int}(h:st.cur[j]?=some (.lst (JS xs))):∀(r:List Int)(i fuel:Nat)(acc:List V),xs.drop i=r->r.length < fuel->acc.length+r.length<=IU->eg (itemAt (.ref j)) (λx st=>IK c CU [x] st) fuel i st acc=some (acc++JS (r.map (·.fmod 5040)),st):=by
 intro r
 induction r with
 | nil=>
  intro i fuel acc hd hf hl
  obtain⟨n,rfl⟩:=fo hf
  have hi:(JS xs)[i]?=none:=by
   unfold JS
   rw[List.getElem?_map,<- List.head?_drop,hd];rfl
  refine Iz (gv h) ?_
  rw[hi]
  show ag (decide (acc.length<=IU)) _=_
  rw[decide_eq_true (show acc.length<=IU from hl)]
  exact kh (λa=>some (a,st)) (mh acc).symm
 | cons v r ih=>
  intro i fuel acc hd hf hl
  obtain⟨n,rfl⟩:∃f,fuel=f+1:=⟨fuel - 1,(Nat.sub_add_cancel (lj (mi _) hf)).symm⟩
  have hi:(JS xs)[i]?=some (.i v):=by
   unfold JS
   rw[List.getElem?_map,<- List.head?_drop,hd];rfl
  refine Iz (gv h) ?_
  rw[hi]
  refine Iz (a:=(V.b (.int (v.fmod 5040)),st)) rfl (Iz (a:=()) rfl ((ih (i+1) n (acc++[V.b (.int (v.fmod 5040))]) (by rw[<- List.drop_drop,hd];rfl) (Nat.lt_of_succ_lt_succ hf) (by rw[ky];show acc.length+1+r.length<=IU;rw[List.length_cons]at hl;omega)).trans ?_))
  rw[lu];rfl
theorem DW(s:List Int):(ar s none (some 10)).length<=10:=by
 unfold ar
 rw[List.length_take]
 refine kg (Nat.min_le_left _ _) ?_
 show Je s.length 10 - 0<=10
 unfold Je
 rw[if_neg (by decide)]
 exact kg (Nat.sub_le _ _) (Nat.min_le_left _ _)
theorem rZ(s:List Int):∃st,Es 91 (Lo e9) (ME s::und 17) ⟨[],[]⟩ (ME s::.ref 1::und 16) st/\st.cur[1]?=some (.lst (JS (Qs s))):=by
 let s1:St:=⟨[.lst (JS (ar s none (some 10)))],[]⟩
 have e1:Ev 91 (.slice I0 I7 wo) (ME s::und 17) ⟨[],[]⟩ (.ref 0) s1:=by
  refine Iz (a:=(ME s,⟨[],[]⟩)) rfl (Iz (a:=(V.b .nul,⟨[],[]⟩)) rfl (Iz (a:=(V.b (.int 10),⟨[],[]⟩)) rfl (Iz (a:=none) rfl (Iz (a:=some 10) rfl ?_))))
  show Option.or none (Option.or none (((some (mK (JS s))).bind gC).map λl=>alloc (⟨[],[]⟩:St) (.lst (ar l none (some 10)))))=_
  rw[show(some (mK (JS s))).bind gC=some (JS s) from n5 _]
  show some (alloc (⟨[],[]⟩:St) (.lst (ar (JS s) none (some 10))))=_
  unfold JS
  rw[qi];rfl
 have h0:s1.cur[0]?=some (.lst (JS (ar s none (some 10)))):=rfl
 have hl:=DW s
 have e2:=Hb (IH 91) h0 (ar s none (some 10)) 0 400 [] rfl (lj hl (by decide)) (by show 0+_<=IU;rw[Nat.zero_add];exact kg hl (by decide))
 refine⟨(alloc s1 (.lst (JS (Qs s)))).2,?_,rfl⟩
 have e3:Cw (IH 91) (.slice I0 I7 wo) CU (ME s::und 17) ⟨[],[]⟩=some (alloc s1 (.lst (JS (Qs s)))):=by
  refine Iz e1 (Iz (av h0) ?_)
  rw[ew,e2];rfl
 show(Cw _ _ _ _ _).map _=_
 rw[e3];rfl
theorem xg{a Y:Tx}(h:a.length=4):ar (a++Y) none (some 4)=a:=by
 unfold ar
 show((a++Y).drop 0).take (Je (a++Y).length 4 - 0)=a
 have:Je (a++Y).length 4=4:=by unfold Je;rw[if_neg (by decide),ky,h];exact Nat.min_eq_left (by show 4<=4+Y.length;omega)
 rw[this,List.drop_zero]
 show(a++Y).take 4=a
 rw[List.take_append_of_le_length (lx h.symm)]
 exact List.take_of_length_le (lx h)
theorem pD{n:Nat}(h:4<=n):Je n (-4)=n - 4:=by unfold Je;rw[if_pos (by decide)];omega
theorem xf{Y e:Tx}(h:e.length=4):ar (Y++e) (some (-4)) none=e:=by
 unfold ar
 have hl:(Y++e).length=Y.length+4:=by rw[ky,h]
 show((Y++e).drop (Je (Y++e).length (-4))).take ((Y++e).length - Je (Y++e).length (-4))=e
 rw[hl,pD (by omega),Nat.add_sub_cancel,List.drop_left,show Y.length+4 - Y.length=4 by omega]
 exact List.take_of_length_le (by omega)
theorem Bc{a Y e:Tx}(ha:a.length=4)(he:e.length=4):ar ((a++Y)++e) (some 4) (some (-4))=Y:=by
 unfold ar
 have hl:((a++Y)++e).length=Y.length+4+4:=by rw[ky,ky,ha,he];omega
 show(((a++Y)++e).drop (Je _ 4)).take (Je _ (-4) - Je _ 4)=Y
 have h4:Je (Y.length+4+4) 4=4:=by unfold Je;rw[if_neg (by decide)];exact Nat.min_eq_left (by show 4<=_;omega)
 rw[hl,h4,pD (by omega),Nat.add_sub_cancel,Nat.add_sub_cancel,lu,<- ha,List.drop_left]
 exact List.take_left
theorem Bb{c:Nat}{Z:Tx}:ar (c::Z) (some 1) none=Z:=by
 unfold ar
 show((c::Z).drop (Je (Z.length+1) 1)).take ((Z.length+1) - Je (Z.length+1) 1)=Z
 have h1:Je (Z.length+1) 1=1:=by unfold Je;rw[if_neg (by decide)];exact Nat.min_eq_left (by show 1<=_;omega)
 rw[h1]
 exact List.take_of_length_le (mf _)
theorem mv0:∀(f:Bool)(Y:Tx),J4 0 f Y=Y
 | _,[]=>rfl
 | f,c::Y=>by
  show(bif f&&!aB c then aJ 0 else [])++c::J4 0 (aB c) Y=_
  rw[mv0,show(bif f&&!aB c then aJ 0 else([]:Tx))=[] by cases f&&!aB c <;> rfl];rfl
noncomputable def JN(e:E)(l:List V)(NO:St)(vs:List V):Prop:=∀st,Old NO st->∃r s1,Ev 91 e l st (.ref r) s1/\s1.cur[r]?=some (.lst vs)/\Old st s1
theorem Old.rfl{st:St}:Old st st:=⟨mf _,λJ J=>Eq.refl _⟩
theorem Old.trans{a b c:St}(h:Old a b)(k:Old b c):Old a c:=⟨kg h.ln k.ln,λi hi=>(k.at' i (li hi h.ln)).trans (h.at' i hi)⟩
theorem Old.keep{a b:St}(h:Old a b){k:Nat}{o:Ob}(hk:a.cur[k]?=some o):b.cur[k]?=some o:=(h.at' k (gY hk)).trans hk
theorem Old.alloc(st:St)(o:Ob):Old st (alloc st o).2:=⟨by rw[bj];exact mw _,λk h=>cM h⟩
section
variable{a b:E}{l:List V}{NO:St}{vs ws:List V}
theorem JN.add(ha:JN a l NO vs)(hb:JN b l NO ws)(hl:vs.length+ws.length<=1000):JN (.b2 (.bin .add) a b) l NO (vs++ws):=λst h=>by
 obtain⟨r,s1,e1,h1,o1⟩:=ha st h
 obtain⟨q,s2,e2,h2,o2⟩:=hb s1 (h.trans o1)
 exact⟨s2.cur.length,(alloc s2 (.lst (vs++ws))).2,Iz e1 (Iz e2 (mD (o2.keep h1) h2 (kg hl (by decide)))),aN s2 _,(o1.trans o2).trans (.alloc _ _)⟩
theorem JN.loc{k r:Nat}(hl:l[k]?=some (.ref r))(h:NO.cur[r]?=some (.lst vs)):JN (.n0 (.loc k)) l NO vs:=λst o=>⟨r,st,aL hl rfl,o.keep h,.rfl⟩
theorem JN.one{v:V}(h:∀st,Ep 91 a l st v):JN (.lst (.pos a .nil)) l NO [v]:=λst J=>⟨_,_,bU (aD (h st) rfl) (by show 1<=10;decide),aN st _,.alloc _ _⟩
theorem JN.words{w:Tx}:JN (.Jj 68 (.pos (.n0 (.cst (.str w))) .nil)) l NO [LV .nul .nul true false w .nul]:=λst J=>
 ⟨_,_,aX (c:=IH 91) (f:=yh) (vs:=[.s w]) (ws:=[.s w]) rfl (by rw[cK];rfl) rfl rfl (mJ 90 w st),aN st _,.alloc _ _⟩
theorem JN.IF{k:Nat}{u:Bool}(hl:l[k]?=some (.o u))(ha:JN a l NO vs):JN (.IF (.n0 (.loc k)) a gi) l NO (JT u vs):=λst o=>by
 have q:=bK (c:=IH 91) (a:=a) (b:=.lst .nil) (u:=u) (aL (c:=IH 91) (st:=st) hl rfl) rfl
 cases u with
 | true=>
  obtain⟨r,s1,e1,h1,o1⟩:=ha st o
  exact⟨r,s1,q.trans e1,h1,o1⟩
 | false=>exact⟨_,_,q.trans (bU rfl (mi _)),aN st _,.alloc _ _⟩
noncomputable def JQ(e:E)(l:List V)(t:Tx):Prop:=∀st,Ep 91 e l st (.s t)
variable{s t:Tx}
theorem JQ.cst:JQ (.n0 (.cst (.str t))) l t:=λst=>rfl
theorem JQ.loc{k:Nat}(hl:l[k]?=some (.s t)):JQ (.n0 (.loc k)) l t:=λst=>aL hl rfl
theorem JQ.add(ha:JQ a l s)(hb:JQ b l t)(h:s.length+t.length<=IU):JQ (.b2 (.bin .add) a b) l (s++t):=λst=>Iz (ha st) (Iz (hb st) (f7 h))
theorem JQ.IF{k:Nat}{u:Bool}(hl:l[k]?=some (.o u))(ha:JQ a l t):JQ (.IF (.n0 (.loc k)) a M4) l (JP u t):=λst=>by
 refine(bK (c:=IH 91) (u:=u) (aL (c:=IH 91) (st:=st) hl rfl) rfl).trans ?_
 cases u with
 | true=>exact ha st
 | false=>rfl
theorem JQ.one{k c:Nat}{Z:Tx}(hl:l[k]?=some (.s (c::Z))):JQ (.slice (.n0 (.loc k)) I4 I7) l Z:=λst=>by
 have:Ep 91 (.slice (.n0 (.loc k)) I4 I7) l st (.s (ar (c::Z) (some 1) none)):=Iz (aL hl rfl) (Iz (a:=(V.b (.int 1),st)) rfl (Iz (a:=(V.b .nul,st)) rfl rfl))
 rw[Bb]at this
 exact this
end
structure Dr where
 s:List Int
 h:Int
 k:Int
 u:Bool
 w:Int
 fr:Int
 kd:Int
 pr:Bool
 ah:Bool
 be:Bool
 r:Nat
 Kk:Bool
noncomputable def Dr.L(d:Dr)(al bo mo ro du:V):List V:=[ME d.s,.ref 1,.i d.h,.i d.k,.o d.u,.i d.w,.i d.fr,.i d.kd,.o d.pr,.o d.ah,.o d.be,.ref d.r,.o d.Kk,al,bo,mo,ro,du]
noncomputable def TN:Tx:=[45,45,45,10]
theorem Hx{s t:Tx}{st:St}(h:s=t):f2 (.cmp .eq) (.s s) (.s t) st=some (.tt,st):=by
 subst h
 have e:Qk .eq (.s s) (.s s)=some (s==s):=rfl
 show(Qk .eq (.s s) (.s s)).map (λb=>(V.b (.bool b),st))=some (V.b (.bool true),st)
 rw[e,beq_self_eq_true];rfl
theorem xR{d:Dr}{st:St}{Lr Kj:List V}{t0 t1 Y M D:Tx}(N8:0<=d.k)(hk9:d.k<=9)(hr:st.cur[d.r]?=some (.lst Lr))(r0:Ku Lr)(r1:Ku Kj)(T0:Tof d.u d.k d.w Lr t0)(T1:Tof d.u d.k (bif d.Kk then d.w else d.w+d.k) Kj t1)
  (e0:t0=(TN++Y)++cv) (hM:M=bif d.Kk then Y else J4 d.k true Y) (lM:M.length<=IU) (e1:t1=(TN++D)++cv) (l1:t1.length<=IU)
  (h16:∀al bo s',Old st s'->∃rr K1,Es 91 (Lo (ak 16 e9)) (d.L al bo (.s M) .uu .uu) s' (d.L al bo (.s M) (.ref rr) (.s D)) K1/\K1.cur[rr]?=some (.lst Kj)) :
  ∃l' s',Ja (IH 91) (ak 12 e9) (d.L .uu .uu .uu .uu .uu) st=some (.ret .tt,l',s'):=by
 obtain⟨R0,fs0,gs0,k0,ts0,F0,D0⟩:=T0
 obtain⟨R1,fs1,gs1,k1,ts1,F1,D1⟩:=T1
 refine iM hr r0.ev r0.ln F0 D0 λs1 c1 o1=>?_
 have a1:Ev 91 FK (d.L .uu .uu .uu .uu .uu) st (.s t0) s1:=aX (c:=IH 91) (f:=uS) (vs:=[.ref d.r,.i d.k,.i d.w,.o d.u]) (ws:=[.ref d.r,.i d.k,.i d.w,.o d.u]) rfl (by rw[cK];rfl) rfl rfl c1
 let La:=d.L (.s t0) .uu .uu .uu .uu
 have sl:∀{x y:E}{p q:Option Int},(Ep 91 x La s1 (.b (bif p.isSome then .int (p.getD 0) else .nul)))->(Ep 91 y La s1 (.b (bif q.isSome then .int (q.getD 0) else .nul)))->Ep 91 (.slice mH x y) La s1 (.s (ar t0 p q)):=λ{x y p q} hx hy=>by
  refine Iz (a:=(V.b (.str t0),s1)) rfl (Iz hx (Iz hy ?_))
  cases p <;> cases q <;> rfl
 have b1:Ep 91 F7 La s1 .ff:=by
  refine Iz (sl (p:=none) (q:=some 4) rfl rfl) (Iz (a:=(V.b (.str TN),s1)) rfl ?_)
  rw[e0,lu,xg rfl];rfl
 have b2:Ep 91 Gg La s1 .ff:=by
  refine Iz (sl (p:=some (-4)) (q:=none) rfl rfl) (Iz (a:=(V.b (.str cv),s1)) rfl ?_)
  rw[e0,xf rfl];rfl
 have b3:Ep 91 (.slice mH Oh (.n0 (.neg 4))) La s1 (.s Y):=by
  have:=sl (x:=.n0 (.cst (.int 4))) (y:=.n0 (.neg 4)) (p:=some 4) (q:=some (-4)) rfl rfl
  rw[show ar t0 (some 4) (some (-4))=Y by rw[e0];exact Bc rfl rfl]at this
  exact this
 let Lb:=d.L (.s t0) (.s Y) .uu .uu .uu
 have b4:Ep 91 Gi Lb s1 (.s M):=by
  refine(bK (c:=IH 91) (u:=d.Kk) (s1:=s1) (v:=.o d.Kk) rfl rfl).trans ?_
  cases hs:d.Kk with
  | true=>rw[hs]at hM;subst hM;rfl
  | false=>
   rw[hs]at hM;subst hM
   exact aX (c:=IH 91) (f:=yi) (vs:=[.s Y,.i d.k]) (ws:=[.s Y,.i d.k]) rfl (by rw[cK];rfl) rfl rfl (ni 90 N8 hk9 lM)
 obtain⟨rr,s2,c16,hrr⟩:=h16 (.s t0) (.s Y) s1 o1
 refine iM hrr r1.ev r1.ln F1 D1 λs3 c3 o3=>?_
 let Lc:=d.L (.s t0) (.s Y) (.s M) (.ref rr) (.s D)
 have w1:Ep 91 FB Lc s2 (.i (bif d.Kk then d.w else d.w+d.k)):=by
  refine(bK (c:=IH 91) (u:=d.Kk) (s1:=s2) (v:=.o d.Kk) rfl rfl).trans ?_
  cases d.Kk <;> rfl
 have a2:Ev 91 Go Lc s2 (.s t1) s3:=
  aX (c:=IH 91) (f:=uS) (vs:=[.ref rr,.i d.k,.i (bif d.Kk then d.w else d.w+d.k),.o d.u]) (ws:=[.ref rr,.i d.k,.i (bif d.Kk then d.w else d.w+d.k),.o d.u]) (aD (s1:=s2) rfl (aD (s1:=s2) rfl (aD w1 (aD (s1:=s2) rfl rfl)))) (by rw[cK];rfl) rfl rfl c3
 have l2:(TN++D).length+cv.length<=IU:=by rw[e1,ky]at l1;exact l1
 have a3:Ep 91 Gu Lc s3 (.s ((TN++D)++cv)):=
  JQ.add (s:=TN++D) (t:=cv) (JQ.add (s:=TN) (t:=D) JQ.cst (JQ.loc rfl) (by rw[ky]at l2;omega)) JQ.cst l2 s3
 have a4:Ev 91 I51 Lc s2 .tt s3:=by
  exact Iz a2 (Iz a3 (Hx e1))
 exact⟨_,_,go (KL a1) (go (ac (cu b1 b2) rfl rfl) (go (KL b3) (go (KL b4) (go c16 (aR a4 _)))))⟩
noncomputable def S16:S:=Lo (ak 16 e9)
theorem eN{d:Dr}{st:St}{Lr Kj:List V}{b:Bs}{Q:Tx}{w1:Int}{D:Tx->Tx}(hs:d.k=2∨d.k=4∨d.k=3∨d.k=9)(hw:d.k*2 < d.w)(hw1:d.k*2 < w1)(hr:st.cur[d.r]?=some (.lst Lr))(r0:Ku Lr)(r1:Ku Kj)(hop:b.op=Li d.u d.k d.w)(ha0:b.a0=TN)(hww:w1=bif d.Kk then d.w else d.w+d.k)(hfx:b.fx.length<=4)
  (H:∀j0 j1,Txt b Q (Lr++Jc) (Kj++Jc) (((Ln b.op).JV 6).doc j0) (((Ln (Li d.u d.k w1)).JV 6).doc j1)) (hD:∀Z,(b.a1++Z)++Q=TN++D Z) (hM:∀Y Z,b.fx++Z=J4 b.k true Y->(bif d.Kk then Y else J4 d.k true Y)=b.fx++Z)
  (h16:∀Z al bo s',(TN++D Z).length<=IU->Old st s'->∃rr K1,Es 91 S16 (d.L al bo (.s (b.fx++Z)) .uu .uu) s' (d.L al bo (.s (b.fx++Z)) (.ref rr) (.s (D Z))) K1/\K1.cur[rr]?=some (.lst Kj)) :
  ∃l' s',Ja (IH 91) (ak 12 e9) (d.L .uu .uu .uu .uu .uu) st=some (.ret .tt,l',s'):=by
 refine C9 r0 r1 H λY Z E0 g0 E1 g1 f0 f1 t0 t1 l0 l1 hz=>?_
 rw[hop,<- o8 hs hw]at f0
 rw[<- o8 hs hw1]at f1
 rw[ha0]at t0 l0
 rw[hD]at t1 l1
 have hk:0<=d.k/\d.k<=9:=by rcases hs with h | h | h | h <;> rw[h] <;> decide
 refine xR (M:=b.fx++Z) (D:=D Z) hk.1 hk.2 hr r0 r1 ⟨_,_,_,_,_,f0,zX t0 l0⟩ ⟨_,_,_,_,_,hww▸f1,zX t1 l1⟩ rfl (hM Y Z hz).symm ?_ rfl l1 λal bo s' o=>h16 Z al bo s' (kg (by rw[ky (bs:=cv)];exact lw _ _) l1) o
 rw[<- hD,ky,ky,ky]at l1
 rw[ky]
 have:cv.length=4:=rfl
 omega
theorem Na{b:Bs}{Kk:Bool}{k:Int}(hs:Kk=false)(hk:b.k=k)(Y Z:Tx)(h:b.fx++Z=J4 b.k true Y):(bif Kk then Y else J4 k true Y)=b.fx++Z:=by rw[hs,<- hk,h];rfl
theorem pj{u:Bool}{l:List V}(h:∀v∈l,JY v):∀v∈JT u l,JY v:=by cases u;exact λv hv=>absurd hv mn;exact h
theorem lL{c:Nat}:JY (wV c):=⟨_,_,rfl,by decide⟩
theorem eX{v:V}(h:JY v):∀x∈[v],JY x:=λx hx=>by obtain rfl:=ku hx;exact h
theorem bM{a c:List V}(h:∀v∈a,JY v)(k:∀v∈c,JY v):∀v∈a++c,JY v:=λv hv=>(mx hv).elim (h v) (k v)
theorem ve{cm:Bool}:JY (Kh cm):=by cases cm <;> exact jO (by decide)
theorem vc{cm:Bool}:JY (LG cm):=by cases cm <;> exact jN (by decide)
theorem lN{cm:Bool}{ls:List (List V)}(h:∀v∈ls.flatten,JY v):∀v∈Ky cm ls,JY v:=λv hv=>by
 rcases kq hv with rfl | hv
 ·exact ve
 ·exact bM h (eX vc) v hv
theorem fD{u:Bool}{l:List V}:(JT u l).length<=l.length:=by cases u;exact mi _;exact mf _
theorem Cu(cm:Bool):J8 (Kh cm)=10∨J8 (Kh cm)=12:=by cases cm;exact .inl rfl;exact .inr rfl
theorem Mb{cm:Bool}{ls:List (List V)}(h:∀v∈ls.flatten,JY v)(hl:ls.flatten.length<=84):Ku (Ky cm ls):=⟨⟨_,_,rfl,Cu cm⟩,lN h,by show(ls.flatten++[LG cm]).length+1<=290;rw[ky];show ls.flatten.length+1+1<=290;omega⟩
theorem gk{cm:Bool}{ls:List (List V)}(hl:ls.flatten.length<=84):(Ky cm ls).length<=86:=by show(ls.flatten++[LG cm]).length+1<=86;rw[ky];show ls.flatten.length+1+1<=86;omega
structure Kd(d:Dr)(st:St)(ls:List (List V)):Prop where
 k:d.k=2∨d.k=4∨d.k=3∨d.k=9
 w:d.k*2 < d.w
 r:st.cur[d.r]?=some (.lst (Ky d.pr ls))
 np:∀l∈ls,Oe d.pr l
 ne:ls.isEmpty=false
 ev:∀v∈ls.flatten,JY v
 ln:ls.flatten.length<=84
theorem Kd.op{d:Dr}{st:St}{ls:List (List V)}(h:Kd d st ls):Jq (Li d.u d.k d.w):=Bq h.k h.w
theorem Ay(cm:Bool)(l:List V)(st:St):Ep 91 (.new (bif cm then 12 else 10) (.pos I7 zJ)) l st (Kh cm):=by
 cases cm <;> exact Iz (a:=(([V.b .nul,V.b .nul,V.b (.bool true)],[(6,V.b (.bool false))]),st)) rfl (Iz (by rw[cR];rfl) rfl)
theorem Aw(cm:Bool)(l:List V)(st:St):Ep 91 (.new (bif cm then 13 else 11) .nil) l st (LG cm):=by
 cases cm <;> exact Iz (a:=(([],[]),st)) rfl (Iz (by rw[cR];rfl) rfl)
theorem k8{d:Dr}{al bo mo ro du:V}{st:St}{j:Int}:Ep 91 (.b2 (.cmp .eq) KN (.n0 (.cst (.int j)))) (d.L al bo mo ro du) st (.o (d.kd==j)):=rfl
theorem Ir{α:Type}(x:α)(a t b e f:List α):x::(a++(t++((b++e)++f)))=(((([x]++a)++t)++b)++e)++f:=by simp
theorem D7{d:Dr}{st:St}{ls:List (List V)}(K:Kd d st ls)(h0:d.kd=0)(Kz:d.Kk=false):∃l' s',Ja (IH 91) (ak 12 e9) (d.L .uu .uu .uu .uu .uu) st=some (.ret .tt,l',s'):=by
 have QJ:=K.ln
 have tl:=gk (cm:=d.pr) QJ
 have oo:=K.op
 let Kj:List V:=((([Kh false]++JT d.ah [wV 112])++Ky d.pr ls)++JT d.be [wV 113])++[LG false]
 have n1:(JT d.ah [wV 112]).length<=1:=fD
 have n2:(JT d.be [wV 113]).length<=1:=fD
 have r1:Ku Kj:=by
  refine⟨⟨Kh false,((JT d.ah [wV 112]++Ky d.pr ls)++JT d.be [wV 113])++[LG false],by simp[Kj],.inl rfl⟩,bM (bM (bM (bM (eX ve) (pj (eX lL))) (lN K.ev)) (pj (eX lL))) (eX vc),?_⟩
  show Kj.length<=290
  rw[ky,ky,ky,ky]
  show 1+_+_+_+1<=290
  omega
 let D:Tx->Tx:=λZ=>((JP d.ah [45,32,112,10]++[45])++Z)++JP d.be [45,32,113,10]
 have H:∀j0 j1,Txt ⟨d.k,TN,tp d.ah [45,32,112,10]++[45],[32],Li d.u d.k d.w⟩ (JP d.be [45,32,113,10]) (Ky d.pr ls++Jc) (Kj++Jc) (((Ln (Li d.u d.k d.w)).JV 6).doc j0) (((Ln (Li d.u d.k (d.w+d.k))).JV 6).doc j1):=λj0 j1=>by
  have h:=B2 (ah:=d.ah) (be:=d.be) (op:=Li d.u d.k d.w) K.np K.ne oo (by omega) (fV oo j0) (fV (o:=(Li d.u d.k d.w).LN d.k) (oo.LN (by rcases K.k with h | h | h | h <;> rw[h] <;> decide)) j1)
  have e:Kh false::(JT d.ah [wV 112]++(Ky d.pr ls++((JT d.be [wV 113]++[JB 11])++Jc)))=Kj++Jc:=Ir _ _ _ _ _ _
  rw[e]at h
  exact h
 refine eN (w1:=d.w+d.k) (D:=D) K.k K.w (by have:=K.w;rcases K.k with h | h | h | h <;> rw[h]at this ⊢ <;> omega) K.r (Mb K.ev K.ln) r1 rfl rfl (by rw[Kz];rfl) (by show 1<=4;decide) H (λZ=>?_) (λY Z=>Na Kz rfl Y Z) λZ al bo s' hl o=>?_
 ·show((((TN++JP d.ah [45,32,112,10])++[45])++Z)++JP d.be [45,32,113,10])=TN++(((JP d.ah [45,32,112,10]++[45])++Z)++JP d.be [45,32,113,10])
  simp only[lu]
 ·have q:Ep 91 (.b2 (.cmp .eq) KN I8) (d.L al bo (.s ([32]++Z)) .uu .uu) s' .tt:=by show IK _ _ _ _=_;rw[k8,h0];rfl
  let l1:=d.L al bo (.s ([32]++Z)) .uu .uu
  have LX:JN I40 l1 s' Kj:=
   JN.add (JN.add (JN.add (JN.add (JN.one (Ay false l1)) (JN.IF rfl JN.words) (by show 1+_<=1000;omega)) (JN.loc (r:=d.r) rfl (o.keep K.r)) (by rw[ky];show 1+_+_<=1000;omega)) (JN.IF rfl JN.words) (by rw[ky,ky];show 1+_+_+_<=1000;omega)) (JN.one (Aw false l1)) (by rw[ky,ky,ky];show 1+_+_+_+1<=1000;omega)
  obtain⟨rr,K1,x1,x2,_⟩:=LX s' .rfl
  let l2:=d.L al bo (.s ([32]++Z)) (.ref rr) .uu
  have KU:(D Z).length<=IU:=kg (kg (mu _ _) (lx (ky (as:=TN) (bs:=D Z)).symm)) hl
  have hD3:(JP d.ah [45,32,112,10]).length+1+Z.length+(JP d.be [45,32,113,10]).length<=IU:=by
   have:(D Z).length=(JP d.ah [45,32,112,10]).length+1+Z.length+(JP d.be [45,32,113,10]).length:=by
    show(((JP d.ah [45,32,112,10]++[45])++Z)++JP d.be [45,32,113,10]).length=_
    rw[ky,ky,ky];rfl
   rw[<- this];exact KU
  have TX:JQ I66 l2 (D Z):=
   JQ.add (JQ.add (JQ.add (JQ.IF rfl JQ.cst) JQ.cst (by show _+1<=IU;omega)) (JQ.one (c:=32) (Z:=Z) rfl) (by rw[ky];show _+1+_<=IU;omega)) (JQ.IF rfl JQ.cst) (by rw[ky,ky];show _+1+_+_<=IU;omega)
  exact⟨rr,K1,ae q rfl (go (KL x1) (go (KL (TX K1)) rfl)),x2⟩
noncomputable def elS:S->S | .IF _ _ b=>b | _=>.nil
noncomputable def SB:S:=elS S16
noncomputable def iA(d:Dr)(R1:List V):List V:=([Kh true]++((JT d.ah ([wV 112]++[wV 112])++R1)++JT d.be ([wV 113]++[wV 113])))++[LG true]
noncomputable def fE(d:Dr)(D1:Tx):Tx:=(JP d.ah [112,58,32,112,10]++D1)++JP d.be [113,58,32,113,10]
theorem map_tail{d:Dr}{al bo mo:V}{st:St}{r1:Nat}{R1:List V}{D1:Tx}(h:st.cur[r1]?=some (.lst R1))(hl:R1.length<=200)(hd:(fE d D1).length<=IU):∃rr K1,Es 91 (ak 1 SB) (d.L al bo mo (.ref r1) (.s D1)) st (d.L al bo mo (.ref rr) (.s (fE d D1))) K1/\K1.cur[rr]?=some (.lst (iA d R1)):=by
 let l1:=d.L al bo mo (.ref r1) (.s D1)
 have n1:(JT d.ah ([wV 112]++[wV 112])).length<=2:=fD
 have n2:(JT d.be ([wV 113]++[wV 113])).length<=2:=fD
 have w2:∀{c:Nat}{l:List V}{st:St},JN (.b2 (.bin .add) (.Jj 68 (.pos (.n0 (.cst (.str [c]))) .nil)) (.Jj 68 (.pos (.n0 (.cst (.str [c]))) .nil))) l st ([wV c]++[wV c]):=JN.add JN.words JN.words (by show 1+1<=1000;decide)
 have X1:JN I41 l1 st ((JT d.ah ([wV 112]++[wV 112])++R1)++JT d.be ([wV 113]++[wV 113])):=
  JN.add (JN.add (JN.IF rfl w2) (JN.loc (r:=r1) rfl h) (by omega)) (JN.IF rfl w2) (by rw[ky];omega)
 obtain⟨r2,s1,x1,x2,_⟩:=X1 st .rfl
 let l2:=d.L al bo mo (.ref r2) (.s D1)
 have X2:JN I91 l2 s1 (iA d R1):=
  JN.add (JN.add (JN.one (Ay true l2)) (JN.loc (r:=r2) rfl x2) (by rw[ky,ky];show 1+_<=1000;omega)) (JN.one (Aw true l2)) (by rw[ky,ky,ky];show 1+_+1<=1000;omega)
 obtain⟨r3,s2,y1,y2,_⟩:=X2 s1 .rfl
 let l3:=d.L al bo mo (.ref r3) (.s D1)
 have hd':(JP d.ah [112,58,32,112,10]).length+D1.length+(JP d.be [113,58,32,113,10]).length<=IU:=by
  have:(fE d D1).length=_:=(ky (as:=JP d.ah [112,58,32,112,10]++D1) (bs:=JP d.be [113,58,32,113,10]))
  rw[this,ky]at hd;exact hd
 have TX:JQ I84 l3 (fE d D1):=
  JQ.add (JQ.add (JQ.IF rfl JQ.cst) (JQ.loc rfl) (by omega)) (JQ.IF rfl JQ.cst) (by rw[ky];exact hd')
 exact⟨r3,s2,go (KL x1) (go (KL y1) (go (KL (TX s2)) rfl)),y2⟩
theorem jE{d:Dr}{R1:List V}(hl:R1.length<=200)(h:∀v∈R1,JY v):Ku (iA d R1):=by
 have n1:(JT d.ah ([wV 112]++[wV 112])).length<=2:=fD
 have n2:(JT d.be ([wV 113]++[wV 113])).length<=2:=fD
 refine⟨⟨Kh true,((JT d.ah ([wV 112]++[wV 112])++R1)++JT d.be ([wV 113]++[wV 113]))++[LG true],by simp[iA],.inr rfl⟩,bM (bM (eX ve) (bM (bM (pj (bM (eX lL) (eX lL))) h) (pj (bM (eX lL) (eX lL))))) (eX vc),?_⟩
 show(([Kh true]++((JT d.ah ([wV 112]++[wV 112])++R1)++JT d.be ([wV 113]++[wV 113])))++[LG true]).length<=290
 rw[ky,ky,ky,ky]
 show 1+_+1<=290
 omega
theorem rP{d:Dr}{st:St}{ls:List (List V)}(K:Kd d st ls):d.k*2 < d.w+d.k/\0<=d.k:=by
 have:=K.w
 rcases K.k with h | h | h | h <;> rw[h]at this ⊢ <;> omega
theorem D6{d:Dr}{st:St}{ls:List (List V)}(K:Kd d st ls)(h1:d.kd=1)(Kz:d.Kk=!d.pr):∃l' s',Ja (IH 91) (ak 12 e9) (d.L .uu .uu .uu .uu .uu) st=some (.ret .tt,l',s'):=by
 have QJ:=K.ln
 have tl:=gk (cm:=d.pr) QJ
 have oo:=K.op
 obtain⟨wl,k0⟩:=rP K
 let R1:List V:=[wV 107]++Ky d.pr ls
 have lR:R1.length<=200:=by show([wV 107]++Ky d.pr ls).length<=200;rw[ky];show 1+_<=200;omega
 let kk:Int:=bif d.pr then d.k else 0
 have kk0:0<=kk:=by show 0<=(bif d.pr then d.k else 0);cases d.pr;exact Int.le_refl 0;exact k0
 have hwk:d.w+kk=bif d.Kk then d.w else d.w+d.k:=by
  rw[Kz];show d.w+(bif d.pr then d.k else 0)=_
  cases d.pr
  ·exact Int.add_zero _
  ·rfl
 have H:∀j0 j1,Txt ⟨kk,TN,(tp d.ah [112,58,32,112,10]++[107,58])++[10],[],Li d.u d.k d.w⟩ (JP d.be [113,58,32,113,10]) (Ky d.pr ls++Jc) (iA d R1++Jc) (((Ln (Li d.u d.k d.w)).JV 6).doc j0) (((Ln (Li d.u d.k (d.w+kk))).JV 6).doc j1):=λj0 j1=>by
  have h:=B1 (ah:=d.ah) (be:=d.be) (op:=Li d.u d.k d.w) K.np K.ne oo (by omega) (fV oo j0) (fV (o:=(Li d.u d.k d.w).LN kk) (oo.LN kk0) j1)
  have e:Kh true::((JT d.ah [wV 112,wV 112]++[wV 107])++(Ky d.pr ls++((JT d.be [wV 113,wV 113]++[JB 13])++Jc)))=iA d R1++Jc:=by
   show _=(([Kh true]++((JT d.ah [wV 112,wV 112]++([wV 107]++Ky d.pr ls))++JT d.be [wV 113,wV 113]))++[JB 13])++Jc
   simp
  rw[e]at h
  exact h
 refine eN (w1:=d.w+kk) (D:=λZ=>fE d ([107,58,10]++Z)) K.k K.w (by have:=K.w;omega) K.r (Mb K.ev K.ln) (jE lR (bM (eX lL) (lN K.ev))) rfl rfl hwk (mi _) H (λZ=>?_) (λY Z hz=>?_) λZ al bo s' hl o=>?_
 ·show((((TN++JP d.ah [112,58,32,112,10])++[107,58])++[10])++Z)++JP d.be [113,58,32,113,10]=TN++((JP d.ah [112,58,32,112,10]++([107,58,10]++Z))++JP d.be [113,58,32,113,10])
  simp only[lu];rfl
 ·have hz:[]++Z=J4 kk true Y:=hz
  show(bif d.Kk then Y else J4 d.k true Y)=[]++Z
  rw[hz,Kz]
  show _=J4 (bif d.pr then d.k else 0) true Y
  cases d.pr
  ·exact(mv0 true Y).symm
  ·rfl
 ·have q0:Ep 91 (.b2 (.cmp .eq) KN I8) (d.L al bo (.s ([]++Z)) .uu .uu) s' .ff:=by show IK _ _ _ _=_;rw[k8,h1];rfl
  have q1:Ep 91 zA (d.L al bo (.s ([]++Z)) .uu .uu) s' .tt:=by show IK _ _ _ _=_;rw[k8,h1];rfl
  let l1:=d.L al bo (.s ([]++Z)) .uu .uu
  have X1:JN F6 l1 s' R1:=JN.add JN.words (JN.loc (r:=d.r) rfl (o.keep K.r)) (by show 1+_<=1000;omega)
  obtain⟨r1,s1,x1,x2,o1⟩:=X1 s' .rfl
  let l2:=d.L al bo (.s ([]++Z)) (.ref r1) .uu
  have KU:(fE d ([107,58,10]++Z)).length<=IU:=kg (kg (mu _ _) (lx (ky (as:=TN)).symm)) hl
  have hz3:3+Z.length<=IU:=by
   have:(fE d ([107,58,10]++Z)).length=_:=(ky (as:=JP d.ah [112,58,32,112,10]++([107,58,10]++Z)) (bs:=JP d.be [113,58,32,113,10]))
   rw[this,ky,ky]at KU
   have e3:([107,58,10]:Tx).length=3:=rfl
   omega
  have TX:JQ FU l2 ([107,58,10]++Z):=JQ.add JQ.cst (JQ.loc rfl) hz3
  obtain⟨rr,K1,y1,y2⟩:=map_tail (d:=d) (al:=al) (bo:=bo) (mo:=.s ([]++Z)) x2 lR KU
  have inner:Es 91 (Lo SB) l1 s' (d.L al bo (.s ([]++Z)) (.ref r1) (.s ([107,58,10]++Z))) s1:=ae q1 rfl (go (KL x1) (go (KL (TX s1)) rfl))
  exact⟨rr,K1,ac q0 rfl (go inner y1),y2⟩
theorem D5{d:Dr}{st:St}{ls:List (List V)}(K:Kd d st ls)(h2:d.kd=2)(Kz:d.Kk=false):∃l' s',Ja (IH 91) (ak 12 e9) (d.L .uu .uu .uu .uu .uu) st=some (.ret .tt,l',s'):=by
 have QJ:=K.ln
 have tl:=gk (cm:=d.pr) QJ
 have oo:=K.op
 obtain⟨wl,k0⟩:=rP K
 let R1:List V:=Ky d.pr ls++[wV 118]
 have lR:R1.length<=200:=by show(Ky d.pr ls++[wV 118]).length<=200;rw[ky];show _+1<=200;omega
 have H:∀j0 j1,Txt ⟨d.k,TN,tp d.ah [112,58,32,112,10]++[63],[32],Li d.u d.k d.w⟩ ([58,32,118,10]++JP d.be [113,58,32,113,10]) (Ky d.pr ls++Jc) (iA d R1++Jc) (((Ln (Li d.u d.k d.w)).JV 6).doc j0) (((Ln (Li d.u d.k (d.w+d.k))).JV 6).doc j1):=λj0 j1=>by
  have h:=BZ (ah:=d.ah) (be:=d.be) (op:=Li d.u d.k d.w) K.np K.ne oo (by omega) (fV oo j0) (fV (o:=(Li d.u d.k d.w).LN d.k) (oo.LN k0) j1)
  have e:Kh true::(JT d.ah [wV 112,wV 112]++(Ky d.pr ls++((wV 118::(JT d.be [wV 113,wV 113]++[JB 13]))++Jc)))=iA d R1++Jc:=by
   show _=(([Kh true]++((JT d.ah [wV 112,wV 112]++(Ky d.pr ls++[wV 118]))++JT d.be [wV 113,wV 113]))++[JB 13])++Jc
   simp
  rw[e]at h
  exact h
 refine eN (w1:=d.w+d.k) (D:=λZ=>fE d (([63]++Z)++[58,32,118,10])) K.k K.w wl K.r (Mb K.ev K.ln) (jE lR (bM (lN K.ev) (eX lL))) rfl rfl (by rw[Kz];rfl) (by show 1<=4;decide) H (λZ=>?_) (λY Z=>Na Kz rfl Y Z) λZ al bo s' hl o=>?_
 ·show(((TN++JP d.ah [112,58,32,112,10])++[63])++Z)++([58,32,118,10]++JP d.be [113,58,32,113,10])=TN++((JP d.ah [112,58,32,112,10]++(([63]++Z)++[58,32,118,10]))++JP d.be [113,58,32,113,10])
  simp only[lu]
 ·have q:∀j,Ep 91 (.b2 (.cmp .eq) KN (.n0 (.cst (.int j)))) (d.L al bo (.s ([32]++Z)) .uu .uu) s' (.o ((2:Int)==j)):=λj=>by show IK _ _ _ _=_;rw[k8,h2]
  let l1:=d.L al bo (.s ([32]++Z)) .uu .uu
  have X1:JN F5 l1 s' R1:=JN.add (JN.loc (r:=d.r) rfl (o.keep K.r)) JN.words (by show _+1<=1000;omega)
  obtain⟨r1,s1,x1,x2,o1⟩:=X1 s' .rfl
  let l2:=d.L al bo (.s ([32]++Z)) (.ref r1) .uu
  have KU:(fE d (([63]++Z)++[58,32,118,10])).length<=IU:=kg (kg (mu _ _) (lx (ky (as:=TN)).symm)) hl
  have hz3:1+Z.length+4<=IU:=by
   have:(fE d (([63]++Z)++[58,32,118,10])).length=_:=(ky (as:=JP d.ah [112,58,32,112,10]++(([63]++Z)++[58,32,118,10])) (bs:=JP d.be [113,58,32,113,10]))
   rw[this,ky,ky,ky]at KU
   have e3:([63]:Tx).length=1/\([58,32,118,10]:Tx).length=4:=⟨rfl,rfl⟩
   omega
  have TX:JQ Gx l2 (([63]++Z)++[58,32,118,10]):=
   JQ.add (JQ.add JQ.cst (JQ.one (c:=32) (Z:=Z) rfl) (by show 1+Z.length<=IU;omega)) JQ.cst (by rw[ky];exact hz3)
  obtain⟨rr,K1,y1,y2⟩:=map_tail (d:=d) (al:=al) (bo:=bo) (mo:=.s ([32]++Z)) x2 lR KU
  have inner:Es 91 (Lo SB) l1 s' (d.L al bo (.s ([32]++Z)) (.ref r1) (.s (([63]++Z)++[58,32,118,10]))) s1:=ac (q 1) rfl (go (ae (q 2) rfl (go (KL x1) (go (KL (TX s1)) rfl))) rfl)
  exact⟨rr,K1,ac (q 0) rfl (go inner y1),y2⟩
theorem D4{d:Dr}{st:St}{ls:List (List V)}(K:Kd d st ls)(h3:d.kd=3)(Kz:d.Kk=false):∃l' s',Ja (IH 91) (ak 12 e9) (d.L .uu .uu .uu .uu .uu) st=some (.ret .tt,l',s'):=by
 have QJ:=K.ln
 have tl:=gk (cm:=d.pr) QJ
 have oo:=K.op
 obtain⟨wl,k0⟩:=rP K
 let R1:List V:=[LV .nul .nul true false [] .nul]++Ky d.pr ls
 have lR:R1.length<=200:=by show([LV .nul .nul true false [] .nul]++Ky d.pr ls).length<=200;rw[ky];show 1+_<=200;omega
 have H:∀j0 j1,Txt ⟨d.k,TN,(tp d.ah [112,58,32,112,10]++[63,10])++[58],[32],Li d.u d.k d.w⟩ (JP d.be [113,58,32,113,10]) (Ky d.pr ls++Jc) (iA d R1++Jc) (((Ln (Li d.u d.k d.w)).JV 6).doc j0) (((Ln (Li d.u d.k (d.w+d.k))).JV 6).doc j1):=λj0 j1=>by
  have h:=BY (ah:=d.ah) (be:=d.be) (op:=Li d.u d.k d.w) K.np K.ne oo (by omega) (fV oo j0) (fV (o:=(Li d.u d.k d.w).LN d.k) (oo.LN k0) j1)
  have e:Kh true::((JT d.ah [wV 112,wV 112]++[LV .nul .nul true false [] .nul])++(Ky d.pr ls++((JT d.be [wV 113,wV 113]++[JB 13])++Jc)))=iA d R1++Jc:=by
   show _=(([Kh true]++((JT d.ah [wV 112,wV 112]++([LV .nul .nul true false [] .nul]++Ky d.pr ls))++JT d.be [wV 113,wV 113]))++[JB 13])++Jc
   simp
  rw[e]at h
  exact h
 refine eN (w1:=d.w+d.k) (D:=λZ=>fE d ([63,10,58]++Z)) K.k K.w wl K.r (Mb K.ev K.ln) (jE lR (bM (eX ⟨_,_,rfl,by decide⟩) (lN K.ev))) rfl rfl (by rw[Kz];rfl) (by show 1<=4;decide) H (λZ=>?_) (λY Z=>Na Kz rfl Y Z) λZ al bo s' hl o=>?_
 ·show((((TN++JP d.ah [112,58,32,112,10])++[63,10])++[58])++Z)++JP d.be [113,58,32,113,10]=TN++((JP d.ah [112,58,32,112,10]++([63,10,58]++Z))++JP d.be [113,58,32,113,10])
  simp only[lu];rfl
 ·have q:∀j,Ep 91 (.b2 (.cmp .eq) KN (.n0 (.cst (.int j)))) (d.L al bo (.s ([32]++Z)) .uu .uu) s' (.o ((3:Int)==j)):=λj=>by show IK _ _ _ _=_;rw[k8,h3]
  let l1:=d.L al bo (.s ([32]++Z)) .uu .uu
  have X1:JN (.b2 (.bin .add) (.Jj 68 (.pos M4 .nil)) Of) l1 s' R1:=JN.add JN.words (JN.loc (r:=d.r) rfl (o.keep K.r)) (by show 1+_<=1000;omega)
  obtain⟨r1,s1,x1,x2,o1⟩:=X1 s' .rfl
  let l2:=d.L al bo (.s ([32]++Z)) (.ref r1) .uu
  have KU:(fE d ([63,10,58]++Z)).length<=IU:=kg (kg (mu _ _) (lx (ky (as:=TN)).symm)) hl
  have hz3:3+Z.length<=IU:=by
   have:(fE d ([63,10,58]++Z)).length=_:=(ky (as:=JP d.ah [112,58,32,112,10]++([63,10,58]++Z)) (bs:=JP d.be [113,58,32,113,10]))
   rw[this,ky,ky]at KU
   have e3:([63,10,58]:Tx).length=3:=rfl
   omega
  have TX:JQ FE l2 ([63,10,58]++Z):=JQ.add JQ.cst (JQ.one (c:=32) (Z:=Z) rfl) hz3
  obtain⟨rr,K1,y1,y2⟩:=map_tail (d:=d) (al:=al) (bo:=bo) (mo:=.s ([32]++Z)) x2 lR KU
  have inner:Es 91 (Lo SB) l1 s' (d.L al bo (.s ([32]++Z)) (.ref r1) (.s ([63,10,58]++Z))) s1:=ac (q 1) rfl (go (ac (q 2) rfl (go (KL x1) (go (KL (TX s1)) rfl))) rfl)
  exact⟨rr,K1,ac (q 0) rfl (go inner y1),y2⟩
noncomputable def mM(h:Int):Int:=[2,4,3,9].getD (h.fmod 4).toNat 2
theorem Df(h:Int):(mM h=2∨mM h=4∨mM h=3∨mM h=9)/\([V.b (.int 2),V.b (.int 4),V.b (.int 3),V.b (.int 9)])[(h.fmod 4).toNat]?=some (.i (mM h)):=by
 obtain⟨h0,h1⟩:=dg h (m:=4) (by decide)
 unfold mM
 have:(h.fmod 4).toNat=0∨(h.fmod 4).toNat=1∨(h.fmod 4).toNat=2∨(h.fmod 4).toNat=3:=by omega
 rcases this with h | h | h | h <;> rw[h]
 ·exact⟨.inl rfl,rfl⟩
 ·exact⟨.inr (.inl rfl),rfl⟩
 ·exact⟨.inr (.inr (.inl rfl)),rfl⟩
 ·exact⟨.inr (.inr (.inr rfl)),rfl⟩
theorem wJ{pr:Bool}{m:Int}{ls:List (List V)}(hm:m=0∨m=1∨m=2):trV pr (6*m) ls=Ky pr ls:=by
 have:(Mu (6*m)=false/\dj (6*m)=.nul)/\bu (6*m)=.nul:=by
  rcases hm with rfl | rfl | rfl <;> exact⟨⟨rfl,rfl⟩,rfl⟩
 unfold trV Ky
 rw[this.1.1,this.1.2,this.2]
 cases pr <;> rfl
theorem eM{l:List V}{st:St}{tp:List Int}(hl:l[1]?=some (.ref 1))(h:st.cur[1]?=some (.lst (JS tp))){P:Prop}(post:∀s1,Ev 91 rF l st (.i (tp.headD 0)) s1->s1.cur[1]?=some (.lst (JS tp.tail))->P):P:=
 fC 90 h λs1 h1 h2 h3=>post s1 (aX (c:=IH 91) (f:=uU) (vs:=[.ref 1]) (ws:=[.ref 1]) (aD (aL hl rfl) rfl) (by rw[cK];rfl) rfl rfl h1) h2
theorem BH(s:List Int):∃l' s',Ja (IH 91) e9 (ME s::und 17) ⟨[],[]⟩=some (.ret .tt,l',s'):=by
 obtain⟨NO,t0,h0⟩:=rZ s
 let U (l:List V) (n:Nat):List V:=ME s::.ref 1::l++und n
 refine eM (l:=U [] 16) (st:=NO) rfl h0 λNN c1 h1=>?_
 generalize hh:(Qs s).headD 0=h at c1
 let k:=mM h
 obtain⟨kc,kat⟩:=Df h
 let Qw:=(alloc NN (.lst [V.b (.int 2),V.b (.int 4),V.b (.int 3),V.b (.int 9)])).2
 have c2:Ev 91 Gp (U [.i h] 15) NN (.i k) Qw:=
  Iz (bU (vs:=[V.b (.int 2),V.b (.int 4),V.b (.int 3),V.b (.int 9)]) (s1:=NN) rfl (by show 4<=10;decide)) (Iz (a:=(V.b (.int (h.fmod 4)),Qw)) rfl (jQ (aN NN _) (dg h (m:=4) (by decide)).1 kat))
 have h2:Qw.cur[1]?=_:=aG h1
 let u:Bool:=(h.fdiv 4).fmod 2==1
 have c3:Ep 91 FX (U [.i h,.i k] 14) Qw (.o u):=rfl
 refine eM (l:=U [.i h,.i k,.o u] 13) (st:=Qw) rfl h2 λP0 c4' h3=>?_
 generalize hw0:(Qs s).tail.headD 0=w0 at c4'
 let w:Int:=(2*k+1)+w0.fmod 40
 have c4:Ev 91 Gv (U [.i h,.i k,.o u] 13) Qw (.i w) P0:=
  Iz (a:=(V.b (.int (2*k+1)),Qw)) rfl (Iz (a:=(V.b (.int (w0.fmod 40)),P0)) (Iz c4' rfl) rfl)
 refine eM (l:=U [.i h,.i k,.o u,.i w] 12) (st:=P0) rfl h3 λMU c5 h4=>?_
 generalize hfr:(Qs s).tail.tail.headD 0=fr at c5
 let kd:=fr.fmod 4
 let pr:Bool:=(fr.fdiv 4).fmod 2==1
 let ah:Bool:=(fr.fdiv 8).fmod 2==1
 let be:Bool:=(fr.fdiv 16).fmod 2==1
 let V5 (l:List V) (n:Nat):List V:=U ([.i h,.i k,.o u,.i w,.i fr]++l) n
 have c6:Es 91 (.asg [7] (.b2 (.bin .mod) I6 Oh)) (V5 [] 11) MU (V5 [.i kd] 10) MU:=rfl
 have c7:Es 91 Gb (V5 [.i kd] 10) MU (V5 [.i kd,.o pr] 9) MU:=rfl
 have c8:Es 91 Gl (V5 [.i kd,.o pr] 9) MU (V5 [.i kd,.o pr,.o ah] 8) MU:=rfl
 have c9:Es 91 Gm (V5 [.i kd,.o pr,.o ah] 8) MU (V5 [.i kd,.o pr,.o ah,.o be] 7) MU:=rfl
 let L10:=V5 [.i kd,.o pr,.o ah,.o be] 7
 refine eM (l:=L10) (st:=MU) rfl h4 λst5 c10' h5=>?_
 generalize hx:(Qs s).tail.tail.tail.headD 0=x at c10'
 let m:=x.fmod 3
 have hm:m=0∨m=1∨m=2:=by
  obtain⟨g0,g1⟩:=dg x (m:=3) (by decide)
  have:m=x.fmod 3:=rfl
  omega
 refine qm (n:=6*m) (pairs:=pr) (st:=st5) h5 λr ls st6 tp' d1 d2 J d4 d5 d6 d7 d8 J J=>?_
 rw[wJ hm]at d2
 have c10:Ev 91 Gs L10 MU (.ref r) st6:=by
  have e1:Ev 91 (.b2 (.bin .mul) I76 (.b2 (.bin .mod) rF OY)) L10 MU (.i (6*m)) st5:=
   Iz (a:=(V.b (.int 6),MU)) rfl (Iz (a:=(V.b (.int m),st5)) (Iz c10' rfl) ?_)
  ·exact aX (c:=IH 91) (f:=uT) (vs:=[.ref 1,.i 2,.i (6*m),.o pr]) (ws:=[.ref 1,.i 2,.i (6*m),.o pr]) (aD (s1:=MU) rfl (aD (s1:=MU) rfl (aD e1 (aD (s1:=st5) rfl rfl)))) (by rw[cK];rfl) rfl rfl d1
  ·rfl
 let Kk:Bool:=kd==1&&!pr
 have c11:Ep 91 (.and zA (.u1 .not Mp)) (L10.set 11 (.ref r)) st6 (.o Kk):=bB rfl rfl
 let d:Dr:=⟨s,h,k,u,w,fr,kd,pr,ah,be,r,Kk⟩
 have K:Kd d st6 ls:=⟨kc,by
  have g0:=(dg w0 (m:=40) (by decide)).1
  show k*2 < (2*k+1)+w0.fmod 40
  omega,d2,d4,d5,d6,d7⟩
 have fin:∃l' s',Ja (IH 91) (ak 12 e9) (d.L .uu .uu .uu .uu .uu) st6=some (.ret .tt,l',s'):=by
  obtain⟨g0,g1⟩:=dg fr (m:=4) (by decide)
  have:kd=0∨kd=1∨kd=2∨kd=3:=by
   have:kd=fr.fmod 4:=rfl
   omega
  rcases this with h | h | h | h
  ·exact D7 K h (by show(kd==1&&!pr)=false;rw[h];rfl)
  ·exact D6 K h (by show(kd==1&&!pr)=!pr;rw[h];rfl)
  ·exact D5 K h (by show(kd==1&&!pr)=false;rw[h];rfl)
  ·exact D4 K h (by show(kd==1&&!pr)=false;rw[h];rfl)
 obtain⟨l',s',fin⟩:=fin
 exact⟨l',s',go t0 (go (KL c1) (go (KL c2) (go (KL c3) (go (KL c4) (go (KL c5) (go c6 (go c7 (go c8 (go c9 (go (KL c10) (go (KL c11) fin)))))))))))⟩
end
section
open PySem PySem.W PySem.Calls PyProof.Rows
theorem Facts.i{Y:Lay}(F:Facts Y):∀{k:Nat},k < 2->iL Y k=iR Y k
 | 0,_=>F.i0
 | 1,_=>F.i1
 | k+2,h=>(Nat.not_lt_zero k (Nat.lt_of_succ_lt_succ (Nat.lt_of_succ_lt_succ h))).elim
theorem DP{f:Nat->Zs}(h:(JF f 0 128).Nodup)(a b:Nat)(ha:a < 128)(hb:b < 128)(hn:a≠b):(f a==f b)=false:=by
 have z:=List.pairwise_iff_getElem.mp (List.pairwise_map.mp h)
 have hl:(List.range' 0 128).length=128:=List.length_range'
 have key:∀i j:Nat,i < 128->j < 128->i < j->f i≠f j:=λi j hi hj hij=>by
  have:=z i j (hl▸hi) (hl▸hj) hij
  rw[List.getElem_range',List.getElem_range',Nat.zero_add,Nat.zero_add,Nat.one_mul,Nat.one_mul]at this
  exact this
 exact beq_eq_false_iff_ne.mpr λe=>(Nat.lt_or_gt_of_ne hn).elim (λl=>key a b ha hb l e) λl=>key b a hb ha l e.symm
theorem tD:∀{l:List Tx}{k:Nat},(∀t∈l,t.length<=1000)->IE Jw l (pcX k l)
 | [],_,_=>.nil
 | t::l,k,h=>.cons (.mk k (fH (h t (.head _)))) (tD λt ht=>h t (.tail _ ht))
section
variable{K:Frag}{P:Params}{sa:Addr}{so:Obj}
theorem Facts.fn(F:Facts (Yw K P sa so)){k:Nat}(h:k < 69):MX (Yw K P sa so) k=MW (Yw K P sa so) k:=
 if h0:k < 10 then cX F.f0 (mi _) h0 else if h1:k < 20 then cX F.f1 (Nat.le_of_not_lt h0) h1 else if h2:k < 30 then cX F.f2 (Nat.le_of_not_lt h1) h2 else if h3:k < 40 then cX F.f3 (Nat.le_of_not_lt h2) h3
 else if h4:k < 50 then cX F.f4 (Nat.le_of_not_lt h3) h4 else if h5:k < 60 then cX F.f5 (Nat.le_of_not_lt h4) h5 else cX F.f6 (Nat.le_of_not_lt h5) h
theorem uL{k:Nat}{f:Fn}(h:eR[k]?=some f):k < 69/\ee k=f:=⟨(kj h).1,dB h⟩
theorem Facts.lay(F:Facts (Yw K P sa so)){c:Cx}(hc:c.fns=eR)(hs:c.sup=gF):IY (Yw K P sa so) c:=
 ⟨⟨(DP (dEl (aT F.o (·.2.2.1.getD 2 true)))),
 (λk h=>aT (dc F.r h) (·.2.1.getD 0 none)),
 (λk h=>aT (dc F.r h) (·.2.1.getD 1 none)),
 (λk h=>aT (dc F.r h) (·.1.getD 0 true)),
 (λk h=>aT (dc F.r h) (·.1.getD 1 true)),
 (λk n h h1 h2=>cX (f:=λn=>findIn K (.ref ((Yw K P sa so).Ju k)) (xE n)) (g:=λJ=>some none) (a:=64) (n:=62) (aT (dc F.r h) (·.2.2.2)) h1 h2),
 (λk h=>aT (dc F.r h) (·.2.1.getD 2 none)),
 (λk h=>aT (dc F.r h) (·.2.2.1.getD 0 none)),
 (λk d h hd=>by
  have:=dc (aT (dc F.r h) (·.2.2.1.tail)) hd
  unfold sd;rw[hs];exact this),
 (aT F.o (·.1.getD 0 none))⟩,
 ⟨(aT F.o (·.2.2.2)),
 (λk h=>aT (F.i h) (·.2.1.getD 0 true)),
 (λk h=>aT (F.i h) (·.2.1.getD 1 true)),
 (λk h=>aT (F.i h) (·.2.2.1.getD 0 none)),
 (λk h=>aT (F.i h) (·.2.1.getD 2 true)),
 (λk n h hn=>dc (f:=λn=>takerIn K ((Yw K P sa so).Jl k) (xE n)) (g:=λJ=>some none) (n:=128) (aT (F.i h) (·.2.2.2.1)) hn),
 (λk n h h1 h2=>cX (f:=λn=>findIn K (.ref ((Yw K P sa so).Jl k)) (xE n)) (g:=λJ=>some none) (a:=64) (n:=62) (aT (F.i h) (·.2.2.2.2)) h1 h2),
 (λk f h hf=>by
  obtain⟨_,e⟩:=uL (hc▸hf)
  subst e
  exact⟨lm (aT (dc F.m h) (·.1.getD 0 true)),aT (dc F.m h) (·.2.1.getD 0 none)⟩),
 (λk h=>⟨aT (dc F.m h) (·.1.getD 1 true),aT (dc F.m h) (·.2.1.getD 1 none),aT (dc F.m h) (·.2.2),aT (dc F.m h) (·.1.getD 2 true)⟩),
 (λk h=>by
  have:=aT (dc F.m (Nat.lt_trans h (by decide))) (·.2.1.getD 2 none)
  have hb:Nat.blt k 57=true:=Nat.ble_eq_true_of_le h
  revert this
  show(bif Nat.blt k 57 then _ else _)=(bif Nat.blt k 57 then _ else _)->_
  rw[hb];exact id)⟩,
 ⟨(λk h=>aT (dc F.r h) (·.2.1.getD 3 none)),
 (λk h=>Af (aT (F.i h) (·.1))),
 (aT F.o (·.1.getD 1 none)),
 (aT F.o (·.1.getD 2 none)),
 (λn hn=>by
  have:=aT F.o (·.2.1)
  revert this
  rcases kq hn with rfl | hn
  ·exact λe=>aT e (·.getD 0 none)
  rcases kq hn with rfl | hn
  ·exact λe=>aT e (·.getD 1 none)
  rcases kq hn with rfl | hn
  ·exact λe=>aT e (·.getD 2 none)
  rcases kq hn with rfl | hn
  ·exact λe=>aT e (·.getD 3 none)
  rcases kq hn with rfl | hn
  ·exact λe=>aT e (·.getD 4 none)
  rcases kq hn with rfl | hn
  ·exact λe=>aT e (·.getD 5 none)
  exact nomatch hn),
 (λk f hf ho=>by
  obtain⟨h,e⟩:=uL (hc▸hf)
  subst e
  have:=dc F.g h
  revert this
  show(bif Nat.beq (ee k).own 2 then _ else _)=List.replicate (bif Nat.beq (ee k).own 2 then _ else _) _->_
  rw[ho];exact λh=>(List.cons.inj h).1),
 (⟨_,_,kh (·.1) F.d,j3 rfl rfl⟩),
 (⟨_,_,kh (·.2) F.d,⟨j3 rfl rfl,by decide,by decide⟩⟩),
 (aT F.o (·.2.2.1.getD 0 true)),
 (aT F.o (·.2.2.1.getD 1 true))⟩,
 ⟨(aT F.o (·.1.getD 3 none)),
 (aT F.o (·.1.getD 4 none)),
 (aT F.o (·.1.getD 5 none)),
 (aT F.o (·.1.getD 6 none)),
 (rfl),
 (rfl),
 (⟨_,_,_,kh (·.1) F.pc,kh (·.2) F.pc,tD (by decide)⟩)⟩⟩
theorem Facts.whole{prog:Program}{w:World}{hB:Heap}{p:Program}{loose:List Zs}{mg mb:Zs->Option Value}(F:Facts (Yw K w.params sa so))(X:K.In hB)(T:TopRead p loose mg mb hB)(S:hB.get? sa=some so)(n:Nat):Ks ⟨prog,w,Yw K w.params sa so,hB,p,loose,mg,mb⟩ (IH n):=by
 have hf:(IH n).fns=eR:=by cases n <;> rfl
 have hi:(IH n).Jx=Jx:=by cases n <;> rfl
 have hs:(IH n).sup=gF:=by cases n <;> rfl
 refine⟨⟨X,T,S⟩,F.lay hf hs,λk f h=>?_,λk q h=>?_⟩
 ·obtain⟨h1,e⟩:=uL (hf▸h)
  subst e
  exact⟨_,Et (F.fn h1)⟩
 ·rw[hi]at h
  cases (show iAt k=q from dB h)
  have h1:k < 15:=(kj h).1
  exact Ek h1 (dc F.n h1)
end
theorem xY{φ:Led}{am:AM}{Y:Lay}{vs:List Value}{ns:List Int}(h:IntsAre vs ns):Mw Y φ am (mK (JS ns)) vs:=by
 induction h with
 | nil=>rfl
 | cons n t _ ih=>exact .mk (.mk t) ih
theorem uj{vs:List Value}{ns:List Int}(h:IntsAre vs ns):vs.length=ns.length:=by
 induction h with
 | nil=>rfl
 | cons n t _ ih=>exact kh Nat.succ ih
theorem qV{cl:Zs->Option Addr}{mean:ExcName->Option Value}{d:PyData}{Js s':Shared}(keep:∀b o,Js.heap.get? b=some o->s'.heap.get? b=some o)(os:s'.os=Js.os)(g:s'.gens=#[]) :
  GoodW PySem.Challenge.rw_te0050_04.row.claim cl mean [ofPy d] Js (.ok (.ret (.bool true))) s':=
 ⟨.inl ⟨.bool true,.bool true,[],rfl,raisesW_false (r:=PySem.Challenge.rw_te0050_04.row.toRowW) (λJ h=>(mn h).elim),.bool true,postW_of (r:=PySem.Challenge.rw_te0050_04.row.toRowW) (X:=true) rfl (by wtm_val) rfl,λJ=>⟨.nil,λJ h=>(mn h).elim⟩⟩,keep,os,g⟩
theorem BI{prog:Program}{w:World}{K:Frag}{hB:Heap}{p:Program}{loose:List Zs}{mg mb:Zs->Option Value}{sa:Addr}{ws:List Value}{ns:List Int}(F:∀so,Facts (Yw K w.params sa so))(X:K.In hB)(T:TopRead p loose mg mb hB)(L:hB.IsList sa ws.toArray)(I:IntsAre ws ns)(hn:ns.length<=63)
  {m:Zs->Option Value} {s:Shared} {sc:Scope} {body:List Stmt} {fa:Addr} {cd:Value} {cn:Zs} {E:Value->Shared->Prop} {Q:Flow->Shared->Prop} (hb:((gb K 835).scope,(gb K 835).body)=(sc,body)) (Fr:Fr hB hB.objs.size s.heap m) (hm:m (stN "script")=some (.ref sa))
  (post:∀h tk,(∀b o,hB.get? b=some o->h.get? b=some o)->Q (.ret (.bool true)) { s with heap:=h,toks:=tk}):wpAny (model prog w) (callerA.deeper (envOf cn sc hB.objs.size fa cd)) (execs body (envOf cn sc hB.objs.size fa cd)) Q E s:=by
 obtain⟨so,S,hso⟩:=L
 have Z:=λn=>(F so).whole (prog:=prog) X T S n
 obtain⟨l,st,ev⟩:=BH ns
 have c1:=vB Z 91
 have hp:=(F so).p
 have Pd:=kh (·.1) hp
 have hp2:=kh (·.2) hp
 cases hb
 refine aEl Pd λk1 Pd=>aEl Pd λk2 Pd=>aEl Pd λk3 Pd=>aEl Pd λk4 k5=>?_
 exact xQ (Z 91) c1 (sl:=kY) (cn:=cn ++ ".<locals>.") (L:=hB.objs.size) (f:=fa) (cd:=cd) (lf k2) (dEl k3) (λy hy e=>(by have:=mc k5 y hy;rw[e]at this;exact JA this)) (λx hx=>aEl (mc k4 x hx) λa b=>⟨lf a,not_of b⟩) k1 hp2 rfl rfl ev ⟨show 1+claimMargin+1+2*91+2 < recursionLimit by decide,show 4+3+20*91+20 < cLine by decide,rfl⟩ Fr rfl hm (TcR.scr rfl hso (xY I) (by rw[uj I,fF];omega)) post
noncomputable def HB:DefRec:=match defOf vw "law" with
 | some x=>x.1 | none=>⟨"",⟨[],[],none,[],[],none,[]⟩,[],⟨.function,[],false,false,[]⟩,zP⟩
theorem Dt:PySem.Challenge.rw_te0050_04.row.promised:=by w_witness2
set_option maxHeartbeats 8000000 in
theorem mainT:PySem.Challenge.rw_te0050_04.Holds:=by
 w_on
 refine holds_law Dn λsaid=>?_
 refine holds_open (q:=vw) (loose:=loo) (Xt:=XtF) (XP:=XL vw []) (Yf:=λs=>s.heap) (Ya:=λw=>eQ w.params) (YP:=λw h=>(kF w.params).In h) (d:=HB) (kwd:=[]) (N:=20000) DX (λw s e=>e▸Ea w.params) (λw h h' x k=>x.keeps k) (λs e=>xl_of s (ma e).1) XL.keeps (by kernel_rfl) (by kernel_rfl) (by kernel_rfl) (λs e=>recFacts_of (ma e).2) (by kernel_rfl) said (by kernel_rfl) ⟨rfl,rfl,rfl,rfl,rfl,by decide +kernel⟩ Dt ?hc
 intro w s₀ Js mg mb G Y fa o pm cd doc dV kV ho hd hcd hD hmg hg args vals as QH hlay hrd hwl hlo
 have KX:(kF w.params).In Js.heap:=Y
 clear Y
 refine Ground.open G ?_
 intro T B D TE TW
 obtain⟨_,_,M⟩:=bmod_of_top T
 have TA:=at_of_top T
 try (obtain⟨_,_,he,B0⟩:=based_of_top T rfl hmg ho hd;have he':cd=_:=he;subst he';clear he)
 clear hmg
 wrow_args QH hlay hrd hwl hlo
 refine enter_call ?_
 w_top on
 refine codeAny_mono ?_ (λ_ _ g=>GoodW.toG g)
 have K0:=below_caller (Top.heap T)
 w_call any ho hd hcd hD T F
 refine BI (hb:=?hb) (B6 w.params _) KX (topRead_of (by assumption)) (by assumption) (by assumption) ?len (by assumption) rfl ?post
 case len=>omega
 case hb=>kernel_rfl
 case post=>exact λh tk keep=>qV keep rfl (by assumption)
end
end Mine.Internal

theorem PySem.Challenge.cw_te0050_04_holds : PySem.Challenge.rw_te0050_04.Holds := by
  exact Mine.Internal.mainT
